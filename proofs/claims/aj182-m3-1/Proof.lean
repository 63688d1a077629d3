import JvmDerived
import JvmDerived.Pilot.@@N@@Statement
import JvmDerived.Pilot.@@N@@Code
set_option linter.unusedVariables false
set_option linter.unusedSimpArgs false
/- laws to paste: Road.backV, Road.codOf (cut by pick.py; bodies as the Statement names them) -/
namespace Jvm.Pilot.@@N@@
namespace StrChars
open Jvm Sem ClassFile Op Lib Jvm.Stand Jvm.Free.XT Jvm.Free.ALB Jvm.Free.JM Jvm.Free
open Jvm.Lib.Cold (StaticIs)
/-- a char array whose places are chars -/
def Ch (a : Addr) (A : Cell) (U : State) : Prop := Arr .char a A U ∧ Typed .char A
theorem Ch.mv {a : Addr} {A : Cell} {U U' : State} (h : Ch a A U) (hal : U.vm.Alike U'.vm) (hh : U'.heap = U.heap) : Ch a A U' := ⟨h.1.mv hal hh, h.2⟩
theorem Ch.keep {a : Addr} {A : Cell} {U U' : State} (h : Ch a A U) (hal : U.vm.Alike U'.vm) (hk : U'.heap[a]? = some A) : Ch a A U' := ⟨h.1.keep hal hk, h.2⟩
/-- what place i of a char[]'s cell holds -/
def cv (A : Cell) (i : Nat) : Int32 := match A.slots[i]? with | some (.int x) => x | _ => 0
theorem Ch.get {a : Addr} {A : Cell} {U : State} (h : Ch a A U) {i : Nat} (hi : i < A.slots.size) : A.slots[i]? = some (.int (cv A i)) := by
  have e := Array.getElem?_eq_getElem hi
  have f := h.2 i _ e
  unfold cv; rw [e]
  generalize A.slots[i] = v at f
  cases v <;> simp [fits] at f ⊢
/-- the byte that i2b leaves of a char -/
def lo8 (x : Int32) : Int32 := x.toInt8.toInt32
theorem fits_lo8 (y : Int32) : fits .byte (.int (lo8 y)) = true := by
  have h1 := y.toInt8.le_toInt
  have h2 := y.toInt8.toInt_lt
  simp only [lo8, fits, Bool.and_eq_true, decide_eq_true_eq, Int32.le_iff_toInt_le, Int8.toInt_toInt32, show (-128 : Int32).toInt = -128 from by decide, show (127 : Int32).toInt = 127 from by decide]
  omega
/-- A' is A but that each place j of lo .. hi - 1 holds f j -/
def Laid (A A' : Cell) (lo hi : Nat) (f : Nat → Value) : Prop := A'.cls = A.cls ∧ A'.vm = A.vm ∧ A'.slots.size = A.slots.size ∧ ∀ i, A'.slots[i]? = if lo ≤ i ∧ i < hi then some (f i) else A.slots[i]?
theorem Laid.zero (A : Cell) (lo : Nat) (f : Nat → Value) : Laid A A lo (lo + 0) f := ⟨rfl, rfl, rfl, fun i => by rw [if_neg (by omega)]⟩
theorem Laid.step {A Ak : Cell} {lo k : Nat} {f : Nat → Value} {v : Value} (h : Laid A Ak lo k f) (hlo : lo ≤ k) (hk : k < Ak.slots.size) (hv : v = f k) : Laid A (Ak.setSlot k v) lo (k + 1) f := by
  refine ⟨h.1, h.2.1, by simpa [Cell.setSlot] using h.2.2.1, fun i => ?_⟩
  by_cases e : k = i
  · subst e; rw [Cell.slots_setSlot_self v hk, if_pos (by omega), hv]
  · rw [Cell.slots_setSlot_ne v e, h.2.2.2 i]
    by_cases q : lo ≤ i ∧ i < k
    · rw [if_pos q, if_pos (by omega)]
    · rw [if_neg q, if_neg (by omega)]
def U16 : String := "java/lang/StringUTF16"
namespace Cmp5
def yN : MethodName := ⟨"java/lang/StringUTF16", "compress", "([CI[BII)I"⟩
abbrev yB : ByteArray := jdk_52_method_21_code
theorem d0 : decode yB 0 = .ok (.iconst 0, 1) := by decide +kernel
theorem d1 : decode yB 1 = .ok (.istore 5, 2) := by decide +kernel
theorem d3 : decode yB 3 = .ok (.iload 5, 2) := by decide +kernel
theorem d5 : decode yB 5 = .ok (.iload 4, 2) := by decide +kernel
theorem d7 : decode yB 7 = .ok (.if_icmp (.ge) 37, 3) := by decide +kernel
theorem d10 : decode yB 10 = .ok (.aload_n 0, 1) := by decide +kernel
theorem d11 : decode yB 11 = .ok (.iload_n 1, 1) := by decide +kernel
theorem d12 : decode yB 12 = .ok (.caload, 1) := by decide +kernel
theorem d13 : decode yB 13 = .ok (.istore 6, 2) := by decide +kernel
theorem d15 : decode yB 15 = .ok (.iload 6, 2) := by decide +kernel
theorem d17 : decode yB 17 = .ok (.sipush 255, 3) := by decide +kernel
theorem d20 : decode yB 20 = .ok (.if_icmp (.le) 6, 3) := by decide +kernel
theorem d26 : decode yB 26 = .ok (.aload_n 2, 1) := by decide +kernel
theorem d27 : decode yB 27 = .ok (.iload_n 3, 1) := by decide +kernel
theorem d28 : decode yB 28 = .ok (.iload 6, 2) := by decide +kernel
theorem d30 : decode yB 30 = .ok (.i2b, 1) := by decide +kernel
theorem d31 : decode yB 31 = .ok (.bastore, 1) := by decide +kernel
theorem d32 : decode yB 32 = .ok (.iinc 1 1, 3) := by decide +kernel
theorem d35 : decode yB 35 = .ok (.iinc 3 1, 3) := by decide +kernel
theorem d38 : decode yB 38 = .ok (.iinc 5 1, 3) := by decide +kernel
theorem d41 : decode yB 41 = .ok (.goto (-38), 3) := by decide +kernel
theorem d44 : decode yB 44 = .ok (.iload 4, 2) := by decide +kernel
theorem d46 : decode yB 46 = .ok (.ireturn, 1) := by decide +kernel
def site : List Cond := []
def tab : Cond := tabOf yN yB 7 (some .int) site
def P (b : Addr) (A : Cell) (d : Addr) (B : Cell) (o q len : Nat) (args : Array Value) (s : State) : Prop := args = #[.ref b, .int (Int32.ofNat o), .ref d, .int (Int32.ofNat q), .int (Int32.ofNat len)] ∧ Ch b A s ∧ Arr .byte d B s ∧ b ≠ d ∧ o + len ≤ A.slots.size ∧ q + len ≤ B.slots.size ∧ ∀ i, i < len → ¬ 255 < cv A (o + i)
def E (b : Addr) (A : Cell) (d : Addr) (B : Cell) (o q len : Nat) (r : Option Value) (s u : State) : Prop := r = some (.int (Int32.ofNat len)) ∧ ∃ B', Put d B' s u ∧ Laid B B' q (q + len) (fun j => Value.int (lo8 (cv A (o + (j - q)))))
/-- no char of the range above 255: len; the places written hold each char's low byte -/
theorem law (l : Launch) (b : Addr) (A : Cell) (d : Addr) (B : Cell) (o q len : Nat) : Law l yN 5 5 0 0 yB 7 (some .int) site (P b A d B o q len) (E b A d B o q len) (copyLocs d q len) 0 0 := by
  refine Law.of_walk (plainFor_of_name (by decide +kernel)) (by decide +kernel) (by decide +kernel) (by decide) (fun _ _ h => by rw [h.1]; rfl) (fun _ U U' hal hh h => ⟨h.1, h.2.1.mv hal hh, h.2.2.1.mv hal hh, h.2.2.2⟩) (fun r U U' V V' h1 hal h2 h => ⟨h.1, h.2.elim fun B' q => ⟨B', q.1.mv h1 h2, q.2⟩⟩) ?_
  intro p e s m args below meth c s₁ X0 hexec hbytes hml hret hlk hnm hown hh0 W hP
  obtain ⟨rfl, hA, hB, hne, l1, l2, hp⟩ := hP
  have c1 : Steps p.tables e below (s₁.setTop (entryFrame m #[.ref b, .int (Int32.ofNat o), .ref d, .int (Int32.ofNat q), .int (Int32.ofNat len)] 7)) (s₁.setTop (mkF m 0 #[.val (.ref b), .val (.int (Int32.ofNat o)), .val (.ref d), .val (.int (Int32.ofNat q)), .val (.int (Int32.ofNat len)), .unset, .unset] [])) := entry rfl
  have hA0 := hA.1.mv X0.warmed.alike hh0
  have hB0 := hB.mv X0.warmed.alike hh0
  have a31 := hA.1.2.2.2
  have c2 : Steps p.tables e below (s₁.setTop (entryFrame m #[.ref b, .int (Int32.ofNat o), .ref d, .int (Int32.ofNat q), .int (Int32.ofNat len)] 7)) (s₁.setTop (mkF m 3 #[.val (.ref b), .val (.int (Int32.ofNat o)), .val (.ref d), .val (.int (Int32.ofNat q)), .val (.int (Int32.ofNat len)), .val (.int 0), .unset] [])) := c1.trans (by
    refine iconstV X0.here hexec rfl 0 (hb hbytes d0) (by decide) ?_
    refine XS.istore X0.here hexec rfl (hb hbytes d1) rfl rfl ?_
    exact Steps.refl _)
  have loop : ∀ (r i : Nat), i + r = len → ∀ (z : Slot), (z = .unset ∨ ∃ w, z = .val w ∧ w.category = 1) → ∀ (Tl : State) (Bk : Cell), Stand p l e { frames := 0, locals := 0, cells := 0, slots := 0 } s m #[.ref b, .int (Int32.ofNat o), .ref d, .int (Int32.ofNat q), .int (Int32.ofNat len)] below meth c Tl ([] ++ copyLocs d q i) 0 0 → Put d Bk s₁ Tl → Laid B Bk q (q + i) (fun j => Value.int (lo8 (cv A (o + (j - q))))) →
      Steps p.tables e below (s₁.setTop (entryFrame m #[.ref b, .int (Int32.ofNat o), .ref d, .int (Int32.ofNat q), .int (Int32.ofNat len)] 7)) (Tl.setTop (mkF m 3 #[.val (.ref b), .val (.int (Int32.ofNat (o + i))), .val (.ref d), .val (.int (Int32.ofNat (q + i))), .val (.int (Int32.ofNat len)), .val (.int (Int32.ofNat i)), z] [])) → ∃ (T' : State) (B' : Cell) (z' : Slot), Stand p l e { frames := 0, locals := 0, cells := 0, slots := 0 } s m #[.ref b, .int (Int32.ofNat o), .ref d, .int (Int32.ofNat q), .int (Int32.ofNat len)] below meth c T' ([] ++ copyLocs d q len) 0 0 ∧ Put d B' s₁ T' ∧ Laid B B' q (q + len) (fun j => Value.int (lo8 (cv A (o + (j - q))))) ∧
      Steps p.tables e below (s₁.setTop (entryFrame m #[.ref b, .int (Int32.ofNat o), .ref d, .int (Int32.ofNat q), .int (Int32.ofNat len)] 7)) (T'.setTop (mkF m 3 #[.val (.ref b), .val (.int (Int32.ofNat (o + len))), .val (.ref d), .val (.int (Int32.ofNat (q + len))), .val (.int (Int32.ofNat len)), .val (.int (Int32.ofNat len)), z'] [])) := by
    intro r
    induction r with
    | zero =>
      intro i hi z hz Tl Bk Xl pl fl cl
      have hil : i = len := by omega
      rw [hil] at Xl fl cl
      exact ⟨Tl, Bk, z, Xl, pl, fl, cl⟩
    | succ r ih =>
      intro i hi z hz Tl Bk Xl pl fl cl
      have all := X0.warmed.alike.symm.trans Xl.warmed.alike
      have hAl := hA0.keep all (pl.other hne hA0.1)
      have hBk := hB0.like all pl.1 fl.1 fl.2.1 fl.2.2.1
      have hlt : q + i < Bk.slots.size := by rw [fl.2.2.1]; omega
      have c3 : Steps p.tables e below (s₁.setTop (entryFrame m #[.ref b, .int (Int32.ofNat o), .ref d, .int (Int32.ofNat q), .int (Int32.ofNat len)] 7)) (Tl.setTop (mkF m 12 #[.val (.ref b), .val (.int (Int32.ofNat (o + i))), .val (.ref d), .val (.int (Int32.ofNat (q + i))), .val (.int (Int32.ofNat len)), .val (.int (Int32.ofNat i)), z] [.int (Int32.ofNat (o + i)), .ref b])) := cl.trans (by
        refine XS.iload Xl.here hexec rfl (hb hbytes d3) rfl ?_
        refine XS.iload Xl.here hexec rfl (hb hbytes d5) rfl ?_
        refine XS.icmpNo Xl.here hexec rfl (hb hbytes d7) rfl (ii_ge_f (lt32 (by omega) (by omega))) ?_
        refine XS.aloadN Xl.here hexec rfl (hb hbytes d10) rfl rfl ?_
        refine XS.iloadN Xl.here hexec rfl (hb hbytes d11) rfl ?_
        exact Steps.refl _)
      have c4 : Steps p.tables e below (s₁.setTop (entryFrame m #[.ref b, .int (Int32.ofNat o), .ref d, .int (Int32.ofNat q), .int (Int32.ofNat len)] 7)) (Tl.setTop (mkF m 13 #[.val (.ref b), .val (.int (Int32.ofNat (o + i))), .val (.ref d), .val (.int (Int32.ofNat (q + i))), .val (.int (Int32.ofNat len)), .val (.int (Int32.ofNat i)), z] [.int (cv A (o + i))])) := c3.trans (by
        refine Xl.aget hexec hAl rfl (hA.get (i := o + i) (by omega)) rfl rfl (hb hbytes d12) ?_
        exact Steps.refl _)
      have c5 : Steps p.tables e below (s₁.setTop (entryFrame m #[.ref b, .int (Int32.ofNat o), .ref d, .int (Int32.ofNat q), .int (Int32.ofNat len)] 7)) (Tl.setTop (mkF m 15 #[.val (.ref b), .val (.int (Int32.ofNat (o + i))), .val (.ref d), .val (.int (Int32.ofNat (q + i))), .val (.int (Int32.ofNat len)), .val (.int (Int32.ofNat i)), .val (.int (cv A (o + i)))] [])) := c4.trans (by
        refine XS.istoreS Xl.here hexec rfl (hb hbytes d13) rfl rfl hz ?_
        exact Steps.refl _)
      have c6 : Steps p.tables e below (s₁.setTop (entryFrame m #[.ref b, .int (Int32.ofNat o), .ref d, .int (Int32.ofNat q), .int (Int32.ofNat len)] 7)) (Tl.setTop (mkF m 31 #[.val (.ref b), .val (.int (Int32.ofNat (o + i))), .val (.ref d), .val (.int (Int32.ofNat (q + i))), .val (.int (Int32.ofNat len)), .val (.int (Int32.ofNat i)), .val (.int (cv A (o + i)))] [.int (lo8 (cv A (o + i))), .int (Int32.ofNat (q + i)), .ref d])) := c5.trans (by
        refine XS.iload Xl.here hexec rfl (hb hbytes d15) rfl ?_
        refine sipushV Xl.here hexec rfl 255 (hb hbytes d17) (by decide) ?_
        refine XS.icmpYes Xl.here hexec rfl (pc0 := 20) rfl (hb hbytes d20) rfl (ii_le_t (hp i (by omega))) (by decide) rfl ?_
        refine XS.aloadN Xl.here hexec rfl (hb hbytes d26) rfl rfl ?_
        refine XS.iloadN Xl.here hexec rfl (hb hbytes d27) rfl ?_
        refine XS.iload Xl.here hexec rfl (hb hbytes d28) rfl ?_
        refine i2b Xl.here hexec rfl (hb hbytes d30) rfl ?_
        exact Steps.refl _)
      obtain ⟨T7, X7, p7, st7⟩ := Xl.aput hexec hBk rfl hlt rfl (fits_lo8 (cv A (o + i))) (g := (mkF m 31 #[.val (.ref b), .val (.int (Int32.ofNat (o + i))), .val (.ref d), .val (.int (Int32.ofNat (q + i))), .val (.int (Int32.ofNat len)), .val (.int (Int32.ofNat i)), .val (.int (cv A (o + i)))] [.int (lo8 (cv A (o + i))), .int (Int32.ofNat (q + i)), .ref d])) rfl (rest := []) rfl (hb hbytes d31)
      have c8 : Steps p.tables e below (s₁.setTop (entryFrame m #[.ref b, .int (Int32.ofNat o), .ref d, .int (Int32.ofNat q), .int (Int32.ofNat len)] 7)) (T7.setTop (mkF m 32 #[.val (.ref b), .val (.int (Int32.ofNat (o + i))), .val (.ref d), .val (.int (Int32.ofNat (q + i))), .val (.int (Int32.ofNat len)), .val (.int (Int32.ofNat i)), .val (.int (cv A (o + i)))] [])) := c6.trans (st7 _ (Steps.refl _))
      have c9 : Steps p.tables e below (s₁.setTop (entryFrame m #[.ref b, .int (Int32.ofNat o), .ref d, .int (Int32.ofNat q), .int (Int32.ofNat len)] 7)) (T7.setTop (mkF m 3 #[.val (.ref b), .val (.int (Int32.ofNat (o + i) + 1)), .val (.ref d), .val (.int (Int32.ofNat (q + i) + 1)), .val (.int (Int32.ofNat len)), .val (.int (Int32.ofNat i + 1)), .val (.int (cv A (o + i)))] [])) := c8.trans (by
        refine iincV X7.here hexec rfl 1 (hb hbytes d32) (by decide) rfl rfl ?_
        refine iincV X7.here hexec rfl 1 (hb hbytes d35) (by decide) rfl rfl ?_
        refine iincV X7.here hexec rfl 1 (hb hbytes d38) (by decide) rfl rfl ?_
        refine XS.goto X7.here hexec rfl (pc0 := 41) rfl (hb hbytes d41) (by decide) rfl ?_
        exact Steps.refl _)
      have c10 : Steps p.tables e below (s₁.setTop (entryFrame m #[.ref b, .int (Int32.ofNat o), .ref d, .int (Int32.ofNat q), .int (Int32.ofNat len)] 7)) (T7.setTop (mkF m 3 #[.val (.ref b), .val (.int (Int32.ofNat (o + (i + 1)))), .val (.ref d), .val (.int (Int32.ofNat (q + (i + 1)))), .val (.int (Int32.ofNat len)), .val (.int (Int32.ofNat (i + 1))), .val (.int (cv A (o + i)))] [])) := by
        have := c9
        rw [succ32, succ32, succ32] at this
        exact this
      exact ih (i + 1) (by omega) _ (Or.inr ⟨_, rfl, rfl⟩) T7 _ (by rw [copyLocs_step, ← List.append_assoc]; exact X7) (pl.trans p7) (fl.step (by omega) hlt (by simp)) c10
  obtain ⟨T9, B9, z9, X9, p9, f9, g9⟩ := loop len 0 (by omega) .unset (Or.inl rfl) s₁ B (by simpa [copyLocs] using X0) ⟨hB0.1, fun _ _ => rfl, rfl⟩ (Laid.zero _ _ _) c2
  have c11 : Steps p.tables e below (s₁.setTop (entryFrame m #[.ref b, .int (Int32.ofNat o), .ref d, .int (Int32.ofNat q), .int (Int32.ofNat len)] 7)) (T9.setTop (mkF m 46 #[.val (.ref b), .val (.int (Int32.ofNat (o + len))), .val (.ref d), .val (.int (Int32.ofNat (q + len))), .val (.int (Int32.ofNat len)), .val (.int (Int32.ofNat len)), z9] [.int (Int32.ofNat len)])) := g9.trans (by
    refine XS.iload X9.here hexec rfl (hb hbytes d3) rfl ?_
    refine XS.iload X9.here hexec rfl (hb hbytes d5) rfl ?_
    refine XS.icmpYes X9.here hexec rfl (pc0 := 7) rfl (hb hbytes d7) rfl (ii_ge_t (nlt32 (by omega) (Nat.le_refl _))) (by decide) rfl ?_
    refine XS.iload X9.here hexec rfl (hb hbytes d44) rfl ?_
    exact Steps.refl _)
  exact ⟨T9, some (.int (Int32.ofNat len)), _, _, _, X9, by simp, rfl, rfl, (fun h => by cases h), ⟨rfl, B9, p9.from hh0, f9⟩, fun fs hl => c11.trans (X9.ireturnOut hexec hret rfl (Or.inl rfl) (hb hbytes d46) hl)⟩
end Cmp5
namespace Cmp3
def yN : MethodName := ⟨"java/lang/StringUTF16", "compress", "([CII)[B"⟩
abbrev yB : ByteArray := jdk_52_method_16_code
theorem d0 : decode yB 0 = .ok (.iload_n 2, 1) := by decide +kernel
theorem d1 : decode yB 1 = .ok (.newarray .byte, 2) := by decide +kernel
theorem d3 : decode yB 3 = .ok (.astore_n 3, 1) := by decide +kernel
theorem d4 : decode yB 4 = .ok (.aload_n 0, 1) := by decide +kernel
theorem d5 : decode yB 5 = .ok (.iload_n 1, 1) := by decide +kernel
theorem d6 : decode yB 6 = .ok (.aload_n 3, 1) := by decide +kernel
theorem d7 : decode yB 7 = .ok (.iconst 0, 1) := by decide +kernel
theorem d8 : decode yB 8 = .ok (.iload_n 2, 1) := by decide +kernel
theorem d9 : decode yB 9 = .ok (.invokestatic 115, 3) := by decide +kernel
theorem d12 : decode yB 12 = .ok (.istore 4, 2) := by decide +kernel
theorem d14 : decode yB 14 = .ok (.iload 4, 2) := by decide +kernel
theorem d16 : decode yB 16 = .ok (.iload_n 2, 1) := by decide +kernel
theorem d17 : decode yB 17 = .ok (.if_icmp (.eq) 40, 3) := by decide +kernel
theorem d57 : decode yB 57 = .ok (.aload_n 3, 1) := by decide +kernel
theorem d58 : decode yB 58 = .ok (.areturn, 1) := by decide +kernel
def site : List Cond := [.arrayClass .byte, Cmp5.tab] ++ staticW U16 115 Cmp5.yN
def tab : Cond := tabOf yN yB 6 (some (.array .byte)) site
def P (b : Addr) (A : Cell) (o len : Nat) (args : Array Value) (s : State) : Prop := args = #[.ref b, .int (Int32.ofNat o), .int (Int32.ofNat len)] ∧ Ch b A s ∧ o + len ≤ A.slots.size ∧ len ≤ 536870912 ∧ ∀ i, i < len → ¬ 255 < cv A (o + i)
def E (b : Addr) (A : Cell) (o len : Nat) (r : Option Value) (s u : State) : Prop := NewArr .byte "[B" len (fun j => .int (lo8 (cv A (o + j)))) r s u ∧ u.heap.size = s.heap.size + 1
/-- no char of the range above 255: a new byte[] of their low bytes -/
theorem law (l : Launch) (b : Addr) (A : Cell) (o len : Nat) : Law l yN 3 3 1 18 yB 6 (some (.array .byte)) site (P b A o len) (E b A o len) [] 1 len := by
  refine Law.of_walk (plainFor_of_name (by decide +kernel)) (by decide +kernel) (by decide +kernel) (by decide) (fun _ _ h => by rw [h.1]; rfl) (fun _ U U' hal hh h => ⟨h.1, h.2.1.mv hal hh, h.2.2⟩) (fun r U U' V V' h1 hal h2 h => ⟨NewArr.mv r U U' V V' h1 hal h2 h.1, by rw [h1, h2]; exact h.2⟩) ?_
  intro p e s m args below meth c s₁ X0 hexec hbytes hml hret hlk hnm hown hh0 W hP
  obtain ⟨rfl, hA, l1, l2, hp⟩ := hP
  have a31 := hA.1.2.2.2
  have c1 : Steps p.tables e below (s₁.setTop (entryFrame m #[.ref b, .int (Int32.ofNat o), .int (Int32.ofNat len)] 6)) (s₁.setTop (mkF m 0 #[.val (.ref b), .val (.int (Int32.ofNat o)), .val (.int (Int32.ofNat len)), .unset, .unset, .unset] [])) := entry rfl
  have c2 : Steps p.tables e below (s₁.setTop (entryFrame m #[.ref b, .int (Int32.ofNat o), .int (Int32.ofNat len)] 6)) (s₁.setTop (mkF m 1 #[.val (.ref b), .val (.int (Int32.ofNat o)), .val (.int (Int32.ofNat len)), .unset, .unset, .unset] [.int (Int32.ofNat len)])) := c1.trans (by
    refine XS.iloadN X0.here hexec rfl (hb hbytes d0) rfl ?_
    exact Steps.refl _)
  obtain ⟨T3, B3, X3, ba3, bs3, bv3, bh3, bf3, st3⟩ := X0.anew hexec (atype := .byte) (wk W (.arrayClass .byte)) rfl (by show len * 1 ≤ _; omega) (by omega) (g := (mkF m 1 #[.val (.ref b), .val (.int (Int32.ofNat o)), .val (.int (Int32.ofNat len)), .unset, .unset, .unset] [.int (Int32.ofNat len)])) rfl (hb hbytes d1) (rest := []) rfl (Nat.le_refl _) (by show 0 + len ≤ len; omega)
  rw [hh0] at ba3 st3
  have kp3 : XT.Kept s T3 := (XT.Kept.of_eq hh0).push bh3
  have hA3 := hA.keep X3.warmed.alike (kp3 _ _ hA.1.1)
  have hne : b ≠ s.heap.size := hA.1.ne
  have c4 : Steps p.tables e below (s₁.setTop (entryFrame m #[.ref b, .int (Int32.ofNat o), .int (Int32.ofNat len)] 6)) (T3.setTop (mkF m 3 #[.val (.ref b), .val (.int (Int32.ofNat o)), .val (.int (Int32.ofNat len)), .unset, .unset, .unset] [.ref s.heap.size])) := c2.trans (st3 _ (Steps.refl _))
  have c5 : Steps p.tables e below (s₁.setTop (entryFrame m #[.ref b, .int (Int32.ofNat o), .int (Int32.ofNat len)] 6)) (T3.setTop (mkF m 9 #[.val (.ref b), .val (.int (Int32.ofNat o)), .val (.int (Int32.ofNat len)), .val (.ref s.heap.size), .unset, .unset] [.int (Int32.ofNat len), .int 0, .ref s.heap.size, .int (Int32.ofNat o), .ref b])) := c4.trans (by
    refine XS.astoreN X3.here hexec rfl (hb hbytes d3) rfl rfl rfl ?_
    refine XS.aloadN X3.here hexec rfl (hb hbytes d4) rfl rfl ?_
    refine XS.iloadN X3.here hexec rfl (hb hbytes d5) rfl ?_
    refine XS.aloadN X3.here hexec rfl (hb hbytes d6) rfl rfl ?_
    refine iconstV X3.here hexec rfl 0 (hb hbytes d7) (by decide) ?_
    refine XS.iloadN X3.here hexec rfl (hb hbytes d8) rfl ?_
    exact Steps.refl _)
  obtain ⟨v6, T6, X6, E6, g6⟩ := X3.callS hexec (Cmp5.law l b A s.heap.size B3 o 0 len) hown (wks W (staticW U16 115 Cmp5.yN)) (wk W Cmp5.tab) (W := 0) (Nat.le_of_ble_eq_true rfl) (Nat.le_of_ble_eq_true rfl) (Nat.le_refl _) (by show 0 + len + 0 ≤ len; omega) (g := (mkF m 9 #[.val (.ref b), .val (.int (Int32.ofNat o)), .val (.int (Int32.ofNat len)), .val (.ref s.heap.size), .unset, .unset] [.int (Int32.ofNat len), .int (Int32.ofNat 0), .ref s.heap.size, .int (Int32.ofNat o), .ref b])) rfl (by rw [hml]; rfl) c5 (argsL := [.ref b, .int (Int32.ofNat o), .ref s.heap.size, .int (Int32.ofNat 0), .int (Int32.ofNat len)]) (rest := []) rfl rfl (by show 2 * 0 + 0 ≤ _; decide) (hb hbytes d9) (⟨rfl, hA3, ba3, hne, l1, by rw [bs3]; simp, hp⟩)
  obtain ⟨rfl, B6, p6, f6⟩ := E6
  have c7 : Steps p.tables e below (s₁.setTop (entryFrame m #[.ref b, .int (Int32.ofNat o), .int (Int32.ofNat len)] 6)) (T6.setTop (mkF m 12 #[.val (.ref b), .val (.int (Int32.ofNat o)), .val (.int (Int32.ofNat len)), .val (.ref s.heap.size), .unset, .unset] [.int (Int32.ofNat len)])) := g6
  have c8 : Steps p.tables e below (s₁.setTop (entryFrame m #[.ref b, .int (Int32.ofNat o), .int (Int32.ofNat len)] 6)) (T6.setTop (mkF m 58 #[.val (.ref b), .val (.int (Int32.ofNat o)), .val (.int (Int32.ofNat len)), .val (.ref s.heap.size), .val (.int (Int32.ofNat len)), .unset] [.ref s.heap.size])) := c7.trans (by
    refine XS.istore X6.here hexec rfl (hb hbytes d12) rfl rfl ?_
    refine XS.iload X6.here hexec rfl (hb hbytes d14) rfl ?_
    refine XS.iloadN X6.here hexec rfl (hb hbytes d16) rfl ?_
    refine XS.icmpYes X6.here hexec rfl (pc0 := 17) rfl (hb hbytes d17) rfl (ii_eq_t rfl) (by decide) rfl ?_
    refine XS.aloadN X6.here hexec rfl (hb hbytes d57) rfl rfl ?_
    exact Steps.refl _)
  have X8 := X6.wide (L' := []) (cells' := 1) (slots' := len) (fun x hx hlt => by
    simp only [List.nil_append, copyLocs, List.mem_map, List.mem_range] at hx
    obtain ⟨i, -, rfl⟩ := hx
    exact absurd hlt (Nat.lt_irrefl _)) (Nat.le_refl _) (by omega)
  exact ⟨T6, some (.ref s.heap.size), _, _, _, X8, rfl, rfl, rfl, (fun h => by cases h), ⟨⟨rfl, B6, ba3.like (X3.warmed.alike.symm.trans X6.warmed.alike) p6.1 f6.1 f6.2.1 f6.2.2.1, f6.2.1.trans bv3, by rw [X6.warmed.alike.findClass, f6.1]; exact bf3, by rw [f6.2.2.1, bs3]; simp, fun j hj => by rw [f6.2.2.2 j, if_pos (by omega)]; rfl, kp3.put p6 (Nat.le_refl _)⟩, by rw [p6.2.2, bh3, hh0]; simp⟩, fun fs hl => c8.trans (X8.areturnOut hexec rfl hret rfl (hb hbytes d58) hl)⟩
end Cmp3
namespace CodL
def yN : MethodName := ⟨"java/lang/StringUTF16", "coderFromArrayLen", "([BI)B"⟩
abbrev yB : ByteArray := jdk_52_method_15_code
theorem d0 : decode yB 0 = .ok (.iload_n 1, 1) := by decide +kernel
theorem d1 : decode yB 1 = .ok (.aload_n 0, 1) := by decide +kernel
theorem d2 : decode yB 2 = .ok (.arraylength, 1) := by decide +kernel
theorem d3 : decode yB 3 = .ok (.isub, 1) := by decide +kernel
theorem d4 : decode yB 4 = .ok (.bipush 31, 2) := by decide +kernel
theorem d6 : decode yB 6 = .ok (.iushr, 1) := by decide +kernel
theorem d7 : decode yB 7 = .ok (.i2b, 1) := by decide +kernel
theorem d8 : decode yB 8 = .ok (.ireturn, 1) := by decide +kernel
def site : List Cond := []
def tab : Cond := tabOf yN yB 2 (some .byte) site
def P (d : Addr) (B : Cell) (args : Array Value) (s : State) : Prop := args = #[.ref d, .int (Int32.ofNat B.slots.size)] ∧ Arr .byte d B s
def E (r : Option Value) (s u : State) : Prop := XT.PureE (some (.int 0)) r s u
/-- an array as long as the number of chars: LATIN1 -/
theorem law (l : Launch) (d : Addr) (B : Cell) : Law l yN 2 2 0 0 yB 2 (some .byte) site (P d B) E [] 0 0 := by
  refine Law.of_walk (plainFor_of_name (by decide +kernel)) (by decide +kernel) (by decide +kernel) (by decide) (fun _ _ h => by rw [h.1]; rfl) (fun _ U U' hal hh h => ⟨h.1, h.2.mv hal hh⟩) (fun r U U' V V' h1 hal h2 h => XT.PureE.mv r U U' V V' h1 hal h2 h) ?_
  intro p e s m args below meth c s₁ X0 hexec hbytes hml hret hlk hnm hown hh0 W hP
  obtain ⟨rfl, hB⟩ := hP
  have hB0 := hB.mv X0.warmed.alike hh0
  have c1 : Steps p.tables e below (s₁.setTop (entryFrame m #[.ref d, .int (Int32.ofNat B.slots.size)] 2)) (s₁.setTop (mkF m 0 #[.val (.ref d), .val (.int (Int32.ofNat B.slots.size))] [])) := entry rfl
  have c2 : Steps p.tables e below (s₁.setTop (entryFrame m #[.ref d, .int (Int32.ofNat B.slots.size)] 2)) (s₁.setTop (mkF m 2 #[.val (.ref d), .val (.int (Int32.ofNat B.slots.size))] [.ref d, .int (Int32.ofNat B.slots.size)])) := c1.trans (by
    refine XS.iloadN X0.here hexec rfl (hb hbytes d0) rfl ?_
    refine XS.aloadN X0.here hexec rfl (hb hbytes d1) rfl rfl ?_
    exact Steps.refl _)
  have c3 : Steps p.tables e below (s₁.setTop (entryFrame m #[.ref d, .int (Int32.ofNat B.slots.size)] 2)) (s₁.setTop (mkF m 8 #[.val (.ref d), .val (.int (Int32.ofNat B.slots.size))] [.int (lo8 (ushr (Int32.ofNat B.slots.size - Int32.ofNat B.slots.size) 31))])) := c2.trans (by
    refine X0.alen hexec hB0 rfl rfl (hb hbytes d2) ?_
    refine XS.isub X0.here hexec rfl (hb hbytes d3) rfl ?_
    refine bipushV X0.here hexec rfl 31 (hb hbytes d4) (by decide) ?_
    refine iushr X0.here hexec rfl (hb hbytes d6) rfl ?_
    refine i2b X0.here hexec rfl (hb hbytes d7) rfl ?_
    exact Steps.refl _)
  have e0 : lo8 (ushr (Int32.ofNat B.slots.size - Int32.ofNat B.slots.size) 31) = 0 := by rw [Int32.sub_self]; decide
  rw [e0] at c3
  exact ⟨s₁, some (.int 0), _, _, _, X0, rfl, rfl, rfl, (fun h => by cases h), ⟨rfl, hh0⟩, fun fs hl => c3.trans (X0.ireturnOut hexec hret rfl (Or.inr (Or.inr (Or.inl rfl))) (hb hbytes d8) hl)⟩
end CodL
/-- the String at a is Latin-1 over a new byte[] (the heap's one new cell): the low bytes of the len chars of A from o on; every cell but a is kept -/
def Got (a : Addr) (D : Cell) (fV fC : Field) (A : Cell) (o len : Nat) (r : Option Value) (s u : State) : Prop := r = none ∧ ∃ D' V : Cell, Blank "java/lang/String" a D' u ∧ Same D D' [fV.slot, fC.slot] ∧ D'.slots[fV.slot]? = some (.ref s.heap.size) ∧ D'.slots[fC.slot]? = some (.int 0) ∧ Arr .byte s.heap.size V u ∧ V.vm = .none ∧ u.vm.findClass "[B" = some V.cls ∧ V.slots.size = len ∧ (∀ j, j < len → V.slots[j]? = some (.int (lo8 (cv A (o + j))))) ∧ (∀ (y : Addr) (c : Cell), y ≠ a → s.heap[y]? = some c → u.heap[y]? = some c) ∧ u.heap.size = s.heap.size + 1
theorem Got.mv {a : Addr} {D A : Cell} {fV fC : Field} {o len : Nat} : ∀ r (U U' V V' : State), U'.heap = U.heap → V.vm.Alike V'.vm → V'.heap = V.heap → Got a D fV fC A o len r U V → Got a D fV fC A o len r U' V' :=
  fun r U U' V V' h1 hal h2 ⟨e0, D', X, a1, a2, a3, a4, a5, a6, a7, a8, a9, a10, a11⟩ => ⟨e0, D', X, a1.mv hal h2, a2, by rw [h1]; exact a3, a4, by rw [h1]; exact a5.mv hal h2, a6, by rw [hal.findClass]; exact a7, a8, a9, by rw [h1, h2]; exact a10, by rw [h1, h2]; exact a11⟩
namespace New4
def yN : MethodName := ⟨"java/lang/String", "<init>", "([CIILjava/lang/Void;)V"⟩
abbrev yB : ByteArray := jdk_42_method_149_code
theorem d0 : decode yB 0 = .ok (.aload_n 0, 1) := by decide +kernel
theorem d1 : decode yB 1 = .ok (.invokespecial 1, 3) := by decide +kernel
theorem d4 : decode yB 4 = .ok (.iload_n 3, 1) := by decide +kernel
theorem d5 : decode yB 5 = .ok (.ifCond (.ne) 22, 3) := by decide +kernel
theorem d27 : decode yB 27 = .ok (.getstatic 38, 3) := by decide +kernel
theorem d30 : decode yB 30 = .ok (.ifCond (.eq) 28, 3) := by decide +kernel
theorem d33 : decode yB 33 = .ok (.aload_n 1, 1) := by decide +kernel
theorem d34 : decode yB 34 = .ok (.iload_n 2, 1) := by decide +kernel
theorem d35 : decode yB 35 = .ok (.iload_n 3, 1) := by decide +kernel
theorem d36 : decode yB 36 = .ok (.invokestatic 177, 3) := by decide +kernel
theorem d39 : decode yB 39 = .ok (.astore 5, 2) := by decide +kernel
theorem d41 : decode yB 41 = .ok (.aload_n 0, 1) := by decide +kernel
theorem d42 : decode yB 42 = .ok (.aload 5, 2) := by decide +kernel
theorem d44 : decode yB 44 = .ok (.iload_n 3, 1) := by decide +kernel
theorem d45 : decode yB 45 = .ok (.invokestatic 47, 3) := by decide +kernel
theorem d48 : decode yB 48 = .ok (.putfield 15, 3) := by decide +kernel
theorem d51 : decode yB 51 = .ok (.aload_n 0, 1) := by decide +kernel
theorem d52 : decode yB 52 = .ok (.aload 5, 2) := by decide +kernel
theorem d54 : decode yB 54 = .ok (.putfield 9, 3) := by decide +kernel
theorem d57 : decode yB 57 = .ok (.return_, 1) := by decide +kernel
def site : List Cond := [.fieldLink "java/lang/String" 38 "java/lang/String" "COMPACT_STRINGS" "Z", Cmp3.tab, CodL.tab, .laysFinal "java/lang/String" "java/lang/String" "value" "[B", .fieldLink "java/lang/String" 9 "java/lang/String" "value" "[B", .laysFinal "java/lang/String" "java/lang/String" "coder" "B", .fieldLink "java/lang/String" 15 "java/lang/String" "coder" "B"] ++ objW "java/lang/String" 1 ++ staticW "java/lang/String" 177 Cmp3.yN ++ staticW "java/lang/String" 47 CodL.yN
def tab : Cond := tabOf yN yB 6 none site
def P (a : Addr) (D : Cell) (fV fC : Field) (b : Addr) (A : Cell) (z : Int32) (o len : Nat) (args : Array Value) (s : State) : Prop := args = #[.ref a, .ref b, .int (Int32.ofNat o), .int (Int32.ofNat len), .null] ∧ Blank "java/lang/String" a D s ∧ Found "java/lang/String" "value" "[B" fV s ∧ Found "java/lang/String" "coder" "B" fC s ∧ Ch b A s ∧ StaticIs s "java/lang/String" "COMPACT_STRINGS" "Z" (.int z) ∧ ¬ z = 0 ∧ 0 < len ∧ o + len ≤ A.slots.size ∧ len ≤ 536870912 ∧ ∀ i, i < len → ¬ 255 < cv A (o + i)
def E (a : Addr) (D : Cell) (fV fC : Field) (A : Cell) (o len : Nat) (r : Option Value) (s u : State) : Prop := Got a D fV fC A o len r s u
/-- len > 0, no char of the range above 255: a Latin-1 String of their low bytes -/
theorem law (l : Launch) (a : Addr) (D : Cell) (fV fC : Field) (b : Addr) (A : Cell) (z : Int32) (o len : Nat) : Law l yN 5 4 2 35 yB 6 none site (P a D fV fC b A z o len) (E a D fV fC A o len) [⟨a, fC.slot⟩, ⟨a, fV.slot⟩] 1 len := by
  refine Law.of_walk (plainFor_of_name (by decide +kernel)) (by decide +kernel) (by decide +kernel) (by decide) (fun _ _ h => by rw [h.1]; rfl) (fun _ U U' hal hh h => ⟨h.1, h.2.1.mv hal hh, h.2.2.1.al hal, h.2.2.2.1.al hal, h.2.2.2.2.1.mv hal hh, h.2.2.2.2.2.1.there hal hh, h.2.2.2.2.2.2⟩) (fun r U U' V V' h1 hal h2 h => Got.mv r U U' V V' h1 hal h2 h) ?_
  intro p e s m args below meth c s₁ X0 hexec hbytes hml hret hlk hnm hown hh0 W hP
  obtain ⟨rfl, hB, f1, f2, hA, s1, hz, l0, l1, l2, hp⟩ := hP
  have a31 := hA.1.2.2.2
  have c1 : Steps p.tables e below (s₁.setTop (entryFrame m #[.ref a, .ref b, .int (Int32.ofNat o), .int (Int32.ofNat len), .null] 6)) (s₁.setTop (mkF m 0 #[.val (.ref a), .val (.ref b), .val (.int (Int32.ofNat o)), .val (.int (Int32.ofNat len)), .val .null, .unset] [])) := entry rfl
  have c2 : Steps p.tables e below (s₁.setTop (entryFrame m #[.ref a, .ref b, .int (Int32.ofNat o), .int (Int32.ofNat len), .null] 6)) (s₁.setTop (mkF m 1 #[.val (.ref a), .val (.ref b), .val (.int (Int32.ofNat o)), .val (.int (Int32.ofNat len)), .val .null, .unset] [.ref a])) := c1.trans (by
    refine XS.aloadN X0.here hexec rfl (hb hbytes d0) rfl rfl ?_
    exact Steps.refl _)
  obtain ⟨T3, X3, q3, st3⟩ := X0.oinit hexec hown (wks W (objW "java/lang/String" 1)) (g := (mkF m 1 #[.val (.ref a), .val (.ref b), .val (.int (Int32.ofNat o)), .val (.int (Int32.ofNat len)), .val .null, .unset] [.ref a])) rfl (by rw [hml]; rfl) (rest := []) rfl (hb hbytes d1) (W := 0) (by show 2 * 0 + 0 ≤ _; decide) (Nat.le_of_ble_eq_true rfl) (Nat.le_of_ble_eq_true rfl)
  have hh3 := q3.trans hh0
  have c4 : Steps p.tables e below (s₁.setTop (entryFrame m #[.ref a, .ref b, .int (Int32.ofNat o), .int (Int32.ofNat len), .null] 6)) (T3.setTop (mkF m 27 #[.val (.ref a), .val (.ref b), .val (.int (Int32.ofNat o)), .val (.int (Int32.ofNat len)), .val .null, .unset] [])) := (c2.trans (st3 _ (Steps.refl _))).trans (by
    refine XS.iloadN X3.here hexec rfl (hb hbytes d4) rfl ?_
    refine XS.ifYes X3.here hexec rfl (pc0 := 5) rfl (hb hbytes d5) rfl (i0_ne_t (nz32 (by omega) l0)) (by decide) rfl ?_
    exact Steps.refl _)
  obtain ⟨T5, X5, q5, st5⟩ := X3.sget hexec hown (wk W (.fieldLink "java/lang/String" 38 "java/lang/String" "COMPACT_STRINGS" "Z")) s1 (fun _ _ h => by rw [hh3]; exact h) (g := (mkF m 27 #[.val (.ref a), .val (.ref b), .val (.int (Int32.ofNat o)), .val (.int (Int32.ofNat len)), .val .null, .unset] [])) rfl (hb hbytes d27)
  have hh5 := q5.trans hh3
  have c6 : Steps p.tables e below (s₁.setTop (entryFrame m #[.ref a, .ref b, .int (Int32.ofNat o), .int (Int32.ofNat len), .null] 6)) (T5.setTop (mkF m 30 #[.val (.ref a), .val (.ref b), .val (.int (Int32.ofNat o)), .val (.int (Int32.ofNat len)), .val .null, .unset] [.int z])) := c4.trans (st5 _ (Steps.refl _))
  have c7 : Steps p.tables e below (s₁.setTop (entryFrame m #[.ref a, .ref b, .int (Int32.ofNat o), .int (Int32.ofNat len), .null] 6)) (T5.setTop (mkF m 36 #[.val (.ref a), .val (.ref b), .val (.int (Int32.ofNat o)), .val (.int (Int32.ofNat len)), .val .null, .unset] [.int (Int32.ofNat len), .int (Int32.ofNat o), .ref b])) := c6.trans (by
    refine XS.ifNo X5.here hexec rfl (hb hbytes d30) rfl (i0_eq_f hz) ?_
    refine XS.aloadN X5.here hexec rfl (hb hbytes d33) rfl rfl ?_
    refine XS.iloadN X5.here hexec rfl (hb hbytes d34) rfl ?_
    refine XS.iloadN X5.here hexec rfl (hb hbytes d35) rfl ?_
    exact Steps.refl _)
  obtain ⟨v8, T8, X8, E8, g8⟩ := X5.callS hexec (Cmp3.law l b A o len) hown (wks W (staticW "java/lang/String" 177 Cmp3.yN)) (wk W Cmp3.tab) (W := 0) (Nat.le_of_ble_eq_true rfl) (Nat.le_of_ble_eq_true rfl) (Nat.le_refl _) (by show 0 + len ≤ len; omega) (g := (mkF m 36 #[.val (.ref a), .val (.ref b), .val (.int (Int32.ofNat o)), .val (.int (Int32.ofNat len)), .val .null, .unset] [.int (Int32.ofNat len), .int (Int32.ofNat o), .ref b])) rfl (by rw [hml]; rfl) c7 (argsL := [.ref b, .int (Int32.ofNat o), .int (Int32.ofNat len)]) (rest := []) rfl rfl (by show 2 * 0 + 0 ≤ _; decide) (hb hbytes d36) (⟨rfl, hA.mv X5.warmed.alike hh5, l1, l2, hp⟩)
  obtain ⟨e8, z8⟩ := E8
  obtain ⟨rfl, N, n1, n2, n3, n4, n5, n6⟩ := NewArr.mv _ T5 s _ _ hh5.symm (Vm.Alike.refl _) rfl e8
  rw [hh5] at z8
  have hB1 := hB.keep X8.warmed.alike (n6 _ _ hB.1)
  have hne : s.heap.size ≠ a := (Nat.ne_of_lt (Array.getElem?_eq_some_iff.mp hB.1).1).symm
  have c9 : Steps p.tables e below (s₁.setTop (entryFrame m #[.ref a, .ref b, .int (Int32.ofNat o), .int (Int32.ofNat len), .null] 6)) (T8.setTop (mkF m 39 #[.val (.ref a), .val (.ref b), .val (.int (Int32.ofNat o)), .val (.int (Int32.ofNat len)), .val .null, .unset] [.ref s.heap.size])) := g8
  have c10 : Steps p.tables e below (s₁.setTop (entryFrame m #[.ref a, .ref b, .int (Int32.ofNat o), .int (Int32.ofNat len), .null] 6)) (T8.setTop (mkF m 45 #[.val (.ref a), .val (.ref b), .val (.int (Int32.ofNat o)), .val (.int (Int32.ofNat len)), .val .null, .val (.ref s.heap.size)] [.int (Int32.ofNat N.slots.size), .ref s.heap.size, .ref a])) := by
    have hc : Steps p.tables e below (s₁.setTop (entryFrame m #[.ref a, .ref b, .int (Int32.ofNat o), .int (Int32.ofNat len), .null] 6)) (T8.setTop (mkF m 45 #[.val (.ref a), .val (.ref b), .val (.int (Int32.ofNat o)), .val (.int (Int32.ofNat len)), .val .null, .val (.ref s.heap.size)] [.int (Int32.ofNat len), .ref s.heap.size, .ref a])) := c9.trans (by
      refine XS.astore X8.here hexec rfl (hb hbytes d39) rfl rfl rfl ?_
      refine XS.aloadN X8.here hexec rfl (hb hbytes d41) rfl rfl ?_
      refine XS.aload X8.here hexec rfl (hb hbytes d42) rfl rfl ?_
      refine XS.iloadN X8.here hexec rfl (hb hbytes d44) rfl ?_
      exact Steps.refl _)
    rw [n4]; exact hc
  obtain ⟨v11, T11, X11, E11, g11⟩ := X8.callS hexec (CodL.law l s.heap.size N) hown (wks W (staticW "java/lang/String" 47 CodL.yN)) (wk W CodL.tab) (W := 1) (Nat.le_of_ble_eq_true rfl) (Nat.le_of_ble_eq_true rfl) (Nat.le_refl _) (by show 0 + len + 0 ≤ len; omega) (g := (mkF m 45 #[.val (.ref a), .val (.ref b), .val (.int (Int32.ofNat o)), .val (.int (Int32.ofNat len)), .val .null, .val (.ref s.heap.size)] [.int (Int32.ofNat N.slots.size), .ref s.heap.size, .ref a])) rfl (by rw [hml]; rfl) c10 (argsL := [.ref s.heap.size, .int (Int32.ofNat N.slots.size)]) (rest := [.ref a]) rfl rfl (by show 2 * 0 + (1 + 0) ≤ _; decide) (hb hbytes d45) (⟨rfl, n1⟩)
  obtain ⟨rfl, q11⟩ := E11
  have hB11 := hB1.mv (X8.warmed.alike.symm.trans X11.warmed.alike) q11
  have c12 : Steps p.tables e below (s₁.setTop (entryFrame m #[.ref a, .ref b, .int (Int32.ofNat o), .int (Int32.ofNat len), .null] 6)) (T11.setTop (mkF m 48 #[.val (.ref a), .val (.ref b), .val (.int (Int32.ofNat o)), .val (.int (Int32.ofNat len)), .val .null, .val (.ref s.heap.size)] [.int 0, .ref a])) := g11
  obtain ⟨T13, X13, p13, bl13, sl13, st13⟩ := X11.finit hexec hown (wk W (.fieldLink "java/lang/String" 15 "java/lang/String" "coder" "B")) (Or.inr ⟨_, (wk W (.laysFinal "java/lang/String" "java/lang/String" "coder" "B"))⟩) (Or.inl ⟨rfl, hnm⟩) f2 (Or.inl rfl) hB11 (t := .byte) (by decide +kernel) rfl (g := (mkF m 48 #[.val (.ref a), .val (.ref b), .val (.int (Int32.ofNat o)), .val (.int (Int32.ofNat len)), .val .null, .val (.ref s.heap.size)] [.int 0, .ref a])) rfl (rest := []) rfl (hb hbytes d48)
  have c14 : Steps p.tables e below (s₁.setTop (entryFrame m #[.ref a, .ref b, .int (Int32.ofNat o), .int (Int32.ofNat len), .null] 6)) (T13.setTop (mkF m 54 #[.val (.ref a), .val (.ref b), .val (.int (Int32.ofNat o)), .val (.int (Int32.ofNat len)), .val .null, .val (.ref s.heap.size)] [.ref s.heap.size, .ref a])) := (c12.trans (st13 _ (Steps.refl _))).trans (by
    refine XS.aloadN X13.here hexec rfl (hb hbytes d51) rfl rfl ?_
    refine XS.aload X13.here hexec rfl (hb hbytes d52) rfl rfl ?_
    exact Steps.refl _)
  obtain ⟨T15, X15, p15, bl15, sl15, st15⟩ := X13.finit hexec hown (wk W (.fieldLink "java/lang/String" 9 "java/lang/String" "value" "[B")) (Or.inr ⟨_, (wk W (.laysFinal "java/lang/String" "java/lang/String" "value" "[B"))⟩) (Or.inl ⟨rfl, hnm⟩) f1 (Or.inl rfl) bl13 (t := (.array .byte)) (by decide +kernel) rfl (g := (mkF m 54 #[.val (.ref a), .val (.ref b), .val (.int (Int32.ofNat o)), .val (.int (Int32.ofNat len)), .val .null, .val (.ref s.heap.size)] [.ref s.heap.size, .ref a])) rfl (rest := []) rfl (hb hbytes d54)
  have c16 : Steps p.tables e below (s₁.setTop (entryFrame m #[.ref a, .ref b, .int (Int32.ofNat o), .int (Int32.ofNat len), .null] 6)) (T15.setTop (mkF m 57 #[.val (.ref a), .val (.ref b), .val (.int (Int32.ofNat o)), .val (.int (Int32.ofNat len)), .val .null, .val (.ref s.heap.size)] [])) := c14.trans (st15 _ (Steps.refl _))
  have ap := apart (Or.inr ⟨_, (wk W (.laysFinal "java/lang/String" "java/lang/String" "value" "[B"))⟩) (Or.inr ⟨_, (wk W (.laysFinal "java/lang/String" "java/lang/String" "coder" "B"))⟩) f1 f2 (t₁ := .array .byte) (t₂ := .byte) (by decide +kernel) (by decide +kernel) (by decide)
  have al := X8.warmed.alike.symm.trans X15.warmed.alike
  have n7 : T11.heap[s.heap.size]? = some N := by rw [q11]; exact n1.1
  exact ⟨T15, none, _, _, _, X15, by simp, rfl, by omega, (fun _ => rfl), ⟨rfl, _, N, bl15, ((Same.refl D _).set _ (by simp)).set _ (by simp), sl15, (Cell.slots_setSlot_ne _ ap).trans sl13, n1.keep al (p15.other hne (p13.other hne n7)), n2, by rw [al.findClass]; exact n3, n4, n5, fun y c h1 h2 => p15.other h1 (p13.other h1 (by rw [q11]; exact n6 y c h2)), by rw [p15.2.2, p13.2.2, q11]; exact z8⟩, fun fs hl => c16.trans (X15.returnOut hexec hret (hb hbytes d57) hl)⟩
end New4
namespace New1
def yN : MethodName := ⟨"java/lang/String", "<init>", "([C)V"⟩
abbrev yB : ByteArray := jdk_42_method_3_code
theorem d0 : decode yB 0 = .ok (.aload_n 0, 1) := by decide +kernel
theorem d1 : decode yB 1 = .ok (.aload_n 1, 1) := by decide +kernel
theorem d2 : decode yB 2 = .ok (.iconst 0, 1) := by decide +kernel
theorem d3 : decode yB 3 = .ok (.aload_n 1, 1) := by decide +kernel
theorem d4 : decode yB 4 = .ok (.arraylength, 1) := by decide +kernel
theorem d5 : decode yB 5 = .ok (.aconst_null, 1) := by decide +kernel
theorem d6 : decode yB 6 = .ok (.invokespecial 27, 3) := by decide +kernel
theorem d9 : decode yB 9 = .ok (.return_, 1) := by decide +kernel
def site : List Cond := [New4.tab] ++ initW "java/lang/String" 27 New4.yN
def tab : Cond := tabOf yN yB 2 none site
def P (a : Addr) (D : Cell) (fV fC : Field) (b : Addr) (A : Cell) (z : Int32) (args : Array Value) (s : State) : Prop := args = #[.ref a, .ref b] ∧ Blank "java/lang/String" a D s ∧ Found "java/lang/String" "value" "[B" fV s ∧ Found "java/lang/String" "coder" "B" fC s ∧ Ch b A s ∧ StaticIs s "java/lang/String" "COMPACT_STRINGS" "Z" (.int z) ∧ ¬ z = 0 ∧ 0 < A.slots.size ∧ A.slots.size ≤ 536870912 ∧ ∀ i, i < A.slots.size → ¬ 255 < cv A i
def E (a : Addr) (D : Cell) (fV fC : Field) (A : Cell) (r : Option Value) (s u : State) : Prop := Got a D fV fC A 0 A.slots.size r s u
/-- new String(chars), not empty, no char above 255: a Latin-1 String of their low bytes -/
theorem law (l : Launch) (a : Addr) (D : Cell) (fV fC : Field) (b : Addr) (A : Cell) (z : Int32) : Law l yN 2 1 3 52 yB 2 none site (P a D fV fC b A z) (E a D fV fC A) [⟨a, fC.slot⟩, ⟨a, fV.slot⟩] 1 A.slots.size := by
  refine Law.of_walk (plainFor_of_name (by decide +kernel)) (by decide +kernel) (by decide +kernel) (by decide) (fun _ _ h => by rw [h.1]; rfl) (fun _ U U' hal hh h => ⟨h.1, h.2.1.mv hal hh, h.2.2.1.al hal, h.2.2.2.1.al hal, h.2.2.2.2.1.mv hal hh, h.2.2.2.2.2.1.there hal hh, h.2.2.2.2.2.2⟩) (fun r U U' V V' h1 hal h2 h => Got.mv r U U' V V' h1 hal h2 h) ?_
  intro p e s m args below meth c s₁ X0 hexec hbytes hml hret hlk hnm hown hh0 W hP
  obtain ⟨rfl, hB, f1, f2, hA, s1, hz, l0, l2, hp⟩ := hP
  have c1 : Steps p.tables e below (s₁.setTop (entryFrame m #[.ref a, .ref b] 2)) (s₁.setTop (mkF m 0 #[.val (.ref a), .val (.ref b)] [])) := entry rfl
  have c2 : Steps p.tables e below (s₁.setTop (entryFrame m #[.ref a, .ref b] 2)) (s₁.setTop (mkF m 6 #[.val (.ref a), .val (.ref b)] [.null, .int (Int32.ofNat A.slots.size), .int 0, .ref b, .ref a])) := c1.trans (by
    refine XS.aloadN X0.here hexec rfl (hb hbytes d0) rfl rfl ?_
    refine XS.aloadN X0.here hexec rfl (hb hbytes d1) rfl rfl ?_
    refine iconstV X0.here hexec rfl 0 (hb hbytes d2) (by decide) ?_
    refine XS.aloadN X0.here hexec rfl (hb hbytes d3) rfl rfl ?_
    refine X0.alen hexec (hA.1.mv X0.warmed.alike hh0) rfl rfl (hb hbytes d4) ?_
    refine XS.aconstNull X0.here hexec rfl (hb hbytes d5) ?_
    exact Steps.refl _)
  obtain ⟨v3, T3, X3, E3, g3⟩ := X0.callN hexec (New4.law l a D fV fC b A z 0 A.slots.size) rfl hown (wks W (initW "java/lang/String" 27 New4.yN)) (W New4.tab (by simp only [site, List.mem_cons, List.mem_append, true_or, or_true])) (W := 0) (Nat.le_of_ble_eq_true rfl) (Nat.le_of_ble_eq_true rfl) (Nat.le_refl _) (by show 0 + A.slots.size ≤ A.slots.size; omega) (g := (mkF m 6 #[.val (.ref a), .val (.ref b)] [.null, .int (Int32.ofNat A.slots.size), .int (Int32.ofNat 0), .ref b, .ref a])) rfl (by rw [hml]; rfl) c2 (argsL := [.ref b, .int (Int32.ofNat 0), .int (Int32.ofNat A.slots.size), .null]) (rest := []) rfl rfl (by show 2 * 0 + 0 ≤ _; decide) (hb hbytes d6) (⟨rfl, hB.mv X0.warmed.alike hh0, f1.al X0.warmed.alike, f2.al X0.warmed.alike, hA.mv X0.warmed.alike hh0, s1.there X0.warmed.alike hh0, hz, l0, by omega, l2, fun i hi => by rw [Nat.zero_add]; exact hp i hi⟩)
  have e0 := Got.mv _ s₁ s _ _ hh0.symm (Vm.Alike.refl _) rfl E3
  obtain rfl := e0.1
  have c4 : Steps p.tables e below (s₁.setTop (entryFrame m #[.ref a, .ref b] 2)) (T3.setTop (mkF m 9 #[.val (.ref a), .val (.ref b)] [])) := g3
  exact ⟨T3, none, _, _, _, X3, by simp, rfl, by omega, (fun _ => rfl), e0, fun fs hl => c4.trans (X3.returnOut hexec hret (hb hbytes d9) hl)⟩
theorem pays {l : Launch} {R : Room} {p : Program} {e : Env} {below : List Frame} {s : State} {sargs : Array Value} {len W : Nat} (a : Addr) (D : Cell) (fV fC : Field) (b : Addr) (A : Cell) (z : Int32) (htab : tab.before sargs s = true) (hfr : 4 ≤ R.frames) (hlo : W + 65 ≤ R.locals) :
    Back l R p e below s sargs yN len W (fun A₁ a₁ => A₁.cells + 1 ≤ R.cells ∧ A₁.slots + A.slots.size ≤ R.slots ∧ P a D fV fC b A z a₁ A₁.U) (fun A₁ _ v₁ B₁ => E a D fV fC A v₁ A₁.U B₁.U ∧ B₁.locs = A₁.locs ++ [⟨a, fC.slot⟩, ⟨a, fV.slot⟩] ∧ B₁.cells = A₁.cells + 1 ∧ B₁.slots = A₁.slots + A.slots.size) :=
  (law l a D fV fC b A z).pays htab hfr (by omega)
end New1
end StrChars
namespace StrChars.Road
open Jvm Sem ClassFile Op Lib Jvm.Stand Jvm.Free Jvm.Free.XT
open Jvm.Lib.Cold (StaticIs)
abbrev ST : String := "java/lang/String"
/-- every table word that New1's law asks, flat -/
abbrev words : List Jvm.Cond := [.code New1.yN New1.yB 2 none, .initialized ST, .methodLink ST 27 New4.yN, .instanceMethod New4.yN,
  .code New4.yN New4.yB 6 none, .fieldLink ST 38 ST "COMPACT_STRINGS" "Z", .laysFinal ST ST "value" "[B", .fieldLink ST 9 ST "value" "[B", .laysFinal ST ST "coder" "B", .fieldLink ST 15 ST "coder" "B",
  .methodLink ST 1 Lib.objectInit, .instanceMethod Lib.objectInit, .code Lib.objectInit ⟨#[0xb1]⟩ 1 none, .methodLink ST 177 Cmp3.yN, .static Cmp3.yN, .methodLink ST 47 CodL.yN, .static CodL.yN,
  .code Cmp3.yN Cmp3.yB 6 (some (.array .byte)), .initialized U16, .arrayClass .byte, .methodLink U16 115 Cmp5.yN, .static Cmp5.yN, .code Cmp5.yN Cmp5.yB 7 (some .int), .code CodL.yN CodL.yB 2 (some .byte)]
theorem tab_of {a : Array Value} {s : State} (h : ∀ w ∈ words, w.before a s = true) : New1.tab.before a s = true := by
  have h5 : Cmp5.tab.before a s = true := unparts (wk h (.code Cmp5.yN Cmp5.yB 7 (some .int))) (wks h (.initialized Cmp5.yN.cls :: Cmp5.site))
  have hc : CodL.tab.before a s = true := unparts (wk h (.code CodL.yN CodL.yB 2 (some .byte))) (wks h (.initialized CodL.yN.cls :: CodL.site))
  have q5 : ∀ w ∈ Cmp5.tab :: words, w.before a s = true := fun w hw => (List.mem_cons.mp hw).elim (fun e => e ▸ h5) (h w)
  have h3 : Cmp3.tab.before a s = true := unparts (wk q5 (.code Cmp3.yN Cmp3.yB 6 (some (.array .byte)))) (wks q5 (.initialized Cmp3.yN.cls :: Cmp3.site))
  have q3 : ∀ w ∈ Cmp3.tab :: CodL.tab :: words, w.before a s = true := fun w hw => (List.mem_cons.mp hw).elim (fun e => e ▸ h3) fun hw => (List.mem_cons.mp hw).elim (fun e => e ▸ hc) (h w)
  have h4 : New4.tab.before a s = true := unparts (wk q3 (.code New4.yN New4.yB 6 none)) (wks q3 (.initialized New4.yN.cls :: New4.site))
  have q4 : ∀ w ∈ New4.tab :: words, w.before a s = true := fun w hw => (List.mem_cons.mp hw).elim (fun e => e ▸ h4) (h w)
  exact unparts (wk q4 (.code New1.yN New1.yB 2 none)) (wks q4 (.initialized New1.yN.cls :: New1.site))
/-- the words ride from the start Z to the walk's own state -/
theorem moved {Z s : State} {a0 args : Array Value} (hZ : Z.Warmed39 s.vm) (hw : ∀ d ∈ words, d.before a0 Z = true) : ∀ d ∈ words, d.before args s = true := fun d hd => by
  have q := hw d hd
  have t : ∀ d ∈ words, d = .arrayClass .byte ∨ (d.onTables && d.keepsFace) = true := by decide +kernel
  rcases t d hd with rfl | t
  · exact RoadKit.mvA hZ q
  · exact RoadKit.mv hZ q t
/-- WHAT COMES BACK, over the tables of the start Z: h the heap at the call, h' behind it -/
def Q (Z : State) (x : Addr) (A : Cell) (h : Heap) (v : Option Value) (h' : Heap) (L : List Loc) : Prop := v = none ∧ (∀ y ∈ L, y.base = x) ∧ RoadKit.Keep h h' [x] ∧ h'.size = h.size + 1 ∧ RoadKit.Exa Z h' x ST ∧ RoadKit.Fld Z h' x ST "value" "[B" (.ref h.size) ∧ RoadKit.Fld Z h' x ST "coder" "B" (.int 0) ∧
  (∃ V : Cell, RoadKit.Arr Z h' h.size V .byte ∧ V.vm = .none ∧ Z.vm.findClass "[B" = some V.cls ∧ V.slots.size = A.slots.size ∧ ∀ j, j < A.slots.size → V.slots[j]? = some (.int (lo8 (cv A j)))) ∧
  ∀ (O n d : String) (w : Value), RoadKit.Fld Z h x O n d w → RoadKit.slotOf Z O n d ≠ RoadKit.slotOf Z ST "value" "[B" → RoadKit.slotOf Z O n d ≠ RoadKit.slotOf Z ST "coder" "B" → RoadKit.Fld Z h' x O n d w
/-- **new String(chars) AT A CALL, IN THE ROAD'S FORM**: for specialBack behind newO: x the fresh String, b the char[] with the cell A -/
theorem back {p : Program} {l : Launch} {e : Env} {R : Room} {s : State} {args : Array Value} {below : List Frame} {len W : Nat} {Z : State} {a0 : Array Value} {h : Heap} (hZ : Z.Warmed39 s.vm) (hw : ∀ d ∈ words, d.before a0 Z = true) {kI : Nat} (wi : (Jvm.Cond.instantiable ST kI).before a0 Z = true)
    {x b : Addr} {A : Cell} {z : Int32} {v0 c0 : Value} (E : RoadKit.Exa Z h x ST) (V : RoadKit.Fld Z h x ST "value" "[B" v0) (C : RoadKit.Fld Z h x ST "coder" "B" c0) (K : RoadKit.Arr Z h b A .char) (hty : Typed .char A) (S : RoadKit.Sta Z h ST "COMPACT_STRINGS" "Z" (.int z)) (hz : ¬ z = 0)
    (l0 : 0 < A.slots.size) (l2 : A.slots.size ≤ 536870912) (hp : ∀ i, i < A.slots.size → ¬ 255 < cv A i) (hfr : 4 ≤ R.frames) (hlo : W + 65 ≤ R.locals) :
    Back l R p e below s args New1.yN len W (fun P a => a = #[.ref x, .ref b] ∧ P.U.heap = h ∧ P.cells + 1 ≤ R.cells ∧ P.slots + A.slots.size ≤ R.slots)
      (fun P _ v B => ∃ L, Q Z x A h v B.U.heap L ∧ B.locs = P.locs ++ L ∧ B.cells = P.cells + 1 ∧ B.slots = P.slots + A.slots.size) := by
  intro m meth c P g ig mk a X hg hsize hdg hW hn hp'
  obtain ⟨rfl, rfl, r1, r2⟩ := hp'
  have al : Z.vm.Alike P.U.vm := hZ.alike.trans X.warmed.alike
  obtain ⟨D, cfV, kV, iV, fV, hD, gV, stV, knV, obV, asV, slV⟩ := id V
  obtain ⟨D', cfC, kC, iC, fC, hD', gC, stC, -, -, asC, slC⟩ := id C
  cases hD.symm.trans hD'
  obtain ⟨D2, kD, e1, e2, e3, e4, e5⟩ := id E
  cases hD.symm.trans e1
  obtain ⟨c2, k2, i1, i2, i3, -⟩ := Cond.instantiable_spec wi
  cases e2.symm.trans i1
  cases e3.symm.trans i2
  obtain ⟨kU, u1, u2⟩ := al.2.2 _ _ e3
  have hB : Blank ST x D P.U := ⟨hD, ⟨knV, fun q hq => by rw [hq] at obV; cases obV⟩, by rw [al.findClass]; exact e2, kU, u1, by rw [u2]; exact i3, by rw [u2]; exact e5 i3⟩
  have F1 : Found ST "value" "[B" fV P.U := ⟨SBG.found_only al ⟨cfV, kV, iV, gV⟩, stV⟩
  have F2 : Found ST "coder" "B" fC P.U := ⟨SBG.found_only al ⟨cfC, kC, iC, gC⟩, stC⟩
  have hA : Ch b A P.U := ⟨⟨K.1, State.isArrayOf_alike al K.2.1, K.2.2, by omega⟩, hty⟩
  have hS : StaticIs P.U ST "COMPACT_STRINGS" "Z" (.int z) := by
    obtain ⟨cfS, iS, kS, fS, st, cS, t1, t2, t3, t4, t5, t6, t7⟩ := S
    exact StaticIs.there (s := { Z with heap := P.U.heap }) ⟨cfS, iS, kS, fS, st, cS, t1, t2, t3, t4, t5, (fun q => by rw [q] at t6; cases t6), t7⟩ al rfl
  obtain ⟨v, B, X', ⟨⟨hv, E', V', q1, q2, q3, q4, q5, q6, q7, q8, q9, q10, q11⟩, hl, hc, hs⟩, st⟩ := New1.pays x D fV fC b A z (tab_of (moved hZ hw)) hfr hlo m meth c P g ig mk _ X hg hsize hdg hW hn ⟨r1, r2, rfl, hB, F1, F2, hA, hS, hz, l0, l2, hp⟩
  have al' : Z.vm.Alike B.U.vm := hZ.alike.trans X'.warmed.alike
  have hsz : E'.slots.size = D.slots.size := by
    obtain ⟨-, -, -, kB, w1, w2, w3⟩ := q1
    obtain ⟨kB', y1, y2⟩ := al'.2.2 _ _ e3
    rw [q2.2.1] at w1
    cases w1.symm.trans y1
    rw [w3, e5 i3, y2]
  refine ⟨v, B, X', ⟨_, ⟨hv, ?_, ⟨by omega, fun y cy hy hn' => q10 y cy (by simpa using hn') hy, fun y cy hy => ?_⟩, q11, ⟨E', _, q1.1, by rw [q2.2.1]; exact e2, by rw [q2.2.1]; exact e3, by rw [q2.1]; exact obV, fun _ => by rw [hsz]; exact e5 i3⟩,
    ⟨E', cfV, kV, iV, fV, q1.1, gV, stV, by rw [q2.1]; exact knV, by rw [q2.1]; exact obV, by rw [q2.2.1]; exact asV, q3⟩, ⟨E', cfC, kC, iC, fC, q1.1, gC, stC, by rw [q2.1]; exact knV, by rw [q2.1]; exact obV, by rw [q2.2.1]; exact asC, q4⟩,
    ⟨V', ⟨q5.1, State.isArrayOf_alike al'.symm q5.2.1, q5.2.2.1⟩, q6, by rw [← al'.findClass]; exact q7, q8, fun j hj => by have := q9 j hj; rwa [Nat.zero_add] at this⟩, fun O n d w F n1 n2 => ?_⟩, hl, hc, hs⟩, st⟩
  · intro y hy
    simp only [List.mem_cons, List.not_mem_nil, or_false] at hy
    rcases hy with rfl | rfl <;> rfl
  · by_cases q : y = x
    · subst q
      cases hD.symm.trans hy
      exact ⟨E', q1.1, q2.2.1, q2.1, hsz⟩
    · exact ⟨cy, q10 y cy q hy, rfl, rfl, rfl⟩
  · obtain ⟨D3, cf, k, i, f, g1, g2, g3, g4, g5, g6, g7⟩ := F
    cases hD.symm.trans g1
    simp only [RoadKit.slotOf, g2, gV, gC, Option.map_some, Option.getD_some] at n1 n2
    exact ⟨E', cf, k, i, f, q1.1, g2, g3, by rw [q2.1]; exact g4, by rw [q2.1]; exact g5, by rw [q2.2.1]; exact g6, by rw [q2.2.2 f.slot (by simp [n1, n2])]; exact g7⟩
end StrChars.Road
namespace StrChars.Road
open Jvm Sem ClassFile Op Lib Jvm.Stand Jvm.Free Jvm.Free.XT
/-- WHAT COMES BACK, the byte[] as a list of values -/
def QA (Z : State) (x : Addr) (zn : Int32) (cs : List Int32) (h : Heap) (v : Option Value) (h' : Heap) (L : List Loc) : Prop := v = none ∧ (∀ y ∈ L, y.base = x) ∧ RoadKit.Keep h h' [x] ∧ h'.size = h.size + 1 ∧ RoadKit.Exa Z h' x ST ∧ RoadKit.Fld Z h' x ST "value" "[B" (.ref h.size) ∧ RoadKit.Fld Z h' x ST "coder" "B" (.int 0) ∧
  (∃ kb, Z.vm.findClass "[B" = some kb ∧ RoadKit.Arv Z h' h.size kb .byte zn (cs.map fun c => .int (lo8 c)) (.int 0)) ∧
  ∀ (O n d : String) (w : Value), RoadKit.Fld Z h x O n d w → RoadKit.slotOf Z O n d ≠ RoadKit.slotOf Z ST "value" "[B" → RoadKit.slotOf Z O n d ≠ RoadKit.slotOf Z ST "coder" "B" → RoadKit.Fld Z h' x O n d w
/-- **new String(chars) AT A CALL, THE ARRAYS AS LISTS**: the char[] at b holds cs, not empty, no char above 255 -/
theorem backArv {p : Program} {l : Launch} {e : Env} {R : Room} {s : State} {args : Array Value} {below : List Frame} {len W : Nat} {Z : State} {a0 : Array Value} {h : Heap} (hZ : Z.Warmed39 s.vm) (hw : ∀ d ∈ words, d.before a0 Z = true) {kI : Nat} (wi : (Jvm.Cond.instantiable ST kI).before a0 Z = true)
    {x b : Addr} {k : ClassId} {zn z : Int32} {cs : List Int32} {dv v0 c0 : Value} (E : RoadKit.Exa Z h x ST) (V : RoadKit.Fld Z h x ST "value" "[B" v0) (C : RoadKit.Fld Z h x ST "coder" "B" c0) (K : RoadKit.Arv Z h b k .char zn (cs.map Value.int) dv) (S : RoadKit.Sta Z h ST "COMPACT_STRINGS" "Z" (.int z)) (hz : ¬ z = 0)
    (hlen : zn.toNatClampNeg = cs.length) (h0 : 0 < cs.length) (hbig : cs.length ≤ 536870912) (hall : ∀ c ∈ cs, ¬ 255 < c) (hfr : 4 ≤ R.frames) (hlo : W + 65 ≤ R.locals) :
    Back l R p e below s args New1.yN len W (fun P a => a = #[.ref x, .ref b] ∧ P.U.heap = h ∧ P.cells + 1 ≤ R.cells ∧ P.slots + cs.length ≤ R.slots)
      (fun P _ v B => ∃ L, QA Z x zn cs h v B.U.heap L ∧ B.locs = P.locs ++ L ∧ B.cells = P.cells + 1 ∧ B.slots = P.slots + cs.length) := by
  obtain ⟨A, K1, K2, K3, K4, K5, K6⟩ := K
  have e : A.slots.size = cs.length := K3.trans hlen
  have hat : ∀ (i : Nat) (hi : i < cs.length), A.slots[i]? = some (.int cs[i]) := fun i hi => by rw [K5 i (by omega)]; simp [List.getD_eq_getElem?_getD, hi]
  have hcv : ∀ (i : Nat) (hi : i < cs.length), cv A i = cs[i] := fun i hi => by unfold cv; rw [hat i hi]
  have hty : Typed .char A := fun i v hv => by
    have hi : i < A.slots.size := (Array.getElem?_eq_some_iff.mp hv).1
    have q := K5 i hi
    rw [hv] at q
    rw [Option.some.inj q]
    exact K6 i hi
  refine Back.mono (back hZ hw wi E V C K1 hty S hz (by omega) (by omega) (fun i hi => by rw [hcv i (by omega)]; exact hall _ (List.getElem_mem _)) hfr hlo) (fun P a hp => ⟨hp.1, hp.2.1, hp.2.2.1, by rw [e]; exact hp.2.2.2⟩) (fun P a v B hp hq => ?_)
  obtain ⟨L, ⟨q1, q2, q3, q4, q5, q6, q7, ⟨V', v1, v2, v3, v4, v5⟩, q9⟩, hl, hc, hs⟩ := hq
  refine ⟨L, ⟨q1, q2, q3, q4, q5, q6, q7, ⟨V'.cls, v3, V', v1, rfl, by rw [v4, e, hlen], K4, fun i hi => ?_, fun i hi => ?_⟩, q9⟩, hl, hc, by rw [hs, e]⟩
  · have hi' : i < cs.length := by omega
    rw [v5 i (by omega), hcv i hi']; simp [List.getD_eq_getElem?_getD, hi']
  · have hi' : i < cs.length := by omega
    simp only [List.getD_eq_getElem?_getD, List.getElem?_map, List.getElem?_eq_getElem hi', Option.map_some, Option.getD_some]
    exact fits_lo8 _
end StrChars.Road
namespace StrChars.Road
open Jvm Sem ClassFile Op Lib Jvm.Stand Jvm.Free Jvm.Free.XT
/-- WHAT COMES BACK, in the writer's own shape -/
def QV (Z : State) (x : Addr) (N : Int32) (bs : List Int32) (h : Heap) (n0 : Nat) (v : Option Value) (h' : Heap) (L : List Loc) : Prop := v = none ∧ RoadKit.Fr n0 L ∧ RoadKit.Keep h h' [x] ∧ RoadKit.Exa Z h' x ST ∧ RoadKit.Fld Z h' x ST "coder" "B" (.int 0) ∧
  ∃ (t : Addr) (kb : ClassId), n0 ≤ t ∧ h.size ≤ t ∧ ¬ t = x ∧ RoadKit.Fld Z h' x ST "value" "[B" (.ref t) ∧ RoadKit.Arv Z h' t kb .byte N (bs.map Value.int) (.int 0)
/-- **new String(chars) AT A CALL, FOR THE WRITER**: a char[] of n known ints, each 0 to 255 -/
theorem backV {p : Program} {l : Launch} {e : Env} {R : Room} {s : State} {args : Array Value} {below : List Frame} {len W : Nat} {Z : State} {a0 : Array Value} {h : Heap} (hZ : Z.Warmed39 s.vm) (hw : ∀ d ∈ words, d.before a0 Z = true) {kI : Nat} (wi : (Jvm.Cond.instantiable ST kI).before a0 Z = true)
    {x b : Addr} {kC : ClassId} {cs bs : List Int32} {d v0 c0 : Value} {z N : Int32} {n n0 : Nat} (hx0 : n0 ≤ x) (hh0 : n0 ≤ h.size) (E : RoadKit.Exa Z h x ST) (V : RoadKit.Fld Z h x ST "value" "[B" v0) (C : RoadKit.Fld Z h x ST "coder" "B" c0) (K : RoadKit.Arv Z h b kC .char N (cs.map Value.int) d) (S : RoadKit.Sta Z h ST "COMPACT_STRINGS" "Z" (.int z)) (hz : ¬ z = 0)
    (hn : cs.length = n) (hN : N = Int32.ofNat n) (l0 : 0 < n) (l2 : n ≤ 4000) (hp : ∀ c ∈ cs, ¬ c < 0 ∧ ¬ (255 : Int32) < c) (hb : bs = cs.map (fun c => c.toInt8.toInt32)) (hfr : 4 ≤ R.frames) (hlo : W + 65 ≤ R.locals) :
    Back l R p e below s args (⟨"java/lang/String", "<init>", "([C)V"⟩ : MethodName) len W (fun P a => a = #[.ref x, .ref b] ∧ P.U.heap = h ∧ P.cells + 1 ≤ R.cells ∧ P.slots + n ≤ R.slots)
      (fun P _ v B => ∃ L, QV Z x N bs h n0 v B.U.heap L ∧ B.locs = P.locs ++ L ∧ B.cells = P.cells + 1 ∧ B.slots = P.slots + n) := by
  subst hn hN hb
  refine Back.mono (backArv hZ hw wi E V C K S hz (n32 (by omega)) l0 (by omega) (fun c hc => (hp c hc).2) hfr hlo) (fun P a hp => hp) (fun P a v B hp hq => ?_)
  obtain ⟨L, ⟨q1, q2, q3, q4, q5, q6, q7, ⟨kb, v1, v2⟩, q9⟩, hl, hc, hs⟩ := hq
  exact ⟨L, ⟨q1, fun y hy => by rw [q2 y hy]; exact hx0, q3, q5, q7, h.size, kb, hh0, Nat.le_refl _, Nat.ne_of_gt E.lt, q6, by rw [List.map_map]; exact v2⟩, hl, hc, hs⟩
end StrChars.Road
namespace StrChars
open Jvm Sem ClassFile Op Lib Jvm.Stand Jvm.Free.XT Jvm.Free.ALB Jvm.Free.JM Jvm.Free
open Jvm.Lib.Cold (StaticIs)
def hi8 (x : Int32) : Int32 := lo8 (x >>> ((8 : Int32) &&& 31))
end StrChars
namespace StrChars.Road
open Jvm Sem ClassFile Op Lib Jvm.Stand Jvm.Free Jvm.Free.XT
open Jvm.Lib.Cold (StaticIs)
/-- the bytes of the chars cs, low before high -/
def wideBytes : List Int32 → List Value
  | [] => []
  | c :: cs => .int (lo8 c) :: .int (hi8 c) :: wideBytes cs
/-- an array of N2 bytes vs codes the chars cs by the coder cd -/
def CodA (cs : List Int32) (cd N2 : Int32) (vs : List Value) : Prop := (cd = 0 ∧ N2 = Int32.ofNat cs.length ∧ vs = (cs.map fun c => Value.int (lo8 c)) ∧ ∀ c ∈ cs, ¬ 255 < c) ∨ (cd = 1 ∧ N2 = Int32.ofNat (2 * cs.length) ∧ vs = wideBytes cs ∧ ∃ c ∈ cs, 255 < c)
end StrChars.Road
namespace StrChars.Road
open Jvm Sem ClassFile Op Lib Jvm.Stand Jvm.Free Jvm.Free.XT
open Jvm.Lib.Cold (StaticIs)
/-- what backV says of its String, as the contracts of this text ask it: cs's low bytes, coder 0 -/
theorem codOf {cs : List Int32} {n : Nat} (hn : cs.length = n) (hb : ∀ c ∈ cs, ¬ 255 < c) : CodA cs 0 (Int32.ofNat n) ((cs.map lo8).map Value.int) := Or.inl ⟨rfl, by rw [hn], by simp [List.map_map, Function.comp_def], hb⟩
end StrChars.Road
end Jvm.Pilot.@@N@@
namespace Jvm.Pilot.@@N@@.Y
open Jvm Jvm.ClassFile Sem Op Lib Jvm.Free Jvm.Stand Jvm.LawKit Jvm.RoadKit Bundle
/-- from st the run comes to an end that G tells -/
def Ends (p : Program) (e : Env) (below : List Frame) (G : Outcome → State → Prop) (st : State) : Prop := ∃ s₂ o, Steps p.tables e below st s₂ ∧ s₂.status = .running ∧ Ended s₂ below o ∧ G o s₂
theorem Ends.go {p : Program} {e : Env} {below : List Frame} {G : Outcome → State → Prop} {A B : State} (k : ∀ t, Steps p.tables e below B t → Steps p.tables e below A t) (h : Ends p e below G B) : Ends p e below G A := by
  obtain ⟨s₂, o, h1, h2⟩ := h
  exact ⟨s₂, o, k _ h1, h2⟩
theorem leB {a b : Nat} (h : Nat.ble a b = true) : a ≤ b := Nat.le_of_ble_eq_true h
theorem catR {v : Value} (h : v.isRef = true) : v.category = 1 := by rcases ref_cases h with rfl | ⟨z, rfl⟩ <;> rfl
theorem narR {v : Value} {C : String} (h : v.isRef = true) : narrow (.object C) v = v := by rcases ref_cases h with rfl | ⟨z, rfl⟩ <;> rfl
theorem fitR {v : Value} {C : String} (h : v.isRef = true) : fits (.object C) v = true := by rcases ref_cases h with rfl | ⟨z, rfl⟩ <;> rfl
theorem b01 {q : Int32} (h : q = 0 ∨ q = 1) : narrow .boolean (.int q) = .int q ∧ fits .boolean (.int q) = true := by rcases h with rfl | rfl <;> exact ⟨rfl, rfl⟩
theorem or01 {q : Int32} {c : Prop} (h : (q = 0 ∧ c) ∨ (q = 1 ∧ ¬ c)) : q = 0 ∨ q = 1 := h.imp (·.1) (·.1)
theorem or10 {q : Int32} {c : Prop} (h : (q = 1 ∧ c) ∨ (q = 0 ∧ ¬ c)) : q = 0 ∨ q = 1 := (h.imp (·.1) (·.1)).symm
/-- where the walk stands: over the start s with the tables vm0; h the heap at hand; ws: the old places it may write -/
def Wk (co : Bool) (Z : State) (a0 : Array Value) (EL : List (String × Nat)) (own : String) (bytes : ByteArray) (maxL : Nat) (ret : Option FieldType) (nm : String) (ws : List Addr) (p : Program) (l : Launch) (e : Env) (R : Room) (s : State) (m : MethodId) (args : Array Value) (below : List Frame) (meth : Method) (c : Code) (vm0 : Vm) (T : State) (h : Heap) (locs : List Loc) (cells slots : Nat) : Prop :=
  Stand p l e R (s.setVm vm0) m args below meth c T locs cells slots ∧ T.heap = h ∧ (∃ k0, s.Since vm0 k0 ∧ k0 ≤ h.size) ∧ (co = false → vm0 = s.vm) ∧ Z.Warmed39 vm0 ∧ vm0.findClass own = some m.cls ∧ CHr Z EL s.vm s.heap vm0 h ∧ EW Z a0 EL ∧
  (p.tables.exec = Jvm.exec ∧ c.code = bytes ∧ c.maxLocals = maxL ∧ meth.sig.returnType = ret ∧ meth.name = nm ∧ meth.locks = false) ∧ Ext Z.heap h ∧ Fr Z.heap.size locs ∧ Keep s.heap h ws
section Walk
variable {co : Bool} {Z : State} {a0 : Array Value} {EL : List (String × Nat)} {own : String} {bytes : ByteArray} {maxL : Nat} {ret : Option FieldType} {nm : String} {ws : List Addr} {p : Program} {l : Launch} {e : Env} {R : Room} {s : State} {m : MethodId} {args : Array Value} {below : List Frame} {meth : Method} {c : Code} {vm0 : Vm} {T : State} {h : Heap} {locs : List Loc} {cells slots : Nat} {G : Outcome → State → Prop} {pc pc' : Nat} {ls ls' : Array Slot} {rest : List Value}
abbrev WkA (co : Bool) (Z : State) (a0 : Array Value) (EL : List (String × Nat)) (own : String) (bytes : ByteArray) (maxL : Nat) (ret : Option FieldType) (nm : String) (ws : List Addr) (p : Program) (l : Launch) (e : Env) (R : Room) (s : State) (m : MethodId) (args : Array Value) (below : List Frame) (meth : Method) (c : Code) (vm0 : Vm) (T : State) (h : Heap) (locs : List Loc) (cells slots : Nat) : Prop := Wk co Z a0 EL own bytes maxL ret nm ws p l e R s m args below meth c vm0 T h locs cells slots
theorem Wk.st (X : Wk co Z a0 EL own bytes maxL ret nm ws p l e R s m args below meth c vm0 T h locs cells slots) : Stand p l e R (s.setVm vm0) m args below meth c T locs cells slots := X.1
theorem Wk.eT (X : Wk co Z a0 EL own bytes maxL ret nm ws p l e R s m args below meth c vm0 T h locs cells slots) : T.heap = h := X.2.1
theorem Wk.hx (X : Wk co Z a0 EL own bytes maxL ret nm ws p l e R s m args below meth c vm0 T h locs cells slots) : p.tables.exec = Jvm.exec := X.2.2.2.2.2.2.2.2.1.1
theorem Wk.hd (X : Wk co Z a0 EL own bytes maxL ret nm ws p l e R s m args below meth c vm0 T h locs cells slots) {r : Except DecodeError (Instr × Nat)} (d : decode bytes pc = r) : decode c.code pc = r := by
  rw [X.2.2.2.2.2.2.2.2.1.2.1]; exact d
theorem Wk.hml (X : Wk co Z a0 EL own bytes maxL ret nm ws p l e R s m args below meth c vm0 T h locs cells slots) : c.maxLocals = maxL := X.2.2.2.2.2.2.2.2.1.2.2.1
theorem Wk.hret (X : Wk co Z a0 EL own bytes maxL ret nm ws p l e R s m args below meth c vm0 T h locs cells slots) : meth.sig.returnType = ret := X.2.2.2.2.2.2.2.2.1.2.2.2.1
theorem Wk.hnm (X : Wk co Z a0 EL own bytes maxL ret nm ws p l e R s m args below meth c vm0 T h locs cells slots) : meth.name = nm := X.2.2.2.2.2.2.2.2.1.2.2.2.2.1
theorem Wk.hlk (X : Wk co Z a0 EL own bytes maxL ret nm ws p l e R s m args below meth c vm0 T h locs cells slots) : meth.locks = false := X.2.2.2.2.2.2.2.2.1.2.2.2.2.2
theorem Wk.hZ (X : Wk co Z a0 EL own bytes maxL ret nm ws p l e R s m args below meth c vm0 T h locs cells slots) : Z.Warmed39 (s.setVm vm0).vm := X.2.2.2.2.1
theorem Wk.al (X : Wk co Z a0 EL own bytes maxL ret nm ws p l e R s m args below meth c vm0 T h locs cells slots) : Z.vm.Alike vm0 := X.2.2.2.2.1.alike
theorem Wk.hown (X : Wk co Z a0 EL own bytes maxL ret nm ws p l e R s m args below meth c vm0 T h locs cells slots) : (s.setVm vm0).vm.findClass own = some m.cls := X.2.2.2.2.2.1
theorem Wk.ch (X : Wk co Z a0 EL own bytes maxL ret nm ws p l e R s m args below meth c vm0 T h locs cells slots) : CHr Z EL s.vm s.heap vm0 h := X.2.2.2.2.2.2.1
theorem Wk.H (X : Wk co Z a0 EL own bytes maxL ret nm ws p l e R s m args below meth c vm0 T h locs cells slots) : CHv Z EL vm0 h := X.ch.1
theorem Wk.ew (X : Wk co Z a0 EL own bytes maxL ret nm ws p l e R s m args below meth c vm0 T h locs cells slots) : EW Z a0 EL := X.2.2.2.2.2.2.2.1
theorem Wk.old (X : Wk co Z a0 EL own bytes maxL ret nm ws p l e R s m args below meth c vm0 T h locs cells slots) : Ext Z.heap h := X.2.2.2.2.2.2.2.2.2.1
theorem Wk.fr (X : Wk co Z a0 EL own bytes maxL ret nm ws p l e R s m args below meth c vm0 T h locs cells slots) : Fr Z.heap.size locs := X.2.2.2.2.2.2.2.2.2.2.1
theorem Wk.kp (X : Wk co Z a0 EL own bytes maxL ret nm ws p l e R s m args below meth c vm0 T h locs cells slots) : Keep s.heap h ws := X.2.2.2.2.2.2.2.2.2.2.2
theorem Wk.since (X : Wk co Z a0 EL own bytes maxL ret nm ws p l e R s m args below meth c vm0 T h locs cells slots) : ∃ k0, s.Since vm0 k0 ∧ k0 ≤ h.size := X.2.2.1
theorem Wk.nr (X : Wk co Z a0 EL own bytes maxL ret nm ws p l e R s m args below meth c vm0 T h locs cells slots) : co = false → vm0 = s.vm := X.2.2.2.1
/-- a step that leaves the heap -/
theorem Wk.same (X : Wk co Z a0 EL own bytes maxL ret nm ws p l e R s m args below meth c vm0 T h locs cells slots) {T' : State} (Y : Stand p l e R (s.setVm vm0) m args below meth c T' locs cells slots) (e' : T'.heap = h) : Wk co Z a0 EL own bytes maxL ret nm ws p l e R s m args below meth c vm0 T' h locs cells slots :=
  ⟨Y, e', X.2.2⟩
theorem fr_app0 {k : Nat} {L : List Loc} (N : Fr k L) : Fr k (L ++ []) := by rw [List.append_nil]; exact N
/-- a step that makes new cells -/
theorem Wk.ext (X : Wk co Z a0 EL own bytes maxL ret nm ws p l e R s m args below meth c vm0 T h locs cells slots) {T' : State} {h' : Heap} {cells' slots' : Nat} (Y : Stand p l e R (s.setVm vm0) m args below meth c T' locs cells' slots') (e' : T'.heap = h') (E : Ext h h') : Wk co Z a0 EL own bytes maxL ret nm ws p l e R s m args below meth c vm0 T' h' locs cells' slots' := by
  obtain ⟨k0, k1, k2⟩ := X.since
  exact ⟨Y, e', ⟨k0, k1, Nat.le_trans k2 E.1⟩, X.nr, X.hZ, X.hown, X.ch.trans (CHr.ext E X.H), X.ew, X.2.2.2.2.2.2.2.2.1, ⟨Nat.le_trans X.old.1 E.1, fun a cl q => E.2 _ _ (X.old.2 _ _ q)⟩, X.fr, X.kp.ext E⟩
/-- a narrow call: L written, of old cells those at wc alone -/
theorem Wk.keep (X : Wk co Z a0 EL own bytes maxL ret nm ws p l e R s m args below meth c vm0 T h locs cells slots) {T' : State} {h' : Heap} {L : List Loc} {wc : List Addr} {cells' slots' : Nat} (Y : Stand p l e R (s.setVm vm0) m args below meth c T' (locs ++ L) cells' slots') (e' : T'.heap = h') (K : Keep h h' wc) (S : ∀ x ∈ wc, Safe Z EL vm0 h x) (N : Fr Z.heap.size L) (hn : ∀ x ∈ wc, Z.heap.size ≤ x) (hk : ∀ x ∈ wc, x ∈ ws ∨ s.heap.size ≤ x) : Wk co Z a0 EL own bytes maxL ret nm ws p l e R s m args below meth c vm0 T' h' (locs ++ L) cells' slots' := by
  obtain ⟨k0, k1, k2⟩ := X.since
  have O : Old Z Z.heap.size h' := Old.keep ⟨rfl, X.old⟩ K hn
  exact ⟨Y, e', ⟨k0, k1, Nat.le_trans k2 K.1⟩, X.nr, X.hZ, X.hown, X.ch.trans (CHr.keep K S X.H), X.ew, X.2.2.2.2.2.2.2.2.1, O.2, X.fr.app N, X.kp.trans K hk⟩
/-- one place of a new object written -/
theorem Wk.wr (X : Wk co Z a0 EL own bytes maxL ret nm ws p l e R s m args below meth c vm0 T h locs cells slots) {T' : State} {h' : Heap} {a : Addr} {sl : Nat} {v : Value} (Y : Stand p l e R (s.setVm vm0) m args below meth c T' (locs ++ [⟨a, sl⟩]) cells slots) (e' : T'.heap = h') (W : Wr h h' a sl v) (S : Safe Z EL vm0 h a) (hn : Z.heap.size ≤ a) (hk : a ∈ ws ∨ s.heap.size ≤ a) : Wk co Z a0 EL own bytes maxL ret nm ws p l e R s m args below meth c vm0 T' h' (locs ++ [⟨a, sl⟩]) cells slots :=
  X.keep Y e' (Keep.of_wr W) (sfS S sf0) (fun y hy => by cases List.mem_singleton.mp hy; exact hn) (allS hn all0) (allS hk all0)
/-- a callee that may intern -/
theorem Wk.cold (X : Wk true Z a0 EL own bytes maxL ret nm ws p l e R s m args below meth c vm0 T h locs cells slots) {T' : State} {L : List Loc} {wc : List Addr} {cells' slots' : Nat} (Y : Stand p l e R ((s.setVm vm0).setVm T'.vm) m args below meth c T' (locs ++ L) cells' slots') (hS : (s.setVm vm0).Since T'.vm T'.heap.size) (hC : CHr Z EL vm0 h T'.vm T'.heap) (K : Keep h T'.heap wc) (N : Fr Z.heap.size L) (O : Ext Z.heap T'.heap) (hk : ∀ x ∈ wc, x ∈ ws ∨ s.heap.size ≤ x) : Wk true Z a0 EL own bytes maxL ret nm ws p l e R s m args below meth c T'.vm T' T'.heap (locs ++ L) cells' slots' := by
  obtain ⟨k0, k1, k2⟩ := X.since
  exact ⟨Y, rfl, ⟨_, k1.trans hS (Nat.le_trans k2 K.1), Nat.le_refl _⟩, fun q => (by cases q), State.Warmed39.trans X.hZ hS.1, (by rw [hS.1.alike.findClass]; exact X.hown), X.ch.trans hC, X.ew, X.2.2.2.2.2.2.2.2.1, O, X.fr.app N, X.kp.trans K hk⟩
theorem safeE {vm : Vm} {x : Addr} : Safe Z [] vm h x := fun B => by obtain ⟨q, hq, -⟩ := B; cases hq
theorem chrE {vm vm' : Vm} {h' : Heap} (q : h.size ≤ h'.size) : CHr Z [] vm h vm' h' := ⟨(fun _ hq => by cases hq), q, fun y B => absurd B safeE⟩
/-- a String whose value is still null is no booked one -/
theorem Safe.blank {vm : Vm} {x : Addr} (hal : Z.vm.Alike vm) (E : Exa Z h x "java/lang/String") {k : Nat} (wi : (Cond.instantiable "java/lang/String" k).before a0 Z = true) (F : Fld Z h x "java/lang/String" "value" "[B" .null) : Safe Z EL vm h x := fun B => by
  obtain ⟨pr, -, u, a, -, q, hq, SB, hy⟩ := B
  have hd := SB.hd
  have ha := SB.ha
  rcases hy with rfl | rfl
  · obtain ⟨cS, ⟨⟨-, -, -, ⟨cv, kv, iv, s4, -⟩, -, -, -, v1, -⟩, -⟩, -⟩ := SB
    obtain ⟨cell, cf, k2, i, f, h1, h2, -, -, -, -, h7⟩ := F
    cases (show h[q.sa]? = some q.sC from ha).symm.trans h1
    obtain ⟨k3, e3, -⟩ := State.fieldFound?_setVm (s := ({ Z with heap := h } : State)) (vm' := vm) hal h2
    have e4 := (show (Wst Z vm h).fieldFound? _ _ _ = _ from e3).symm.trans s4
    simp only [Option.some.injEq, Prod.mk.injEq] at e4
    rw [← e4.2.2.2, h7] at v1
    cases v1
  · obtain ⟨cS, ⟨⟨-, -, -, -, -, -, -, -, -, -, ⟨-, kB, hkB, compB, hkindB⟩, -⟩, -, -⟩, -⟩ := SB
    obtain ⟨cell, kE, e1, e2, e3, -, -⟩ := E
    cases (show h[q.sd]? = some q.SA from hd).symm.trans e1
    obtain ⟨c2, k2, i1, i2, i3, -⟩ := Cond.instantiable_spec wi
    cases e2.symm.trans i1
    obtain ⟨kE', hk', ek⟩ := hal.2.2 _ _ i2
    cases (show vm.classes[q.SA.cls]? = some kB from hkB).symm.trans hk'
    rw [ek, i3] at hkindB
    cases hkindB
theorem Wk.iadd (X : Wk co Z a0 EL own bytes maxL ret nm ws p l e R s m args below meth c vm0 T h locs cells slots) {x y : Int32} (hd : decode bytes pc = .ok (.iadd, 1))  (hp : pc + 1 = pc') (k : Ends p e below G (T.setTop (mkF m pc' ls (.int (x + y) :: rest)))) : Ends p e below G (T.setTop (mkF m pc ls (.int y :: .int x :: rest))) := by
  subst hp; exact Ends.go (fun _ q => XS.iadd X.st.here X.hx rfl (X.hd hd) rfl q) k
theorem Wk.isub (X : Wk co Z a0 EL own bytes maxL ret nm ws p l e R s m args below meth c vm0 T h locs cells slots) {x y : Int32} (hd : decode bytes pc = .ok (.isub, 1))  (hp : pc + 1 = pc') (k : Ends p e below G (T.setTop (mkF m pc' ls (.int (x - y) :: rest)))) : Ends p e below G (T.setTop (mkF m pc ls (.int y :: .int x :: rest))) := by
  subst hp; exact Ends.go (fun _ q => XS.isub X.st.here X.hx rfl (X.hd hd) rfl q) k
theorem Wk.imul (X : Wk co Z a0 EL own bytes maxL ret nm ws p l e R s m args below meth c vm0 T h locs cells slots) {x y : Int32} (hd : decode bytes pc = .ok (.imul, 1))  (hp : pc + 1 = pc') (k : Ends p e below G (T.setTop (mkF m pc' ls (.int (x * y) :: rest)))) : Ends p e below G (T.setTop (mkF m pc ls (.int y :: .int x :: rest))) := by
  subst hp; exact Ends.go (fun _ q => XS.imul X.st.here X.hx rfl (X.hd hd) rfl q) k
theorem Wk.iand (X : Wk co Z a0 EL own bytes maxL ret nm ws p l e R s m args below meth c vm0 T h locs cells slots) {x y : Int32} (hd : decode bytes pc = .ok (.iand, 1))  (hp : pc + 1 = pc') (k : Ends p e below G (T.setTop (mkF m pc' ls (.int (x &&& y) :: rest)))) : Ends p e below G (T.setTop (mkF m pc ls (.int y :: .int x :: rest))) := by
  subst hp; exact Ends.go (fun _ q => XS.iand X.st.here X.hx rfl (X.hd hd) rfl q) k
theorem Wk.ior (X : Wk co Z a0 EL own bytes maxL ret nm ws p l e R s m args below meth c vm0 T h locs cells slots) {x y : Int32} (hd : decode bytes pc = .ok (.ior, 1))  (hp : pc + 1 = pc') (k : Ends p e below G (T.setTop (mkF m pc' ls (.int (x ||| y) :: rest)))) : Ends p e below G (T.setTop (mkF m pc ls (.int y :: .int x :: rest))) := by
  subst hp; exact Ends.go (fun _ q => XS.ior X.st.here X.hx rfl (X.hd hd) rfl q) k
theorem Wk.ixor (X : Wk co Z a0 EL own bytes maxL ret nm ws p l e R s m args below meth c vm0 T h locs cells slots) {x y : Int32} (hd : decode bytes pc = .ok (.ixor, 1))  (hp : pc + 1 = pc') (k : Ends p e below G (T.setTop (mkF m pc' ls (.int (x ^^^ y) :: rest)))) : Ends p e below G (T.setTop (mkF m pc ls (.int y :: .int x :: rest))) := by
  subst hp; exact Ends.go (fun _ q => XS.ixor X.st.here X.hx rfl (X.hd hd) rfl q) k
theorem Wk.ishl (X : Wk co Z a0 EL own bytes maxL ret nm ws p l e R s m args below meth c vm0 T h locs cells slots) {x y : Int32} (hd : decode bytes pc = .ok (.ishl, 1))  (hp : pc + 1 = pc') (k : Ends p e below G (T.setTop (mkF m pc' ls (.int (x <<< (y &&& 31)) :: rest)))) : Ends p e below G (T.setTop (mkF m pc ls (.int y :: .int x :: rest))) := by
  subst hp; exact Ends.go (fun _ q => XS.ishl X.st.here X.hx rfl (X.hd hd) rfl q) k
theorem Wk.ishr (X : Wk co Z a0 EL own bytes maxL ret nm ws p l e R s m args below meth c vm0 T h locs cells slots) {x y : Int32} (hd : decode bytes pc = .ok (.ishr, 1))  (hp : pc + 1 = pc') (k : Ends p e below G (T.setTop (mkF m pc' ls (.int (x >>> (y &&& 31)) :: rest)))) : Ends p e below G (T.setTop (mkF m pc ls (.int y :: .int x :: rest))) := by
  subst hp; exact Ends.go (fun _ q => XS.ishr X.st.here X.hx rfl (X.hd hd) rfl q) k
theorem Wk.iushr (X : Wk co Z a0 EL own bytes maxL ret nm ws p l e R s m args below meth c vm0 T h locs cells slots) {x y : Int32} (hd : decode bytes pc = .ok (.iushr, 1))  (hp : pc + 1 = pc') (k : Ends p e below G (T.setTop (mkF m pc' ls (.int ((x.toUInt32 >>> (y &&& 31).toUInt32).toInt32) :: rest)))) : Ends p e below G (T.setTop (mkF m pc ls (.int y :: .int x :: rest))) := by
  subst hp; exact Ends.go (fun _ q => XS.iushr X.st.here X.hx rfl (X.hd hd) rfl q) k
theorem Wk.ladd (X : Wk co Z a0 EL own bytes maxL ret nm ws p l e R s m args below meth c vm0 T h locs cells slots) {x y : Int64} (hd : decode bytes pc = .ok (.ladd, 1))  (hp : pc + 1 = pc') (k : Ends p e below G (T.setTop (mkF m pc' ls (.long (x + y) :: rest)))) : Ends p e below G (T.setTop (mkF m pc ls (.long y :: .long x :: rest))) := by
  subst hp; exact Ends.go (fun _ q => XS.ladd X.st.here X.hx rfl (X.hd hd) rfl q) k
theorem Wk.lsub (X : Wk co Z a0 EL own bytes maxL ret nm ws p l e R s m args below meth c vm0 T h locs cells slots) {x y : Int64} (hd : decode bytes pc = .ok (.lsub, 1))  (hp : pc + 1 = pc') (k : Ends p e below G (T.setTop (mkF m pc' ls (.long (x - y) :: rest)))) : Ends p e below G (T.setTop (mkF m pc ls (.long y :: .long x :: rest))) := by
  subst hp; exact Ends.go (fun _ q => XS.lsub X.st.here X.hx rfl (X.hd hd) rfl q) k
theorem Wk.land (X : Wk co Z a0 EL own bytes maxL ret nm ws p l e R s m args below meth c vm0 T h locs cells slots) {x y : Int64} (hd : decode bytes pc = .ok (.land, 1))  (hp : pc + 1 = pc') (k : Ends p e below G (T.setTop (mkF m pc' ls (.long (x &&& y) :: rest)))) : Ends p e below G (T.setTop (mkF m pc ls (.long y :: .long x :: rest))) := by
  subst hp; exact Ends.go (fun _ q => XS.land X.st.here X.hx rfl (X.hd hd) rfl q) k
theorem Wk.lxor (X : Wk co Z a0 EL own bytes maxL ret nm ws p l e R s m args below meth c vm0 T h locs cells slots) {x y : Int64} (hd : decode bytes pc = .ok (.lxor, 1))  (hp : pc + 1 = pc') (k : Ends p e below G (T.setTop (mkF m pc' ls (.long (x ^^^ y) :: rest)))) : Ends p e below G (T.setTop (mkF m pc ls (.long y :: .long x :: rest))) := by
  subst hp; exact Ends.go (fun _ q => XS.lxor X.st.here X.hx rfl (X.hd hd) rfl q) k
theorem Wk.lor (X : Wk co Z a0 EL own bytes maxL ret nm ws p l e R s m args below meth c vm0 T h locs cells slots) {x y : Int64} (hd : decode bytes pc = .ok (.lor, 1))  (hp : pc + 1 = pc') (k : Ends p e below G (T.setTop (mkF m pc' ls (.long (x ||| y) :: rest)))) : Ends p e below G (T.setTop (mkF m pc ls (.long y :: .long x :: rest))) := by
  subst hp; exact Ends.go (fun _ q => XS.lor X.st.here X.hx rfl (X.hd hd) rfl q) k
theorem Wk.lushr (X : Wk co Z a0 EL own bytes maxL ret nm ws p l e R s m args below meth c vm0 T h locs cells slots) {x : Int64} {y : Int32} (hd : decode bytes pc = .ok (.lushr, 1))  (hp : pc + 1 = pc') (k : Ends p e below G (T.setTop (mkF m pc' ls (.long (XT.ushrL x y) :: rest)))) : Ends p e below G (T.setTop (mkF m pc ls (.int y :: .long x :: rest))) := by
  subst hp; exact Ends.go (fun _ q => XT.lushr X.st.here X.hx rfl (X.hd hd) rfl q) k
theorem Wk.i2c (X : Wk co Z a0 EL own bytes maxL ret nm ws p l e R s m args below meth c vm0 T h locs cells slots) {x : Int32} (hd : decode bytes pc = .ok (.i2c, 1))  (hp : pc + 1 = pc') (k : Ends p e below G (T.setTop (mkF m pc' ls (.int (x.toUInt32.toUInt16.toUInt32.toInt32) :: rest)))) : Ends p e below G (T.setTop (mkF m pc ls (.int x :: rest))) := by
  subst hp; exact Ends.go (fun _ q => XS.i2c X.st.here X.hx rfl (X.hd hd) rfl q) k
theorem Wk.i2b (X : Wk co Z a0 EL own bytes maxL ret nm ws p l e R s m args below meth c vm0 T h locs cells slots) {x : Int32} (hd : decode bytes pc = .ok (.i2b, 1))  (hp : pc + 1 = pc') (k : Ends p e below G (T.setTop (mkF m pc' ls (.int (x.toInt8.toInt32) :: rest)))) : Ends p e below G (T.setTop (mkF m pc ls (.int x :: rest))) := by
  subst hp; exact Ends.go (fun _ q => XS.i2b X.st.here X.hx rfl (X.hd hd) rfl q) k
theorem Wk.i2l (X : Wk co Z a0 EL own bytes maxL ret nm ws p l e R s m args below meth c vm0 T h locs cells slots) {x : Int32} (hd : decode bytes pc = .ok (.i2l, 1))  (hp : pc + 1 = pc') (k : Ends p e below G (T.setTop (mkF m pc' ls (.long (x.toInt64) :: rest)))) : Ends p e below G (T.setTop (mkF m pc ls (.int x :: rest))) := by
  subst hp; exact Ends.go (fun _ q => XS.i2l X.st.here X.hx rfl (X.hd hd) rfl q) k
theorem Wk.l2i (X : Wk co Z a0 EL own bytes maxL ret nm ws p l e R s m args below meth c vm0 T h locs cells slots) {x : Int64} (hd : decode bytes pc = .ok (.l2i, 1))  (hp : pc + 1 = pc') (k : Ends p e below G (T.setTop (mkF m pc' ls (.int (x.toInt32) :: rest)))) : Ends p e below G (T.setTop (mkF m pc ls (.long x :: rest))) := by
  subst hp; exact Ends.go (fun _ q => XS.l2i X.st.here X.hx rfl (X.hd hd) rfl q) k
theorem Wk.ineg (X : Wk co Z a0 EL own bytes maxL ret nm ws p l e R s m args below meth c vm0 T h locs cells slots) {x : Int32} (hd : decode bytes pc = .ok (.ineg, 1))  (hp : pc + 1 = pc') (k : Ends p e below G (T.setTop (mkF m pc' ls (.int (-x) :: rest)))) : Ends p e below G (T.setTop (mkF m pc ls (.int x :: rest))) := by
  subst hp; exact Ends.go (fun _ q => XS.ineg X.st.here X.hx rfl (X.hd hd) rfl q) k
theorem Wk.iconst (X : Wk co Z a0 EL own bytes maxL ret nm ws p l e R s m args below meth c vm0 T h locs cells slots) {i : Int} (v : Int32) (hd : decode bytes pc = .ok (.iconst i, 1)) (hv : Int32.ofInt i = v) (hp : pc + 1 = pc') (k : Ends p e below G (T.setTop (mkF m pc' ls (.int v :: rest)))) : Ends p e below G (T.setTop (mkF m pc ls rest)) := by
  subst hp; subst hv; exact Ends.go (fun _ q => XS.iconst X.st.here X.hx rfl (X.hd hd)  q) k
theorem Wk.bipush (X : Wk co Z a0 EL own bytes maxL ret nm ws p l e R s m args below meth c vm0 T h locs cells slots) {i : Int} (v : Int32) (hd : decode bytes pc = .ok (.bipush i, 2)) (hv : (Int8.ofInt i).toInt32 = v) (hp : pc + 2 = pc') (k : Ends p e below G (T.setTop (mkF m pc' ls (.int v :: rest)))) : Ends p e below G (T.setTop (mkF m pc ls rest)) := by
  subst hp; subst hv; exact Ends.go (fun _ q => XS.bipush X.st.here X.hx rfl (X.hd hd)  q) k
theorem Wk.sipush (X : Wk co Z a0 EL own bytes maxL ret nm ws p l e R s m args below meth c vm0 T h locs cells slots) {i : Int} (v : Int32) (hd : decode bytes pc = .ok (.sipush i, 3)) (hv : (Int16.ofInt i).toInt32 = v) (hp : pc + 3 = pc') (k : Ends p e below G (T.setTop (mkF m pc' ls (.int v :: rest)))) : Ends p e below G (T.setTop (mkF m pc ls rest)) := by
  subst hp; subst hv; exact Ends.go (fun _ q => XS.sipush X.st.here X.hx rfl (X.hd hd)  q) k
theorem Wk.aconstNull (X : Wk co Z a0 EL own bytes maxL ret nm ws p l e R s m args below meth c vm0 T h locs cells slots)  (hd : decode bytes pc = .ok (.aconst_null, 1))  (hp : pc + 1 = pc') (k : Ends p e below G (T.setTop (mkF m pc' ls (.null :: rest)))) : Ends p e below G (T.setTop (mkF m pc ls rest)) := by
  subst hp; exact Ends.go (fun _ q => XS.aconstNull X.st.here X.hx rfl (X.hd hd)  q) k
theorem Wk.aloadN (X : Wk co Z a0 EL own bytes maxL ret nm ws p l e R s m args below meth c vm0 T h locs cells slots) {k : Fin 4} {v : Value} (hd : decode bytes pc = .ok (.aload_n k, 1)) (hl : ls[k.val]? = some (.val v)) (hv : v.isRef = true) (hp : pc + 1 = pc') (kk : Ends p e below G (T.setTop (mkF m pc' ls (v :: rest)))) : Ends p e below G (T.setTop (mkF m pc ls rest)) := by
  subst hp; exact Ends.go (fun _ q => XS.aloadN X.st.here X.hx rfl (X.hd hd) hl hv q) kk
theorem Wk.aload (X : Wk co Z a0 EL own bytes maxL ret nm ws p l e R s m args below meth c vm0 T h locs cells slots) {k : Nat} {v : Value} (hd : decode bytes pc = .ok (.aload k, 2)) (hl : ls[k]? = some (.val v)) (hv : v.isRef = true) (hp : pc + 2 = pc') (kk : Ends p e below G (T.setTop (mkF m pc' ls (v :: rest)))) : Ends p e below G (T.setTop (mkF m pc ls rest)) := by
  subst hp; exact Ends.go (fun _ q => XS.aload X.st.here X.hx rfl (X.hd hd) hl hv q) kk
theorem Wk.iloadN (X : Wk co Z a0 EL own bytes maxL ret nm ws p l e R s m args below meth c vm0 T h locs cells slots) {k : Fin 4} {v : Int32} (hd : decode bytes pc = .ok (.iload_n k, 1)) (hl : ls[k.val]? = some (.val (.int v))) (hp : pc + 1 = pc') (kk : Ends p e below G (T.setTop (mkF m pc' ls (.int v :: rest)))) : Ends p e below G (T.setTop (mkF m pc ls rest)) := by
  subst hp; exact Ends.go (fun _ q => XS.iloadN X.st.here X.hx rfl (X.hd hd) hl q) kk
theorem Wk.iload (X : Wk co Z a0 EL own bytes maxL ret nm ws p l e R s m args below meth c vm0 T h locs cells slots) {k : Nat} {v : Int32} (hd : decode bytes pc = .ok (.iload k, 2)) (hl : ls[k]? = some (.val (.int v))) (hp : pc + 2 = pc') (kk : Ends p e below G (T.setTop (mkF m pc' ls (.int v :: rest)))) : Ends p e below G (T.setTop (mkF m pc ls rest)) := by
  subst hp; exact Ends.go (fun _ q => XS.iload X.st.here X.hx rfl (X.hd hd) hl q) kk
theorem Wk.lloadN (X : Wk co Z a0 EL own bytes maxL ret nm ws p l e R s m args below meth c vm0 T h locs cells slots) {k : Fin 4} {v : Int64} (hd : decode bytes pc = .ok (.lload_n k, 1)) (hl : ls[k.val]? = some (.val (.long v))) (hp : pc + 1 = pc') (kk : Ends p e below G (T.setTop (mkF m pc' ls (.long v :: rest)))) : Ends p e below G (T.setTop (mkF m pc ls rest)) := by
  subst hp; exact Ends.go (fun _ q => XS.lloadN X.st.here X.hx rfl (X.hd hd) hl q) kk
theorem Wk.lload (X : Wk co Z a0 EL own bytes maxL ret nm ws p l e R s m args below meth c vm0 T h locs cells slots) {k : Nat} {v : Int64} (hd : decode bytes pc = .ok (.lload k, 2)) (hl : ls[k]? = some (.val (.long v))) (hp : pc + 2 = pc') (kk : Ends p e below G (T.setTop (mkF m pc' ls (.long v :: rest)))) : Ends p e below G (T.setTop (mkF m pc ls rest)) := by
  subst hp; exact Ends.go (fun _ q => XS.lload X.st.here X.hx rfl (X.hd hd) hl q) kk
theorem Wk.istoreN (X : Wk co Z a0 EL own bytes maxL ret nm ws p l e R s m args below meth c vm0 T h locs cells slots) {k : Fin 4} {x : Int32} (ls' : Array Slot) (hd : decode bytes pc = .ok (.istore_n k, 1)) (hl : storeLocals ls k.val (.int x) = some ls') (hp : pc + 1 = pc') (kk : Ends p e below G (T.setTop (mkF m pc' ls' rest))) : Ends p e below G (T.setTop (mkF m pc ls (.int x :: rest))) := by
  subst hp; exact Ends.go (fun _ q => XS.istoreN X.st.here X.hx rfl (X.hd hd) rfl hl q) kk
theorem Wk.istore (X : Wk co Z a0 EL own bytes maxL ret nm ws p l e R s m args below meth c vm0 T h locs cells slots) {k : Nat} {x : Int32} (ls' : Array Slot) (hd : decode bytes pc = .ok (.istore k, 2)) (hl : storeLocals ls k (.int x) = some ls') (hp : pc + 2 = pc') (kk : Ends p e below G (T.setTop (mkF m pc' ls' rest))) : Ends p e below G (T.setTop (mkF m pc ls (.int x :: rest))) := by
  subst hp; exact Ends.go (fun _ q => XS.istore X.st.here X.hx rfl (X.hd hd) rfl hl q) kk
theorem Wk.lstoreN (X : Wk co Z a0 EL own bytes maxL ret nm ws p l e R s m args below meth c vm0 T h locs cells slots) {k : Fin 4} {x : Int64} (ls' : Array Slot) (hd : decode bytes pc = .ok (.lstore_n k, 1)) (hl : storeLocals ls k.val (.long x) = some ls') (hp : pc + 1 = pc') (kk : Ends p e below G (T.setTop (mkF m pc' ls' rest))) : Ends p e below G (T.setTop (mkF m pc ls (.long x :: rest))) := by
  subst hp; exact Ends.go (fun _ q => XS.lstoreN X.st.here X.hx rfl (X.hd hd) rfl hl q) kk
theorem Wk.lstore (X : Wk co Z a0 EL own bytes maxL ret nm ws p l e R s m args below meth c vm0 T h locs cells slots) {k : Nat} {x : Int64} (ls' : Array Slot) (hd : decode bytes pc = .ok (.lstore k, 2)) (hl : storeLocals ls k (.long x) = some ls') (hp : pc + 2 = pc') (kk : Ends p e below G (T.setTop (mkF m pc' ls' rest))) : Ends p e below G (T.setTop (mkF m pc ls (.long x :: rest))) := by
  subst hp; exact Ends.go (fun _ q => XS.lstore X.st.here X.hx rfl (X.hd hd) rfl hl q) kk
theorem Wk.astoreN (X : Wk co Z a0 EL own bytes maxL ret nm ws p l e R s m args below meth c vm0 T h locs cells slots) {k : Fin 4} {x : Value} (ls' : Array Slot) (hd : decode bytes pc = .ok (.astore_n k, 1)) (hv : x.isRef = true) (hl : storeLocals ls k.val x = some ls') (hp : pc + 1 = pc') (kk : Ends p e below G (T.setTop (mkF m pc' ls' rest))) : Ends p e below G (T.setTop (mkF m pc ls (x :: rest))) := by
  subst hp; exact Ends.go (fun _ q => XS.astoreN X.st.here X.hx rfl (X.hd hd) rfl hv hl q) kk
theorem Wk.astore (X : Wk co Z a0 EL own bytes maxL ret nm ws p l e R s m args below meth c vm0 T h locs cells slots) {k : Nat} {x : Value} (ls' : Array Slot) (hd : decode bytes pc = .ok (.astore k, 2)) (hv : x.isRef = true) (hl : storeLocals ls k x = some ls') (hp : pc + 2 = pc') (kk : Ends p e below G (T.setTop (mkF m pc' ls' rest))) : Ends p e below G (T.setTop (mkF m pc ls (x :: rest))) := by
  subst hp; exact Ends.go (fun _ q => XS.astore X.st.here X.hx rfl (X.hd hd) rfl hv hl q) kk
theorem Wk.iinc (X : Wk co Z a0 EL own bytes maxL ret nm ws p l e R s m args below meth c vm0 T h locs cells slots) {k : Nat} {cst : Int} {x : Int32} (ls' : Array Slot) (hd : decode bytes pc = .ok (.iinc k cst, 3)) (hl : ls[k]? = some (.val (.int x))) (hl' : storeLocals ls k (.int (x + Int32.ofInt cst)) = some ls') (hp : pc + 3 = pc') (kk : Ends p e below G (T.setTop (mkF m pc' ls' rest))) : Ends p e below G (T.setTop (mkF m pc ls rest)) := by
  subst hp; exact Ends.go (fun _ q => XS.iinc X.st.here X.hx rfl (X.hd hd) hl hl' q) kk
theorem Wk.dup (X : Wk co Z a0 EL own bytes maxL ret nm ws p l e R s m args below meth c vm0 T h locs cells slots) {x : Value} (hd : decode bytes pc = .ok (.dup, 1)) (hc : x.category = 1) (hp : pc + 1 = pc') (k : Ends p e below G (T.setTop (mkF m pc' ls (x :: x :: rest)))) : Ends p e below G (T.setTop (mkF m pc ls (x :: rest))) := by
  subst hp; exact Ends.go (fun _ q => XS.dup X.st.here X.hx rfl (X.hd hd) rfl hc q) k
theorem Wk.pop (X : Wk co Z a0 EL own bytes maxL ret nm ws p l e R s m args below meth c vm0 T h locs cells slots) {x : Value} (hd : decode bytes pc = .ok (.pop, 1)) (hc : x.category = 1) (hp : pc + 1 = pc') (k : Ends p e below G (T.setTop (mkF m pc' ls rest))) : Ends p e below G (T.setTop (mkF m pc ls (x :: rest))) := by
  subst hp; exact Ends.go (fun _ q => XS.pop X.st.here X.hx rfl (X.hd hd) rfl hc q) k
theorem Wk.dupX1 (X : Wk co Z a0 EL own bytes maxL ret nm ws p l e R s m args below meth c vm0 T h locs cells slots) {x y : Value} (hd : decode bytes pc = .ok (.dup_x1, 1)) (hc : x.category = 1) (hc' : y.category = 1) (hp : pc + 1 = pc') (k : Ends p e below G (T.setTop (mkF m pc' ls (x :: y :: x :: rest)))) : Ends p e below G (T.setTop (mkF m pc ls (x :: y :: rest))) := by
  subst hp; exact Ends.go (fun _ q => XS.dupX1 X.st.here X.hx rfl (X.hd hd) rfl hc hc' q) k
theorem Wk.irem (X : Wk co Z a0 EL own bytes maxL ret nm ws p l e R s m args below meth c vm0 T h locs cells slots) {x y : Int32} (hd : decode bytes pc = .ok (.irem, 1)) (hy : y ≠ 0) (hp : pc + 1 = pc') (k : Ends p e below G (T.setTop (mkF m pc' ls (.int (x % y) :: rest)))) : Ends p e below G (T.setTop (mkF m pc ls (.int y :: .int x :: rest))) := by
  subst hp; exact Ends.go (fun _ q => iremM X.st X.hx rfl (X.hd hd) rfl hy q) k
theorem Wk.idiv (X : Wk co Z a0 EL own bytes maxL ret nm ws p l e R s m args below meth c vm0 T h locs cells slots) {x y : Int32} (hd : decode bytes pc = .ok (.idiv, 1)) (hy : y ≠ 0) (hp : pc + 1 = pc') (k : Ends p e below G (T.setTop (mkF m pc' ls (.int (x / y) :: rest)))) : Ends p e below G (T.setTop (mkF m pc ls (.int y :: .int x :: rest))) := by
  subst hp; exact Ends.go (fun _ q => XS.idiv X.st.here X.hx rfl (X.hd hd) rfl hy q) k
theorem Wk.goto (X : Wk co Z a0 EL own bytes maxL ret nm ws p l e R s m args below meth c vm0 T h locs cells slots)  {o : Int} (hd : decode bytes pc = .ok (.goto o, 3))  (ho : 0 ≤ (pc : Int) + o) (hp : ((pc : Int) + o).toNat = pc') (k : Ends p e below G (T.setTop (mkF m pc' ls rest))) : Ends p e below G (T.setTop (mkF m pc ls rest)) :=
  Ends.go (fun _ q => XS.goto X.st.here X.hx rfl (pc0 := pc) rfl (X.hd hd)  ho hp q) k
theorem Wk.ifY (X : Wk co Z a0 EL own bytes maxL ret nm ws p l e R s m args below meth c vm0 T h locs cells slots) {cd : ClassFile.Cond} {x : Int32} {o : Int} (hd : decode bytes pc = .ok (.ifCond cd o, 3)) (hc : ifCond.holds cd x = true) (ho : 0 ≤ (pc : Int) + o) (hp : ((pc : Int) + o).toNat = pc') (k : Ends p e below G (T.setTop (mkF m pc' ls rest))) : Ends p e below G (T.setTop (mkF m pc ls (.int x :: rest))) :=
  Ends.go (fun _ q => XS.ifYes X.st.here X.hx rfl (pc0 := pc) rfl (X.hd hd) rfl hc ho hp q) k
theorem Wk.ifN (X : Wk co Z a0 EL own bytes maxL ret nm ws p l e R s m args below meth c vm0 T h locs cells slots) {cd : ClassFile.Cond} {x : Int32} {o : Int} (hd : decode bytes pc = .ok (.ifCond cd o, 3)) (hc : ifCond.holds cd x = false) (hp : pc + 3 = pc') (k : Ends p e below G (T.setTop (mkF m pc' ls rest))) : Ends p e below G (T.setTop (mkF m pc ls (.int x :: rest))) := by
  subst hp; exact Ends.go (fun _ q => XS.ifNo X.st.here X.hx rfl (X.hd hd) rfl hc q) k
theorem Wk.icY (X : Wk co Z a0 EL own bytes maxL ret nm ws p l e R s m args below meth c vm0 T h locs cells slots) {cd : ClassFile.Cond} {x y : Int32} {o : Int} (hd : decode bytes pc = .ok (.if_icmp cd o, 3)) (hc : if_icmp.holds cd x y = true) (ho : 0 ≤ (pc : Int) + o) (hp : ((pc : Int) + o).toNat = pc') (k : Ends p e below G (T.setTop (mkF m pc' ls rest))) : Ends p e below G (T.setTop (mkF m pc ls (.int y :: .int x :: rest))) :=
  Ends.go (fun _ q => XS.icmpYes X.st.here X.hx rfl (pc0 := pc) rfl (X.hd hd) rfl hc ho hp q) k
theorem Wk.icN (X : Wk co Z a0 EL own bytes maxL ret nm ws p l e R s m args below meth c vm0 T h locs cells slots) {cd : ClassFile.Cond} {x y : Int32} {o : Int} (hd : decode bytes pc = .ok (.if_icmp cd o, 3)) (hc : if_icmp.holds cd x y = false) (hp : pc + 3 = pc') (k : Ends p e below G (T.setTop (mkF m pc' ls rest))) : Ends p e below G (T.setTop (mkF m pc ls (.int y :: .int x :: rest))) := by
  subst hp; exact Ends.go (fun _ q => XS.icmpNo X.st.here X.hx rfl (X.hd hd) rfl hc q) k
theorem Wk.nullY (X : Wk co Z a0 EL own bytes maxL ret nm ws p l e R s m args below meth c vm0 T h locs cells slots)  {o : Int} (hd : decode bytes pc = .ok (.ifnull o, 3))  (ho : 0 ≤ (pc : Int) + o) (hp : ((pc : Int) + o).toNat = pc') (k : Ends p e below G (T.setTop (mkF m pc' ls rest))) : Ends p e below G (T.setTop (mkF m pc ls (.null :: rest))) :=
  Ends.go (fun _ q => XS.ifnullYes X.st.here X.hx rfl (pc0 := pc) rfl (X.hd hd) rfl ho hp q) k
theorem Wk.nullN (X : Wk co Z a0 EL own bytes maxL ret nm ws p l e R s m args below meth c vm0 T h locs cells slots) {b : Addr} {o : Int} (hd : decode bytes pc = .ok (.ifnull o, 3))  (hp : pc + 3 = pc') (k : Ends p e below G (T.setTop (mkF m pc' ls rest))) : Ends p e below G (T.setTop (mkF m pc ls (.ref b :: rest))) := by
  subst hp; exact Ends.go (fun _ q => XS.ifnullNo X.st.here X.hx rfl (X.hd hd) rfl q) k
theorem Wk.nonY (X : Wk co Z a0 EL own bytes maxL ret nm ws p l e R s m args below meth c vm0 T h locs cells slots) {b : Addr} {o : Int} (hd : decode bytes pc = .ok (.ifnonnull o, 3))  (ho : 0 ≤ (pc : Int) + o) (hp : ((pc : Int) + o).toNat = pc') (k : Ends p e below G (T.setTop (mkF m pc' ls rest))) : Ends p e below G (T.setTop (mkF m pc ls (.ref b :: rest))) :=
  Ends.go (fun _ q => XS.ifnonnullYes X.st.here X.hx rfl (pc0 := pc) rfl (X.hd hd) rfl ho hp q) k
theorem Wk.nonN (X : Wk co Z a0 EL own bytes maxL ret nm ws p l e R s m args below meth c vm0 T h locs cells slots)  {o : Int} (hd : decode bytes pc = .ok (.ifnonnull o, 3))  (hp : pc + 3 = pc') (k : Ends p e below G (T.setTop (mkF m pc' ls rest))) : Ends p e below G (T.setTop (mkF m pc ls (.null :: rest))) := by
  subst hp; exact Ends.go (fun _ q => XS.ifnonnullNo X.st.here X.hx rfl (X.hd hd) rfl q) k
theorem Wk.acmp (X : Wk co Z a0 EL own bytes maxL ret nm ws p l e R s m args below meth c vm0 T h locs cells slots) {cd : ACond} {x y : Value} {o : Int} (hd : decode bytes pc = .ok (.if_acmp cd o, 3)) (h1 : x.isRef = true) (h2 : y.isRef = true) (same : Bool) (hq : decide (x = y) = same) (ho : 0 ≤ (pc : Int) + o) (hp : pc' = if acV cd same = true then ((pc : Int) + o).toNat else pc + 3) (k : Ends p e below G (T.setTop (mkF m pc' ls rest))) : Ends p e below G (T.setTop (mkF m pc ls (y :: x :: rest))) :=
  Ends.go (fun _ q => Jvm.RoadKit.acmp (g := mkF m pc ls (y :: x :: rest)) X.st X.hx rfl h1 h2 (pc0 := pc) rfl (X.hd hd) rfl hq ho hp q) k
theorem Wk.getF (X : Wk co Z a0 EL own bytes maxL ret nm ws p l e R s m args below meth c vm0 T h locs cells slots) {R0 O n d : String} {index : Nat} (w : (Cond.fieldLink own index R0 n d).before a0 Z = true) (via : Via Z R0 O n d) {a : Addr} {v : Value} (F : Fld Z h a O n d v) (hd : decode bytes pc = .ok (.getfield index, 3)) (hp : pc + 3 = pc') (k : ∀ T, Wk co Z a0 EL own bytes maxL ret nm ws p l e R s m args below meth c vm0 T h locs cells slots → Ends p e below G (T.setTop (mkF m pc' ls (v :: rest)))) : Ends p e below G (T.setTop (mkF m pc ls (.ref a :: rest))) := by
  subst hp
  obtain ⟨T', Y, e', st⟩ := RoadKit.getF X.st X.hx X.hZ X.hown (host := "") (Or.inl w) via X.eT F (g := mkF m pc ls (.ref a :: rest)) rfl rfl (X.hd hd)
  exact Ends.go (fun _ q => st _ q) (k _ (X.same Y e'))
theorem Wk.getS (X : Wk co Z a0 EL own bytes maxL ret nm ws p l e R s m args below meth c vm0 T h locs cells slots) {R0 O n d : String} {index : Nat} (w : (Cond.fieldLink own index R0 n d).before a0 Z = true) (via : Via Z R0 O n d) {v : Value} (F : Sta Z Z.heap O n d v) (hd : decode bytes pc = .ok (.getstatic index, 3)) (hp : pc + 3 = pc') (k : ∀ T, Wk co Z a0 EL own bytes maxL ret nm ws p l e R s m args below meth c vm0 T h locs cells slots → Ends p e below G (T.setTop (mkF m pc' ls (v :: rest)))) : Ends p e below G (T.setTop (mkF m pc ls rest)) := by
  subst hp
  obtain ⟨T', Y, e', st⟩ := RoadKit.getS (host := "") X.st X.hx X.hZ X.hown w via X.eT (F.ext X.old) (g := mkF m pc ls rest) rfl (X.hd hd)
  exact Ends.go (fun _ q => st _ q) (k _ (X.same Y e'))
theorem Wk.putF (X : Wk co Z a0 EL own bytes maxL ret nm ws p l e R s m args below meth c vm0 T h locs cells slots) {R0 O n d C : String} {index kk : Nat} (w : (Cond.fieldLink own index R0 n d).before a0 Z = true) (via : Via Z R0 O n d) {a : Addr} {v old : Value} (F : Fld Z h a O n d old) (E : Exa Z h a C) (L : (Cond.lays C O n d).before a0 Z = true ∨ ((Cond.laysFinal C O n d).before a0 Z = true ∧ own = O ∧ nm = "<init>")) (wi : (Cond.instantiable C kk).before a0 Z = true) (ty : FieldType) (hty : parseFieldDescriptor d = some ty) (hn : narrow ty v = v) (hf : fits ty v = true) (S : Safe Z EL vm0 h a) (hz : Z.heap.size ≤ a) (hk : a ∈ ws ∨ s.heap.size ≤ a) (hd : decode bytes pc = .ok (.putfield index, 3)) (hp : pc + 3 = pc') (k : ∀ T h' L, Wk co Z a0 EL own bytes maxL ret nm ws p l e R s m args below meth c vm0 T h' L cells slots → Wr h h' a (RoadKit.slotOf Z O n d) v → Ends p e below G (T.setTop (mkF m pc' ls rest))) : Ends p e below G (T.setTop (mkF m pc ls (v :: .ref a :: rest))) := by
  subst hp
  obtain ⟨T', h', Y, e', W, st⟩ := RoadKit.putF X.st X.hx X.hZ X.hown (host := "") (Or.inl w) via X.eT F E (L.imp id fun q => ⟨q.1, q.2.1, X.hnm.trans q.2.2⟩) wi hty hn hf (g := mkF m pc ls (v :: .ref a :: rest)) rfl rfl (X.hd hd)
  exact Ends.go (fun _ q => st _ q) (k _ _ _ (X.wr Y e' W S hz hk) W)
theorem Wk.newO (X : Wk co Z a0 EL own bytes maxL ret nm ws p l e R s m args below meth c vm0 T h locs cells slots) {C : String} {index n : Nat} (w : (Cond.classLink own index C).before a0 Z = true) (wi : (Cond.instantiable C n).before a0 Z = true) (wz : (Cond.initialized C).before a0 Z = true) (hd : decode bytes pc = .ok (.new index, 3)) (hc : cells + 1 ≤ R.cells) (hl : slots + n ≤ R.slots) (hp : pc + 3 = pc') (k : ∀ T h' b, b = h.size → Ext h h' → b < h'.size → Exa Z h' b C → (∀ {O nm d : String} {ty : FieldType}, Laid Z a0 C O nm d → parseFieldDescriptor d = some ty → Fld Z h' b O nm d (defaultValue ty)) → Wk co Z a0 EL own bytes maxL ret nm ws p l e R s m args below meth c vm0 T h' locs (cells + 1) (slots + n) → Ends p e below G (T.setTop (mkF m pc' ls (.ref b :: rest)))) : Ends p e below G (T.setTop (mkF m pc ls rest)) := by
  subst hp
  obtain ⟨T', h', Y, e', E, A, D, -, st⟩ := RoadKit.newO X.st X.hx X.hZ X.hown w wi wz X.eT (g := mkF m pc ls rest) rfl (X.hd hd) hc hl
  exact Ends.go (fun _ q => st _ q) (k _ _ _ rfl E A.lt A D (X.ext Y e' E))
theorem Wk.newP (X : Wk co Z a0 EL own bytes maxL ret nm ws p l e R s m args below meth c vm0 T h locs cells slots) {aty : ArrayType} (w : (Cond.arrayClass (newarray.typeOf aty)).before a0 Z = true) {n : Int32} (hd : decode bytes pc = .ok (.newarray aty, 2)) (hn : ¬ n < 0) (cap : Nat) (hcap : n.toNatClampNeg ≤ cap) (hb : cap * 8 ≤ 536870912) (hc : cells + 1 ≤ R.cells) (hl : slots + cap ≤ R.slots) (hp : pc + 2 = pc') (k : ∀ T h' b ka, b = h.size → Ext h h' → b < h'.size → Arv Z h' b ka (newarray.typeOf aty) n [] (defaultValue (newarray.typeOf aty)) → Wk co Z a0 EL own bytes maxL ret nm ws p l e R s m args below meth c vm0 T h' locs (cells + 1) (slots + cap) → Ends p e below G (T.setTop (mkF m pc' ls (.ref b :: rest)))) : Ends p e below G (T.setTop (mkF m pc ls (.int n :: rest))) := by
  subst hp
  obtain ⟨T', h', ka, Y, e', E, A, st⟩ := RoadKit.newP X.st X.hx X.hZ w X.eT (g := mkF m pc ls (.int n :: rest)) rfl (X.hd hd) rfl hn hcap hb hc hl
  exact Ends.go (fun _ q => st _ q) (k _ _ _ _ rfl E A.lt (Arv.new A hn) (X.ext Y e' E))
theorem Wk.castore (X : Wk co Z a0 EL own bytes maxL ret nm ws p l e R s m args below meth c vm0 T h locs cells slots) {a : Addr} {ka : ClassId} {z j x : Int32} {vs : List Value} {dv : Value} (A : Arv Z h a ka .char z vs dv) (hj : ¬ j < 0 ∧ j < z) (i : Nat) (hi : j.toNatClampNeg = i) (hl : i < vs.length) (hz : Z.heap.size ≤ a) (hk : a ∈ ws ∨ s.heap.size ≤ a) (hd : decode bytes pc = .ok (.castore, 1)) (hp : pc + 1 = pc') (k : ∀ T h' L, Wk co Z a0 EL own bytes maxL ret nm ws p l e R s m args below meth c vm0 T h' L cells slots → Wr h h' a j.toNatClampNeg (.int (nar .char x)) → Arv Z h' a ka .char z (vs.set i (.int (nar .char x))) dv → Ends p e below G (T.setTop (mkF m pc' ls rest))) : Ends p e below G (T.setTop (mkF m pc ls (.int x :: .int j :: .ref a :: rest))) := by
  subst hp
  have S0 := (Safe.arv (EL := EL) X.al A (by decide))
  obtain ⟨cl, Ar, q1, S1, N1, H1, G1⟩ := A
  obtain ⟨T', h', Y, e', W, st⟩ := RoadKit.stC X.st X.hx X.hZ X.eT Ar (j := j) (inb_of S1 hj) (g := mkF m pc ls (.int x :: .int j :: .ref a :: rest)) rfl rfl (X.hd hd)
  exact Ends.go (fun _ q => st _ q) (k _ _ _ (X.wr Y e' W S0 hz hk) W (Arv.set Ar q1 S1 N1 H1 G1 (fits_nar_char _) W i hi hl))
theorem Wk.bastore (X : Wk co Z a0 EL own bytes maxL ret nm ws p l e R s m args below meth c vm0 T h locs cells slots) {a : Addr} {ka : ClassId} {z j x : Int32} {vs : List Value} {dv : Value} (A : Arv Z h a ka .byte z vs dv) (hj : ¬ j < 0 ∧ j < z) (i : Nat) (hi : j.toNatClampNeg = i) (hl : i < vs.length) (S : Safe Z EL vm0 h a) (hz : Z.heap.size ≤ a) (hk : a ∈ ws ∨ s.heap.size ≤ a) (hd : decode bytes pc = .ok (.bastore, 1)) (hp : pc + 1 = pc') (k : ∀ T h' L, Wk co Z a0 EL own bytes maxL ret nm ws p l e R s m args below meth c vm0 T h' L cells slots → Wr h h' a j.toNatClampNeg (.int (nar .byte x)) → Arv Z h' a ka .byte z (vs.set i (.int (nar .byte x))) dv → Ends p e below G (T.setTop (mkF m pc' ls rest))) : Ends p e below G (T.setTop (mkF m pc ls (.int x :: .int j :: .ref a :: rest))) := by
  subst hp
  have S0 := S
  obtain ⟨cl, Ar, q1, S1, N1, H1, G1⟩ := A
  obtain ⟨T', h', Y, e', W, st⟩ := RoadKit.stB X.st X.hx X.hZ X.eT Ar (j := j) (inb_of S1 hj) (g := mkF m pc ls (.int x :: .int j :: .ref a :: rest)) rfl rfl (X.hd hd)
  exact Ends.go (fun _ q => st _ q) (k _ _ _ (X.wr Y e' W S0 hz hk) W (Arv.set Ar q1 S1 N1 H1 G1 (fits_nar_byte _) W i hi hl))
theorem Wk.caload (X : Wk co Z a0 EL own bytes maxL ret nm ws p l e R s m args below meth c vm0 T h locs cells slots) {a : Addr} {ka : ClassId} {z j v : Int32} {vs : List Value} {dv : Value} (A : Arv Z h a ka .char z vs dv) (hj : ¬ j < 0 ∧ j < z) (hv : vs.getD j.toNatClampNeg dv = .int v) (hd : decode bytes pc = .ok (.caload, 1)) (hp : pc + 1 = pc') (k : Ends p e below G (T.setTop (mkF m pc' ls (.int v :: rest)))) : Ends p e below G (T.setTop (mkF m pc ls (.int j :: .ref a :: rest))) := by
  subst hp
  obtain ⟨cl, Ar, q1, S1, N1, H1, G1⟩ := A
  have hin := inb_of S1 hj
  exact Ends.go (fun t q => X.st.caload X.hx (j := j) (v := .int v) (by rw [X.eT]; exact Ar.1) (State.isArrayOf_alike X.al Ar.2.1) Ar.2.2 hin (H1.at hin hv) (g := mkF m pc ls (.int j :: .ref a :: rest)) rfl rfl (X.hd hd) t q) k
theorem Wk.baload (X : Wk co Z a0 EL own bytes maxL ret nm ws p l e R s m args below meth c vm0 T h locs cells slots) {a : Addr} {ka : ClassId} {z j v : Int32} {vs : List Value} {dv : Value} (A : Arv Z h a ka .byte z vs dv) (hj : ¬ j < 0 ∧ j < z) (hv : vs.getD j.toNatClampNeg dv = .int v) (hd : decode bytes pc = .ok (.baload, 1)) (hp : pc + 1 = pc') (k : Ends p e below G (T.setTop (mkF m pc' ls (.int v :: rest)))) : Ends p e below G (T.setTop (mkF m pc ls (.int j :: .ref a :: rest))) := by
  subst hp
  obtain ⟨cl, Ar, q1, S1, N1, H1, G1⟩ := A
  have hin := inb_of S1 hj
  exact Ends.go (fun t q => X.st.baloadBytes X.hx (j := j) (v := .int v) (by rw [X.eT]; exact Ar.1) (State.isArrayOf_alike X.al Ar.2.1) Ar.2.2 hin (H1.at hin hv) (g := mkF m pc ls (.int j :: .ref a :: rest)) rfl rfl (X.hd hd) t q) k
theorem Wk.alen (X : Wk co Z a0 EL own bytes maxL ret nm ws p l e R s m args below meth c vm0 T h locs cells slots) {a : Addr} {ka : ClassId} {ty : FieldType} {z : Int32} {vs : List Value} {dv : Value} (A : Arv Z h a ka ty z vs dv) (hd : decode bytes pc = .ok (.arraylength, 1)) (hp : pc + 1 = pc') (k : Ends p e below G (T.setTop (mkF m pc' ls (.int z :: rest)))) : Ends p e below G (T.setTop (mkF m pc ls (.ref a :: rest))) := by
  subst hp
  obtain ⟨cl, Ar, q1, S1, N1, H1, G1⟩ := A
  refine Ends.go (fun t q => X.st.arraylength X.hx (by rw [X.eT]; exact Ar.1) (State.isArrayOf_alike X.al Ar.2.1) (g := mkF m pc ls (.ref a :: rest)) rfl rfl (X.hd hd) t ?_) k
  rw [len_of S1 N1]; exact q
theorem Wk.castY (X : Wk co Z a0 EL own bytes maxL ret nm ws p l e R s m args below meth c vm0 T h locs cells slots) {K : String} {index : Nat} (w : (Cond.classLink own index K).before a0 Z = true) {a : Addr} (F : Ins Z h a K true) (hd : decode bytes pc = .ok (.checkcast index, 3)) (hp : pc + 3 = pc') (k : ∀ T, Wk co Z a0 EL own bytes maxL ret nm ws p l e R s m args below meth c vm0 T h locs cells slots → Ends p e below G (T.setTop (mkF m pc' ls (.ref a :: rest)))) : Ends p e below G (T.setTop (mkF m pc ls (.ref a :: rest))) := by
  subst hp
  obtain ⟨T', Y, e', st⟩ := RoadKit.castY X.st X.hx X.hZ X.hown w X.eT F (g := mkF m pc ls (.ref a :: rest)) rfl rfl (X.hd hd)
  exact Ends.go (fun _ q => st _ q) (k _ (X.same Y e'))
theorem Wk.instY (X : Wk co Z a0 EL own bytes maxL ret nm ws p l e R s m args below meth c vm0 T h locs cells slots) {K : String} {index : Nat} (w : (Cond.classLink own index K).before a0 Z = true) {a : Addr} (F : Ins Z h a K true) (hd : decode bytes pc = .ok (.instanceof index, 3)) (hp : pc + 3 = pc') (k : ∀ T, Wk co Z a0 EL own bytes maxL ret nm ws p l e R s m args below meth c vm0 T h locs cells slots → Ends p e below G (T.setTop (mkF m pc' ls (.int 1 :: rest)))) : Ends p e below G (T.setTop (mkF m pc ls (.ref a :: rest))) := by
  subst hp
  obtain ⟨T', Y, e', st⟩ := RoadKit.instY X.st X.hx X.hZ X.hown w X.eT F (g := mkF m pc ls (.ref a :: rest)) rfl rfl (X.hd hd)
  exact Ends.go (fun _ q => st _ q) (k _ (X.same Y e'))
theorem Wk.instNo (X : Wk co Z a0 EL own bytes maxL ret nm ws p l e R s m args below meth c vm0 T h locs cells slots) {K C : String} {index : Nat} (w : (Cond.classLink own index K).before a0 Z = true) {a : Addr} (E : Exa Z h a C) (F : ∃ c t, Z.vm.findClass C = some c ∧ Z.vm.findClass K = some t ∧ Z.vm.assignable c t = false) (hd : decode bytes pc = .ok (.instanceof index, 3)) (hp : pc + 3 = pc') (k : ∀ T, Wk co Z a0 EL own bytes maxL ret nm ws p l e R s m args below meth c vm0 T h locs cells slots → Ends p e below G (T.setTop (mkF m pc' ls (.int 0 :: rest)))) : Ends p e below G (T.setTop (mkF m pc ls (.ref a :: rest))) := by
  subst hp
  obtain ⟨T', Y, e', st⟩ := RoadKit.instNo X.st X.hx X.hZ X.hown w X.eT E F (g := mkF m pc ls (.ref a :: rest)) rfl rfl (X.hd hd)
  exact Ends.go (fun _ q => st _ q) (k _ (X.same Y e'))
theorem Wk.instNull (X : Wk co Z a0 EL own bytes maxL ret nm ws p l e R s m args below meth c vm0 T h locs cells slots) {index : Nat} (hd : decode bytes pc = .ok (.instanceof index, 3)) (hp : pc + 3 = pc') (k : Ends p e below G (T.setTop (mkF m pc' ls (.int 0 :: rest)))) : Ends p e below G (T.setTop (mkF m pc ls (.null :: rest))) := by
  subst hp
  exact Ends.go (fun t q => X.st.instanceofNull X.hx (g := mkF m pc ls (.null :: rest)) rfl rfl (X.hd hd) t q) k
theorem Wk.ldcI (X : Wk co Z a0 EL own bytes maxL ret nm ws p l e R s m args below meth c vm0 T h locs cells slots) {index : Nat} {v : Int32} (w : (Cond.constant own index v).before a0 Z = true) (hd : decode bytes pc = .ok (.ldc index, 2)) (hp : pc + 2 = pc') (k : Ends p e below G (T.setTop (mkF m pc' ls (.int v :: rest)))) : Ends p e below G (T.setTop (mkF m pc ls rest)) := by
  subst hp
  exact Ends.go (fun t q => X.st.ldcInt X.hx X.hown (mvT X.hZ w) (g := mkF m pc ls rest) rfl (X.hd hd) t q) k
theorem Wk.ldcJ (X : Wk co Z a0 EL own bytes maxL ret nm ws p l e R s m args below meth c vm0 T h locs cells slots) {index : Nat} {v : Int64} (w : (Cond.constantLong own index v).before a0 Z = true) (hd : decode bytes pc = .ok (.ldc2_w index, 3)) (hp : pc + 3 = pc') (k : Ends p e below G (T.setTop (mkF m pc' ls (.long v :: rest)))) : Ends p e below G (T.setTop (mkF m pc ls rest)) := by
  subst hp
  exact Ends.go (fun t q => X.st.ldc2Long X.hx X.hown (mvT X.hZ w) (g := mkF m pc ls rest) rfl (X.hd hd) t q) k
theorem Wk.initO (X : Wk co Z a0 EL own bytes maxL ret nm ws p l e R s m args below meth c vm0 T h locs cells slots) {idx : Nat} (w1 : (Cond.methodLink own idx Lib.objectInit).before a0 Z = true) (w2 : (Cond.instanceMethod Lib.objectInit).before a0 Z = true) (w3 : (Cond.code Lib.objectInit ⟨#[0xb1]⟩ 1 none).before a0 Z = true) {a : Addr} (hls : ls.size = maxL) (hd : decode bytes pc = .ok (.invokespecial idx, 3)) (hfr : 1 ≤ R.frames) (hlo : (rest.map fun v => v.category).sum + 12 ≤ R.locals) (hp : pc + 3 = pc') (k : ∀ T, Wk co Z a0 EL own bytes maxL ret nm ws p l e R s m args below meth c vm0 T h locs cells slots → Ends p e below G (T.setTop (mkF m pc' ls rest))) : Ends p e below G (T.setTop (mkF m pc ls (.ref a :: rest))) := by
  subst hp
  obtain ⟨T', Y, e', st⟩ := RoadKit.initO X.st X.hx X.hZ X.hown w1 w2 w3 X.eT (g := mkF m pc ls (.ref a :: rest)) rfl (hls.trans X.hml.symm) rfl (X.hd hd) hfr (W := (rest.map fun v => v.category).sum) (by show 2 * 0 + _ ≤ _; rw [Nat.mul_zero, Nat.zero_add]; exact Nat.le_refl _) (by omega)
  exact Ends.go (fun _ q => st _ q) (k _ (X.same Y e'))
/-- ldc of a String constant of EL, read -/
theorem Wk.ldcS (X : Wk true Z a0 EL own bytes maxL ret nm ws p l e R s m args below meth c vm0 T h locs cells slots) {index : Nat} {text : String} (w : (Cond.stringLink own index text).before a0 Z = true) (wS : ∀ a ∈ Bundle.stringAtoms, a.before a0 Z = true) (hmem : (own, index) ∈ EL) {vs : List Value} {z : Int32} (ht : (∀ c ∈ text.toList, c.toNat < 256) ∧ text.toList.map (fun c => Value.int (Jvm.Lit.byteI c.toNat.toUInt16)) = vs) (hz : ¬ z < 0) (hl : z.toNatClampNeg = vs.length) (hd : decode bytes pc = .ok (.ldc index, 2)) (n : Nat) (hn : 4 * text.toList.length ≤ n) (hbig : n ≤ 536870912) (hc : cells + 2 ≤ R.cells) (hl' : slots + (n + 4) ≤ R.slots) (hp : pc + 2 = pc') (k : ∀ (T : State) (vm : Vm) (h' : Heap) (a b : Addr) (ka : ClassId), Ext h h' → CHr Z EL vm0 h vm h' → Exa Z h' a "java/lang/String" → Fld Z h' a "java/lang/String" "coder" "B" (.int 0) → Fld Z h' a "java/lang/String" "value" "[B" (.ref b) → Arv Z h' b ka .byte z vs (.int 0) → a < h'.size → b < h'.size → (∀ x, Safe Z EL vm h' x → x ≠ a ∧ x ≠ b) → Wk true Z a0 EL own bytes maxL ret nm ws p l e R s m args below meth c vm T h' locs (cells + 2) (slots + (n + 4)) → Ends p e below G (T.setTop (mkF m pc' ls (.ref a :: rest)))) : Ends p e below G (T.setTop (mkF m pc ls rest)) := by
  subst hp
  obtain ⟨k0, k1, k2⟩ := X.since
  obtain ⟨a, T', h', kk, b, ka, Y, rfl, E, hS, hk, hW, ho, x1, x2, x3, x4, x5, x6, hC, -, hsf, st⟩ := RoadKit.ldcCH X.st X.hx X.hZ X.hown w wS X.eT k1 k2 X.ew hmem X.H ht hz hl (g := mkF m pc ls rest) rfl (X.hd hd) hn hbig hc hl'
  exact Ends.go (fun _ q => st _ q) (k _ _ _ _ _ _ E hC x1 x2 x3 x4 x5 x6 hsf ⟨Y, rfl, ⟨_, hS, hk⟩, fun q => (by cases q), hW, ho, X.ch.trans hC, X.ew, X.2.2.2.2.2.2.2.2.1, ⟨Nat.le_trans X.old.1 E.1, fun a cl q => E.2 _ _ (X.old.2 _ _ q)⟩, X.fr, X.kp.ext E⟩)
/-- ldc of any String constant, opaque -/
theorem Wk.ldcO (X : Wk true Z a0 EL own bytes maxL ret nm ws p l e R s m args below meth c vm0 T h locs cells slots) {index : Nat} {text : String} (w : (Cond.stringLink own index text).before a0 Z = true) (wS : ∀ a ∈ Bundle.stringAtoms, a.before a0 Z = true) (hd : decode bytes pc = .ok (.ldc index, 2)) (n : Nat) (hn : 4 * text.toList.length ≤ n) (hbig : n ≤ 536870912) (hc : cells + 2 ≤ R.cells) (hl' : slots + (n + 4) ≤ R.slots) (hp : pc + 2 = pc') (k : ∀ (T : State) (vm : Vm) (h' : Heap) (a : Addr), Ext h h' → CHr Z EL vm0 h vm h' → Wk true Z a0 EL own bytes maxL ret nm ws p l e R s m args below meth c vm T h' locs (cells + 2) (slots + (n + 4)) → Ends p e below G (T.setTop (mkF m pc' ls (.ref a :: rest)))) : Ends p e below G (T.setTop (mkF m pc ls rest)) := by
  subst hp
  obtain ⟨k0, k1, k2⟩ := X.since
  obtain ⟨a, T', h', kk, Y, rfl, E, hS, hk, hW, ho, hC, -, st⟩ := RoadKit.ldcOH X.st X.hx X.hZ X.hown w wS X.eT k1 k2 X.ew X.H (g := mkF m pc ls rest) rfl (X.hd hd) hn hbig hc hl'
  exact Ends.go (fun _ q => st _ q) (k _ _ _ _ E hC ⟨Y, rfl, ⟨_, hS, hk⟩, fun q => (by cases q), hW, ho, X.ch.trans hC, X.ew, X.2.2.2.2.2.2.2.2.1, ⟨Nat.le_trans X.old.1 E.1, fun a cl q => E.2 _ _ (X.old.2 _ _ q)⟩, X.fr, X.kp.ext E⟩)
end Walk
/-- what a method's law says; narrow -/
def MN (l : Launch) (Z : State) (y : MethodName) (bytes : ByteArray) (maxL : Nat) (ret : Option FieldType) (xs : List Jvm.Cond) (rm : Room) (as' : Array Value) (h : Heap) (ws : List Addr) (Q : Option Value → Heap → Prop) : Prop :=
  MetFree l y (head1 (Cond.code y bytes maxL ret :: xs) rm) (fun a U => a = as' ∧ Z.Warmed39 U.vm ∧ U.heap = h) (fun _ _ _ _ _ => True) (fun _ U o U' => ∃ v L, o = .returned v ∧ (Q v U'.heap ∧ Fr Z.heap.size L ∧ Keep h U'.heap ws ∧ Ext Z.heap U'.heap) ∧ FrameEnd U o U' L rm.cells rm.slots)
/-- .. of one that may intern -/
def MCc (l : Launch) (Z : State) (EL : List (String × Nat)) (y : MethodName) (bytes : ByteArray) (maxL : Nat) (ret : Option FieldType) (xs : List Jvm.Cond) (rm : Room) (as' : Array Value) (h : Heap) (ws : List Addr) (Q : Option Value → Heap → Prop) : Prop :=
  MetFree l y (head1 (Cond.code y bytes maxL ret :: xs) rm) (fun a U => a = as' ∧ Z.Warmed39 U.vm ∧ U.heap = h ∧ CHv Z EL U.vm h) (fun _ _ _ _ _ => True) (fun _ U o U' => ∃ v L, o = .returned v ∧ (Q v U'.heap ∧ Fr Z.heap.size L ∧ Keep h U'.heap ws ∧ Ext Z.heap U'.heap) ∧ CHr Z EL U.vm U.heap U'.vm U'.heap ∧ ReturnedEndW U o U' L rm.cells rm.slots)
def GN (Z : State) (ws : List Addr) (Q : Option Value → Heap → Prop) (rm : Room) (s : State) (o : Outcome) (U' : State) : Prop :=
  ∃ v L, o = .returned v ∧ (Q v U'.heap ∧ Fr Z.heap.size L ∧ Keep s.heap U'.heap ws ∧ Ext Z.heap U'.heap) ∧ FrameEnd s o U' L rm.cells rm.slots
def GC (Z : State) (EL : List (String × Nat)) (ws : List Addr) (Q : Option Value → Heap → Prop) (rm : Room) (s : State) (o : Outcome) (U' : State) : Prop :=
  ∃ v L, o = .returned v ∧ (Q v U'.heap ∧ Fr Z.heap.size L ∧ Keep s.heap U'.heap ws ∧ Ext Z.heap U'.heap) ∧ CHr Z EL s.vm s.heap U'.vm U'.heap ∧ ReturnedEndW s o U' L rm.cells rm.slots
abbrev RV (Q : Value → Heap → Prop) : Option Value → Heap → Prop := fun v h => ∃ w, v = some w ∧ Q w h
abbrev RU (Q : Heap → Prop) : Option Value → Heap → Prop := fun v h => v = none ∧ Q h
abbrev RO (h0 : Heap) : Option Value → Heap → Prop := fun v h => v = none ∧ h = h0
abbrev RP (h0 : Heap) (Q : Value → Prop) : Option Value → Heap → Prop := fun v h => ∃ w, v = some w ∧ h = h0 ∧ Q w
theorem MN.mk {l : Launch} {Z : State} {a0 : Array Value} {y : MethodName} {bytes : ByteArray} {maxL : Nat} {ret : Option FieldType} {xs : List Jvm.Cond} {rm : Room} {as' : Array Value} {h : Heap} {ws : List Addr} {Q : Option Value → Heap → Prop} {ls0 : Array Slot} {own nm : String} (ho : y.cls = own) (hnm : y.name = nm) (pn : plainFor y = true) (O : Ext Z.heap h) (ef : ∀ m, entryFrame m as' maxL = mkF m 0 ls0 [])
    (body : ∀ (p : Program) (e : Env) (s : State) (m : MethodId) (below : List Frame) (meth : Method) (c : Code) (T : State), s.heap = h → Wk false Z a0 [] own bytes maxL ret nm ws p l e rm s m as' below meth c s.vm T h [] 0 0 → Ends p e below (GN Z ws Q rm s) (T.setTop (mkF m 0 ls0 []))) : MN l Z y bytes maxL ret xs rm as' h ws Q := by
  subst ho hnm
  refine MetFree.of_bodySF pn hisR ?_
  intro p e s m args below meth c s₁ Bd hml hP hK
  obtain ⟨rfl, hZ, rfl⟩ := hP
  have e0 : s₁.heap = s.heap := by rw [Bd.state]; rfl
  obtain ⟨s₂, o, h1, h2, h3, v, L, h4, h5, h6⟩ := body p e s m below meth c s₁ rfl ⟨Stand.of_body Bd, e0, ⟨0, (State.WarmedH.refl s).since _, Nat.zero_le _⟩, fun _ => rfl, hZ, findClass_of_methodNamed Bd.named, chrE (Nat.le_refl _), EW.nil, ⟨Bd.exec, Bd.bytes, hml, Bd.returns, (name_of_methodNamed Bd.named Bd.method).1, Bd.notSynchronized⟩, O, Fr.nil _, Keep.refl _ _⟩
  exact ⟨s₂, o, castTop (ef m) h1, h2, h3, v, L, h4, h5, h6⟩
theorem MCc.mk {l : Launch} {Z : State} {a0 : Array Value} {EL : List (String × Nat)} {y : MethodName} {bytes : ByteArray} {maxL : Nat} {ret : Option FieldType} {xs : List Jvm.Cond} {rm : Room} {as' : Array Value} {h : Heap} {ws : List Addr} {Q : Option Value → Heap → Prop} {ls0 : Array Slot} {own nm : String} (ho : y.cls = own) (hnm : y.name = nm) (pn : plainFor y = true) (O : Ext Z.heap h) (ew : EW Z a0 EL) (ef : ∀ m, entryFrame m as' maxL = mkF m 0 ls0 [])
    (body : ∀ (p : Program) (e : Env) (s : State) (m : MethodId) (below : List Frame) (meth : Method) (c : Code) (T : State), s.heap = h → Wk true Z a0 EL own bytes maxL ret nm ws p l e rm s m as' below meth c s.vm T h [] 0 0 → Ends p e below (GC Z EL ws Q rm s) (T.setTop (mkF m 0 ls0 []))) : MCc l Z EL y bytes maxL ret xs rm as' h ws Q := by
  subst ho hnm
  refine MetFree.of_bodySF pn hisR ?_
  intro p e s m args below meth c s₁ Bd hml hP hK
  obtain ⟨rfl, hZ, rfl, hC⟩ := hP
  have e0 : s₁.heap = s.heap := by rw [Bd.state]; rfl
  obtain ⟨s₂, o, h1, h2, h3, v, L, h4, h5, h6⟩ := body p e s m below meth c s₁ rfl ⟨Stand.of_body Bd, e0, ⟨0, (State.WarmedH.refl s).since _, Nat.zero_le _⟩, fun _ => rfl, hZ, findClass_of_methodNamed Bd.named, CHr.refl hC, ew, ⟨Bd.exec, Bd.bytes, hml, Bd.returns, (name_of_methodNamed Bd.named Bd.method).1, Bd.notSynchronized⟩, O, Fr.nil _, Keep.refl _ _⟩
  exact ⟨s₂, o, castTop (ef m) h1, h2, h3, v, L, h4, h5, h6⟩
section Ends2
variable {co : Bool} {Z : State} {a0 : Array Value} {EL : List (String × Nat)} {own : String} {bytes : ByteArray} {maxL : Nat} {ret : Option FieldType} {nm : String} {ws : List Addr} {p : Program} {l : Launch} {e : Env} {R : Room} {s : State} {m : MethodId} {args : Array Value} {below : List Frame} {meth : Method} {c : Code} {vm0 : Vm} {T : State} {h : Heap} {locs : List Loc} {cells slots : Nat} {G : Outcome → State → Prop} {pc pc' : Nat} {ls : Array Slot} {rest : List Value} {Q : Option Value → Heap → Prop}
theorem Wk.retN (X : Wk false Z a0 [] own bytes maxL ret nm ws p l e R s m args below meth c vm0 T h locs cells slots) {t : FieldType} {w : Value} {i : Instr} (hR : ret = some t) (hn : narrow t w = w) (hi : (i = .ireturn ∧ (t = .int ∨ t = .boolean ∨ t = .byte ∨ t = .char ∨ t = .short) ∧ ∃ z, w = .int z) ∨ (i = .lreturn ∧ t = .long ∧ ∃ z, w = .long z) ∨ (i = .dreturn ∧ t = .double ∧ ∃ z, w = .double z) ∨ (i = .freturn ∧ t = .float ∧ ∃ z, w = .float z) ∨ (i = .areturn ∧ t.isReference = true ∧ w.isRef = true)) (hd : decode bytes pc = .ok (i, 1)) (hc : cells ≤ R.cells) (hl : slots ≤ R.slots) (q : Q (some w) h) : Ends p e below (GN Z ws Q R s) (T.setTop (mkF m pc ls (w :: rest))) := by
  obtain ⟨fs, hr, hrun, hended, hW, hsame⟩ := X.st.leave (v := some w) (fun q => by rw [X.hret, hR] at q; cases q) X.hlk
  have hs : (s.setVm vm0) = s := by rw [X.nr rfl]; rfl
  rw [hs] at hW hsame
  exact ⟨_, _, retOut X.st X.hx (X.hret.trans hR) hn hi (X.hd hd) hr, hrun, hended, _, _, rfl, ⟨by rw [show (T.setFrames fs).heap = h from X.eT]; exact q, X.fr, by rw [show (T.setFrames fs).heap = h from X.eT]; exact X.kp, by rw [show (T.setFrames fs).heap = h from X.eT]; exact X.old⟩, ⟨_, rfl⟩, hW, hsame.mono hc hl⟩
theorem Wk.retAN {t : FieldType} (X : Wk false Z a0 [] own bytes maxL (some t) nm ws p l e R s m args below meth c vm0 T h locs cells slots) {w : Value} (ht : t.isReference = true) (hw : w.isRef = true) (hd : decode bytes pc = .ok (.areturn, 1)) (hc : cells ≤ R.cells) (hl : slots ≤ R.slots) (q : Q (some w) h) : Ends p e below (GN Z ws Q R s) (T.setTop (mkF m pc ls (w :: rest))) :=
  X.retN rfl (by cases t <;> first | (cases ht; done) | (rcases ref_cases hw with rfl | ⟨z, rfl⟩ <;> rfl)) (Or.inr (Or.inr (Or.inr (Or.inr ⟨rfl, ht, hw⟩)))) hd hc hl q
theorem Wk.retIN {t : FieldType} (X : Wk false Z a0 [] own bytes maxL (some t) nm ws p l e R s m args below meth c vm0 T h locs cells slots) {z : Int32} (ht : t = .int ∨ t = .boolean ∨ t = .byte ∨ t = .char ∨ t = .short) (hn : narrow t (.int z) = .int z) (hd : decode bytes pc = .ok (.ireturn, 1)) (hc : cells ≤ R.cells) (hl : slots ≤ R.slots) (q : Q (some (.int z)) h) : Ends p e below (GN Z ws Q R s) (T.setTop (mkF m pc ls (.int z :: rest))) :=
  X.retN rfl hn (Or.inl ⟨rfl, ht, z, rfl⟩) hd hc hl q
theorem Wk.retUN (X : Wk false Z a0 [] own bytes maxL none nm ws p l e R s m args below meth c vm0 T h locs cells slots) (hd : decode bytes pc = .ok (.return_, 1)) (hc : cells ≤ R.cells) (hl : slots ≤ R.slots) (q : Q none h) : Ends p e below (GN Z ws Q R s) (T.setTop (mkF m pc ls [])) := by
  obtain ⟨fs, hr, hrun, hended, hW, hsame⟩ := X.st.leave (v := none) (fun _ => rfl) X.hlk
  have hs : (s.setVm vm0) = s := by rw [X.nr rfl]; rfl
  rw [hs] at hW hsame
  exact ⟨_, _, X.st.returnOut X.hx X.hret (X.hd hd) hr, hrun, hended, _, _, rfl, ⟨by rw [show (T.setFrames fs).heap = h from X.eT]; exact q, X.fr, by rw [show (T.setFrames fs).heap = h from X.eT]; exact X.kp, by rw [show (T.setFrames fs).heap = h from X.eT]; exact X.old⟩, ⟨_, rfl⟩, hW, hsame.mono hc hl⟩
theorem Wk.retC (X : Wk true Z a0 EL own bytes maxL ret nm ws p l e R s m args below meth c vm0 T h locs cells slots) {t : FieldType} {w : Value} {i : Instr} (hR : ret = some t) (hn : narrow t w = w) (hi : (i = .ireturn ∧ (t = .int ∨ t = .boolean ∨ t = .byte ∨ t = .char ∨ t = .short) ∧ ∃ z, w = .int z) ∨ (i = .lreturn ∧ t = .long ∧ ∃ z, w = .long z) ∨ (i = .dreturn ∧ t = .double ∧ ∃ z, w = .double z) ∨ (i = .freturn ∧ t = .float ∧ ∃ z, w = .float z) ∨ (i = .areturn ∧ t.isReference = true ∧ w.isRef = true)) (hd : decode bytes pc = .ok (i, 1)) (hc : cells ≤ R.cells) (hl : slots ≤ R.slots) (q : Q (some w) h) : Ends p e below (GC Z EL ws Q R s) (T.setTop (mkF m pc ls (w :: rest))) := by
  obtain ⟨k0, k1, k2⟩ := X.since
  obtain ⟨fs, hr, hrun, hended, hE⟩ := X.st.leaveW k1 (by rw [X.eT]; exact k2) (v := some w) (fun q => by rw [X.hret, hR] at q; cases q) X.hlk
  obtain ⟨e1, e2, e3, e4⟩ := hE
  have c1 := CHv.at X.st X.hZ X.ew X.H
  exact ⟨_, _, retOut X.st X.hx (X.hret.trans hR) hn hi (X.hd hd) hr, hrun, hended, _, _, rfl, ⟨by rw [show (T.setFrames fs).heap = h from X.eT]; exact q, X.fr, by rw [show (T.setFrames fs).heap = h from X.eT]; exact X.kp, by rw [show (T.setFrames fs).heap = h from X.eT]; exact X.old⟩, by rw [show (T.setFrames fs).heap = h from X.eT]; exact X.ch.trans c1, e1, e2, e3, e4.mono hc hl⟩
theorem Wk.retAC {t : FieldType} (X : Wk true Z a0 EL own bytes maxL (some t) nm ws p l e R s m args below meth c vm0 T h locs cells slots) {w : Value} (ht : t.isReference = true) (hw : w.isRef = true) (hd : decode bytes pc = .ok (.areturn, 1)) (hc : cells ≤ R.cells) (hl : slots ≤ R.slots) (q : Q (some w) h) : Ends p e below (GC Z EL ws Q R s) (T.setTop (mkF m pc ls (w :: rest))) :=
  X.retC rfl (by cases t <;> first | (cases ht; done) | (rcases ref_cases hw with rfl | ⟨z, rfl⟩ <;> rfl)) (Or.inr (Or.inr (Or.inr (Or.inr ⟨rfl, ht, hw⟩)))) hd hc hl q
theorem Wk.retIC {t : FieldType} (X : Wk true Z a0 EL own bytes maxL (some t) nm ws p l e R s m args below meth c vm0 T h locs cells slots) {z : Int32} (ht : t = .int ∨ t = .boolean ∨ t = .byte ∨ t = .char ∨ t = .short) (hn : narrow t (.int z) = .int z) (hd : decode bytes pc = .ok (.ireturn, 1)) (hc : cells ≤ R.cells) (hl : slots ≤ R.slots) (q : Q (some (.int z)) h) : Ends p e below (GC Z EL ws Q R s) (T.setTop (mkF m pc ls (.int z :: rest))) :=
  X.retC rfl hn (Or.inl ⟨rfl, ht, z, rfl⟩) hd hc hl q
theorem Wk.retUC (X : Wk true Z a0 EL own bytes maxL none nm ws p l e R s m args below meth c vm0 T h locs cells slots) (hd : decode bytes pc = .ok (.return_, 1)) (hc : cells ≤ R.cells) (hl : slots ≤ R.slots) (q : Q none h) : Ends p e below (GC Z EL ws Q R s) (T.setTop (mkF m pc ls [])) := by
  obtain ⟨k0, k1, k2⟩ := X.since
  obtain ⟨fs, hr, hrun, hended, hE⟩ := X.st.leaveW k1 (by rw [X.eT]; exact k2) (v := none) (fun _ => rfl) X.hlk
  obtain ⟨e1, e2, e3, e4⟩ := hE
  have c1 := CHv.at X.st X.hZ X.ew X.H
  exact ⟨_, _, X.st.returnOut X.hx X.hret (X.hd hd) hr, hrun, hended, _, _, rfl, ⟨by rw [show (T.setFrames fs).heap = h from X.eT]; exact q, X.fr, by rw [show (T.setFrames fs).heap = h from X.eT]; exact X.kp, by rw [show (T.setFrames fs).heap = h from X.eT]; exact X.old⟩, by rw [show (T.setFrames fs).heap = h from X.eT]; exact X.ch.trans c1, e1, e2, e3, e4.mono hc hl⟩
/-- a place where y is called: the arguments a, rest what lies under them -/
def Site (p : Program) (l : Launch) (e : Env) (R : Room) (s : State) (m : MethodId) (args : Array Value) (below : List Frame) (meth : Method) (c : Code) (T : State) (locs : List Loc) (cells slots : Nat) (g : JFrame) (len : Nat) (y : MethodName) (a : Array Value) (rest : List Value) : Prop :=
  (∀ {W : Nat} {Pre : Pt → Array Value → Prop} {Post : Pt → Array Value → Option Value → Pt → Prop}, Back l R p e below s args y len W Pre Post → 2 * g.monitorRoom + (rest.map fun v => v.category).sum ≤ W → (∀ vm₁, s.WarmedH vm₁ → Pre ⟨T.setVm vm₁, locs, cells, slots⟩ a) →
    ∃ (v : Option Value) (vm₁ : Vm) (B : Pt), s.WarmedH vm₁ ∧ Stand p l e R s m args below meth c B.U B.locs B.cells B.slots ∧ Post ⟨T.setVm vm₁, locs, cells, slots⟩ a v B ∧ ∀ t, Steps p.tables e below (B.U.setTop { g with pc := g.pc + len, stack := v.toList ++ rest }) t → Steps p.tables e below (T.setTop g) t) ∧
  (∀ {W : Nat} {Pre : Pt → Array Value → Prop} {Post : Pt → Array Value → Option Value → Pt → Prop}, BackS l R p e below s args y len W Pre Post → 2 * g.monitorRoom + (rest.map fun v => v.category).sum ≤ W → (∀ vm₁, s.WarmedH vm₁ → Pre ⟨T.setVm vm₁, locs, cells, slots⟩ a) →
    ∃ (v : Option Value) (vm₁ : Vm) (B : Pt), s.WarmedH vm₁ ∧ Stand p l e R (s.setVm B.U.vm) m args below meth c B.U B.locs B.cells B.slots ∧ s.Since B.U.vm B.U.heap.size ∧ T.heap.size ≤ B.U.heap.size ∧ Post ⟨T.setVm vm₁, locs, cells, slots⟩ a v B ∧ ∀ t, Steps p.tables e below (B.U.setTop { g with pc := g.pc + len, stack := v.toList ++ rest }) t → Steps p.tables e below (T.setTop g) t)
theorem Wk.sStatic (X : Wk co Z a0 EL own bytes maxL ret nm ws p l e R s m args below meth c vm0 T h locs cells slots) {index : Nat} {y : MethodName} {ybytes : ByteArray} {ymaxL : Nat} {yret : Option FieldType} (w1 : (Cond.methodLink own index y).before a0 Z = true) (w2 : (Cond.static y).before a0 Z = true) (w3 : (Cond.initialized y.cls).before a0 Z = true) (w4 : (Cond.code y ybytes ymaxL yret).before a0 Z = true) (hy : y.cls ≠ "java/lang/invoke/MethodHandle" ∧ y.cls ≠ "java/lang/invoke/VarHandle") (hls : ls.size = maxL) {ps : List FieldType} {r : Option FieldType} (pd : parseMethodDescriptor y.desc = some ⟨ps, r⟩) (argsL : List Value) {st : List Value} (hlen : argsL.length = ps.length) (hst : st = argsL.reverse ++ rest) (hd : decode bytes pc = .ok (.invokestatic index, 3)) : Site p l e R (s.setVm vm0) m args below meth c T locs cells slots (mkF m pc ls st) 3 y argsL.toArray rest := by
  refine ⟨fun hK hW hpre => ?_, fun hK hW hpre => ?_⟩
  · exact Jvm.LawKit.callS X.st X.hx X.hown (mvT X.hZ w1) (mvT X.hZ w2) (mvT X.hZ w3) (mvT X.hZ w4) hy hK (g := mkF m pc ls st) rfl (hls.trans X.hml.symm) (lenOf pd hlen) hst hW (X.hd hd) hpre
  · obtain ⟨v, vm₁, B, h1, h2, h3, h4, h5, h6⟩ := callSS X.st X.hx X.hown (mvT X.hZ w1) (mvT X.hZ w2) (mvT X.hZ w3) (mvT X.hZ w4) hy hK (g := mkF m pc ls st) rfl (hls.trans X.hml.symm) (lenOf pd hlen) hst hW (X.hd hd) hpre
    exact ⟨v, vm₁, B, h1, h2, h3, h4, h5, fun t q => h6.trans q⟩
theorem Wk.sSpecial (X : Wk co Z a0 EL own bytes maxL ret nm ws p l e R s m args below meth c vm0 T h locs cells slots) {index : Nat} {y : MethodName} {ybytes : ByteArray} {ymaxL : Nat} (hy1 : y.name = "<init>") (w1 : (Cond.methodLink own index y).before a0 Z = true) (w2 : (Cond.instanceMethod y).before a0 Z = true) (w4 : (Cond.code y ybytes ymaxL none).before a0 Z = true) (hy : y.cls ≠ "java/lang/invoke/MethodHandle" ∧ y.cls ≠ "java/lang/invoke/VarHandle") (hls : ls.size = maxL) {ps : List FieldType} {r : Option FieldType} (pd : parseMethodDescriptor y.desc = some ⟨ps, r⟩) {a : Addr} (argsL : List Value) {st : List Value} (hlen : argsL.length = ps.length) (hst : st = argsL.reverse ++ .ref a :: rest) (hd : decode bytes pc = .ok (.invokespecial index, 3)) : Site p l e R (s.setVm vm0) m args below meth c T locs cells slots (mkF m pc ls st) 3 y (.ref a :: argsL).toArray rest := by
  refine ⟨fun hK hW hpre => ?_, fun hK hW hpre => ?_⟩
  · obtain ⟨v, vm₁, B, h1, h2, h5, h6⟩ := X.st.specialBack X.hx hy1 X.hown (mvT X.hZ w1) (mvT X.hZ w2) (mvT X.hZ w4) hy hK (g := mkF m pc ls st) rfl (hls.trans X.hml.symm) (Steps.refl _) (lenOf pd hlen) hst hW (X.hd hd) hpre
    exact ⟨v, vm₁, B, h1, h2, h5, fun t q => h6.trans q⟩
  · obtain ⟨v, vm₁, B, h1, h2, h3, h4, h5, h6⟩ := X.st.specialBackS X.hx hy1 X.hown (mvT X.hZ w1) (mvT X.hZ w2) (mvT X.hZ w4) hy hK (g := mkF m pc ls st) rfl (hls.trans X.hml.symm) (Steps.refl _) (lenOf pd hlen) hst hW (X.hd hd) hpre
    exact ⟨v, vm₁, B, h1, h2, h3, h4, h5, fun t q => h6.trans q⟩
theorem Wk.nf (X : Wk co Z a0 EL own bytes maxL ret nm ws p l e R s m args below meth c vm0 T h locs cells slots) {C : String} {y y' : MethodName} (w : (Cond.selects C y' y').before a0 Z = true) (hc : y'.cls = y.cls) : NotFace (s.setVm vm0) y := fun r0 h0 => by
  obtain ⟨c2, r2, m2, -, -, q3, -, kP, hkP, hkPi⟩ := Cond.selects_spec (mvT X.hZ w (args := #[]))
  have e1 := findClass_of_methodNamed h0
  have e2 := findClass_of_methodNamed q3
  rw [hc] at e2
  have e3 : m2.cls = r0.cls := Option.some.inj (e2.symm.trans e1)
  rw [e3] at hkP
  exact ⟨kP, hkP, hkPi⟩
theorem Wk.sVirtual (X : Wk co Z a0 EL own bytes maxL ret nm ws p l e R s m args below meth c vm0 T h locs cells slots) {index : Nat} {C : String} {y z : MethodName} (w1 : (Cond.methodLink own index y).before a0 Z = true) (w2 : (Cond.declares y).before a0 Z = true) (w3 : (Cond.selects C y z).before a0 Z = true) (w4 : (Cond.instanceMethod z).before a0 Z = true) (hy : y.cls ≠ "java/lang/invoke/MethodHandle" ∧ y.cls ≠ "java/lang/invoke/VarHandle") (hls : ls.size = maxL) {ps : List FieldType} {r : Option FieldType} (pd : parseMethodDescriptor y.desc = some ⟨ps, r⟩) {a : Addr} (E : Exa Z h a C) (argsL : List Value) {st : List Value} (hlen : argsL.length = ps.length) (hst : st = argsL.reverse ++ .ref a :: rest) (hd : decode bytes pc = .ok (.invokevirtual index, 3)) (nf : NotFace (s.setVm vm0) y) : Site p l e R (s.setVm vm0) m args below meth c T locs cells slots (mkF m pc ls st) 3 z (.ref a :: argsL).toArray rest := by
  obtain ⟨cq, kq, qa, qb, qc⟩ := isOf X.hZ X.eT E
  refine ⟨fun hK hW hpre => ?_, fun hK hW hpre => ?_⟩
  · obtain ⟨v, vm₁, B, h1, h2, h5, h6⟩ := X.st.virtualBack X.hx X.hown (mvT X.hZ w1) (mvT X.hZ w2) nf (mvT X.hZ w3) (mvT X.hZ w4) hy hK qa qc (g := mkF m pc ls st) rfl (hls.trans X.hml.symm) (Steps.refl _) (lenOf pd hlen) hst hW (X.hd hd) hpre
    exact ⟨v, vm₁, B, h1, h2, h5, fun t q => h6.trans q⟩
  · obtain ⟨v, vm₁, B, h1, h2, h3, h4, h5, h6⟩ := X.st.virtualBackS X.hx X.hown (mvT X.hZ w1) (mvT X.hZ w2) nf (mvT X.hZ w3) (mvT X.hZ w4) hy hK qa qc (g := mkF m pc ls st) rfl (hls.trans X.hml.symm) (Steps.refl _) (lenOf pd hlen) hst hW (X.hd hd) hpre
    exact ⟨v, vm₁, B, h1, h2, h3, h4, h5, fun t q => h6.trans q⟩
theorem Wk.callV (X : Wk co Z a0 EL own bytes maxL ret nm ws p l e R s m args below meth c vm0 T h locs cells slots) {len : Nat} {y : MethodName} {ybytes : ByteArray} {ymaxL : Nat} {yret : Option FieldType} {rm : Room} {a : Array Value} {wc : List Addr} {Q : Value → Heap → Prop} {st : List Value} (S : Site p l e R (s.setVm vm0) m args below meth c T locs cells slots (mkF m pc ls st) len y a rest) (M : MN l Z y ybytes ymaxL yret [] rm a h wc (RV Q)) (w4 : (Cond.code y ybytes ymaxL yret).before a0 Z = true) (w3 : (Cond.initialized y.cls).before a0 Z = true) (hf : rm.frames + 1 ≤ R.frames) (hl : (rest.map fun v => v.category).sum + (ymaxL + 11) + rm.locals ≤ R.locals) (hc : cells + rm.cells ≤ R.cells) (hs : slots + rm.slots ≤ R.slots) (Sf : ∀ x ∈ wc, Safe Z EL vm0 h x) (hz : ∀ x ∈ wc, Z.heap.size ≤ x) (hk : ∀ x ∈ wc, x ∈ ws ∨ s.heap.size ≤ x) (hp : pc + len = pc') (k : ∀ T h' L (v : Value), Wk co Z a0 EL own bytes maxL ret nm ws p l e R s m args below meth c vm0 T h' L (cells + rm.cells) (slots + rm.slots) → Keep h h' wc → Q v h' → Ends p e below G (T.setTop (mkF m pc' ls (v :: rest)))) : Ends p e below G (T.setTop (mkF m pc ls st)) := by
  subst hp
  obtain ⟨v, vm₁, ⟨T', L', k', n'⟩, h1, Y, ⟨Lc, ⟨⟨w, rfl, q1⟩, q2, q3, q4⟩, l1, l2, l3⟩, st1⟩ := S.1 (backOf (Q := fun v h' L => (RV Q) v h' ∧ Fr Z.heap.size L ∧ Keep h h' wc ∧ Ext Z.heap h') (W := (rest.map fun v => v.category).sum) M X.hZ w4 w3 hf hl) (by show 2 * 0 + _ ≤ _; rw [Nat.mul_zero, Nat.zero_add]; exact Nat.le_refl _) (fun vm₁ _ => ⟨rfl, X.eT, hc, hs⟩)
  dsimp only [Pt.U, Pt.locs, Pt.cells, Pt.slots] at Y l1 l2 l3 st1 q2 q3 q4 q1
  subst l1 l2 l3
  exact Ends.go st1 (k _ _ _ _ (X.keep Y rfl q3 Sf q2 hz hk) q3 q1)
theorem Wk.callU (X : Wk co Z a0 EL own bytes maxL ret nm ws p l e R s m args below meth c vm0 T h locs cells slots) {len : Nat} {y : MethodName} {ybytes : ByteArray} {ymaxL : Nat} {yret : Option FieldType} {rm : Room} {a : Array Value} {wc : List Addr} {Q : Heap → Prop} {st : List Value} (S : Site p l e R (s.setVm vm0) m args below meth c T locs cells slots (mkF m pc ls st) len y a rest) (M : MN l Z y ybytes ymaxL yret [] rm a h wc (RU Q)) (w4 : (Cond.code y ybytes ymaxL yret).before a0 Z = true) (w3 : (Cond.initialized y.cls).before a0 Z = true) (hf : rm.frames + 1 ≤ R.frames) (hl : (rest.map fun v => v.category).sum + (ymaxL + 11) + rm.locals ≤ R.locals) (hc : cells + rm.cells ≤ R.cells) (hs : slots + rm.slots ≤ R.slots) (Sf : ∀ x ∈ wc, Safe Z EL vm0 h x) (hz : ∀ x ∈ wc, Z.heap.size ≤ x) (hk : ∀ x ∈ wc, x ∈ ws ∨ s.heap.size ≤ x) (hp : pc + len = pc') (k : ∀ T h' L, Wk co Z a0 EL own bytes maxL ret nm ws p l e R s m args below meth c vm0 T h' L (cells + rm.cells) (slots + rm.slots) → Keep h h' wc → Q h' → Ends p e below G (T.setTop (mkF m pc' ls rest))) : Ends p e below G (T.setTop (mkF m pc ls st)) := by
  subst hp
  obtain ⟨v, vm₁, ⟨T', L', k', n'⟩, h1, Y, ⟨Lc, ⟨⟨rfl, q1⟩, q2, q3, q4⟩, l1, l2, l3⟩, st1⟩ := S.1 (backOf (Q := fun v h' L => (RU Q) v h' ∧ Fr Z.heap.size L ∧ Keep h h' wc ∧ Ext Z.heap h') (W := (rest.map fun v => v.category).sum) M X.hZ w4 w3 hf hl) (by show 2 * 0 + _ ≤ _; rw [Nat.mul_zero, Nat.zero_add]; exact Nat.le_refl _) (fun vm₁ _ => ⟨rfl, X.eT, hc, hs⟩)
  dsimp only [Pt.U, Pt.locs, Pt.cells, Pt.slots] at Y l1 l2 l3 st1 q2 q3 q4 q1
  subst l1 l2 l3
  exact Ends.go st1 (k _ _ _ (X.keep Y rfl q3 Sf q2 hz hk) q3 q1)
theorem Wk.callP (X : Wk co Z a0 EL own bytes maxL ret nm ws p l e R s m args below meth c vm0 T h locs cells slots) {len : Nat} {y : MethodName} {ybytes : ByteArray} {ymaxL : Nat} {yret : Option FieldType} {rm : Room} {a : Array Value} {Q : Value → Prop} {st : List Value} (S : Site p l e R (s.setVm vm0) m args below meth c T locs cells slots (mkF m pc ls st) len y a rest) (M : MN l Z y ybytes ymaxL yret [] rm a h [] (RP h Q)) (w4 : (Cond.code y ybytes ymaxL yret).before a0 Z = true) (w3 : (Cond.initialized y.cls).before a0 Z = true) (hf : rm.frames + 1 ≤ R.frames) (hl : (rest.map fun v => v.category).sum + (ymaxL + 11) + rm.locals ≤ R.locals) (hc : cells + rm.cells ≤ R.cells) (hs : slots + rm.slots ≤ R.slots) (hp : pc + len = pc') (k : ∀ T L (v : Value), Wk co Z a0 EL own bytes maxL ret nm ws p l e R s m args below meth c vm0 T h L (cells + rm.cells) (slots + rm.slots) → Q v → Ends p e below G (T.setTop (mkF m pc' ls (v :: rest)))) : Ends p e below G (T.setTop (mkF m pc ls st)) := by
  subst hp
  obtain ⟨v, vm₁, ⟨T', L', k', n'⟩, h1, Y, ⟨Lc, ⟨⟨w, rfl, e1, q1⟩, q2, q3, q4⟩, l1, l2, l3⟩, st1⟩ := S.1 (backOf (Q := fun v h' L => (RP h Q) v h' ∧ Fr Z.heap.size L ∧ Keep h h' [] ∧ Ext Z.heap h') (W := (rest.map fun v => v.category).sum) M X.hZ w4 w3 hf hl) (by show 2 * 0 + _ ≤ _; rw [Nat.mul_zero, Nat.zero_add]; exact Nat.le_refl _) (fun vm₁ _ => ⟨rfl, X.eT, hc, hs⟩)
  dsimp only [Pt.U, Pt.locs, Pt.cells, Pt.slots] at Y l1 l2 l3 st1 q2 q3 q4 e1
  subst l1 l2 l3
  exact Ends.go st1 (k _ _ _ (by have W := X.keep Y rfl q3 sf0 q2 all0 all0; rw [e1] at W; exact W) q1)
theorem Wk.callO (X : Wk co Z a0 EL own bytes maxL ret nm ws p l e R s m args below meth c vm0 T h locs cells slots) {len : Nat} {y : MethodName} {ybytes : ByteArray} {ymaxL : Nat} {yret : Option FieldType} {rm : Room} {a : Array Value}  {st : List Value} (S : Site p l e R (s.setVm vm0) m args below meth c T locs cells slots (mkF m pc ls st) len y a rest) (M : MN l Z y ybytes ymaxL yret [] rm a h [] (RO h)) (w4 : (Cond.code y ybytes ymaxL yret).before a0 Z = true) (w3 : (Cond.initialized y.cls).before a0 Z = true) (hf : rm.frames + 1 ≤ R.frames) (hl : (rest.map fun v => v.category).sum + (ymaxL + 11) + rm.locals ≤ R.locals) (hc : cells + rm.cells ≤ R.cells) (hs : slots + rm.slots ≤ R.slots) (hp : pc + len = pc') (k : ∀ T L, Wk co Z a0 EL own bytes maxL ret nm ws p l e R s m args below meth c vm0 T h L (cells + rm.cells) (slots + rm.slots) → Ends p e below G (T.setTop (mkF m pc' ls rest))) : Ends p e below G (T.setTop (mkF m pc ls st)) := by
  subst hp
  obtain ⟨v, vm₁, ⟨T', L', k', n'⟩, h1, Y, ⟨Lc, ⟨⟨rfl, e1⟩, q2, q3, q4⟩, l1, l2, l3⟩, st1⟩ := S.1 (backOf (Q := fun v h' L => (RO h) v h' ∧ Fr Z.heap.size L ∧ Keep h h' [] ∧ Ext Z.heap h') (W := (rest.map fun v => v.category).sum) M X.hZ w4 w3 hf hl) (by show 2 * 0 + _ ≤ _; rw [Nat.mul_zero, Nat.zero_add]; exact Nat.le_refl _) (fun vm₁ _ => ⟨rfl, X.eT, hc, hs⟩)
  dsimp only [Pt.U, Pt.locs, Pt.cells, Pt.slots] at Y l1 l2 l3 st1 q2 q3 q4 e1
  subst l1 l2 l3
  exact Ends.go st1 (k _ _ (by have W := X.keep Y rfl q3 sf0 q2 all0 all0; rw [e1] at W; exact W))
theorem Wk.coldV (X : Wk true Z a0 EL own bytes maxL ret nm ws p l e R s m args below meth c vm0 T h locs cells slots) {len : Nat} {y : MethodName} {ybytes : ByteArray} {ymaxL : Nat} {yret : Option FieldType} {rm : Room} {a : Array Value} {wc : List Addr} {Q : Value → Heap → Prop} {st : List Value} (S : Site p l e R (s.setVm vm0) m args below meth c T locs cells slots (mkF m pc ls st) len y a rest) (M : MCc l Z EL y ybytes ymaxL yret [] rm a h wc (RV Q)) (w4 : (Cond.code y ybytes ymaxL yret).before a0 Z = true) (w3 : (Cond.initialized y.cls).before a0 Z = true) (hf : rm.frames + 1 ≤ R.frames) (hl : (rest.map fun v => v.category).sum + (ymaxL + 11) + rm.locals ≤ R.locals) (hc : cells + rm.cells ≤ R.cells) (hs : slots + rm.slots ≤ R.slots) (hk : ∀ x ∈ wc, x ∈ ws ∨ s.heap.size ≤ x) (hp : pc + len = pc') (k : ∀ T vm h' L (v : Value), Wk true Z a0 EL own bytes maxL ret nm ws p l e R s m args below meth c vm T h' L (cells + rm.cells) (slots + rm.slots) → Keep h h' wc → CHr Z EL vm0 h vm h' → Q v h' → Ends p e below G (T.setTop (mkF m pc' ls (v :: rest)))) : Ends p e below G (T.setTop (mkF m pc ls st)) := by
  subst hp
  obtain ⟨v, vm₁, ⟨T', L', k', n'⟩, h1, Y, hS, hgr, ⟨Lc, ⟨⟨w, rfl, q1⟩, q2, q3, q4⟩, l1, l2, l3, hC⟩, st1⟩ := S.2 (backOfSH (s := s) (Q := fun v h' L => (RV Q) v h' ∧ Fr Z.heap.size L ∧ Keep h h' wc ∧ Ext Z.heap h') (W := (rest.map fun v => v.category).sum) M X.hZ w4 w3 hf hl X.ew X.H) (by show 2 * 0 + _ ≤ _; rw [Nat.mul_zero, Nat.zero_add]; exact Nat.le_refl _) (fun vm₁ _ => ⟨rfl, X.eT, hc, hs⟩)
  dsimp only [Pt.U, Pt.locs, Pt.cells, Pt.slots] at Y l1 l2 l3 st1 q1 q2 q3 q4 hS hC
  subst l1 l2 l3
  exact Ends.go st1 (k _ _ _ _ _ (X.cold Y hS hC q3 q2 q4 hk) q3 hC q1)
theorem Wk.coldU (X : Wk true Z a0 EL own bytes maxL ret nm ws p l e R s m args below meth c vm0 T h locs cells slots) {len : Nat} {y : MethodName} {ybytes : ByteArray} {ymaxL : Nat} {yret : Option FieldType} {rm : Room} {a : Array Value} {wc : List Addr} {Q : Heap → Prop} {st : List Value} (S : Site p l e R (s.setVm vm0) m args below meth c T locs cells slots (mkF m pc ls st) len y a rest) (M : MCc l Z EL y ybytes ymaxL yret [] rm a h wc (RU Q)) (w4 : (Cond.code y ybytes ymaxL yret).before a0 Z = true) (w3 : (Cond.initialized y.cls).before a0 Z = true) (hf : rm.frames + 1 ≤ R.frames) (hl : (rest.map fun v => v.category).sum + (ymaxL + 11) + rm.locals ≤ R.locals) (hc : cells + rm.cells ≤ R.cells) (hs : slots + rm.slots ≤ R.slots) (hk : ∀ x ∈ wc, x ∈ ws ∨ s.heap.size ≤ x) (hp : pc + len = pc') (k : ∀ T vm h' L, Wk true Z a0 EL own bytes maxL ret nm ws p l e R s m args below meth c vm T h' L (cells + rm.cells) (slots + rm.slots) → Keep h h' wc → CHr Z EL vm0 h vm h' → Q h' → Ends p e below G (T.setTop (mkF m pc' ls rest))) : Ends p e below G (T.setTop (mkF m pc ls st)) := by
  subst hp
  obtain ⟨v, vm₁, ⟨T', L', k', n'⟩, h1, Y, hS, hgr, ⟨Lc, ⟨⟨rfl, q1⟩, q2, q3, q4⟩, l1, l2, l3, hC⟩, st1⟩ := S.2 (backOfSH (s := s) (Q := fun v h' L => (RU Q) v h' ∧ Fr Z.heap.size L ∧ Keep h h' wc ∧ Ext Z.heap h') (W := (rest.map fun v => v.category).sum) M X.hZ w4 w3 hf hl X.ew X.H) (by show 2 * 0 + _ ≤ _; rw [Nat.mul_zero, Nat.zero_add]; exact Nat.le_refl _) (fun vm₁ _ => ⟨rfl, X.eT, hc, hs⟩)
  dsimp only [Pt.U, Pt.locs, Pt.cells, Pt.slots] at Y l1 l2 l3 st1 q1 q2 q3 q4 hS hC
  subst l1 l2 l3
  exact Ends.go st1 (k _ _ _ _ (X.cold Y hS hC q3 q2 q4 hk) q3 hC q1)
end Ends2
end Jvm.Pilot.@@N@@.Y
namespace Jvm.Pilot.@@N@@.Y
open Jvm Jvm.ClassFile Sem Op Lib Jvm.Free Jvm.Stand Jvm.LawKit Jvm.RoadKit Bundle
section Str
variable {co : Bool} {Z : State} {a0 : Array Value} {EL : List (String × Nat)} {own : String} {bytes : ByteArray} {maxL : Nat} {ret : Option FieldType} {nm : String} {ws : List Addr} {p : Program} {l : Launch} {e : Env} {R : Room} {s : State} {m : MethodId} {args : Array Value} {below : List Frame} {meth : Method} {c : Code} {vm0 : Vm} {T : State} {h h' : Heap} {locs : List Loc} {cells slots : Nat} {G : Outcome → State → Prop} {pc pc' : Nat} {ls : Array Slot} {rest : List Value} {Q : Option Value → Heap → Prop}
/-- x is a String that spells cs -/
def Str (Z : State) (h : Heap) (x : Addr) (cs : List Int32) : Prop := ∃ (t : Addr) (kb : ClassId) (cd N : Int32) (vs : List Value), Exa Z h x "java/lang/String" ∧ Fld Z h x "java/lang/String" "value" "[B" (.ref t) ∧ Fld Z h x "java/lang/String" "coder" "B" (.int cd) ∧ Arv Z h t kb .byte N vs (.int 0) ∧ StrChars.Road.CodA cs cd N vs ∧ (∀ c ∈ cs, ¬ c < 0 ∧ ¬ (65535 : Int32) < c) ∧ cs.length ≤ 4000
theorem Str.exa {x : Addr} {cs : List Int32} (S : Str Z h x cs) : Exa Z h x "java/lang/String" := by obtain ⟨_, _, _, _, _, E, -⟩ := S; exact E
theorem Str.lt {x : Addr} {cs : List Int32} (S : Str Z h x cs) : x < h.size := S.exa.lt
theorem Str.ext {x : Addr} {cs : List Int32} (S : Str Z h x cs) (E : Ext h h') : Str Z h' x cs := by
  obtain ⟨t, kb, cd, N, vs, s1, s2, s3, s4, r⟩ := S; exact ⟨t, kb, cd, N, vs, s1.ext E, s2.ext E, s3.ext E, s4.ext E, r⟩
theorem Str.keep0 {x : Addr} {cs : List Int32} (S : Str Z h x cs) (K : Keep h h' []) : Str Z h' x cs := by
  obtain ⟨t, kb, cd, N, vs, s1, s2, s3, s4, r⟩ := S; exact ⟨t, kb, cd, N, vs, s1.keep K, s2.keep K nin0, s3.keep K nin0, s4.keep K nin0, r⟩
/-- a is an object, no array -/
def Obj (Z : State) (h : Heap) (a : Addr) : Prop := ∃ (C : String) (k : Nat) (a0 : Array Value), Exa Z h a C ∧ (Cond.instantiable C k).before a0 Z = true
theorem obj {C : String} {k : Nat} {a : Addr} (E : Exa Z h a C) (w : (Cond.instantiable C k).before a0 Z = true) : Obj Z h a := ⟨C, k, a0, E, w⟩
theorem Obj.ne {a b : Addr} {k : ClassId} {ty : FieldType} {z : Int32} {vs : List Value} {d : Value} (O : Obj Z h a) (A : Arv Z h b k ty z vs d) : b ≠ a := by
  obtain ⟨C, n, a0, E, w⟩ := O; exact Ne.symm (Exa.neArv E A w)
theorem arv_ty {a b : Addr} {k1 k2 : ClassId} {t1 t2 : FieldType} {z1 z2 : Int32} {v1 v2 : List Value} {d1 d2 : Value} (A : Arv Z h a k1 t1 z1 v1 d1) (B : Arv Z h b k2 t2 z2 v2 d2) (q : t1 ≠ t2) : a ≠ b := fun e => by
  subst e
  obtain ⟨c1, ⟨a1, ⟨-, kA, hkA, compA, hkindA⟩, -⟩, -⟩ := A
  obtain ⟨c2, ⟨b1, ⟨-, kB, hkB, compB, hkindB⟩, -⟩, -⟩ := B
  cases a1.symm.trans b1
  cases hkA.symm.trans hkB
  have := hkindA.symm.trans hkindB
  injection this with _ e
  exact q e
theorem Str.keep1 {x a : Addr} {cs : List Int32} (S : Str Z h x cs) (K : Keep h h' [a]) (ne : x ≠ a) (O : Obj Z h a) : Str Z h' x cs := by
  obtain ⟨t, kb, cd, N, vs, s1, s2, s3, s4, r⟩ := S
  exact ⟨t, kb, cd, N, vs, s1.keep K, s2.keep K (ninS ne nin0), s3.keep K (ninS ne nin0), s4.keep K (ninS (O.ne s4) nin0), r⟩
theorem Str.keep2 {x a b : Addr} {cs : List Int32} {k : ClassId} {ty : FieldType} {z : Int32} {vs' : List Value} {d : Value} (S : Str Z h x cs) (K : Keep h h' [a, b]) (ne : x ≠ a) (O : Obj Z h a) (ne' : x ≠ b) (B : Arv Z h b k ty z vs' d ∧ ty ≠ .byte) : Str Z h' x cs := by
  obtain ⟨t, kb, cd, N, vs, s1, s2, s3, s4, r⟩ := S
  exact ⟨t, kb, cd, N, vs, s1.keep K, s2.keep K (ninS ne (ninS ne' nin0)), s3.keep K (ninS ne (ninS ne' nin0)), s4.keep K (ninS (O.ne s4) (ninS (Ne.symm (arv_ty B.1 s4 B.2)) nin0)), r⟩
theorem Str.wrA {x a : Addr} {cs : List Int32} {k : ClassId} {ty : FieldType} {z : Int32} {vs' : List Value} {d v : Value} {sl n : Nat} (S : Str Z h x cs) (W : Wr h h' a sl v) (A : Arv Z h a k ty z vs' d) (q : ty ≠ .byte) (wi : (Cond.instantiable "java/lang/String" n).before a0 Z = true) : Str Z h' x cs := by
  obtain ⟨t, kb, cd, N, vs, s1, s2, s3, s4, r⟩ := S
  have n1 : x ≠ a := Exa.neArv s1 A wi
  have n2 : t ≠ a := Ne.symm (arv_ty A s4 q)
  exact ⟨t, kb, cd, N, vs, s1.wr W, s2.other W (Or.inl n1), s3.other W (Or.inl n1), s4.other W n2, r⟩
theorem chr255 {x c : Int32} (q : (x &&& (255 : Int32)).toUInt32.toUInt16.toUInt32.toInt32 = c) : (¬ c < 0 ∧ ¬ (255 : Int32) < c) ∧ nar .char c = c := by
  rw [i2c_mask] at q
  have h1 := c_and x 255 (by decide)
  rw [q] at h1
  have e255 : (255 : Int32).toInt = 255 := rfl
  refine ⟨⟨fun z => ?_, fun z => ?_⟩, ?_⟩
  · rw [Int32.lt_iff_toInt_lt] at z; have : (0 : Int32).toInt = 0 := rfl; omega
  · rw [Int32.lt_iff_toInt_lt] at z; omega
  · show c.toUInt32.toUInt16.toUInt32.toInt32 = c
    rw [← q]; exact i2c_mask x
theorem narB (x : Int32) : nar .byte (x.toInt8.toInt32) = x.toInt8.toInt32 := by
  show x.toInt8.toInt32.toInt8.toInt32 = x.toInt8.toInt32
  rw [Int8.toInt8_toInt32]
theorem up16 {cs : List Int32} (h : ∀ c ∈ cs, ¬ c < 0 ∧ ¬ (255 : Int32) < c) : ∀ c ∈ cs, ¬ c < 0 ∧ ¬ (65535 : Int32) < c := fun c hc => ⟨(h c hc).1, fun q => (h c hc).2 (by rw [Int32.lt_iff_toInt_lt] at q ⊢; have e1 : (65535 : Int32).toInt = 65535 := rfl; have e2 : (255 : Int32).toInt = 255 := rfl; omega)⟩
theorem all1 {P : Int32 → Prop} {c : Int32} (h : P c) : ∀ d ∈ [c], P d := fun d hd => by cases List.mem_singleton.mp hd; exact h
theorem allC {P : Int32 → Prop} {c : Int32} {cs : List Int32} (h : P c) (r : ∀ d ∈ cs, P d) : ∀ d ∈ c :: cs, P d := fun d hd => by
  rcases List.mem_cons.mp hd with rfl | hd
  · exact h
  · exact r d hd
theorem allN {P : Int32 → Prop} : ∀ d ∈ ([] : List Int32), P d := fun d hd => nomatch hd
theorem eqI_v {args : Array Value} {t : Term} {v : Int32} (h : (Cond.eq t (.int v)).value args Z none Z [] = some true) : t.eval args Z none [] Z = some (.int v) := by
  obtain ⟨x, y, e1, e2, -, k2⟩ := cmp_v (Or.inl h)
  have e3 : (Term.int v).eval args Z none [] Z = some (.int v) := Term.int_eval v
  cases e2.symm.trans e3
  obtain ⟨z, rfl⟩ := k2
  have := gotT (Cond.eq_ints e1 e3) h
  rw [e1, this]
theorem noInst {C K : String} {n : Nat} (w : (Cond.superclass C "java/lang/Object").before a0 Z = true) (wo : (Cond.noSuperclass "java/lang/Object").before a0 Z = true) (wk : (Cond.instantiable K n).before a0 Z = true) (q1 : C ≠ K) (q2 : "java/lang/Object" ≠ K) : ∃ c t, Z.vm.findClass C = some c ∧ Z.vm.findClass K = some t ∧ Z.vm.assignable c t = false := by
  obtain ⟨t, kt, g0, g2, g5, g6, -⟩ := Cond.instantiable_spec wk
  have g7 : kt.isInterface = false := (Bool.or_eq_false_iff.mp g6).1
  obtain ⟨co, ko, o1, o2, o3, -, -⟩ := Cond.noSuperclass_spec wo
  have nO : NS Z "java/lang/Object" K := by
    have ne := ids_ne o1 g0 q2
    refine ⟨co, t, o1, g0, fun fuel => ?_⟩
    cases fuel with
    | zero => rfl
    | succ f => simp [Vm.isSubclassAux, ne, o2, o3]
  obtain ⟨c, t', h0, g0', n3⟩ := NS.step w nO q1
  cases g0.symm.trans g0'
  obtain ⟨p, k, kp, h1, h2, h3, h4, h5, -, h7⟩ := Cond.superclass_spec h0 w
  have ne := ids_ne h0 g0 q1
  refine ⟨c, t, h0, g0, ?_⟩
  show Z.vm.assignableAux (255 + 1) c t = false
  simp [Vm.assignableAux, ne, h2, g2, h5, g5, g7, Vm.isSubclass, n3]
/-- new String(chars): one to 4,000 chars, each 0 to 255 -/
theorem Wk.newStr (X : Wk co Z a0 EL own bytes maxL ret nm ws p l e R s m args below meth c vm0 T h locs cells slots) {st : List Value} {x b : Addr} {kC : ClassId} {cs : List Int32} {d c0 : Value} {z N : Int32} {n : Nat} (S : Site p l e R (s.setVm vm0) m args below meth c T locs cells slots (mkF m pc ls st) 3 (⟨"java/lang/String", "<init>", "([C)V"⟩ : MethodName) #[.ref x, .ref b] rest) (hws : ∀ d ∈ StrChars.Road.words, d.before a0 Z = true) {kI : Nat} (wi : (Cond.instantiable "java/lang/String" kI).before a0 Z = true) (Ex : Exa Z h x "java/lang/String") (V : Fld Z h x "java/lang/String" "value" "[B" .null) (C : Fld Z h x "java/lang/String" "coder" "B" c0) (K : Arv Z h b kC .char N (cs.map Value.int) d) (O2 : Sta Z Z.heap "java/lang/String" "COMPACT_STRINGS" "Z" (.int z)) (hz : ¬ z = 0) (hn : cs.length = n) (hN : N = Int32.ofNat n) (l0 : 0 < n) (l2 : n ≤ 4000) (hp : ∀ c ∈ cs, ¬ c < 0 ∧ ¬ (255 : Int32) < c) (hfr : 4 ≤ R.frames) (hlo : (rest.map fun v => v.category).sum + 65 ≤ R.locals) (hc : cells + 1 ≤ R.cells) (hs : slots + n ≤ R.slots) (zx : Z.heap.size ≤ x) (hk : x ∈ ws ∨ s.heap.size ≤ x) (hpc : pc + 3 = pc') (k : ∀ T h' L, Wk co Z a0 EL own bytes maxL ret nm ws p l e R s m args below meth c vm0 T h' L (cells + 1) (slots + n) → Keep h h' [x] → Str Z h' x cs → Ends p e below G (T.setTop (mkF m pc' ls rest))) : Ends p e below G (T.setTop (mkF m pc ls st)) := by
  subst hpc
  obtain ⟨v, vm₁, ⟨T', L', k', n'⟩, h1, Y, ⟨Lc, ⟨rfl, q2, q3, q4, q5, t, kb, -, -, -, q6, q7⟩, l1, l3, l4⟩, st1⟩ := S.1 (StrChars.Road.backV (W := (rest.map fun v => v.category).sum) X.hZ hws wi (n0 := Z.heap.size) zx X.old.1 Ex V C K (O2.ext X.old) hz hn hN l0 l2 hp rfl hfr hlo) (by show 2 * 0 + _ ≤ _; rw [Nat.mul_zero, Nat.zero_add]; exact Nat.le_refl _) (fun vm₁ _ => ⟨rfl, X.eT, hc, hs⟩)
  dsimp only [Pt.U, Pt.locs, Pt.cells, Pt.slots] at Y l1 l3 l4 st1 q2 q3 q4 q5 q6 q7
  subst l1 l3 l4
  have hcod : StrChars.Road.CodA cs 0 N ((cs.map fun c => c.toInt8.toInt32).map Value.int) := by rw [hN]; exact StrChars.Road.codOf hn fun c hc => (hp c hc).2
  exact Ends.go st1 (k _ _ _ (X.keep Y rfl q3 (sfS (Safe.blank X.al Ex wi V) sf0) q2 (allS zx all0) (allS hk all0)) q3 ⟨t, kb, 0, N, _, q4, q6, q5, q7, hcod, up16 hp, by omega⟩)
end Str
end Jvm.Pilot.@@N@@.Y
namespace Jvm.Pilot.@@N@@.Y
open Jvm Jvm.ClassFile Sem Op Lib Jvm.Free Jvm.Stand Jvm.LawKit Jvm.RoadKit Bundle
section Refs
variable {co : Bool} {Z : State} {a0 : Array Value} {EL : List (String × Nat)} {own : String} {bytes : ByteArray} {maxL : Nat} {ret : Option FieldType} {nm : String} {ws : List Addr} {p : Program} {l : Launch} {e : Env} {R : Room} {s : State} {m : MethodId} {args : Array Value} {below : List Frame} {meth : Method} {c : Code} {vm0 : Vm} {T : State} {h h' : Heap} {locs : List Loc} {cells slots : Nat} {G : Outcome → State → Prop} {pc pc' : Nat} {ls : Array Slot} {rest : List Value} {Q : Option Value → Heap → Prop}
/-- mr is the class C's mirror -/
def Mrr (Z : State) (C : String) (mr : Addr) : Prop := ∃ (c : ClassId) (k : Class), Z.vm.findClass C = some c ∧ Z.vm.classes[c]? = some k ∧ k.mirror = some mr
/-- an Object[] whose length reads 0 -/
def Emp (Z : State) (h : Heap) (a : Addr) : Prop := ∃ c, Arr Z h a c (.object "java/lang/Object") ∧ c.slots.size.toInt32 = 0
theorem Emp.ext {a : Addr} (A : Emp Z h a) (E : Ext h h') : Emp Z h' a := by obtain ⟨c, q, r⟩ := A; exact ⟨c, Arr.ext E q, r⟩
theorem Emp.lt {a : Addr} (A : Emp Z h a) : a < h.size := by obtain ⟨c, q, r⟩ := A; exact q.lt
theorem Emp.start {args : Array Value} {t : Term} {a : Addr} (ev : t.eval args Z none [] Z = some (.ref a)) (hx : (Cond.arrayOf t (.object "java/lang/Object")).before args Z = true) (hl : (Cond.eq (.length t) (.int 0)).before args Z = true) : Emp Z Z.heap a := by
  obtain ⟨c, A⟩ := Arr.start ev (Cond.before_iff.mp hx)
  obtain ⟨b, cell, e1, e2, e3⟩ := Term.length_spec (eqI_v (Cond.before_iff.mp hl))
  cases ev.symm.trans e1
  have e4 : Z.arrayAt? a = some c := IntBox.arrayAt_of A.1 A.2.1 A.2.2
  cases e4.symm.trans e2
  injection e3 with e3
  exact ⟨c, A, e3.symm⟩
theorem fld_ev {args : Array Value} {t : Term} {C n d : String} {v : Value} {a : Addr} (e : t.eval args Z none [] Z = some (.ref a)) (h : (Term.field t C n d).eval args Z none [] Z = some v) : Z.fieldOf? a C n d = some v := by
  simp only [Term.eval] at h
  rw [e] at h
  simpa using h
theorem Wk.alen0 (X : Wk co Z a0 EL own bytes maxL ret nm ws p l e R s m args below meth c vm0 T h locs cells slots) {a : Addr} (A : Emp Z h a) (hd : decode bytes pc = .ok (.arraylength, 1)) (hp : pc + 1 = pc') (k : Ends p e below G (T.setTop (mkF m pc' ls (.int 0 :: rest)))) : Ends p e below G (T.setTop (mkF m pc ls (.ref a :: rest))) := by
  subst hp
  obtain ⟨cl, Ar, q0⟩ := A
  refine Ends.go (fun t q => X.st.arraylength X.hx (by rw [X.eT]; exact Ar.1) (State.isArrayOf_alike X.al Ar.2.1) (g := mkF m pc ls (.ref a :: rest)) rfl rfl (X.hd hd) t ?_) k
  rw [q0]; exact q
theorem Wk.newR (X : Wk co Z a0 EL own bytes maxL ret nm ws p l e R s m args below meth c vm0 T h locs cells slots) {C ad : String} {index : Nat} {n : Int32} (w1 : (Cond.classLink own index C).before a0 Z = true) (w2 : (Cond.arrayOver (.object C)).before a0 Z = true) (had : "[" ++ (FieldType.object C).toString = ad) (hd : decode bytes pc = .ok (.anewarray index, 3)) (hn : ¬ n < 0) (cap : Nat) (hcap : n.toNatClampNeg ≤ cap) (hb : cap * 8 ≤ 536870912) (hc : cells + 1 ≤ R.cells) (hl : slots + cap ≤ R.slots) (hp : pc + 3 = pc') (k : ∀ T h' b ka, b = h.size → Ext h h' → b < h'.size → Arv Z h' b ka (.object C) n [] .null → Exa Z h' b ad → Ovr Z ka C → Wk co Z a0 EL own bytes maxL ret nm ws p l e R s m args below meth c vm0 T h' locs (cells + 1) (slots + cap) → Ends p e below G (T.setTop (mkF m pc' ls (.ref b :: rest)))) : Ends p e below G (T.setTop (mkF m pc ls (.int n :: rest))) := by
  subst hp
  obtain ⟨T', h', ka, Y, e', Ex, A, Ea, O, st⟩ := RoadKit.newRE X.st X.hx X.hZ X.hown w1 w2 X.eT (g := mkF m pc ls (.int n :: rest)) rfl (X.hd hd) rfl hn hcap hb hc hl had
  exact Ends.go (fun _ q => st _ q) (k _ _ _ _ rfl Ex A.lt (Arv.new A hn) Ea O (X.ext Y e' Ex))
theorem Wk.aastore (X : Wk co Z a0 EL own bytes maxL ret nm ws p l e R s m args below meth c vm0 T h locs cells slots) {a y : Addr} {ka : ClassId} {C D : String} {z j : Int32} {vs : List Value} {dv : Value} (A : Arv Z h a ka (.object D) z vs dv) (O : Ovr Z ka C) (I : Ins Z h y C true) (hj : ¬ j < 0 ∧ j < z) (i : Nat) (hi : j.toNatClampNeg = i) (hl : i < vs.length) (hz : Z.heap.size ≤ a) (hk : a ∈ ws ∨ s.heap.size ≤ a) (hd : decode bytes pc = .ok (.aastore, 1)) (hp : pc + 1 = pc') (k : ∀ T h' L, Wk co Z a0 EL own bytes maxL ret nm ws p l e R s m args below meth c vm0 T h' L cells slots → Wr h h' a j.toNatClampNeg (.ref y) → Arv Z h' a ka (.object D) z (vs.set i (.ref y)) dv → Ends p e below G (T.setTop (mkF m pc' ls rest))) : Ends p e below G (T.setTop (mkF m pc ls (.ref y :: .int j :: .ref a :: rest))) := by
  subst hp
  have S0 : Safe Z EL vm0 h a := Safe.arv X.al A (by intro q; cases q)
  obtain ⟨cl, Ar, q1, S1, N1, H1, G1⟩ := A
  obtain ⟨T', h', Y, e', W, st⟩ := RoadKit.stR X.st X.hx X.hZ X.eT Ar (j := j) (inb_of S1 hj) rfl (Sto.ofV Ar q1 O I) (g := mkF m pc ls (.ref y :: .int j :: .ref a :: rest)) rfl rfl (X.hd hd)
  exact Ends.go (fun _ q => st _ q) (k _ _ _ (X.wr Y e' W S0 hz hk) W (Arv.set Ar q1 S1 N1 H1 G1 rfl W i hi hl))
theorem Wk.aaload (X : Wk co Z a0 EL own bytes maxL ret nm ws p l e R s m args below meth c vm0 T h locs cells slots) {a : Addr} {ka : ClassId} {C : String} {z j : Int32} {v : Value} {vs : List Value} {dv : Value} (A : Arv Z h a ka (.object C) z vs dv) (hj : ¬ j < 0 ∧ j < z) (hv : vs.getD j.toNatClampNeg dv = v) (hd : decode bytes pc = .ok (.aaload, 1)) (hp : pc + 1 = pc') (k : Ends p e below G (T.setTop (mkF m pc' ls (v :: rest)))) : Ends p e below G (T.setTop (mkF m pc ls (.int j :: .ref a :: rest))) := by
  subst hp
  obtain ⟨cl, Ar, q1, S1, N1, H1, G1⟩ := A
  have hin := inb_of S1 hj
  exact Ends.go (fun t q => X.st.aaload X.hx (j := j) (v := v) (by rw [X.eT]; exact Ar.1) (State.isArrayOf_alike X.al Ar.2.1) rfl Ar.2.2 hin (H1.at hin hv) (g := mkF m pc ls (.int j :: .ref a :: rest)) rfl rfl (X.hd hd) t q) k
theorem Wk.ldcM (X : Wk co Z a0 EL own bytes maxL ret nm ws p l e R s m args below meth c vm0 T h locs cells slots) {C : String} {index : Nat} {mr : Addr} (w : (Cond.classLink own index C).before a0 Z = true) (M : Mrr Z C mr) (hd : decode bytes pc = .ok (.ldc index, 2)) (hp : pc + 2 = pc') (k : ∀ T, Wk co Z a0 EL own bytes maxL ret nm ws p l e R s m args below meth c vm0 T h locs cells slots → Ends p e below G (T.setTop (mkF m pc' ls (.ref mr :: rest)))) : Ends p e below G (T.setTop (mkF m pc ls rest)) := by
  subst hp
  obtain ⟨cc, kc, m1, m2, m3⟩ := M
  obtain ⟨k', q, ek⟩ := X.al.2.2 _ _ m2
  have hev : (Term.mirror C).eval args (s.setVm vm0) none [] (s.setVm vm0) = some (.ref mr) := by
    have f1 : vm0.findClass C = some cc := by rw [X.al.findClass]; exact m1
    have f2 : vm0.classes[cc]? = some k' := q
    have f3 : k'.mirror = some mr := by rw [ek]; exact m3
    simp [Term.eval, f1, f2, f3]
  obtain ⟨vm', Y, st⟩ := X.st.ldcMirror X.hx X.hown (mvT X.hZ w) hev (g := mkF m pc ls rest) rfl (X.hd hd)
  exact Ends.go (fun _ q => st _ q) (k _ (X.same Y X.eT))
theorem Wk.gcls (X : Wk co Z a0 EL own bytes maxL ret nm ws p l e R s m args below meth c vm0 T h locs cells slots) {C : String} {index : Nat} (w1 : (Cond.methodLink own index ⟨"java/lang/Object", "getClass", "()Ljava/lang/Class;"⟩).before a0 Z = true) (w2 : (Cond.declares ⟨"java/lang/Object", "getClass", "()Ljava/lang/Class;"⟩).before a0 Z = true) (w4 : (Cond.selects C ⟨"java/lang/Object", "getClass", "()Ljava/lang/Class;"⟩ ⟨"java/lang/Object", "getClass", "()Ljava/lang/Class;"⟩).before a0 Z = true) (w5 : (Cond.instanceMethod ⟨"java/lang/Object", "getClass", "()Ljava/lang/Class;"⟩).before a0 Z = true) (w6 : (Cond.native ⟨"java/lang/Object", "getClass", "()Ljava/lang/Class;"⟩).before a0 Z = true) {a mr : Addr} (Ea : Exa Z h a C) (M : Mrr Z C mr) (hls : ls.size = maxL) (hd : decode bytes pc = .ok (.invokevirtual index, 3)) (hf : 1 ≤ R.frames) (hl : (rest.map fun v => v.category).sum + (nativeFrameWords "java/lang/Object" "getClass" 1 + 11) ≤ R.locals) (hp : pc + 3 = pc') (k : ∀ T, Wk co Z a0 EL own bytes maxL ret nm ws p l e R s m args below meth c vm0 T h locs cells slots → Ends p e below G (T.setTop (mkF m pc' ls (.ref mr :: rest)))) : Ends p e below G (T.setTop (mkF m pc ls (.ref a :: rest))) := by
  subst hp
  obtain ⟨cB, kB, i1, i2, i3⟩ := isOf X.hZ X.eT Ea
  obtain ⟨cc, kc, m1, m2, m3⟩ := M
  have i1' : Z.vm.findClass C = some cB := by rw [← X.hZ.alike.findClass]; exact i1
  cases i1'.symm.trans m1
  obtain ⟨k', q, ek⟩ := X.hZ.alike.2.2 _ _ m2
  obtain ⟨vm', Y, st⟩ := X.st.getClassOf X.hx X.hown (mvT X.hZ w1) (mvT X.hZ w2) (notFace_of_selects (args := #[]) (mvT X.hZ w4)) (mvT X.hZ w4) (mvT X.hZ w5) (mvT X.hZ w6) i1 i3 q (by rw [ek]; exact m3) (g := mkF m pc ls (.ref a :: rest)) rfl (hls.trans X.hml.symm) rfl (X.hd hd) hf (by show 2 * 0 + _ + _ ≤ _; rw [Nat.mul_zero, Nat.zero_add]; exact hl)
  exact Ends.go (fun _ q => st _ q) (k _ (X.same Y X.eT))
theorem Wk.gclsI (X : Wk co Z a0 EL own bytes maxL ret nm ws p l e R s m args below meth c vm0 T h locs cells slots) {C : String} {index count : Nat} {xi : MethodName} (w1 : (Cond.methodLink own index xi).before a0 Z = true) (w2 : (Cond.declares ⟨"java/lang/Object", "getClass", "()Ljava/lang/Class;"⟩).before a0 Z = true) (w3 : (Cond.interfaceMethod xi.cls "java/lang/Object" xi.name xi.desc).before a0 Z = true) (w4 : (Cond.selects C xi ⟨"java/lang/Object", "getClass", "()Ljava/lang/Class;"⟩).before a0 Z = true) (w5 : (Cond.instanceMethod ⟨"java/lang/Object", "getClass", "()Ljava/lang/Class;"⟩).before a0 Z = true) (w6 : (Cond.publicMethod ⟨"java/lang/Object", "getClass", "()Ljava/lang/Class;"⟩).before a0 Z = true) (w7 : (Cond.unhidden C xi.name xi.desc).before a0 Z = true) (w8 : (Cond.castable C xi.cls).before a0 Z = true) (w9 : (Cond.native ⟨"java/lang/Object", "getClass", "()Ljava/lang/Class;"⟩).before a0 Z = true) (hy : xi.cls ≠ "java/lang/invoke/MethodHandle" ∧ xi.cls ≠ "java/lang/invoke/VarHandle") (hxo : xi.cls ≠ "java/lang/Object") (hnm : xi.name = "getClass") (hds : xi.desc = "()Ljava/lang/Class;") {a mr : Addr} (Ea : Exa Z h a C) (M : Mrr Z C mr) (hls : ls.size = maxL) (hd : decode bytes pc = .ok (.invokeinterface index count, 5)) (hf : 1 ≤ R.frames) (hl : (rest.map fun v => v.category).sum + (nativeFrameWords "java/lang/Object" "getClass" 1 + 11) ≤ R.locals) (hp : pc + 5 = pc') (k : ∀ T, Wk co Z a0 EL own bytes maxL ret nm ws p l e R s m args below meth c vm0 T h locs cells slots → Ends p e below G (T.setTop (mkF m pc' ls (.ref mr :: rest)))) : Ends p e below G (T.setTop (mkF m pc ls (.ref a :: rest))) := by
  subst hp
  obtain ⟨cB, kB, i1, i2, i3⟩ := isOf X.hZ X.eT Ea
  obtain ⟨cc, kc, m1, m2, m3⟩ := M
  have i1' : Z.vm.findClass C = some cB := by rw [← X.hZ.alike.findClass]; exact i1
  cases i1'.symm.trans m1
  obtain ⟨k', q, ek⟩ := X.hZ.alike.2.2 _ _ m2
  cases i2.symm.trans q
  obtain ⟨vm', Y, st⟩ := X.st.getClassOfI X.hx X.hown (mvT X.hZ w1) (mvT X.hZ w2) (Jvm.Free.ULB.iface_rides X.hZ.alike w3) (mvT X.hZ w4) (mvT X.hZ w5) (mvT X.hZ w6) (mvT X.hZ w7) (mvT X.hZ w8) (mvT X.hZ w9) hy hxo hnm hds i1 i2 i3 (by rw [ek]; exact m3) (g := mkF m pc ls (.ref a :: rest)) rfl (hls.trans X.hml.symm) rfl (X.hd hd) hf (by show 2 * 0 + _ + _ ≤ _; rw [Nat.mul_zero, Nat.zero_add]; exact hl)
  exact Ends.go (fun _ q => st _ q) (k _ (X.same Y X.eT))
/-- System.arraycopy between two known arrays; b is the one written -/
theorem Wk.acopy (X : Wk co Z a0 EL own bytes maxL ret nm ws p l e R s m args below meth c vm0 T h locs cells slots) {index : Nat} (w1 : (Cond.methodLink own index Jvm.Stand.acN).before a0 Z = true) (w2 : (Cond.native Jvm.Stand.acN).before a0 Z = true) (w3 : (Cond.static Jvm.Stand.acN).before a0 Z = true) (w4 : (Cond.initialized "java/lang/System").before a0 Z = true) {a b : Addr} {k1 k2 : ClassId} {ty ty' : FieldType} {z z' sp dp nn : Int32} {vs vd us : List Value} {dv dd : Value} (A : Arv Z h a k1 ty z vs dv) (B : Arv Z h b k2 ty' z' vd dd) (hty : (ty = ty' ∧ refKind ty = false) ∨ (refKind ty = true ∧ refKind ty' = true ∧ StoL Z h b us)) (h1 : ¬ sp < 0) (h2 : ¬ dp < 0) (h3 : ¬ nn < 0) (h4 : sp.toNatClampNeg + nn.toNatClampNeg ≤ z.toNatClampNeg) (h5 : dp.toNatClampNeg + nn.toNatClampNeg ≤ z'.toNatClampNeg) (hus : us = (List.range nn.toNatClampNeg).map fun i => vs.getD (sp.toNatClampNeg + i) dv) (hlen : dp.toNatClampNeg + nn.toNatClampNeg ≤ vd.length) (S : Safe Z EL vm0 h b) (hz : Z.heap.size ≤ b) (hk : b ∈ ws ∨ s.heap.size ≤ b) (hls : ls.size = maxL) (hd : decode bytes pc = .ok (.invokestatic index, 3)) (hf : 1 ≤ R.frames) (hl : (rest.map fun v => v.category).sum + (nativeFrameWords "java/lang/System" "arraycopy" 5 + 11) ≤ R.locals) (hp : pc + 3 = pc') (k : ∀ T h' L, Wk co Z a0 EL own bytes maxL ret nm ws p l e R s m args below meth c vm0 T h' L cells slots → Keep h h' [b] → Arv Z h' b k2 ty' z' (vd.take dp.toNatClampNeg ++ us ++ vd.drop (dp.toNatClampNeg + nn.toNatClampNeg)) dd → Ends p e below G (T.setTop (mkF m pc' ls rest))) : Ends p e below G (T.setTop (mkF m pc ls (.int nn :: .int dp :: .ref b :: .int sp :: .ref a :: rest))) := by
  subst hp
  obtain ⟨T', h', L, Y, e', N, K, B', st⟩ := RoadKit.cpA X.st X.hx X.hZ X.hown w1 w2 w3 w4 X.eT A B hty h1 h2 h3 h4 h5 hus hlen X.fr hz (g := mkF m pc ls (.int nn :: .int dp :: .ref b :: .int sp :: .ref a :: rest)) rfl (hls.trans X.hml.symm) rfl (X.hd hd) hf (W := (rest.map fun v => v.category).sum) (by show 2 * 0 + _ ≤ _; rw [Nat.mul_zero, Nat.zero_add]; exact Nat.le_refl _) hl
  obtain ⟨k0, k3, k4⟩ := X.since
  have O : Old Z Z.heap.size h' := Old.keep ⟨rfl, X.old⟩ K (allS hz all0)
  exact Ends.go (fun _ q => st _ q) (k _ _ _ ⟨Y, e', ⟨k0, k3, Nat.le_trans k4 K.1⟩, X.nr, X.hZ, X.hown, X.ch.trans (CHr.keep K (sfS S sf0) X.H), X.ew, X.2.2.2.2.2.2.2.2.1, O.2, N, X.kp.trans K (allS hk all0)⟩ K B')
theorem Wk.sPrivate (X : Wk co Z a0 EL own bytes maxL ret nm ws p l e R s m args below meth c vm0 T h locs cells slots) {index : Nat} {C D : String} {y : MethodName} {ybytes : ByteArray} {ymaxL : Nat} {yret : Option FieldType} (w1 : (Cond.methodLink own index y).before a0 Z = true) (w2 : (Cond.instanceMethod y).before a0 Z = true) (w3 : (Cond.selects D y y).before a0 Z = true) (w4 : (Cond.privateMethod y).before a0 Z = true) (w5 : (Cond.code y ybytes ymaxL yret).before a0 Z = true) (hy : y.cls ≠ "java/lang/invoke/MethodHandle" ∧ y.cls ≠ "java/lang/invoke/VarHandle") (hls : ls.size = maxL) {ps : List FieldType} {r : Option FieldType} (pd : parseMethodDescriptor y.desc = some ⟨ps, r⟩) {a : Addr} (Ea : Exa Z h a C) (argsL : List Value) {st : List Value} (hlen : argsL.length = ps.length) (hst : st = argsL.reverse ++ .ref a :: rest) (hd : decode bytes pc = .ok (.invokevirtual index, 3)) : Site p l e R (s.setVm vm0) m args below meth c T locs cells slots (mkF m pc ls st) 3 y (.ref a :: argsL).toArray rest := by
  obtain ⟨cq, q1, q2⟩ := Ea.cell
  have w3' : (Cond.selects y.cls y y).before args (s.setVm vm0) = true := by
    obtain ⟨c2, r2, m2, -, -, q3, -, kP, hkP, hkPi⟩ := Cond.selects_spec (mvT X.hZ w3 (args := args))
    exact selects_self_of_private (findClass_of_methodNamed q3) hkP hkPi (Cond.privateMethod_at (mvP X.hZ w4 (args := #[]))) (mvT X.hZ w2) hy
  refine ⟨fun hK hW hpre => ?_, fun hK hW hpre => ?_⟩
  · obtain ⟨v, vm₁, B, h1, h2, h5, h6⟩ := X.st.privateBack X.hx X.hown (mvT X.hZ w1) (mvT X.hZ w2) w3' (Cond.privateMethod_at (mvP X.hZ w4 (args := #[]))) (mvT X.hZ w5) hy hK (g := mkF m pc ls st) rfl (hls.trans X.hml.symm) (Steps.refl _) (by rw [X.eT]; exact q1) q2 (lenOf pd hlen) hst hW (X.hd hd) hpre
    exact ⟨v, vm₁, B, h1, h2, h5, fun t q => h6.trans q⟩
  · obtain ⟨v, vm₁, B, h1, h2, h3, h4, h5, h6⟩ := privateBackS X.st X.hx X.hown (mvT X.hZ w1) (mvT X.hZ w2) w3' (Cond.privateMethod_at (mvP X.hZ w4 (args := #[]))) (mvT X.hZ w5) hy hK (g := mkF m pc ls st) rfl (hls.trans X.hml.symm) (Steps.refl _) (by rw [X.eT]; exact q1) q2 (lenOf pd hlen) hst hW (X.hd hd) hpre
    exact ⟨v, vm₁, B, h1, h2, h3, h4, h5, fun t q => h6.trans q⟩
theorem Wk.sFace (X : Wk co Z a0 EL own bytes maxL ret nm ws p l e R s m args below meth c vm0 T h locs cells slots) {index count : Nat} {C : String} {xi y : MethodName} (w1 : (Cond.methodLink own index xi).before a0 Z = true) (w2 : (Cond.declares xi).before a0 Z = true) (w3 : (Cond.interfaceMethod xi.cls xi.cls xi.name xi.desc).before a0 Z = true) (h3 : ((Cond.interfaceMethod xi.cls xi.cls xi.name xi.desc).onTables && (Cond.interfaceMethod xi.cls xi.cls xi.name xi.desc).keepsFace) = true) (w4 : (Cond.selects C xi y).before a0 Z = true) (w5 : (Cond.instanceMethod y).before a0 Z = true) (w6 : (Cond.publicMethod y).before a0 Z = true) (w7 : (Cond.unhidden C xi.name xi.desc).before a0 Z = true) (w8 : (Cond.castable C xi.cls).before a0 Z = true) (hy : xi.cls ≠ "java/lang/invoke/MethodHandle" ∧ xi.cls ≠ "java/lang/invoke/VarHandle") (hls : ls.size = maxL) {ps : List FieldType} {r : Option FieldType} (pd : parseMethodDescriptor xi.desc = some ⟨ps, r⟩) {a : Addr} (Ea : Exa Z h a C) (argsL : List Value) {st : List Value} (hlen : argsL.length = ps.length) (hst : st = argsL.reverse ++ .ref a :: rest) (hd : decode bytes pc = .ok (.invokeinterface index count, 5)) : Site p l e R (s.setVm vm0) m args below meth c T locs cells slots (mkF m pc ls st) 5 y (.ref a :: argsL).toArray rest := by
  obtain ⟨cq, kq, qa, qb, qc⟩ := isOf X.hZ X.eT Ea
  refine ⟨fun hK hW hpre => ?_, fun hK hW hpre => ?_⟩
  · obtain ⟨v, vm₁, B, h1, h2, h5, h6⟩ := X.st.interfaceBack X.hx X.hown (mvT X.hZ w1) (mvT X.hZ w2) (mvT X.hZ w3 h3) (mvT X.hZ w4) (mvT X.hZ w5) (mvT X.hZ w6) (mvT X.hZ w7) (mvT X.hZ w8) hy hK qa qb qc (g := mkF m pc ls st) rfl (hls.trans X.hml.symm) (Steps.refl _) (lenOf pd hlen) hst hW (X.hd hd) hpre
    exact ⟨v, vm₁, B, h1, h2, h5, fun t q => h6.trans q⟩
  · obtain ⟨v, vm₁, B, h1, h2, h3, h4, h5, h6⟩ := X.st.interfaceBackS X.hx X.hown (mvT X.hZ w1) (mvT X.hZ w2) (mvT X.hZ w3 h3) (mvT X.hZ w4) (mvT X.hZ w5) (mvT X.hZ w6) (mvT X.hZ w7) (mvT X.hZ w8) hy hK qa qb qc (g := mkF m pc ls st) rfl (hls.trans X.hml.symm) (Steps.refl _) (lenOf pd hlen) hst hW (X.hd hd) hpre
    exact ⟨v, vm₁, B, h1, h2, h3, h4, h5, fun t q => h6.trans q⟩
theorem sameM {C : String} {y y' : MethodName} (w3 : (Cond.instanceMethod y).before a0 Z = true) (ws : (Cond.selects C y' y').before a0 Z = true) (hc : y'.cls = y.cls) (hy : y.cls ≠ "java/lang/invoke/MethodHandle" ∧ y.cls ≠ "java/lang/invoke/VarHandle") : (Cond.sameMethod y.cls y.cls y.name y.desc).before a0 Z = true := by
  obtain ⟨mk, methM, hnamed, -, -, -⟩ := Cond.instanceMethod_spec w3
  obtain ⟨c2, r2, m2, -, -, q3, -, kP, hkP, hkPi⟩ := Cond.selects_spec ws
  have e1 := findClass_of_methodNamed hnamed
  have e2 := findClass_of_methodNamed q3
  rw [hc] at e2
  have e3 : m2.cls = mk.cls := Option.some.inj (e2.symm.trans e1)
  rw [e3] at hkP
  have hf := State.methodFound?_of_named hnamed hy
  simp only [Cond.before, Cond.holds, Cond.value, e1, hf, show Z.methodNamed? ⟨y.cls, y.name, y.desc⟩ = some mk from hnamed, hkP]
  simp [hkPi]
theorem Wk.sSuper (X : Wk co Z a0 EL own bytes maxL ret nm ws p l e R s m args below meth c vm0 T h locs cells slots) {index : Nat} {C : String} {y y' : MethodName} {ybytes : ByteArray} {ymaxL : Nat} {yret : Option FieldType} {K : String} (hy1 : y.name ≠ "<init>") (w1 : (Cond.methodLink own index y).before a0 Z = true) (w2 : (Cond.instanceMethod y).before a0 Z = true) (ws : (Cond.selects C y' y').before a0 Z = true) (hc : y'.cls = y.cls) (w3 : (Cond.superclass own y.cls).before a0 Z = true) (w4 : (Cond.code y ybytes ymaxL yret).before a0 Z = true) (hy : y.cls ≠ "java/lang/invoke/MethodHandle" ∧ y.cls ≠ "java/lang/invoke/VarHandle") (hls : ls.size = maxL) {ps : List FieldType} {r : Option FieldType} (pd : parseMethodDescriptor y.desc = some ⟨ps, r⟩) {a : Addr} (F : Ins Z h a K true) (argsL : List Value) {st : List Value} (hlen : argsL.length = ps.length) (hst : st = argsL.reverse ++ .ref a :: rest) (hd : decode bytes pc = .ok (.invokespecial index, 3)) : Site p l e R (s.setVm vm0) m args below meth c T locs cells slots (mkF m pc ls st) 3 y (.ref a :: argsL).toArray rest := by
  have sm := sameM w2 ws hc hy
  refine ⟨fun hK hW hpre => ?_, fun hK hW hpre => ?_⟩
  · obtain ⟨v, vm₁, B, h1, h2, h5, h6⟩ := RoadKit.superBack X.st X.hx X.hZ X.hown w1 sm w2 w3 hy1 hK X.eT F (g := mkF m pc ls st) rfl (hls.trans X.hml.symm) w4 (lenOf pd hlen) hst hW (X.hd hd) hpre
    exact ⟨v, vm₁, B, h1, h2, h5, fun t q => h6.trans q⟩
  · obtain ⟨v, vm₁, B, h1, h2, h3, h4, h5, h6⟩ := RoadKit.superBackS X.st X.hx X.hZ X.hown w1 sm w2 w3 hy1 hK X.eT F (g := mkF m pc ls st) rfl (hls.trans X.hml.symm) w4 (lenOf pd hlen) hst hW (X.hd hd) hpre
    exact ⟨v, vm₁, B, h1, h2, h3, h4, h5, fun t q => h6.trans q⟩
theorem Wk.sSpecialN (X : Wk co Z a0 EL own bytes maxL ret nm ws p l e R s m args below meth c vm0 T h locs cells slots) {index : Nat} {y : MethodName} {host : String} {ybytes : ByteArray} {ymaxL : Nat} (hy1 : y.name = "<init>") (w1 : (Cond.methodLinkNest own index y host).before a0 Z = true) (w2 : (Cond.instanceMethod y).before a0 Z = true) (w4 : (Cond.code y ybytes ymaxL none).before a0 Z = true) (hy : y.cls ≠ "java/lang/invoke/MethodHandle" ∧ y.cls ≠ "java/lang/invoke/VarHandle") (hls : ls.size = maxL) {ps : List FieldType} {r : Option FieldType} (pd : parseMethodDescriptor y.desc = some ⟨ps, r⟩) {a : Addr} (argsL : List Value) {st : List Value} (hlen : argsL.length = ps.length) (hst : st = argsL.reverse ++ .ref a :: rest) (hd : decode bytes pc = .ok (.invokespecial index, 3)) : Site p l e R (s.setVm vm0) m args below meth c T locs cells slots (mkF m pc ls st) 3 y (.ref a :: argsL).toArray rest := by
  have w1' : (Cond.methodLinkNest own index y host).before args (s.setVm vm0) = true := Cond.methodLinkNest_wide X.hZ w1
  refine ⟨fun hK hW hpre => ?_, fun hK hW hpre => ?_⟩
  · obtain ⟨v, vm₁, B, h1, h2, h5, h6⟩ := Jvm.Stand.specialBackNest X.st X.hx hy1 X.hown w1' (mvT X.hZ w2) (mvT X.hZ w4) hy hK (g := mkF m pc ls st) rfl (hls.trans X.hml.symm) (Steps.refl _) (lenOf pd hlen) hst hW (X.hd hd) hpre
    exact ⟨v, vm₁, B, h1, h2, h5, fun t q => h6.trans q⟩
  · obtain ⟨v, vm₁, B, h1, h2, h3, h4, h5, h6⟩ := specialBackNestS X.st X.hx hy1 X.hown w1' (mvT X.hZ w2) (mvT X.hZ w4) hy hK (g := mkF m pc ls st) rfl (hls.trans X.hml.symm) (Steps.refl _) (lenOf pd hlen) hst hW (X.hd hd) hpre
    exact ⟨v, vm₁, B, h1, h2, h3, h4, h5, fun t q => h6.trans q⟩
theorem Wk.getSN (X : Wk co Z a0 EL own bytes maxL ret nm ws p l e R s m args below meth c vm0 T h locs cells slots) {R0 O n d host : String} {index : Nat} (w : (Cond.fieldLinkNest own index R0 n d host).before a0 Z = true) (via : Via Z R0 O n d) {v : Value} (F : Sta Z Z.heap O n d v) (hd : decode bytes pc = .ok (.getstatic index, 3)) (hp : pc + 3 = pc') (k : ∀ T, Wk co Z a0 EL own bytes maxL ret nm ws p l e R s m args below meth c vm0 T h locs cells slots → Ends p e below G (T.setTop (mkF m pc' ls (v :: rest)))) : Ends p e below G (T.setTop (mkF m pc ls rest)) := by
  subst hp
  obtain ⟨T', Y, e', st⟩ := RoadKit.getS2 X.st X.hx X.hZ X.hown (Or.inr w) via X.eT (F.ext X.old) (g := mkF m pc ls rest) rfl (X.hd hd)
  exact Ends.go (fun _ q => st _ q) (k _ (X.same Y e'))
theorem Wk.tswIn (X : Wk co Z a0 EL own bytes maxL ret nm ws p l e R s m args below meth c vm0 T h locs cells slots) {dflt low high : Int} {offs : Array Int} {len : Nat} {o : Int} {i : Int32} (hd : decode bytes pc = .ok (.tableswitch dflt low high offs, len)) (hin : ¬ (i.toInt < low ∨ i.toInt > high)) (hoff : offs[(i.toInt - low).toNat]? = some o) (ho : 0 ≤ (pc : Int) + o) (hp : ((pc : Int) + o).toNat = pc') (k : Ends p e below G (T.setTop (mkF m pc' ls rest))) : Ends p e below G (T.setTop (mkF m pc ls (.int i :: rest))) := Ends.go (fun _ q => XS.tswIn X.st.here X.hx rfl rfl (X.hd hd) rfl hin hoff ho hp q) k
theorem Wk.tswOut (X : Wk co Z a0 EL own bytes maxL ret nm ws p l e R s m args below meth c vm0 T h locs cells slots) {dflt low high : Int} {offs : Array Int} {len : Nat} {i : Int32} (hd : decode bytes pc = .ok (.tableswitch dflt low high offs, len)) (hout : i.toInt < low ∨ i.toInt > high) (ho : 0 ≤ (pc : Int) + dflt) (hp : ((pc : Int) + dflt).toNat = pc') (k : Ends p e below G (T.setTop (mkF m pc' ls rest))) : Ends p e below G (T.setTop (mkF m pc ls (.int i :: rest))) := Ends.go (fun _ q => XS.tswOut X.st.here X.hx rfl rfl (X.hd hd) rfl hout ho hp q) k
end Refs
end Jvm.Pilot.@@N@@.Y
namespace Jvm.Pilot.@@N@@
open Jvm Jvm.ClassFile Sem Op Lib Jvm.Free Jvm.Stand Jvm.LawKit Jvm.RoadKit Bundle Y Jvm.Pilot.@@N@@.Jvm.D
theorem d3_0 : decode jdk_22_method_1_code 0 = .ok (.aload_n 0, 1) := by decide +kernel
theorem d3_1 : decode jdk_22_method_1_code 1 = .ok (.invokespecial 1, 3) := by decide +kernel
theorem d3_4 : decode jdk_22_method_1_code 4 = .ok (.return_, 1) := by decide +kernel
theorem d2_0 : decode jdk_39_method_1_code 0 = .ok (.aload_n 0, 1) := by decide +kernel
theorem d2_1 : decode jdk_39_method_1_code 1 = .ok (.invokespecial 1, 3) := by decide +kernel
theorem d2_4 : decode jdk_39_method_1_code 4 = .ok (.aload_n 0, 1) := by decide +kernel
theorem d2_5 : decode jdk_39_method_1_code 5 = .ok (.iconst 0, 1) := by decide +kernel
theorem d2_6 : decode jdk_39_method_1_code 6 = .ok (.putfield 7, 3) := by decide +kernel
theorem d2_9 : decode jdk_39_method_1_code 9 = .ok (.return_, 1) := by decide +kernel
theorem d1_0 : decode jdk_38_method_2_code 0 = .ok (.aload_n 0, 1) := by decide +kernel
theorem d1_1 : decode jdk_38_method_2_code 1 = .ok (.invokespecial 1, 3) := by decide +kernel
theorem d1_4 : decode jdk_38_method_2_code 4 = .ok (.aload_n 0, 1) := by decide +kernel
theorem d1_5 : decode jdk_38_method_2_code 5 = .ok (.getstatic 39, 3) := by decide +kernel
theorem d1_8 : decode jdk_38_method_2_code 8 = .ok (.putfield 9, 3) := by decide +kernel
theorem d1_11 : decode jdk_38_method_2_code 11 = .ok (.return_, 1) := by decide +kernel
theorem d15_0 : decode jdk_29_method_65_code 0 = .ok (.iload_n 0, 1) := by decide +kernel
theorem d15_1 : decode jdk_29_method_65_code 1 = .ok (.iload_n 1, 1) := by decide +kernel
theorem d15_2 : decode jdk_29_method_65_code 2 = .ok (.if_icmp .lt 7, 3) := by decide +kernel
theorem d15_5 : decode jdk_29_method_65_code 5 = .ok (.iload_n 0, 1) := by decide +kernel
theorem d15_6 : decode jdk_29_method_65_code 6 = .ok (.goto 4, 3) := by decide +kernel
theorem d15_10 : decode jdk_29_method_65_code 10 = .ok (.ireturn, 1) := by decide +kernel
theorem d14_0 : decode jdk_38_method_6_code 0 = .ok (.aload_n 0, 1) := by decide +kernel
theorem d14_1 : decode jdk_38_method_6_code 1 = .ok (.getfield 9, 3) := by decide +kernel
theorem d14_4 : decode jdk_38_method_6_code 4 = .ok (.arraylength, 1) := by decide +kernel
theorem d14_5 : decode jdk_38_method_6_code 5 = .ok (.istore_n 2, 1) := by decide +kernel
theorem d14_6 : decode jdk_38_method_6_code 6 = .ok (.iload_n 2, 1) := by decide +kernel
theorem d14_7 : decode jdk_38_method_6_code 7 = .ok (.ifCond .gt 13, 3) := by decide +kernel
theorem d14_10 : decode jdk_38_method_6_code 10 = .ok (.aload_n 0, 1) := by decide +kernel
theorem d14_11 : decode jdk_38_method_6_code 11 = .ok (.getfield 9, 3) := by decide +kernel
theorem d14_14 : decode jdk_38_method_6_code 14 = .ok (.getstatic 39, 3) := by decide +kernel
theorem d14_17 : decode jdk_38_method_6_code 17 = .ok (.if_acmp .eq 28, 3) := by decide +kernel
theorem d14_45 : decode jdk_38_method_6_code 45 = .ok (.aload_n 0, 1) := by decide +kernel
theorem d14_46 : decode jdk_38_method_6_code 46 = .ok (.bipush 10, 2) := by decide +kernel
theorem d14_48 : decode jdk_38_method_6_code 48 = .ok (.iload_n 1, 1) := by decide +kernel
theorem d14_49 : decode jdk_38_method_6_code 49 = .ok (.invokestatic 79, 3) := by decide +kernel
theorem d14_52 : decode jdk_38_method_6_code 52 = .ok (.anewarray 7, 3) := by decide +kernel
theorem d14_55 : decode jdk_38_method_6_code 55 = .ok (.dup_x1, 1) := by decide +kernel
theorem d14_56 : decode jdk_38_method_6_code 56 = .ok (.putfield 9, 3) := by decide +kernel
theorem d14_59 : decode jdk_38_method_6_code 59 = .ok (.areturn, 1) := by decide +kernel
theorem d13_0 : decode jdk_38_method_7_code 0 = .ok (.aload_n 0, 1) := by decide +kernel
theorem d13_1 : decode jdk_38_method_7_code 1 = .ok (.aload_n 0, 1) := by decide +kernel
theorem d13_2 : decode jdk_38_method_7_code 2 = .ok (.getfield 48, 3) := by decide +kernel
theorem d13_5 : decode jdk_38_method_7_code 5 = .ok (.iconst 1, 1) := by decide +kernel
theorem d13_6 : decode jdk_38_method_7_code 6 = .ok (.iadd, 1) := by decide +kernel
theorem d13_7 : decode jdk_38_method_7_code 7 = .ok (.invokevirtual 69, 3) := by decide +kernel
theorem d13_10 : decode jdk_38_method_7_code 10 = .ok (.areturn, 1) := by decide +kernel
theorem d12_0 : decode jdk_38_method_24_code 0 = .ok (.iload_n 3, 1) := by decide +kernel
theorem d12_1 : decode jdk_38_method_24_code 1 = .ok (.aload_n 2, 1) := by decide +kernel
theorem d12_2 : decode jdk_38_method_24_code 2 = .ok (.arraylength, 1) := by decide +kernel
theorem d12_3 : decode jdk_38_method_24_code 3 = .ok (.if_icmp .ne 8, 3) := by decide +kernel
theorem d12_6 : decode jdk_38_method_24_code 6 = .ok (.aload_n 0, 1) := by decide +kernel
theorem d12_7 : decode jdk_38_method_24_code 7 = .ok (.invokevirtual 129, 3) := by decide +kernel
theorem d12_10 : decode jdk_38_method_24_code 10 = .ok (.astore_n 2, 1) := by decide +kernel
theorem d12_11 : decode jdk_38_method_24_code 11 = .ok (.aload_n 2, 1) := by decide +kernel
theorem d12_12 : decode jdk_38_method_24_code 12 = .ok (.iload_n 3, 1) := by decide +kernel
theorem d12_13 : decode jdk_38_method_24_code 13 = .ok (.aload_n 1, 1) := by decide +kernel
theorem d12_14 : decode jdk_38_method_24_code 14 = .ok (.aastore, 1) := by decide +kernel
theorem d12_15 : decode jdk_38_method_24_code 15 = .ok (.aload_n 0, 1) := by decide +kernel
theorem d12_16 : decode jdk_38_method_24_code 16 = .ok (.iload_n 3, 1) := by decide +kernel
theorem d12_17 : decode jdk_38_method_24_code 17 = .ok (.iconst 1, 1) := by decide +kernel
theorem d12_18 : decode jdk_38_method_24_code 18 = .ok (.iadd, 1) := by decide +kernel
theorem d12_19 : decode jdk_38_method_24_code 19 = .ok (.putfield 48, 3) := by decide +kernel
theorem d12_22 : decode jdk_38_method_24_code 22 = .ok (.return_, 1) := by decide +kernel
theorem d11_0 : decode jdk_38_method_25_code 0 = .ok (.aload_n 0, 1) := by decide +kernel
theorem d11_1 : decode jdk_38_method_25_code 1 = .ok (.dup, 1) := by decide +kernel
theorem d11_2 : decode jdk_38_method_25_code 2 = .ok (.getfield 63, 3) := by decide +kernel
theorem d11_5 : decode jdk_38_method_25_code 5 = .ok (.iconst 1, 1) := by decide +kernel
theorem d11_6 : decode jdk_38_method_25_code 6 = .ok (.iadd, 1) := by decide +kernel
theorem d11_7 : decode jdk_38_method_25_code 7 = .ok (.putfield 63, 3) := by decide +kernel
theorem d11_10 : decode jdk_38_method_25_code 10 = .ok (.aload_n 0, 1) := by decide +kernel
theorem d11_11 : decode jdk_38_method_25_code 11 = .ok (.aload_n 1, 1) := by decide +kernel
theorem d11_12 : decode jdk_38_method_25_code 12 = .ok (.aload_n 0, 1) := by decide +kernel
theorem d11_13 : decode jdk_38_method_25_code 13 = .ok (.getfield 9, 3) := by decide +kernel
theorem d11_16 : decode jdk_38_method_25_code 16 = .ok (.aload_n 0, 1) := by decide +kernel
theorem d11_17 : decode jdk_38_method_25_code 17 = .ok (.getfield 48, 3) := by decide +kernel
theorem d11_20 : decode jdk_38_method_25_code 20 = .ok (.invokevirtual 131, 3) := by decide +kernel
theorem d11_23 : decode jdk_38_method_25_code 23 = .ok (.iconst 1, 1) := by decide +kernel
theorem d11_24 : decode jdk_38_method_25_code 24 = .ok (.ireturn, 1) := by decide +kernel
theorem d19_0 : decode jdk_38_method_9_code 0 = .ok (.aload_n 0, 1) := by decide +kernel
theorem d19_1 : decode jdk_38_method_9_code 1 = .ok (.getfield 48, 3) := by decide +kernel
theorem d19_4 : decode jdk_38_method_9_code 4 = .ok (.ifCond .ne 7, 3) := by decide +kernel
theorem d19_7 : decode jdk_38_method_9_code 7 = .ok (.iconst 1, 1) := by decide +kernel
theorem d19_8 : decode jdk_38_method_9_code 8 = .ok (.goto 4, 3) := by decide +kernel
theorem d19_12 : decode jdk_38_method_9_code 12 = .ok (.ireturn, 1) := by decide +kernel
theorem d19_11 : decode jdk_38_method_9_code 11 = .ok (.iconst 0, 1) := by decide +kernel
theorem d23_0 : decode jdk_29_method_69_code 0 = .ok (.iload_n 0, 1) := by decide +kernel
theorem d23_1 : decode jdk_29_method_69_code 1 = .ok (.iload_n 1, 1) := by decide +kernel
theorem d23_2 : decode jdk_29_method_69_code 2 = .ok (.if_icmp .gt 7, 3) := by decide +kernel
theorem d23_9 : decode jdk_29_method_69_code 9 = .ok (.iload_n 1, 1) := by decide +kernel
theorem d23_10 : decode jdk_29_method_69_code 10 = .ok (.ireturn, 1) := by decide +kernel
theorem d22_0 : decode jdk_65_method_120_code 0 = .ok (.aload_n 2, 1) := by decide +kernel
theorem d22_1 : decode jdk_65_method_120_code 1 = .ok (.ldc 110, 2) := by decide +kernel
theorem d22_3 : decode jdk_65_method_120_code 3 = .ok (.if_acmp .ne 10, 3) := by decide +kernel
theorem d22_6 : decode jdk_65_method_120_code 6 = .ok (.iload_n 1, 1) := by decide +kernel
theorem d22_7 : decode jdk_65_method_120_code 7 = .ok (.anewarray 2, 3) := by decide +kernel
theorem d22_10 : decode jdk_65_method_120_code 10 = .ok (.goto 14, 3) := by decide +kernel
theorem d22_24 : decode jdk_65_method_120_code 24 = .ok (.astore_n 3, 1) := by decide +kernel
theorem d22_25 : decode jdk_65_method_120_code 25 = .ok (.aload_n 0, 1) := by decide +kernel
theorem d22_26 : decode jdk_65_method_120_code 26 = .ok (.iconst 0, 1) := by decide +kernel
theorem d22_27 : decode jdk_65_method_120_code 27 = .ok (.aload_n 3, 1) := by decide +kernel
theorem d22_28 : decode jdk_65_method_120_code 28 = .ok (.iconst 0, 1) := by decide +kernel
theorem d22_29 : decode jdk_65_method_120_code 29 = .ok (.aload_n 0, 1) := by decide +kernel
theorem d22_30 : decode jdk_65_method_120_code 30 = .ok (.arraylength, 1) := by decide +kernel
theorem d22_31 : decode jdk_65_method_120_code 31 = .ok (.iload_n 1, 1) := by decide +kernel
theorem d22_32 : decode jdk_65_method_120_code 32 = .ok (.invokestatic 304, 3) := by decide +kernel
theorem d22_35 : decode jdk_65_method_120_code 35 = .ok (.invokestatic 150, 3) := by decide +kernel
theorem d22_38 : decode jdk_65_method_120_code 38 = .ok (.aload_n 3, 1) := by decide +kernel
theorem d22_39 : decode jdk_65_method_120_code 39 = .ok (.areturn, 1) := by decide +kernel
theorem d21_0 : decode jdk_65_method_119_code 0 = .ok (.aload_n 0, 1) := by decide +kernel
theorem d21_1 : decode jdk_65_method_119_code 1 = .ok (.iload_n 1, 1) := by decide +kernel
theorem d21_2 : decode jdk_65_method_119_code 2 = .ok (.aload_n 0, 1) := by decide +kernel
theorem d21_3 : decode jdk_65_method_119_code 3 = .ok (.invokevirtual 86, 3) := by decide +kernel
theorem d21_6 : decode jdk_65_method_119_code 6 = .ok (.invokestatic 300, 3) := by decide +kernel
theorem d21_9 : decode jdk_65_method_119_code 9 = .ok (.areturn, 1) := by decide +kernel
theorem d20_0 : decode jdk_38_method_16_code 0 = .ok (.aload_n 0, 1) := by decide +kernel
theorem d20_1 : decode jdk_38_method_16_code 1 = .ok (.getfield 9, 3) := by decide +kernel
theorem d20_4 : decode jdk_38_method_16_code 4 = .ok (.aload_n 0, 1) := by decide +kernel
theorem d20_5 : decode jdk_38_method_16_code 5 = .ok (.getfield 48, 3) := by decide +kernel
theorem d20_8 : decode jdk_38_method_16_code 8 = .ok (.invokestatic 66, 3) := by decide +kernel
theorem d20_11 : decode jdk_38_method_16_code 11 = .ok (.areturn, 1) := by decide +kernel
theorem d5_0 : decode method_2_code 0 = .ok (.iconst 1, 1) := by decide +kernel
theorem d5_1 : decode method_2_code 1 = .ok (.newarray .char, 2) := by decide +kernel
theorem d5_3 : decode method_2_code 3 = .ok (.astore_n 1, 1) := by decide +kernel
theorem d5_4 : decode method_2_code 4 = .ok (.aload_n 1, 1) := by decide +kernel
theorem d5_5 : decode method_2_code 5 = .ok (.iconst 0, 1) := by decide +kernel
theorem d5_6 : decode method_2_code 6 = .ok (.iload_n 0, 1) := by decide +kernel
theorem d5_7 : decode method_2_code 7 = .ok (.sipush 255, 3) := by decide +kernel
theorem d5_10 : decode method_2_code 10 = .ok (.iand, 1) := by decide +kernel
theorem d5_11 : decode method_2_code 11 = .ok (.i2c, 1) := by decide +kernel
theorem d5_12 : decode method_2_code 12 = .ok (.castore, 1) := by decide +kernel
theorem d5_13 : decode method_2_code 13 = .ok (.new 7, 3) := by decide +kernel
theorem d5_16 : decode method_2_code 16 = .ok (.dup, 1) := by decide +kernel
theorem d5_17 : decode method_2_code 17 = .ok (.aload_n 1, 1) := by decide +kernel
theorem d5_18 : decode method_2_code 18 = .ok (.invokespecial 9, 3) := by decide +kernel
theorem d5_21 : decode method_2_code 21 = .ok (.areturn, 1) := by decide +kernel
theorem d28_0 : decode jdk_31_method_10_code 0 = .ok (.aload_n 0, 1) := by decide +kernel
theorem d28_1 : decode jdk_31_method_10_code 1 = .ok (.ifnonnull 11, 3) := by decide +kernel
theorem d28_12 : decode jdk_31_method_10_code 12 = .ok (.aload_n 0, 1) := by decide +kernel
theorem d28_13 : decode jdk_31_method_10_code 13 = .ok (.areturn, 1) := by decide +kernel
theorem d31_0 : decode jdk_41_method_11_code 0 = .ok (.iload_n 0, 1) := by decide +kernel
theorem d31_1 : decode jdk_41_method_11_code 1 = .ok (.ifCond .lt 8, 3) := by decide +kernel
theorem d31_4 : decode jdk_41_method_11_code 4 = .ok (.iload_n 0, 1) := by decide +kernel
theorem d31_5 : decode jdk_41_method_11_code 5 = .ok (.iload_n 1, 1) := by decide +kernel
theorem d31_6 : decode jdk_41_method_11_code 6 = .ok (.if_icmp .lt 10, 3) := by decide +kernel
theorem d31_16 : decode jdk_41_method_11_code 16 = .ok (.iload_n 0, 1) := by decide +kernel
theorem d31_17 : decode jdk_41_method_11_code 17 = .ok (.ireturn, 1) := by decide +kernel
theorem d30_0 : decode jdk_31_method_17_code 0 = .ok (.iload_n 0, 1) := by decide +kernel
theorem d30_1 : decode jdk_31_method_17_code 1 = .ok (.iload_n 1, 1) := by decide +kernel
theorem d30_2 : decode jdk_31_method_17_code 2 = .ok (.aconst_null, 1) := by decide +kernel
theorem d30_3 : decode jdk_31_method_17_code 3 = .ok (.invokestatic 105, 3) := by decide +kernel
theorem d30_6 : decode jdk_31_method_17_code 6 = .ok (.ireturn, 1) := by decide +kernel
theorem d32_0 : decode jdk_38_method_18_code 0 = .ok (.aload_n 0, 1) := by decide +kernel
theorem d32_1 : decode jdk_38_method_18_code 1 = .ok (.getfield 9, 3) := by decide +kernel
theorem d32_4 : decode jdk_38_method_18_code 4 = .ok (.iload_n 1, 1) := by decide +kernel
theorem d32_5 : decode jdk_38_method_18_code 5 = .ok (.aaload, 1) := by decide +kernel
theorem d32_6 : decode jdk_38_method_18_code 6 = .ok (.areturn, 1) := by decide +kernel
theorem d37_0 : decode jdk_38_method_20_code 0 = .ok (.iload_n 1, 1) := by decide +kernel
theorem d37_1 : decode jdk_38_method_20_code 1 = .ok (.aload_n 0, 1) := by decide +kernel
theorem d37_2 : decode jdk_38_method_20_code 2 = .ok (.getfield 48, 3) := by decide +kernel
theorem d37_5 : decode jdk_38_method_20_code 5 = .ok (.invokestatic 118, 3) := by decide +kernel
theorem d37_8 : decode jdk_38_method_20_code 8 = .ok (.pop, 1) := by decide +kernel
theorem d37_9 : decode jdk_38_method_20_code 9 = .ok (.aload_n 0, 1) := by decide +kernel
theorem d37_10 : decode jdk_38_method_20_code 10 = .ok (.iload_n 1, 1) := by decide +kernel
theorem d37_11 : decode jdk_38_method_20_code 11 = .ok (.invokevirtual 123, 3) := by decide +kernel
theorem d37_14 : decode jdk_38_method_20_code 14 = .ok (.areturn, 1) := by decide +kernel
theorem d29_0 : decode jdk_38_method_23_code 0 = .ok (.iload_n 1, 1) := by decide +kernel
theorem d29_1 : decode jdk_38_method_23_code 1 = .ok (.aload_n 0, 1) := by decide +kernel
theorem d29_2 : decode jdk_38_method_23_code 2 = .ok (.getfield 48, 3) := by decide +kernel
theorem d29_5 : decode jdk_38_method_23_code 5 = .ok (.invokestatic 118, 3) := by decide +kernel
theorem d29_8 : decode jdk_38_method_23_code 8 = .ok (.pop, 1) := by decide +kernel
theorem d29_9 : decode jdk_38_method_23_code 9 = .ok (.aload_n 0, 1) := by decide +kernel
theorem d29_10 : decode jdk_38_method_23_code 10 = .ok (.iload_n 1, 1) := by decide +kernel
theorem d29_11 : decode jdk_38_method_23_code 11 = .ok (.invokevirtual 123, 3) := by decide +kernel
theorem d29_14 : decode jdk_38_method_23_code 14 = .ok (.astore_n 3, 1) := by decide +kernel
theorem d29_15 : decode jdk_38_method_23_code 15 = .ok (.aload_n 0, 1) := by decide +kernel
theorem d29_16 : decode jdk_38_method_23_code 16 = .ok (.getfield 9, 3) := by decide +kernel
theorem d29_19 : decode jdk_38_method_23_code 19 = .ok (.iload_n 1, 1) := by decide +kernel
theorem d29_20 : decode jdk_38_method_23_code 20 = .ok (.aload_n 2, 1) := by decide +kernel
theorem d29_21 : decode jdk_38_method_23_code 21 = .ok (.aastore, 1) := by decide +kernel
theorem d29_22 : decode jdk_38_method_23_code 22 = .ok (.aload_n 3, 1) := by decide +kernel
theorem d29_23 : decode jdk_38_method_23_code 23 = .ok (.areturn, 1) := by decide +kernel
theorem d36_0 : decode jdk_38_method_8_code 0 = .ok (.aload_n 0, 1) := by decide +kernel
theorem d36_1 : decode jdk_38_method_8_code 1 = .ok (.getfield 48, 3) := by decide +kernel
theorem d36_4 : decode jdk_38_method_8_code 4 = .ok (.ireturn, 1) := by decide +kernel
theorem d27_0 : decode jdk_47_method_1_code 0 = .ok (.aload_n 0, 1) := by decide +kernel
theorem d27_1 : decode jdk_47_method_1_code 1 = .ok (.invokespecial 1, 3) := by decide +kernel
theorem d27_4 : decode jdk_47_method_1_code 4 = .ok (.return_, 1) := by decide +kernel
theorem d26_0 : decode jdk_46_method_1_code 0 = .ok (.aload_n 0, 1) := by decide +kernel
theorem d26_1 : decode jdk_46_method_1_code 1 = .ok (.invokespecial 1, 3) := by decide +kernel
theorem d26_4 : decode jdk_46_method_1_code 4 = .ok (.return_, 1) := by decide +kernel
theorem d25_0 : decode jdk_44_method_1_code 0 = .ok (.aload_n 0, 1) := by decide +kernel
theorem d25_1 : decode jdk_44_method_1_code 1 = .ok (.invokespecial 1, 3) := by decide +kernel
theorem d25_4 : decode jdk_44_method_1_code 4 = .ok (.aload_n 0, 1) := by decide +kernel
theorem d25_5 : decode jdk_44_method_1_code 5 = .ok (.aload_n 1, 1) := by decide +kernel
theorem d25_6 : decode jdk_44_method_1_code 6 = .ok (.invokestatic 7, 3) := by decide +kernel
theorem d25_9 : decode jdk_44_method_1_code 9 = .ok (.putfield 13, 3) := by decide +kernel
theorem d25_12 : decode jdk_44_method_1_code 12 = .ok (.aload_n 0, 1) := by decide +kernel
theorem d25_13 : decode jdk_44_method_1_code 13 = .ok (.getstatic 19, 3) := by decide +kernel
theorem d25_16 : decode jdk_44_method_1_code 16 = .ok (.putfield 24, 3) := by decide +kernel
theorem d25_19 : decode jdk_44_method_1_code 19 = .ok (.return_, 1) := by decide +kernel
theorem d39_0 : decode jdk_44_method_2_code 0 = .ok (.aload_n 0, 1) := by decide +kernel
theorem d39_1 : decode jdk_44_method_2_code 1 = .ok (.invokespecial 1, 3) := by decide +kernel
theorem d39_4 : decode jdk_44_method_2_code 4 = .ok (.aload_n 0, 1) := by decide +kernel
theorem d39_5 : decode jdk_44_method_2_code 5 = .ok (.aload_n 1, 1) := by decide +kernel
theorem d39_6 : decode jdk_44_method_2_code 6 = .ok (.invokestatic 7, 3) := by decide +kernel
theorem d39_9 : decode jdk_44_method_2_code 9 = .ok (.putfield 13, 3) := by decide +kernel
theorem d39_12 : decode jdk_44_method_2_code 12 = .ok (.aload_n 0, 1) := by decide +kernel
theorem d39_13 : decode jdk_44_method_2_code 13 = .ok (.aload_n 2, 1) := by decide +kernel
theorem d39_14 : decode jdk_44_method_2_code 14 = .ok (.invokestatic 7, 3) := by decide +kernel
theorem d39_17 : decode jdk_44_method_2_code 17 = .ok (.putfield 24, 3) := by decide +kernel
theorem d39_20 : decode jdk_44_method_2_code 20 = .ok (.return_, 1) := by decide +kernel
theorem d41_0 : decode jdk_45_method_1_code 0 = .ok (.aload_n 0, 1) := by decide +kernel
theorem d41_1 : decode jdk_45_method_1_code 1 = .ok (.invokespecial 1, 3) := by decide +kernel
theorem d41_4 : decode jdk_45_method_1_code 4 = .ok (.aload_n 0, 1) := by decide +kernel
theorem d41_5 : decode jdk_45_method_1_code 5 = .ok (.aload_n 1, 1) := by decide +kernel
theorem d41_6 : decode jdk_45_method_1_code 6 = .ok (.putfield 7, 3) := by decide +kernel
theorem d41_9 : decode jdk_45_method_1_code 9 = .ok (.aload_n 0, 1) := by decide +kernel
theorem d41_10 : decode jdk_45_method_1_code 10 = .ok (.iload_n 2, 1) := by decide +kernel
theorem d41_11 : decode jdk_45_method_1_code 11 = .ok (.putfield 13, 3) := by decide +kernel
theorem d41_14 : decode jdk_45_method_1_code 14 = .ok (.return_, 1) := by decide +kernel
theorem d40_0 : decode jdk_56_method_4_code 0 = .ok (.aload_n 0, 1) := by decide +kernel
theorem d40_1 : decode jdk_56_method_4_code 1 = .ok (.arraylength, 1) := by decide +kernel
theorem d40_2 : decode jdk_56_method_4_code 2 = .ok (.anewarray 2, 3) := by decide +kernel
theorem d40_5 : decode jdk_56_method_4_code 5 = .ok (.astore_n 1, 1) := by decide +kernel
theorem d40_6 : decode jdk_56_method_4_code 6 = .ok (.iconst 0, 1) := by decide +kernel
theorem d40_7 : decode jdk_56_method_4_code 7 = .ok (.istore_n 2, 1) := by decide +kernel
theorem d40_8 : decode jdk_56_method_4_code 8 = .ok (.iload_n 2, 1) := by decide +kernel
theorem d40_9 : decode jdk_56_method_4_code 9 = .ok (.aload_n 0, 1) := by decide +kernel
theorem d40_10 : decode jdk_56_method_4_code 10 = .ok (.arraylength, 1) := by decide +kernel
theorem d40_11 : decode jdk_56_method_4_code 11 = .ok (.if_icmp .ge 18, 3) := by decide +kernel
theorem d40_14 : decode jdk_56_method_4_code 14 = .ok (.aload_n 1, 1) := by decide +kernel
theorem d40_15 : decode jdk_56_method_4_code 15 = .ok (.iload_n 2, 1) := by decide +kernel
theorem d40_16 : decode jdk_56_method_4_code 16 = .ok (.aload_n 0, 1) := by decide +kernel
theorem d40_17 : decode jdk_56_method_4_code 17 = .ok (.iload_n 2, 1) := by decide +kernel
theorem d40_18 : decode jdk_56_method_4_code 18 = .ok (.aaload, 1) := by decide +kernel
theorem d40_19 : decode jdk_56_method_4_code 19 = .ok (.invokestatic 37, 3) := by decide +kernel
theorem d40_22 : decode jdk_56_method_4_code 22 = .ok (.aastore, 1) := by decide +kernel
theorem d40_23 : decode jdk_56_method_4_code 23 = .ok (.iinc 2 1, 3) := by decide +kernel
theorem d40_26 : decode jdk_56_method_4_code 26 = .ok (.goto (-18), 3) := by decide +kernel
theorem d40_29 : decode jdk_56_method_4_code 29 = .ok (.new 12, 3) := by decide +kernel
theorem d40_32 : decode jdk_56_method_4_code 32 = .ok (.dup, 1) := by decide +kernel
theorem d40_33 : decode jdk_56_method_4_code 33 = .ok (.aload_n 1, 1) := by decide +kernel
theorem d40_34 : decode jdk_56_method_4_code 34 = .ok (.iconst 0, 1) := by decide +kernel
theorem d40_35 : decode jdk_56_method_4_code 35 = .ok (.invokespecial 43, 3) := by decide +kernel
theorem d40_38 : decode jdk_56_method_4_code 38 = .ok (.areturn, 1) := by decide +kernel
theorem d24_0 : decode jdk_40_method_47_code 0 = .ok (.aload_n 0, 1) := by decide +kernel
theorem d24_1 : decode jdk_40_method_47_code 1 = .ok (.arraylength, 1) := by decide +kernel
theorem d24_2 : decode jdk_40_method_47_code 2 = .ok (.tableswitch 57 0 2 #[26, 32, 43], 26) := by decide +kernel
theorem d24_34 : decode jdk_40_method_47_code 34 = .ok (.new 96, 3) := by decide +kernel
theorem d24_37 : decode jdk_40_method_47_code 37 = .ok (.dup, 1) := by decide +kernel
theorem d24_38 : decode jdk_40_method_47_code 38 = .ok (.aload_n 0, 1) := by decide +kernel
theorem d24_39 : decode jdk_40_method_47_code 39 = .ok (.iconst 0, 1) := by decide +kernel
theorem d24_40 : decode jdk_40_method_47_code 40 = .ok (.aaload, 1) := by decide +kernel
theorem d24_41 : decode jdk_40_method_47_code 41 = .ok (.invokespecial 98, 3) := by decide +kernel
theorem d24_44 : decode jdk_40_method_47_code 44 = .ok (.areturn, 1) := by decide +kernel
theorem d18_0 : decode jdk_56_method_3_code 0 = .ok (.aload_n 0, 1) := by decide +kernel
theorem d18_1 : decode jdk_56_method_3_code 1 = .ok (.instanceof 10, 3) := by decide +kernel
theorem d18_4 : decode jdk_56_method_3_code 4 = .ok (.ifCond .ne 22, 3) := by decide +kernel
theorem d18_7 : decode jdk_56_method_3_code 7 = .ok (.aload_n 0, 1) := by decide +kernel
theorem d18_8 : decode jdk_56_method_3_code 8 = .ok (.instanceof 12, 3) := by decide +kernel
theorem d18_11 : decode jdk_56_method_3_code 11 = .ok (.ifCond .eq 20, 3) := by decide +kernel
theorem d18_31 : decode jdk_56_method_3_code 31 = .ok (.aload_n 0, 1) := by decide +kernel
theorem d18_32 : decode jdk_56_method_3_code 32 = .ok (.invokeinterface 20 1, 5) := by decide +kernel
theorem d18_37 : decode jdk_56_method_3_code 37 = .ok (.ifCond .eq 7, 3) := by decide +kernel
theorem d18_44 : decode jdk_56_method_3_code 44 = .ok (.aload_n 0, 1) := by decide +kernel
theorem d18_45 : decode jdk_56_method_3_code 45 = .ok (.invokeinterface 30 1, 5) := by decide +kernel
theorem d18_50 : decode jdk_56_method_3_code 50 = .ok (.invokestatic 34, 3) := by decide +kernel
theorem d18_53 : decode jdk_56_method_3_code 53 = .ok (.areturn, 1) := by decide +kernel
theorem d17_0 : decode jdk_40_method_48_code 0 = .ok (.aload_n 0, 1) := by decide +kernel
theorem d17_1 : decode jdk_40_method_48_code 1 = .ok (.invokestatic 112, 3) := by decide +kernel
theorem d17_4 : decode jdk_40_method_48_code 4 = .ok (.areturn, 1) := by decide +kernel
theorem d24_45 : decode jdk_40_method_47_code 45 = .ok (.new 96, 3) := by decide +kernel
theorem d24_48 : decode jdk_40_method_47_code 48 = .ok (.dup, 1) := by decide +kernel
theorem d24_49 : decode jdk_40_method_47_code 49 = .ok (.aload_n 0, 1) := by decide +kernel
theorem d24_50 : decode jdk_40_method_47_code 50 = .ok (.iconst 0, 1) := by decide +kernel
theorem d24_51 : decode jdk_40_method_47_code 51 = .ok (.aaload, 1) := by decide +kernel
theorem d24_52 : decode jdk_40_method_47_code 52 = .ok (.aload_n 0, 1) := by decide +kernel
theorem d24_53 : decode jdk_40_method_47_code 53 = .ok (.iconst 1, 1) := by decide +kernel
theorem d24_54 : decode jdk_40_method_47_code 54 = .ok (.aaload, 1) := by decide +kernel
theorem d24_55 : decode jdk_40_method_47_code 55 = .ok (.invokespecial 100, 3) := by decide +kernel
theorem d24_58 : decode jdk_40_method_47_code 58 = .ok (.areturn, 1) := by decide +kernel
theorem d24_59 : decode jdk_40_method_47_code 59 = .ok (.aload_n 0, 1) := by decide +kernel
theorem d24_60 : decode jdk_40_method_47_code 60 = .ok (.invokestatic 109, 3) := by decide +kernel
theorem d24_63 : decode jdk_40_method_47_code 63 = .ok (.areturn, 1) := by decide +kernel
theorem d16_0 : decode prog_6_method_1_code 0 = .ok (.aload_n 0, 1) := by decide +kernel
theorem d16_1 : decode prog_6_method_1_code 1 = .ok (.invokespecial 1, 3) := by decide +kernel
theorem d16_4 : decode prog_6_method_1_code 4 = .ok (.aload_n 0, 1) := by decide +kernel
theorem d16_5 : decode prog_6_method_1_code 5 = .ok (.aload_n 1, 1) := by decide +kernel
theorem d16_6 : decode prog_6_method_1_code 6 = .ok (.invokestatic 7, 3) := by decide +kernel
theorem d16_9 : decode prog_6_method_1_code 9 = .ok (.putfield 13, 3) := by decide +kernel
theorem d16_12 : decode prog_6_method_1_code 12 = .ok (.aload_n 0, 1) := by decide +kernel
theorem d16_13 : decode prog_6_method_1_code 13 = .ok (.iload_n 2, 1) := by decide +kernel
theorem d16_14 : decode prog_6_method_1_code 14 = .ok (.putfield 19, 3) := by decide +kernel
theorem d16_17 : decode prog_6_method_1_code 17 = .ok (.aload_n 0, 1) := by decide +kernel
theorem d16_18 : decode prog_6_method_1_code 18 = .ok (.aload_n 3, 1) := by decide +kernel
theorem d16_19 : decode prog_6_method_1_code 19 = .ok (.putfield 23, 3) := by decide +kernel
theorem d16_22 : decode prog_6_method_1_code 22 = .ok (.return_, 1) := by decide +kernel
theorem d34_0 : decode jdk_44_method_5_code 0 = .ok (.iload_n 1, 1) := by decide +kernel
theorem d34_1 : decode jdk_44_method_5_code 1 = .ok (.ifCond .ne 8, 3) := by decide +kernel
theorem d34_4 : decode jdk_44_method_5_code 4 = .ok (.aload_n 0, 1) := by decide +kernel
theorem d34_5 : decode jdk_44_method_5_code 5 = .ok (.getfield 13, 3) := by decide +kernel
theorem d34_8 : decode jdk_44_method_5_code 8 = .ok (.areturn, 1) := by decide +kernel
theorem d34_9 : decode jdk_44_method_5_code 9 = .ok (.iload_n 1, 1) := by decide +kernel
theorem d34_10 : decode jdk_44_method_5_code 10 = .ok (.iconst 1, 1) := by decide +kernel
theorem d34_11 : decode jdk_44_method_5_code 11 = .ok (.if_icmp .ne 18, 3) := by decide +kernel
theorem d34_14 : decode jdk_44_method_5_code 14 = .ok (.aload_n 0, 1) := by decide +kernel
theorem d34_15 : decode jdk_44_method_5_code 15 = .ok (.getfield 24, 3) := by decide +kernel
theorem d34_18 : decode jdk_44_method_5_code 18 = .ok (.getstatic 19, 3) := by decide +kernel
theorem d34_21 : decode jdk_44_method_5_code 21 = .ok (.if_acmp .eq 8, 3) := by decide +kernel
theorem d34_24 : decode jdk_44_method_5_code 24 = .ok (.aload_n 0, 1) := by decide +kernel
theorem d34_25 : decode jdk_44_method_5_code 25 = .ok (.getfield 24, 3) := by decide +kernel
theorem d34_28 : decode jdk_44_method_5_code 28 = .ok (.areturn, 1) := by decide +kernel
theorem d42_0 : decode jdk_45_method_4_code 0 = .ok (.aload_n 0, 1) := by decide +kernel
theorem d42_1 : decode jdk_45_method_4_code 1 = .ok (.getfield 7, 3) := by decide +kernel
theorem d42_4 : decode jdk_45_method_4_code 4 = .ok (.iload_n 1, 1) := by decide +kernel
theorem d42_5 : decode jdk_45_method_4_code 5 = .ok (.aaload, 1) := by decide +kernel
theorem d42_6 : decode jdk_45_method_4_code 6 = .ok (.areturn, 1) := by decide +kernel
theorem d33_0 : decode prog_6_method_4_code 0 = .ok (.aload_n 0, 1) := by decide +kernel
theorem d33_1 : decode prog_6_method_4_code 1 = .ok (.getfield 13, 3) := by decide +kernel
theorem d33_4 : decode prog_6_method_4_code 4 = .ok (.iload_n 1, 1) := by decide +kernel
theorem d33_5 : decode prog_6_method_4_code 5 = .ok (.invokeinterface 27 2, 5) := by decide +kernel
theorem d33_10 : decode prog_6_method_4_code 10 = .ok (.checkcast 8, 3) := by decide +kernel
theorem d33_13 : decode prog_6_method_4_code 13 = .ok (.areturn, 1) := by decide +kernel
theorem d38_0 : decode jdk_42_method_66_code 0 = .ok (.aload_n 0, 1) := by decide +kernel
theorem d38_1 : decode jdk_42_method_66_code 1 = .ok (.aload_n 1, 1) := by decide +kernel
theorem d38_2 : decode jdk_42_method_66_code 2 = .ok (.if_acmp .ne 5, 3) := by decide +kernel
theorem d38_5 : decode jdk_42_method_66_code 5 = .ok (.iconst 1, 1) := by decide +kernel
theorem d38_6 : decode jdk_42_method_66_code 6 = .ok (.ireturn, 1) := by decide +kernel
theorem d35_0 : decode method_3_code 0 = .ok (.aload_n 1, 1) := by decide +kernel
theorem d35_1 : decode method_3_code 1 = .ok (.invokeinterface 12 1, 5) := by decide +kernel
theorem d35_6 : decode method_3_code 6 = .ok (.istore_n 2, 1) := by decide +kernel
theorem d35_7 : decode method_3_code 7 = .ok (.aload_n 0, 1) := by decide +kernel
theorem d35_8 : decode method_3_code 8 = .ok (.invokeinterface 12 1, 5) := by decide +kernel
theorem d35_13 : decode method_3_code 13 = .ok (.iload_n 2, 1) := by decide +kernel
theorem d35_14 : decode method_3_code 14 = .ok (.if_icmp .eq 5, 3) := by decide +kernel
theorem d35_19 : decode method_3_code 19 = .ok (.iload_n 2, 1) := by decide +kernel
theorem d35_20 : decode method_3_code 20 = .ok (.ifCond .le 28, 3) := by decide +kernel
theorem d35_48 : decode method_3_code 48 = .ok (.iload_n 2, 1) := by decide +kernel
theorem d35_49 : decode method_3_code 49 = .ok (.iconst 1, 1) := by decide +kernel
theorem d35_50 : decode method_3_code 50 = .ok (.if_icmp .le 28, 3) := by decide +kernel
theorem d35_78 : decode method_3_code 78 = .ok (.iload_n 2, 1) := by decide +kernel
theorem d35_79 : decode method_3_code 79 = .ok (.iconst 2, 1) := by decide +kernel
theorem d35_80 : decode method_3_code 80 = .ok (.if_icmp .le 28, 3) := by decide +kernel
theorem d35_108 : decode method_3_code 108 = .ok (.iconst 1, 1) := by decide +kernel
theorem d35_109 : decode method_3_code 109 = .ok (.ireturn, 1) := by decide +kernel
theorem d35_23 : decode method_3_code 23 = .ok (.aload_n 1, 1) := by decide +kernel
theorem d35_24 : decode method_3_code 24 = .ok (.iconst 0, 1) := by decide +kernel
theorem d35_25 : decode method_3_code 25 = .ok (.invokeinterface 18 2, 5) := by decide +kernel
theorem d35_30 : decode method_3_code 30 = .ok (.checkcast 7, 3) := by decide +kernel
theorem d35_33 : decode method_3_code 33 = .ok (.aload_n 0, 1) := by decide +kernel
theorem d35_34 : decode method_3_code 34 = .ok (.iconst 0, 1) := by decide +kernel
theorem d35_35 : decode method_3_code 35 = .ok (.invokeinterface 18 2, 5) := by decide +kernel
theorem d35_40 : decode method_3_code 40 = .ok (.invokevirtual 22, 3) := by decide +kernel
theorem d35_43 : decode method_3_code 43 = .ok (.ifCond .ne 5, 3) := by decide +kernel
theorem d35_53 : decode method_3_code 53 = .ok (.aload_n 1, 1) := by decide +kernel
theorem d35_54 : decode method_3_code 54 = .ok (.iconst 1, 1) := by decide +kernel
theorem d35_55 : decode method_3_code 55 = .ok (.invokeinterface 18 2, 5) := by decide +kernel
theorem d35_60 : decode method_3_code 60 = .ok (.checkcast 7, 3) := by decide +kernel
theorem d35_63 : decode method_3_code 63 = .ok (.aload_n 0, 1) := by decide +kernel
theorem d35_64 : decode method_3_code 64 = .ok (.iconst 1, 1) := by decide +kernel
theorem d35_65 : decode method_3_code 65 = .ok (.invokeinterface 18 2, 5) := by decide +kernel
theorem d35_70 : decode method_3_code 70 = .ok (.invokevirtual 22, 3) := by decide +kernel
theorem d35_73 : decode method_3_code 73 = .ok (.ifCond .ne 5, 3) := by decide +kernel
theorem d35_83 : decode method_3_code 83 = .ok (.aload_n 1, 1) := by decide +kernel
theorem d35_84 : decode method_3_code 84 = .ok (.iconst 2, 1) := by decide +kernel
theorem d35_85 : decode method_3_code 85 = .ok (.invokeinterface 18 2, 5) := by decide +kernel
theorem d35_90 : decode method_3_code 90 = .ok (.checkcast 7, 3) := by decide +kernel
theorem d35_93 : decode method_3_code 93 = .ok (.aload_n 0, 1) := by decide +kernel
theorem d35_94 : decode method_3_code 94 = .ok (.iconst 2, 1) := by decide +kernel
theorem d35_95 : decode method_3_code 95 = .ok (.invokeinterface 18 2, 5) := by decide +kernel
theorem d35_100 : decode method_3_code 100 = .ok (.invokevirtual 22, 3) := by decide +kernel
theorem d35_103 : decode method_3_code 103 = .ok (.ifCond .ne 5, 3) := by decide +kernel
theorem pd0 : parseMethodDescriptor "()V" = some ⟨[], none⟩ := by decide +kernel
theorem pd1 : parseMethodDescriptor "(II)I" = some ⟨[.int, .int], some .int⟩ := by decide +kernel
theorem pd2 : parseMethodDescriptor "(I)[Ljava/lang/Object;" = some ⟨[.int], some (.array (.object "java/lang/Object"))⟩ := by decide +kernel
theorem pd3 : parseMethodDescriptor "()[Ljava/lang/Object;" = some ⟨[], some (.array (.object "java/lang/Object"))⟩ := by decide +kernel
theorem pd4 : parseMethodDescriptor "(Ljava/lang/Object;[Ljava/lang/Object;I)V" = some ⟨[(.object "java/lang/Object"), (.array (.object "java/lang/Object")), .int], none⟩ := by decide +kernel
theorem pd5 : parseMethodDescriptor "([Ljava/lang/Object;ILjava/lang/Class;)[Ljava/lang/Object;" = some ⟨[(.array (.object "java/lang/Object")), .int, (.object "java/lang/Class")], some (.array (.object "java/lang/Object"))⟩ := by decide +kernel
theorem pd6 : parseMethodDescriptor "([Ljava/lang/Object;I)[Ljava/lang/Object;" = some ⟨[(.array (.object "java/lang/Object")), .int], some (.array (.object "java/lang/Object"))⟩ := by decide +kernel
theorem pd7 : parseMethodDescriptor "([C)V" = some ⟨[(.array .char)], none⟩ := by decide +kernel
theorem pd8 : parseMethodDescriptor "(IILjava/util/function/BiFunction;)I" = some ⟨[.int, .int, (.object "java/util/function/BiFunction")], some .int⟩ := by decide +kernel
theorem pd9 : parseMethodDescriptor "(I)Ljava/lang/Object;" = some ⟨[.int], some (.object "java/lang/Object")⟩ := by decide +kernel
theorem pd10 : parseMethodDescriptor "(Ljava/lang/Object;)Ljava/lang/Object;" = some ⟨[(.object "java/lang/Object")], some (.object "java/lang/Object")⟩ := by decide +kernel
theorem pd11 : parseMethodDescriptor "([Ljava/lang/Object;Z)V" = some ⟨[(.array (.object "java/lang/Object")), .boolean], none⟩ := by decide +kernel
theorem pd12 : parseMethodDescriptor "(Ljava/lang/Object;)V" = some ⟨[(.object "java/lang/Object")], none⟩ := by decide +kernel
theorem pd13 : parseMethodDescriptor "()Z" = some ⟨[], some .boolean⟩ := by decide +kernel
theorem pd14 : parseMethodDescriptor "([Ljava/lang/Object;)Ljava/util/List;" = some ⟨[(.array (.object "java/lang/Object"))], some (.object "java/util/List")⟩ := by decide +kernel
theorem pd15 : parseMethodDescriptor "(Ljava/util/Collection;)Ljava/util/List;" = some ⟨[(.object "java/util/Collection")], some (.object "java/util/List")⟩ := by decide +kernel
theorem pd16 : parseMethodDescriptor "(Ljava/lang/Object;Ljava/lang/Object;)V" = some ⟨[(.object "java/lang/Object"), (.object "java/lang/Object")], none⟩ := by decide +kernel
theorem pd17 : parseMethodDescriptor "()I" = some ⟨[], some .int⟩ := by decide +kernel
theorem pd18 : parseMethodDescriptor "(Ljava/lang/Object;)Z" = some ⟨[(.object "java/lang/Object")], some .boolean⟩ := by decide +kernel
theorem pd19 : parseMethodDescriptor "(I)Ljava/lang/String;" = some ⟨[.int], some (.object "java/lang/String")⟩ := by decide +kernel
theorem pd20 : parseMethodDescriptor "(Ljava/util/List;ZLjava/util/Optional;)V" = some ⟨[(.object "java/util/List"), .boolean, (.object "java/util/Optional")], none⟩ := by decide +kernel
theorem pd21 : parseMethodDescriptor "(ILjava/lang/Object;)Ljava/lang/Object;" = some ⟨[.int, (.object "java/lang/Object")], some (.object "java/lang/Object")⟩ := by decide +kernel
theorem pd22 : parseMethodDescriptor "(I)Ljava/util/List;" = some ⟨[.int], some (.object "java/util/List")⟩ := by decide +kernel
theorem pd23 : parseMethodDescriptor "(Ljava/util/List;Ljava/util/List;)Z" = some ⟨[(.object "java/util/List"), (.object "java/util/List")], some .boolean⟩ := by decide +kernel
theorem pn0 : plainName "java/util/AbstractCollection" = true := by first | (simp [plainName, overriddenIn]; done) | decide +kernel
theorem pn1 : plainName "java/util/AbstractList" = true := by first | (simp [plainName, overriddenIn]; done) | decide +kernel
theorem pn2 : plainName "java/util/ArrayList" = true := by first | (simp [plainName, overriddenIn]; done) | decide +kernel
theorem pf15 : plainFor (⟨"java/lang/Math", "max", "(II)I"⟩ : MethodName) = true := by first | decide +kernel | rfl
theorem pf23 : plainFor (⟨"java/lang/Math", "min", "(II)I"⟩ : MethodName) = true := by first | decide +kernel | rfl
theorem pn5 : plainName "java/util/Arrays" = true := by first | (simp [plainName, overriddenIn]; done) | decide +kernel
theorem pn6 : plainName "com/example/vertere/vertere/engine/AnswersGetPinLaw" = true := by first | (simp [plainName, overriddenIn]; done) | decide +kernel
theorem pn7 : plainName "java/util/Objects" = true := by first | (simp [plainName, overriddenIn]; done) | decide +kernel
theorem pn8 : plainName "jdk/internal/util/Preconditions" = true := by first | (simp [plainName, overriddenIn]; done) | decide +kernel
theorem pn9 : plainName "java/util/ImmutableCollections$AbstractImmutableCollection" = true := by first | (simp [plainName, overriddenIn]; done) | decide +kernel
theorem pn10 : plainName "java/util/ImmutableCollections$AbstractImmutableList" = true := by first | (simp [plainName, overriddenIn]; done) | decide +kernel
theorem pn11 : plainName "java/util/ImmutableCollections$List12" = true := by first | (simp [plainName, overriddenIn]; done) | decide +kernel
theorem pn12 : plainName "java/util/ImmutableCollections$ListN" = true := by first | (simp [plainName, overriddenIn]; done) | decide +kernel
theorem pn13 : plainName "java/util/ImmutableCollections" = true := by first | (simp [plainName, overriddenIn]; done) | decide +kernel
theorem pn14 : plainName "java/util/List" = true := by first | (simp [plainName, overriddenIn]; done) | decide +kernel
theorem pn15 : plainName "com/example/vertere/vertere/engine/Answers" = true := by first | (simp [plainName, overriddenIn]; done) | decide +kernel
theorem pn16 : plainName "java/lang/String" = true := by first | (simp [plainName, overriddenIn]; done) | decide +kernel
theorem wd0 {Z : State} {a0 : Array Value} (hw : ∀ d ∈ tables_1, d.before a0 Z = true) : (Jvm.Cond.classLink "com/example/vertere/vertere/engine/AnswersGetPinLaw" (26 : Nat) "java/util/ArrayList").before a0 Z = true := hw _ (List.mem_of_getElem? (i := 0) rfl)
theorem wd1 {Z : State} {a0 : Array Value} (hw : ∀ d ∈ tables_1, d.before a0 Z = true) : (Jvm.Cond.instantiable "java/util/ArrayList" (3 : Nat)).before a0 Z = true := hw _ (List.mem_of_getElem? (i := 1) rfl)
theorem wd2 {Z : State} {a0 : Array Value} (hw : ∀ d ∈ tables_1, d.before a0 Z = true) : (Jvm.Cond.initialized "java/util/ArrayList").before a0 Z = true := hw _ (List.mem_of_getElem? (i := 2) rfl)
theorem wd3 {Z : State} {a0 : Array Value} (hw : ∀ d ∈ tables_1, d.before a0 Z = true) : (Jvm.Cond.methodLink "com/example/vertere/vertere/engine/AnswersGetPinLaw" (28 : Nat) ({ cls := "java/util/ArrayList", name := "<init>", desc := "()V" } : Jvm.MethodName)).before a0 Z = true := hw _ (List.mem_of_getElem? (i := 3) rfl)
theorem wd4 {Z : State} {a0 : Array Value} (hw : ∀ d ∈ tables_1, d.before a0 Z = true) : (Jvm.Cond.instanceMethod ({ cls := "java/util/ArrayList", name := "<init>", desc := "()V" } : Jvm.MethodName)).before a0 Z = true := hw _ (List.mem_of_getElem? (i := 4) rfl)
theorem wd5 {Z : State} {a0 : Array Value} (hw : ∀ d ∈ tables_1, d.before a0 Z = true) : (Jvm.Cond.code ({ cls := "java/util/ArrayList", name := "<init>", desc := "()V" } : Jvm.MethodName) jdk_38_method_2_code (1 : Nat) (Option.none : Option Jvm.ClassFile.FieldType)).before a0 Z = true := hw _ (List.mem_of_getElem? (i := 5) rfl)
theorem wd6 {Z : State} {a0 : Array Value} (hw : ∀ d ∈ tables_1, d.before a0 Z = true) : (Jvm.Cond.methodLink "java/util/ArrayList" (1 : Nat) ({ cls := "java/util/AbstractList", name := "<init>", desc := "()V" } : Jvm.MethodName)).before a0 Z = true := hw _ (List.mem_of_getElem? (i := 6) rfl)
theorem wd7 {Z : State} {a0 : Array Value} (hw : ∀ d ∈ tables_1, d.before a0 Z = true) : (Jvm.Cond.instanceMethod ({ cls := "java/util/AbstractList", name := "<init>", desc := "()V" } : Jvm.MethodName)).before a0 Z = true := hw _ (List.mem_of_getElem? (i := 7) rfl)
theorem wd10 {Z : State} {a0 : Array Value} (hw : ∀ d ∈ tables_1, d.before a0 Z = true) : (Jvm.Cond.initialized "java/util/AbstractList").before a0 Z = true := hw _ (List.mem_of_getElem? (i := 10) rfl)
theorem wd11 {Z : State} {a0 : Array Value} (hw : ∀ d ∈ tables_1, d.before a0 Z = true) : (Jvm.Cond.code ({ cls := "java/util/AbstractList", name := "<init>", desc := "()V" } : Jvm.MethodName) jdk_39_method_1_code (1 : Nat) (Option.none : Option Jvm.ClassFile.FieldType)).before a0 Z = true := hw _ (List.mem_of_getElem? (i := 11) rfl)
theorem wd12 {Z : State} {a0 : Array Value} (hw : ∀ d ∈ tables_1, d.before a0 Z = true) : (Jvm.Cond.methodLink "java/util/AbstractList" (1 : Nat) ({ cls := "java/util/AbstractCollection", name := "<init>", desc := "()V" } : Jvm.MethodName)).before a0 Z = true := hw _ (List.mem_of_getElem? (i := 12) rfl)
theorem wd13 {Z : State} {a0 : Array Value} (hw : ∀ d ∈ tables_1, d.before a0 Z = true) : (Jvm.Cond.instanceMethod ({ cls := "java/util/AbstractCollection", name := "<init>", desc := "()V" } : Jvm.MethodName)).before a0 Z = true := hw _ (List.mem_of_getElem? (i := 13) rfl)
theorem wd16 {Z : State} {a0 : Array Value} (hw : ∀ d ∈ tables_1, d.before a0 Z = true) : (Jvm.Cond.initialized "java/util/AbstractCollection").before a0 Z = true := hw _ (List.mem_of_getElem? (i := 16) rfl)
theorem wd17 {Z : State} {a0 : Array Value} (hw : ∀ d ∈ tables_1, d.before a0 Z = true) : (Jvm.Cond.code ({ cls := "java/util/AbstractCollection", name := "<init>", desc := "()V" } : Jvm.MethodName) jdk_22_method_1_code (1 : Nat) (Option.none : Option Jvm.ClassFile.FieldType)).before a0 Z = true := hw _ (List.mem_of_getElem? (i := 17) rfl)
theorem wd18 {Z : State} {a0 : Array Value} (hw : ∀ d ∈ tables_1, d.before a0 Z = true) : (Jvm.Cond.methodLink "java/util/AbstractCollection" (1 : Nat) ({ cls := "java/lang/Object", name := "<init>", desc := "()V" } : Jvm.MethodName)).before a0 Z = true := hw _ (List.mem_of_getElem? (i := 18) rfl)
theorem wd19 {Z : State} {a0 : Array Value} (hw : ∀ d ∈ tables_1, d.before a0 Z = true) : (Jvm.Cond.instanceMethod ({ cls := "java/lang/Object", name := "<init>", desc := "()V" } : Jvm.MethodName)).before a0 Z = true := hw _ (List.mem_of_getElem? (i := 19) rfl)
theorem wd20 {Z : State} {a0 : Array Value} (hw : ∀ d ∈ tables_1, d.before a0 Z = true) : (Jvm.Cond.code ({ cls := "java/lang/Object", name := "<init>", desc := "()V" } : Jvm.MethodName) object_method_1_code (1 : Nat) (Option.none : Option Jvm.ClassFile.FieldType)).before a0 Z = true := hw _ (List.mem_of_getElem? (i := 20) rfl)
theorem wd21 {Z : State} {a0 : Array Value} (hw : ∀ d ∈ tables_1, d.before a0 Z = true) : (Jvm.Cond.fieldLink "java/util/AbstractList" (7 : Nat) "java/util/AbstractList" "modCount" "I").before a0 Z = true := hw _ (List.mem_of_getElem? (i := 21) rfl)
theorem wd22 {Z : State} {a0 : Array Value} (hw : ∀ d ∈ tables_1, d.before a0 Z = true) : (Jvm.Cond.lays "java/util/ArrayList" "java/util/AbstractList" "modCount" "I").before a0 Z = true := hw _ (List.mem_of_getElem? (i := 22) rfl)
theorem wd23 {Z : State} {a0 : Array Value} (hw : ∀ d ∈ tables_1, d.before a0 Z = true) : (Jvm.Cond.fieldLink "java/util/ArrayList" (39 : Nat) "java/util/ArrayList" "DEFAULTCAPACITY_EMPTY_ELEMENTDATA" "[Ljava/lang/Object;").before a0 Z = true := hw _ (List.mem_of_getElem? (i := 23) rfl)
theorem wd24 {Z : State} {a0 : Array Value} (hw : ∀ d ∈ tables_1, d.before a0 Z = true) : (Jvm.Cond.fieldLink "java/util/ArrayList" (9 : Nat) "java/util/ArrayList" "elementData" "[Ljava/lang/Object;").before a0 Z = true := hw _ (List.mem_of_getElem? (i := 24) rfl)
theorem wd25 {Z : State} {a0 : Array Value} (hw : ∀ d ∈ tables_1, d.before a0 Z = true) : (Jvm.Cond.lays "java/util/ArrayList" "java/util/ArrayList" "elementData" "[Ljava/lang/Object;").before a0 Z = true := hw _ (List.mem_of_getElem? (i := 25) rfl)
theorem wd26 {Z : State} {a0 : Array Value} (hw : ∀ d ∈ tables_1, d.before a0 Z = true) : (Jvm.Cond.methodLink "com/example/vertere/vertere/engine/AnswersGetPinLaw" (29 : Nat) ({ cls := "com/example/vertere/vertere/engine/AnswersGetPinLaw", name := "s", desc := "(I)Ljava/lang/String;" } : Jvm.MethodName)).before a0 Z = true := hw _ (List.mem_of_getElem? (i := 26) rfl)
theorem wd27 {Z : State} {a0 : Array Value} (hw : ∀ d ∈ tables_1, d.before a0 Z = true) : (Jvm.Cond.static ({ cls := "com/example/vertere/vertere/engine/AnswersGetPinLaw", name := "s", desc := "(I)Ljava/lang/String;" } : Jvm.MethodName)).before a0 Z = true := hw _ (List.mem_of_getElem? (i := 27) rfl)
theorem wd28 {Z : State} {a0 : Array Value} (hw : ∀ d ∈ tables_1, d.before a0 Z = true) : (Jvm.Cond.initialized "com/example/vertere/vertere/engine/AnswersGetPinLaw").before a0 Z = true := hw _ (List.mem_of_getElem? (i := 28) rfl)
theorem wd29 {Z : State} {a0 : Array Value} (hw : ∀ d ∈ tables_1, d.before a0 Z = true) : (Jvm.Cond.code ({ cls := "com/example/vertere/vertere/engine/AnswersGetPinLaw", name := "s", desc := "(I)Ljava/lang/String;" } : Jvm.MethodName) method_2_code (2 : Nat) (Option.some (Jvm.ClassFile.FieldType.object "java/lang/String"))).before a0 Z = true := hw _ (List.mem_of_getElem? (i := 29) rfl)
theorem wd30 {Z : State} {a0 : Array Value} (hw : ∀ d ∈ tables_1, d.before a0 Z = true) : (Jvm.Cond.arrayClass Jvm.ClassFile.FieldType.char).before a0 Z = true := hw _ (List.mem_of_getElem? (i := 30) rfl)
theorem wd31 {Z : State} {a0 : Array Value} (hw : ∀ d ∈ tables_1, d.before a0 Z = true) : (Jvm.Cond.classLink "com/example/vertere/vertere/engine/AnswersGetPinLaw" (7 : Nat) "java/lang/String").before a0 Z = true := hw _ (List.mem_of_getElem? (i := 31) rfl)
theorem wd32 {Z : State} {a0 : Array Value} (hw : ∀ d ∈ tables_1, d.before a0 Z = true) : (Jvm.Cond.instantiable "java/lang/String" (4 : Nat)).before a0 Z = true := hw _ (List.mem_of_getElem? (i := 32) rfl)
theorem wd33 {Z : State} {a0 : Array Value} (hw : ∀ d ∈ tables_1, d.before a0 Z = true) : (Jvm.Cond.initialized "java/lang/String").before a0 Z = true := hw _ (List.mem_of_getElem? (i := 33) rfl)
theorem wd34 {Z : State} {a0 : Array Value} (hw : ∀ d ∈ tables_1, d.before a0 Z = true) : (Jvm.Cond.methodLink "com/example/vertere/vertere/engine/AnswersGetPinLaw" (9 : Nat) ({ cls := "java/lang/String", name := "<init>", desc := "([C)V" } : Jvm.MethodName)).before a0 Z = true := hw _ (List.mem_of_getElem? (i := 34) rfl)
theorem wd35 {Z : State} {a0 : Array Value} (hw : ∀ d ∈ tables_1, d.before a0 Z = true) : (Jvm.Cond.instanceMethod ({ cls := "java/lang/String", name := "<init>", desc := "([C)V" } : Jvm.MethodName)).before a0 Z = true := hw _ (List.mem_of_getElem? (i := 35) rfl)
theorem wd36 {Z : State} {a0 : Array Value} (hw : ∀ d ∈ tables_1, d.before a0 Z = true) : (Jvm.Cond.code ({ cls := "java/lang/String", name := "<init>", desc := "([C)V" } : Jvm.MethodName) jdk_42_method_3_code (2 : Nat) (Option.none : Option Jvm.ClassFile.FieldType)).before a0 Z = true := hw _ (List.mem_of_getElem? (i := 36) rfl)
theorem wd55 {Z : State} {a0 : Array Value} (hw : ∀ d ∈ tables_1, d.before a0 Z = true) : (Jvm.Cond.laysFinal "java/lang/String" "java/lang/String" "coder" "B").before a0 Z = true := hw _ (List.mem_of_getElem? (i := 55) rfl)
theorem wd57 {Z : State} {a0 : Array Value} (hw : ∀ d ∈ tables_1, d.before a0 Z = true) : (Jvm.Cond.laysFinal "java/lang/String" "java/lang/String" "value" "[B").before a0 Z = true := hw _ (List.mem_of_getElem? (i := 57) rfl)
theorem wd58 {Z : State} {a0 : Array Value} (hw : ∀ d ∈ tables_1, d.before a0 Z = true) : (Jvm.Cond.methodLink "com/example/vertere/vertere/engine/AnswersGetPinLaw" (35 : Nat) ({ cls := "java/util/ArrayList", name := "add", desc := "(Ljava/lang/Object;)Z" } : Jvm.MethodName)).before a0 Z = true := hw _ (List.mem_of_getElem? (i := 58) rfl)
theorem wd59 {Z : State} {a0 : Array Value} (hw : ∀ d ∈ tables_1, d.before a0 Z = true) : (Jvm.Cond.declares ({ cls := "java/util/ArrayList", name := "add", desc := "(Ljava/lang/Object;)Z" } : Jvm.MethodName)).before a0 Z = true := hw _ (List.mem_of_getElem? (i := 59) rfl)
theorem wd60 {Z : State} {a0 : Array Value} (hw : ∀ d ∈ tables_1, d.before a0 Z = true) : (Jvm.Cond.instanceMethod ({ cls := "java/util/ArrayList", name := "add", desc := "(Ljava/lang/Object;)Z" } : Jvm.MethodName)).before a0 Z = true := hw _ (List.mem_of_getElem? (i := 60) rfl)
theorem wd61 {Z : State} {a0 : Array Value} (hw : ∀ d ∈ tables_1, d.before a0 Z = true) : (Jvm.Cond.selects "java/util/ArrayList" ({ cls := "java/util/ArrayList", name := "add", desc := "(Ljava/lang/Object;)Z" } : Jvm.MethodName) ({ cls := "java/util/ArrayList", name := "add", desc := "(Ljava/lang/Object;)Z" } : Jvm.MethodName)).before a0 Z = true := hw _ (List.mem_of_getElem? (i := 61) rfl)
theorem wd62 {Z : State} {a0 : Array Value} (hw : ∀ d ∈ tables_1, d.before a0 Z = true) : (Jvm.Cond.code ({ cls := "java/util/ArrayList", name := "add", desc := "(Ljava/lang/Object;)Z" } : Jvm.MethodName) jdk_38_method_25_code (2 : Nat) (Option.some Jvm.ClassFile.FieldType.boolean)).before a0 Z = true := hw _ (List.mem_of_getElem? (i := 62) rfl)
theorem wd63 {Z : State} {a0 : Array Value} (hw : ∀ d ∈ tables_1, d.before a0 Z = true) : (Jvm.Cond.fieldLink "java/util/ArrayList" (63 : Nat) "java/util/ArrayList" "modCount" "I").before a0 Z = true := hw _ (List.mem_of_getElem? (i := 63) rfl)
theorem wd64 {Z : State} {a0 : Array Value} (hw : ∀ d ∈ tables_1, d.before a0 Z = true) : (Jvm.Cond.sameField "java/util/ArrayList" "java/util/AbstractList" "modCount" "I").before a0 Z = true := hw _ (List.mem_of_getElem? (i := 64) rfl)
theorem wd65 {Z : State} {a0 : Array Value} (hw : ∀ d ∈ tables_1, d.before a0 Z = true) : (Jvm.Cond.fieldLink "java/util/ArrayList" (48 : Nat) "java/util/ArrayList" "size" "I").before a0 Z = true := hw _ (List.mem_of_getElem? (i := 65) rfl)
theorem wd66 {Z : State} {a0 : Array Value} (hw : ∀ d ∈ tables_1, d.before a0 Z = true) : (Jvm.Cond.lays "java/util/ArrayList" "java/util/ArrayList" "size" "I").before a0 Z = true := hw _ (List.mem_of_getElem? (i := 66) rfl)
theorem wd67 {Z : State} {a0 : Array Value} (hw : ∀ d ∈ tables_1, d.before a0 Z = true) : (Jvm.Cond.methodLink "java/util/ArrayList" (131 : Nat) ({ cls := "java/util/ArrayList", name := "add", desc := "(Ljava/lang/Object;[Ljava/lang/Object;I)V" } : Jvm.MethodName)).before a0 Z = true := hw _ (List.mem_of_getElem? (i := 67) rfl)
theorem wd68 {Z : State} {a0 : Array Value} (hw : ∀ d ∈ tables_1, d.before a0 Z = true) : (Jvm.Cond.instanceMethod ({ cls := "java/util/ArrayList", name := "add", desc := "(Ljava/lang/Object;[Ljava/lang/Object;I)V" } : Jvm.MethodName)).before a0 Z = true := hw _ (List.mem_of_getElem? (i := 68) rfl)
theorem wd69 {Z : State} {a0 : Array Value} (hw : ∀ d ∈ tables_1, d.before a0 Z = true) : (Jvm.Cond.privateMethod ({ cls := "java/util/ArrayList", name := "add", desc := "(Ljava/lang/Object;[Ljava/lang/Object;I)V" } : Jvm.MethodName)).before a0 Z = true := hw _ (List.mem_of_getElem? (i := 69) rfl)
theorem wd70 {Z : State} {a0 : Array Value} (hw : ∀ d ∈ tables_1, d.before a0 Z = true) : (Jvm.Cond.selects "java/util/ArrayList" ({ cls := "java/util/ArrayList", name := "add", desc := "(Ljava/lang/Object;[Ljava/lang/Object;I)V" } : Jvm.MethodName) ({ cls := "java/util/ArrayList", name := "add", desc := "(Ljava/lang/Object;[Ljava/lang/Object;I)V" } : Jvm.MethodName)).before a0 Z = true := hw _ (List.mem_of_getElem? (i := 70) rfl)
theorem wd71 {Z : State} {a0 : Array Value} (hw : ∀ d ∈ tables_1, d.before a0 Z = true) : (Jvm.Cond.code ({ cls := "java/util/ArrayList", name := "add", desc := "(Ljava/lang/Object;[Ljava/lang/Object;I)V" } : Jvm.MethodName) jdk_38_method_24_code (4 : Nat) (Option.none : Option Jvm.ClassFile.FieldType)).before a0 Z = true := hw _ (List.mem_of_getElem? (i := 71) rfl)
theorem wd72 {Z : State} {a0 : Array Value} (hw : ∀ d ∈ tables_1, d.before a0 Z = true) : (Jvm.Cond.methodLink "java/util/ArrayList" (129 : Nat) ({ cls := "java/util/ArrayList", name := "grow", desc := "()[Ljava/lang/Object;" } : Jvm.MethodName)).before a0 Z = true := hw _ (List.mem_of_getElem? (i := 72) rfl)
theorem wd73 {Z : State} {a0 : Array Value} (hw : ∀ d ∈ tables_1, d.before a0 Z = true) : (Jvm.Cond.instanceMethod ({ cls := "java/util/ArrayList", name := "grow", desc := "()[Ljava/lang/Object;" } : Jvm.MethodName)).before a0 Z = true := hw _ (List.mem_of_getElem? (i := 73) rfl)
theorem wd74 {Z : State} {a0 : Array Value} (hw : ∀ d ∈ tables_1, d.before a0 Z = true) : (Jvm.Cond.privateMethod ({ cls := "java/util/ArrayList", name := "grow", desc := "()[Ljava/lang/Object;" } : Jvm.MethodName)).before a0 Z = true := hw _ (List.mem_of_getElem? (i := 74) rfl)
theorem wd75 {Z : State} {a0 : Array Value} (hw : ∀ d ∈ tables_1, d.before a0 Z = true) : (Jvm.Cond.selects "java/util/ArrayList" ({ cls := "java/util/ArrayList", name := "grow", desc := "()[Ljava/lang/Object;" } : Jvm.MethodName) ({ cls := "java/util/ArrayList", name := "grow", desc := "()[Ljava/lang/Object;" } : Jvm.MethodName)).before a0 Z = true := hw _ (List.mem_of_getElem? (i := 75) rfl)
theorem wd76 {Z : State} {a0 : Array Value} (hw : ∀ d ∈ tables_1, d.before a0 Z = true) : (Jvm.Cond.code ({ cls := "java/util/ArrayList", name := "grow", desc := "()[Ljava/lang/Object;" } : Jvm.MethodName) jdk_38_method_7_code (1 : Nat) (Option.some (Jvm.ClassFile.FieldType.array (Jvm.ClassFile.FieldType.object "java/lang/Object")))).before a0 Z = true := hw _ (List.mem_of_getElem? (i := 76) rfl)
theorem wd77 {Z : State} {a0 : Array Value} (hw : ∀ d ∈ tables_1, d.before a0 Z = true) : (Jvm.Cond.methodLink "java/util/ArrayList" (69 : Nat) ({ cls := "java/util/ArrayList", name := "grow", desc := "(I)[Ljava/lang/Object;" } : Jvm.MethodName)).before a0 Z = true := hw _ (List.mem_of_getElem? (i := 77) rfl)
theorem wd78 {Z : State} {a0 : Array Value} (hw : ∀ d ∈ tables_1, d.before a0 Z = true) : (Jvm.Cond.instanceMethod ({ cls := "java/util/ArrayList", name := "grow", desc := "(I)[Ljava/lang/Object;" } : Jvm.MethodName)).before a0 Z = true := hw _ (List.mem_of_getElem? (i := 78) rfl)
theorem wd79 {Z : State} {a0 : Array Value} (hw : ∀ d ∈ tables_1, d.before a0 Z = true) : (Jvm.Cond.privateMethod ({ cls := "java/util/ArrayList", name := "grow", desc := "(I)[Ljava/lang/Object;" } : Jvm.MethodName)).before a0 Z = true := hw _ (List.mem_of_getElem? (i := 79) rfl)
theorem wd80 {Z : State} {a0 : Array Value} (hw : ∀ d ∈ tables_1, d.before a0 Z = true) : (Jvm.Cond.selects "java/util/ArrayList" ({ cls := "java/util/ArrayList", name := "grow", desc := "(I)[Ljava/lang/Object;" } : Jvm.MethodName) ({ cls := "java/util/ArrayList", name := "grow", desc := "(I)[Ljava/lang/Object;" } : Jvm.MethodName)).before a0 Z = true := hw _ (List.mem_of_getElem? (i := 80) rfl)
theorem wd81 {Z : State} {a0 : Array Value} (hw : ∀ d ∈ tables_1, d.before a0 Z = true) : (Jvm.Cond.code ({ cls := "java/util/ArrayList", name := "grow", desc := "(I)[Ljava/lang/Object;" } : Jvm.MethodName) jdk_38_method_6_code (4 : Nat) (Option.some (Jvm.ClassFile.FieldType.array (Jvm.ClassFile.FieldType.object "java/lang/Object")))).before a0 Z = true := hw _ (List.mem_of_getElem? (i := 81) rfl)
theorem wd82 {Z : State} {a0 : Array Value} (hw : ∀ d ∈ tables_1, d.before a0 Z = true) : (Jvm.Cond.methodLink "java/util/ArrayList" (79 : Nat) ({ cls := "java/lang/Math", name := "max", desc := "(II)I" } : Jvm.MethodName)).before a0 Z = true := hw _ (List.mem_of_getElem? (i := 82) rfl)
theorem wd83 {Z : State} {a0 : Array Value} (hw : ∀ d ∈ tables_1, d.before a0 Z = true) : (Jvm.Cond.static ({ cls := "java/lang/Math", name := "max", desc := "(II)I" } : Jvm.MethodName)).before a0 Z = true := hw _ (List.mem_of_getElem? (i := 83) rfl)
theorem wd84 {Z : State} {a0 : Array Value} (hw : ∀ d ∈ tables_1, d.before a0 Z = true) : (Jvm.Cond.initialized "java/lang/Math").before a0 Z = true := hw _ (List.mem_of_getElem? (i := 84) rfl)
theorem wd85 {Z : State} {a0 : Array Value} (hw : ∀ d ∈ tables_1, d.before a0 Z = true) : (Jvm.Cond.code ({ cls := "java/lang/Math", name := "max", desc := "(II)I" } : Jvm.MethodName) jdk_29_method_65_code (2 : Nat) (Option.some Jvm.ClassFile.FieldType.int)).before a0 Z = true := hw _ (List.mem_of_getElem? (i := 85) rfl)
theorem wd86 {Z : State} {a0 : Array Value} (hw : ∀ d ∈ tables_1, d.before a0 Z = true) : (Jvm.Cond.classLink "java/util/ArrayList" (7 : Nat) "java/lang/Object").before a0 Z = true := hw _ (List.mem_of_getElem? (i := 86) rfl)
theorem wd87 {Z : State} {a0 : Array Value} (hw : ∀ d ∈ tables_1, d.before a0 Z = true) : (Jvm.Cond.arrayOver (Jvm.ClassFile.FieldType.object "java/lang/Object")).before a0 Z = true := hw _ (List.mem_of_getElem? (i := 87) rfl)
theorem wd88 {Z : State} {a0 : Array Value} (hw : ∀ d ∈ tables_1, d.before a0 Z = true) : (Jvm.Cond.castable "java/lang/String" "java/lang/Object").before a0 Z = true := hw _ (List.mem_of_getElem? (i := 88) rfl)
theorem wd89 {Z : State} {a0 : Array Value} (hw : ∀ d ∈ tables_1, d.before a0 Z = true) : (Jvm.Cond.castable "java/util/ArrayList" "java/lang/Object").before a0 Z = true := hw _ (List.mem_of_getElem? (i := 89) rfl)
theorem wd90 {Z : State} {a0 : Array Value} (hw : ∀ d ∈ tables_1, d.before a0 Z = true) : (Jvm.Cond.classLink "com/example/vertere/vertere/engine/AnswersGetPinLaw" (38 : Nat) "com/example/vertere/vertere/engine/Answers").before a0 Z = true := hw _ (List.mem_of_getElem? (i := 90) rfl)
theorem wd91 {Z : State} {a0 : Array Value} (hw : ∀ d ∈ tables_1, d.before a0 Z = true) : (Jvm.Cond.instantiable "com/example/vertere/vertere/engine/Answers" (4 : Nat)).before a0 Z = true := hw _ (List.mem_of_getElem? (i := 91) rfl)
theorem wd92 {Z : State} {a0 : Array Value} (hw : ∀ d ∈ tables_1, d.before a0 Z = true) : (Jvm.Cond.initialized "com/example/vertere/vertere/engine/Answers").before a0 Z = true := hw _ (List.mem_of_getElem? (i := 92) rfl)
theorem wd93 {Z : State} {a0 : Array Value} (hw : ∀ d ∈ tables_1, d.before a0 Z = true) : (Jvm.Cond.methodLink "com/example/vertere/vertere/engine/AnswersGetPinLaw" (40 : Nat) ({ cls := "com/example/vertere/vertere/engine/Answers", name := "<init>", desc := "(Ljava/util/List;ZLjava/util/Optional;)V" } : Jvm.MethodName)).before a0 Z = true := hw _ (List.mem_of_getElem? (i := 93) rfl)
theorem wd94 {Z : State} {a0 : Array Value} (hw : ∀ d ∈ tables_1, d.before a0 Z = true) : (Jvm.Cond.instanceMethod ({ cls := "com/example/vertere/vertere/engine/Answers", name := "<init>", desc := "(Ljava/util/List;ZLjava/util/Optional;)V" } : Jvm.MethodName)).before a0 Z = true := hw _ (List.mem_of_getElem? (i := 94) rfl)
theorem wd95 {Z : State} {a0 : Array Value} (hw : ∀ d ∈ tables_1, d.before a0 Z = true) : (Jvm.Cond.code ({ cls := "com/example/vertere/vertere/engine/Answers", name := "<init>", desc := "(Ljava/util/List;ZLjava/util/Optional;)V" } : Jvm.MethodName) prog_6_method_1_code (4 : Nat) (Option.none : Option Jvm.ClassFile.FieldType)).before a0 Z = true := hw _ (List.mem_of_getElem? (i := 95) rfl)
theorem wd96 {Z : State} {a0 : Array Value} (hw : ∀ d ∈ tables_1, d.before a0 Z = true) : (Jvm.Cond.methodLink "com/example/vertere/vertere/engine/Answers" (1 : Nat) ({ cls := "java/util/AbstractList", name := "<init>", desc := "()V" } : Jvm.MethodName)).before a0 Z = true := hw _ (List.mem_of_getElem? (i := 96) rfl)
theorem wd98 {Z : State} {a0 : Array Value} (hw : ∀ d ∈ tables_1, d.before a0 Z = true) : (Jvm.Cond.lays "com/example/vertere/vertere/engine/Answers" "java/util/AbstractList" "modCount" "I").before a0 Z = true := hw _ (List.mem_of_getElem? (i := 98) rfl)
theorem wd99 {Z : State} {a0 : Array Value} (hw : ∀ d ∈ tables_1, d.before a0 Z = true) : (Jvm.Cond.methodLink "com/example/vertere/vertere/engine/Answers" (7 : Nat) ({ cls := "java/util/List", name := "copyOf", desc := "(Ljava/util/Collection;)Ljava/util/List;" } : Jvm.MethodName)).before a0 Z = true := hw _ (List.mem_of_getElem? (i := 99) rfl)
theorem wd100 {Z : State} {a0 : Array Value} (hw : ∀ d ∈ tables_1, d.before a0 Z = true) : (Jvm.Cond.static ({ cls := "java/util/List", name := "copyOf", desc := "(Ljava/util/Collection;)Ljava/util/List;" } : Jvm.MethodName)).before a0 Z = true := hw _ (List.mem_of_getElem? (i := 100) rfl)
theorem wd101 {Z : State} {a0 : Array Value} (hw : ∀ d ∈ tables_1, d.before a0 Z = true) : (Jvm.Cond.initialized "java/util/List").before a0 Z = true := hw _ (List.mem_of_getElem? (i := 101) rfl)
theorem wd102 {Z : State} {a0 : Array Value} (hw : ∀ d ∈ tables_1, d.before a0 Z = true) : (Jvm.Cond.code ({ cls := "java/util/List", name := "copyOf", desc := "(Ljava/util/Collection;)Ljava/util/List;" } : Jvm.MethodName) jdk_40_method_48_code (1 : Nat) (Option.some (Jvm.ClassFile.FieldType.object "java/util/List"))).before a0 Z = true := hw _ (List.mem_of_getElem? (i := 102) rfl)
theorem wd103 {Z : State} {a0 : Array Value} (hw : ∀ d ∈ tables_1, d.before a0 Z = true) : (Jvm.Cond.methodLink "java/util/List" (112 : Nat) ({ cls := "java/util/ImmutableCollections", name := "listCopy", desc := "(Ljava/util/Collection;)Ljava/util/List;" } : Jvm.MethodName)).before a0 Z = true := hw _ (List.mem_of_getElem? (i := 103) rfl)
theorem wd104 {Z : State} {a0 : Array Value} (hw : ∀ d ∈ tables_1, d.before a0 Z = true) : (Jvm.Cond.static ({ cls := "java/util/ImmutableCollections", name := "listCopy", desc := "(Ljava/util/Collection;)Ljava/util/List;" } : Jvm.MethodName)).before a0 Z = true := hw _ (List.mem_of_getElem? (i := 104) rfl)
theorem wd105 {Z : State} {a0 : Array Value} (hw : ∀ d ∈ tables_1, d.before a0 Z = true) : (Jvm.Cond.initialized "java/util/ImmutableCollections").before a0 Z = true := hw _ (List.mem_of_getElem? (i := 105) rfl)
theorem wd106 {Z : State} {a0 : Array Value} (hw : ∀ d ∈ tables_1, d.before a0 Z = true) : (Jvm.Cond.code ({ cls := "java/util/ImmutableCollections", name := "listCopy", desc := "(Ljava/util/Collection;)Ljava/util/List;" } : Jvm.MethodName) jdk_56_method_3_code (2 : Nat) (Option.some (Jvm.ClassFile.FieldType.object "java/util/List"))).before a0 Z = true := hw _ (List.mem_of_getElem? (i := 106) rfl)
theorem wd107 {Z : State} {a0 : Array Value} (hw : ∀ d ∈ tables_1, d.before a0 Z = true) : (Jvm.Cond.classLink "java/util/ImmutableCollections" (10 : Nat) "java/util/ImmutableCollections$List12").before a0 Z = true := hw _ (List.mem_of_getElem? (i := 107) rfl)
theorem wd108 {Z : State} {a0 : Array Value} (hw : ∀ d ∈ tables_1, d.before a0 Z = true) : (Jvm.Cond.superclass "java/util/ArrayList" "java/util/AbstractList").before a0 Z = true := hw _ (List.mem_of_getElem? (i := 108) rfl)
theorem wd109 {Z : State} {a0 : Array Value} (hw : ∀ d ∈ tables_1, d.before a0 Z = true) : (Jvm.Cond.superclass "java/util/AbstractList" "java/util/AbstractCollection").before a0 Z = true := hw _ (List.mem_of_getElem? (i := 109) rfl)
theorem wd110 {Z : State} {a0 : Array Value} (hw : ∀ d ∈ tables_1, d.before a0 Z = true) : (Jvm.Cond.superclass "java/util/AbstractCollection" "java/lang/Object").before a0 Z = true := hw _ (List.mem_of_getElem? (i := 110) rfl)
theorem wd111 {Z : State} {a0 : Array Value} (hw : ∀ d ∈ tables_1, d.before a0 Z = true) : (Jvm.Cond.noSuperclass "java/lang/Object").before a0 Z = true := hw _ (List.mem_of_getElem? (i := 111) rfl)
theorem wd112 {Z : State} {a0 : Array Value} (hw : ∀ d ∈ tables_1, d.before a0 Z = true) : (Jvm.Cond.classLink "java/util/ImmutableCollections" (12 : Nat) "java/util/ImmutableCollections$ListN").before a0 Z = true := hw _ (List.mem_of_getElem? (i := 112) rfl)
theorem wd113 {Z : State} {a0 : Array Value} (hw : ∀ d ∈ tables_1, d.before a0 Z = true) : (Jvm.Cond.methodLink "java/util/ImmutableCollections" (20 : Nat) ({ cls := "java/util/Collection", name := "isEmpty", desc := "()Z" } : Jvm.MethodName)).before a0 Z = true := hw _ (List.mem_of_getElem? (i := 113) rfl)
theorem wd114 {Z : State} {a0 : Array Value} (hw : ∀ d ∈ tables_1, d.before a0 Z = true) : (Jvm.Cond.declares ({ cls := "java/util/Collection", name := "isEmpty", desc := "()Z" } : Jvm.MethodName)).before a0 Z = true := hw _ (List.mem_of_getElem? (i := 114) rfl)
theorem wd115 {Z : State} {a0 : Array Value} (hw : ∀ d ∈ tables_1, d.before a0 Z = true) : (Jvm.Cond.interfaceMethod "java/util/Collection" "java/util/Collection" "isEmpty" "()Z").before a0 Z = true := hw _ (List.mem_of_getElem? (i := 115) rfl)
theorem wd116 {Z : State} {a0 : Array Value} (hw : ∀ d ∈ tables_1, d.before a0 Z = true) : (Jvm.Cond.selects "java/util/ArrayList" ({ cls := "java/util/Collection", name := "isEmpty", desc := "()Z" } : Jvm.MethodName) ({ cls := "java/util/ArrayList", name := "isEmpty", desc := "()Z" } : Jvm.MethodName)).before a0 Z = true := hw _ (List.mem_of_getElem? (i := 116) rfl)
theorem wd117 {Z : State} {a0 : Array Value} (hw : ∀ d ∈ tables_1, d.before a0 Z = true) : (Jvm.Cond.instanceMethod ({ cls := "java/util/ArrayList", name := "isEmpty", desc := "()Z" } : Jvm.MethodName)).before a0 Z = true := hw _ (List.mem_of_getElem? (i := 117) rfl)
theorem wd118 {Z : State} {a0 : Array Value} (hw : ∀ d ∈ tables_1, d.before a0 Z = true) : (Jvm.Cond.publicMethod ({ cls := "java/util/ArrayList", name := "isEmpty", desc := "()Z" } : Jvm.MethodName)).before a0 Z = true := hw _ (List.mem_of_getElem? (i := 118) rfl)
theorem wd119 {Z : State} {a0 : Array Value} (hw : ∀ d ∈ tables_1, d.before a0 Z = true) : (Jvm.Cond.unhidden "java/util/ArrayList" "isEmpty" "()Z").before a0 Z = true := hw _ (List.mem_of_getElem? (i := 119) rfl)
theorem wd120 {Z : State} {a0 : Array Value} (hw : ∀ d ∈ tables_1, d.before a0 Z = true) : (Jvm.Cond.castable "java/util/ArrayList" "java/util/Collection").before a0 Z = true := hw _ (List.mem_of_getElem? (i := 120) rfl)
theorem wd121 {Z : State} {a0 : Array Value} (hw : ∀ d ∈ tables_1, d.before a0 Z = true) : (Jvm.Cond.code ({ cls := "java/util/ArrayList", name := "isEmpty", desc := "()Z" } : Jvm.MethodName) jdk_38_method_9_code (1 : Nat) (Option.some Jvm.ClassFile.FieldType.boolean)).before a0 Z = true := hw _ (List.mem_of_getElem? (i := 121) rfl)
theorem wd122 {Z : State} {a0 : Array Value} (hw : ∀ d ∈ tables_1, d.before a0 Z = true) : (Jvm.Cond.methodLink "java/util/ImmutableCollections" (30 : Nat) ({ cls := "java/util/Collection", name := "toArray", desc := "()[Ljava/lang/Object;" } : Jvm.MethodName)).before a0 Z = true := hw _ (List.mem_of_getElem? (i := 122) rfl)
theorem wd123 {Z : State} {a0 : Array Value} (hw : ∀ d ∈ tables_1, d.before a0 Z = true) : (Jvm.Cond.declares ({ cls := "java/util/Collection", name := "toArray", desc := "()[Ljava/lang/Object;" } : Jvm.MethodName)).before a0 Z = true := hw _ (List.mem_of_getElem? (i := 123) rfl)
theorem wd124 {Z : State} {a0 : Array Value} (hw : ∀ d ∈ tables_1, d.before a0 Z = true) : (Jvm.Cond.interfaceMethod "java/util/Collection" "java/util/Collection" "toArray" "()[Ljava/lang/Object;").before a0 Z = true := hw _ (List.mem_of_getElem? (i := 124) rfl)
theorem wd125 {Z : State} {a0 : Array Value} (hw : ∀ d ∈ tables_1, d.before a0 Z = true) : (Jvm.Cond.selects "java/util/ArrayList" ({ cls := "java/util/Collection", name := "toArray", desc := "()[Ljava/lang/Object;" } : Jvm.MethodName) ({ cls := "java/util/ArrayList", name := "toArray", desc := "()[Ljava/lang/Object;" } : Jvm.MethodName)).before a0 Z = true := hw _ (List.mem_of_getElem? (i := 125) rfl)
theorem wd126 {Z : State} {a0 : Array Value} (hw : ∀ d ∈ tables_1, d.before a0 Z = true) : (Jvm.Cond.instanceMethod ({ cls := "java/util/ArrayList", name := "toArray", desc := "()[Ljava/lang/Object;" } : Jvm.MethodName)).before a0 Z = true := hw _ (List.mem_of_getElem? (i := 126) rfl)
theorem wd127 {Z : State} {a0 : Array Value} (hw : ∀ d ∈ tables_1, d.before a0 Z = true) : (Jvm.Cond.publicMethod ({ cls := "java/util/ArrayList", name := "toArray", desc := "()[Ljava/lang/Object;" } : Jvm.MethodName)).before a0 Z = true := hw _ (List.mem_of_getElem? (i := 127) rfl)
theorem wd128 {Z : State} {a0 : Array Value} (hw : ∀ d ∈ tables_1, d.before a0 Z = true) : (Jvm.Cond.unhidden "java/util/ArrayList" "toArray" "()[Ljava/lang/Object;").before a0 Z = true := hw _ (List.mem_of_getElem? (i := 128) rfl)
theorem wd129 {Z : State} {a0 : Array Value} (hw : ∀ d ∈ tables_1, d.before a0 Z = true) : (Jvm.Cond.code ({ cls := "java/util/ArrayList", name := "toArray", desc := "()[Ljava/lang/Object;" } : Jvm.MethodName) jdk_38_method_16_code (1 : Nat) (Option.some (Jvm.ClassFile.FieldType.array (Jvm.ClassFile.FieldType.object "java/lang/Object")))).before a0 Z = true := hw _ (List.mem_of_getElem? (i := 129) rfl)
theorem wd130 {Z : State} {a0 : Array Value} (hw : ∀ d ∈ tables_1, d.before a0 Z = true) : (Jvm.Cond.methodLink "java/util/ArrayList" (66 : Nat) ({ cls := "java/util/Arrays", name := "copyOf", desc := "([Ljava/lang/Object;I)[Ljava/lang/Object;" } : Jvm.MethodName)).before a0 Z = true := hw _ (List.mem_of_getElem? (i := 130) rfl)
theorem wd131 {Z : State} {a0 : Array Value} (hw : ∀ d ∈ tables_1, d.before a0 Z = true) : (Jvm.Cond.static ({ cls := "java/util/Arrays", name := "copyOf", desc := "([Ljava/lang/Object;I)[Ljava/lang/Object;" } : Jvm.MethodName)).before a0 Z = true := hw _ (List.mem_of_getElem? (i := 131) rfl)
theorem wd132 {Z : State} {a0 : Array Value} (hw : ∀ d ∈ tables_1, d.before a0 Z = true) : (Jvm.Cond.initialized "java/util/Arrays").before a0 Z = true := hw _ (List.mem_of_getElem? (i := 132) rfl)
theorem wd133 {Z : State} {a0 : Array Value} (hw : ∀ d ∈ tables_1, d.before a0 Z = true) : (Jvm.Cond.code ({ cls := "java/util/Arrays", name := "copyOf", desc := "([Ljava/lang/Object;I)[Ljava/lang/Object;" } : Jvm.MethodName) jdk_65_method_119_code (2 : Nat) (Option.some (Jvm.ClassFile.FieldType.array (Jvm.ClassFile.FieldType.object "java/lang/Object")))).before a0 Z = true := hw _ (List.mem_of_getElem? (i := 133) rfl)
theorem wd134 {Z : State} {a0 : Array Value} (hw : ∀ d ∈ tables_1, d.before a0 Z = true) : (Jvm.Cond.methodLink "java/util/Arrays" (86 : Nat) ({ cls := "java/lang/Object", name := "getClass", desc := "()Ljava/lang/Class;" } : Jvm.MethodName)).before a0 Z = true := hw _ (List.mem_of_getElem? (i := 134) rfl)
theorem wd135 {Z : State} {a0 : Array Value} (hw : ∀ d ∈ tables_1, d.before a0 Z = true) : (Jvm.Cond.declares ({ cls := "java/lang/Object", name := "getClass", desc := "()Ljava/lang/Class;" } : Jvm.MethodName)).before a0 Z = true := hw _ (List.mem_of_getElem? (i := 135) rfl)
theorem wd136 {Z : State} {a0 : Array Value} (hw : ∀ d ∈ tables_1, d.before a0 Z = true) : (Jvm.Cond.instanceMethod ({ cls := "java/lang/Object", name := "getClass", desc := "()Ljava/lang/Class;" } : Jvm.MethodName)).before a0 Z = true := hw _ (List.mem_of_getElem? (i := 136) rfl)
theorem wd137 {Z : State} {a0 : Array Value} (hw : ∀ d ∈ tables_1, d.before a0 Z = true) : (Jvm.Cond.selects "[Ljava/lang/Object;" ({ cls := "java/lang/Object", name := "getClass", desc := "()Ljava/lang/Class;" } : Jvm.MethodName) ({ cls := "java/lang/Object", name := "getClass", desc := "()Ljava/lang/Class;" } : Jvm.MethodName)).before a0 Z = true := hw _ (List.mem_of_getElem? (i := 137) rfl)
theorem wd138 {Z : State} {a0 : Array Value} (hw : ∀ d ∈ tables_1, d.before a0 Z = true) : (Jvm.Cond.native ({ cls := "java/lang/Object", name := "getClass", desc := "()Ljava/lang/Class;" } : Jvm.MethodName)).before a0 Z = true := hw _ (List.mem_of_getElem? (i := 138) rfl)
theorem wd140 {Z : State} {a0 : Array Value} (hw : ∀ d ∈ tables_1, d.before a0 Z = true) : (Jvm.Cond.methodLink "java/util/Arrays" (300 : Nat) ({ cls := "java/util/Arrays", name := "copyOf", desc := "([Ljava/lang/Object;ILjava/lang/Class;)[Ljava/lang/Object;" } : Jvm.MethodName)).before a0 Z = true := hw _ (List.mem_of_getElem? (i := 140) rfl)
theorem wd141 {Z : State} {a0 : Array Value} (hw : ∀ d ∈ tables_1, d.before a0 Z = true) : (Jvm.Cond.static ({ cls := "java/util/Arrays", name := "copyOf", desc := "([Ljava/lang/Object;ILjava/lang/Class;)[Ljava/lang/Object;" } : Jvm.MethodName)).before a0 Z = true := hw _ (List.mem_of_getElem? (i := 141) rfl)
theorem wd142 {Z : State} {a0 : Array Value} (hw : ∀ d ∈ tables_1, d.before a0 Z = true) : (Jvm.Cond.code ({ cls := "java/util/Arrays", name := "copyOf", desc := "([Ljava/lang/Object;ILjava/lang/Class;)[Ljava/lang/Object;" } : Jvm.MethodName) jdk_65_method_120_code (4 : Nat) (Option.some (Jvm.ClassFile.FieldType.array (Jvm.ClassFile.FieldType.object "java/lang/Object")))).before a0 Z = true := hw _ (List.mem_of_getElem? (i := 142) rfl)
theorem wd143 {Z : State} {a0 : Array Value} (hw : ∀ d ∈ tables_1, d.before a0 Z = true) : (Jvm.Cond.classLink "java/util/Arrays" (110 : Nat) "[Ljava/lang/Object;").before a0 Z = true := hw _ (List.mem_of_getElem? (i := 143) rfl)
theorem wd144 {Z : State} {a0 : Array Value} (hw : ∀ d ∈ tables_1, d.before a0 Z = true) : (Jvm.Cond.classLink "java/util/Arrays" (2 : Nat) "java/lang/Object").before a0 Z = true := hw _ (List.mem_of_getElem? (i := 144) rfl)
theorem wd145 {Z : State} {a0 : Array Value} (hw : ∀ d ∈ tables_1, d.before a0 Z = true) : (Jvm.Cond.methodLink "java/util/Arrays" (304 : Nat) ({ cls := "java/lang/Math", name := "min", desc := "(II)I" } : Jvm.MethodName)).before a0 Z = true := hw _ (List.mem_of_getElem? (i := 145) rfl)
theorem wd146 {Z : State} {a0 : Array Value} (hw : ∀ d ∈ tables_1, d.before a0 Z = true) : (Jvm.Cond.static ({ cls := "java/lang/Math", name := "min", desc := "(II)I" } : Jvm.MethodName)).before a0 Z = true := hw _ (List.mem_of_getElem? (i := 146) rfl)
theorem wd147 {Z : State} {a0 : Array Value} (hw : ∀ d ∈ tables_1, d.before a0 Z = true) : (Jvm.Cond.code ({ cls := "java/lang/Math", name := "min", desc := "(II)I" } : Jvm.MethodName) jdk_29_method_69_code (2 : Nat) (Option.some Jvm.ClassFile.FieldType.int)).before a0 Z = true := hw _ (List.mem_of_getElem? (i := 147) rfl)
theorem wd148 {Z : State} {a0 : Array Value} (hw : ∀ d ∈ tables_1, d.before a0 Z = true) : (Jvm.Cond.methodLink "java/util/Arrays" (150 : Nat) ({ cls := "java/lang/System", name := "arraycopy", desc := "(Ljava/lang/Object;ILjava/lang/Object;II)V" } : Jvm.MethodName)).before a0 Z = true := hw _ (List.mem_of_getElem? (i := 148) rfl)
theorem wd149 {Z : State} {a0 : Array Value} (hw : ∀ d ∈ tables_1, d.before a0 Z = true) : (Jvm.Cond.static ({ cls := "java/lang/System", name := "arraycopy", desc := "(Ljava/lang/Object;ILjava/lang/Object;II)V" } : Jvm.MethodName)).before a0 Z = true := hw _ (List.mem_of_getElem? (i := 149) rfl)
theorem wd150 {Z : State} {a0 : Array Value} (hw : ∀ d ∈ tables_1, d.before a0 Z = true) : (Jvm.Cond.initialized "java/lang/System").before a0 Z = true := hw _ (List.mem_of_getElem? (i := 150) rfl)
theorem wd151 {Z : State} {a0 : Array Value} (hw : ∀ d ∈ tables_1, d.before a0 Z = true) : (Jvm.Cond.native ({ cls := "java/lang/System", name := "arraycopy", desc := "(Ljava/lang/Object;ILjava/lang/Object;II)V" } : Jvm.MethodName)).before a0 Z = true := hw _ (List.mem_of_getElem? (i := 151) rfl)
theorem wd152 {Z : State} {a0 : Array Value} (hw : ∀ d ∈ tables_1, d.before a0 Z = true) : (Jvm.Cond.methodLink "java/util/ImmutableCollections" (34 : Nat) ({ cls := "java/util/List", name := "of", desc := "([Ljava/lang/Object;)Ljava/util/List;" } : Jvm.MethodName)).before a0 Z = true := hw _ (List.mem_of_getElem? (i := 152) rfl)
theorem wd153 {Z : State} {a0 : Array Value} (hw : ∀ d ∈ tables_1, d.before a0 Z = true) : (Jvm.Cond.static ({ cls := "java/util/List", name := "of", desc := "([Ljava/lang/Object;)Ljava/util/List;" } : Jvm.MethodName)).before a0 Z = true := hw _ (List.mem_of_getElem? (i := 153) rfl)
theorem wd154 {Z : State} {a0 : Array Value} (hw : ∀ d ∈ tables_1, d.before a0 Z = true) : (Jvm.Cond.code ({ cls := "java/util/List", name := "of", desc := "([Ljava/lang/Object;)Ljava/util/List;" } : Jvm.MethodName) jdk_40_method_47_code (2 : Nat) (Option.some (Jvm.ClassFile.FieldType.object "java/util/List"))).before a0 Z = true := hw _ (List.mem_of_getElem? (i := 154) rfl)
theorem wd155 {Z : State} {a0 : Array Value} (hw : ∀ d ∈ tables_1, d.before a0 Z = true) : (Jvm.Cond.classLink "java/util/List" (96 : Nat) "java/util/ImmutableCollections$List12").before a0 Z = true := hw _ (List.mem_of_getElem? (i := 155) rfl)
theorem wd156 {Z : State} {a0 : Array Value} (hw : ∀ d ∈ tables_1, d.before a0 Z = true) : (Jvm.Cond.instantiable "java/util/ImmutableCollections$List12" (2 : Nat)).before a0 Z = true := hw _ (List.mem_of_getElem? (i := 156) rfl)
theorem wd157 {Z : State} {a0 : Array Value} (hw : ∀ d ∈ tables_1, d.before a0 Z = true) : (Jvm.Cond.initialized "java/util/ImmutableCollections$List12").before a0 Z = true := hw _ (List.mem_of_getElem? (i := 157) rfl)
theorem wd158 {Z : State} {a0 : Array Value} (hw : ∀ d ∈ tables_1, d.before a0 Z = true) : (Jvm.Cond.methodLink "java/util/List" (98 : Nat) ({ cls := "java/util/ImmutableCollections$List12", name := "<init>", desc := "(Ljava/lang/Object;)V" } : Jvm.MethodName)).before a0 Z = true := hw _ (List.mem_of_getElem? (i := 158) rfl)
theorem wd159 {Z : State} {a0 : Array Value} (hw : ∀ d ∈ tables_1, d.before a0 Z = true) : (Jvm.Cond.instanceMethod ({ cls := "java/util/ImmutableCollections$List12", name := "<init>", desc := "(Ljava/lang/Object;)V" } : Jvm.MethodName)).before a0 Z = true := hw _ (List.mem_of_getElem? (i := 159) rfl)
theorem wd161 {Z : State} {a0 : Array Value} (hw : ∀ d ∈ tables_1, d.before a0 Z = true) : (Jvm.Cond.code ({ cls := "java/util/ImmutableCollections$List12", name := "<init>", desc := "(Ljava/lang/Object;)V" } : Jvm.MethodName) jdk_44_method_1_code (2 : Nat) (Option.none : Option Jvm.ClassFile.FieldType)).before a0 Z = true := hw _ (List.mem_of_getElem? (i := 161) rfl)
theorem wd162 {Z : State} {a0 : Array Value} (hw : ∀ d ∈ tables_1, d.before a0 Z = true) : (Jvm.Cond.methodLink "java/util/ImmutableCollections$List12" (1 : Nat) ({ cls := "java/util/ImmutableCollections$AbstractImmutableList", name := "<init>", desc := "()V" } : Jvm.MethodName)).before a0 Z = true := hw _ (List.mem_of_getElem? (i := 162) rfl)
theorem wd163 {Z : State} {a0 : Array Value} (hw : ∀ d ∈ tables_1, d.before a0 Z = true) : (Jvm.Cond.instanceMethod ({ cls := "java/util/ImmutableCollections$AbstractImmutableList", name := "<init>", desc := "()V" } : Jvm.MethodName)).before a0 Z = true := hw _ (List.mem_of_getElem? (i := 163) rfl)
theorem wd166 {Z : State} {a0 : Array Value} (hw : ∀ d ∈ tables_1, d.before a0 Z = true) : (Jvm.Cond.initialized "java/util/ImmutableCollections$AbstractImmutableList").before a0 Z = true := hw _ (List.mem_of_getElem? (i := 166) rfl)
theorem wd167 {Z : State} {a0 : Array Value} (hw : ∀ d ∈ tables_1, d.before a0 Z = true) : (Jvm.Cond.code ({ cls := "java/util/ImmutableCollections$AbstractImmutableList", name := "<init>", desc := "()V" } : Jvm.MethodName) jdk_46_method_1_code (1 : Nat) (Option.none : Option Jvm.ClassFile.FieldType)).before a0 Z = true := hw _ (List.mem_of_getElem? (i := 167) rfl)
theorem wd168 {Z : State} {a0 : Array Value} (hw : ∀ d ∈ tables_1, d.before a0 Z = true) : (Jvm.Cond.methodLink "java/util/ImmutableCollections$AbstractImmutableList" (1 : Nat) ({ cls := "java/util/ImmutableCollections$AbstractImmutableCollection", name := "<init>", desc := "()V" } : Jvm.MethodName)).before a0 Z = true := hw _ (List.mem_of_getElem? (i := 168) rfl)
theorem wd169 {Z : State} {a0 : Array Value} (hw : ∀ d ∈ tables_1, d.before a0 Z = true) : (Jvm.Cond.instanceMethod ({ cls := "java/util/ImmutableCollections$AbstractImmutableCollection", name := "<init>", desc := "()V" } : Jvm.MethodName)).before a0 Z = true := hw _ (List.mem_of_getElem? (i := 169) rfl)
theorem wd172 {Z : State} {a0 : Array Value} (hw : ∀ d ∈ tables_1, d.before a0 Z = true) : (Jvm.Cond.initialized "java/util/ImmutableCollections$AbstractImmutableCollection").before a0 Z = true := hw _ (List.mem_of_getElem? (i := 172) rfl)
theorem wd173 {Z : State} {a0 : Array Value} (hw : ∀ d ∈ tables_1, d.before a0 Z = true) : (Jvm.Cond.code ({ cls := "java/util/ImmutableCollections$AbstractImmutableCollection", name := "<init>", desc := "()V" } : Jvm.MethodName) jdk_47_method_1_code (1 : Nat) (Option.none : Option Jvm.ClassFile.FieldType)).before a0 Z = true := hw _ (List.mem_of_getElem? (i := 173) rfl)
theorem wd174 {Z : State} {a0 : Array Value} (hw : ∀ d ∈ tables_1, d.before a0 Z = true) : (Jvm.Cond.methodLink "java/util/ImmutableCollections$AbstractImmutableCollection" (1 : Nat) ({ cls := "java/util/AbstractCollection", name := "<init>", desc := "()V" } : Jvm.MethodName)).before a0 Z = true := hw _ (List.mem_of_getElem? (i := 174) rfl)
theorem wd176 {Z : State} {a0 : Array Value} (hw : ∀ d ∈ tables_1, d.before a0 Z = true) : (Jvm.Cond.methodLink "java/util/ImmutableCollections$List12" (7 : Nat) ({ cls := "java/util/Objects", name := "requireNonNull", desc := "(Ljava/lang/Object;)Ljava/lang/Object;" } : Jvm.MethodName)).before a0 Z = true := hw _ (List.mem_of_getElem? (i := 176) rfl)
theorem wd177 {Z : State} {a0 : Array Value} (hw : ∀ d ∈ tables_1, d.before a0 Z = true) : (Jvm.Cond.static ({ cls := "java/util/Objects", name := "requireNonNull", desc := "(Ljava/lang/Object;)Ljava/lang/Object;" } : Jvm.MethodName)).before a0 Z = true := hw _ (List.mem_of_getElem? (i := 177) rfl)
theorem wd178 {Z : State} {a0 : Array Value} (hw : ∀ d ∈ tables_1, d.before a0 Z = true) : (Jvm.Cond.initialized "java/util/Objects").before a0 Z = true := hw _ (List.mem_of_getElem? (i := 178) rfl)
theorem wd179 {Z : State} {a0 : Array Value} (hw : ∀ d ∈ tables_1, d.before a0 Z = true) : (Jvm.Cond.code ({ cls := "java/util/Objects", name := "requireNonNull", desc := "(Ljava/lang/Object;)Ljava/lang/Object;" } : Jvm.MethodName) jdk_31_method_10_code (1 : Nat) (Option.some (Jvm.ClassFile.FieldType.object "java/lang/Object"))).before a0 Z = true := hw _ (List.mem_of_getElem? (i := 179) rfl)
theorem wd180 {Z : State} {a0 : Array Value} (hw : ∀ d ∈ tables_1, d.before a0 Z = true) : (Jvm.Cond.fieldLink "java/util/ImmutableCollections$List12" (13 : Nat) "java/util/ImmutableCollections$List12" "e0" "Ljava/lang/Object;").before a0 Z = true := hw _ (List.mem_of_getElem? (i := 180) rfl)
theorem wd181 {Z : State} {a0 : Array Value} (hw : ∀ d ∈ tables_1, d.before a0 Z = true) : (Jvm.Cond.laysFinal "java/util/ImmutableCollections$List12" "java/util/ImmutableCollections$List12" "e0" "Ljava/lang/Object;").before a0 Z = true := hw _ (List.mem_of_getElem? (i := 181) rfl)
theorem wd182 {Z : State} {a0 : Array Value} (hw : ∀ d ∈ tables_1, d.before a0 Z = true) : (Jvm.Cond.fieldLinkNest "java/util/ImmutableCollections$List12" (19 : Nat) "java/util/ImmutableCollections" "EMPTY" "Ljava/lang/Object;" "java/util/ImmutableCollections").before a0 Z = true := hw _ (List.mem_of_getElem? (i := 182) rfl)
theorem wd183 {Z : State} {a0 : Array Value} (hw : ∀ d ∈ tables_1, d.before a0 Z = true) : (Jvm.Cond.fieldLink "java/util/ImmutableCollections$List12" (24 : Nat) "java/util/ImmutableCollections$List12" "e1" "Ljava/lang/Object;").before a0 Z = true := hw _ (List.mem_of_getElem? (i := 183) rfl)
theorem wd184 {Z : State} {a0 : Array Value} (hw : ∀ d ∈ tables_1, d.before a0 Z = true) : (Jvm.Cond.laysFinal "java/util/ImmutableCollections$List12" "java/util/ImmutableCollections$List12" "e1" "Ljava/lang/Object;").before a0 Z = true := hw _ (List.mem_of_getElem? (i := 184) rfl)
theorem wd185 {Z : State} {a0 : Array Value} (hw : ∀ d ∈ tables_1, d.before a0 Z = true) : (Jvm.Cond.fieldLink "com/example/vertere/vertere/engine/Answers" (13 : Nat) "com/example/vertere/vertere/engine/Answers" "tuples" "Ljava/util/List;").before a0 Z = true := hw _ (List.mem_of_getElem? (i := 185) rfl)
theorem wd186 {Z : State} {a0 : Array Value} (hw : ∀ d ∈ tables_1, d.before a0 Z = true) : (Jvm.Cond.laysFinal "com/example/vertere/vertere/engine/Answers" "com/example/vertere/vertere/engine/Answers" "tuples" "Ljava/util/List;").before a0 Z = true := hw _ (List.mem_of_getElem? (i := 186) rfl)
theorem wd187 {Z : State} {a0 : Array Value} (hw : ∀ d ∈ tables_1, d.before a0 Z = true) : (Jvm.Cond.fieldLink "com/example/vertere/vertere/engine/Answers" (19 : Nat) "com/example/vertere/vertere/engine/Answers" "consistent" "Z").before a0 Z = true := hw _ (List.mem_of_getElem? (i := 187) rfl)
theorem wd188 {Z : State} {a0 : Array Value} (hw : ∀ d ∈ tables_1, d.before a0 Z = true) : (Jvm.Cond.laysFinal "com/example/vertere/vertere/engine/Answers" "com/example/vertere/vertere/engine/Answers" "consistent" "Z").before a0 Z = true := hw _ (List.mem_of_getElem? (i := 188) rfl)
theorem wd189 {Z : State} {a0 : Array Value} (hw : ∀ d ∈ tables_1, d.before a0 Z = true) : (Jvm.Cond.fieldLink "com/example/vertere/vertere/engine/Answers" (23 : Nat) "com/example/vertere/vertere/engine/Answers" "contradiction" "Ljava/util/Optional;").before a0 Z = true := hw _ (List.mem_of_getElem? (i := 189) rfl)
theorem wd190 {Z : State} {a0 : Array Value} (hw : ∀ d ∈ tables_1, d.before a0 Z = true) : (Jvm.Cond.laysFinal "com/example/vertere/vertere/engine/Answers" "com/example/vertere/vertere/engine/Answers" "contradiction" "Ljava/util/Optional;").before a0 Z = true := hw _ (List.mem_of_getElem? (i := 190) rfl)
theorem wd191 {Z : State} {a0 : Array Value} (hw : ∀ d ∈ tables_1, d.before a0 Z = true) : (Jvm.Cond.methodLink "com/example/vertere/vertere/engine/AnswersGetPinLaw" (43 : Nat) ({ cls := "java/util/ArrayList", name := "set", desc := "(ILjava/lang/Object;)Ljava/lang/Object;" } : Jvm.MethodName)).before a0 Z = true := hw _ (List.mem_of_getElem? (i := 191) rfl)
theorem wd192 {Z : State} {a0 : Array Value} (hw : ∀ d ∈ tables_1, d.before a0 Z = true) : (Jvm.Cond.declares ({ cls := "java/util/ArrayList", name := "set", desc := "(ILjava/lang/Object;)Ljava/lang/Object;" } : Jvm.MethodName)).before a0 Z = true := hw _ (List.mem_of_getElem? (i := 192) rfl)
theorem wd193 {Z : State} {a0 : Array Value} (hw : ∀ d ∈ tables_1, d.before a0 Z = true) : (Jvm.Cond.instanceMethod ({ cls := "java/util/ArrayList", name := "set", desc := "(ILjava/lang/Object;)Ljava/lang/Object;" } : Jvm.MethodName)).before a0 Z = true := hw _ (List.mem_of_getElem? (i := 193) rfl)
theorem wd194 {Z : State} {a0 : Array Value} (hw : ∀ d ∈ tables_1, d.before a0 Z = true) : (Jvm.Cond.selects "java/util/ArrayList" ({ cls := "java/util/ArrayList", name := "set", desc := "(ILjava/lang/Object;)Ljava/lang/Object;" } : Jvm.MethodName) ({ cls := "java/util/ArrayList", name := "set", desc := "(ILjava/lang/Object;)Ljava/lang/Object;" } : Jvm.MethodName)).before a0 Z = true := hw _ (List.mem_of_getElem? (i := 194) rfl)
theorem wd195 {Z : State} {a0 : Array Value} (hw : ∀ d ∈ tables_1, d.before a0 Z = true) : (Jvm.Cond.code ({ cls := "java/util/ArrayList", name := "set", desc := "(ILjava/lang/Object;)Ljava/lang/Object;" } : Jvm.MethodName) jdk_38_method_23_code (4 : Nat) (Option.some (Jvm.ClassFile.FieldType.object "java/lang/Object"))).before a0 Z = true := hw _ (List.mem_of_getElem? (i := 195) rfl)
theorem wd196 {Z : State} {a0 : Array Value} (hw : ∀ d ∈ tables_1, d.before a0 Z = true) : (Jvm.Cond.methodLink "java/util/ArrayList" (118 : Nat) ({ cls := "java/util/Objects", name := "checkIndex", desc := "(II)I" } : Jvm.MethodName)).before a0 Z = true := hw _ (List.mem_of_getElem? (i := 196) rfl)
theorem wd197 {Z : State} {a0 : Array Value} (hw : ∀ d ∈ tables_1, d.before a0 Z = true) : (Jvm.Cond.static ({ cls := "java/util/Objects", name := "checkIndex", desc := "(II)I" } : Jvm.MethodName)).before a0 Z = true := hw _ (List.mem_of_getElem? (i := 197) rfl)
theorem wd198 {Z : State} {a0 : Array Value} (hw : ∀ d ∈ tables_1, d.before a0 Z = true) : (Jvm.Cond.code ({ cls := "java/util/Objects", name := "checkIndex", desc := "(II)I" } : Jvm.MethodName) jdk_31_method_17_code (2 : Nat) (Option.some Jvm.ClassFile.FieldType.int)).before a0 Z = true := hw _ (List.mem_of_getElem? (i := 198) rfl)
theorem wd199 {Z : State} {a0 : Array Value} (hw : ∀ d ∈ tables_1, d.before a0 Z = true) : (Jvm.Cond.methodLink "java/util/Objects" (105 : Nat) ({ cls := "jdk/internal/util/Preconditions", name := "checkIndex", desc := "(IILjava/util/function/BiFunction;)I" } : Jvm.MethodName)).before a0 Z = true := hw _ (List.mem_of_getElem? (i := 199) rfl)
theorem wd200 {Z : State} {a0 : Array Value} (hw : ∀ d ∈ tables_1, d.before a0 Z = true) : (Jvm.Cond.static ({ cls := "jdk/internal/util/Preconditions", name := "checkIndex", desc := "(IILjava/util/function/BiFunction;)I" } : Jvm.MethodName)).before a0 Z = true := hw _ (List.mem_of_getElem? (i := 200) rfl)
theorem wd201 {Z : State} {a0 : Array Value} (hw : ∀ d ∈ tables_1, d.before a0 Z = true) : (Jvm.Cond.initialized "jdk/internal/util/Preconditions").before a0 Z = true := hw _ (List.mem_of_getElem? (i := 201) rfl)
theorem wd202 {Z : State} {a0 : Array Value} (hw : ∀ d ∈ tables_1, d.before a0 Z = true) : (Jvm.Cond.code ({ cls := "jdk/internal/util/Preconditions", name := "checkIndex", desc := "(IILjava/util/function/BiFunction;)I" } : Jvm.MethodName) jdk_41_method_11_code (3 : Nat) (Option.some Jvm.ClassFile.FieldType.int)).before a0 Z = true := hw _ (List.mem_of_getElem? (i := 202) rfl)
theorem wd203 {Z : State} {a0 : Array Value} (hw : ∀ d ∈ tables_1, d.before a0 Z = true) : (Jvm.Cond.methodLink "java/util/ArrayList" (123 : Nat) ({ cls := "java/util/ArrayList", name := "elementData", desc := "(I)Ljava/lang/Object;" } : Jvm.MethodName)).before a0 Z = true := hw _ (List.mem_of_getElem? (i := 203) rfl)
theorem wd204 {Z : State} {a0 : Array Value} (hw : ∀ d ∈ tables_1, d.before a0 Z = true) : (Jvm.Cond.declares ({ cls := "java/util/ArrayList", name := "elementData", desc := "(I)Ljava/lang/Object;" } : Jvm.MethodName)).before a0 Z = true := hw _ (List.mem_of_getElem? (i := 204) rfl)
theorem wd205 {Z : State} {a0 : Array Value} (hw : ∀ d ∈ tables_1, d.before a0 Z = true) : (Jvm.Cond.instanceMethod ({ cls := "java/util/ArrayList", name := "elementData", desc := "(I)Ljava/lang/Object;" } : Jvm.MethodName)).before a0 Z = true := hw _ (List.mem_of_getElem? (i := 205) rfl)
theorem wd206 {Z : State} {a0 : Array Value} (hw : ∀ d ∈ tables_1, d.before a0 Z = true) : (Jvm.Cond.selects "java/util/ArrayList" ({ cls := "java/util/ArrayList", name := "elementData", desc := "(I)Ljava/lang/Object;" } : Jvm.MethodName) ({ cls := "java/util/ArrayList", name := "elementData", desc := "(I)Ljava/lang/Object;" } : Jvm.MethodName)).before a0 Z = true := hw _ (List.mem_of_getElem? (i := 206) rfl)
theorem wd207 {Z : State} {a0 : Array Value} (hw : ∀ d ∈ tables_1, d.before a0 Z = true) : (Jvm.Cond.code ({ cls := "java/util/ArrayList", name := "elementData", desc := "(I)Ljava/lang/Object;" } : Jvm.MethodName) jdk_38_method_18_code (2 : Nat) (Option.some (Jvm.ClassFile.FieldType.object "java/lang/Object"))).before a0 Z = true := hw _ (List.mem_of_getElem? (i := 207) rfl)
theorem wd208 {Z : State} {a0 : Array Value} (hw : ∀ d ∈ tables_1, d.before a0 Z = true) : (Jvm.Cond.constant "com/example/vertere/vertere/engine/AnswersGetPinLaw" (47 : Nat) (2147483647 : Int32)).before a0 Z = true := hw _ (List.mem_of_getElem? (i := 208) rfl)
theorem wd209 {Z : State} {a0 : Array Value} (hw : ∀ d ∈ tables_1, d.before a0 Z = true) : (Jvm.Cond.methodLink "com/example/vertere/vertere/engine/AnswersGetPinLaw" (48 : Nat) ({ cls := "com/example/vertere/vertere/engine/Answers", name := "get", desc := "(I)Ljava/util/List;" } : Jvm.MethodName)).before a0 Z = true := hw _ (List.mem_of_getElem? (i := 209) rfl)
theorem wd210 {Z : State} {a0 : Array Value} (hw : ∀ d ∈ tables_1, d.before a0 Z = true) : (Jvm.Cond.declares ({ cls := "com/example/vertere/vertere/engine/Answers", name := "get", desc := "(I)Ljava/util/List;" } : Jvm.MethodName)).before a0 Z = true := hw _ (List.mem_of_getElem? (i := 210) rfl)
theorem wd211 {Z : State} {a0 : Array Value} (hw : ∀ d ∈ tables_1, d.before a0 Z = true) : (Jvm.Cond.instanceMethod ({ cls := "com/example/vertere/vertere/engine/Answers", name := "get", desc := "(I)Ljava/util/List;" } : Jvm.MethodName)).before a0 Z = true := hw _ (List.mem_of_getElem? (i := 211) rfl)
theorem wd212 {Z : State} {a0 : Array Value} (hw : ∀ d ∈ tables_1, d.before a0 Z = true) : (Jvm.Cond.selects "com/example/vertere/vertere/engine/Answers" ({ cls := "com/example/vertere/vertere/engine/Answers", name := "get", desc := "(I)Ljava/util/List;" } : Jvm.MethodName) ({ cls := "com/example/vertere/vertere/engine/Answers", name := "get", desc := "(I)Ljava/util/List;" } : Jvm.MethodName)).before a0 Z = true := hw _ (List.mem_of_getElem? (i := 212) rfl)
theorem wd213 {Z : State} {a0 : Array Value} (hw : ∀ d ∈ tables_1, d.before a0 Z = true) : (Jvm.Cond.code ({ cls := "com/example/vertere/vertere/engine/Answers", name := "get", desc := "(I)Ljava/util/List;" } : Jvm.MethodName) prog_6_method_4_code (2 : Nat) (Option.some (Jvm.ClassFile.FieldType.object "java/util/List"))).before a0 Z = true := hw _ (List.mem_of_getElem? (i := 213) rfl)
theorem wd214 {Z : State} {a0 : Array Value} (hw : ∀ d ∈ tables_1, d.before a0 Z = true) : (Jvm.Cond.methodLink "com/example/vertere/vertere/engine/Answers" (27 : Nat) ({ cls := "java/util/List", name := "get", desc := "(I)Ljava/lang/Object;" } : Jvm.MethodName)).before a0 Z = true := hw _ (List.mem_of_getElem? (i := 214) rfl)
theorem wd215 {Z : State} {a0 : Array Value} (hw : ∀ d ∈ tables_1, d.before a0 Z = true) : (Jvm.Cond.declares ({ cls := "java/util/List", name := "get", desc := "(I)Ljava/lang/Object;" } : Jvm.MethodName)).before a0 Z = true := hw _ (List.mem_of_getElem? (i := 215) rfl)
theorem wd216 {Z : State} {a0 : Array Value} (hw : ∀ d ∈ tables_1, d.before a0 Z = true) : (Jvm.Cond.interfaceMethod "java/util/List" "java/util/List" "get" "(I)Ljava/lang/Object;").before a0 Z = true := hw _ (List.mem_of_getElem? (i := 216) rfl)
theorem wd217 {Z : State} {a0 : Array Value} (hw : ∀ d ∈ tables_1, d.before a0 Z = true) : (Jvm.Cond.selects "java/util/ImmutableCollections$List12" ({ cls := "java/util/List", name := "get", desc := "(I)Ljava/lang/Object;" } : Jvm.MethodName) ({ cls := "java/util/ImmutableCollections$List12", name := "get", desc := "(I)Ljava/lang/Object;" } : Jvm.MethodName)).before a0 Z = true := hw _ (List.mem_of_getElem? (i := 217) rfl)
theorem wd218 {Z : State} {a0 : Array Value} (hw : ∀ d ∈ tables_1, d.before a0 Z = true) : (Jvm.Cond.instanceMethod ({ cls := "java/util/ImmutableCollections$List12", name := "get", desc := "(I)Ljava/lang/Object;" } : Jvm.MethodName)).before a0 Z = true := hw _ (List.mem_of_getElem? (i := 218) rfl)
theorem wd219 {Z : State} {a0 : Array Value} (hw : ∀ d ∈ tables_1, d.before a0 Z = true) : (Jvm.Cond.publicMethod ({ cls := "java/util/ImmutableCollections$List12", name := "get", desc := "(I)Ljava/lang/Object;" } : Jvm.MethodName)).before a0 Z = true := hw _ (List.mem_of_getElem? (i := 219) rfl)
theorem wd220 {Z : State} {a0 : Array Value} (hw : ∀ d ∈ tables_1, d.before a0 Z = true) : (Jvm.Cond.unhidden "java/util/ImmutableCollections$List12" "get" "(I)Ljava/lang/Object;").before a0 Z = true := hw _ (List.mem_of_getElem? (i := 220) rfl)
theorem wd221 {Z : State} {a0 : Array Value} (hw : ∀ d ∈ tables_1, d.before a0 Z = true) : (Jvm.Cond.castable "java/util/ImmutableCollections$List12" "java/util/List").before a0 Z = true := hw _ (List.mem_of_getElem? (i := 221) rfl)
theorem wd222 {Z : State} {a0 : Array Value} (hw : ∀ d ∈ tables_1, d.before a0 Z = true) : (Jvm.Cond.code ({ cls := "java/util/ImmutableCollections$List12", name := "get", desc := "(I)Ljava/lang/Object;" } : Jvm.MethodName) jdk_44_method_5_code (2 : Nat) (Option.some (Jvm.ClassFile.FieldType.object "java/lang/Object"))).before a0 Z = true := hw _ (List.mem_of_getElem? (i := 222) rfl)
theorem wd223 {Z : State} {a0 : Array Value} (hw : ∀ d ∈ tables_1, d.before a0 Z = true) : (Jvm.Cond.classLink "com/example/vertere/vertere/engine/Answers" (8 : Nat) "java/util/List").before a0 Z = true := hw _ (List.mem_of_getElem? (i := 223) rfl)
theorem wd224 {Z : State} {a0 : Array Value} (hw : ∀ d ∈ tables_1, d.before a0 Z = true) : (Jvm.Cond.castable "java/util/ArrayList" "java/util/List").before a0 Z = true := hw _ (List.mem_of_getElem? (i := 224) rfl)
theorem wd225 {Z : State} {a0 : Array Value} (hw : ∀ d ∈ tables_1, d.before a0 Z = true) : (Jvm.Cond.methodLink "com/example/vertere/vertere/engine/AnswersGetPinLaw" (51 : Nat) ({ cls := "com/example/vertere/vertere/engine/AnswersGetPinLaw", name := "same", desc := "(Ljava/util/List;Ljava/util/List;)Z" } : Jvm.MethodName)).before a0 Z = true := hw _ (List.mem_of_getElem? (i := 225) rfl)
theorem wd226 {Z : State} {a0 : Array Value} (hw : ∀ d ∈ tables_1, d.before a0 Z = true) : (Jvm.Cond.static ({ cls := "com/example/vertere/vertere/engine/AnswersGetPinLaw", name := "same", desc := "(Ljava/util/List;Ljava/util/List;)Z" } : Jvm.MethodName)).before a0 Z = true := hw _ (List.mem_of_getElem? (i := 226) rfl)
theorem wd227 {Z : State} {a0 : Array Value} (hw : ∀ d ∈ tables_1, d.before a0 Z = true) : (Jvm.Cond.code ({ cls := "com/example/vertere/vertere/engine/AnswersGetPinLaw", name := "same", desc := "(Ljava/util/List;Ljava/util/List;)Z" } : Jvm.MethodName) method_3_code (3 : Nat) (Option.some Jvm.ClassFile.FieldType.boolean)).before a0 Z = true := hw _ (List.mem_of_getElem? (i := 227) rfl)
theorem wd228 {Z : State} {a0 : Array Value} (hw : ∀ d ∈ tables_1, d.before a0 Z = true) : (Jvm.Cond.methodLink "com/example/vertere/vertere/engine/AnswersGetPinLaw" (12 : Nat) ({ cls := "java/util/List", name := "size", desc := "()I" } : Jvm.MethodName)).before a0 Z = true := hw _ (List.mem_of_getElem? (i := 228) rfl)
theorem wd229 {Z : State} {a0 : Array Value} (hw : ∀ d ∈ tables_1, d.before a0 Z = true) : (Jvm.Cond.declares ({ cls := "java/util/List", name := "size", desc := "()I" } : Jvm.MethodName)).before a0 Z = true := hw _ (List.mem_of_getElem? (i := 229) rfl)
theorem wd230 {Z : State} {a0 : Array Value} (hw : ∀ d ∈ tables_1, d.before a0 Z = true) : (Jvm.Cond.interfaceMethod "java/util/List" "java/util/List" "size" "()I").before a0 Z = true := hw _ (List.mem_of_getElem? (i := 230) rfl)
theorem wd231 {Z : State} {a0 : Array Value} (hw : ∀ d ∈ tables_1, d.before a0 Z = true) : (Jvm.Cond.selects "java/util/ArrayList" ({ cls := "java/util/List", name := "size", desc := "()I" } : Jvm.MethodName) ({ cls := "java/util/ArrayList", name := "size", desc := "()I" } : Jvm.MethodName)).before a0 Z = true := hw _ (List.mem_of_getElem? (i := 231) rfl)
theorem wd232 {Z : State} {a0 : Array Value} (hw : ∀ d ∈ tables_1, d.before a0 Z = true) : (Jvm.Cond.instanceMethod ({ cls := "java/util/ArrayList", name := "size", desc := "()I" } : Jvm.MethodName)).before a0 Z = true := hw _ (List.mem_of_getElem? (i := 232) rfl)
theorem wd233 {Z : State} {a0 : Array Value} (hw : ∀ d ∈ tables_1, d.before a0 Z = true) : (Jvm.Cond.publicMethod ({ cls := "java/util/ArrayList", name := "size", desc := "()I" } : Jvm.MethodName)).before a0 Z = true := hw _ (List.mem_of_getElem? (i := 233) rfl)
theorem wd234 {Z : State} {a0 : Array Value} (hw : ∀ d ∈ tables_1, d.before a0 Z = true) : (Jvm.Cond.unhidden "java/util/ArrayList" "size" "()I").before a0 Z = true := hw _ (List.mem_of_getElem? (i := 234) rfl)
theorem wd235 {Z : State} {a0 : Array Value} (hw : ∀ d ∈ tables_1, d.before a0 Z = true) : (Jvm.Cond.code ({ cls := "java/util/ArrayList", name := "size", desc := "()I" } : Jvm.MethodName) jdk_38_method_8_code (1 : Nat) (Option.some Jvm.ClassFile.FieldType.int)).before a0 Z = true := hw _ (List.mem_of_getElem? (i := 235) rfl)
theorem wd236 {Z : State} {a0 : Array Value} (hw : ∀ d ∈ tables_1, d.before a0 Z = true) : (Jvm.Cond.methodLink "com/example/vertere/vertere/engine/AnswersGetPinLaw" (18 : Nat) ({ cls := "java/util/List", name := "get", desc := "(I)Ljava/lang/Object;" } : Jvm.MethodName)).before a0 Z = true := hw _ (List.mem_of_getElem? (i := 236) rfl)
theorem wd237 {Z : State} {a0 : Array Value} (hw : ∀ d ∈ tables_1, d.before a0 Z = true) : (Jvm.Cond.selects "java/util/ArrayList" ({ cls := "java/util/List", name := "get", desc := "(I)Ljava/lang/Object;" } : Jvm.MethodName) ({ cls := "java/util/ArrayList", name := "get", desc := "(I)Ljava/lang/Object;" } : Jvm.MethodName)).before a0 Z = true := hw _ (List.mem_of_getElem? (i := 237) rfl)
theorem wd238 {Z : State} {a0 : Array Value} (hw : ∀ d ∈ tables_1, d.before a0 Z = true) : (Jvm.Cond.instanceMethod ({ cls := "java/util/ArrayList", name := "get", desc := "(I)Ljava/lang/Object;" } : Jvm.MethodName)).before a0 Z = true := hw _ (List.mem_of_getElem? (i := 238) rfl)
theorem wd239 {Z : State} {a0 : Array Value} (hw : ∀ d ∈ tables_1, d.before a0 Z = true) : (Jvm.Cond.publicMethod ({ cls := "java/util/ArrayList", name := "get", desc := "(I)Ljava/lang/Object;" } : Jvm.MethodName)).before a0 Z = true := hw _ (List.mem_of_getElem? (i := 239) rfl)
theorem wd240 {Z : State} {a0 : Array Value} (hw : ∀ d ∈ tables_1, d.before a0 Z = true) : (Jvm.Cond.unhidden "java/util/ArrayList" "get" "(I)Ljava/lang/Object;").before a0 Z = true := hw _ (List.mem_of_getElem? (i := 240) rfl)
theorem wd241 {Z : State} {a0 : Array Value} (hw : ∀ d ∈ tables_1, d.before a0 Z = true) : (Jvm.Cond.code ({ cls := "java/util/ArrayList", name := "get", desc := "(I)Ljava/lang/Object;" } : Jvm.MethodName) jdk_38_method_20_code (2 : Nat) (Option.some (Jvm.ClassFile.FieldType.object "java/lang/Object"))).before a0 Z = true := hw _ (List.mem_of_getElem? (i := 241) rfl)
theorem wd242 {Z : State} {a0 : Array Value} (hw : ∀ d ∈ tables_1, d.before a0 Z = true) : (Jvm.Cond.methodLink "com/example/vertere/vertere/engine/AnswersGetPinLaw" (22 : Nat) ({ cls := "java/lang/String", name := "equals", desc := "(Ljava/lang/Object;)Z" } : Jvm.MethodName)).before a0 Z = true := hw _ (List.mem_of_getElem? (i := 242) rfl)
theorem wd243 {Z : State} {a0 : Array Value} (hw : ∀ d ∈ tables_1, d.before a0 Z = true) : (Jvm.Cond.declares ({ cls := "java/lang/String", name := "equals", desc := "(Ljava/lang/Object;)Z" } : Jvm.MethodName)).before a0 Z = true := hw _ (List.mem_of_getElem? (i := 243) rfl)
theorem wd244 {Z : State} {a0 : Array Value} (hw : ∀ d ∈ tables_1, d.before a0 Z = true) : (Jvm.Cond.instanceMethod ({ cls := "java/lang/String", name := "equals", desc := "(Ljava/lang/Object;)Z" } : Jvm.MethodName)).before a0 Z = true := hw _ (List.mem_of_getElem? (i := 244) rfl)
theorem wd245 {Z : State} {a0 : Array Value} (hw : ∀ d ∈ tables_1, d.before a0 Z = true) : (Jvm.Cond.selects "java/lang/String" ({ cls := "java/lang/String", name := "equals", desc := "(Ljava/lang/Object;)Z" } : Jvm.MethodName) ({ cls := "java/lang/String", name := "equals", desc := "(Ljava/lang/Object;)Z" } : Jvm.MethodName)).before a0 Z = true := hw _ (List.mem_of_getElem? (i := 245) rfl)
theorem wd246 {Z : State} {a0 : Array Value} (hw : ∀ d ∈ tables_1, d.before a0 Z = true) : (Jvm.Cond.code ({ cls := "java/lang/String", name := "equals", desc := "(Ljava/lang/Object;)Z" } : Jvm.MethodName) jdk_42_method_66_code (3 : Nat) (Option.some Jvm.ClassFile.FieldType.boolean)).before a0 Z = true := hw _ (List.mem_of_getElem? (i := 246) rfl)
theorem wd247 {Z : State} {a0 : Array Value} (hw : ∀ d ∈ tables_1, d.before a0 Z = true) : (Jvm.Cond.methodLink "java/util/List" (100 : Nat) ({ cls := "java/util/ImmutableCollections$List12", name := "<init>", desc := "(Ljava/lang/Object;Ljava/lang/Object;)V" } : Jvm.MethodName)).before a0 Z = true := hw _ (List.mem_of_getElem? (i := 247) rfl)
theorem wd248 {Z : State} {a0 : Array Value} (hw : ∀ d ∈ tables_1, d.before a0 Z = true) : (Jvm.Cond.instanceMethod ({ cls := "java/util/ImmutableCollections$List12", name := "<init>", desc := "(Ljava/lang/Object;Ljava/lang/Object;)V" } : Jvm.MethodName)).before a0 Z = true := hw _ (List.mem_of_getElem? (i := 248) rfl)
theorem wd249 {Z : State} {a0 : Array Value} (hw : ∀ d ∈ tables_1, d.before a0 Z = true) : (Jvm.Cond.code ({ cls := "java/util/ImmutableCollections$List12", name := "<init>", desc := "(Ljava/lang/Object;Ljava/lang/Object;)V" } : Jvm.MethodName) jdk_44_method_2_code (3 : Nat) (Option.none : Option Jvm.ClassFile.FieldType)).before a0 Z = true := hw _ (List.mem_of_getElem? (i := 249) rfl)
theorem wd250 {Z : State} {a0 : Array Value} (hw : ∀ d ∈ tables_1, d.before a0 Z = true) : (Jvm.Cond.methodLink "java/util/List" (109 : Nat) ({ cls := "java/util/ImmutableCollections", name := "listFromArray", desc := "([Ljava/lang/Object;)Ljava/util/List;" } : Jvm.MethodName)).before a0 Z = true := hw _ (List.mem_of_getElem? (i := 250) rfl)
theorem wd251 {Z : State} {a0 : Array Value} (hw : ∀ d ∈ tables_1, d.before a0 Z = true) : (Jvm.Cond.static ({ cls := "java/util/ImmutableCollections", name := "listFromArray", desc := "([Ljava/lang/Object;)Ljava/util/List;" } : Jvm.MethodName)).before a0 Z = true := hw _ (List.mem_of_getElem? (i := 251) rfl)
theorem wd252 {Z : State} {a0 : Array Value} (hw : ∀ d ∈ tables_1, d.before a0 Z = true) : (Jvm.Cond.code ({ cls := "java/util/ImmutableCollections", name := "listFromArray", desc := "([Ljava/lang/Object;)Ljava/util/List;" } : Jvm.MethodName) jdk_56_method_4_code (3 : Nat) (Option.some (Jvm.ClassFile.FieldType.object "java/util/List"))).before a0 Z = true := hw _ (List.mem_of_getElem? (i := 252) rfl)
theorem wd253 {Z : State} {a0 : Array Value} (hw : ∀ d ∈ tables_1, d.before a0 Z = true) : (Jvm.Cond.classLink "java/util/ImmutableCollections" (2 : Nat) "java/lang/Object").before a0 Z = true := hw _ (List.mem_of_getElem? (i := 253) rfl)
theorem wd254 {Z : State} {a0 : Array Value} (hw : ∀ d ∈ tables_1, d.before a0 Z = true) : (Jvm.Cond.methodLink "java/util/ImmutableCollections" (37 : Nat) ({ cls := "java/util/Objects", name := "requireNonNull", desc := "(Ljava/lang/Object;)Ljava/lang/Object;" } : Jvm.MethodName)).before a0 Z = true := hw _ (List.mem_of_getElem? (i := 254) rfl)
theorem wd255 {Z : State} {a0 : Array Value} (hw : ∀ d ∈ tables_1, d.before a0 Z = true) : (Jvm.Cond.instantiable "java/util/ImmutableCollections$ListN" (2 : Nat)).before a0 Z = true := hw _ (List.mem_of_getElem? (i := 255) rfl)
theorem wd256 {Z : State} {a0 : Array Value} (hw : ∀ d ∈ tables_1, d.before a0 Z = true) : (Jvm.Cond.initialized "java/util/ImmutableCollections$ListN").before a0 Z = true := hw _ (List.mem_of_getElem? (i := 256) rfl)
theorem wd257 {Z : State} {a0 : Array Value} (hw : ∀ d ∈ tables_1, d.before a0 Z = true) : (Jvm.Cond.methodLinkNest "java/util/ImmutableCollections" (43 : Nat) ({ cls := "java/util/ImmutableCollections$ListN", name := "<init>", desc := "([Ljava/lang/Object;Z)V" } : Jvm.MethodName) "java/util/ImmutableCollections").before a0 Z = true := hw _ (List.mem_of_getElem? (i := 257) rfl)
theorem wd258 {Z : State} {a0 : Array Value} (hw : ∀ d ∈ tables_1, d.before a0 Z = true) : (Jvm.Cond.instanceMethod ({ cls := "java/util/ImmutableCollections$ListN", name := "<init>", desc := "([Ljava/lang/Object;Z)V" } : Jvm.MethodName)).before a0 Z = true := hw _ (List.mem_of_getElem? (i := 258) rfl)
theorem wd260 {Z : State} {a0 : Array Value} (hw : ∀ d ∈ tables_1, d.before a0 Z = true) : (Jvm.Cond.code ({ cls := "java/util/ImmutableCollections$ListN", name := "<init>", desc := "([Ljava/lang/Object;Z)V" } : Jvm.MethodName) jdk_45_method_1_code (3 : Nat) (Option.none : Option Jvm.ClassFile.FieldType)).before a0 Z = true := hw _ (List.mem_of_getElem? (i := 260) rfl)
theorem wd261 {Z : State} {a0 : Array Value} (hw : ∀ d ∈ tables_1, d.before a0 Z = true) : (Jvm.Cond.methodLink "java/util/ImmutableCollections$ListN" (1 : Nat) ({ cls := "java/util/ImmutableCollections$AbstractImmutableList", name := "<init>", desc := "()V" } : Jvm.MethodName)).before a0 Z = true := hw _ (List.mem_of_getElem? (i := 261) rfl)
theorem wd265 {Z : State} {a0 : Array Value} (hw : ∀ d ∈ tables_1, d.before a0 Z = true) : (Jvm.Cond.fieldLink "java/util/ImmutableCollections$ListN" (7 : Nat) "java/util/ImmutableCollections$ListN" "elements" "[Ljava/lang/Object;").before a0 Z = true := hw _ (List.mem_of_getElem? (i := 265) rfl)
theorem wd266 {Z : State} {a0 : Array Value} (hw : ∀ d ∈ tables_1, d.before a0 Z = true) : (Jvm.Cond.laysFinal "java/util/ImmutableCollections$ListN" "java/util/ImmutableCollections$ListN" "elements" "[Ljava/lang/Object;").before a0 Z = true := hw _ (List.mem_of_getElem? (i := 266) rfl)
theorem wd267 {Z : State} {a0 : Array Value} (hw : ∀ d ∈ tables_1, d.before a0 Z = true) : (Jvm.Cond.fieldLink "java/util/ImmutableCollections$ListN" (13 : Nat) "java/util/ImmutableCollections$ListN" "allowNulls" "Z").before a0 Z = true := hw _ (List.mem_of_getElem? (i := 267) rfl)
theorem wd268 {Z : State} {a0 : Array Value} (hw : ∀ d ∈ tables_1, d.before a0 Z = true) : (Jvm.Cond.laysFinal "java/util/ImmutableCollections$ListN" "java/util/ImmutableCollections$ListN" "allowNulls" "Z").before a0 Z = true := hw _ (List.mem_of_getElem? (i := 268) rfl)
theorem wd269 {Z : State} {a0 : Array Value} (hw : ∀ d ∈ tables_1, d.before a0 Z = true) : (Jvm.Cond.selects "java/util/ImmutableCollections$ListN" ({ cls := "java/util/List", name := "get", desc := "(I)Ljava/lang/Object;" } : Jvm.MethodName) ({ cls := "java/util/ImmutableCollections$ListN", name := "get", desc := "(I)Ljava/lang/Object;" } : Jvm.MethodName)).before a0 Z = true := hw _ (List.mem_of_getElem? (i := 269) rfl)
theorem wd270 {Z : State} {a0 : Array Value} (hw : ∀ d ∈ tables_1, d.before a0 Z = true) : (Jvm.Cond.instanceMethod ({ cls := "java/util/ImmutableCollections$ListN", name := "get", desc := "(I)Ljava/lang/Object;" } : Jvm.MethodName)).before a0 Z = true := hw _ (List.mem_of_getElem? (i := 270) rfl)
theorem wd271 {Z : State} {a0 : Array Value} (hw : ∀ d ∈ tables_1, d.before a0 Z = true) : (Jvm.Cond.publicMethod ({ cls := "java/util/ImmutableCollections$ListN", name := "get", desc := "(I)Ljava/lang/Object;" } : Jvm.MethodName)).before a0 Z = true := hw _ (List.mem_of_getElem? (i := 271) rfl)
theorem wd272 {Z : State} {a0 : Array Value} (hw : ∀ d ∈ tables_1, d.before a0 Z = true) : (Jvm.Cond.unhidden "java/util/ImmutableCollections$ListN" "get" "(I)Ljava/lang/Object;").before a0 Z = true := hw _ (List.mem_of_getElem? (i := 272) rfl)
theorem wd273 {Z : State} {a0 : Array Value} (hw : ∀ d ∈ tables_1, d.before a0 Z = true) : (Jvm.Cond.castable "java/util/ImmutableCollections$ListN" "java/util/List").before a0 Z = true := hw _ (List.mem_of_getElem? (i := 273) rfl)
theorem wd274 {Z : State} {a0 : Array Value} (hw : ∀ d ∈ tables_1, d.before a0 Z = true) : (Jvm.Cond.code ({ cls := "java/util/ImmutableCollections$ListN", name := "get", desc := "(I)Ljava/lang/Object;" } : Jvm.MethodName) jdk_45_method_4_code (2 : Nat) (Option.some (Jvm.ClassFile.FieldType.object "java/lang/Object"))).before a0 Z = true := hw _ (List.mem_of_getElem? (i := 274) rfl)
/-- a is an ArrayList: elementData, size, modCount -/
def AL (Z : State) (h : Heap) (a : Addr) (ed : Value) (n mc : Int32) : Prop := Exa Z h a "java/util/ArrayList" ∧ Fld Z h a "java/util/ArrayList" "elementData" "[Ljava/lang/Object;" ed ∧ Fld Z h a "java/util/ArrayList" "size" "I" (.int n) ∧ Fld Z h a "java/util/AbstractList" "modCount" "I" (.int mc)
theorem AL.ext {Z : State} {h h' : Heap} {a : Addr} {ed : Value} {n mc : Int32} (A : AL Z h a ed n mc) (E : Ext h h') : AL Z h' a ed n mc := ⟨A.1.ext E, A.2.1.ext E, A.2.2.1.ext E, A.2.2.2.ext E⟩
theorem AL.keep {Z : State} {h h' : Heap} {a : Addr} {ed : Value} {n mc : Int32} {ws : List Addr} (A : AL Z h a ed n mc) (K : Keep h h' ws) (q : a ∉ ws) : AL Z h' a ed n mc := ⟨A.1.keep K, A.2.1.keep K q, A.2.2.1.keep K q, A.2.2.2.keep K q⟩
theorem AL.other {Z : State} {h h' : Heap} {a b : Addr} {sl : Nat} {v : Value} {ed : Value} {n mc : Int32} (A : AL Z h a ed n mc) (W : Wr h h' b sl v) (q : a ≠ b) : AL Z h' a ed n mc := ⟨A.1.wr W, A.2.1.other W (Or.inl q), A.2.2.1.other W (Or.inl q), A.2.2.2.other W (Or.inl q)⟩
theorem AL.lt {Z : State} {h : Heap} {a : Addr} {ed : Value} {n mc : Int32} (A : AL Z h a ed n mc) : a < h.size := A.1.lt
/-- d is an Object[] of cap places that hold vs -/
def OA (Z : State) (h : Heap) (d : Addr) (cap : Int32) (vs : List Value) : Prop := ∃ kd, Arv Z h d kd (.object "java/lang/Object") cap vs .null ∧ Ovr Z kd "java/lang/Object" ∧ Exa Z h d "[Ljava/lang/Object;"
theorem OA.ext {Z : State} {h h' : Heap} {d : Addr} {cap : Int32} {vs : List Value} (A : OA Z h d cap vs) (E : Ext h h') : OA Z h' d cap vs := by obtain ⟨k, a, b, c⟩ := A; exact ⟨k, a.ext E, b, c.ext E⟩
theorem OA.keep {Z : State} {h h' : Heap} {d : Addr} {cap : Int32} {vs : List Value} {ws : List Addr} (A : OA Z h d cap vs) (K : Keep h h' ws) (q : d ∉ ws) : OA Z h' d cap vs := by obtain ⟨k, a, b, c⟩ := A; exact ⟨k, a.keep K q, b, c.keep K⟩
theorem OA.other {Z : State} {h h' : Heap} {a d : Addr} {sl : Nat} {v : Value} {cap : Int32} {vs : List Value} (A : OA Z h d cap vs) (W : Wr h h' a sl v) (q : d ≠ a) : OA Z h' d cap vs := by obtain ⟨k, b, c, f⟩ := A; exact ⟨k, b.other W q, c, f.wr W⟩
theorem OA.lt {Z : State} {h : Heap} {d : Addr} {cap : Int32} {vs : List Value} (A : OA Z h d cap vs) : d < h.size := by obtain ⟨k, a, -⟩ := A; exact a.lt
theorem OA.safe {Z : State} {h : Heap} {d : Addr} {cap : Int32} {vs : List Value} {EL : List (String × Nat)} {vm : Vm} (A : OA Z h d cap vs) (al : Z.vm.Alike vm) : Safe Z EL vm h d := by obtain ⟨k, a, -⟩ := A; exact Safe.arv al a (by intro q; cases q)
theorem OA.ty {Z : State} {h : Heap} {d : Addr} {cap : Int32} {vs : List Value} (A : OA Z h d cap vs) : ∃ kd, Arv Z h d kd (.object "java/lang/Object") cap vs .null ∧ FieldType.object "java/lang/Object" ≠ .byte := by obtain ⟨k, a, -⟩ := A; exact ⟨k, a, by intro q; cases q⟩
theorem and3 {x n : Int32} (h : (x &&& (3 : Int32)) + 1 = n) : n = 1 ∨ n = 2 ∨ n = 3 ∨ n = 4 := by
  have q := c_and x 3 (by decide)
  have e3 : (3 : Int32).toInt = 3 := rfl
  have : (x &&& 3).toInt = 0 ∨ (x &&& 3).toInt = 1 ∨ (x &&& 3).toInt = 2 ∨ (x &&& 3).toInt = 3 := by omega
  subst h
  rcases this with e | e | e | e
  · left; rw [Int32.toInt_inj.mp (e.trans (show (0 : Int) = (0 : Int32).toInt from rfl))]; rfl
  · right; left; rw [Int32.toInt_inj.mp (e.trans (show (1 : Int) = (1 : Int32).toInt from rfl))]; rfl
  · right; right; left; rw [Int32.toInt_inj.mp (e.trans (show (2 : Int) = (2 : Int32).toInt from rfl))]; rfl
  · right; right; right; rw [Int32.toInt_inj.mp (e.trans (show (3 : Int) = (3 : Int32).toInt from rfl))]; rfl
theorem remN {x n i : Int32} (hn : 0 < n.toInt) (h : (x &&& (2147483647 : Int32)) % n = i) : 0 ≤ i.toInt ∧ i.toInt < n.toInt := by
  have q := c_and x 2147483647 (by decide)
  subst h
  rw [Int32.toInt_mod]
  exact ⟨Int.tmod_nonneg _ q.1, Int.tmod_lt_of_pos _ hn⟩
theorem is_k {i k : Int32} (h : i.toInt = k.toInt) : i = k := Int32.toInt_inj.mp h
/-- u is a List12 of e0, e1 -/
def L2 (Z : State) (h : Heap) (u : Addr) (v0 v1 : Value) : Prop := Exa Z h u "java/util/ImmutableCollections$List12" ∧ Fld Z h u "java/util/ImmutableCollections$List12" "e0" "Ljava/lang/Object;" v0 ∧ Fld Z h u "java/util/ImmutableCollections$List12" "e1" "Ljava/lang/Object;" v1
theorem L2.ext {Z : State} {h h' : Heap} {u : Addr} {v0 v1 : Value} (A : L2 Z h u v0 v1) (E : Ext h h') : L2 Z h' u v0 v1 := ⟨A.1.ext E, A.2.1.ext E, A.2.2.ext E⟩
theorem L2.keep {Z : State} {h h' : Heap} {u : Addr} {v0 v1 : Value} {ws : List Addr} (A : L2 Z h u v0 v1) (K : Keep h h' ws) (q : u ∉ ws) : L2 Z h' u v0 v1 := ⟨A.1.keep K, A.2.1.keep K q, A.2.2.keep K q⟩
theorem L2.other {Z : State} {h h' : Heap} {u b : Addr} {sl : Nat} {v : Value} {v0 v1 : Value} (A : L2 Z h u v0 v1) (W : Wr h h' b sl v) (q : u ≠ b) : L2 Z h' u v0 v1 := ⟨A.1.wr W, A.2.1.other W (Or.inl q), A.2.2.other W (Or.inl q)⟩
/-- u is a ListN over the array el -/
def LN (Z : State) (h : Heap) (lo : Nat) (u : Addr) (n : Int32) (vs : List Value) : Prop := Exa Z h u "java/util/ImmutableCollections$ListN" ∧ ∃ el, el ≠ u ∧ lo ≤ el ∧ Fld Z h u "java/util/ImmutableCollections$ListN" "elements" "[Ljava/lang/Object;" (.ref el) ∧ OA Z h el n vs
theorem LN.mono {Z : State} {h : Heap} {lo lo' : Nat} {u : Addr} {n : Int32} {vs : List Value} (A : LN Z h lo u n vs) (q : lo' ≤ lo) : LN Z h lo' u n vs := by
  obtain ⟨a, el, b, c, d⟩ := A; exact ⟨a, el, b, Nat.le_trans q c, d⟩
theorem noI {C K : String} {Z : State} {a0 : Array Value} {n : Nat} (w1 : (Cond.superclass "java/util/ArrayList" "java/util/AbstractList").before a0 Z = true) (w2 : (Cond.superclass "java/util/AbstractList" "java/util/AbstractCollection").before a0 Z = true) (w3 : (Cond.superclass "java/util/AbstractCollection" "java/lang/Object").before a0 Z = true) (wo : (Cond.noSuperclass "java/lang/Object").before a0 Z = true) (wk : (Cond.instantiable K n).before a0 Z = true) (q1 : "java/util/ArrayList" ≠ K) (q2 : "java/util/AbstractList" ≠ K) (q3 : "java/util/AbstractCollection" ≠ K) (q4 : "java/lang/Object" ≠ K) : ∃ c t, Z.vm.findClass "java/util/ArrayList" = some c ∧ Z.vm.findClass K = some t ∧ Z.vm.assignable c t = false := by
  obtain ⟨t, kt, g0, g2, g5, g6, -⟩ := Cond.instantiable_spec wk
  have g7 : kt.isInterface = false := (Bool.or_eq_false_iff.mp g6).1
  obtain ⟨co, ko, o1, o2, o3, -, -⟩ := Cond.noSuperclass_spec wo
  have nO : NS Z "java/lang/Object" K := by
    have ne := ids_ne o1 g0 q4
    refine ⟨co, t, o1, g0, fun fuel => ?_⟩
    cases fuel with
    | zero => rfl
    | succ f => simp [Vm.isSubclassAux, ne, o2, o3]
  obtain ⟨c, t', h0, g0', n3⟩ := NS.step w1 (NS.step w2 (NS.step w3 nO q3) q2) q1
  cases g0.symm.trans g0'
  obtain ⟨p, k, kp, h1, h2, h3, h4, h5, -, h7⟩ := Cond.superclass_spec h0 w1
  have ne := ids_ne h0 g0 q1
  refine ⟨c, t, h0, g0, ?_⟩
  show Z.vm.assignableAux (255 + 1) c t = false
  simp [Vm.assignableAux, ne, h2, g2, h5, g5, g7, Vm.isSubclass, n3]
set_option maxRecDepth 65536 in
set_option maxHeartbeats 40000000 in
theorem ef_rmACI (m : MethodId) (a1 : Addr) : entryFrame m #[(.ref a1)] 1 = mkF m 0 #[.val (.ref a1)] [] := by first | (simp [entryFrame, mkF, argsToLocals, Value.category]; done) | (rfl)
set_option maxRecDepth 65536 in
set_option maxHeartbeats 40000000 in
theorem rmACI (l : Launch) (Z : State) (a0 : Array Value) (hw : ∀ d ∈ tables_1, d.before a0 Z = true) (a1 : Addr) (h0 : Heap) (O : Ext Z.heap h0)  :
    MN l Z (⟨"java/util/AbstractCollection", "<init>", "()V"⟩ : MethodName) jdk_22_method_1_code 1 none [] ({ frames := 1, cells := 0, slots := 0, locals := 12 } : Room) #[(.ref a1)] h0 [] (RO h0) := by
  refine MN.mk (a0 := a0) rfl rfl (plainFor_of_name pn0) O (fun m => ef_rmACI m a1) ?_
  intro pg ev s m below meth cd T hh X
  subst hh
  refine X.aloadN (pc' := 1) d3_0 rfl rfl rfl ?_
  refine X.initO (pc' := 4) (wd18 hw) (wd19 hw) (wd20 hw) rfl d3_1 (leB rfl) (leB rfl) rfl ?_
  intro T X
  exact X.retUN d3_4 (by decide) (by decide) ⟨rfl, rfl⟩
set_option maxRecDepth 65536 in
set_option maxHeartbeats 40000000 in
theorem ef_rmABL (m : MethodId) (a1 : Addr) : entryFrame m #[(.ref a1)] 1 = mkF m 0 #[.val (.ref a1)] [] := by first | (simp [entryFrame, mkF, argsToLocals, Value.category]; done) | (rfl)
set_option maxRecDepth 65536 in
set_option maxHeartbeats 40000000 in
theorem rmABL (l : Launch) (Z : State) (a0 : Array Value) (hw : ∀ d ∈ tables_1, d.before a0 Z = true) (a1 : Addr) (h0 : Heap) (O : Ext Z.heap h0) (za : Z.heap.size ≤ a1) (ed : Value) (n mc : Int32) (A1 : AL Z h0 a1 ed n mc) :
    MN l Z (⟨"java/util/AbstractList", "<init>", "()V"⟩ : MethodName) jdk_39_method_1_code 1 none [] ({ frames := 2, cells := 0, slots := 0, locals := 30 } : Room) #[(.ref a1)] h0 [a1] (RU (fun h => AL Z h a1 ed n 0)) := by
  refine MN.mk (a0 := a0) rfl rfl (plainFor_of_name pn1) O (fun m => ef_rmABL m a1) ?_
  intro pg ev s m below meth cd T hh X
  subst hh
  obtain ⟨E_a1, F_a1_elementData, F_a1_size, F_a1_modCount⟩ := A1
  have lt_a1 := E_a1.lt
  refine X.aloadN (pc' := 1) d2_0 rfl rfl rfl ?_
  refine X.callO (pc' := 4) (X.sSpecial rfl (wd12 hw) (wd13 hw) (wd17 hw) (by decide) rfl pd0 [] rfl rfl d2_1) (rmACI l Z a0 hw a1 _ X.old) (wd17 hw) (wd16 hw) (leB rfl) (leB rfl) (leB rfl) (leB rfl) rfl ?_
  intro T L X
  refine X.aloadN (pc' := 5) d2_4 rfl rfl rfl ?_
  refine X.iconst (pc' := 6) (0 : Int32) d2_5 rfl rfl ?_
  refine X.putF (pc' := 9) (wd21 hw) Via.refl F_a1_modCount E_a1 (Or.inl (wd22 hw)) (wd1 hw) .int (by decide) rfl rfl safeE za (Or.inl (List.mem_of_getElem? (i := 0) rfl)) d2_6 rfl ?_
  intro T h L X W
  replace F_a1_elementData := F_a1_elementData.other W (Or.inr (slot_ne (Or.inl (wd25 hw)) (Or.inl (wd22 hw)) (by decide) (t := (.array (.object "java/lang/Object"))) (t' := .int) (by decide) (by decide)))
  replace F_a1_size := F_a1_size.other W (Or.inr (slot_ne (Or.inl (wd66 hw)) (Or.inl (wd22 hw)) (by decide) (t := .int) (t' := .int) (by decide) (by decide)))
  replace E_a1 := E_a1.wr W
  replace lt_a1 := Nat.lt_of_lt_of_le lt_a1 (Keep.of_wr W).1
  replace F_a1_modCount := F_a1_modCount.same W
  exact X.retUN d2_9 (by decide) (by decide) ⟨rfl, ⟨E_a1, F_a1_elementData, F_a1_size, F_a1_modCount⟩⟩
set_option maxRecDepth 65536 in
set_option maxHeartbeats 40000000 in
theorem ef_rmALI (m : MethodId) (a1 : Addr) : entryFrame m #[(.ref a1)] 1 = mkF m 0 #[.val (.ref a1)] [] := by first | (simp [entryFrame, mkF, argsToLocals, Value.category]; done) | (rfl)
set_option maxRecDepth 65536 in
set_option maxHeartbeats 40000000 in
theorem rmALI (l : Launch) (Z : State) (a0 : Array Value) (hw : ∀ d ∈ tables_1, d.before a0 Z = true) (a1 : Addr) (h0 : Heap) (O : Ext Z.heap h0) (d0 : Addr) (SD : Sta Z Z.heap "java/util/ArrayList" "DEFAULTCAPACITY_EMPTY_ELEMENTDATA" "[Ljava/lang/Object;" (.ref d0)) (VD : Emp Z Z.heap d0) (za : Z.heap.size ≤ a1) (A1 : AL Z h0 a1 .null 0 0) :
    MN l Z (⟨"java/util/ArrayList", "<init>", "()V"⟩ : MethodName) jdk_38_method_2_code 1 none [] ({ frames := 3, cells := 0, slots := 0, locals := 50 } : Room) #[(.ref a1)] h0 [a1] (RU (fun h => AL Z h a1 (.ref d0) 0 0)) := by
  refine MN.mk (a0 := a0) rfl rfl (plainFor_of_name pn2) O (fun m => ef_rmALI m a1) ?_
  intro pg ev s m below meth cd T hh X
  subst hh
  refine X.aloadN (pc' := 1) d1_0 rfl rfl rfl ?_
  refine X.callU (pc' := 4) (X.sSpecial rfl (wd6 hw) (wd7 hw) (wd11 hw) (by decide) rfl pd0 [] rfl rfl d1_1) (rmABL l Z a0 hw a1 _ X.old za _ _ _ A1) (wd11 hw) (wd10 hw) (leB rfl) (leB rfl) (leB rfl) (leB rfl) (sfS safeE sf0) (allS za all0) (allS (Or.inl (List.mem_of_getElem? (i := 0) rfl)) all0) rfl ?_
  intro T h L X K A2
  obtain ⟨E_a1, F_a1_elementData, F_a1_size, F_a1_modCount⟩ := A2
  have lt_a1 := E_a1.lt
  refine X.aloadN (pc' := 5) d1_4 rfl rfl rfl ?_
  refine X.getS (pc' := 8) (wd23 hw) Via.refl SD d1_5 rfl ?_
  intro T X
  refine X.putF (pc' := 11) (wd24 hw) Via.refl F_a1_elementData E_a1 (Or.inl (wd25 hw)) (wd1 hw) (.array (.object "java/lang/Object")) (by decide) rfl rfl safeE za (Or.inl (List.mem_of_getElem? (i := 0) rfl)) d1_8 rfl ?_
  intro T h L X W
  replace F_a1_size := F_a1_size.other W (Or.inr (slot_ne (Or.inl (wd66 hw)) (Or.inl (wd25 hw)) (by decide) (t := .int) (t' := (.array (.object "java/lang/Object"))) (by decide) (by decide)))
  replace F_a1_modCount := F_a1_modCount.other W (Or.inr (slot_ne (Or.inl (wd22 hw)) (Or.inl (wd25 hw)) (by decide) (t := .int) (t' := (.array (.object "java/lang/Object"))) (by decide) (by decide)))
  replace E_a1 := E_a1.wr W
  replace lt_a1 := Nat.lt_of_lt_of_le lt_a1 (Keep.of_wr W).1
  replace F_a1_elementData := F_a1_elementData.same W
  exact X.retUN d1_11 (by decide) (by decide) ⟨rfl, ⟨E_a1, F_a1_elementData, F_a1_size, F_a1_modCount⟩⟩
set_option maxRecDepth 65536 in
set_option maxHeartbeats 40000000 in
theorem ef_rmMax10 (m : MethodId)  : entryFrame m #[(.int (10 : Int32)), (.int (1 : Int32))] 2 = mkF m 0 #[.val (.int (10 : Int32)), .val (.int (1 : Int32))] [] := by first | (simp [entryFrame, mkF, argsToLocals, Value.category]; done) | (rfl)
set_option maxRecDepth 65536 in
set_option maxHeartbeats 40000000 in
theorem rmMax10 (l : Launch) (Z : State) (a0 : Array Value) (hw : ∀ d ∈ tables_1, d.before a0 Z = true)  (h0 : Heap) (O : Ext Z.heap h0)  :
    MN l Z (⟨"java/lang/Math", "max", "(II)I"⟩ : MethodName) jdk_29_method_65_code 2 (some .int) [] ({ frames := 0, cells := 0, slots := 0, locals := 0 } : Room) #[(.int (10 : Int32)), (.int (1 : Int32))] h0 [] (RP h0 (fun w => w = .int 10)) := by
  refine MN.mk (a0 := a0) rfl rfl pf15 O (fun m => ef_rmMax10 m ) ?_
  intro pg ev s m below meth cd T hh X
  subst hh
  refine X.iloadN (pc' := 1) d15_0 rfl rfl ?_
  refine X.iloadN (pc' := 2) d15_1 rfl rfl ?_
  refine X.icN (pc' := 5) d15_2 (by decide) rfl ?_
  refine X.iloadN (pc' := 6) d15_5 rfl rfl ?_
  refine X.goto (pc' := 10) d15_6 (by decide) (by decide) ?_
  exact X.retIN (by simp) rfl d15_10 (by decide) (by decide) ⟨_, rfl, rfl, rfl⟩
set_option maxRecDepth 65536 in
set_option maxHeartbeats 40000000 in
theorem ef_rmG1 (m : MethodId) (a1 : Addr) : entryFrame m #[(.ref a1), (.int (1 : Int32))] 4 = mkF m 0 #[.val (.ref a1), .val (.int (1 : Int32)), .unset, .unset] [] := by first | (simp [entryFrame, mkF, argsToLocals, Value.category]; done) | (rfl)
set_option maxRecDepth 65536 in
set_option maxHeartbeats 40000000 in
theorem rmG1 (l : Launch) (Z : State) (a0 : Array Value) (hw : ∀ d ∈ tables_1, d.before a0 Z = true) (a1 : Addr) (h0 : Heap) (O : Ext Z.heap h0) (d0 : Addr) (SD : Sta Z Z.heap "java/util/ArrayList" "DEFAULTCAPACITY_EMPTY_ELEMENTDATA" "[Ljava/lang/Object;" (.ref d0)) (VD : Emp Z Z.heap d0) (za : Z.heap.size ≤ a1) (mc : Int32) (A1 : AL Z h0 a1 (.ref d0) 0 mc) :
    MN l Z (⟨"java/util/ArrayList", "grow", "(I)[Ljava/lang/Object;"⟩ : MethodName) jdk_38_method_6_code 4 (some (.array (.object "java/lang/Object"))) [] ({ frames := 1, cells := 1, slots := 10, locals := 20 } : Room) #[(.ref a1), (.int (1 : Int32))] h0 [a1] (RV (fun w h => ∃ d, w = .ref d ∧ h0.size ≤ d ∧ AL Z h a1 (.ref d) 0 mc ∧ OA Z h d 10 [(.null), (.null), (.null), (.null), (.null), (.null), (.null), (.null), (.null), (.null)])) := by
  refine MN.mk (a0 := a0) rfl rfl (plainFor_of_name pn2) O (fun m => ef_rmG1 m a1) ?_
  intro pg ev s m below meth cd T hh X
  subst hh
  obtain ⟨E_a1, F_a1_elementData, F_a1_size, F_a1_modCount⟩ := A1
  have lt_a1 := E_a1.lt
  refine X.aloadN (pc' := 1) d14_0 rfl rfl rfl ?_
  refine X.getF (pc' := 4) (wd24 hw) Via.refl F_a1_elementData d14_1 rfl ?_
  intro T X
  refine X.alen0 (pc' := 5) (VD.ext X.old) d14_4 rfl ?_
  refine X.istoreN (pc' := 6) #[.val (.ref a1), .val (.int (1 : Int32)), .val (.int (0 : Int32)), .unset] d14_5 rfl rfl ?_
  refine X.iloadN (pc' := 7) d14_6 rfl rfl ?_
  refine X.ifN (pc' := 10) d14_7 (by decide) rfl ?_
  refine X.aloadN (pc' := 11) d14_10 rfl rfl rfl ?_
  refine X.getF (pc' := 14) (wd24 hw) Via.refl F_a1_elementData d14_11 rfl ?_
  intro T X
  refine X.getS (pc' := 17) (wd23 hw) Via.refl SD d14_14 rfl ?_
  intro T X
  refine X.acmp (pc' := 45) d14_17 rfl rfl true (by simp) (by decide) (by decide) ?_
  refine X.aloadN (pc' := 46) d14_45 rfl rfl rfl ?_
  refine X.bipush (pc' := 48) (10 : Int32) d14_46 rfl rfl ?_
  refine X.iloadN (pc' := 49) d14_48 rfl rfl ?_
  refine X.callP (pc' := 52) (X.sStatic (wd82 hw) (wd83 hw) (wd84 hw) (wd85 hw) (by decide) rfl pd1 [(.int (10 : Int32)), (.int (1 : Int32))] rfl rfl d14_49) (rmMax10 l Z a0 hw _ X.old) (wd85 hw) (wd84 hw) (leB rfl) (leB rfl) (leB rfl) (leB rfl) rfl ?_
  intro T L v X q
  subst q
  refine X.newR (pc' := 55) (ad := "[Ljava/lang/Object;") (wd86 hw) (wd87 hw) (by decide) d14_52 (by decide) 10 (by decide) (by decide) (by decide) (by decide) rfl ?_
  intro T h d ka_d g_d Ex lt_d V_d Ea_d Ov_d X1
  have z_d : Z.heap.size ≤ d := by rw [g_d]; exact X.old.1
  have s_d : s.heap.size ≤ d := by rw [g_d]; exact X.kp.1
  have ne_a1_d : a1 ≠ d := Nat.ne_of_lt (by rw [g_d]; exact lt_a1)
  replace F_a1_elementData := F_a1_elementData.ext Ex
  replace F_a1_size := F_a1_size.ext Ex
  replace F_a1_modCount := F_a1_modCount.ext Ex
  replace E_a1 := E_a1.ext Ex
  replace lt_a1 := Nat.lt_of_lt_of_le lt_a1 Ex.1
  replace X := X1
  have V_d : OA Z h d (10 : Int32) [(.null), (.null), (.null), (.null), (.null), (.null), (.null), (.null), (.null), (.null)] := ⟨ka_d, (Arv.pad V_d (pad_rep [] .null 10)), Ov_d, Ea_d⟩
  refine X.dupX1 (pc' := 56) d14_55 rfl rfl rfl ?_
  refine X.putF (pc' := 59) (wd24 hw) Via.refl F_a1_elementData E_a1 (Or.inl (wd25 hw)) (wd1 hw) (.array (.object "java/lang/Object")) (by decide) rfl rfl safeE za (Or.inl (List.mem_of_getElem? (i := 0) rfl)) d14_56 rfl ?_
  intro T h L X W
  replace F_a1_size := F_a1_size.other W (Or.inr (slot_ne (Or.inl (wd66 hw)) (Or.inl (wd25 hw)) (by decide) (t := .int) (t' := (.array (.object "java/lang/Object"))) (by decide) (by decide)))
  replace F_a1_modCount := F_a1_modCount.other W (Or.inr (slot_ne (Or.inl (wd22 hw)) (Or.inl (wd25 hw)) (by decide) (t := .int) (t' := (.array (.object "java/lang/Object"))) (by decide) (by decide)))
  replace E_a1 := E_a1.wr W
  replace lt_a1 := Nat.lt_of_lt_of_le lt_a1 (Keep.of_wr W).1
  replace V_d := V_d.other W (Ne.symm ne_a1_d)
  replace lt_d := Nat.lt_of_lt_of_le lt_d (Keep.of_wr W).1
  replace F_a1_elementData := F_a1_elementData.same W
  exact X.retAN rfl rfl d14_59 (by decide) (by decide) ⟨_, rfl, d, rfl, s_d, ⟨E_a1, F_a1_elementData, F_a1_size, F_a1_modCount⟩, V_d⟩
set_option maxRecDepth 65536 in
set_option maxHeartbeats 40000000 in
theorem ef_rmG0 (m : MethodId) (a1 : Addr) : entryFrame m #[(.ref a1)] 1 = mkF m 0 #[.val (.ref a1)] [] := by first | (simp [entryFrame, mkF, argsToLocals, Value.category]; done) | (rfl)
set_option maxRecDepth 65536 in
set_option maxHeartbeats 40000000 in
theorem rmG0 (l : Launch) (Z : State) (a0 : Array Value) (hw : ∀ d ∈ tables_1, d.before a0 Z = true) (a1 : Addr) (h0 : Heap) (O : Ext Z.heap h0) (d0 : Addr) (SD : Sta Z Z.heap "java/util/ArrayList" "DEFAULTCAPACITY_EMPTY_ELEMENTDATA" "[Ljava/lang/Object;" (.ref d0)) (VD : Emp Z Z.heap d0) (za : Z.heap.size ≤ a1) (mc : Int32) (A1 : AL Z h0 a1 (.ref d0) 0 mc) :
    MN l Z (⟨"java/util/ArrayList", "grow", "()[Ljava/lang/Object;"⟩ : MethodName) jdk_38_method_7_code 1 (some (.array (.object "java/lang/Object"))) [] ({ frames := 2, cells := 1, slots := 10, locals := 40 } : Room) #[(.ref a1)] h0 [a1] (RV (fun w h => ∃ d, w = .ref d ∧ h0.size ≤ d ∧ AL Z h a1 (.ref d) 0 mc ∧ OA Z h d 10 [(.null), (.null), (.null), (.null), (.null), (.null), (.null), (.null), (.null), (.null)])) := by
  refine MN.mk (a0 := a0) rfl rfl (plainFor_of_name pn2) O (fun m => ef_rmG0 m a1) ?_
  intro pg ev s m below meth cd T hh X
  subst hh
  refine X.aloadN (pc' := 1) d13_0 rfl rfl rfl ?_
  refine X.aloadN (pc' := 2) d13_1 rfl rfl rfl ?_
  refine X.getF (pc' := 5) (wd65 hw) Via.refl A1.2.2.1 d13_2 rfl ?_
  intro T X
  refine X.iconst (pc' := 6) (1 : Int32) d13_5 rfl rfl ?_
  refine X.iadd (pc' := 7) d13_6 rfl ?_
  rw [show (((0 : Int32) + (1 : Int32)) : Int32) = (1 : Int32) from by decide]
  refine X.callV (pc' := 10) (X.sPrivate (wd77 hw) (wd78 hw) (wd80 hw) (wd79 hw) (wd81 hw) (by decide) rfl pd2 A1.1 [(.int (1 : Int32))] rfl rfl d13_7) (rmG1 l Z a0 hw a1 _ X.old d0 SD VD za mc A1) (wd81 hw) (wd2 hw) (leB rfl) (leB rfl) (leB rfl) (leB rfl) (sfS safeE sf0) (allS za all0) (allS (Or.inl (List.mem_of_getElem? (i := 0) rfl)) all0) rfl ?_
  intro T h L v X K q
  obtain ⟨d, rfl, le_d, A2, V_d⟩ := q
  exact X.retAN rfl rfl d13_10 (by decide) (by decide) ⟨_, rfl, d, rfl, le_d, A2, V_d⟩
set_option maxRecDepth 65536 in
set_option maxHeartbeats 40000000 in
theorem ef_rmA3F (m : MethodId) (a1 : Addr) (e : Addr) (d0 : Addr) : entryFrame m #[(.ref a1), (.ref e), (.ref d0), (.int (0 : Int32))] 4 = mkF m 0 #[.val (.ref a1), .val (.ref e), .val (.ref d0), .val (.int (0 : Int32))] [] := by first | (simp [entryFrame, mkF, argsToLocals, Value.category]; done) | (rfl)
set_option maxRecDepth 65536 in
set_option maxHeartbeats 40000000 in
theorem rmA3F (l : Launch) (Z : State) (a0 : Array Value) (hw : ∀ d ∈ tables_1, d.before a0 Z = true) (a1 : Addr) (e : Addr) (d0 : Addr) (h0 : Heap) (O : Ext Z.heap h0) (d0 : Addr) (SD : Sta Z Z.heap "java/util/ArrayList" "DEFAULTCAPACITY_EMPTY_ELEMENTDATA" "[Ljava/lang/Object;" (.ref d0)) (VD : Emp Z Z.heap d0) (za : Z.heap.size ≤ a1) (mc : Int32) (A1 : AL Z h0 a1 (.ref d0) 0 mc) (Ce : String) (wce : (Cond.castable Ce "java/lang/Object").before a0 Z = true) (E_e : Exa Z h0 e Ce) :
    MN l Z (⟨"java/util/ArrayList", "add", "(Ljava/lang/Object;[Ljava/lang/Object;I)V"⟩ : MethodName) jdk_38_method_24_code 4 none [] ({ frames := 3, cells := 1, slots := 10, locals := 60 } : Room) #[(.ref a1), (.ref e), (.ref d0), (.int (0 : Int32))] h0 [a1] (RU (fun h => ∃ d, h0.size ≤ d ∧ AL Z h a1 (.ref d) 1 mc ∧ OA Z h d 10 [(.ref e), (.null), (.null), (.null), (.null), (.null), (.null), (.null), (.null), (.null)])) := by
  refine MN.mk (a0 := a0) rfl rfl (plainFor_of_name pn2) O (fun m => ef_rmA3F m a1 e d0) ?_
  intro pg ev s m below meth cd T hh X
  subst hh
  have lt_a1 := A1.lt
  refine X.iloadN (pc' := 1) d12_0 rfl rfl ?_
  refine X.aloadN (pc' := 2) d12_1 rfl rfl rfl ?_
  refine X.alen0 (pc' := 3) (VD.ext X.old) d12_2 rfl ?_
  refine X.icN (pc' := 6) d12_3 (by decide) rfl ?_
  refine X.aloadN (pc' := 7) d12_6 rfl rfl rfl ?_
  refine X.callV (pc' := 10) (X.sPrivate (wd72 hw) (wd73 hw) (wd75 hw) (wd74 hw) (wd76 hw) (by decide) rfl pd3 A1.1 [] rfl rfl d12_7) (rmG0 l Z a0 hw a1 _ X.old d0 SD VD za mc A1) (wd76 hw) (wd2 hw) (leB rfl) (leB rfl) (leB rfl) (leB rfl) (sfS safeE sf0) (allS za all0) (allS (Or.inl (List.mem_of_getElem? (i := 0) rfl)) all0) rfl ?_
  intro T h L v X K q
  obtain ⟨d, rfl, le_d, A2, V_d⟩ := q
  have ne_a1_d : a1 ≠ d := Nat.ne_of_lt (Nat.lt_of_lt_of_le lt_a1 le_d)
  have z_d := Nat.le_trans O.1 le_d
  replace lt_a1 := Nat.lt_of_lt_of_le lt_a1 K.1
  replace E_e := E_e.keep K
  clear lt_a1
  obtain ⟨E_a1, F_a1_elementData, F_a1_size, F_a1_modCount⟩ := A2
  have lt_a1 := E_a1.lt
  refine X.astoreN (pc' := 11) #[.val (.ref a1), .val (.ref e), .val (.ref d), .val (.int (0 : Int32))] d12_10 rfl rfl rfl ?_
  refine X.aloadN (pc' := 12) d12_11 rfl rfl rfl ?_
  refine X.iloadN (pc' := 13) d12_12 rfl rfl ?_
  refine X.aloadN (pc' := 14) d12_13 rfl rfl rfl ?_
  obtain ⟨kd, Vd, Od, Ed⟩ := V_d
  refine X.aastore (pc' := 15) Vd Od (Ins.of_exa E_e wce) ⟨by decide, by decide⟩ 0 rfl (leB rfl) z_d (Or.inr le_d) d12_14 rfl ?_
  intro T h L X W V1
  replace E_e := E_e.wr W
  replace F_a1_elementData := F_a1_elementData.other W (Or.inl ne_a1_d)
  replace F_a1_size := F_a1_size.other W (Or.inl ne_a1_d)
  replace F_a1_modCount := F_a1_modCount.other W (Or.inl ne_a1_d)
  replace E_a1 := E_a1.wr W
  replace lt_a1 := Nat.lt_of_lt_of_le lt_a1 (Keep.of_wr W).1
  replace Ed := Ed.wr W
  have V_d : OA Z h d (10 : Int32) [(.ref e), (.null), (.null), (.null), (.null), (.null), (.null), (.null), (.null), (.null)] := ⟨kd, V1, Od, Ed⟩
  refine X.aloadN (pc' := 16) d12_15 rfl rfl rfl ?_
  refine X.iloadN (pc' := 17) d12_16 rfl rfl ?_
  refine X.iconst (pc' := 18) (1 : Int32) d12_17 rfl rfl ?_
  refine X.iadd (pc' := 19) d12_18 rfl ?_
  rw [show (((0 : Int32) + (1 : Int32)) : Int32) = (1 : Int32) from by decide]
  refine X.putF (pc' := 22) (wd65 hw) Via.refl F_a1_size E_a1 (Or.inl (wd66 hw)) (wd1 hw) .int (by decide) rfl rfl safeE za (Or.inl (List.mem_of_getElem? (i := 0) rfl)) d12_19 rfl ?_
  intro T h L X W
  replace E_e := E_e.wr W
  replace F_a1_elementData := F_a1_elementData.other W (Or.inr (slot_ne (Or.inl (wd25 hw)) (Or.inl (wd66 hw)) (by decide) (t := (.array (.object "java/lang/Object"))) (t' := .int) (by decide) (by decide)))
  replace F_a1_modCount := F_a1_modCount.other W (Or.inr (slot_ne (Or.inl (wd22 hw)) (Or.inl (wd66 hw)) (by decide) (t := .int) (t' := .int) (by decide) (by decide)))
  replace E_a1 := E_a1.wr W
  replace lt_a1 := Nat.lt_of_lt_of_le lt_a1 (Keep.of_wr W).1
  replace V_d := V_d.other W (Ne.symm ne_a1_d)
  replace F_a1_size := F_a1_size.same W
  exact X.retUN d12_22 (by decide) (by decide) ⟨rfl, d, le_d, ⟨E_a1, F_a1_elementData, F_a1_size, F_a1_modCount⟩, V_d⟩
set_option maxRecDepth 65536 in
set_option maxHeartbeats 40000000 in
theorem ef_rmA3N (m : MethodId) (a1 : Addr) (e : Addr) (d : Addr) (n : Int32) : entryFrame m #[(.ref a1), (.ref e), (.ref d), (.int n)] 4 = mkF m 0 #[.val (.ref a1), .val (.ref e), .val (.ref d), .val (.int n)] [] := by first | (simp [entryFrame, mkF, argsToLocals, Value.category]; done) | (rfl)
set_option maxRecDepth 65536 in
set_option maxHeartbeats 40000000 in
theorem rmA3N (l : Launch) (Z : State) (a0 : Array Value) (hw : ∀ d ∈ tables_1, d.before a0 Z = true) (a1 : Addr) (e : Addr) (d : Addr) (n : Int32) (h0 : Heap) (O : Ext Z.heap h0) (za : Z.heap.size ≤ a1) (zd : Z.heap.size ≤ d) (ne1 : a1 ≠ d) (mc : Int32) (A1 : AL Z h0 a1 (.ref d) n mc) (vs : List Value) (hvs : vs.length = 10) (V_d : OA Z h0 d 10 vs) (i : Nat) (hi : n.toNatClampNeg = i) (hi10 : i < 10) (hj : ¬ n < 0 ∧ n < 10) (hn10 : ¬ n = 10) (Ce : String) (wce : (Cond.castable Ce "java/lang/Object").before a0 Z = true) (E_e : Exa Z h0 e Ce) :
    MN l Z (⟨"java/util/ArrayList", "add", "(Ljava/lang/Object;[Ljava/lang/Object;I)V"⟩ : MethodName) jdk_38_method_24_code 4 none [] ({ frames := 0, cells := 0, slots := 0, locals := 0 } : Room) #[(.ref a1), (.ref e), (.ref d), (.int n)] h0 [a1, d] (RU (fun h => AL Z h a1 (.ref d) (n + 1) mc ∧ OA Z h d 10 (vs.set i (.ref e)))) := by
  refine MN.mk (a0 := a0) rfl rfl (plainFor_of_name pn2) O (fun m => ef_rmA3N m a1 e d n) ?_
  intro pg ev s m below meth cd T hh X
  subst hh
  obtain ⟨E_a1, F_a1_elementData, F_a1_size, F_a1_modCount⟩ := A1
  have lt_a1 := E_a1.lt
  obtain ⟨kd, Vd, Od, Ed⟩ := V_d
  refine X.iloadN (pc' := 1) d12_0 rfl rfl ?_
  refine X.aloadN (pc' := 2) d12_1 rfl rfl rfl ?_
  refine X.alen (pc' := 3) Vd d12_2 rfl ?_
  refine X.icY (pc' := 11) d12_3 ((feq hn10).2) (by decide) (by decide) ?_
  refine X.aloadN (pc' := 12) d12_11 rfl rfl rfl ?_
  refine X.iloadN (pc' := 13) d12_12 rfl rfl ?_
  refine X.aloadN (pc' := 14) d12_13 rfl rfl rfl ?_
  refine X.aastore (pc' := 15) Vd Od (Ins.of_exa E_e wce) hj i hi (by rw [hvs]; exact hi10) zd (Or.inl (List.mem_of_getElem? (i := 1) rfl)) d12_14 rfl ?_
  intro T h L X W V1
  replace F_a1_elementData := F_a1_elementData.other W (Or.inl ne1)
  replace F_a1_size := F_a1_size.other W (Or.inl ne1)
  replace F_a1_modCount := F_a1_modCount.other W (Or.inl ne1)
  replace E_a1 := E_a1.wr W
  replace lt_a1 := Nat.lt_of_lt_of_le lt_a1 (Keep.of_wr W).1
  replace E_e := E_e.wr W
  replace Ed := Ed.wr W
  refine X.aloadN (pc' := 16) d12_15 rfl rfl rfl ?_
  refine X.iloadN (pc' := 17) d12_16 rfl rfl ?_
  refine X.iconst (pc' := 18) (1 : Int32) d12_17 rfl rfl ?_
  refine X.iadd (pc' := 19) d12_18 rfl ?_
  refine X.putF (pc' := 22) (wd65 hw) Via.refl F_a1_size E_a1 (Or.inl (wd66 hw)) (wd1 hw) .int (by decide) rfl rfl safeE za (Or.inl (List.mem_of_getElem? (i := 0) rfl)) d12_19 rfl ?_
  intro T h L X W
  replace F_a1_elementData := F_a1_elementData.other W (Or.inr (slot_ne (Or.inl (wd25 hw)) (Or.inl (wd66 hw)) (by decide) (t := (.array (.object "java/lang/Object"))) (t' := .int) (by decide) (by decide)))
  replace F_a1_modCount := F_a1_modCount.other W (Or.inr (slot_ne (Or.inl (wd22 hw)) (Or.inl (wd66 hw)) (by decide) (t := .int) (t' := .int) (by decide) (by decide)))
  replace E_a1 := E_a1.wr W
  replace lt_a1 := Nat.lt_of_lt_of_le lt_a1 (Keep.of_wr W).1
  replace E_e := E_e.wr W
  replace Ed := Ed.wr W
  replace F_a1_size := F_a1_size.same W
  replace V1 := V1.other W (Ne.symm ne1)
  exact X.retUN d12_22 (by decide) (by decide) ⟨rfl, ⟨E_a1, F_a1_elementData, F_a1_size, F_a1_modCount⟩, kd, V1, Od, Ed⟩
set_option maxRecDepth 65536 in
set_option maxHeartbeats 40000000 in
theorem ef_rmAddF (m : MethodId) (a1 : Addr) (e : Addr) : entryFrame m #[(.ref a1), (.ref e)] 2 = mkF m 0 #[.val (.ref a1), .val (.ref e)] [] := by first | (simp [entryFrame, mkF, argsToLocals, Value.category]; done) | (rfl)
set_option maxRecDepth 65536 in
set_option maxHeartbeats 40000000 in
theorem rmAddF (l : Launch) (Z : State) (a0 : Array Value) (hw : ∀ d ∈ tables_1, d.before a0 Z = true) (a1 : Addr) (e : Addr) (h0 : Heap) (O : Ext Z.heap h0) (d0 : Addr) (SD : Sta Z Z.heap "java/util/ArrayList" "DEFAULTCAPACITY_EMPTY_ELEMENTDATA" "[Ljava/lang/Object;" (.ref d0)) (VD : Emp Z Z.heap d0) (za : Z.heap.size ≤ a1) (mc : Int32) (A1 : AL Z h0 a1 (.ref d0) 0 mc) (Ce : String) (wce : (Cond.castable Ce "java/lang/Object").before a0 Z = true) (E_e : Exa Z h0 e Ce) :
    MN l Z (⟨"java/util/ArrayList", "add", "(Ljava/lang/Object;)Z"⟩ : MethodName) jdk_38_method_25_code 2 (some .boolean) [] ({ frames := 4, cells := 1, slots := 10, locals := 80 } : Room) #[(.ref a1), (.ref e)] h0 [a1] (RV (fun w h => w = .int 1 ∧ ∃ d, h0.size ≤ d ∧ AL Z h a1 (.ref d) 1 (mc + 1) ∧ OA Z h d 10 [(.ref e), (.null), (.null), (.null), (.null), (.null), (.null), (.null), (.null), (.null)])) := by
  refine MN.mk (a0 := a0) rfl rfl (plainFor_of_name pn2) O (fun m => ef_rmAddF m a1 e) ?_
  intro pg ev s m below meth cd T hh X
  subst hh
  obtain ⟨E_a1, F_a1_elementData, F_a1_size, F_a1_modCount⟩ := A1
  have lt_a1 := E_a1.lt
  refine X.aloadN (pc' := 1) d11_0 rfl rfl rfl ?_
  refine X.dup (pc' := 2) d11_1 rfl rfl ?_
  refine X.getF (pc' := 5) (wd63 hw) (Via.of (wd64 hw)) F_a1_modCount d11_2 rfl ?_
  intro T X
  refine X.iconst (pc' := 6) (1 : Int32) d11_5 rfl rfl ?_
  refine X.iadd (pc' := 7) d11_6 rfl ?_
  refine X.putF (pc' := 10) (wd63 hw) (Via.of (wd64 hw)) F_a1_modCount E_a1 (Or.inl (wd22 hw)) (wd1 hw) .int (by decide) rfl rfl safeE za (Or.inl (List.mem_of_getElem? (i := 0) rfl)) d11_7 rfl ?_
  intro T h L X W
  have W0 := W.size
  replace F_a1_elementData := F_a1_elementData.other W (Or.inr (slot_ne (Or.inl (wd25 hw)) (Or.inl (wd22 hw)) (by decide) (t := (.array (.object "java/lang/Object"))) (t' := .int) (by decide) (by decide)))
  replace F_a1_size := F_a1_size.other W (Or.inr (slot_ne (Or.inl (wd66 hw)) (Or.inl (wd22 hw)) (by decide) (t := .int) (t' := .int) (by decide) (by decide)))
  replace E_a1 := E_a1.wr W
  replace lt_a1 := Nat.lt_of_lt_of_le lt_a1 (Keep.of_wr W).1
  replace E_e := E_e.wr W
  replace F_a1_modCount := F_a1_modCount.same W
  refine X.aloadN (pc' := 11) d11_10 rfl rfl rfl ?_
  refine X.aloadN (pc' := 12) d11_11 rfl rfl rfl ?_
  refine X.aloadN (pc' := 13) d11_12 rfl rfl rfl ?_
  refine X.getF (pc' := 16) (wd24 hw) Via.refl F_a1_elementData d11_13 rfl ?_
  intro T X
  refine X.aloadN (pc' := 17) d11_16 rfl rfl rfl ?_
  refine X.getF (pc' := 20) (wd65 hw) Via.refl F_a1_size d11_17 rfl ?_
  intro T X
  refine X.callU (pc' := 23) (X.sPrivate (wd67 hw) (wd68 hw) (wd70 hw) (wd69 hw) (wd71 hw) (by decide) rfl pd4 E_a1 [(.ref e), (.ref d0), (.int (0 : Int32))] rfl rfl d11_20) (rmA3F l Z a0 hw a1 e d0 _ X.old d0 SD VD za _ ⟨E_a1, F_a1_elementData, F_a1_size, F_a1_modCount⟩ Ce wce E_e) (wd71 hw) (wd2 hw) (leB rfl) (leB rfl) (leB rfl) (leB rfl) (sfS safeE sf0) (allS za all0) (allS (Or.inl (List.mem_of_getElem? (i := 0) rfl)) all0) rfl ?_
  intro T h L X K q
  refine X.iconst (pc' := 24) (1 : Int32) d11_23 rfl rfl ?_
  obtain ⟨d, le_d, A2, V_d⟩ := q
  exact X.retIN (by simp) rfl d11_24 (by decide) (by decide) ⟨_, rfl, rfl, d, Nat.le_trans (Nat.le_of_eq W0.symm) le_d, A2, V_d⟩
set_option maxRecDepth 65536 in
set_option maxHeartbeats 40000000 in
theorem ef_rmAddN (m : MethodId) (a1 : Addr) (e : Addr) : entryFrame m #[(.ref a1), (.ref e)] 2 = mkF m 0 #[.val (.ref a1), .val (.ref e)] [] := by first | (simp [entryFrame, mkF, argsToLocals, Value.category]; done) | (rfl)
set_option maxRecDepth 65536 in
set_option maxHeartbeats 40000000 in
theorem rmAddN (l : Launch) (Z : State) (a0 : Array Value) (hw : ∀ d ∈ tables_1, d.before a0 Z = true) (a1 : Addr) (e : Addr) (h0 : Heap) (O : Ext Z.heap h0) (d : Addr) (n : Int32) (za : Z.heap.size ≤ a1) (zd : Z.heap.size ≤ d) (ne1 : a1 ≠ d) (mc : Int32) (A1 : AL Z h0 a1 (.ref d) n mc) (vs : List Value) (hvs : vs.length = 10) (V_d : OA Z h0 d 10 vs) (i : Nat) (hi : n.toNatClampNeg = i) (hi10 : i < 10) (hj : ¬ n < 0 ∧ n < 10) (hn10 : ¬ n = 10) (Ce : String) (wce : (Cond.castable Ce "java/lang/Object").before a0 Z = true) (E_e : Exa Z h0 e Ce) :
    MN l Z (⟨"java/util/ArrayList", "add", "(Ljava/lang/Object;)Z"⟩ : MethodName) jdk_38_method_25_code 2 (some .boolean) [] ({ frames := 1, cells := 0, slots := 0, locals := 30 } : Room) #[(.ref a1), (.ref e)] h0 [a1, d] (RV (fun w h => w = .int 1 ∧ AL Z h a1 (.ref d) (n + 1) (mc + 1) ∧ OA Z h d 10 (vs.set i (.ref e)))) := by
  refine MN.mk (a0 := a0) rfl rfl (plainFor_of_name pn2) O (fun m => ef_rmAddN m a1 e) ?_
  intro pg ev s m below meth cd T hh X
  subst hh
  obtain ⟨E_a1, F_a1_elementData, F_a1_size, F_a1_modCount⟩ := A1
  have lt_a1 := E_a1.lt
  refine X.aloadN (pc' := 1) d11_0 rfl rfl rfl ?_
  refine X.dup (pc' := 2) d11_1 rfl rfl ?_
  refine X.getF (pc' := 5) (wd63 hw) (Via.of (wd64 hw)) F_a1_modCount d11_2 rfl ?_
  intro T X
  refine X.iconst (pc' := 6) (1 : Int32) d11_5 rfl rfl ?_
  refine X.iadd (pc' := 7) d11_6 rfl ?_
  refine X.putF (pc' := 10) (wd63 hw) (Via.of (wd64 hw)) F_a1_modCount E_a1 (Or.inl (wd22 hw)) (wd1 hw) .int (by decide) rfl rfl safeE za (Or.inl (List.mem_of_getElem? (i := 0) rfl)) d11_7 rfl ?_
  intro T h L X W
  replace V_d := V_d.other W (Ne.symm ne1)
  replace F_a1_elementData := F_a1_elementData.other W (Or.inr (slot_ne (Or.inl (wd25 hw)) (Or.inl (wd22 hw)) (by decide) (t := (.array (.object "java/lang/Object"))) (t' := .int) (by decide) (by decide)))
  replace F_a1_size := F_a1_size.other W (Or.inr (slot_ne (Or.inl (wd66 hw)) (Or.inl (wd22 hw)) (by decide) (t := .int) (t' := .int) (by decide) (by decide)))
  replace E_a1 := E_a1.wr W
  replace lt_a1 := Nat.lt_of_lt_of_le lt_a1 (Keep.of_wr W).1
  replace E_e := E_e.wr W
  replace F_a1_modCount := F_a1_modCount.same W
  refine X.aloadN (pc' := 11) d11_10 rfl rfl rfl ?_
  refine X.aloadN (pc' := 12) d11_11 rfl rfl rfl ?_
  refine X.aloadN (pc' := 13) d11_12 rfl rfl rfl ?_
  refine X.getF (pc' := 16) (wd24 hw) Via.refl F_a1_elementData d11_13 rfl ?_
  intro T X
  refine X.aloadN (pc' := 17) d11_16 rfl rfl rfl ?_
  refine X.getF (pc' := 20) (wd65 hw) Via.refl F_a1_size d11_17 rfl ?_
  intro T X
  refine X.callU (pc' := 23) (X.sPrivate (wd67 hw) (wd68 hw) (wd70 hw) (wd69 hw) (wd71 hw) (by decide) rfl pd4 E_a1 [(.ref e), (.ref d), (.int n)] rfl rfl d11_20) (rmA3N l Z a0 hw a1 e d n _ X.old za zd ne1 _ ⟨E_a1, F_a1_elementData, F_a1_size, F_a1_modCount⟩ vs hvs V_d i hi hi10 hj hn10 Ce wce E_e) (wd71 hw) (wd2 hw) (leB rfl) (leB rfl) (leB rfl) (leB rfl) (sfS safeE (sfS safeE sf0)) (allS za (allS zd all0)) (allS (Or.inl (List.mem_of_getElem? (i := 0) rfl)) (allS (Or.inl (List.mem_of_getElem? (i := 1) rfl)) all0)) rfl ?_
  intro T h L X K q
  refine X.iconst (pc' := 24) (1 : Int32) d11_23 rfl rfl ?_
  exact X.retIN (by simp) rfl d11_24 (by decide) (by decide) ⟨_, rfl, rfl, q⟩
set_option maxRecDepth 65536 in
set_option maxHeartbeats 40000000 in
theorem ef_rmIsEN (m : MethodId) (a1 : Addr) : entryFrame m #[(.ref a1)] 1 = mkF m 0 #[.val (.ref a1)] [] := by first | (simp [entryFrame, mkF, argsToLocals, Value.category]; done) | (rfl)
set_option maxRecDepth 65536 in
set_option maxHeartbeats 40000000 in
theorem rmIsEN (l : Launch) (Z : State) (a0 : Array Value) (hw : ∀ d ∈ tables_1, d.before a0 Z = true) (a1 : Addr) (h0 : Heap) (O : Ext Z.heap h0) (n : Int32) (hn : ¬ n = 0) (ed : Value) (mc : Int32) (A1 : AL Z h0 a1 ed n mc) :
    MN l Z (⟨"java/util/ArrayList", "isEmpty", "()Z"⟩ : MethodName) jdk_38_method_9_code 1 (some .boolean) [] ({ frames := 0, cells := 0, slots := 0, locals := 0 } : Room) #[(.ref a1)] h0 [] (RP h0 (fun w => w = .int 0)) := by
  refine MN.mk (a0 := a0) rfl rfl (plainFor_of_name pn2) O (fun m => ef_rmIsEN m a1) ?_
  intro pg ev s m below meth cd T hh X
  subst hh
  refine X.aloadN (pc' := 1) d19_0 rfl rfl rfl ?_
  refine X.getF (pc' := 4) (wd65 hw) Via.refl A1.2.2.1 d19_1 rfl ?_
  intro T X
  refine X.ifY (pc' := 11) d19_4 ((if0 _ _).trans (feq hn).2) (by decide) (by decide) ?_
  refine X.iconst (pc' := 12) (0 : Int32) d19_11 rfl rfl ?_
  exact X.retIN (by simp) rfl d19_12 (by decide) (by decide) ⟨_, rfl, rfl, rfl⟩
set_option maxRecDepth 65536 in
set_option maxHeartbeats 40000000 in
theorem ef_rmMin1 (m : MethodId)  : entryFrame m #[(.int (10 : Int32)), (.int (1 : Int32))] 2 = mkF m 0 #[.val (.int (10 : Int32)), .val (.int (1 : Int32))] [] := by first | (simp [entryFrame, mkF, argsToLocals, Value.category]; done) | (rfl)
set_option maxRecDepth 65536 in
set_option maxHeartbeats 40000000 in
theorem rmMin1 (l : Launch) (Z : State) (a0 : Array Value) (hw : ∀ d ∈ tables_1, d.before a0 Z = true)  (h0 : Heap) (O : Ext Z.heap h0)  :
    MN l Z (⟨"java/lang/Math", "min", "(II)I"⟩ : MethodName) jdk_29_method_69_code 2 (some .int) [] ({ frames := 0, cells := 0, slots := 0, locals := 0 } : Room) #[(.int (10 : Int32)), (.int (1 : Int32))] h0 [] (RP h0 (fun w => w = .int (1 : Int32))) := by
  refine MN.mk (a0 := a0) rfl rfl pf23 O (fun m => ef_rmMin1 m ) ?_
  intro pg ev s m below meth cd T hh X
  subst hh
  refine X.iloadN (pc' := 1) d23_0 rfl rfl ?_
  refine X.iloadN (pc' := 2) d23_1 rfl rfl ?_
  refine X.icY (pc' := 9) d23_2 (by decide) (by decide) (by decide) ?_
  refine X.iloadN (pc' := 10) d23_9 rfl rfl ?_
  exact X.retIN (by simp) rfl d23_10 (by decide) (by decide) ⟨_, rfl, rfl, rfl⟩
set_option maxRecDepth 65536 in
set_option maxHeartbeats 40000000 in
theorem ef_rmCo3_1 (m : MethodId) (d : Addr) (mo : Addr) : entryFrame m #[(.ref d), (.int (1 : Int32)), (.ref mo)] 4 = mkF m 0 #[.val (.ref d), .val (.int (1 : Int32)), .val (.ref mo), .unset] [] := by first | (simp [entryFrame, mkF, argsToLocals, Value.category]; done) | (rfl)
set_option maxRecDepth 65536 in
set_option maxHeartbeats 40000000 in
theorem rmCo3_1 (l : Launch) (Z : State) (a0 : Array Value) (hw : ∀ d ∈ tables_1, d.before a0 Z = true) (d : Addr) (mo : Addr) (h0 : Heap) (O : Ext Z.heap h0) (M_o : Mrr Z "[Ljava/lang/Object;" mo) (e0 : Addr) (C0 : String) (wc0 : (Cond.castable C0 "java/lang/Object").before a0 Z = true) (E_e0 : Exa Z h0 e0 C0) (V_d : OA Z h0 d 10 [(.ref e0), (.null), (.null), (.null), (.null), (.null), (.null), (.null), (.null), (.null)]) :
    MN l Z (⟨"java/util/Arrays", "copyOf", "([Ljava/lang/Object;ILjava/lang/Class;)[Ljava/lang/Object;"⟩ : MethodName) jdk_65_method_120_code 4 (some (.array (.object "java/lang/Object"))) [] ({ frames := 1, cells := 1, slots := 1, locals := 40 } : Room) #[(.ref d), (.int (1 : Int32)), (.ref mo)] h0 [] (RV (fun w h => ∃ r, w = .ref r ∧ h0.size ≤ r ∧ OA Z h r (1 : Int32) [(.ref e0)])) := by
  refine MN.mk (a0 := a0) rfl rfl (plainFor_of_name pn5) O (fun m => ef_rmCo3_1 m d mo) ?_
  intro pg ev s m below meth cd T hh X
  subst hh
  have lt_d := V_d.lt
  refine X.aloadN (pc' := 1) d22_0 rfl rfl rfl ?_
  refine X.ldcM (pc' := 3) (wd143 hw) M_o d22_1 rfl ?_
  intro T X
  refine X.acmp (pc' := 6) d22_3 rfl rfl true (by simp) (by decide) (by decide) ?_
  refine X.iloadN (pc' := 7) d22_6 rfl rfl ?_
  refine X.newR (pc' := 10) (ad := "[Ljava/lang/Object;") (wd144 hw) (wd87 hw) (by decide) d22_7 (by decide) 1 (by decide) (by decide) (by decide) (by decide) rfl ?_
  intro T h r ka_r g_r Ex lt_r V_r Ea_r Ov_r X1
  have z_r : Z.heap.size ≤ r := by rw [g_r]; exact X.old.1
  have s_r : s.heap.size ≤ r := by rw [g_r]; exact X.kp.1
  have ne_d_r : d ≠ r := Nat.ne_of_lt (by rw [g_r]; exact lt_d)
  replace V_d := V_d.ext Ex
  replace lt_d := Nat.lt_of_lt_of_le lt_d Ex.1
  replace E_e0 := E_e0.ext Ex
  replace X := X1
  have V_r : OA Z h r (1 : Int32) [(.null)] := ⟨ka_r, (Arv.pad V_r (pad_rep [] .null 1)), Ov_r, Ea_r⟩
  refine X.goto (pc' := 24) d22_10 (by decide) (by decide) ?_
  refine X.astoreN (pc' := 25) #[.val (.ref d), .val (.int (1 : Int32)), .val (.ref mo), .val (.ref r)] d22_24 rfl rfl rfl ?_
  refine X.aloadN (pc' := 26) d22_25 rfl rfl rfl ?_
  refine X.iconst (pc' := 27) (0 : Int32) d22_26 rfl rfl ?_
  refine X.aloadN (pc' := 28) d22_27 rfl rfl rfl ?_
  refine X.iconst (pc' := 29) (0 : Int32) d22_28 rfl rfl ?_
  refine X.aloadN (pc' := 30) d22_29 rfl rfl rfl ?_
  obtain ⟨kd, Vd, Od, Ed⟩ := V_d
  refine X.alen (pc' := 31) Vd d22_30 rfl ?_
  refine X.iloadN (pc' := 32) d22_31 rfl rfl ?_
  refine X.callP (pc' := 35) (X.sStatic (wd145 hw) (wd146 hw) (wd84 hw) (wd147 hw) (by decide) rfl pd1 [(.int (10 : Int32)), (.int (1 : Int32))] rfl rfl d22_32) (rmMin1 l Z a0 hw _ X.old) (wd147 hw) (wd84 hw) (leB rfl) (leB rfl) (leB rfl) (leB rfl) rfl ?_
  intro T L v X q
  subst q
  obtain ⟨kr, Vr, Or1, Er⟩ := V_r
  have Vr' := Vr
  obtain ⟨cr, Ar, qr, -⟩ := Vr'
  refine X.acopy (pc' := 38) (us := [(.ref e0)]) (wd148 hw) (wd151 hw) (wd149 hw) (wd150 hw) Vd Vr (Or.inr ⟨rfl, rfl, ⟨Sto.ofV Ar qr Or1 (Ins.of_exa E_e0 wc0), trivial⟩⟩) (by decide) (by decide) (by decide) (by decide) (by decide) rfl (by decide) safeE z_r (Or.inr s_r) rfl d22_35 (leB rfl) (by first | exact leB rfl | decide +kernel) rfl ?_
  intro T h L X K V1
  replace lt_d := Nat.lt_of_lt_of_le lt_d K.1
  replace E_e0 := E_e0.keep K
  replace lt_r := Nat.lt_of_lt_of_le lt_r K.1
  refine X.aloadN (pc' := 39) d22_38 rfl rfl rfl ?_
  exact X.retAN rfl rfl d22_39 (by decide) (by decide) ⟨_, rfl, r, rfl, s_r, kr, V1, Or1, Er.keep K⟩
set_option maxRecDepth 65536 in
set_option maxHeartbeats 40000000 in
theorem ef_rmCo2_1 (m : MethodId) (d : Addr) : entryFrame m #[(.ref d), (.int (1 : Int32))] 2 = mkF m 0 #[.val (.ref d), .val (.int (1 : Int32))] [] := by first | (simp [entryFrame, mkF, argsToLocals, Value.category]; done) | (rfl)
set_option maxRecDepth 65536 in
set_option maxHeartbeats 40000000 in
theorem rmCo2_1 (l : Launch) (Z : State) (a0 : Array Value) (hw : ∀ d ∈ tables_1, d.before a0 Z = true) (d : Addr) (h0 : Heap) (O : Ext Z.heap h0) (mo : Addr) (M_o : Mrr Z "[Ljava/lang/Object;" mo) (e0 : Addr) (C0 : String) (wc0 : (Cond.castable C0 "java/lang/Object").before a0 Z = true) (E_e0 : Exa Z h0 e0 C0) (V_d : OA Z h0 d 10 [(.ref e0), (.null), (.null), (.null), (.null), (.null), (.null), (.null), (.null), (.null)]) :
    MN l Z (⟨"java/util/Arrays", "copyOf", "([Ljava/lang/Object;I)[Ljava/lang/Object;"⟩ : MethodName) jdk_65_method_119_code 2 (some (.array (.object "java/lang/Object"))) [] ({ frames := 2, cells := 1, slots := 1, locals := 60 } : Room) #[(.ref d), (.int (1 : Int32))] h0 [] (RV (fun w h => ∃ r, w = .ref r ∧ h0.size ≤ r ∧ OA Z h r (1 : Int32) [(.ref e0)])) := by
  refine MN.mk (a0 := a0) rfl rfl (plainFor_of_name pn5) O (fun m => ef_rmCo2_1 m d) ?_
  intro pg ev s m below meth cd T hh X
  subst hh
  refine X.aloadN (pc' := 1) d21_0 rfl rfl rfl ?_
  refine X.iloadN (pc' := 2) d21_1 rfl rfl ?_
  refine X.aloadN (pc' := 3) d21_2 rfl rfl rfl ?_
  have Ed : Exa Z s.heap d "[Ljava/lang/Object;" := by obtain ⟨kd, _, _, q⟩ := V_d; exact q
  refine X.gcls (pc' := 6) (wd134 hw) (wd135 hw) (wd137 hw) (wd136 hw) (wd138 hw) Ed M_o rfl d21_3 (leB rfl) (by first | exact leB rfl | decide +kernel) rfl ?_
  intro T X
  refine X.callV (pc' := 9) (X.sStatic (wd140 hw) (wd141 hw) (wd132 hw) (wd142 hw) (by decide) rfl pd5 [(.ref d), (.int (1 : Int32)), (.ref mo)] rfl rfl d21_6) (rmCo3_1 l Z a0 hw d mo _ X.old M_o e0 _ wc0 E_e0 V_d) (wd142 hw) (wd132 hw) (leB rfl) (leB rfl) (leB rfl) (leB rfl) sf0 all0 all0 rfl ?_
  intro T h L v X K q
  obtain ⟨r, rfl, le_r, V_r⟩ := q
  exact X.retAN rfl rfl d21_9 (by decide) (by decide) ⟨_, rfl, r, rfl, le_r, V_r⟩
set_option maxRecDepth 65536 in
set_option maxHeartbeats 40000000 in
theorem ef_rmToA_1 (m : MethodId) (a2 : Addr) : entryFrame m #[(.ref a2)] 1 = mkF m 0 #[.val (.ref a2)] [] := by first | (simp [entryFrame, mkF, argsToLocals, Value.category]; done) | (rfl)
set_option maxRecDepth 65536 in
set_option maxHeartbeats 40000000 in
theorem rmToA_1 (l : Launch) (Z : State) (a0 : Array Value) (hw : ∀ d ∈ tables_1, d.before a0 Z = true) (a2 : Addr) (h0 : Heap) (O : Ext Z.heap h0) (mo : Addr) (M_o : Mrr Z "[Ljava/lang/Object;" mo) (d : Addr) (mc : Int32) (A2 : AL Z h0 a2 (.ref d) (1 : Int32) mc) (e0 : Addr) (C0 : String) (wc0 : (Cond.castable C0 "java/lang/Object").before a0 Z = true) (E_e0 : Exa Z h0 e0 C0) (V_d : OA Z h0 d 10 [(.ref e0), (.null), (.null), (.null), (.null), (.null), (.null), (.null), (.null), (.null)]) :
    MN l Z (⟨"java/util/ArrayList", "toArray", "()[Ljava/lang/Object;"⟩ : MethodName) jdk_38_method_16_code 1 (some (.array (.object "java/lang/Object"))) [] ({ frames := 3, cells := 1, slots := 1, locals := 80 } : Room) #[(.ref a2)] h0 [] (RV (fun w h => ∃ r, w = .ref r ∧ h0.size ≤ r ∧ OA Z h r (1 : Int32) [(.ref e0)])) := by
  refine MN.mk (a0 := a0) rfl rfl (plainFor_of_name pn2) O (fun m => ef_rmToA_1 m a2) ?_
  intro pg ev s m below meth cd T hh X
  subst hh
  refine X.aloadN (pc' := 1) d20_0 rfl rfl rfl ?_
  refine X.getF (pc' := 4) (wd24 hw) Via.refl A2.2.1 d20_1 rfl ?_
  intro T X
  refine X.aloadN (pc' := 5) d20_4 rfl rfl rfl ?_
  refine X.getF (pc' := 8) (wd65 hw) Via.refl A2.2.2.1 d20_5 rfl ?_
  intro T X
  refine X.callV (pc' := 11) (X.sStatic (wd130 hw) (wd131 hw) (wd132 hw) (wd133 hw) (by decide) rfl pd6 [(.ref d), (.int (1 : Int32))] rfl rfl d20_8) (rmCo2_1 l Z a0 hw d _ X.old mo M_o e0 _ wc0 E_e0 V_d) (wd133 hw) (wd132 hw) (leB rfl) (leB rfl) (leB rfl) (leB rfl) sf0 all0 all0 rfl ?_
  intro T h L v X K q
  obtain ⟨r, rfl, le_r, V_r⟩ := q
  exact X.retAN rfl rfl d20_11 (by decide) (by decide) ⟨_, rfl, r, rfl, le_r, V_r⟩
set_option maxRecDepth 65536 in
set_option maxHeartbeats 40000000 in
theorem ef_rmMin2 (m : MethodId)  : entryFrame m #[(.int (10 : Int32)), (.int (2 : Int32))] 2 = mkF m 0 #[.val (.int (10 : Int32)), .val (.int (2 : Int32))] [] := by first | (simp [entryFrame, mkF, argsToLocals, Value.category]; done) | (rfl)
set_option maxRecDepth 65536 in
set_option maxHeartbeats 40000000 in
theorem rmMin2 (l : Launch) (Z : State) (a0 : Array Value) (hw : ∀ d ∈ tables_1, d.before a0 Z = true)  (h0 : Heap) (O : Ext Z.heap h0)  :
    MN l Z (⟨"java/lang/Math", "min", "(II)I"⟩ : MethodName) jdk_29_method_69_code 2 (some .int) [] ({ frames := 0, cells := 0, slots := 0, locals := 0 } : Room) #[(.int (10 : Int32)), (.int (2 : Int32))] h0 [] (RP h0 (fun w => w = .int (2 : Int32))) := by
  refine MN.mk (a0 := a0) rfl rfl pf23 O (fun m => ef_rmMin2 m ) ?_
  intro pg ev s m below meth cd T hh X
  subst hh
  refine X.iloadN (pc' := 1) d23_0 rfl rfl ?_
  refine X.iloadN (pc' := 2) d23_1 rfl rfl ?_
  refine X.icY (pc' := 9) d23_2 (by decide) (by decide) (by decide) ?_
  refine X.iloadN (pc' := 10) d23_9 rfl rfl ?_
  exact X.retIN (by simp) rfl d23_10 (by decide) (by decide) ⟨_, rfl, rfl, rfl⟩
set_option maxRecDepth 65536 in
set_option maxHeartbeats 40000000 in
theorem ef_rmCo3_2 (m : MethodId) (d : Addr) (mo : Addr) : entryFrame m #[(.ref d), (.int (2 : Int32)), (.ref mo)] 4 = mkF m 0 #[.val (.ref d), .val (.int (2 : Int32)), .val (.ref mo), .unset] [] := by first | (simp [entryFrame, mkF, argsToLocals, Value.category]; done) | (rfl)
set_option maxRecDepth 65536 in
set_option maxHeartbeats 40000000 in
theorem rmCo3_2 (l : Launch) (Z : State) (a0 : Array Value) (hw : ∀ d ∈ tables_1, d.before a0 Z = true) (d : Addr) (mo : Addr) (h0 : Heap) (O : Ext Z.heap h0) (M_o : Mrr Z "[Ljava/lang/Object;" mo) (e0 : Addr) (C0 : String) (wc0 : (Cond.castable C0 "java/lang/Object").before a0 Z = true) (E_e0 : Exa Z h0 e0 C0) (e1 : Addr) (C1 : String) (wc1 : (Cond.castable C1 "java/lang/Object").before a0 Z = true) (E_e1 : Exa Z h0 e1 C1) (V_d : OA Z h0 d 10 [(.ref e0), (.ref e1), (.null), (.null), (.null), (.null), (.null), (.null), (.null), (.null)]) :
    MN l Z (⟨"java/util/Arrays", "copyOf", "([Ljava/lang/Object;ILjava/lang/Class;)[Ljava/lang/Object;"⟩ : MethodName) jdk_65_method_120_code 4 (some (.array (.object "java/lang/Object"))) [] ({ frames := 1, cells := 1, slots := 2, locals := 40 } : Room) #[(.ref d), (.int (2 : Int32)), (.ref mo)] h0 [] (RV (fun w h => ∃ r, w = .ref r ∧ h0.size ≤ r ∧ OA Z h r (2 : Int32) [(.ref e0), (.ref e1)])) := by
  refine MN.mk (a0 := a0) rfl rfl (plainFor_of_name pn5) O (fun m => ef_rmCo3_2 m d mo) ?_
  intro pg ev s m below meth cd T hh X
  subst hh
  have lt_d := V_d.lt
  refine X.aloadN (pc' := 1) d22_0 rfl rfl rfl ?_
  refine X.ldcM (pc' := 3) (wd143 hw) M_o d22_1 rfl ?_
  intro T X
  refine X.acmp (pc' := 6) d22_3 rfl rfl true (by simp) (by decide) (by decide) ?_
  refine X.iloadN (pc' := 7) d22_6 rfl rfl ?_
  refine X.newR (pc' := 10) (ad := "[Ljava/lang/Object;") (wd144 hw) (wd87 hw) (by decide) d22_7 (by decide) 2 (by decide) (by decide) (by decide) (by decide) rfl ?_
  intro T h r ka_r g_r Ex lt_r V_r Ea_r Ov_r X1
  have z_r : Z.heap.size ≤ r := by rw [g_r]; exact X.old.1
  have s_r : s.heap.size ≤ r := by rw [g_r]; exact X.kp.1
  have ne_d_r : d ≠ r := Nat.ne_of_lt (by rw [g_r]; exact lt_d)
  replace V_d := V_d.ext Ex
  replace lt_d := Nat.lt_of_lt_of_le lt_d Ex.1
  replace E_e0 := E_e0.ext Ex
  replace E_e1 := E_e1.ext Ex
  replace X := X1
  have V_r : OA Z h r (2 : Int32) [(.null), (.null)] := ⟨ka_r, (Arv.pad V_r (pad_rep [] .null 2)), Ov_r, Ea_r⟩
  refine X.goto (pc' := 24) d22_10 (by decide) (by decide) ?_
  refine X.astoreN (pc' := 25) #[.val (.ref d), .val (.int (2 : Int32)), .val (.ref mo), .val (.ref r)] d22_24 rfl rfl rfl ?_
  refine X.aloadN (pc' := 26) d22_25 rfl rfl rfl ?_
  refine X.iconst (pc' := 27) (0 : Int32) d22_26 rfl rfl ?_
  refine X.aloadN (pc' := 28) d22_27 rfl rfl rfl ?_
  refine X.iconst (pc' := 29) (0 : Int32) d22_28 rfl rfl ?_
  refine X.aloadN (pc' := 30) d22_29 rfl rfl rfl ?_
  obtain ⟨kd, Vd, Od, Ed⟩ := V_d
  refine X.alen (pc' := 31) Vd d22_30 rfl ?_
  refine X.iloadN (pc' := 32) d22_31 rfl rfl ?_
  refine X.callP (pc' := 35) (X.sStatic (wd145 hw) (wd146 hw) (wd84 hw) (wd147 hw) (by decide) rfl pd1 [(.int (10 : Int32)), (.int (2 : Int32))] rfl rfl d22_32) (rmMin2 l Z a0 hw _ X.old) (wd147 hw) (wd84 hw) (leB rfl) (leB rfl) (leB rfl) (leB rfl) rfl ?_
  intro T L v X q
  subst q
  obtain ⟨kr, Vr, Or1, Er⟩ := V_r
  have Vr' := Vr
  obtain ⟨cr, Ar, qr, -⟩ := Vr'
  refine X.acopy (pc' := 38) (us := [(.ref e0), (.ref e1)]) (wd148 hw) (wd151 hw) (wd149 hw) (wd150 hw) Vd Vr (Or.inr ⟨rfl, rfl, ⟨Sto.ofV Ar qr Or1 (Ins.of_exa E_e0 wc0), ⟨Sto.ofV Ar qr Or1 (Ins.of_exa E_e1 wc1), trivial⟩⟩⟩) (by decide) (by decide) (by decide) (by decide) (by decide) rfl (by decide) safeE z_r (Or.inr s_r) rfl d22_35 (leB rfl) (by first | exact leB rfl | decide +kernel) rfl ?_
  intro T h L X K V1
  replace lt_d := Nat.lt_of_lt_of_le lt_d K.1
  replace E_e0 := E_e0.keep K
  replace E_e1 := E_e1.keep K
  replace lt_r := Nat.lt_of_lt_of_le lt_r K.1
  refine X.aloadN (pc' := 39) d22_38 rfl rfl rfl ?_
  exact X.retAN rfl rfl d22_39 (by decide) (by decide) ⟨_, rfl, r, rfl, s_r, kr, V1, Or1, Er.keep K⟩
set_option maxRecDepth 65536 in
set_option maxHeartbeats 40000000 in
theorem ef_rmCo2_2 (m : MethodId) (d : Addr) : entryFrame m #[(.ref d), (.int (2 : Int32))] 2 = mkF m 0 #[.val (.ref d), .val (.int (2 : Int32))] [] := by first | (simp [entryFrame, mkF, argsToLocals, Value.category]; done) | (rfl)
set_option maxRecDepth 65536 in
set_option maxHeartbeats 40000000 in
theorem rmCo2_2 (l : Launch) (Z : State) (a0 : Array Value) (hw : ∀ d ∈ tables_1, d.before a0 Z = true) (d : Addr) (h0 : Heap) (O : Ext Z.heap h0) (mo : Addr) (M_o : Mrr Z "[Ljava/lang/Object;" mo) (e0 : Addr) (C0 : String) (wc0 : (Cond.castable C0 "java/lang/Object").before a0 Z = true) (E_e0 : Exa Z h0 e0 C0) (e1 : Addr) (C1 : String) (wc1 : (Cond.castable C1 "java/lang/Object").before a0 Z = true) (E_e1 : Exa Z h0 e1 C1) (V_d : OA Z h0 d 10 [(.ref e0), (.ref e1), (.null), (.null), (.null), (.null), (.null), (.null), (.null), (.null)]) :
    MN l Z (⟨"java/util/Arrays", "copyOf", "([Ljava/lang/Object;I)[Ljava/lang/Object;"⟩ : MethodName) jdk_65_method_119_code 2 (some (.array (.object "java/lang/Object"))) [] ({ frames := 2, cells := 1, slots := 2, locals := 60 } : Room) #[(.ref d), (.int (2 : Int32))] h0 [] (RV (fun w h => ∃ r, w = .ref r ∧ h0.size ≤ r ∧ OA Z h r (2 : Int32) [(.ref e0), (.ref e1)])) := by
  refine MN.mk (a0 := a0) rfl rfl (plainFor_of_name pn5) O (fun m => ef_rmCo2_2 m d) ?_
  intro pg ev s m below meth cd T hh X
  subst hh
  refine X.aloadN (pc' := 1) d21_0 rfl rfl rfl ?_
  refine X.iloadN (pc' := 2) d21_1 rfl rfl ?_
  refine X.aloadN (pc' := 3) d21_2 rfl rfl rfl ?_
  have Ed : Exa Z s.heap d "[Ljava/lang/Object;" := by obtain ⟨kd, _, _, q⟩ := V_d; exact q
  refine X.gcls (pc' := 6) (wd134 hw) (wd135 hw) (wd137 hw) (wd136 hw) (wd138 hw) Ed M_o rfl d21_3 (leB rfl) (by first | exact leB rfl | decide +kernel) rfl ?_
  intro T X
  refine X.callV (pc' := 9) (X.sStatic (wd140 hw) (wd141 hw) (wd132 hw) (wd142 hw) (by decide) rfl pd5 [(.ref d), (.int (2 : Int32)), (.ref mo)] rfl rfl d21_6) (rmCo3_2 l Z a0 hw d mo _ X.old M_o e0 _ wc0 E_e0 e1 _ wc1 E_e1 V_d) (wd142 hw) (wd132 hw) (leB rfl) (leB rfl) (leB rfl) (leB rfl) sf0 all0 all0 rfl ?_
  intro T h L v X K q
  obtain ⟨r, rfl, le_r, V_r⟩ := q
  exact X.retAN rfl rfl d21_9 (by decide) (by decide) ⟨_, rfl, r, rfl, le_r, V_r⟩
set_option maxRecDepth 65536 in
set_option maxHeartbeats 40000000 in
theorem ef_rmToA_2 (m : MethodId) (a2 : Addr) : entryFrame m #[(.ref a2)] 1 = mkF m 0 #[.val (.ref a2)] [] := by first | (simp [entryFrame, mkF, argsToLocals, Value.category]; done) | (rfl)
set_option maxRecDepth 65536 in
set_option maxHeartbeats 40000000 in
theorem rmToA_2 (l : Launch) (Z : State) (a0 : Array Value) (hw : ∀ d ∈ tables_1, d.before a0 Z = true) (a2 : Addr) (h0 : Heap) (O : Ext Z.heap h0) (mo : Addr) (M_o : Mrr Z "[Ljava/lang/Object;" mo) (d : Addr) (mc : Int32) (A2 : AL Z h0 a2 (.ref d) (2 : Int32) mc) (e0 : Addr) (C0 : String) (wc0 : (Cond.castable C0 "java/lang/Object").before a0 Z = true) (E_e0 : Exa Z h0 e0 C0) (e1 : Addr) (C1 : String) (wc1 : (Cond.castable C1 "java/lang/Object").before a0 Z = true) (E_e1 : Exa Z h0 e1 C1) (V_d : OA Z h0 d 10 [(.ref e0), (.ref e1), (.null), (.null), (.null), (.null), (.null), (.null), (.null), (.null)]) :
    MN l Z (⟨"java/util/ArrayList", "toArray", "()[Ljava/lang/Object;"⟩ : MethodName) jdk_38_method_16_code 1 (some (.array (.object "java/lang/Object"))) [] ({ frames := 3, cells := 1, slots := 2, locals := 80 } : Room) #[(.ref a2)] h0 [] (RV (fun w h => ∃ r, w = .ref r ∧ h0.size ≤ r ∧ OA Z h r (2 : Int32) [(.ref e0), (.ref e1)])) := by
  refine MN.mk (a0 := a0) rfl rfl (plainFor_of_name pn2) O (fun m => ef_rmToA_2 m a2) ?_
  intro pg ev s m below meth cd T hh X
  subst hh
  refine X.aloadN (pc' := 1) d20_0 rfl rfl rfl ?_
  refine X.getF (pc' := 4) (wd24 hw) Via.refl A2.2.1 d20_1 rfl ?_
  intro T X
  refine X.aloadN (pc' := 5) d20_4 rfl rfl rfl ?_
  refine X.getF (pc' := 8) (wd65 hw) Via.refl A2.2.2.1 d20_5 rfl ?_
  intro T X
  refine X.callV (pc' := 11) (X.sStatic (wd130 hw) (wd131 hw) (wd132 hw) (wd133 hw) (by decide) rfl pd6 [(.ref d), (.int (2 : Int32))] rfl rfl d20_8) (rmCo2_2 l Z a0 hw d _ X.old mo M_o e0 _ wc0 E_e0 e1 _ wc1 E_e1 V_d) (wd133 hw) (wd132 hw) (leB rfl) (leB rfl) (leB rfl) (leB rfl) sf0 all0 all0 rfl ?_
  intro T h L v X K q
  obtain ⟨r, rfl, le_r, V_r⟩ := q
  exact X.retAN rfl rfl d20_11 (by decide) (by decide) ⟨_, rfl, r, rfl, le_r, V_r⟩
set_option maxRecDepth 65536 in
set_option maxHeartbeats 40000000 in
theorem ef_rmMin3 (m : MethodId)  : entryFrame m #[(.int (10 : Int32)), (.int (3 : Int32))] 2 = mkF m 0 #[.val (.int (10 : Int32)), .val (.int (3 : Int32))] [] := by first | (simp [entryFrame, mkF, argsToLocals, Value.category]; done) | (rfl)
set_option maxRecDepth 65536 in
set_option maxHeartbeats 40000000 in
theorem rmMin3 (l : Launch) (Z : State) (a0 : Array Value) (hw : ∀ d ∈ tables_1, d.before a0 Z = true)  (h0 : Heap) (O : Ext Z.heap h0)  :
    MN l Z (⟨"java/lang/Math", "min", "(II)I"⟩ : MethodName) jdk_29_method_69_code 2 (some .int) [] ({ frames := 0, cells := 0, slots := 0, locals := 0 } : Room) #[(.int (10 : Int32)), (.int (3 : Int32))] h0 [] (RP h0 (fun w => w = .int (3 : Int32))) := by
  refine MN.mk (a0 := a0) rfl rfl pf23 O (fun m => ef_rmMin3 m ) ?_
  intro pg ev s m below meth cd T hh X
  subst hh
  refine X.iloadN (pc' := 1) d23_0 rfl rfl ?_
  refine X.iloadN (pc' := 2) d23_1 rfl rfl ?_
  refine X.icY (pc' := 9) d23_2 (by decide) (by decide) (by decide) ?_
  refine X.iloadN (pc' := 10) d23_9 rfl rfl ?_
  exact X.retIN (by simp) rfl d23_10 (by decide) (by decide) ⟨_, rfl, rfl, rfl⟩
set_option maxRecDepth 65536 in
set_option maxHeartbeats 40000000 in
theorem ef_rmCo3_3 (m : MethodId) (d : Addr) (mo : Addr) : entryFrame m #[(.ref d), (.int (3 : Int32)), (.ref mo)] 4 = mkF m 0 #[.val (.ref d), .val (.int (3 : Int32)), .val (.ref mo), .unset] [] := by first | (simp [entryFrame, mkF, argsToLocals, Value.category]; done) | (rfl)
set_option maxRecDepth 65536 in
set_option maxHeartbeats 40000000 in
theorem rmCo3_3 (l : Launch) (Z : State) (a0 : Array Value) (hw : ∀ d ∈ tables_1, d.before a0 Z = true) (d : Addr) (mo : Addr) (h0 : Heap) (O : Ext Z.heap h0) (M_o : Mrr Z "[Ljava/lang/Object;" mo) (e0 : Addr) (C0 : String) (wc0 : (Cond.castable C0 "java/lang/Object").before a0 Z = true) (E_e0 : Exa Z h0 e0 C0) (e1 : Addr) (C1 : String) (wc1 : (Cond.castable C1 "java/lang/Object").before a0 Z = true) (E_e1 : Exa Z h0 e1 C1) (e2 : Addr) (C2 : String) (wc2 : (Cond.castable C2 "java/lang/Object").before a0 Z = true) (E_e2 : Exa Z h0 e2 C2) (V_d : OA Z h0 d 10 [(.ref e0), (.ref e1), (.ref e2), (.null), (.null), (.null), (.null), (.null), (.null), (.null)]) :
    MN l Z (⟨"java/util/Arrays", "copyOf", "([Ljava/lang/Object;ILjava/lang/Class;)[Ljava/lang/Object;"⟩ : MethodName) jdk_65_method_120_code 4 (some (.array (.object "java/lang/Object"))) [] ({ frames := 1, cells := 1, slots := 3, locals := 40 } : Room) #[(.ref d), (.int (3 : Int32)), (.ref mo)] h0 [] (RV (fun w h => ∃ r, w = .ref r ∧ h0.size ≤ r ∧ OA Z h r (3 : Int32) [(.ref e0), (.ref e1), (.ref e2)])) := by
  refine MN.mk (a0 := a0) rfl rfl (plainFor_of_name pn5) O (fun m => ef_rmCo3_3 m d mo) ?_
  intro pg ev s m below meth cd T hh X
  subst hh
  have lt_d := V_d.lt
  refine X.aloadN (pc' := 1) d22_0 rfl rfl rfl ?_
  refine X.ldcM (pc' := 3) (wd143 hw) M_o d22_1 rfl ?_
  intro T X
  refine X.acmp (pc' := 6) d22_3 rfl rfl true (by simp) (by decide) (by decide) ?_
  refine X.iloadN (pc' := 7) d22_6 rfl rfl ?_
  refine X.newR (pc' := 10) (ad := "[Ljava/lang/Object;") (wd144 hw) (wd87 hw) (by decide) d22_7 (by decide) 3 (by decide) (by decide) (by decide) (by decide) rfl ?_
  intro T h r ka_r g_r Ex lt_r V_r Ea_r Ov_r X1
  have z_r : Z.heap.size ≤ r := by rw [g_r]; exact X.old.1
  have s_r : s.heap.size ≤ r := by rw [g_r]; exact X.kp.1
  have ne_d_r : d ≠ r := Nat.ne_of_lt (by rw [g_r]; exact lt_d)
  replace V_d := V_d.ext Ex
  replace lt_d := Nat.lt_of_lt_of_le lt_d Ex.1
  replace E_e0 := E_e0.ext Ex
  replace E_e1 := E_e1.ext Ex
  replace E_e2 := E_e2.ext Ex
  replace X := X1
  have V_r : OA Z h r (3 : Int32) [(.null), (.null), (.null)] := ⟨ka_r, (Arv.pad V_r (pad_rep [] .null 3)), Ov_r, Ea_r⟩
  refine X.goto (pc' := 24) d22_10 (by decide) (by decide) ?_
  refine X.astoreN (pc' := 25) #[.val (.ref d), .val (.int (3 : Int32)), .val (.ref mo), .val (.ref r)] d22_24 rfl rfl rfl ?_
  refine X.aloadN (pc' := 26) d22_25 rfl rfl rfl ?_
  refine X.iconst (pc' := 27) (0 : Int32) d22_26 rfl rfl ?_
  refine X.aloadN (pc' := 28) d22_27 rfl rfl rfl ?_
  refine X.iconst (pc' := 29) (0 : Int32) d22_28 rfl rfl ?_
  refine X.aloadN (pc' := 30) d22_29 rfl rfl rfl ?_
  obtain ⟨kd, Vd, Od, Ed⟩ := V_d
  refine X.alen (pc' := 31) Vd d22_30 rfl ?_
  refine X.iloadN (pc' := 32) d22_31 rfl rfl ?_
  refine X.callP (pc' := 35) (X.sStatic (wd145 hw) (wd146 hw) (wd84 hw) (wd147 hw) (by decide) rfl pd1 [(.int (10 : Int32)), (.int (3 : Int32))] rfl rfl d22_32) (rmMin3 l Z a0 hw _ X.old) (wd147 hw) (wd84 hw) (leB rfl) (leB rfl) (leB rfl) (leB rfl) rfl ?_
  intro T L v X q
  subst q
  obtain ⟨kr, Vr, Or1, Er⟩ := V_r
  have Vr' := Vr
  obtain ⟨cr, Ar, qr, -⟩ := Vr'
  refine X.acopy (pc' := 38) (us := [(.ref e0), (.ref e1), (.ref e2)]) (wd148 hw) (wd151 hw) (wd149 hw) (wd150 hw) Vd Vr (Or.inr ⟨rfl, rfl, ⟨Sto.ofV Ar qr Or1 (Ins.of_exa E_e0 wc0), ⟨Sto.ofV Ar qr Or1 (Ins.of_exa E_e1 wc1), ⟨Sto.ofV Ar qr Or1 (Ins.of_exa E_e2 wc2), trivial⟩⟩⟩⟩) (by decide) (by decide) (by decide) (by decide) (by decide) rfl (by decide) safeE z_r (Or.inr s_r) rfl d22_35 (leB rfl) (by first | exact leB rfl | decide +kernel) rfl ?_
  intro T h L X K V1
  replace lt_d := Nat.lt_of_lt_of_le lt_d K.1
  replace E_e0 := E_e0.keep K
  replace E_e1 := E_e1.keep K
  replace E_e2 := E_e2.keep K
  replace lt_r := Nat.lt_of_lt_of_le lt_r K.1
  refine X.aloadN (pc' := 39) d22_38 rfl rfl rfl ?_
  exact X.retAN rfl rfl d22_39 (by decide) (by decide) ⟨_, rfl, r, rfl, s_r, kr, V1, Or1, Er.keep K⟩
set_option maxRecDepth 65536 in
set_option maxHeartbeats 40000000 in
theorem ef_rmCo2_3 (m : MethodId) (d : Addr) : entryFrame m #[(.ref d), (.int (3 : Int32))] 2 = mkF m 0 #[.val (.ref d), .val (.int (3 : Int32))] [] := by first | (simp [entryFrame, mkF, argsToLocals, Value.category]; done) | (rfl)
set_option maxRecDepth 65536 in
set_option maxHeartbeats 40000000 in
theorem rmCo2_3 (l : Launch) (Z : State) (a0 : Array Value) (hw : ∀ d ∈ tables_1, d.before a0 Z = true) (d : Addr) (h0 : Heap) (O : Ext Z.heap h0) (mo : Addr) (M_o : Mrr Z "[Ljava/lang/Object;" mo) (e0 : Addr) (C0 : String) (wc0 : (Cond.castable C0 "java/lang/Object").before a0 Z = true) (E_e0 : Exa Z h0 e0 C0) (e1 : Addr) (C1 : String) (wc1 : (Cond.castable C1 "java/lang/Object").before a0 Z = true) (E_e1 : Exa Z h0 e1 C1) (e2 : Addr) (C2 : String) (wc2 : (Cond.castable C2 "java/lang/Object").before a0 Z = true) (E_e2 : Exa Z h0 e2 C2) (V_d : OA Z h0 d 10 [(.ref e0), (.ref e1), (.ref e2), (.null), (.null), (.null), (.null), (.null), (.null), (.null)]) :
    MN l Z (⟨"java/util/Arrays", "copyOf", "([Ljava/lang/Object;I)[Ljava/lang/Object;"⟩ : MethodName) jdk_65_method_119_code 2 (some (.array (.object "java/lang/Object"))) [] ({ frames := 2, cells := 1, slots := 3, locals := 60 } : Room) #[(.ref d), (.int (3 : Int32))] h0 [] (RV (fun w h => ∃ r, w = .ref r ∧ h0.size ≤ r ∧ OA Z h r (3 : Int32) [(.ref e0), (.ref e1), (.ref e2)])) := by
  refine MN.mk (a0 := a0) rfl rfl (plainFor_of_name pn5) O (fun m => ef_rmCo2_3 m d) ?_
  intro pg ev s m below meth cd T hh X
  subst hh
  refine X.aloadN (pc' := 1) d21_0 rfl rfl rfl ?_
  refine X.iloadN (pc' := 2) d21_1 rfl rfl ?_
  refine X.aloadN (pc' := 3) d21_2 rfl rfl rfl ?_
  have Ed : Exa Z s.heap d "[Ljava/lang/Object;" := by obtain ⟨kd, _, _, q⟩ := V_d; exact q
  refine X.gcls (pc' := 6) (wd134 hw) (wd135 hw) (wd137 hw) (wd136 hw) (wd138 hw) Ed M_o rfl d21_3 (leB rfl) (by first | exact leB rfl | decide +kernel) rfl ?_
  intro T X
  refine X.callV (pc' := 9) (X.sStatic (wd140 hw) (wd141 hw) (wd132 hw) (wd142 hw) (by decide) rfl pd5 [(.ref d), (.int (3 : Int32)), (.ref mo)] rfl rfl d21_6) (rmCo3_3 l Z a0 hw d mo _ X.old M_o e0 _ wc0 E_e0 e1 _ wc1 E_e1 e2 _ wc2 E_e2 V_d) (wd142 hw) (wd132 hw) (leB rfl) (leB rfl) (leB rfl) (leB rfl) sf0 all0 all0 rfl ?_
  intro T h L v X K q
  obtain ⟨r, rfl, le_r, V_r⟩ := q
  exact X.retAN rfl rfl d21_9 (by decide) (by decide) ⟨_, rfl, r, rfl, le_r, V_r⟩
set_option maxRecDepth 65536 in
set_option maxHeartbeats 40000000 in
theorem ef_rmToA_3 (m : MethodId) (a2 : Addr) : entryFrame m #[(.ref a2)] 1 = mkF m 0 #[.val (.ref a2)] [] := by first | (simp [entryFrame, mkF, argsToLocals, Value.category]; done) | (rfl)
set_option maxRecDepth 65536 in
set_option maxHeartbeats 40000000 in
theorem rmToA_3 (l : Launch) (Z : State) (a0 : Array Value) (hw : ∀ d ∈ tables_1, d.before a0 Z = true) (a2 : Addr) (h0 : Heap) (O : Ext Z.heap h0) (mo : Addr) (M_o : Mrr Z "[Ljava/lang/Object;" mo) (d : Addr) (mc : Int32) (A2 : AL Z h0 a2 (.ref d) (3 : Int32) mc) (e0 : Addr) (C0 : String) (wc0 : (Cond.castable C0 "java/lang/Object").before a0 Z = true) (E_e0 : Exa Z h0 e0 C0) (e1 : Addr) (C1 : String) (wc1 : (Cond.castable C1 "java/lang/Object").before a0 Z = true) (E_e1 : Exa Z h0 e1 C1) (e2 : Addr) (C2 : String) (wc2 : (Cond.castable C2 "java/lang/Object").before a0 Z = true) (E_e2 : Exa Z h0 e2 C2) (V_d : OA Z h0 d 10 [(.ref e0), (.ref e1), (.ref e2), (.null), (.null), (.null), (.null), (.null), (.null), (.null)]) :
    MN l Z (⟨"java/util/ArrayList", "toArray", "()[Ljava/lang/Object;"⟩ : MethodName) jdk_38_method_16_code 1 (some (.array (.object "java/lang/Object"))) [] ({ frames := 3, cells := 1, slots := 3, locals := 80 } : Room) #[(.ref a2)] h0 [] (RV (fun w h => ∃ r, w = .ref r ∧ h0.size ≤ r ∧ OA Z h r (3 : Int32) [(.ref e0), (.ref e1), (.ref e2)])) := by
  refine MN.mk (a0 := a0) rfl rfl (plainFor_of_name pn2) O (fun m => ef_rmToA_3 m a2) ?_
  intro pg ev s m below meth cd T hh X
  subst hh
  refine X.aloadN (pc' := 1) d20_0 rfl rfl rfl ?_
  refine X.getF (pc' := 4) (wd24 hw) Via.refl A2.2.1 d20_1 rfl ?_
  intro T X
  refine X.aloadN (pc' := 5) d20_4 rfl rfl rfl ?_
  refine X.getF (pc' := 8) (wd65 hw) Via.refl A2.2.2.1 d20_5 rfl ?_
  intro T X
  refine X.callV (pc' := 11) (X.sStatic (wd130 hw) (wd131 hw) (wd132 hw) (wd133 hw) (by decide) rfl pd6 [(.ref d), (.int (3 : Int32))] rfl rfl d20_8) (rmCo2_3 l Z a0 hw d _ X.old mo M_o e0 _ wc0 E_e0 e1 _ wc1 E_e1 e2 _ wc2 E_e2 V_d) (wd133 hw) (wd132 hw) (leB rfl) (leB rfl) (leB rfl) (leB rfl) sf0 all0 all0 rfl ?_
  intro T h L v X K q
  obtain ⟨r, rfl, le_r, V_r⟩ := q
  exact X.retAN rfl rfl d20_11 (by decide) (by decide) ⟨_, rfl, r, rfl, le_r, V_r⟩
set_option maxRecDepth 65536 in
set_option maxHeartbeats 40000000 in
theorem ef_rmMin4 (m : MethodId)  : entryFrame m #[(.int (10 : Int32)), (.int (4 : Int32))] 2 = mkF m 0 #[.val (.int (10 : Int32)), .val (.int (4 : Int32))] [] := by first | (simp [entryFrame, mkF, argsToLocals, Value.category]; done) | (rfl)
set_option maxRecDepth 65536 in
set_option maxHeartbeats 40000000 in
theorem rmMin4 (l : Launch) (Z : State) (a0 : Array Value) (hw : ∀ d ∈ tables_1, d.before a0 Z = true)  (h0 : Heap) (O : Ext Z.heap h0)  :
    MN l Z (⟨"java/lang/Math", "min", "(II)I"⟩ : MethodName) jdk_29_method_69_code 2 (some .int) [] ({ frames := 0, cells := 0, slots := 0, locals := 0 } : Room) #[(.int (10 : Int32)), (.int (4 : Int32))] h0 [] (RP h0 (fun w => w = .int (4 : Int32))) := by
  refine MN.mk (a0 := a0) rfl rfl pf23 O (fun m => ef_rmMin4 m ) ?_
  intro pg ev s m below meth cd T hh X
  subst hh
  refine X.iloadN (pc' := 1) d23_0 rfl rfl ?_
  refine X.iloadN (pc' := 2) d23_1 rfl rfl ?_
  refine X.icY (pc' := 9) d23_2 (by decide) (by decide) (by decide) ?_
  refine X.iloadN (pc' := 10) d23_9 rfl rfl ?_
  exact X.retIN (by simp) rfl d23_10 (by decide) (by decide) ⟨_, rfl, rfl, rfl⟩
set_option maxRecDepth 65536 in
set_option maxHeartbeats 40000000 in
theorem ef_rmCo3_4 (m : MethodId) (d : Addr) (mo : Addr) : entryFrame m #[(.ref d), (.int (4 : Int32)), (.ref mo)] 4 = mkF m 0 #[.val (.ref d), .val (.int (4 : Int32)), .val (.ref mo), .unset] [] := by first | (simp [entryFrame, mkF, argsToLocals, Value.category]; done) | (rfl)
set_option maxRecDepth 65536 in
set_option maxHeartbeats 40000000 in
theorem rmCo3_4 (l : Launch) (Z : State) (a0 : Array Value) (hw : ∀ d ∈ tables_1, d.before a0 Z = true) (d : Addr) (mo : Addr) (h0 : Heap) (O : Ext Z.heap h0) (M_o : Mrr Z "[Ljava/lang/Object;" mo) (e0 : Addr) (C0 : String) (wc0 : (Cond.castable C0 "java/lang/Object").before a0 Z = true) (E_e0 : Exa Z h0 e0 C0) (e1 : Addr) (C1 : String) (wc1 : (Cond.castable C1 "java/lang/Object").before a0 Z = true) (E_e1 : Exa Z h0 e1 C1) (e2 : Addr) (C2 : String) (wc2 : (Cond.castable C2 "java/lang/Object").before a0 Z = true) (E_e2 : Exa Z h0 e2 C2) (e3 : Addr) (C3 : String) (wc3 : (Cond.castable C3 "java/lang/Object").before a0 Z = true) (E_e3 : Exa Z h0 e3 C3) (V_d : OA Z h0 d 10 [(.ref e0), (.ref e1), (.ref e2), (.ref e3), (.null), (.null), (.null), (.null), (.null), (.null)]) :
    MN l Z (⟨"java/util/Arrays", "copyOf", "([Ljava/lang/Object;ILjava/lang/Class;)[Ljava/lang/Object;"⟩ : MethodName) jdk_65_method_120_code 4 (some (.array (.object "java/lang/Object"))) [] ({ frames := 1, cells := 1, slots := 4, locals := 40 } : Room) #[(.ref d), (.int (4 : Int32)), (.ref mo)] h0 [] (RV (fun w h => ∃ r, w = .ref r ∧ h0.size ≤ r ∧ OA Z h r (4 : Int32) [(.ref e0), (.ref e1), (.ref e2), (.ref e3)])) := by
  refine MN.mk (a0 := a0) rfl rfl (plainFor_of_name pn5) O (fun m => ef_rmCo3_4 m d mo) ?_
  intro pg ev s m below meth cd T hh X
  subst hh
  have lt_d := V_d.lt
  refine X.aloadN (pc' := 1) d22_0 rfl rfl rfl ?_
  refine X.ldcM (pc' := 3) (wd143 hw) M_o d22_1 rfl ?_
  intro T X
  refine X.acmp (pc' := 6) d22_3 rfl rfl true (by simp) (by decide) (by decide) ?_
  refine X.iloadN (pc' := 7) d22_6 rfl rfl ?_
  refine X.newR (pc' := 10) (ad := "[Ljava/lang/Object;") (wd144 hw) (wd87 hw) (by decide) d22_7 (by decide) 4 (by decide) (by decide) (by decide) (by decide) rfl ?_
  intro T h r ka_r g_r Ex lt_r V_r Ea_r Ov_r X1
  have z_r : Z.heap.size ≤ r := by rw [g_r]; exact X.old.1
  have s_r : s.heap.size ≤ r := by rw [g_r]; exact X.kp.1
  have ne_d_r : d ≠ r := Nat.ne_of_lt (by rw [g_r]; exact lt_d)
  replace V_d := V_d.ext Ex
  replace lt_d := Nat.lt_of_lt_of_le lt_d Ex.1
  replace E_e0 := E_e0.ext Ex
  replace E_e1 := E_e1.ext Ex
  replace E_e2 := E_e2.ext Ex
  replace E_e3 := E_e3.ext Ex
  replace X := X1
  have V_r : OA Z h r (4 : Int32) [(.null), (.null), (.null), (.null)] := ⟨ka_r, (Arv.pad V_r (pad_rep [] .null 4)), Ov_r, Ea_r⟩
  refine X.goto (pc' := 24) d22_10 (by decide) (by decide) ?_
  refine X.astoreN (pc' := 25) #[.val (.ref d), .val (.int (4 : Int32)), .val (.ref mo), .val (.ref r)] d22_24 rfl rfl rfl ?_
  refine X.aloadN (pc' := 26) d22_25 rfl rfl rfl ?_
  refine X.iconst (pc' := 27) (0 : Int32) d22_26 rfl rfl ?_
  refine X.aloadN (pc' := 28) d22_27 rfl rfl rfl ?_
  refine X.iconst (pc' := 29) (0 : Int32) d22_28 rfl rfl ?_
  refine X.aloadN (pc' := 30) d22_29 rfl rfl rfl ?_
  obtain ⟨kd, Vd, Od, Ed⟩ := V_d
  refine X.alen (pc' := 31) Vd d22_30 rfl ?_
  refine X.iloadN (pc' := 32) d22_31 rfl rfl ?_
  refine X.callP (pc' := 35) (X.sStatic (wd145 hw) (wd146 hw) (wd84 hw) (wd147 hw) (by decide) rfl pd1 [(.int (10 : Int32)), (.int (4 : Int32))] rfl rfl d22_32) (rmMin4 l Z a0 hw _ X.old) (wd147 hw) (wd84 hw) (leB rfl) (leB rfl) (leB rfl) (leB rfl) rfl ?_
  intro T L v X q
  subst q
  obtain ⟨kr, Vr, Or1, Er⟩ := V_r
  have Vr' := Vr
  obtain ⟨cr, Ar, qr, -⟩ := Vr'
  refine X.acopy (pc' := 38) (us := [(.ref e0), (.ref e1), (.ref e2), (.ref e3)]) (wd148 hw) (wd151 hw) (wd149 hw) (wd150 hw) Vd Vr (Or.inr ⟨rfl, rfl, ⟨Sto.ofV Ar qr Or1 (Ins.of_exa E_e0 wc0), ⟨Sto.ofV Ar qr Or1 (Ins.of_exa E_e1 wc1), ⟨Sto.ofV Ar qr Or1 (Ins.of_exa E_e2 wc2), ⟨Sto.ofV Ar qr Or1 (Ins.of_exa E_e3 wc3), trivial⟩⟩⟩⟩⟩) (by decide) (by decide) (by decide) (by decide) (by decide) rfl (by decide) safeE z_r (Or.inr s_r) rfl d22_35 (leB rfl) (by first | exact leB rfl | decide +kernel) rfl ?_
  intro T h L X K V1
  replace lt_d := Nat.lt_of_lt_of_le lt_d K.1
  replace E_e0 := E_e0.keep K
  replace E_e1 := E_e1.keep K
  replace E_e2 := E_e2.keep K
  replace E_e3 := E_e3.keep K
  replace lt_r := Nat.lt_of_lt_of_le lt_r K.1
  refine X.aloadN (pc' := 39) d22_38 rfl rfl rfl ?_
  exact X.retAN rfl rfl d22_39 (by decide) (by decide) ⟨_, rfl, r, rfl, s_r, kr, V1, Or1, Er.keep K⟩
set_option maxRecDepth 65536 in
set_option maxHeartbeats 40000000 in
theorem ef_rmCo2_4 (m : MethodId) (d : Addr) : entryFrame m #[(.ref d), (.int (4 : Int32))] 2 = mkF m 0 #[.val (.ref d), .val (.int (4 : Int32))] [] := by first | (simp [entryFrame, mkF, argsToLocals, Value.category]; done) | (rfl)
set_option maxRecDepth 65536 in
set_option maxHeartbeats 40000000 in
theorem rmCo2_4 (l : Launch) (Z : State) (a0 : Array Value) (hw : ∀ d ∈ tables_1, d.before a0 Z = true) (d : Addr) (h0 : Heap) (O : Ext Z.heap h0) (mo : Addr) (M_o : Mrr Z "[Ljava/lang/Object;" mo) (e0 : Addr) (C0 : String) (wc0 : (Cond.castable C0 "java/lang/Object").before a0 Z = true) (E_e0 : Exa Z h0 e0 C0) (e1 : Addr) (C1 : String) (wc1 : (Cond.castable C1 "java/lang/Object").before a0 Z = true) (E_e1 : Exa Z h0 e1 C1) (e2 : Addr) (C2 : String) (wc2 : (Cond.castable C2 "java/lang/Object").before a0 Z = true) (E_e2 : Exa Z h0 e2 C2) (e3 : Addr) (C3 : String) (wc3 : (Cond.castable C3 "java/lang/Object").before a0 Z = true) (E_e3 : Exa Z h0 e3 C3) (V_d : OA Z h0 d 10 [(.ref e0), (.ref e1), (.ref e2), (.ref e3), (.null), (.null), (.null), (.null), (.null), (.null)]) :
    MN l Z (⟨"java/util/Arrays", "copyOf", "([Ljava/lang/Object;I)[Ljava/lang/Object;"⟩ : MethodName) jdk_65_method_119_code 2 (some (.array (.object "java/lang/Object"))) [] ({ frames := 2, cells := 1, slots := 4, locals := 60 } : Room) #[(.ref d), (.int (4 : Int32))] h0 [] (RV (fun w h => ∃ r, w = .ref r ∧ h0.size ≤ r ∧ OA Z h r (4 : Int32) [(.ref e0), (.ref e1), (.ref e2), (.ref e3)])) := by
  refine MN.mk (a0 := a0) rfl rfl (plainFor_of_name pn5) O (fun m => ef_rmCo2_4 m d) ?_
  intro pg ev s m below meth cd T hh X
  subst hh
  refine X.aloadN (pc' := 1) d21_0 rfl rfl rfl ?_
  refine X.iloadN (pc' := 2) d21_1 rfl rfl ?_
  refine X.aloadN (pc' := 3) d21_2 rfl rfl rfl ?_
  have Ed : Exa Z s.heap d "[Ljava/lang/Object;" := by obtain ⟨kd, _, _, q⟩ := V_d; exact q
  refine X.gcls (pc' := 6) (wd134 hw) (wd135 hw) (wd137 hw) (wd136 hw) (wd138 hw) Ed M_o rfl d21_3 (leB rfl) (by first | exact leB rfl | decide +kernel) rfl ?_
  intro T X
  refine X.callV (pc' := 9) (X.sStatic (wd140 hw) (wd141 hw) (wd132 hw) (wd142 hw) (by decide) rfl pd5 [(.ref d), (.int (4 : Int32)), (.ref mo)] rfl rfl d21_6) (rmCo3_4 l Z a0 hw d mo _ X.old M_o e0 _ wc0 E_e0 e1 _ wc1 E_e1 e2 _ wc2 E_e2 e3 _ wc3 E_e3 V_d) (wd142 hw) (wd132 hw) (leB rfl) (leB rfl) (leB rfl) (leB rfl) sf0 all0 all0 rfl ?_
  intro T h L v X K q
  obtain ⟨r, rfl, le_r, V_r⟩ := q
  exact X.retAN rfl rfl d21_9 (by decide) (by decide) ⟨_, rfl, r, rfl, le_r, V_r⟩
set_option maxRecDepth 65536 in
set_option maxHeartbeats 40000000 in
theorem ef_rmToA_4 (m : MethodId) (a2 : Addr) : entryFrame m #[(.ref a2)] 1 = mkF m 0 #[.val (.ref a2)] [] := by first | (simp [entryFrame, mkF, argsToLocals, Value.category]; done) | (rfl)
set_option maxRecDepth 65536 in
set_option maxHeartbeats 40000000 in
theorem rmToA_4 (l : Launch) (Z : State) (a0 : Array Value) (hw : ∀ d ∈ tables_1, d.before a0 Z = true) (a2 : Addr) (h0 : Heap) (O : Ext Z.heap h0) (mo : Addr) (M_o : Mrr Z "[Ljava/lang/Object;" mo) (d : Addr) (mc : Int32) (A2 : AL Z h0 a2 (.ref d) (4 : Int32) mc) (e0 : Addr) (C0 : String) (wc0 : (Cond.castable C0 "java/lang/Object").before a0 Z = true) (E_e0 : Exa Z h0 e0 C0) (e1 : Addr) (C1 : String) (wc1 : (Cond.castable C1 "java/lang/Object").before a0 Z = true) (E_e1 : Exa Z h0 e1 C1) (e2 : Addr) (C2 : String) (wc2 : (Cond.castable C2 "java/lang/Object").before a0 Z = true) (E_e2 : Exa Z h0 e2 C2) (e3 : Addr) (C3 : String) (wc3 : (Cond.castable C3 "java/lang/Object").before a0 Z = true) (E_e3 : Exa Z h0 e3 C3) (V_d : OA Z h0 d 10 [(.ref e0), (.ref e1), (.ref e2), (.ref e3), (.null), (.null), (.null), (.null), (.null), (.null)]) :
    MN l Z (⟨"java/util/ArrayList", "toArray", "()[Ljava/lang/Object;"⟩ : MethodName) jdk_38_method_16_code 1 (some (.array (.object "java/lang/Object"))) [] ({ frames := 3, cells := 1, slots := 4, locals := 80 } : Room) #[(.ref a2)] h0 [] (RV (fun w h => ∃ r, w = .ref r ∧ h0.size ≤ r ∧ OA Z h r (4 : Int32) [(.ref e0), (.ref e1), (.ref e2), (.ref e3)])) := by
  refine MN.mk (a0 := a0) rfl rfl (plainFor_of_name pn2) O (fun m => ef_rmToA_4 m a2) ?_
  intro pg ev s m below meth cd T hh X
  subst hh
  refine X.aloadN (pc' := 1) d20_0 rfl rfl rfl ?_
  refine X.getF (pc' := 4) (wd24 hw) Via.refl A2.2.1 d20_1 rfl ?_
  intro T X
  refine X.aloadN (pc' := 5) d20_4 rfl rfl rfl ?_
  refine X.getF (pc' := 8) (wd65 hw) Via.refl A2.2.2.1 d20_5 rfl ?_
  intro T X
  refine X.callV (pc' := 11) (X.sStatic (wd130 hw) (wd131 hw) (wd132 hw) (wd133 hw) (by decide) rfl pd6 [(.ref d), (.int (4 : Int32))] rfl rfl d20_8) (rmCo2_4 l Z a0 hw d _ X.old mo M_o e0 _ wc0 E_e0 e1 _ wc1 E_e1 e2 _ wc2 E_e2 e3 _ wc3 E_e3 V_d) (wd133 hw) (wd132 hw) (leB rfl) (leB rfl) (leB rfl) (leB rfl) sf0 all0 all0 rfl ?_
  intro T h L v X K q
  obtain ⟨r, rfl, le_r, V_r⟩ := q
  exact X.retAN rfl rfl d20_11 (by decide) (by decide) ⟨_, rfl, r, rfl, le_r, V_r⟩
set_option maxRecDepth 65536 in
set_option maxHeartbeats 40000000 in
theorem ef_rmS (m : MethodId) (p : Int32) : entryFrame m #[(.int p)] 2 = mkF m 0 #[.val (.int p), .unset] [] := by first | (simp [entryFrame, mkF, argsToLocals, Value.category]; done) | (rfl)
set_option maxRecDepth 65536 in
set_option maxHeartbeats 40000000 in
theorem rmS (l : Launch) (Z : State) (a0 : Array Value) (hw : ∀ d ∈ tables_1, d.before a0 Z = true) (p : Int32) (h0 : Heap) (O : Ext Z.heap h0) (z : Int32) (O2 : Sta Z Z.heap "java/lang/String" "COMPACT_STRINGS" "Z" (.int z)) (hz : ¬ z = 0) :
    MN l Z (⟨"com/example/vertere/vertere/engine/AnswersGetPinLaw", "s", "(I)Ljava/lang/String;"⟩ : MethodName) method_2_code 2 (some (.object "java/lang/String")) [] ({ frames := 5, cells := 3, slots := 10, locals := 100 } : Room) #[(.int p)] h0 [] (RV (fun w h => ∃ r, w = .ref r ∧ h0.size ≤ r ∧ Exa Z h r "java/lang/String")) := by
  refine MN.mk (a0 := a0) rfl rfl (plainFor_of_name pn6) O (fun m => ef_rmS m p) ?_
  intro pg ev s m below meth cd T hh X
  subst hh
  have hws : ∀ d ∈ StrChars.Road.words, d.before a0 Z = true := fun d hd => hw d ((by decide +kernel : ∀ d ∈ StrChars.Road.words, d ∈ tables_1) d hd)
  refine X.iconst (pc' := 1) (1 : Int32) d5_0 rfl rfl ?_
  refine X.newP (pc' := 3) (aty := .char) (wd30 hw) d5_1 (by decide) 1 (by decide) (by decide) (by decide) (by decide) rfl ?_
  intro T h b1 ka_b1 g_b1 Ex lt_b1 V_b1 X1
  have z_b1 : Z.heap.size ≤ b1 := by rw [g_b1]; exact X.old.1
  have s_b1 : s.heap.size ≤ b1 := by rw [g_b1]; exact X.kp.1
  replace X := X1
  replace V_b1 : Arv Z h b1 ka_b1 .char (1 : Int32) [(.int (0 : Int32))] (.int (0 : Int32)) := (Arv.pad V_b1 (pad_rep [] (.int (0 : Int32)) 1))
  refine X.astoreN (pc' := 4) #[.val (.int p), .val (.ref b1)] d5_3 rfl rfl rfl ?_
  refine X.aloadN (pc' := 5) d5_4 rfl rfl rfl ?_
  refine X.iconst (pc' := 6) (0 : Int32) d5_5 rfl rfl ?_
  refine X.iloadN (pc' := 7) d5_6 rfl rfl ?_
  refine X.sipush (pc' := 10) (255 : Int32) d5_7 rfl rfl ?_
  refine X.iand (pc' := 11) d5_10 rfl ?_
  refine X.i2c (pc' := 12) d5_11 rfl ?_
  generalize hc_c0 : ((p &&& (255 : Int32)).toUInt32.toUInt16.toUInt32.toInt32) = c0
  have r_c0 := chr255 hc_c0
  refine X.castore (pc' := 13) V_b1 ⟨by decide, by decide⟩ 0 rfl (Nat.le_of_ble_eq_true rfl) z_b1 (Or.inr s_b1) d5_12 rfl ?_
  intro T h L X W V1
  rw [r_c0.2] at V1
  replace lt_b1 := Nat.lt_of_lt_of_le lt_b1 (Keep.of_wr W).1
  replace V_b1 : Arv Z h b1 ka_b1 .char (1 : Int32) [(.int c0)] (.int (0 : Int32)) := V1
  refine X.newO (pc' := 16) (wd31 hw) (wd32 hw) (wd33 hw) d5_13 (by decide) (by decide) rfl ?_
  intro T h x1 g_x1 Ex lt_x1 E_x1 D_x1 X1
  have z_x1 : Z.heap.size ≤ x1 := by rw [g_x1]; exact X.old.1
  have s_x1 : s.heap.size ≤ x1 := by rw [g_x1]; exact X.kp.1
  have ne_b1_x1 : b1 ≠ x1 := Nat.ne_of_lt (by rw [g_x1]; exact lt_b1)
  replace V_b1 := V_b1.ext Ex
  replace lt_b1 := Nat.lt_of_lt_of_le lt_b1 Ex.1
  replace X := X1
  have F_x1_value : Fld Z h x1 "java/lang/String" "value" "[B" .null := D_x1 (Or.inr (wd57 hw)) (ty := (.array .byte)) (by decide)
  have F_x1_coder : Fld Z h x1 "java/lang/String" "coder" "B" (.int (0 : Int32)) := D_x1 (Or.inr (wd55 hw)) (ty := .byte) (by decide)
  refine X.dup (pc' := 17) d5_16 rfl rfl ?_
  refine X.aloadN (pc' := 18) d5_17 rfl rfl rfl ?_
  refine X.newStr (pc' := 21) (cs := [c0]) (n := 1) (X.sSpecial rfl (wd34 hw) (wd35 hw) (wd36 hw) (by decide) rfl pd7 [(.ref b1)] rfl rfl d5_18) hws (wd32 hw) E_x1 F_x1_value F_x1_coder V_b1 O2 hz rfl rfl (by decide) (by decide) (all1 r_c0.1) (leB rfl) (leB rfl) (leB rfl) (leB rfl) z_x1 (Or.inr s_x1) rfl ?_
  intro T h L X K S_x1
  replace V_b1 := V_b1.keep K (ninS ne_b1_x1 nin0)
  replace lt_b1 := Nat.lt_of_lt_of_le lt_b1 K.1
  replace E_x1 := E_x1.keep K
  replace lt_x1 := Nat.lt_of_lt_of_le lt_x1 K.1
  exact X.retAN rfl rfl d5_21 (by decide) (by decide) ⟨_, rfl, x1, rfl, s_x1, S_x1.exa⟩
set_option maxRecDepth 65536 in
set_option maxHeartbeats 40000000 in
theorem ef_rmRNN (m : MethodId) (a1 : Addr) : entryFrame m #[(.ref a1)] 1 = mkF m 0 #[.val (.ref a1)] [] := by first | (simp [entryFrame, mkF, argsToLocals, Value.category]; done) | (rfl)
set_option maxRecDepth 65536 in
set_option maxHeartbeats 40000000 in
theorem rmRNN (l : Launch) (Z : State) (a0 : Array Value) (hw : ∀ d ∈ tables_1, d.before a0 Z = true) (a1 : Addr) (h0 : Heap) (O : Ext Z.heap h0)  :
    MN l Z (⟨"java/util/Objects", "requireNonNull", "(Ljava/lang/Object;)Ljava/lang/Object;"⟩ : MethodName) jdk_31_method_10_code 1 (some (.object "java/lang/Object")) [] ({ frames := 0, cells := 0, slots := 0, locals := 0 } : Room) #[(.ref a1)] h0 [] (RP h0 (fun w => w = .ref a1)) := by
  refine MN.mk (a0 := a0) rfl rfl (plainFor_of_name pn7) O (fun m => ef_rmRNN m a1) ?_
  intro pg ev s m below meth cd T hh X
  subst hh
  refine X.aloadN (pc' := 1) d28_0 rfl rfl rfl ?_
  refine X.nonY (pc' := 12) d28_1 (by decide) (by decide) ?_
  refine X.aloadN (pc' := 13) d28_12 rfl rfl rfl ?_
  exact X.retAN rfl rfl d28_13 (by decide) (by decide) ⟨_, rfl, rfl, rfl⟩
set_option maxRecDepth 65536 in
set_option maxHeartbeats 40000000 in
theorem ef_rmPCI (m : MethodId) (i : Int32) (n : Int32) : entryFrame m #[(.int i), (.int n), .null] 3 = mkF m 0 #[.val (.int i), .val (.int n), .val .null] [] := by first | (simp [entryFrame, mkF, argsToLocals, Value.category]; done) | (rfl)
set_option maxRecDepth 65536 in
set_option maxHeartbeats 40000000 in
theorem rmPCI (l : Launch) (Z : State) (a0 : Array Value) (hw : ∀ d ∈ tables_1, d.before a0 Z = true) (i : Int32) (n : Int32) (h0 : Heap) (O : Ext Z.heap h0) (hi : ¬ i < 0 ∧ i < n) :
    MN l Z (⟨"jdk/internal/util/Preconditions", "checkIndex", "(IILjava/util/function/BiFunction;)I"⟩ : MethodName) jdk_41_method_11_code 3 (some .int) [] ({ frames := 0, cells := 0, slots := 0, locals := 0 } : Room) #[(.int i), (.int n), .null] h0 [] (RP h0 (fun w => w = .int i)) := by
  refine MN.mk (a0 := a0) rfl rfl (plainFor_of_name pn8) O (fun m => ef_rmPCI m i n) ?_
  intro pg ev s m below meth cd T hh X
  subst hh
  refine X.iloadN (pc' := 1) d31_0 rfl rfl ?_
  refine X.ifN (pc' := 4) d31_1 ((if0 _ _).trans (flt hi.1).1) rfl ?_
  refine X.iloadN (pc' := 5) d31_4 rfl rfl ?_
  refine X.iloadN (pc' := 6) d31_5 rfl rfl ?_
  refine X.icY (pc' := 16) d31_6 ((tlt hi.2).1) (by decide) (by decide) ?_
  refine X.iloadN (pc' := 17) d31_16 rfl rfl ?_
  exact X.retIN (by simp) rfl d31_17 (by decide) (by decide) ⟨_, rfl, rfl, rfl⟩
set_option maxRecDepth 65536 in
set_option maxHeartbeats 40000000 in
theorem ef_rmOCI (m : MethodId) (i : Int32) (n : Int32) : entryFrame m #[(.int i), (.int n)] 2 = mkF m 0 #[.val (.int i), .val (.int n)] [] := by first | (simp [entryFrame, mkF, argsToLocals, Value.category]; done) | (rfl)
set_option maxRecDepth 65536 in
set_option maxHeartbeats 40000000 in
theorem rmOCI (l : Launch) (Z : State) (a0 : Array Value) (hw : ∀ d ∈ tables_1, d.before a0 Z = true) (i : Int32) (n : Int32) (h0 : Heap) (O : Ext Z.heap h0) (hi : ¬ i < 0 ∧ i < n) :
    MN l Z (⟨"java/util/Objects", "checkIndex", "(II)I"⟩ : MethodName) jdk_31_method_17_code 2 (some .int) [] ({ frames := 1, cells := 0, slots := 0, locals := 20 } : Room) #[(.int i), (.int n)] h0 [] (RP h0 (fun w => w = .int i)) := by
  refine MN.mk (a0 := a0) rfl rfl (plainFor_of_name pn7) O (fun m => ef_rmOCI m i n) ?_
  intro pg ev s m below meth cd T hh X
  subst hh
  refine X.iloadN (pc' := 1) d30_0 rfl rfl ?_
  refine X.iloadN (pc' := 2) d30_1 rfl rfl ?_
  refine X.aconstNull (pc' := 3) d30_2 rfl ?_
  refine X.callP (pc' := 6) (X.sStatic (wd199 hw) (wd200 hw) (wd201 hw) (wd202 hw) (by decide) rfl pd8 [(.int i), (.int n), .null] rfl rfl d30_3) (rmPCI l Z a0 hw i n _ X.old hi) (wd202 hw) (wd201 hw) (leB rfl) (leB rfl) (leB rfl) (leB rfl) rfl ?_
  intro T L v X q
  subst q
  exact X.retIN (by simp) rfl d30_6 (by decide) (by decide) ⟨_, rfl, rfl, rfl⟩
set_option maxRecDepth 65536 in
set_option maxHeartbeats 40000000 in
theorem ef_rmED (m : MethodId) (a1 : Addr) (i : Int32) : entryFrame m #[(.ref a1), (.int i)] 2 = mkF m 0 #[.val (.ref a1), .val (.int i)] [] := by first | (simp [entryFrame, mkF, argsToLocals, Value.category]; done) | (rfl)
set_option maxRecDepth 65536 in
set_option maxHeartbeats 40000000 in
theorem rmED (l : Launch) (Z : State) (a0 : Array Value) (hw : ∀ d ∈ tables_1, d.before a0 Z = true) (a1 : Addr) (i : Int32) (h0 : Heap) (O : Ext Z.heap h0) (d : Addr) (n mc : Int32) (A1 : AL Z h0 a1 (.ref d) n mc) (cap : Int32) (vs : List Value) (V_d : OA Z h0 d cap vs) (hi : ¬ i < 0 ∧ i < n) (hic : i < cap) (e : Addr) (he : vs.getD i.toNatClampNeg .null = .ref e) :
    MN l Z (⟨"java/util/ArrayList", "elementData", "(I)Ljava/lang/Object;"⟩ : MethodName) jdk_38_method_18_code 2 (some (.object "java/lang/Object")) [] ({ frames := 0, cells := 0, slots := 0, locals := 0 } : Room) #[(.ref a1), (.int i)] h0 [] (RP h0 (fun w => w = .ref e)) := by
  refine MN.mk (a0 := a0) rfl rfl (plainFor_of_name pn2) O (fun m => ef_rmED m a1 i) ?_
  intro pg ev s m below meth cd T hh X
  subst hh
  refine X.aloadN (pc' := 1) d32_0 rfl rfl rfl ?_
  refine X.getF (pc' := 4) (wd24 hw) Via.refl A1.2.1 d32_1 rfl ?_
  intro T X
  refine X.iloadN (pc' := 5) d32_4 rfl rfl ?_
  obtain ⟨kd, Vd, Od, Ed⟩ := V_d
  refine X.aaload (pc' := 6) Vd ⟨hi.1, hic⟩ he d32_5 rfl ?_
  exact X.retAN rfl rfl d32_6 (by decide) (by decide) ⟨_, rfl, rfl, rfl⟩
set_option maxRecDepth 65536 in
set_option maxHeartbeats 40000000 in
theorem ef_rmGet (m : MethodId) (a1 : Addr) (i : Int32) : entryFrame m #[(.ref a1), (.int i)] 2 = mkF m 0 #[.val (.ref a1), .val (.int i)] [] := by first | (simp [entryFrame, mkF, argsToLocals, Value.category]; done) | (rfl)
set_option maxRecDepth 65536 in
set_option maxHeartbeats 40000000 in
theorem rmGet (l : Launch) (Z : State) (a0 : Array Value) (hw : ∀ d ∈ tables_1, d.before a0 Z = true) (a1 : Addr) (i : Int32) (h0 : Heap) (O : Ext Z.heap h0) (d : Addr) (n mc : Int32) (A1 : AL Z h0 a1 (.ref d) n mc) (cap : Int32) (vs : List Value) (V_d : OA Z h0 d cap vs) (hi : ¬ i < 0 ∧ i < n) (hic : i < cap) (e : Addr) (he : vs.getD i.toNatClampNeg .null = .ref e) :
    MN l Z (⟨"java/util/ArrayList", "get", "(I)Ljava/lang/Object;"⟩ : MethodName) jdk_38_method_20_code 2 (some (.object "java/lang/Object")) [] ({ frames := 2, cells := 0, slots := 0, locals := 40 } : Room) #[(.ref a1), (.int i)] h0 [] (RP h0 (fun w => w = .ref e)) := by
  refine MN.mk (a0 := a0) rfl rfl (plainFor_of_name pn2) O (fun m => ef_rmGet m a1 i) ?_
  intro pg ev s m below meth cd T hh X
  subst hh
  refine X.iloadN (pc' := 1) d37_0 rfl rfl ?_
  refine X.aloadN (pc' := 2) d37_1 rfl rfl rfl ?_
  refine X.getF (pc' := 5) (wd65 hw) Via.refl A1.2.2.1 d37_2 rfl ?_
  intro T X
  refine X.callP (pc' := 8) (X.sStatic (wd196 hw) (wd197 hw) (wd178 hw) (wd198 hw) (by decide) rfl pd1 [(.int i), (.int n)] rfl rfl d37_5) (rmOCI l Z a0 hw i n _ X.old hi) (wd198 hw) (wd178 hw) (leB rfl) (leB rfl) (leB rfl) (leB rfl) rfl ?_
  intro T L v X q
  subst q
  refine X.pop (pc' := 9) d37_8 rfl rfl ?_
  refine X.aloadN (pc' := 10) d37_9 rfl rfl rfl ?_
  refine X.iloadN (pc' := 11) d37_10 rfl rfl ?_
  refine X.callP (pc' := 14) (X.sVirtual (wd203 hw) (wd204 hw) (wd206 hw) (wd205 hw) (by decide) rfl pd9 A1.1 [(.int i)] rfl rfl d37_11 (X.nf (wd61 hw) rfl)) (rmED l Z a0 hw a1 i _ X.old d n mc A1 cap vs V_d hi hic e he) (wd207 hw) (wd2 hw) (leB rfl) (leB rfl) (leB rfl) (leB rfl) rfl ?_
  intro T L v X q
  subst q
  exact X.retAN rfl rfl d37_14 (by decide) (by decide) ⟨_, rfl, rfl, rfl⟩
set_option maxRecDepth 65536 in
set_option maxHeartbeats 40000000 in
theorem ef_rmSet (m : MethodId) (a1 : Addr) (i : Int32) (y : Addr) : entryFrame m #[(.ref a1), (.int i), (.ref y)] 4 = mkF m 0 #[.val (.ref a1), .val (.int i), .val (.ref y), .unset] [] := by first | (simp [entryFrame, mkF, argsToLocals, Value.category]; done) | (rfl)
set_option maxRecDepth 65536 in
set_option maxHeartbeats 40000000 in
theorem rmSet (l : Launch) (Z : State) (a0 : Array Value) (hw : ∀ d ∈ tables_1, d.before a0 Z = true) (a1 : Addr) (i : Int32) (y : Addr) (h0 : Heap) (O : Ext Z.heap h0) (d : Addr) (n mc : Int32) (A1 : AL Z h0 a1 (.ref d) n mc) (cap : Int32) (vs : List Value) (V_d : OA Z h0 d cap vs) (hi : ¬ i < 0 ∧ i < n) (hic : i < cap) (e : Addr) (he : vs.getD i.toNatClampNeg .null = .ref e) (hvl : i.toNatClampNeg < vs.length) (zd : Z.heap.size ≤ d) (Cy : String) (wcy : (Cond.castable Cy "java/lang/Object").before a0 Z = true) (E_y : Exa Z h0 y Cy) :
    MN l Z (⟨"java/util/ArrayList", "set", "(ILjava/lang/Object;)Ljava/lang/Object;"⟩ : MethodName) jdk_38_method_23_code 4 (some (.object "java/lang/Object")) [] ({ frames := 2, cells := 0, slots := 0, locals := 40 } : Room) #[(.ref a1), (.int i), (.ref y)] h0 [d] (RV (fun w h => w = .ref e ∧ True)) := by
  refine MN.mk (a0 := a0) rfl rfl (plainFor_of_name pn2) O (fun m => ef_rmSet m a1 i y) ?_
  intro pg ev s m below meth cd T hh X
  subst hh
  have lt_a1 := A1.lt
  refine X.iloadN (pc' := 1) d29_0 rfl rfl ?_
  refine X.aloadN (pc' := 2) d29_1 rfl rfl rfl ?_
  refine X.getF (pc' := 5) (wd65 hw) Via.refl A1.2.2.1 d29_2 rfl ?_
  intro T X
  refine X.callP (pc' := 8) (X.sStatic (wd196 hw) (wd197 hw) (wd178 hw) (wd198 hw) (by decide) rfl pd1 [(.int i), (.int n)] rfl rfl d29_5) (rmOCI l Z a0 hw i n _ X.old hi) (wd198 hw) (wd178 hw) (leB rfl) (leB rfl) (leB rfl) (leB rfl) rfl ?_
  intro T L v X q
  subst q
  refine X.pop (pc' := 9) d29_8 rfl rfl ?_
  refine X.aloadN (pc' := 10) d29_9 rfl rfl rfl ?_
  refine X.iloadN (pc' := 11) d29_10 rfl rfl ?_
  refine X.callP (pc' := 14) (X.sVirtual (wd203 hw) (wd204 hw) (wd206 hw) (wd205 hw) (by decide) rfl pd9 A1.1 [(.int i)] rfl rfl d29_11 (X.nf (wd61 hw) rfl)) (rmED l Z a0 hw a1 i _ X.old d n mc A1 cap vs V_d hi hic e he) (wd207 hw) (wd2 hw) (leB rfl) (leB rfl) (leB rfl) (leB rfl) rfl ?_
  intro T L v X q
  subst q
  refine X.astoreN (pc' := 15) #[.val (.ref a1), .val (.int i), .val (.ref y), .val (.ref e)] d29_14 rfl rfl rfl ?_
  refine X.aloadN (pc' := 16) d29_15 rfl rfl rfl ?_
  refine X.getF (pc' := 19) (wd24 hw) Via.refl A1.2.1 d29_16 rfl ?_
  intro T X
  refine X.iloadN (pc' := 20) d29_19 rfl rfl ?_
  refine X.aloadN (pc' := 21) d29_20 rfl rfl rfl ?_
  obtain ⟨kd, Vd, Od, Ed⟩ := V_d
  refine X.aastore (pc' := 22) Vd Od (Ins.of_exa E_y wcy) ⟨hi.1, hic⟩ _ rfl hvl zd (Or.inl (List.mem_of_getElem? (i := 0) rfl)) d29_21 rfl ?_
  intro T h L X W V1
  refine X.aloadN (pc' := 23) d29_22 rfl rfl rfl ?_
  exact X.retAN rfl rfl d29_23 (by decide) (by decide) ⟨_, rfl, rfl, trivial⟩
set_option maxRecDepth 65536 in
set_option maxHeartbeats 40000000 in
theorem ef_rmSize (m : MethodId) (a1 : Addr) : entryFrame m #[(.ref a1)] 1 = mkF m 0 #[.val (.ref a1)] [] := by first | (simp [entryFrame, mkF, argsToLocals, Value.category]; done) | (rfl)
set_option maxRecDepth 65536 in
set_option maxHeartbeats 40000000 in
theorem rmSize (l : Launch) (Z : State) (a0 : Array Value) (hw : ∀ d ∈ tables_1, d.before a0 Z = true) (a1 : Addr) (h0 : Heap) (O : Ext Z.heap h0) (ed : Value) (n mc : Int32) (A1 : AL Z h0 a1 ed n mc) :
    MN l Z (⟨"java/util/ArrayList", "size", "()I"⟩ : MethodName) jdk_38_method_8_code 1 (some .int) [] ({ frames := 0, cells := 0, slots := 0, locals := 0 } : Room) #[(.ref a1)] h0 [] (RP h0 (fun w => w = .int n)) := by
  refine MN.mk (a0 := a0) rfl rfl (plainFor_of_name pn2) O (fun m => ef_rmSize m a1) ?_
  intro pg ev s m below meth cd T hh X
  subst hh
  refine X.aloadN (pc' := 1) d36_0 rfl rfl rfl ?_
  refine X.getF (pc' := 4) (wd65 hw) Via.refl A1.2.2.1 d36_1 rfl ?_
  intro T X
  exact X.retIN (by simp) rfl d36_4 (by decide) (by decide) ⟨_, rfl, rfl, rfl⟩
set_option maxRecDepth 65536 in
set_option maxHeartbeats 40000000 in
theorem ef_rmAIC (m : MethodId) (a1 : Addr) : entryFrame m #[(.ref a1)] 1 = mkF m 0 #[.val (.ref a1)] [] := by first | (simp [entryFrame, mkF, argsToLocals, Value.category]; done) | (rfl)
set_option maxRecDepth 65536 in
set_option maxHeartbeats 40000000 in
theorem rmAIC (l : Launch) (Z : State) (a0 : Array Value) (hw : ∀ d ∈ tables_1, d.before a0 Z = true) (a1 : Addr) (h0 : Heap) (O : Ext Z.heap h0)  :
    MN l Z (⟨"java/util/ImmutableCollections$AbstractImmutableCollection", "<init>", "()V"⟩ : MethodName) jdk_47_method_1_code 1 none [] ({ frames := 2, cells := 0, slots := 0, locals := 30 } : Room) #[(.ref a1)] h0 [] (RO h0) := by
  refine MN.mk (a0 := a0) rfl rfl (plainFor_of_name pn9) O (fun m => ef_rmAIC m a1) ?_
  intro pg ev s m below meth cd T hh X
  subst hh
  refine X.aloadN (pc' := 1) d27_0 rfl rfl rfl ?_
  refine X.callO (pc' := 4) (X.sSpecial rfl (wd174 hw) (wd13 hw) (wd17 hw) (by decide) rfl pd0 [] rfl rfl d27_1) (rmACI l Z a0 hw a1 _ X.old) (wd17 hw) (wd16 hw) (leB rfl) (leB rfl) (leB rfl) (leB rfl) rfl ?_
  intro T L X
  exact X.retUN d27_4 (by decide) (by decide) ⟨rfl, rfl⟩
set_option maxRecDepth 65536 in
set_option maxHeartbeats 40000000 in
theorem ef_rmAIL (m : MethodId) (a1 : Addr) : entryFrame m #[(.ref a1)] 1 = mkF m 0 #[.val (.ref a1)] [] := by first | (simp [entryFrame, mkF, argsToLocals, Value.category]; done) | (rfl)
set_option maxRecDepth 65536 in
set_option maxHeartbeats 40000000 in
theorem rmAIL (l : Launch) (Z : State) (a0 : Array Value) (hw : ∀ d ∈ tables_1, d.before a0 Z = true) (a1 : Addr) (h0 : Heap) (O : Ext Z.heap h0)  :
    MN l Z (⟨"java/util/ImmutableCollections$AbstractImmutableList", "<init>", "()V"⟩ : MethodName) jdk_46_method_1_code 1 none [] ({ frames := 3, cells := 0, slots := 0, locals := 50 } : Room) #[(.ref a1)] h0 [] (RO h0) := by
  refine MN.mk (a0 := a0) rfl rfl (plainFor_of_name pn10) O (fun m => ef_rmAIL m a1) ?_
  intro pg ev s m below meth cd T hh X
  subst hh
  refine X.aloadN (pc' := 1) d26_0 rfl rfl rfl ?_
  refine X.callO (pc' := 4) (X.sSpecial rfl (wd168 hw) (wd169 hw) (wd173 hw) (by decide) rfl pd0 [] rfl rfl d26_1) (rmAIC l Z a0 hw a1 _ X.old) (wd173 hw) (wd172 hw) (leB rfl) (leB rfl) (leB rfl) (leB rfl) rfl ?_
  intro T L X
  exact X.retUN d26_4 (by decide) (by decide) ⟨rfl, rfl⟩
set_option maxRecDepth 65536 in
set_option maxHeartbeats 40000000 in
theorem ef_rmL12_1 (m : MethodId) (a1 : Addr) (e0 : Addr) : entryFrame m #[(.ref a1), (.ref e0)] 2 = mkF m 0 #[.val (.ref a1), .val (.ref e0)] [] := by first | (simp [entryFrame, mkF, argsToLocals, Value.category]; done) | (rfl)
set_option maxRecDepth 65536 in
set_option maxHeartbeats 40000000 in
theorem rmL12_1 (l : Launch) (Z : State) (a0 : Array Value) (hw : ∀ d ∈ tables_1, d.before a0 Z = true) (a1 : Addr) (e0 : Addr) (h0 : Heap) (O : Ext Z.heap h0) (em : Addr) (SM : Sta Z Z.heap "java/util/ImmutableCollections" "EMPTY" "Ljava/lang/Object;" (.ref em)) (hem : em < Z.heap.size) (za : Z.heap.size ≤ a1) (A1 : L2 Z h0 a1 .null .null) :
    MN l Z (⟨"java/util/ImmutableCollections$List12", "<init>", "(Ljava/lang/Object;)V"⟩ : MethodName) jdk_44_method_1_code 2 none [] ({ frames := 4, cells := 0, slots := 0, locals := 70 } : Room) #[(.ref a1), (.ref e0)] h0 [a1] (RU (fun h => L2 Z h a1 (.ref e0) (.ref em))) := by
  refine MN.mk (a0 := a0) rfl rfl (plainFor_of_name pn11) O (fun m => ef_rmL12_1 m a1 e0) ?_
  intro pg ev s m below meth cd T hh X
  subst hh
  obtain ⟨E_a1, F_a1_e0, F_a1_e1⟩ := A1
  refine X.aloadN (pc' := 1) d25_0 rfl rfl rfl ?_
  refine X.callO (pc' := 4) (X.sSpecial rfl (wd162 hw) (wd163 hw) (wd167 hw) (by decide) rfl pd0 [] rfl rfl d25_1) (rmAIL l Z a0 hw a1 _ X.old) (wd167 hw) (wd166 hw) (leB rfl) (leB rfl) (leB rfl) (leB rfl) rfl ?_
  intro T L X
  refine X.aloadN (pc' := 5) d25_4 rfl rfl rfl ?_
  refine X.aloadN (pc' := 6) d25_5 rfl rfl rfl ?_
  refine X.callP (pc' := 9) (X.sStatic (wd176 hw) (wd177 hw) (wd178 hw) (wd179 hw) (by decide) rfl pd10 [(.ref e0)] rfl rfl d25_6) (rmRNN l Z a0 hw e0 _ X.old) (wd179 hw) (wd178 hw) (leB rfl) (leB rfl) (leB rfl) (leB rfl) rfl ?_
  intro T L v X q
  subst q
  refine X.putF (pc' := 12) (wd180 hw) Via.refl F_a1_e0 E_a1 (Or.inr ⟨(wd181 hw), rfl, rfl⟩) (wd156 hw) (.object "java/lang/Object") (by decide) rfl rfl safeE za (Or.inl (List.mem_of_getElem? (i := 0) rfl)) d25_9 rfl ?_
  intro T h L X W
  replace E_a1 := E_a1.wr W
  replace F_a1_e1 := F_a1_e1.other W (Or.inr (slot_ne (Or.inr (wd184 hw)) (Or.inr (wd181 hw)) (by decide) (t := (.object "java/lang/Object")) (t' := (.object "java/lang/Object")) (by decide) (by decide)))
  replace F_a1_e0 := F_a1_e0.same W
  refine X.aloadN (pc' := 13) d25_12 rfl rfl rfl ?_
  refine X.getSN (pc' := 16) (wd182 hw) Via.refl SM d25_13 rfl ?_
  intro T X
  refine X.putF (pc' := 19) (wd183 hw) Via.refl F_a1_e1 E_a1 (Or.inr ⟨(wd184 hw), rfl, rfl⟩) (wd156 hw) (.object "java/lang/Object") (by decide) rfl rfl safeE za (Or.inl (List.mem_of_getElem? (i := 0) rfl)) d25_16 rfl ?_
  intro T h L X W
  replace E_a1 := E_a1.wr W
  replace F_a1_e0 := F_a1_e0.other W (Or.inr (slot_ne (Or.inr (wd181 hw)) (Or.inr (wd184 hw)) (by decide) (t := (.object "java/lang/Object")) (t' := (.object "java/lang/Object")) (by decide) (by decide)))
  replace F_a1_e1 := F_a1_e1.same W
  exact X.retUN d25_19 (by decide) (by decide) ⟨rfl, E_a1, F_a1_e0, F_a1_e1⟩
set_option maxRecDepth 65536 in
set_option maxHeartbeats 40000000 in
theorem ef_rmL12_2 (m : MethodId) (a1 : Addr) (e0 : Addr) (e1 : Addr) : entryFrame m #[(.ref a1), (.ref e0), (.ref e1)] 3 = mkF m 0 #[.val (.ref a1), .val (.ref e0), .val (.ref e1)] [] := by first | (simp [entryFrame, mkF, argsToLocals, Value.category]; done) | (rfl)
set_option maxRecDepth 65536 in
set_option maxHeartbeats 40000000 in
theorem rmL12_2 (l : Launch) (Z : State) (a0 : Array Value) (hw : ∀ d ∈ tables_1, d.before a0 Z = true) (a1 : Addr) (e0 : Addr) (e1 : Addr) (h0 : Heap) (O : Ext Z.heap h0)  (za : Z.heap.size ≤ a1) (A1 : L2 Z h0 a1 .null .null) :
    MN l Z (⟨"java/util/ImmutableCollections$List12", "<init>", "(Ljava/lang/Object;Ljava/lang/Object;)V"⟩ : MethodName) jdk_44_method_2_code 3 none [] ({ frames := 4, cells := 0, slots := 0, locals := 70 } : Room) #[(.ref a1), (.ref e0), (.ref e1)] h0 [a1] (RU (fun h => L2 Z h a1 (.ref e0) (.ref e1))) := by
  refine MN.mk (a0 := a0) rfl rfl (plainFor_of_name pn11) O (fun m => ef_rmL12_2 m a1 e0 e1) ?_
  intro pg ev s m below meth cd T hh X
  subst hh
  obtain ⟨E_a1, F_a1_e0, F_a1_e1⟩ := A1
  refine X.aloadN (pc' := 1) d39_0 rfl rfl rfl ?_
  refine X.callO (pc' := 4) (X.sSpecial rfl (wd162 hw) (wd163 hw) (wd167 hw) (by decide) rfl pd0 [] rfl rfl d39_1) (rmAIL l Z a0 hw a1 _ X.old) (wd167 hw) (wd166 hw) (leB rfl) (leB rfl) (leB rfl) (leB rfl) rfl ?_
  intro T L X
  refine X.aloadN (pc' := 5) d39_4 rfl rfl rfl ?_
  refine X.aloadN (pc' := 6) d39_5 rfl rfl rfl ?_
  refine X.callP (pc' := 9) (X.sStatic (wd176 hw) (wd177 hw) (wd178 hw) (wd179 hw) (by decide) rfl pd10 [(.ref e0)] rfl rfl d39_6) (rmRNN l Z a0 hw e0 _ X.old) (wd179 hw) (wd178 hw) (leB rfl) (leB rfl) (leB rfl) (leB rfl) rfl ?_
  intro T L v X q
  subst q
  refine X.putF (pc' := 12) (wd180 hw) Via.refl F_a1_e0 E_a1 (Or.inr ⟨(wd181 hw), rfl, rfl⟩) (wd156 hw) (.object "java/lang/Object") (by decide) rfl rfl safeE za (Or.inl (List.mem_of_getElem? (i := 0) rfl)) d39_9 rfl ?_
  intro T h L X W
  replace E_a1 := E_a1.wr W
  replace F_a1_e1 := F_a1_e1.other W (Or.inr (slot_ne (Or.inr (wd184 hw)) (Or.inr (wd181 hw)) (by decide) (t := (.object "java/lang/Object")) (t' := (.object "java/lang/Object")) (by decide) (by decide)))
  replace F_a1_e0 := F_a1_e0.same W
  refine X.aloadN (pc' := 13) d39_12 rfl rfl rfl ?_
  refine X.aloadN (pc' := 14) d39_13 rfl rfl rfl ?_
  refine X.callP (pc' := 17) (X.sStatic (wd176 hw) (wd177 hw) (wd178 hw) (wd179 hw) (by decide) rfl pd10 [(.ref e1)] rfl rfl d39_14) (rmRNN l Z a0 hw e1 _ X.old) (wd179 hw) (wd178 hw) (leB rfl) (leB rfl) (leB rfl) (leB rfl) rfl ?_
  intro T L v X q
  subst q
  refine X.putF (pc' := 20) (wd183 hw) Via.refl F_a1_e1 E_a1 (Or.inr ⟨(wd184 hw), rfl, rfl⟩) (wd156 hw) (.object "java/lang/Object") (by decide) rfl rfl safeE za (Or.inl (List.mem_of_getElem? (i := 0) rfl)) d39_17 rfl ?_
  intro T h L X W
  replace E_a1 := E_a1.wr W
  replace F_a1_e0 := F_a1_e0.other W (Or.inr (slot_ne (Or.inr (wd181 hw)) (Or.inr (wd184 hw)) (by decide) (t := (.object "java/lang/Object")) (t' := (.object "java/lang/Object")) (by decide) (by decide)))
  replace F_a1_e1 := F_a1_e1.same W
  exact X.retUN d39_20 (by decide) (by decide) ⟨rfl, E_a1, F_a1_e0, F_a1_e1⟩
set_option maxRecDepth 65536 in
set_option maxHeartbeats 40000000 in
theorem ef_rmLN (m : MethodId) (a1 : Addr) (el : Addr) : entryFrame m #[(.ref a1), (.ref el), (.int (0 : Int32))] 3 = mkF m 0 #[.val (.ref a1), .val (.ref el), .val (.int (0 : Int32))] [] := by first | (simp [entryFrame, mkF, argsToLocals, Value.category]; done) | (rfl)
set_option maxRecDepth 65536 in
set_option maxHeartbeats 40000000 in
theorem rmLN (l : Launch) (Z : State) (a0 : Array Value) (hw : ∀ d ∈ tables_1, d.before a0 Z = true) (a1 : Addr) (el : Addr) (h0 : Heap) (O : Ext Z.heap h0) (za : Z.heap.size ≤ a1) (E_a1 : Exa Z h0 a1 "java/util/ImmutableCollections$ListN") (F_a1_elements : Fld Z h0 a1 "java/util/ImmutableCollections$ListN" "elements" "[Ljava/lang/Object;" .null) (F_a1_allowNulls : Fld Z h0 a1 "java/util/ImmutableCollections$ListN" "allowNulls" "Z" (.int 0)) :
    MN l Z (⟨"java/util/ImmutableCollections$ListN", "<init>", "([Ljava/lang/Object;Z)V"⟩ : MethodName) jdk_45_method_1_code 3 none [] ({ frames := 4, cells := 0, slots := 0, locals := 70 } : Room) #[(.ref a1), (.ref el), (.int (0 : Int32))] h0 [a1] (RU (fun h => Exa Z h a1 "java/util/ImmutableCollections$ListN" ∧ Fld Z h a1 "java/util/ImmutableCollections$ListN" "elements" "[Ljava/lang/Object;" (.ref el))) := by
  refine MN.mk (a0 := a0) rfl rfl (plainFor_of_name pn12) O (fun m => ef_rmLN m a1 el) ?_
  intro pg ev s m below meth cd T hh X
  subst hh
  refine X.aloadN (pc' := 1) d41_0 rfl rfl rfl ?_
  refine X.callO (pc' := 4) (X.sSpecial rfl (wd261 hw) (wd163 hw) (wd167 hw) (by decide) rfl pd0 [] rfl rfl d41_1) (rmAIL l Z a0 hw a1 _ X.old) (wd167 hw) (wd166 hw) (leB rfl) (leB rfl) (leB rfl) (leB rfl) rfl ?_
  intro T L X
  refine X.aloadN (pc' := 5) d41_4 rfl rfl rfl ?_
  refine X.aloadN (pc' := 6) d41_5 rfl rfl rfl ?_
  refine X.putF (pc' := 9) (wd265 hw) Via.refl F_a1_elements E_a1 (Or.inr ⟨(wd266 hw), rfl, rfl⟩) (wd255 hw) (.array (.object "java/lang/Object")) (by decide) rfl rfl safeE za (Or.inl (List.mem_of_getElem? (i := 0) rfl)) d41_6 rfl ?_
  intro T h L X W
  replace E_a1 := E_a1.wr W
  replace F_a1_allowNulls := F_a1_allowNulls.other W (Or.inr (slot_ne (Or.inr (wd268 hw)) (Or.inr (wd266 hw)) (by decide) (t := .boolean) (t' := (.array (.object "java/lang/Object"))) (by decide) (by decide)))
  replace F_a1_elements := F_a1_elements.same W
  refine X.aloadN (pc' := 10) d41_9 rfl rfl rfl ?_
  refine X.iloadN (pc' := 11) d41_10 rfl rfl ?_
  refine X.putF (pc' := 14) (wd267 hw) Via.refl F_a1_allowNulls E_a1 (Or.inr ⟨(wd268 hw), rfl, rfl⟩) (wd255 hw) .boolean (by decide) rfl rfl safeE za (Or.inl (List.mem_of_getElem? (i := 0) rfl)) d41_11 rfl ?_
  intro T h L X W
  replace E_a1 := E_a1.wr W
  replace F_a1_elements := F_a1_elements.other W (Or.inr (slot_ne (Or.inr (wd266 hw)) (Or.inr (wd268 hw)) (by decide) (t := (.array (.object "java/lang/Object"))) (t' := .boolean) (by decide) (by decide)))
  replace F_a1_allowNulls := F_a1_allowNulls.same W
  exact X.retUN d41_14 (by decide) (by decide) ⟨rfl, E_a1, F_a1_elements⟩
set_option maxRecDepth 65536 in
set_option maxHeartbeats 40000000 in
theorem ef_rmLFA_3 (m : MethodId) (r : Addr) : entryFrame m #[(.ref r)] 3 = mkF m 0 #[.val (.ref r), .unset, .unset] [] := by first | (simp [entryFrame, mkF, argsToLocals, Value.category]; done) | (rfl)
set_option maxRecDepth 65536 in
set_option maxHeartbeats 40000000 in
theorem rmLFA_3 (l : Launch) (Z : State) (a0 : Array Value) (hw : ∀ d ∈ tables_1, d.before a0 Z = true) (r : Addr) (h0 : Heap) (O : Ext Z.heap h0) (e0 : Addr) (C0 : String) (wc0 : (Cond.castable C0 "java/lang/Object").before a0 Z = true) (E_e0 : Exa Z h0 e0 C0) (e1 : Addr) (C1 : String) (wc1 : (Cond.castable C1 "java/lang/Object").before a0 Z = true) (E_e1 : Exa Z h0 e1 C1) (e2 : Addr) (C2 : String) (wc2 : (Cond.castable C2 "java/lang/Object").before a0 Z = true) (E_e2 : Exa Z h0 e2 C2) (V_r : OA Z h0 r (3 : Int32) [(.ref e0), (.ref e1), (.ref e2)]) :
    MN l Z (⟨"java/util/ImmutableCollections", "listFromArray", "([Ljava/lang/Object;)Ljava/util/List;"⟩ : MethodName) jdk_56_method_4_code 3 (some (.object "java/util/List")) [] ({ frames := 5, cells := 2, slots := 11, locals := 90 } : Room) #[(.ref r)] h0 [] (RV (fun w h => ∃ u, w = .ref u ∧ h0.size ≤ u ∧ LN Z h h0.size u (3 : Int32) [(.ref e0), (.ref e1), (.ref e2)])) := by
  refine MN.mk (a0 := a0) rfl rfl (plainFor_of_name pn13) O (fun m => ef_rmLFA_3 m r) ?_
  intro pg ev s m below meth cd T hh X
  subst hh
  have lt_r := V_r.lt
  refine X.aloadN (pc' := 1) d40_0 rfl rfl rfl ?_
  obtain ⟨kr, Vr, -, -⟩ := id V_r
  refine X.alen (pc' := 2) Vr d40_1 rfl ?_
  refine X.newR (pc' := 5) (ad := "[Ljava/lang/Object;") (wd253 hw) (wd87 hw) (by decide) d40_2 (by decide) 3 (by decide) (by decide) (by decide) (by decide) rfl ?_
  intro T h y ka_y g_y Ex lt_y V_y Ea_y Ov_y X1
  have z_y : Z.heap.size ≤ y := by rw [g_y]; exact X.old.1
  have s_y : s.heap.size ≤ y := by rw [g_y]; exact X.kp.1
  have ne_r_y : r ≠ y := Nat.ne_of_lt (by rw [g_y]; exact lt_r)
  replace E_e0 := E_e0.ext Ex
  replace E_e1 := E_e1.ext Ex
  replace E_e2 := E_e2.ext Ex
  replace V_r := V_r.ext Ex
  replace lt_r := Nat.lt_of_lt_of_le lt_r Ex.1
  replace X := X1
  have V_y : OA Z h y (3 : Int32) [(.null), (.null), (.null)] := ⟨ka_y, (Arv.pad V_y (pad_rep [] .null 3)), Ov_y, Ea_y⟩
  refine X.astoreN (pc' := 6) #[.val (.ref r), .val (.ref y), .unset] d40_5 rfl rfl rfl ?_
  refine X.iconst (pc' := 7) (0 : Int32) d40_6 rfl rfl ?_
  refine X.istoreN (pc' := 8) #[.val (.ref r), .val (.ref y), .val (.int (0 : Int32))] d40_7 rfl rfl ?_
  refine X.iloadN (pc' := 9) d40_8 rfl rfl ?_
  refine X.aloadN (pc' := 10) d40_9 rfl rfl rfl ?_
  obtain ⟨kr0, Vr0, -, -⟩ := id V_r
  refine X.alen (pc' := 11) Vr0 d40_10 rfl ?_
  refine X.icN (pc' := 14) d40_11 (by decide) rfl ?_
  refine X.aloadN (pc' := 15) d40_14 rfl rfl rfl ?_
  refine X.iloadN (pc' := 16) d40_15 rfl rfl ?_
  refine X.aloadN (pc' := 17) d40_16 rfl rfl rfl ?_
  refine X.iloadN (pc' := 18) d40_17 rfl rfl ?_
  obtain ⟨kd, Vd, Od, Ed⟩ := id V_r
  refine X.aaload (pc' := 19) Vd ⟨by decide, by decide⟩ rfl d40_18 rfl ?_
  refine X.callP (pc' := 22) (X.sStatic (wd254 hw) (wd177 hw) (wd178 hw) (wd179 hw) (by decide) rfl pd10 [(.ref e0)] rfl rfl d40_19) (rmRNN l Z a0 hw e0 _ X.old) (wd179 hw) (wd178 hw) (leB rfl) (leB rfl) (leB rfl) (leB rfl) rfl ?_
  intro T L v X q
  subst q
  obtain ⟨ky, Vy, Oy, Ey⟩ := V_y
  refine X.aastore (pc' := 23) Vy Oy (Ins.of_exa E_e0 wc0) ⟨by decide, by decide⟩ 0 rfl (leB rfl) z_y (Or.inr s_y) d40_22 rfl ?_
  intro T h L X W V1
  replace E_e0 := E_e0.wr W
  replace E_e1 := E_e1.wr W
  replace E_e2 := E_e2.wr W
  replace V_r := V_r.other W ne_r_y
  replace lt_r := Nat.lt_of_lt_of_le lt_r (Keep.of_wr W).1
  replace lt_y := Nat.lt_of_lt_of_le lt_y (Keep.of_wr W).1
  replace Ey := Ey.wr W
  have V_y : OA Z h y (3 : Int32) [(.ref e0), (.null), (.null)] := ⟨ky, V1, Oy, Ey⟩
  refine X.iinc (pc' := 26) #[.val (.ref r), .val (.ref y), .val (.int (1 : Int32))] d40_23 rfl rfl rfl ?_
  refine X.goto (pc' := 8) d40_26 (by decide) (by decide) ?_
  refine X.iloadN (pc' := 9) d40_8 rfl rfl ?_
  refine X.aloadN (pc' := 10) d40_9 rfl rfl rfl ?_
  obtain ⟨kr1, Vr1, -, -⟩ := id V_r
  refine X.alen (pc' := 11) Vr1 d40_10 rfl ?_
  refine X.icN (pc' := 14) d40_11 (by decide) rfl ?_
  refine X.aloadN (pc' := 15) d40_14 rfl rfl rfl ?_
  refine X.iloadN (pc' := 16) d40_15 rfl rfl ?_
  refine X.aloadN (pc' := 17) d40_16 rfl rfl rfl ?_
  refine X.iloadN (pc' := 18) d40_17 rfl rfl ?_
  obtain ⟨kd, Vd, Od, Ed⟩ := id V_r
  refine X.aaload (pc' := 19) Vd ⟨by decide, by decide⟩ rfl d40_18 rfl ?_
  refine X.callP (pc' := 22) (X.sStatic (wd254 hw) (wd177 hw) (wd178 hw) (wd179 hw) (by decide) rfl pd10 [(.ref e1)] rfl rfl d40_19) (rmRNN l Z a0 hw e1 _ X.old) (wd179 hw) (wd178 hw) (leB rfl) (leB rfl) (leB rfl) (leB rfl) rfl ?_
  intro T L v X q
  subst q
  obtain ⟨ky, Vy, Oy, Ey⟩ := V_y
  refine X.aastore (pc' := 23) Vy Oy (Ins.of_exa E_e1 wc1) ⟨by decide, by decide⟩ 1 rfl (leB rfl) z_y (Or.inr s_y) d40_22 rfl ?_
  intro T h L X W V1
  replace E_e0 := E_e0.wr W
  replace E_e1 := E_e1.wr W
  replace E_e2 := E_e2.wr W
  replace V_r := V_r.other W ne_r_y
  replace lt_r := Nat.lt_of_lt_of_le lt_r (Keep.of_wr W).1
  replace lt_y := Nat.lt_of_lt_of_le lt_y (Keep.of_wr W).1
  replace Ey := Ey.wr W
  have V_y : OA Z h y (3 : Int32) [(.ref e0), (.ref e1), (.null)] := ⟨ky, V1, Oy, Ey⟩
  refine X.iinc (pc' := 26) #[.val (.ref r), .val (.ref y), .val (.int (2 : Int32))] d40_23 rfl rfl rfl ?_
  refine X.goto (pc' := 8) d40_26 (by decide) (by decide) ?_
  refine X.iloadN (pc' := 9) d40_8 rfl rfl ?_
  refine X.aloadN (pc' := 10) d40_9 rfl rfl rfl ?_
  obtain ⟨kr2, Vr2, -, -⟩ := id V_r
  refine X.alen (pc' := 11) Vr2 d40_10 rfl ?_
  refine X.icN (pc' := 14) d40_11 (by decide) rfl ?_
  refine X.aloadN (pc' := 15) d40_14 rfl rfl rfl ?_
  refine X.iloadN (pc' := 16) d40_15 rfl rfl ?_
  refine X.aloadN (pc' := 17) d40_16 rfl rfl rfl ?_
  refine X.iloadN (pc' := 18) d40_17 rfl rfl ?_
  obtain ⟨kd, Vd, Od, Ed⟩ := id V_r
  refine X.aaload (pc' := 19) Vd ⟨by decide, by decide⟩ rfl d40_18 rfl ?_
  refine X.callP (pc' := 22) (X.sStatic (wd254 hw) (wd177 hw) (wd178 hw) (wd179 hw) (by decide) rfl pd10 [(.ref e2)] rfl rfl d40_19) (rmRNN l Z a0 hw e2 _ X.old) (wd179 hw) (wd178 hw) (leB rfl) (leB rfl) (leB rfl) (leB rfl) rfl ?_
  intro T L v X q
  subst q
  obtain ⟨ky, Vy, Oy, Ey⟩ := V_y
  refine X.aastore (pc' := 23) Vy Oy (Ins.of_exa E_e2 wc2) ⟨by decide, by decide⟩ 2 rfl (leB rfl) z_y (Or.inr s_y) d40_22 rfl ?_
  intro T h L X W V1
  replace E_e0 := E_e0.wr W
  replace E_e1 := E_e1.wr W
  replace E_e2 := E_e2.wr W
  replace V_r := V_r.other W ne_r_y
  replace lt_r := Nat.lt_of_lt_of_le lt_r (Keep.of_wr W).1
  replace lt_y := Nat.lt_of_lt_of_le lt_y (Keep.of_wr W).1
  replace Ey := Ey.wr W
  have V_y : OA Z h y (3 : Int32) [(.ref e0), (.ref e1), (.ref e2)] := ⟨ky, V1, Oy, Ey⟩
  refine X.iinc (pc' := 26) #[.val (.ref r), .val (.ref y), .val (.int (3 : Int32))] d40_23 rfl rfl rfl ?_
  refine X.goto (pc' := 8) d40_26 (by decide) (by decide) ?_
  refine X.iloadN (pc' := 9) d40_8 rfl rfl ?_
  refine X.aloadN (pc' := 10) d40_9 rfl rfl rfl ?_
  obtain ⟨kr9, Vr9, -, -⟩ := id V_r
  refine X.alen (pc' := 11) Vr9 d40_10 rfl ?_
  refine X.icY (pc' := 29) d40_11 (by decide) (by decide) (by decide) ?_
  refine X.newO (pc' := 32) (wd112 hw) (wd255 hw) (wd256 hw) d40_29 (by decide) (by decide) rfl ?_
  intro T h u g_u Ex lt_u E_u D_u X1
  have z_u : Z.heap.size ≤ u := by rw [g_u]; exact X.old.1
  have s_u : s.heap.size ≤ u := by rw [g_u]; exact X.kp.1
  have ne_r_u : r ≠ u := Nat.ne_of_lt (by rw [g_u]; exact lt_r)
  have ne_y_u : y ≠ u := Nat.ne_of_lt (by rw [g_u]; exact lt_y)
  replace E_e0 := E_e0.ext Ex
  replace E_e1 := E_e1.ext Ex
  replace E_e2 := E_e2.ext Ex
  replace V_r := V_r.ext Ex
  replace lt_r := Nat.lt_of_lt_of_le lt_r Ex.1
  replace lt_y := Nat.lt_of_lt_of_le lt_y Ex.1
  replace V_y := V_y.ext Ex
  replace X := X1
  have F_u_elements : Fld Z h u "java/util/ImmutableCollections$ListN" "elements" "[Ljava/lang/Object;" .null := D_u (Or.inr (wd266 hw)) (ty := (.array (.object "java/lang/Object"))) (by decide)
  have F_u_allowNulls : Fld Z h u "java/util/ImmutableCollections$ListN" "allowNulls" "Z" (.int (0 : Int32)) := D_u (Or.inr (wd268 hw)) (ty := .boolean) (by decide)
  refine X.dup (pc' := 33) d40_32 rfl rfl ?_
  refine X.aloadN (pc' := 34) d40_33 rfl rfl rfl ?_
  refine X.iconst (pc' := 35) (0 : Int32) d40_34 rfl rfl ?_
  refine X.callU (pc' := 38) (X.sSpecialN rfl (wd257 hw) (wd258 hw) (wd260 hw) (by decide) rfl pd11 [(.ref y), (.int (0 : Int32))] rfl rfl d40_35) (rmLN l Z a0 hw u y _ X.old z_u E_u F_u_elements F_u_allowNulls) (wd260 hw) (wd256 hw) (leB rfl) (leB rfl) (leB rfl) (leB rfl) (sfS safeE sf0) (allS z_u all0) (allS (Or.inr s_u) all0) rfl ?_
  intro T h L X K q
  replace E_e0 := E_e0.keep K
  replace E_e1 := E_e1.keep K
  replace E_e2 := E_e2.keep K
  replace V_r := V_r.keep K (ninS ne_r_u nin0)
  replace lt_r := Nat.lt_of_lt_of_le lt_r K.1
  replace lt_y := Nat.lt_of_lt_of_le lt_y K.1
  replace V_y := V_y.keep K (ninS ne_y_u nin0)
  replace E_u := E_u.keep K
  replace lt_u := Nat.lt_of_lt_of_le lt_u K.1
  exact X.retAN rfl rfl d40_38 (by decide) (by decide) ⟨_, rfl, u, rfl, s_u, q.1, y, ne_y_u, s_y, q.2, V_y⟩
set_option maxRecDepth 65536 in
set_option maxHeartbeats 40000000 in
theorem ef_rmLFA_4 (m : MethodId) (r : Addr) : entryFrame m #[(.ref r)] 3 = mkF m 0 #[.val (.ref r), .unset, .unset] [] := by first | (simp [entryFrame, mkF, argsToLocals, Value.category]; done) | (rfl)
set_option maxRecDepth 65536 in
set_option maxHeartbeats 40000000 in
theorem rmLFA_4 (l : Launch) (Z : State) (a0 : Array Value) (hw : ∀ d ∈ tables_1, d.before a0 Z = true) (r : Addr) (h0 : Heap) (O : Ext Z.heap h0) (e0 : Addr) (C0 : String) (wc0 : (Cond.castable C0 "java/lang/Object").before a0 Z = true) (E_e0 : Exa Z h0 e0 C0) (e1 : Addr) (C1 : String) (wc1 : (Cond.castable C1 "java/lang/Object").before a0 Z = true) (E_e1 : Exa Z h0 e1 C1) (e2 : Addr) (C2 : String) (wc2 : (Cond.castable C2 "java/lang/Object").before a0 Z = true) (E_e2 : Exa Z h0 e2 C2) (e3 : Addr) (C3 : String) (wc3 : (Cond.castable C3 "java/lang/Object").before a0 Z = true) (E_e3 : Exa Z h0 e3 C3) (V_r : OA Z h0 r (4 : Int32) [(.ref e0), (.ref e1), (.ref e2), (.ref e3)]) :
    MN l Z (⟨"java/util/ImmutableCollections", "listFromArray", "([Ljava/lang/Object;)Ljava/util/List;"⟩ : MethodName) jdk_56_method_4_code 3 (some (.object "java/util/List")) [] ({ frames := 5, cells := 2, slots := 12, locals := 90 } : Room) #[(.ref r)] h0 [] (RV (fun w h => ∃ u, w = .ref u ∧ h0.size ≤ u ∧ LN Z h h0.size u (4 : Int32) [(.ref e0), (.ref e1), (.ref e2), (.ref e3)])) := by
  refine MN.mk (a0 := a0) rfl rfl (plainFor_of_name pn13) O (fun m => ef_rmLFA_4 m r) ?_
  intro pg ev s m below meth cd T hh X
  subst hh
  have lt_r := V_r.lt
  refine X.aloadN (pc' := 1) d40_0 rfl rfl rfl ?_
  obtain ⟨kr, Vr, -, -⟩ := id V_r
  refine X.alen (pc' := 2) Vr d40_1 rfl ?_
  refine X.newR (pc' := 5) (ad := "[Ljava/lang/Object;") (wd253 hw) (wd87 hw) (by decide) d40_2 (by decide) 4 (by decide) (by decide) (by decide) (by decide) rfl ?_
  intro T h y ka_y g_y Ex lt_y V_y Ea_y Ov_y X1
  have z_y : Z.heap.size ≤ y := by rw [g_y]; exact X.old.1
  have s_y : s.heap.size ≤ y := by rw [g_y]; exact X.kp.1
  have ne_r_y : r ≠ y := Nat.ne_of_lt (by rw [g_y]; exact lt_r)
  replace E_e0 := E_e0.ext Ex
  replace E_e1 := E_e1.ext Ex
  replace E_e2 := E_e2.ext Ex
  replace E_e3 := E_e3.ext Ex
  replace V_r := V_r.ext Ex
  replace lt_r := Nat.lt_of_lt_of_le lt_r Ex.1
  replace X := X1
  have V_y : OA Z h y (4 : Int32) [(.null), (.null), (.null), (.null)] := ⟨ka_y, (Arv.pad V_y (pad_rep [] .null 4)), Ov_y, Ea_y⟩
  refine X.astoreN (pc' := 6) #[.val (.ref r), .val (.ref y), .unset] d40_5 rfl rfl rfl ?_
  refine X.iconst (pc' := 7) (0 : Int32) d40_6 rfl rfl ?_
  refine X.istoreN (pc' := 8) #[.val (.ref r), .val (.ref y), .val (.int (0 : Int32))] d40_7 rfl rfl ?_
  refine X.iloadN (pc' := 9) d40_8 rfl rfl ?_
  refine X.aloadN (pc' := 10) d40_9 rfl rfl rfl ?_
  obtain ⟨kr0, Vr0, -, -⟩ := id V_r
  refine X.alen (pc' := 11) Vr0 d40_10 rfl ?_
  refine X.icN (pc' := 14) d40_11 (by decide) rfl ?_
  refine X.aloadN (pc' := 15) d40_14 rfl rfl rfl ?_
  refine X.iloadN (pc' := 16) d40_15 rfl rfl ?_
  refine X.aloadN (pc' := 17) d40_16 rfl rfl rfl ?_
  refine X.iloadN (pc' := 18) d40_17 rfl rfl ?_
  obtain ⟨kd, Vd, Od, Ed⟩ := id V_r
  refine X.aaload (pc' := 19) Vd ⟨by decide, by decide⟩ rfl d40_18 rfl ?_
  refine X.callP (pc' := 22) (X.sStatic (wd254 hw) (wd177 hw) (wd178 hw) (wd179 hw) (by decide) rfl pd10 [(.ref e0)] rfl rfl d40_19) (rmRNN l Z a0 hw e0 _ X.old) (wd179 hw) (wd178 hw) (leB rfl) (leB rfl) (leB rfl) (leB rfl) rfl ?_
  intro T L v X q
  subst q
  obtain ⟨ky, Vy, Oy, Ey⟩ := V_y
  refine X.aastore (pc' := 23) Vy Oy (Ins.of_exa E_e0 wc0) ⟨by decide, by decide⟩ 0 rfl (leB rfl) z_y (Or.inr s_y) d40_22 rfl ?_
  intro T h L X W V1
  replace E_e0 := E_e0.wr W
  replace E_e1 := E_e1.wr W
  replace E_e2 := E_e2.wr W
  replace E_e3 := E_e3.wr W
  replace V_r := V_r.other W ne_r_y
  replace lt_r := Nat.lt_of_lt_of_le lt_r (Keep.of_wr W).1
  replace lt_y := Nat.lt_of_lt_of_le lt_y (Keep.of_wr W).1
  replace Ey := Ey.wr W
  have V_y : OA Z h y (4 : Int32) [(.ref e0), (.null), (.null), (.null)] := ⟨ky, V1, Oy, Ey⟩
  refine X.iinc (pc' := 26) #[.val (.ref r), .val (.ref y), .val (.int (1 : Int32))] d40_23 rfl rfl rfl ?_
  refine X.goto (pc' := 8) d40_26 (by decide) (by decide) ?_
  refine X.iloadN (pc' := 9) d40_8 rfl rfl ?_
  refine X.aloadN (pc' := 10) d40_9 rfl rfl rfl ?_
  obtain ⟨kr1, Vr1, -, -⟩ := id V_r
  refine X.alen (pc' := 11) Vr1 d40_10 rfl ?_
  refine X.icN (pc' := 14) d40_11 (by decide) rfl ?_
  refine X.aloadN (pc' := 15) d40_14 rfl rfl rfl ?_
  refine X.iloadN (pc' := 16) d40_15 rfl rfl ?_
  refine X.aloadN (pc' := 17) d40_16 rfl rfl rfl ?_
  refine X.iloadN (pc' := 18) d40_17 rfl rfl ?_
  obtain ⟨kd, Vd, Od, Ed⟩ := id V_r
  refine X.aaload (pc' := 19) Vd ⟨by decide, by decide⟩ rfl d40_18 rfl ?_
  refine X.callP (pc' := 22) (X.sStatic (wd254 hw) (wd177 hw) (wd178 hw) (wd179 hw) (by decide) rfl pd10 [(.ref e1)] rfl rfl d40_19) (rmRNN l Z a0 hw e1 _ X.old) (wd179 hw) (wd178 hw) (leB rfl) (leB rfl) (leB rfl) (leB rfl) rfl ?_
  intro T L v X q
  subst q
  obtain ⟨ky, Vy, Oy, Ey⟩ := V_y
  refine X.aastore (pc' := 23) Vy Oy (Ins.of_exa E_e1 wc1) ⟨by decide, by decide⟩ 1 rfl (leB rfl) z_y (Or.inr s_y) d40_22 rfl ?_
  intro T h L X W V1
  replace E_e0 := E_e0.wr W
  replace E_e1 := E_e1.wr W
  replace E_e2 := E_e2.wr W
  replace E_e3 := E_e3.wr W
  replace V_r := V_r.other W ne_r_y
  replace lt_r := Nat.lt_of_lt_of_le lt_r (Keep.of_wr W).1
  replace lt_y := Nat.lt_of_lt_of_le lt_y (Keep.of_wr W).1
  replace Ey := Ey.wr W
  have V_y : OA Z h y (4 : Int32) [(.ref e0), (.ref e1), (.null), (.null)] := ⟨ky, V1, Oy, Ey⟩
  refine X.iinc (pc' := 26) #[.val (.ref r), .val (.ref y), .val (.int (2 : Int32))] d40_23 rfl rfl rfl ?_
  refine X.goto (pc' := 8) d40_26 (by decide) (by decide) ?_
  refine X.iloadN (pc' := 9) d40_8 rfl rfl ?_
  refine X.aloadN (pc' := 10) d40_9 rfl rfl rfl ?_
  obtain ⟨kr2, Vr2, -, -⟩ := id V_r
  refine X.alen (pc' := 11) Vr2 d40_10 rfl ?_
  refine X.icN (pc' := 14) d40_11 (by decide) rfl ?_
  refine X.aloadN (pc' := 15) d40_14 rfl rfl rfl ?_
  refine X.iloadN (pc' := 16) d40_15 rfl rfl ?_
  refine X.aloadN (pc' := 17) d40_16 rfl rfl rfl ?_
  refine X.iloadN (pc' := 18) d40_17 rfl rfl ?_
  obtain ⟨kd, Vd, Od, Ed⟩ := id V_r
  refine X.aaload (pc' := 19) Vd ⟨by decide, by decide⟩ rfl d40_18 rfl ?_
  refine X.callP (pc' := 22) (X.sStatic (wd254 hw) (wd177 hw) (wd178 hw) (wd179 hw) (by decide) rfl pd10 [(.ref e2)] rfl rfl d40_19) (rmRNN l Z a0 hw e2 _ X.old) (wd179 hw) (wd178 hw) (leB rfl) (leB rfl) (leB rfl) (leB rfl) rfl ?_
  intro T L v X q
  subst q
  obtain ⟨ky, Vy, Oy, Ey⟩ := V_y
  refine X.aastore (pc' := 23) Vy Oy (Ins.of_exa E_e2 wc2) ⟨by decide, by decide⟩ 2 rfl (leB rfl) z_y (Or.inr s_y) d40_22 rfl ?_
  intro T h L X W V1
  replace E_e0 := E_e0.wr W
  replace E_e1 := E_e1.wr W
  replace E_e2 := E_e2.wr W
  replace E_e3 := E_e3.wr W
  replace V_r := V_r.other W ne_r_y
  replace lt_r := Nat.lt_of_lt_of_le lt_r (Keep.of_wr W).1
  replace lt_y := Nat.lt_of_lt_of_le lt_y (Keep.of_wr W).1
  replace Ey := Ey.wr W
  have V_y : OA Z h y (4 : Int32) [(.ref e0), (.ref e1), (.ref e2), (.null)] := ⟨ky, V1, Oy, Ey⟩
  refine X.iinc (pc' := 26) #[.val (.ref r), .val (.ref y), .val (.int (3 : Int32))] d40_23 rfl rfl rfl ?_
  refine X.goto (pc' := 8) d40_26 (by decide) (by decide) ?_
  refine X.iloadN (pc' := 9) d40_8 rfl rfl ?_
  refine X.aloadN (pc' := 10) d40_9 rfl rfl rfl ?_
  obtain ⟨kr3, Vr3, -, -⟩ := id V_r
  refine X.alen (pc' := 11) Vr3 d40_10 rfl ?_
  refine X.icN (pc' := 14) d40_11 (by decide) rfl ?_
  refine X.aloadN (pc' := 15) d40_14 rfl rfl rfl ?_
  refine X.iloadN (pc' := 16) d40_15 rfl rfl ?_
  refine X.aloadN (pc' := 17) d40_16 rfl rfl rfl ?_
  refine X.iloadN (pc' := 18) d40_17 rfl rfl ?_
  obtain ⟨kd, Vd, Od, Ed⟩ := id V_r
  refine X.aaload (pc' := 19) Vd ⟨by decide, by decide⟩ rfl d40_18 rfl ?_
  refine X.callP (pc' := 22) (X.sStatic (wd254 hw) (wd177 hw) (wd178 hw) (wd179 hw) (by decide) rfl pd10 [(.ref e3)] rfl rfl d40_19) (rmRNN l Z a0 hw e3 _ X.old) (wd179 hw) (wd178 hw) (leB rfl) (leB rfl) (leB rfl) (leB rfl) rfl ?_
  intro T L v X q
  subst q
  obtain ⟨ky, Vy, Oy, Ey⟩ := V_y
  refine X.aastore (pc' := 23) Vy Oy (Ins.of_exa E_e3 wc3) ⟨by decide, by decide⟩ 3 rfl (leB rfl) z_y (Or.inr s_y) d40_22 rfl ?_
  intro T h L X W V1
  replace E_e0 := E_e0.wr W
  replace E_e1 := E_e1.wr W
  replace E_e2 := E_e2.wr W
  replace E_e3 := E_e3.wr W
  replace V_r := V_r.other W ne_r_y
  replace lt_r := Nat.lt_of_lt_of_le lt_r (Keep.of_wr W).1
  replace lt_y := Nat.lt_of_lt_of_le lt_y (Keep.of_wr W).1
  replace Ey := Ey.wr W
  have V_y : OA Z h y (4 : Int32) [(.ref e0), (.ref e1), (.ref e2), (.ref e3)] := ⟨ky, V1, Oy, Ey⟩
  refine X.iinc (pc' := 26) #[.val (.ref r), .val (.ref y), .val (.int (4 : Int32))] d40_23 rfl rfl rfl ?_
  refine X.goto (pc' := 8) d40_26 (by decide) (by decide) ?_
  refine X.iloadN (pc' := 9) d40_8 rfl rfl ?_
  refine X.aloadN (pc' := 10) d40_9 rfl rfl rfl ?_
  obtain ⟨kr9, Vr9, -, -⟩ := id V_r
  refine X.alen (pc' := 11) Vr9 d40_10 rfl ?_
  refine X.icY (pc' := 29) d40_11 (by decide) (by decide) (by decide) ?_
  refine X.newO (pc' := 32) (wd112 hw) (wd255 hw) (wd256 hw) d40_29 (by decide) (by decide) rfl ?_
  intro T h u g_u Ex lt_u E_u D_u X1
  have z_u : Z.heap.size ≤ u := by rw [g_u]; exact X.old.1
  have s_u : s.heap.size ≤ u := by rw [g_u]; exact X.kp.1
  have ne_r_u : r ≠ u := Nat.ne_of_lt (by rw [g_u]; exact lt_r)
  have ne_y_u : y ≠ u := Nat.ne_of_lt (by rw [g_u]; exact lt_y)
  replace E_e0 := E_e0.ext Ex
  replace E_e1 := E_e1.ext Ex
  replace E_e2 := E_e2.ext Ex
  replace E_e3 := E_e3.ext Ex
  replace V_r := V_r.ext Ex
  replace lt_r := Nat.lt_of_lt_of_le lt_r Ex.1
  replace lt_y := Nat.lt_of_lt_of_le lt_y Ex.1
  replace V_y := V_y.ext Ex
  replace X := X1
  have F_u_elements : Fld Z h u "java/util/ImmutableCollections$ListN" "elements" "[Ljava/lang/Object;" .null := D_u (Or.inr (wd266 hw)) (ty := (.array (.object "java/lang/Object"))) (by decide)
  have F_u_allowNulls : Fld Z h u "java/util/ImmutableCollections$ListN" "allowNulls" "Z" (.int (0 : Int32)) := D_u (Or.inr (wd268 hw)) (ty := .boolean) (by decide)
  refine X.dup (pc' := 33) d40_32 rfl rfl ?_
  refine X.aloadN (pc' := 34) d40_33 rfl rfl rfl ?_
  refine X.iconst (pc' := 35) (0 : Int32) d40_34 rfl rfl ?_
  refine X.callU (pc' := 38) (X.sSpecialN rfl (wd257 hw) (wd258 hw) (wd260 hw) (by decide) rfl pd11 [(.ref y), (.int (0 : Int32))] rfl rfl d40_35) (rmLN l Z a0 hw u y _ X.old z_u E_u F_u_elements F_u_allowNulls) (wd260 hw) (wd256 hw) (leB rfl) (leB rfl) (leB rfl) (leB rfl) (sfS safeE sf0) (allS z_u all0) (allS (Or.inr s_u) all0) rfl ?_
  intro T h L X K q
  replace E_e0 := E_e0.keep K
  replace E_e1 := E_e1.keep K
  replace E_e2 := E_e2.keep K
  replace E_e3 := E_e3.keep K
  replace V_r := V_r.keep K (ninS ne_r_u nin0)
  replace lt_r := Nat.lt_of_lt_of_le lt_r K.1
  replace lt_y := Nat.lt_of_lt_of_le lt_y K.1
  replace V_y := V_y.keep K (ninS ne_y_u nin0)
  replace E_u := E_u.keep K
  replace lt_u := Nat.lt_of_lt_of_le lt_u K.1
  exact X.retAN rfl rfl d40_38 (by decide) (by decide) ⟨_, rfl, u, rfl, s_u, q.1, y, ne_y_u, s_y, q.2, V_y⟩
set_option maxRecDepth 65536 in
set_option maxHeartbeats 40000000 in
theorem ef_rmOf_1 (m : MethodId) (r : Addr) : entryFrame m #[(.ref r)] 2 = mkF m 0 #[.val (.ref r), .unset] [] := by first | (simp [entryFrame, mkF, argsToLocals, Value.category]; done) | (rfl)
set_option maxRecDepth 65536 in
set_option maxHeartbeats 40000000 in
theorem rmOf_1 (l : Launch) (Z : State) (a0 : Array Value) (hw : ∀ d ∈ tables_1, d.before a0 Z = true) (r : Addr) (h0 : Heap) (O : Ext Z.heap h0) (em : Addr) (SM : Sta Z Z.heap "java/util/ImmutableCollections" "EMPTY" "Ljava/lang/Object;" (.ref em)) (hem : em < Z.heap.size) (e0 : Addr) (C0 : String) (wc0 : (Cond.castable C0 "java/lang/Object").before a0 Z = true) (E_e0 : Exa Z h0 e0 C0) (V_r : OA Z h0 r (1 : Int32) [(.ref e0)]) :
    MN l Z (⟨"java/util/List", "of", "([Ljava/lang/Object;)Ljava/util/List;"⟩ : MethodName) jdk_40_method_47_code 2 (some (.object "java/util/List")) [] ({ frames := 6, cells := 3, slots := 21, locals := 110 } : Room) #[(.ref r)] h0 [] (RV (fun w h => ∃ u, w = .ref u ∧ h0.size ≤ u ∧ L2 Z h u (.ref e0) (.ref em))) := by
  refine MN.mk (a0 := a0) rfl rfl (plainFor_of_name pn14) O (fun m => ef_rmOf_1 m r) ?_
  intro pg ev s m below meth cd T hh X
  subst hh
  have lt_r := V_r.lt
  refine X.aloadN (pc' := 1) d24_0 rfl rfl rfl ?_
  obtain ⟨kr, Vr, -, -⟩ := id V_r
  refine X.alen (pc' := 2) Vr d24_1 rfl ?_
  refine X.tswIn (pc' := 34) (o := 32) d24_2 (by decide) rfl (by decide) (by decide) ?_
  refine X.newO (pc' := 37) (wd155 hw) (wd156 hw) (wd157 hw) d24_34 (by decide) (by decide) rfl ?_
  intro T h u g_u Ex lt_u E_u D_u X1
  have z_u : Z.heap.size ≤ u := by rw [g_u]; exact X.old.1
  have s_u : s.heap.size ≤ u := by rw [g_u]; exact X.kp.1
  have ne_r_u : r ≠ u := Nat.ne_of_lt (by rw [g_u]; exact lt_r)
  replace E_e0 := E_e0.ext Ex
  replace V_r := V_r.ext Ex
  replace lt_r := Nat.lt_of_lt_of_le lt_r Ex.1
  replace X := X1
  have F_u_e0 : Fld Z h u "java/util/ImmutableCollections$List12" "e0" "Ljava/lang/Object;" .null := D_u (Or.inr (wd181 hw)) (ty := (.object "java/lang/Object")) (by decide)
  have F_u_e1 : Fld Z h u "java/util/ImmutableCollections$List12" "e1" "Ljava/lang/Object;" .null := D_u (Or.inr (wd184 hw)) (ty := (.object "java/lang/Object")) (by decide)
  refine X.dup (pc' := 38) d24_37 rfl rfl ?_
  refine X.aloadN (pc' := 39) d24_38 rfl rfl rfl ?_
  refine X.iconst (pc' := 40) (0 : Int32) d24_39 rfl rfl ?_
  obtain ⟨kd, Vd, Od, Ed⟩ := id V_r
  refine X.aaload (pc' := 41) Vd ⟨by decide, by decide⟩ rfl d24_40 rfl ?_
  refine X.callU (pc' := 44) (X.sSpecial rfl (wd158 hw) (wd159 hw) (wd161 hw) (by decide) rfl pd12 [(.ref e0)] rfl rfl d24_41) (rmL12_1 l Z a0 hw u e0 _ X.old em SM hem z_u ⟨E_u, F_u_e0, F_u_e1⟩) (wd161 hw) (wd157 hw) (leB rfl) (leB rfl) (leB rfl) (leB rfl) (sfS safeE sf0) (allS z_u all0) (allS (Or.inr s_u) all0) rfl ?_
  intro T h L X K q
  exact X.retAN rfl rfl d24_44 (by decide) (by decide) ⟨_, rfl, u, rfl, s_u, q⟩
set_option maxRecDepth 65536 in
set_option maxHeartbeats 40000000 in
theorem ef_rmLC_1 (m : MethodId) (a2 : Addr) : entryFrame m #[(.ref a2)] 2 = mkF m 0 #[.val (.ref a2), .unset] [] := by first | (simp [entryFrame, mkF, argsToLocals, Value.category]; done) | (rfl)
set_option maxRecDepth 65536 in
set_option maxHeartbeats 40000000 in
theorem rmLC_1 (l : Launch) (Z : State) (a0 : Array Value) (hw : ∀ d ∈ tables_1, d.before a0 Z = true) (a2 : Addr) (h0 : Heap) (O : Ext Z.heap h0) (em : Addr) (SM : Sta Z Z.heap "java/util/ImmutableCollections" "EMPTY" "Ljava/lang/Object;" (.ref em)) (hem : em < Z.heap.size) (mo : Addr) (M_o : Mrr Z "[Ljava/lang/Object;" mo) (d : Addr) (mc : Int32) (A2 : AL Z h0 a2 (.ref d) (1 : Int32) mc) (e0 : Addr) (C0 : String) (wc0 : (Cond.castable C0 "java/lang/Object").before a0 Z = true) (E_e0 : Exa Z h0 e0 C0) (V_d : OA Z h0 d 10 [(.ref e0), (.null), (.null), (.null), (.null), (.null), (.null), (.null), (.null), (.null)]) :
    MN l Z (⟨"java/util/ImmutableCollections", "listCopy", "(Ljava/util/Collection;)Ljava/util/List;"⟩ : MethodName) jdk_56_method_3_code 2 (some (.object "java/util/List")) [] ({ frames := 7, cells := 4, slots := 32, locals := 140 } : Room) #[(.ref a2)] h0 [] (RV (fun w h => ∃ u, w = .ref u ∧ h0.size ≤ u ∧ L2 Z h u (.ref e0) (.ref em))) := by
  refine MN.mk (a0 := a0) rfl rfl (plainFor_of_name pn13) O (fun m => ef_rmLC_1 m a2) ?_
  intro pg ev s m below meth cd T hh X
  subst hh
  refine X.aloadN (pc' := 1) d18_0 rfl rfl rfl ?_
  refine X.instNo (pc' := 4) (wd107 hw) A2.1 (noI (C := "") (wd108 hw) (wd109 hw) (wd110 hw) (wd111 hw) (wd156 hw) (by decide) (by decide) (by decide) (by decide)) d18_1 rfl ?_
  intro T X
  refine X.ifN (pc' := 7) d18_4 (by decide) rfl ?_
  refine X.aloadN (pc' := 8) d18_7 rfl rfl rfl ?_
  refine X.instNo (pc' := 11) (wd112 hw) A2.1 (noI (C := "") (wd108 hw) (wd109 hw) (wd110 hw) (wd111 hw) (wd255 hw) (by decide) (by decide) (by decide) (by decide)) d18_8 rfl ?_
  intro T X
  refine X.ifY (pc' := 31) d18_11 (by decide) (by decide) (by decide) ?_
  refine X.aloadN (pc' := 32) d18_31 rfl rfl rfl ?_
  refine X.callP (pc' := 37) (X.sFace (y := (⟨"java/util/ArrayList", "isEmpty", "()Z"⟩ : MethodName)) (wd113 hw) (wd114 hw) (wd115 hw) rfl (wd116 hw) (wd117 hw) (wd118 hw) (wd119 hw) (wd120 hw) (by decide) rfl pd13 A2.1 [] rfl rfl d18_32) (rmIsEN l Z a0 hw a2 _ X.old (1 : Int32) (by decide) _ _ A2) (wd121 hw) (wd2 hw) (leB rfl) (leB rfl) (leB rfl) (leB rfl) rfl ?_
  intro T L v X q
  subst q
  refine X.ifY (pc' := 44) d18_37 (by decide) (by decide) (by decide) ?_
  refine X.aloadN (pc' := 45) d18_44 rfl rfl rfl ?_
  refine X.callV (pc' := 50) (X.sFace (y := (⟨"java/util/ArrayList", "toArray", "()[Ljava/lang/Object;"⟩ : MethodName)) (wd122 hw) (wd123 hw) (wd124 hw) rfl (wd125 hw) (wd126 hw) (wd127 hw) (wd128 hw) (wd120 hw) (by decide) rfl pd3 A2.1 [] rfl rfl d18_45) (rmToA_1 l Z a0 hw a2 _ X.old mo M_o d mc A2 e0 _ wc0 E_e0 V_d) (wd129 hw) (wd2 hw) (leB rfl) (leB rfl) (leB rfl) (leB rfl) sf0 all0 all0 rfl ?_
  intro T h L v X K q
  obtain ⟨r, rfl, le_r, V_r⟩ := q
  have le1 := K.1
  replace E_e0 := E_e0.keep K
  refine X.callV (pc' := 53) (X.sStatic (wd152 hw) (wd153 hw) (wd101 hw) (wd154 hw) (by decide) rfl pd14 [(.ref r)] rfl rfl d18_50) (rmOf_1 l Z a0 hw r _ X.old em SM hem e0 _ wc0 E_e0 V_r) (wd154 hw) (wd101 hw) (leB rfl) (leB rfl) (leB rfl) (leB rfl) sf0 all0 all0 rfl ?_
  intro T h L v X K q
  obtain ⟨u, rfl, le_u, q⟩ := q
  exact X.retAN rfl rfl d18_53 (by decide) (by decide) ⟨_, rfl, u, rfl, Nat.le_trans le1 le_u, q⟩
set_option maxRecDepth 65536 in
set_option maxHeartbeats 40000000 in
theorem ef_rmCpy_1 (m : MethodId) (a2 : Addr) : entryFrame m #[(.ref a2)] 1 = mkF m 0 #[.val (.ref a2)] [] := by first | (simp [entryFrame, mkF, argsToLocals, Value.category]; done) | (rfl)
set_option maxRecDepth 65536 in
set_option maxHeartbeats 40000000 in
theorem rmCpy_1 (l : Launch) (Z : State) (a0 : Array Value) (hw : ∀ d ∈ tables_1, d.before a0 Z = true) (a2 : Addr) (h0 : Heap) (O : Ext Z.heap h0) (em : Addr) (SM : Sta Z Z.heap "java/util/ImmutableCollections" "EMPTY" "Ljava/lang/Object;" (.ref em)) (hem : em < Z.heap.size) (mo : Addr) (M_o : Mrr Z "[Ljava/lang/Object;" mo) (d : Addr) (mc : Int32) (A2 : AL Z h0 a2 (.ref d) (1 : Int32) mc) (e0 : Addr) (C0 : String) (wc0 : (Cond.castable C0 "java/lang/Object").before a0 Z = true) (E_e0 : Exa Z h0 e0 C0) (V_d : OA Z h0 d 10 [(.ref e0), (.null), (.null), (.null), (.null), (.null), (.null), (.null), (.null), (.null)]) :
    MN l Z (⟨"java/util/List", "copyOf", "(Ljava/util/Collection;)Ljava/util/List;"⟩ : MethodName) jdk_40_method_48_code 1 (some (.object "java/util/List")) [] ({ frames := 8, cells := 4, slots := 32, locals := 160 } : Room) #[(.ref a2)] h0 [] (RV (fun w h => ∃ u, w = .ref u ∧ h0.size ≤ u ∧ L2 Z h u (.ref e0) (.ref em))) := by
  refine MN.mk (a0 := a0) rfl rfl (plainFor_of_name pn14) O (fun m => ef_rmCpy_1 m a2) ?_
  intro pg ev s m below meth cd T hh X
  subst hh
  refine X.aloadN (pc' := 1) d17_0 rfl rfl rfl ?_
  refine X.callV (pc' := 4) (X.sStatic (wd103 hw) (wd104 hw) (wd105 hw) (wd106 hw) (by decide) rfl pd15 [(.ref a2)] rfl rfl d17_1) (rmLC_1 l Z a0 hw a2 _ X.old em SM hem mo M_o d mc A2 e0 _ wc0 E_e0 V_d) (wd106 hw) (wd105 hw) (leB rfl) (leB rfl) (leB rfl) (leB rfl) sf0 all0 all0 rfl ?_
  intro T h L v X K q
  obtain ⟨u, rfl, le_u, q⟩ := q
  exact X.retAN rfl rfl d17_4 (by decide) (by decide) ⟨_, rfl, u, rfl, le_u, q⟩
set_option maxRecDepth 65536 in
set_option maxHeartbeats 40000000 in
theorem ef_rmOf_2 (m : MethodId) (r : Addr) : entryFrame m #[(.ref r)] 2 = mkF m 0 #[.val (.ref r), .unset] [] := by first | (simp [entryFrame, mkF, argsToLocals, Value.category]; done) | (rfl)
set_option maxRecDepth 65536 in
set_option maxHeartbeats 40000000 in
theorem rmOf_2 (l : Launch) (Z : State) (a0 : Array Value) (hw : ∀ d ∈ tables_1, d.before a0 Z = true) (r : Addr) (h0 : Heap) (O : Ext Z.heap h0) (em : Addr) (SM : Sta Z Z.heap "java/util/ImmutableCollections" "EMPTY" "Ljava/lang/Object;" (.ref em)) (hem : em < Z.heap.size) (e0 : Addr) (C0 : String) (wc0 : (Cond.castable C0 "java/lang/Object").before a0 Z = true) (E_e0 : Exa Z h0 e0 C0) (e1 : Addr) (C1 : String) (wc1 : (Cond.castable C1 "java/lang/Object").before a0 Z = true) (E_e1 : Exa Z h0 e1 C1) (V_r : OA Z h0 r (2 : Int32) [(.ref e0), (.ref e1)]) :
    MN l Z (⟨"java/util/List", "of", "([Ljava/lang/Object;)Ljava/util/List;"⟩ : MethodName) jdk_40_method_47_code 2 (some (.object "java/util/List")) [] ({ frames := 6, cells := 3, slots := 22, locals := 110 } : Room) #[(.ref r)] h0 [] (RV (fun w h => ∃ u, w = .ref u ∧ h0.size ≤ u ∧ L2 Z h u (.ref e0) (.ref e1))) := by
  refine MN.mk (a0 := a0) rfl rfl (plainFor_of_name pn14) O (fun m => ef_rmOf_2 m r) ?_
  intro pg ev s m below meth cd T hh X
  subst hh
  have lt_r := V_r.lt
  refine X.aloadN (pc' := 1) d24_0 rfl rfl rfl ?_
  obtain ⟨kr, Vr, -, -⟩ := id V_r
  refine X.alen (pc' := 2) Vr d24_1 rfl ?_
  refine X.tswIn (pc' := 45) (o := 43) d24_2 (by decide) rfl (by decide) (by decide) ?_
  refine X.newO (pc' := 48) (wd155 hw) (wd156 hw) (wd157 hw) d24_45 (by decide) (by decide) rfl ?_
  intro T h u g_u Ex lt_u E_u D_u X1
  have z_u : Z.heap.size ≤ u := by rw [g_u]; exact X.old.1
  have s_u : s.heap.size ≤ u := by rw [g_u]; exact X.kp.1
  have ne_r_u : r ≠ u := Nat.ne_of_lt (by rw [g_u]; exact lt_r)
  replace E_e0 := E_e0.ext Ex
  replace E_e1 := E_e1.ext Ex
  replace V_r := V_r.ext Ex
  replace lt_r := Nat.lt_of_lt_of_le lt_r Ex.1
  replace X := X1
  have F_u_e0 : Fld Z h u "java/util/ImmutableCollections$List12" "e0" "Ljava/lang/Object;" .null := D_u (Or.inr (wd181 hw)) (ty := (.object "java/lang/Object")) (by decide)
  have F_u_e1 : Fld Z h u "java/util/ImmutableCollections$List12" "e1" "Ljava/lang/Object;" .null := D_u (Or.inr (wd184 hw)) (ty := (.object "java/lang/Object")) (by decide)
  refine X.dup (pc' := 49) d24_48 rfl rfl ?_
  refine X.aloadN (pc' := 50) d24_49 rfl rfl rfl ?_
  refine X.iconst (pc' := 51) (0 : Int32) d24_50 rfl rfl ?_
  obtain ⟨kd, Vd, Od, Ed⟩ := id V_r
  refine X.aaload (pc' := 52) Vd ⟨by decide, by decide⟩ rfl d24_51 rfl ?_
  refine X.aloadN (pc' := 53) d24_52 rfl rfl rfl ?_
  refine X.iconst (pc' := 54) (1 : Int32) d24_53 rfl rfl ?_
  obtain ⟨kd, Vd, Od, Ed⟩ := id V_r
  refine X.aaload (pc' := 55) Vd ⟨by decide, by decide⟩ rfl d24_54 rfl ?_
  refine X.callU (pc' := 58) (X.sSpecial rfl (wd247 hw) (wd248 hw) (wd249 hw) (by decide) rfl pd16 [(.ref e0), (.ref e1)] rfl rfl d24_55) (rmL12_2 l Z a0 hw u e0 e1 _ X.old  z_u ⟨E_u, F_u_e0, F_u_e1⟩) (wd249 hw) (wd157 hw) (leB rfl) (leB rfl) (leB rfl) (leB rfl) (sfS safeE sf0) (allS z_u all0) (allS (Or.inr s_u) all0) rfl ?_
  intro T h L X K q
  exact X.retAN rfl rfl d24_58 (by decide) (by decide) ⟨_, rfl, u, rfl, s_u, q⟩
set_option maxRecDepth 65536 in
set_option maxHeartbeats 40000000 in
theorem ef_rmLC_2 (m : MethodId) (a2 : Addr) : entryFrame m #[(.ref a2)] 2 = mkF m 0 #[.val (.ref a2), .unset] [] := by first | (simp [entryFrame, mkF, argsToLocals, Value.category]; done) | (rfl)
set_option maxRecDepth 65536 in
set_option maxHeartbeats 40000000 in
theorem rmLC_2 (l : Launch) (Z : State) (a0 : Array Value) (hw : ∀ d ∈ tables_1, d.before a0 Z = true) (a2 : Addr) (h0 : Heap) (O : Ext Z.heap h0) (em : Addr) (SM : Sta Z Z.heap "java/util/ImmutableCollections" "EMPTY" "Ljava/lang/Object;" (.ref em)) (hem : em < Z.heap.size) (mo : Addr) (M_o : Mrr Z "[Ljava/lang/Object;" mo) (d : Addr) (mc : Int32) (A2 : AL Z h0 a2 (.ref d) (2 : Int32) mc) (e0 : Addr) (C0 : String) (wc0 : (Cond.castable C0 "java/lang/Object").before a0 Z = true) (E_e0 : Exa Z h0 e0 C0) (e1 : Addr) (C1 : String) (wc1 : (Cond.castable C1 "java/lang/Object").before a0 Z = true) (E_e1 : Exa Z h0 e1 C1) (V_d : OA Z h0 d 10 [(.ref e0), (.ref e1), (.null), (.null), (.null), (.null), (.null), (.null), (.null), (.null)]) :
    MN l Z (⟨"java/util/ImmutableCollections", "listCopy", "(Ljava/util/Collection;)Ljava/util/List;"⟩ : MethodName) jdk_56_method_3_code 2 (some (.object "java/util/List")) [] ({ frames := 7, cells := 4, slots := 34, locals := 140 } : Room) #[(.ref a2)] h0 [] (RV (fun w h => ∃ u, w = .ref u ∧ h0.size ≤ u ∧ L2 Z h u (.ref e0) (.ref e1))) := by
  refine MN.mk (a0 := a0) rfl rfl (plainFor_of_name pn13) O (fun m => ef_rmLC_2 m a2) ?_
  intro pg ev s m below meth cd T hh X
  subst hh
  refine X.aloadN (pc' := 1) d18_0 rfl rfl rfl ?_
  refine X.instNo (pc' := 4) (wd107 hw) A2.1 (noI (C := "") (wd108 hw) (wd109 hw) (wd110 hw) (wd111 hw) (wd156 hw) (by decide) (by decide) (by decide) (by decide)) d18_1 rfl ?_
  intro T X
  refine X.ifN (pc' := 7) d18_4 (by decide) rfl ?_
  refine X.aloadN (pc' := 8) d18_7 rfl rfl rfl ?_
  refine X.instNo (pc' := 11) (wd112 hw) A2.1 (noI (C := "") (wd108 hw) (wd109 hw) (wd110 hw) (wd111 hw) (wd255 hw) (by decide) (by decide) (by decide) (by decide)) d18_8 rfl ?_
  intro T X
  refine X.ifY (pc' := 31) d18_11 (by decide) (by decide) (by decide) ?_
  refine X.aloadN (pc' := 32) d18_31 rfl rfl rfl ?_
  refine X.callP (pc' := 37) (X.sFace (y := (⟨"java/util/ArrayList", "isEmpty", "()Z"⟩ : MethodName)) (wd113 hw) (wd114 hw) (wd115 hw) rfl (wd116 hw) (wd117 hw) (wd118 hw) (wd119 hw) (wd120 hw) (by decide) rfl pd13 A2.1 [] rfl rfl d18_32) (rmIsEN l Z a0 hw a2 _ X.old (2 : Int32) (by decide) _ _ A2) (wd121 hw) (wd2 hw) (leB rfl) (leB rfl) (leB rfl) (leB rfl) rfl ?_
  intro T L v X q
  subst q
  refine X.ifY (pc' := 44) d18_37 (by decide) (by decide) (by decide) ?_
  refine X.aloadN (pc' := 45) d18_44 rfl rfl rfl ?_
  refine X.callV (pc' := 50) (X.sFace (y := (⟨"java/util/ArrayList", "toArray", "()[Ljava/lang/Object;"⟩ : MethodName)) (wd122 hw) (wd123 hw) (wd124 hw) rfl (wd125 hw) (wd126 hw) (wd127 hw) (wd128 hw) (wd120 hw) (by decide) rfl pd3 A2.1 [] rfl rfl d18_45) (rmToA_2 l Z a0 hw a2 _ X.old mo M_o d mc A2 e0 _ wc0 E_e0 e1 _ wc1 E_e1 V_d) (wd129 hw) (wd2 hw) (leB rfl) (leB rfl) (leB rfl) (leB rfl) sf0 all0 all0 rfl ?_
  intro T h L v X K q
  obtain ⟨r, rfl, le_r, V_r⟩ := q
  have le1 := K.1
  replace E_e0 := E_e0.keep K
  replace E_e1 := E_e1.keep K
  refine X.callV (pc' := 53) (X.sStatic (wd152 hw) (wd153 hw) (wd101 hw) (wd154 hw) (by decide) rfl pd14 [(.ref r)] rfl rfl d18_50) (rmOf_2 l Z a0 hw r _ X.old em SM hem e0 _ wc0 E_e0 e1 _ wc1 E_e1 V_r) (wd154 hw) (wd101 hw) (leB rfl) (leB rfl) (leB rfl) (leB rfl) sf0 all0 all0 rfl ?_
  intro T h L v X K q
  obtain ⟨u, rfl, le_u, q⟩ := q
  exact X.retAN rfl rfl d18_53 (by decide) (by decide) ⟨_, rfl, u, rfl, Nat.le_trans le1 le_u, q⟩
set_option maxRecDepth 65536 in
set_option maxHeartbeats 40000000 in
theorem ef_rmCpy_2 (m : MethodId) (a2 : Addr) : entryFrame m #[(.ref a2)] 1 = mkF m 0 #[.val (.ref a2)] [] := by first | (simp [entryFrame, mkF, argsToLocals, Value.category]; done) | (rfl)
set_option maxRecDepth 65536 in
set_option maxHeartbeats 40000000 in
theorem rmCpy_2 (l : Launch) (Z : State) (a0 : Array Value) (hw : ∀ d ∈ tables_1, d.before a0 Z = true) (a2 : Addr) (h0 : Heap) (O : Ext Z.heap h0) (em : Addr) (SM : Sta Z Z.heap "java/util/ImmutableCollections" "EMPTY" "Ljava/lang/Object;" (.ref em)) (hem : em < Z.heap.size) (mo : Addr) (M_o : Mrr Z "[Ljava/lang/Object;" mo) (d : Addr) (mc : Int32) (A2 : AL Z h0 a2 (.ref d) (2 : Int32) mc) (e0 : Addr) (C0 : String) (wc0 : (Cond.castable C0 "java/lang/Object").before a0 Z = true) (E_e0 : Exa Z h0 e0 C0) (e1 : Addr) (C1 : String) (wc1 : (Cond.castable C1 "java/lang/Object").before a0 Z = true) (E_e1 : Exa Z h0 e1 C1) (V_d : OA Z h0 d 10 [(.ref e0), (.ref e1), (.null), (.null), (.null), (.null), (.null), (.null), (.null), (.null)]) :
    MN l Z (⟨"java/util/List", "copyOf", "(Ljava/util/Collection;)Ljava/util/List;"⟩ : MethodName) jdk_40_method_48_code 1 (some (.object "java/util/List")) [] ({ frames := 8, cells := 4, slots := 34, locals := 160 } : Room) #[(.ref a2)] h0 [] (RV (fun w h => ∃ u, w = .ref u ∧ h0.size ≤ u ∧ L2 Z h u (.ref e0) (.ref e1))) := by
  refine MN.mk (a0 := a0) rfl rfl (plainFor_of_name pn14) O (fun m => ef_rmCpy_2 m a2) ?_
  intro pg ev s m below meth cd T hh X
  subst hh
  refine X.aloadN (pc' := 1) d17_0 rfl rfl rfl ?_
  refine X.callV (pc' := 4) (X.sStatic (wd103 hw) (wd104 hw) (wd105 hw) (wd106 hw) (by decide) rfl pd15 [(.ref a2)] rfl rfl d17_1) (rmLC_2 l Z a0 hw a2 _ X.old em SM hem mo M_o d mc A2 e0 _ wc0 E_e0 e1 _ wc1 E_e1 V_d) (wd106 hw) (wd105 hw) (leB rfl) (leB rfl) (leB rfl) (leB rfl) sf0 all0 all0 rfl ?_
  intro T h L v X K q
  obtain ⟨u, rfl, le_u, q⟩ := q
  exact X.retAN rfl rfl d17_4 (by decide) (by decide) ⟨_, rfl, u, rfl, le_u, q⟩
set_option maxRecDepth 65536 in
set_option maxHeartbeats 40000000 in
theorem ef_rmOf_3 (m : MethodId) (r : Addr) : entryFrame m #[(.ref r)] 2 = mkF m 0 #[.val (.ref r), .unset] [] := by first | (simp [entryFrame, mkF, argsToLocals, Value.category]; done) | (rfl)
set_option maxRecDepth 65536 in
set_option maxHeartbeats 40000000 in
theorem rmOf_3 (l : Launch) (Z : State) (a0 : Array Value) (hw : ∀ d ∈ tables_1, d.before a0 Z = true) (r : Addr) (h0 : Heap) (O : Ext Z.heap h0) (em : Addr) (SM : Sta Z Z.heap "java/util/ImmutableCollections" "EMPTY" "Ljava/lang/Object;" (.ref em)) (hem : em < Z.heap.size) (e0 : Addr) (C0 : String) (wc0 : (Cond.castable C0 "java/lang/Object").before a0 Z = true) (E_e0 : Exa Z h0 e0 C0) (e1 : Addr) (C1 : String) (wc1 : (Cond.castable C1 "java/lang/Object").before a0 Z = true) (E_e1 : Exa Z h0 e1 C1) (e2 : Addr) (C2 : String) (wc2 : (Cond.castable C2 "java/lang/Object").before a0 Z = true) (E_e2 : Exa Z h0 e2 C2) (V_r : OA Z h0 r (3 : Int32) [(.ref e0), (.ref e1), (.ref e2)]) :
    MN l Z (⟨"java/util/List", "of", "([Ljava/lang/Object;)Ljava/util/List;"⟩ : MethodName) jdk_40_method_47_code 2 (some (.object "java/util/List")) [] ({ frames := 6, cells := 3, slots := 23, locals := 110 } : Room) #[(.ref r)] h0 [] (RV (fun w h => ∃ u, w = .ref u ∧ h0.size ≤ u ∧ LN Z h h0.size u (3 : Int32) [(.ref e0), (.ref e1), (.ref e2)])) := by
  refine MN.mk (a0 := a0) rfl rfl (plainFor_of_name pn14) O (fun m => ef_rmOf_3 m r) ?_
  intro pg ev s m below meth cd T hh X
  subst hh
  have lt_r := V_r.lt
  refine X.aloadN (pc' := 1) d24_0 rfl rfl rfl ?_
  obtain ⟨kr, Vr, -, -⟩ := id V_r
  refine X.alen (pc' := 2) Vr d24_1 rfl ?_
  refine X.tswOut (pc' := 59) d24_2 (by decide) (by decide) (by decide) ?_
  refine X.aloadN (pc' := 60) d24_59 rfl rfl rfl ?_
  refine X.callV (pc' := 63) (X.sStatic (wd250 hw) (wd251 hw) (wd105 hw) (wd252 hw) (by decide) rfl pd14 [(.ref r)] rfl rfl d24_60) (rmLFA_3 l Z a0 hw r _ X.old e0 _ wc0 E_e0 e1 _ wc1 E_e1 e2 _ wc2 E_e2 V_r) (wd252 hw) (wd105 hw) (leB rfl) (leB rfl) (leB rfl) (leB rfl) sf0 all0 all0 rfl ?_
  intro T h L v X K q
  obtain ⟨u, rfl, le_u, q⟩ := q
  exact X.retAN rfl rfl d24_63 (by decide) (by decide) ⟨_, rfl, u, rfl, le_u, q⟩
set_option maxRecDepth 65536 in
set_option maxHeartbeats 40000000 in
theorem ef_rmLC_3 (m : MethodId) (a2 : Addr) : entryFrame m #[(.ref a2)] 2 = mkF m 0 #[.val (.ref a2), .unset] [] := by first | (simp [entryFrame, mkF, argsToLocals, Value.category]; done) | (rfl)
set_option maxRecDepth 65536 in
set_option maxHeartbeats 40000000 in
theorem rmLC_3 (l : Launch) (Z : State) (a0 : Array Value) (hw : ∀ d ∈ tables_1, d.before a0 Z = true) (a2 : Addr) (h0 : Heap) (O : Ext Z.heap h0) (em : Addr) (SM : Sta Z Z.heap "java/util/ImmutableCollections" "EMPTY" "Ljava/lang/Object;" (.ref em)) (hem : em < Z.heap.size) (mo : Addr) (M_o : Mrr Z "[Ljava/lang/Object;" mo) (d : Addr) (mc : Int32) (A2 : AL Z h0 a2 (.ref d) (3 : Int32) mc) (e0 : Addr) (C0 : String) (wc0 : (Cond.castable C0 "java/lang/Object").before a0 Z = true) (E_e0 : Exa Z h0 e0 C0) (e1 : Addr) (C1 : String) (wc1 : (Cond.castable C1 "java/lang/Object").before a0 Z = true) (E_e1 : Exa Z h0 e1 C1) (e2 : Addr) (C2 : String) (wc2 : (Cond.castable C2 "java/lang/Object").before a0 Z = true) (E_e2 : Exa Z h0 e2 C2) (V_d : OA Z h0 d 10 [(.ref e0), (.ref e1), (.ref e2), (.null), (.null), (.null), (.null), (.null), (.null), (.null)]) :
    MN l Z (⟨"java/util/ImmutableCollections", "listCopy", "(Ljava/util/Collection;)Ljava/util/List;"⟩ : MethodName) jdk_56_method_3_code 2 (some (.object "java/util/List")) [] ({ frames := 7, cells := 4, slots := 36, locals := 140 } : Room) #[(.ref a2)] h0 [] (RV (fun w h => ∃ u, w = .ref u ∧ h0.size ≤ u ∧ LN Z h h0.size u (3 : Int32) [(.ref e0), (.ref e1), (.ref e2)])) := by
  refine MN.mk (a0 := a0) rfl rfl (plainFor_of_name pn13) O (fun m => ef_rmLC_3 m a2) ?_
  intro pg ev s m below meth cd T hh X
  subst hh
  refine X.aloadN (pc' := 1) d18_0 rfl rfl rfl ?_
  refine X.instNo (pc' := 4) (wd107 hw) A2.1 (noI (C := "") (wd108 hw) (wd109 hw) (wd110 hw) (wd111 hw) (wd156 hw) (by decide) (by decide) (by decide) (by decide)) d18_1 rfl ?_
  intro T X
  refine X.ifN (pc' := 7) d18_4 (by decide) rfl ?_
  refine X.aloadN (pc' := 8) d18_7 rfl rfl rfl ?_
  refine X.instNo (pc' := 11) (wd112 hw) A2.1 (noI (C := "") (wd108 hw) (wd109 hw) (wd110 hw) (wd111 hw) (wd255 hw) (by decide) (by decide) (by decide) (by decide)) d18_8 rfl ?_
  intro T X
  refine X.ifY (pc' := 31) d18_11 (by decide) (by decide) (by decide) ?_
  refine X.aloadN (pc' := 32) d18_31 rfl rfl rfl ?_
  refine X.callP (pc' := 37) (X.sFace (y := (⟨"java/util/ArrayList", "isEmpty", "()Z"⟩ : MethodName)) (wd113 hw) (wd114 hw) (wd115 hw) rfl (wd116 hw) (wd117 hw) (wd118 hw) (wd119 hw) (wd120 hw) (by decide) rfl pd13 A2.1 [] rfl rfl d18_32) (rmIsEN l Z a0 hw a2 _ X.old (3 : Int32) (by decide) _ _ A2) (wd121 hw) (wd2 hw) (leB rfl) (leB rfl) (leB rfl) (leB rfl) rfl ?_
  intro T L v X q
  subst q
  refine X.ifY (pc' := 44) d18_37 (by decide) (by decide) (by decide) ?_
  refine X.aloadN (pc' := 45) d18_44 rfl rfl rfl ?_
  refine X.callV (pc' := 50) (X.sFace (y := (⟨"java/util/ArrayList", "toArray", "()[Ljava/lang/Object;"⟩ : MethodName)) (wd122 hw) (wd123 hw) (wd124 hw) rfl (wd125 hw) (wd126 hw) (wd127 hw) (wd128 hw) (wd120 hw) (by decide) rfl pd3 A2.1 [] rfl rfl d18_45) (rmToA_3 l Z a0 hw a2 _ X.old mo M_o d mc A2 e0 _ wc0 E_e0 e1 _ wc1 E_e1 e2 _ wc2 E_e2 V_d) (wd129 hw) (wd2 hw) (leB rfl) (leB rfl) (leB rfl) (leB rfl) sf0 all0 all0 rfl ?_
  intro T h L v X K q
  obtain ⟨r, rfl, le_r, V_r⟩ := q
  have le1 := K.1
  replace E_e0 := E_e0.keep K
  replace E_e1 := E_e1.keep K
  replace E_e2 := E_e2.keep K
  refine X.callV (pc' := 53) (X.sStatic (wd152 hw) (wd153 hw) (wd101 hw) (wd154 hw) (by decide) rfl pd14 [(.ref r)] rfl rfl d18_50) (rmOf_3 l Z a0 hw r _ X.old em SM hem e0 _ wc0 E_e0 e1 _ wc1 E_e1 e2 _ wc2 E_e2 V_r) (wd154 hw) (wd101 hw) (leB rfl) (leB rfl) (leB rfl) (leB rfl) sf0 all0 all0 rfl ?_
  intro T h L v X K q
  obtain ⟨u, rfl, le_u, q⟩ := q
  exact X.retAN rfl rfl d18_53 (by decide) (by decide) ⟨_, rfl, u, rfl, Nat.le_trans le1 le_u, q.mono le1⟩
set_option maxRecDepth 65536 in
set_option maxHeartbeats 40000000 in
theorem ef_rmCpy_3 (m : MethodId) (a2 : Addr) : entryFrame m #[(.ref a2)] 1 = mkF m 0 #[.val (.ref a2)] [] := by first | (simp [entryFrame, mkF, argsToLocals, Value.category]; done) | (rfl)
set_option maxRecDepth 65536 in
set_option maxHeartbeats 40000000 in
theorem rmCpy_3 (l : Launch) (Z : State) (a0 : Array Value) (hw : ∀ d ∈ tables_1, d.before a0 Z = true) (a2 : Addr) (h0 : Heap) (O : Ext Z.heap h0) (em : Addr) (SM : Sta Z Z.heap "java/util/ImmutableCollections" "EMPTY" "Ljava/lang/Object;" (.ref em)) (hem : em < Z.heap.size) (mo : Addr) (M_o : Mrr Z "[Ljava/lang/Object;" mo) (d : Addr) (mc : Int32) (A2 : AL Z h0 a2 (.ref d) (3 : Int32) mc) (e0 : Addr) (C0 : String) (wc0 : (Cond.castable C0 "java/lang/Object").before a0 Z = true) (E_e0 : Exa Z h0 e0 C0) (e1 : Addr) (C1 : String) (wc1 : (Cond.castable C1 "java/lang/Object").before a0 Z = true) (E_e1 : Exa Z h0 e1 C1) (e2 : Addr) (C2 : String) (wc2 : (Cond.castable C2 "java/lang/Object").before a0 Z = true) (E_e2 : Exa Z h0 e2 C2) (V_d : OA Z h0 d 10 [(.ref e0), (.ref e1), (.ref e2), (.null), (.null), (.null), (.null), (.null), (.null), (.null)]) :
    MN l Z (⟨"java/util/List", "copyOf", "(Ljava/util/Collection;)Ljava/util/List;"⟩ : MethodName) jdk_40_method_48_code 1 (some (.object "java/util/List")) [] ({ frames := 8, cells := 4, slots := 36, locals := 160 } : Room) #[(.ref a2)] h0 [] (RV (fun w h => ∃ u, w = .ref u ∧ h0.size ≤ u ∧ LN Z h h0.size u (3 : Int32) [(.ref e0), (.ref e1), (.ref e2)])) := by
  refine MN.mk (a0 := a0) rfl rfl (plainFor_of_name pn14) O (fun m => ef_rmCpy_3 m a2) ?_
  intro pg ev s m below meth cd T hh X
  subst hh
  refine X.aloadN (pc' := 1) d17_0 rfl rfl rfl ?_
  refine X.callV (pc' := 4) (X.sStatic (wd103 hw) (wd104 hw) (wd105 hw) (wd106 hw) (by decide) rfl pd15 [(.ref a2)] rfl rfl d17_1) (rmLC_3 l Z a0 hw a2 _ X.old em SM hem mo M_o d mc A2 e0 _ wc0 E_e0 e1 _ wc1 E_e1 e2 _ wc2 E_e2 V_d) (wd106 hw) (wd105 hw) (leB rfl) (leB rfl) (leB rfl) (leB rfl) sf0 all0 all0 rfl ?_
  intro T h L v X K q
  obtain ⟨u, rfl, le_u, q⟩ := q
  exact X.retAN rfl rfl d17_4 (by decide) (by decide) ⟨_, rfl, u, rfl, le_u, q⟩
set_option maxRecDepth 65536 in
set_option maxHeartbeats 40000000 in
theorem ef_rmOf_4 (m : MethodId) (r : Addr) : entryFrame m #[(.ref r)] 2 = mkF m 0 #[.val (.ref r), .unset] [] := by first | (simp [entryFrame, mkF, argsToLocals, Value.category]; done) | (rfl)
set_option maxRecDepth 65536 in
set_option maxHeartbeats 40000000 in
theorem rmOf_4 (l : Launch) (Z : State) (a0 : Array Value) (hw : ∀ d ∈ tables_1, d.before a0 Z = true) (r : Addr) (h0 : Heap) (O : Ext Z.heap h0) (em : Addr) (SM : Sta Z Z.heap "java/util/ImmutableCollections" "EMPTY" "Ljava/lang/Object;" (.ref em)) (hem : em < Z.heap.size) (e0 : Addr) (C0 : String) (wc0 : (Cond.castable C0 "java/lang/Object").before a0 Z = true) (E_e0 : Exa Z h0 e0 C0) (e1 : Addr) (C1 : String) (wc1 : (Cond.castable C1 "java/lang/Object").before a0 Z = true) (E_e1 : Exa Z h0 e1 C1) (e2 : Addr) (C2 : String) (wc2 : (Cond.castable C2 "java/lang/Object").before a0 Z = true) (E_e2 : Exa Z h0 e2 C2) (e3 : Addr) (C3 : String) (wc3 : (Cond.castable C3 "java/lang/Object").before a0 Z = true) (E_e3 : Exa Z h0 e3 C3) (V_r : OA Z h0 r (4 : Int32) [(.ref e0), (.ref e1), (.ref e2), (.ref e3)]) :
    MN l Z (⟨"java/util/List", "of", "([Ljava/lang/Object;)Ljava/util/List;"⟩ : MethodName) jdk_40_method_47_code 2 (some (.object "java/util/List")) [] ({ frames := 6, cells := 3, slots := 24, locals := 110 } : Room) #[(.ref r)] h0 [] (RV (fun w h => ∃ u, w = .ref u ∧ h0.size ≤ u ∧ LN Z h h0.size u (4 : Int32) [(.ref e0), (.ref e1), (.ref e2), (.ref e3)])) := by
  refine MN.mk (a0 := a0) rfl rfl (plainFor_of_name pn14) O (fun m => ef_rmOf_4 m r) ?_
  intro pg ev s m below meth cd T hh X
  subst hh
  have lt_r := V_r.lt
  refine X.aloadN (pc' := 1) d24_0 rfl rfl rfl ?_
  obtain ⟨kr, Vr, -, -⟩ := id V_r
  refine X.alen (pc' := 2) Vr d24_1 rfl ?_
  refine X.tswOut (pc' := 59) d24_2 (by decide) (by decide) (by decide) ?_
  refine X.aloadN (pc' := 60) d24_59 rfl rfl rfl ?_
  refine X.callV (pc' := 63) (X.sStatic (wd250 hw) (wd251 hw) (wd105 hw) (wd252 hw) (by decide) rfl pd14 [(.ref r)] rfl rfl d24_60) (rmLFA_4 l Z a0 hw r _ X.old e0 _ wc0 E_e0 e1 _ wc1 E_e1 e2 _ wc2 E_e2 e3 _ wc3 E_e3 V_r) (wd252 hw) (wd105 hw) (leB rfl) (leB rfl) (leB rfl) (leB rfl) sf0 all0 all0 rfl ?_
  intro T h L v X K q
  obtain ⟨u, rfl, le_u, q⟩ := q
  exact X.retAN rfl rfl d24_63 (by decide) (by decide) ⟨_, rfl, u, rfl, le_u, q⟩
set_option maxRecDepth 65536 in
set_option maxHeartbeats 40000000 in
theorem ef_rmLC_4 (m : MethodId) (a2 : Addr) : entryFrame m #[(.ref a2)] 2 = mkF m 0 #[.val (.ref a2), .unset] [] := by first | (simp [entryFrame, mkF, argsToLocals, Value.category]; done) | (rfl)
set_option maxRecDepth 65536 in
set_option maxHeartbeats 40000000 in
theorem rmLC_4 (l : Launch) (Z : State) (a0 : Array Value) (hw : ∀ d ∈ tables_1, d.before a0 Z = true) (a2 : Addr) (h0 : Heap) (O : Ext Z.heap h0) (em : Addr) (SM : Sta Z Z.heap "java/util/ImmutableCollections" "EMPTY" "Ljava/lang/Object;" (.ref em)) (hem : em < Z.heap.size) (mo : Addr) (M_o : Mrr Z "[Ljava/lang/Object;" mo) (d : Addr) (mc : Int32) (A2 : AL Z h0 a2 (.ref d) (4 : Int32) mc) (e0 : Addr) (C0 : String) (wc0 : (Cond.castable C0 "java/lang/Object").before a0 Z = true) (E_e0 : Exa Z h0 e0 C0) (e1 : Addr) (C1 : String) (wc1 : (Cond.castable C1 "java/lang/Object").before a0 Z = true) (E_e1 : Exa Z h0 e1 C1) (e2 : Addr) (C2 : String) (wc2 : (Cond.castable C2 "java/lang/Object").before a0 Z = true) (E_e2 : Exa Z h0 e2 C2) (e3 : Addr) (C3 : String) (wc3 : (Cond.castable C3 "java/lang/Object").before a0 Z = true) (E_e3 : Exa Z h0 e3 C3) (V_d : OA Z h0 d 10 [(.ref e0), (.ref e1), (.ref e2), (.ref e3), (.null), (.null), (.null), (.null), (.null), (.null)]) :
    MN l Z (⟨"java/util/ImmutableCollections", "listCopy", "(Ljava/util/Collection;)Ljava/util/List;"⟩ : MethodName) jdk_56_method_3_code 2 (some (.object "java/util/List")) [] ({ frames := 7, cells := 4, slots := 38, locals := 140 } : Room) #[(.ref a2)] h0 [] (RV (fun w h => ∃ u, w = .ref u ∧ h0.size ≤ u ∧ LN Z h h0.size u (4 : Int32) [(.ref e0), (.ref e1), (.ref e2), (.ref e3)])) := by
  refine MN.mk (a0 := a0) rfl rfl (plainFor_of_name pn13) O (fun m => ef_rmLC_4 m a2) ?_
  intro pg ev s m below meth cd T hh X
  subst hh
  refine X.aloadN (pc' := 1) d18_0 rfl rfl rfl ?_
  refine X.instNo (pc' := 4) (wd107 hw) A2.1 (noI (C := "") (wd108 hw) (wd109 hw) (wd110 hw) (wd111 hw) (wd156 hw) (by decide) (by decide) (by decide) (by decide)) d18_1 rfl ?_
  intro T X
  refine X.ifN (pc' := 7) d18_4 (by decide) rfl ?_
  refine X.aloadN (pc' := 8) d18_7 rfl rfl rfl ?_
  refine X.instNo (pc' := 11) (wd112 hw) A2.1 (noI (C := "") (wd108 hw) (wd109 hw) (wd110 hw) (wd111 hw) (wd255 hw) (by decide) (by decide) (by decide) (by decide)) d18_8 rfl ?_
  intro T X
  refine X.ifY (pc' := 31) d18_11 (by decide) (by decide) (by decide) ?_
  refine X.aloadN (pc' := 32) d18_31 rfl rfl rfl ?_
  refine X.callP (pc' := 37) (X.sFace (y := (⟨"java/util/ArrayList", "isEmpty", "()Z"⟩ : MethodName)) (wd113 hw) (wd114 hw) (wd115 hw) rfl (wd116 hw) (wd117 hw) (wd118 hw) (wd119 hw) (wd120 hw) (by decide) rfl pd13 A2.1 [] rfl rfl d18_32) (rmIsEN l Z a0 hw a2 _ X.old (4 : Int32) (by decide) _ _ A2) (wd121 hw) (wd2 hw) (leB rfl) (leB rfl) (leB rfl) (leB rfl) rfl ?_
  intro T L v X q
  subst q
  refine X.ifY (pc' := 44) d18_37 (by decide) (by decide) (by decide) ?_
  refine X.aloadN (pc' := 45) d18_44 rfl rfl rfl ?_
  refine X.callV (pc' := 50) (X.sFace (y := (⟨"java/util/ArrayList", "toArray", "()[Ljava/lang/Object;"⟩ : MethodName)) (wd122 hw) (wd123 hw) (wd124 hw) rfl (wd125 hw) (wd126 hw) (wd127 hw) (wd128 hw) (wd120 hw) (by decide) rfl pd3 A2.1 [] rfl rfl d18_45) (rmToA_4 l Z a0 hw a2 _ X.old mo M_o d mc A2 e0 _ wc0 E_e0 e1 _ wc1 E_e1 e2 _ wc2 E_e2 e3 _ wc3 E_e3 V_d) (wd129 hw) (wd2 hw) (leB rfl) (leB rfl) (leB rfl) (leB rfl) sf0 all0 all0 rfl ?_
  intro T h L v X K q
  obtain ⟨r, rfl, le_r, V_r⟩ := q
  have le1 := K.1
  replace E_e0 := E_e0.keep K
  replace E_e1 := E_e1.keep K
  replace E_e2 := E_e2.keep K
  replace E_e3 := E_e3.keep K
  refine X.callV (pc' := 53) (X.sStatic (wd152 hw) (wd153 hw) (wd101 hw) (wd154 hw) (by decide) rfl pd14 [(.ref r)] rfl rfl d18_50) (rmOf_4 l Z a0 hw r _ X.old em SM hem e0 _ wc0 E_e0 e1 _ wc1 E_e1 e2 _ wc2 E_e2 e3 _ wc3 E_e3 V_r) (wd154 hw) (wd101 hw) (leB rfl) (leB rfl) (leB rfl) (leB rfl) sf0 all0 all0 rfl ?_
  intro T h L v X K q
  obtain ⟨u, rfl, le_u, q⟩ := q
  exact X.retAN rfl rfl d18_53 (by decide) (by decide) ⟨_, rfl, u, rfl, Nat.le_trans le1 le_u, q.mono le1⟩
set_option maxRecDepth 65536 in
set_option maxHeartbeats 40000000 in
theorem ef_rmCpy_4 (m : MethodId) (a2 : Addr) : entryFrame m #[(.ref a2)] 1 = mkF m 0 #[.val (.ref a2)] [] := by first | (simp [entryFrame, mkF, argsToLocals, Value.category]; done) | (rfl)
set_option maxRecDepth 65536 in
set_option maxHeartbeats 40000000 in
theorem rmCpy_4 (l : Launch) (Z : State) (a0 : Array Value) (hw : ∀ d ∈ tables_1, d.before a0 Z = true) (a2 : Addr) (h0 : Heap) (O : Ext Z.heap h0) (em : Addr) (SM : Sta Z Z.heap "java/util/ImmutableCollections" "EMPTY" "Ljava/lang/Object;" (.ref em)) (hem : em < Z.heap.size) (mo : Addr) (M_o : Mrr Z "[Ljava/lang/Object;" mo) (d : Addr) (mc : Int32) (A2 : AL Z h0 a2 (.ref d) (4 : Int32) mc) (e0 : Addr) (C0 : String) (wc0 : (Cond.castable C0 "java/lang/Object").before a0 Z = true) (E_e0 : Exa Z h0 e0 C0) (e1 : Addr) (C1 : String) (wc1 : (Cond.castable C1 "java/lang/Object").before a0 Z = true) (E_e1 : Exa Z h0 e1 C1) (e2 : Addr) (C2 : String) (wc2 : (Cond.castable C2 "java/lang/Object").before a0 Z = true) (E_e2 : Exa Z h0 e2 C2) (e3 : Addr) (C3 : String) (wc3 : (Cond.castable C3 "java/lang/Object").before a0 Z = true) (E_e3 : Exa Z h0 e3 C3) (V_d : OA Z h0 d 10 [(.ref e0), (.ref e1), (.ref e2), (.ref e3), (.null), (.null), (.null), (.null), (.null), (.null)]) :
    MN l Z (⟨"java/util/List", "copyOf", "(Ljava/util/Collection;)Ljava/util/List;"⟩ : MethodName) jdk_40_method_48_code 1 (some (.object "java/util/List")) [] ({ frames := 8, cells := 4, slots := 38, locals := 160 } : Room) #[(.ref a2)] h0 [] (RV (fun w h => ∃ u, w = .ref u ∧ h0.size ≤ u ∧ LN Z h h0.size u (4 : Int32) [(.ref e0), (.ref e1), (.ref e2), (.ref e3)])) := by
  refine MN.mk (a0 := a0) rfl rfl (plainFor_of_name pn14) O (fun m => ef_rmCpy_4 m a2) ?_
  intro pg ev s m below meth cd T hh X
  subst hh
  refine X.aloadN (pc' := 1) d17_0 rfl rfl rfl ?_
  refine X.callV (pc' := 4) (X.sStatic (wd103 hw) (wd104 hw) (wd105 hw) (wd106 hw) (by decide) rfl pd15 [(.ref a2)] rfl rfl d17_1) (rmLC_4 l Z a0 hw a2 _ X.old em SM hem mo M_o d mc A2 e0 _ wc0 E_e0 e1 _ wc1 E_e1 e2 _ wc2 E_e2 e3 _ wc3 E_e3 V_d) (wd106 hw) (wd105 hw) (leB rfl) (leB rfl) (leB rfl) (leB rfl) sf0 all0 all0 rfl ?_
  intro T h L v X K q
  obtain ⟨u, rfl, le_u, q⟩ := q
  exact X.retAN rfl rfl d17_4 (by decide) (by decide) ⟨_, rfl, u, rfl, le_u, q⟩
set_option maxRecDepth 65536 in
set_option maxHeartbeats 40000000 in
theorem ef_rmABLA (m : MethodId) (a1 : Addr) : entryFrame m #[(.ref a1)] 1 = mkF m 0 #[.val (.ref a1)] [] := by first | (simp [entryFrame, mkF, argsToLocals, Value.category]; done) | (rfl)
set_option maxRecDepth 65536 in
set_option maxHeartbeats 40000000 in
theorem rmABLA (l : Launch) (Z : State) (a0 : Array Value) (hw : ∀ d ∈ tables_1, d.before a0 Z = true) (a1 : Addr) (h0 : Heap) (O : Ext Z.heap h0) (za : Z.heap.size ≤ a1) (E_a1 : Exa Z h0 a1 "com/example/vertere/vertere/engine/Answers") (F_a1_modCount : Fld Z h0 a1 "java/util/AbstractList" "modCount" "I" (.int (0 : Int32))) (F_a1_tuples : Fld Z h0 a1 "com/example/vertere/vertere/engine/Answers" "tuples" "Ljava/util/List;" .null) (F_a1_consistent : Fld Z h0 a1 "com/example/vertere/vertere/engine/Answers" "consistent" "Z" (.int (0 : Int32))) (F_a1_contradiction : Fld Z h0 a1 "com/example/vertere/vertere/engine/Answers" "contradiction" "Ljava/util/Optional;" .null) :
    MN l Z (⟨"java/util/AbstractList", "<init>", "()V"⟩ : MethodName) jdk_39_method_1_code 1 none [] ({ frames := 2, cells := 0, slots := 0, locals := 30 } : Room) #[(.ref a1)] h0 [a1] (RU (fun h => Exa Z h a1 "com/example/vertere/vertere/engine/Answers" ∧ Fld Z h a1 "java/util/AbstractList" "modCount" "I" (.int (0 : Int32)) ∧ Fld Z h a1 "com/example/vertere/vertere/engine/Answers" "tuples" "Ljava/util/List;" .null ∧ Fld Z h a1 "com/example/vertere/vertere/engine/Answers" "consistent" "Z" (.int (0 : Int32)) ∧ Fld Z h a1 "com/example/vertere/vertere/engine/Answers" "contradiction" "Ljava/util/Optional;" .null)) := by
  refine MN.mk (a0 := a0) rfl rfl (plainFor_of_name pn1) O (fun m => ef_rmABLA m a1) ?_
  intro pg ev s m below meth cd T hh X
  subst hh
  refine X.aloadN (pc' := 1) d2_0 rfl rfl rfl ?_
  refine X.callO (pc' := 4) (X.sSpecial rfl (wd12 hw) (wd13 hw) (wd17 hw) (by decide) rfl pd0 [] rfl rfl d2_1) (rmACI l Z a0 hw a1 _ X.old) (wd17 hw) (wd16 hw) (leB rfl) (leB rfl) (leB rfl) (leB rfl) rfl ?_
  intro T L X
  refine X.aloadN (pc' := 5) d2_4 rfl rfl rfl ?_
  refine X.iconst (pc' := 6) (0 : Int32) d2_5 rfl rfl ?_
  refine X.putF (pc' := 9) (wd21 hw) Via.refl F_a1_modCount E_a1 (Or.inl (wd98 hw)) (wd91 hw) .int (by decide) rfl rfl safeE za (Or.inl (List.mem_of_getElem? (i := 0) rfl)) d2_6 rfl ?_
  intro T h L X W
  replace E_a1 := E_a1.wr W
  replace F_a1_tuples := F_a1_tuples.other W (Or.inr (slot_ne (Or.inr (wd186 hw)) (Or.inl (wd98 hw)) (by decide) (t := (.object "java/util/List")) (t' := .int) (by decide) (by decide)))
  replace F_a1_consistent := F_a1_consistent.other W (Or.inr (slot_ne (Or.inr (wd188 hw)) (Or.inl (wd98 hw)) (by decide) (t := .boolean) (t' := .int) (by decide) (by decide)))
  replace F_a1_contradiction := F_a1_contradiction.other W (Or.inr (slot_ne (Or.inr (wd190 hw)) (Or.inl (wd98 hw)) (by decide) (t := (.object "java/util/Optional")) (t' := .int) (by decide) (by decide)))
  replace F_a1_modCount := F_a1_modCount.same W
  exact X.retUN d2_9 (by decide) (by decide) ⟨rfl, E_a1, F_a1_modCount, F_a1_tuples, F_a1_consistent, F_a1_contradiction⟩
set_option maxRecDepth 65536 in
set_option maxHeartbeats 40000000 in
theorem ef_rmAns_1 (m : MethodId) (a1 : Addr) (a2 : Addr) (fl : Int32) : entryFrame m #[(.ref a1), (.ref a2), (.int fl), .null] 4 = mkF m 0 #[.val (.ref a1), .val (.ref a2), .val (.int fl), .val .null] [] := by first | (simp [entryFrame, mkF, argsToLocals, Value.category]; done) | (rfl)
set_option maxRecDepth 65536 in
set_option maxHeartbeats 40000000 in
theorem rmAns_1 (l : Launch) (Z : State) (a0 : Array Value) (hw : ∀ d ∈ tables_1, d.before a0 Z = true) (a1 : Addr) (a2 : Addr) (fl : Int32) (h0 : Heap) (O : Ext Z.heap h0) (em : Addr) (SM : Sta Z Z.heap "java/util/ImmutableCollections" "EMPTY" "Ljava/lang/Object;" (.ref em)) (hem : em < Z.heap.size) (mo : Addr) (M_o : Mrr Z "[Ljava/lang/Object;" mo) (za : Z.heap.size ≤ a1) (E_a1 : Exa Z h0 a1 "com/example/vertere/vertere/engine/Answers") (F_a1_modCount : Fld Z h0 a1 "java/util/AbstractList" "modCount" "I" (.int (0 : Int32))) (F_a1_tuples : Fld Z h0 a1 "com/example/vertere/vertere/engine/Answers" "tuples" "Ljava/util/List;" .null) (F_a1_consistent : Fld Z h0 a1 "com/example/vertere/vertere/engine/Answers" "consistent" "Z" (.int (0 : Int32))) (F_a1_contradiction : Fld Z h0 a1 "com/example/vertere/vertere/engine/Answers" "contradiction" "Ljava/util/Optional;" .null) (d : Addr) (ne2 : a2 ≠ a1) (ned : d ≠ a1) (mc : Int32) (A2 : AL Z h0 a2 (.ref d) (1 : Int32) mc) (e0 : Addr) (C0 : String) (wc0 : (Cond.castable C0 "java/lang/Object").before a0 Z = true) (E_e0 : Exa Z h0 e0 C0) (V_d : OA Z h0 d 10 [(.ref e0), (.null), (.null), (.null), (.null), (.null), (.null), (.null), (.null), (.null)]) (hfl : narrow .boolean (.int fl) = .int fl ∧ fits .boolean (.int fl) = true) :
    MN l Z (⟨"com/example/vertere/vertere/engine/Answers", "<init>", "(Ljava/util/List;ZLjava/util/Optional;)V"⟩ : MethodName) prog_6_method_1_code 4 none [] ({ frames := 9, cells := 4, slots := 32, locals := 180 } : Room) #[(.ref a1), (.ref a2), (.int fl), .null] h0 [a1] (RU (fun h => ∃ u, h0.size ≤ u ∧ Exa Z h a1 "com/example/vertere/vertere/engine/Answers" ∧ Fld Z h a1 "com/example/vertere/vertere/engine/Answers" "tuples" "Ljava/util/List;" (.ref u) ∧ L2 Z h u (.ref e0) (.ref em))) := by
  refine MN.mk (a0 := a0) rfl rfl (plainFor_of_name pn15) O (fun m => ef_rmAns_1 m a1 a2 fl) ?_
  intro pg ev s m below meth cd T hh X
  subst hh
  have lt_a1 := E_a1.lt
  refine X.aloadN (pc' := 1) d16_0 rfl rfl rfl ?_
  refine X.callU (pc' := 4) (X.sSpecial rfl (wd96 hw) (wd7 hw) (wd11 hw) (by decide) rfl pd0 [] rfl rfl d16_1) (rmABLA l Z a0 hw a1 _ X.old za E_a1 F_a1_modCount F_a1_tuples F_a1_consistent F_a1_contradiction) (wd11 hw) (wd10 hw) (leB rfl) (leB rfl) (leB rfl) (leB rfl) (sfS safeE sf0) (allS za all0) (allS (Or.inl (List.mem_of_getElem? (i := 0) rfl)) all0) rfl ?_
  intro T h L X K q
  have le1 := K.1
  replace A2 := A2.keep K (ninS ne2 nin0)
  replace V_d := V_d.keep K (ninS ned nin0)
  replace E_e0 := E_e0.keep K
  replace lt_a1 := Nat.lt_of_lt_of_le lt_a1 K.1
  clear E_a1 F_a1_modCount F_a1_tuples F_a1_consistent F_a1_contradiction
  obtain ⟨E_a1, F_a1_modCount, F_a1_tuples, F_a1_consistent, F_a1_contradiction⟩ := q
  refine X.aloadN (pc' := 5) d16_4 rfl rfl rfl ?_
  refine X.aloadN (pc' := 6) d16_5 rfl rfl rfl ?_
  refine X.callV (pc' := 9) (X.sStatic (wd99 hw) (wd100 hw) (wd101 hw) (wd102 hw) (by decide) rfl pd15 [(.ref a2)] rfl rfl d16_6) (rmCpy_1 l Z a0 hw a2 _ X.old em SM hem mo M_o d mc A2 e0 _ wc0 E_e0 V_d) (wd102 hw) (wd101 hw) (leB rfl) (leB rfl) (leB rfl) (leB rfl) sf0 all0 all0 rfl ?_
  intro T h L v X K q
  obtain ⟨u, rfl, le_u, q⟩ := q
  have ne_a1_u : a1 ≠ u := Nat.ne_of_lt (Nat.lt_of_lt_of_le lt_a1 le_u)
  replace E_e0 := E_e0.keep K
  replace lt_a1 := Nat.lt_of_lt_of_le lt_a1 K.1
  replace E_a1 := E_a1.keep K
  replace F_a1_modCount := F_a1_modCount.keep K nin0
  replace F_a1_tuples := F_a1_tuples.keep K nin0
  replace F_a1_consistent := F_a1_consistent.keep K nin0
  replace F_a1_contradiction := F_a1_contradiction.keep K nin0
  have lu := Nat.le_trans le1 le_u
  refine X.putF (pc' := 12) (wd185 hw) Via.refl F_a1_tuples E_a1 (Or.inr ⟨(wd186 hw), rfl, rfl⟩) (wd91 hw) (.object "java/util/List") (by decide) rfl rfl safeE za (Or.inl (List.mem_of_getElem? (i := 0) rfl)) d16_9 rfl ?_
  intro T h L X W
  replace E_e0 := E_e0.wr W
  replace lt_a1 := Nat.lt_of_lt_of_le lt_a1 (Keep.of_wr W).1
  replace E_a1 := E_a1.wr W
  replace F_a1_modCount := F_a1_modCount.other W (Or.inr (slot_ne (Or.inl (wd98 hw)) (Or.inr (wd186 hw)) (by decide) (t := .int) (t' := (.object "java/util/List")) (by decide) (by decide)))
  replace F_a1_consistent := F_a1_consistent.other W (Or.inr (slot_ne (Or.inr (wd188 hw)) (Or.inr (wd186 hw)) (by decide) (t := .boolean) (t' := (.object "java/util/List")) (by decide) (by decide)))
  replace F_a1_contradiction := F_a1_contradiction.other W (Or.inr (slot_ne (Or.inr (wd190 hw)) (Or.inr (wd186 hw)) (by decide) (t := (.object "java/util/Optional")) (t' := (.object "java/util/List")) (by decide) (by decide)))
  replace q := q.other W (Ne.symm ne_a1_u)
  replace F_a1_tuples := F_a1_tuples.same W
  refine X.aloadN (pc' := 13) d16_12 rfl rfl rfl ?_
  refine X.iloadN (pc' := 14) d16_13 rfl rfl ?_
  refine X.putF (pc' := 17) (wd187 hw) Via.refl F_a1_consistent E_a1 (Or.inr ⟨(wd188 hw), rfl, rfl⟩) (wd91 hw) .boolean (by decide) hfl.1 hfl.2 safeE za (Or.inl (List.mem_of_getElem? (i := 0) rfl)) d16_14 rfl ?_
  intro T h L X W
  replace E_e0 := E_e0.wr W
  replace lt_a1 := Nat.lt_of_lt_of_le lt_a1 (Keep.of_wr W).1
  replace E_a1 := E_a1.wr W
  replace F_a1_modCount := F_a1_modCount.other W (Or.inr (slot_ne (Or.inl (wd98 hw)) (Or.inr (wd188 hw)) (by decide) (t := .int) (t' := .boolean) (by decide) (by decide)))
  replace F_a1_tuples := F_a1_tuples.other W (Or.inr (slot_ne (Or.inr (wd186 hw)) (Or.inr (wd188 hw)) (by decide) (t := (.object "java/util/List")) (t' := .boolean) (by decide) (by decide)))
  replace F_a1_contradiction := F_a1_contradiction.other W (Or.inr (slot_ne (Or.inr (wd190 hw)) (Or.inr (wd188 hw)) (by decide) (t := (.object "java/util/Optional")) (t' := .boolean) (by decide) (by decide)))
  replace q := q.other W (Ne.symm ne_a1_u)
  replace F_a1_consistent := F_a1_consistent.same W
  refine X.aloadN (pc' := 18) d16_17 rfl rfl rfl ?_
  refine X.aloadN (pc' := 19) d16_18 rfl rfl rfl ?_
  refine X.putF (pc' := 22) (wd189 hw) Via.refl F_a1_contradiction E_a1 (Or.inr ⟨(wd190 hw), rfl, rfl⟩) (wd91 hw) (.object "java/util/Optional") (by decide) rfl rfl safeE za (Or.inl (List.mem_of_getElem? (i := 0) rfl)) d16_19 rfl ?_
  intro T h L X W
  replace E_e0 := E_e0.wr W
  replace lt_a1 := Nat.lt_of_lt_of_le lt_a1 (Keep.of_wr W).1
  replace E_a1 := E_a1.wr W
  replace F_a1_modCount := F_a1_modCount.other W (Or.inr (slot_ne (Or.inl (wd98 hw)) (Or.inr (wd190 hw)) (by decide) (t := .int) (t' := (.object "java/util/Optional")) (by decide) (by decide)))
  replace F_a1_tuples := F_a1_tuples.other W (Or.inr (slot_ne (Or.inr (wd186 hw)) (Or.inr (wd190 hw)) (by decide) (t := (.object "java/util/List")) (t' := (.object "java/util/Optional")) (by decide) (by decide)))
  replace F_a1_consistent := F_a1_consistent.other W (Or.inr (slot_ne (Or.inr (wd188 hw)) (Or.inr (wd190 hw)) (by decide) (t := .boolean) (t' := (.object "java/util/Optional")) (by decide) (by decide)))
  replace q := q.other W (Ne.symm ne_a1_u)
  replace F_a1_contradiction := F_a1_contradiction.same W
  exact X.retUN d16_22 (by decide) (by decide) ⟨rfl, u, lu, E_a1, F_a1_tuples, q⟩
set_option maxRecDepth 65536 in
set_option maxHeartbeats 40000000 in
theorem ef_rmAns_2 (m : MethodId) (a1 : Addr) (a2 : Addr) (fl : Int32) : entryFrame m #[(.ref a1), (.ref a2), (.int fl), .null] 4 = mkF m 0 #[.val (.ref a1), .val (.ref a2), .val (.int fl), .val .null] [] := by first | (simp [entryFrame, mkF, argsToLocals, Value.category]; done) | (rfl)
set_option maxRecDepth 65536 in
set_option maxHeartbeats 40000000 in
theorem rmAns_2 (l : Launch) (Z : State) (a0 : Array Value) (hw : ∀ d ∈ tables_1, d.before a0 Z = true) (a1 : Addr) (a2 : Addr) (fl : Int32) (h0 : Heap) (O : Ext Z.heap h0) (em : Addr) (SM : Sta Z Z.heap "java/util/ImmutableCollections" "EMPTY" "Ljava/lang/Object;" (.ref em)) (hem : em < Z.heap.size) (mo : Addr) (M_o : Mrr Z "[Ljava/lang/Object;" mo) (za : Z.heap.size ≤ a1) (E_a1 : Exa Z h0 a1 "com/example/vertere/vertere/engine/Answers") (F_a1_modCount : Fld Z h0 a1 "java/util/AbstractList" "modCount" "I" (.int (0 : Int32))) (F_a1_tuples : Fld Z h0 a1 "com/example/vertere/vertere/engine/Answers" "tuples" "Ljava/util/List;" .null) (F_a1_consistent : Fld Z h0 a1 "com/example/vertere/vertere/engine/Answers" "consistent" "Z" (.int (0 : Int32))) (F_a1_contradiction : Fld Z h0 a1 "com/example/vertere/vertere/engine/Answers" "contradiction" "Ljava/util/Optional;" .null) (d : Addr) (ne2 : a2 ≠ a1) (ned : d ≠ a1) (mc : Int32) (A2 : AL Z h0 a2 (.ref d) (2 : Int32) mc) (e0 : Addr) (C0 : String) (wc0 : (Cond.castable C0 "java/lang/Object").before a0 Z = true) (E_e0 : Exa Z h0 e0 C0) (e1 : Addr) (C1 : String) (wc1 : (Cond.castable C1 "java/lang/Object").before a0 Z = true) (E_e1 : Exa Z h0 e1 C1) (V_d : OA Z h0 d 10 [(.ref e0), (.ref e1), (.null), (.null), (.null), (.null), (.null), (.null), (.null), (.null)]) (hfl : narrow .boolean (.int fl) = .int fl ∧ fits .boolean (.int fl) = true) :
    MN l Z (⟨"com/example/vertere/vertere/engine/Answers", "<init>", "(Ljava/util/List;ZLjava/util/Optional;)V"⟩ : MethodName) prog_6_method_1_code 4 none [] ({ frames := 9, cells := 4, slots := 34, locals := 180 } : Room) #[(.ref a1), (.ref a2), (.int fl), .null] h0 [a1] (RU (fun h => ∃ u, h0.size ≤ u ∧ Exa Z h a1 "com/example/vertere/vertere/engine/Answers" ∧ Fld Z h a1 "com/example/vertere/vertere/engine/Answers" "tuples" "Ljava/util/List;" (.ref u) ∧ L2 Z h u (.ref e0) (.ref e1))) := by
  refine MN.mk (a0 := a0) rfl rfl (plainFor_of_name pn15) O (fun m => ef_rmAns_2 m a1 a2 fl) ?_
  intro pg ev s m below meth cd T hh X
  subst hh
  have lt_a1 := E_a1.lt
  refine X.aloadN (pc' := 1) d16_0 rfl rfl rfl ?_
  refine X.callU (pc' := 4) (X.sSpecial rfl (wd96 hw) (wd7 hw) (wd11 hw) (by decide) rfl pd0 [] rfl rfl d16_1) (rmABLA l Z a0 hw a1 _ X.old za E_a1 F_a1_modCount F_a1_tuples F_a1_consistent F_a1_contradiction) (wd11 hw) (wd10 hw) (leB rfl) (leB rfl) (leB rfl) (leB rfl) (sfS safeE sf0) (allS za all0) (allS (Or.inl (List.mem_of_getElem? (i := 0) rfl)) all0) rfl ?_
  intro T h L X K q
  have le1 := K.1
  replace A2 := A2.keep K (ninS ne2 nin0)
  replace V_d := V_d.keep K (ninS ned nin0)
  replace E_e0 := E_e0.keep K
  replace E_e1 := E_e1.keep K
  replace lt_a1 := Nat.lt_of_lt_of_le lt_a1 K.1
  clear E_a1 F_a1_modCount F_a1_tuples F_a1_consistent F_a1_contradiction
  obtain ⟨E_a1, F_a1_modCount, F_a1_tuples, F_a1_consistent, F_a1_contradiction⟩ := q
  refine X.aloadN (pc' := 5) d16_4 rfl rfl rfl ?_
  refine X.aloadN (pc' := 6) d16_5 rfl rfl rfl ?_
  refine X.callV (pc' := 9) (X.sStatic (wd99 hw) (wd100 hw) (wd101 hw) (wd102 hw) (by decide) rfl pd15 [(.ref a2)] rfl rfl d16_6) (rmCpy_2 l Z a0 hw a2 _ X.old em SM hem mo M_o d mc A2 e0 _ wc0 E_e0 e1 _ wc1 E_e1 V_d) (wd102 hw) (wd101 hw) (leB rfl) (leB rfl) (leB rfl) (leB rfl) sf0 all0 all0 rfl ?_
  intro T h L v X K q
  obtain ⟨u, rfl, le_u, q⟩ := q
  have ne_a1_u : a1 ≠ u := Nat.ne_of_lt (Nat.lt_of_lt_of_le lt_a1 le_u)
  replace E_e0 := E_e0.keep K
  replace E_e1 := E_e1.keep K
  replace lt_a1 := Nat.lt_of_lt_of_le lt_a1 K.1
  replace E_a1 := E_a1.keep K
  replace F_a1_modCount := F_a1_modCount.keep K nin0
  replace F_a1_tuples := F_a1_tuples.keep K nin0
  replace F_a1_consistent := F_a1_consistent.keep K nin0
  replace F_a1_contradiction := F_a1_contradiction.keep K nin0
  have lu := Nat.le_trans le1 le_u
  refine X.putF (pc' := 12) (wd185 hw) Via.refl F_a1_tuples E_a1 (Or.inr ⟨(wd186 hw), rfl, rfl⟩) (wd91 hw) (.object "java/util/List") (by decide) rfl rfl safeE za (Or.inl (List.mem_of_getElem? (i := 0) rfl)) d16_9 rfl ?_
  intro T h L X W
  replace E_e0 := E_e0.wr W
  replace E_e1 := E_e1.wr W
  replace lt_a1 := Nat.lt_of_lt_of_le lt_a1 (Keep.of_wr W).1
  replace E_a1 := E_a1.wr W
  replace F_a1_modCount := F_a1_modCount.other W (Or.inr (slot_ne (Or.inl (wd98 hw)) (Or.inr (wd186 hw)) (by decide) (t := .int) (t' := (.object "java/util/List")) (by decide) (by decide)))
  replace F_a1_consistent := F_a1_consistent.other W (Or.inr (slot_ne (Or.inr (wd188 hw)) (Or.inr (wd186 hw)) (by decide) (t := .boolean) (t' := (.object "java/util/List")) (by decide) (by decide)))
  replace F_a1_contradiction := F_a1_contradiction.other W (Or.inr (slot_ne (Or.inr (wd190 hw)) (Or.inr (wd186 hw)) (by decide) (t := (.object "java/util/Optional")) (t' := (.object "java/util/List")) (by decide) (by decide)))
  replace q := q.other W (Ne.symm ne_a1_u)
  replace F_a1_tuples := F_a1_tuples.same W
  refine X.aloadN (pc' := 13) d16_12 rfl rfl rfl ?_
  refine X.iloadN (pc' := 14) d16_13 rfl rfl ?_
  refine X.putF (pc' := 17) (wd187 hw) Via.refl F_a1_consistent E_a1 (Or.inr ⟨(wd188 hw), rfl, rfl⟩) (wd91 hw) .boolean (by decide) hfl.1 hfl.2 safeE za (Or.inl (List.mem_of_getElem? (i := 0) rfl)) d16_14 rfl ?_
  intro T h L X W
  replace E_e0 := E_e0.wr W
  replace E_e1 := E_e1.wr W
  replace lt_a1 := Nat.lt_of_lt_of_le lt_a1 (Keep.of_wr W).1
  replace E_a1 := E_a1.wr W
  replace F_a1_modCount := F_a1_modCount.other W (Or.inr (slot_ne (Or.inl (wd98 hw)) (Or.inr (wd188 hw)) (by decide) (t := .int) (t' := .boolean) (by decide) (by decide)))
  replace F_a1_tuples := F_a1_tuples.other W (Or.inr (slot_ne (Or.inr (wd186 hw)) (Or.inr (wd188 hw)) (by decide) (t := (.object "java/util/List")) (t' := .boolean) (by decide) (by decide)))
  replace F_a1_contradiction := F_a1_contradiction.other W (Or.inr (slot_ne (Or.inr (wd190 hw)) (Or.inr (wd188 hw)) (by decide) (t := (.object "java/util/Optional")) (t' := .boolean) (by decide) (by decide)))
  replace q := q.other W (Ne.symm ne_a1_u)
  replace F_a1_consistent := F_a1_consistent.same W
  refine X.aloadN (pc' := 18) d16_17 rfl rfl rfl ?_
  refine X.aloadN (pc' := 19) d16_18 rfl rfl rfl ?_
  refine X.putF (pc' := 22) (wd189 hw) Via.refl F_a1_contradiction E_a1 (Or.inr ⟨(wd190 hw), rfl, rfl⟩) (wd91 hw) (.object "java/util/Optional") (by decide) rfl rfl safeE za (Or.inl (List.mem_of_getElem? (i := 0) rfl)) d16_19 rfl ?_
  intro T h L X W
  replace E_e0 := E_e0.wr W
  replace E_e1 := E_e1.wr W
  replace lt_a1 := Nat.lt_of_lt_of_le lt_a1 (Keep.of_wr W).1
  replace E_a1 := E_a1.wr W
  replace F_a1_modCount := F_a1_modCount.other W (Or.inr (slot_ne (Or.inl (wd98 hw)) (Or.inr (wd190 hw)) (by decide) (t := .int) (t' := (.object "java/util/Optional")) (by decide) (by decide)))
  replace F_a1_tuples := F_a1_tuples.other W (Or.inr (slot_ne (Or.inr (wd186 hw)) (Or.inr (wd190 hw)) (by decide) (t := (.object "java/util/List")) (t' := (.object "java/util/Optional")) (by decide) (by decide)))
  replace F_a1_consistent := F_a1_consistent.other W (Or.inr (slot_ne (Or.inr (wd188 hw)) (Or.inr (wd190 hw)) (by decide) (t := .boolean) (t' := (.object "java/util/Optional")) (by decide) (by decide)))
  replace q := q.other W (Ne.symm ne_a1_u)
  replace F_a1_contradiction := F_a1_contradiction.same W
  exact X.retUN d16_22 (by decide) (by decide) ⟨rfl, u, lu, E_a1, F_a1_tuples, q⟩
set_option maxRecDepth 65536 in
set_option maxHeartbeats 40000000 in
theorem ef_rmAns_3 (m : MethodId) (a1 : Addr) (a2 : Addr) (fl : Int32) : entryFrame m #[(.ref a1), (.ref a2), (.int fl), .null] 4 = mkF m 0 #[.val (.ref a1), .val (.ref a2), .val (.int fl), .val .null] [] := by first | (simp [entryFrame, mkF, argsToLocals, Value.category]; done) | (rfl)
set_option maxRecDepth 65536 in
set_option maxHeartbeats 40000000 in
theorem rmAns_3 (l : Launch) (Z : State) (a0 : Array Value) (hw : ∀ d ∈ tables_1, d.before a0 Z = true) (a1 : Addr) (a2 : Addr) (fl : Int32) (h0 : Heap) (O : Ext Z.heap h0) (em : Addr) (SM : Sta Z Z.heap "java/util/ImmutableCollections" "EMPTY" "Ljava/lang/Object;" (.ref em)) (hem : em < Z.heap.size) (mo : Addr) (M_o : Mrr Z "[Ljava/lang/Object;" mo) (za : Z.heap.size ≤ a1) (E_a1 : Exa Z h0 a1 "com/example/vertere/vertere/engine/Answers") (F_a1_modCount : Fld Z h0 a1 "java/util/AbstractList" "modCount" "I" (.int (0 : Int32))) (F_a1_tuples : Fld Z h0 a1 "com/example/vertere/vertere/engine/Answers" "tuples" "Ljava/util/List;" .null) (F_a1_consistent : Fld Z h0 a1 "com/example/vertere/vertere/engine/Answers" "consistent" "Z" (.int (0 : Int32))) (F_a1_contradiction : Fld Z h0 a1 "com/example/vertere/vertere/engine/Answers" "contradiction" "Ljava/util/Optional;" .null) (d : Addr) (ne2 : a2 ≠ a1) (ned : d ≠ a1) (mc : Int32) (A2 : AL Z h0 a2 (.ref d) (3 : Int32) mc) (e0 : Addr) (C0 : String) (wc0 : (Cond.castable C0 "java/lang/Object").before a0 Z = true) (E_e0 : Exa Z h0 e0 C0) (e1 : Addr) (C1 : String) (wc1 : (Cond.castable C1 "java/lang/Object").before a0 Z = true) (E_e1 : Exa Z h0 e1 C1) (e2 : Addr) (C2 : String) (wc2 : (Cond.castable C2 "java/lang/Object").before a0 Z = true) (E_e2 : Exa Z h0 e2 C2) (V_d : OA Z h0 d 10 [(.ref e0), (.ref e1), (.ref e2), (.null), (.null), (.null), (.null), (.null), (.null), (.null)]) (hfl : narrow .boolean (.int fl) = .int fl ∧ fits .boolean (.int fl) = true) :
    MN l Z (⟨"com/example/vertere/vertere/engine/Answers", "<init>", "(Ljava/util/List;ZLjava/util/Optional;)V"⟩ : MethodName) prog_6_method_1_code 4 none [] ({ frames := 9, cells := 4, slots := 36, locals := 180 } : Room) #[(.ref a1), (.ref a2), (.int fl), .null] h0 [a1] (RU (fun h => ∃ u, h0.size ≤ u ∧ Exa Z h a1 "com/example/vertere/vertere/engine/Answers" ∧ Fld Z h a1 "com/example/vertere/vertere/engine/Answers" "tuples" "Ljava/util/List;" (.ref u) ∧ LN Z h h0.size u (3 : Int32) [(.ref e0), (.ref e1), (.ref e2)])) := by
  refine MN.mk (a0 := a0) rfl rfl (plainFor_of_name pn15) O (fun m => ef_rmAns_3 m a1 a2 fl) ?_
  intro pg ev s m below meth cd T hh X
  subst hh
  have lt_a1 := E_a1.lt
  refine X.aloadN (pc' := 1) d16_0 rfl rfl rfl ?_
  refine X.callU (pc' := 4) (X.sSpecial rfl (wd96 hw) (wd7 hw) (wd11 hw) (by decide) rfl pd0 [] rfl rfl d16_1) (rmABLA l Z a0 hw a1 _ X.old za E_a1 F_a1_modCount F_a1_tuples F_a1_consistent F_a1_contradiction) (wd11 hw) (wd10 hw) (leB rfl) (leB rfl) (leB rfl) (leB rfl) (sfS safeE sf0) (allS za all0) (allS (Or.inl (List.mem_of_getElem? (i := 0) rfl)) all0) rfl ?_
  intro T h L X K q
  have le1 := K.1
  replace A2 := A2.keep K (ninS ne2 nin0)
  replace V_d := V_d.keep K (ninS ned nin0)
  replace E_e0 := E_e0.keep K
  replace E_e1 := E_e1.keep K
  replace E_e2 := E_e2.keep K
  replace lt_a1 := Nat.lt_of_lt_of_le lt_a1 K.1
  clear E_a1 F_a1_modCount F_a1_tuples F_a1_consistent F_a1_contradiction
  obtain ⟨E_a1, F_a1_modCount, F_a1_tuples, F_a1_consistent, F_a1_contradiction⟩ := q
  refine X.aloadN (pc' := 5) d16_4 rfl rfl rfl ?_
  refine X.aloadN (pc' := 6) d16_5 rfl rfl rfl ?_
  refine X.callV (pc' := 9) (X.sStatic (wd99 hw) (wd100 hw) (wd101 hw) (wd102 hw) (by decide) rfl pd15 [(.ref a2)] rfl rfl d16_6) (rmCpy_3 l Z a0 hw a2 _ X.old em SM hem mo M_o d mc A2 e0 _ wc0 E_e0 e1 _ wc1 E_e1 e2 _ wc2 E_e2 V_d) (wd102 hw) (wd101 hw) (leB rfl) (leB rfl) (leB rfl) (leB rfl) sf0 all0 all0 rfl ?_
  intro T h L v X K q
  obtain ⟨u, rfl, le_u, q⟩ := q
  have ne_a1_u : a1 ≠ u := Nat.ne_of_lt (Nat.lt_of_lt_of_le lt_a1 le_u)
  replace E_e0 := E_e0.keep K
  replace E_e1 := E_e1.keep K
  replace E_e2 := E_e2.keep K
  replace lt_a1 := Nat.lt_of_lt_of_le lt_a1 K.1
  replace E_a1 := E_a1.keep K
  replace F_a1_modCount := F_a1_modCount.keep K nin0
  replace F_a1_tuples := F_a1_tuples.keep K nin0
  replace F_a1_consistent := F_a1_consistent.keep K nin0
  replace F_a1_contradiction := F_a1_contradiction.keep K nin0
  have lu := Nat.le_trans le1 le_u
  obtain ⟨E_u, el, neu, lo_el, F_u_elements, V_el⟩ := q
  have lt_el := V_el.lt
  have nel : el ≠ a1 := by obtain ⟨k9, v9, -⟩ := V_el; exact Ne.symm (Exa.neArv E_a1 v9 (wd91 hw))
  refine X.putF (pc' := 12) (wd185 hw) Via.refl F_a1_tuples E_a1 (Or.inr ⟨(wd186 hw), rfl, rfl⟩) (wd91 hw) (.object "java/util/List") (by decide) rfl rfl safeE za (Or.inl (List.mem_of_getElem? (i := 0) rfl)) d16_9 rfl ?_
  intro T h L X W
  replace E_e0 := E_e0.wr W
  replace E_e1 := E_e1.wr W
  replace E_e2 := E_e2.wr W
  replace lt_a1 := Nat.lt_of_lt_of_le lt_a1 (Keep.of_wr W).1
  replace E_a1 := E_a1.wr W
  replace F_a1_modCount := F_a1_modCount.other W (Or.inr (slot_ne (Or.inl (wd98 hw)) (Or.inr (wd186 hw)) (by decide) (t := .int) (t' := (.object "java/util/List")) (by decide) (by decide)))
  replace F_a1_consistent := F_a1_consistent.other W (Or.inr (slot_ne (Or.inr (wd188 hw)) (Or.inr (wd186 hw)) (by decide) (t := .boolean) (t' := (.object "java/util/List")) (by decide) (by decide)))
  replace F_a1_contradiction := F_a1_contradiction.other W (Or.inr (slot_ne (Or.inr (wd190 hw)) (Or.inr (wd186 hw)) (by decide) (t := (.object "java/util/Optional")) (t' := (.object "java/util/List")) (by decide) (by decide)))
  replace E_u := E_u.wr W
  replace F_u_elements := F_u_elements.other W (Or.inl (Ne.symm ne_a1_u))
  replace V_el := V_el.other W nel
  replace F_a1_tuples := F_a1_tuples.same W
  refine X.aloadN (pc' := 13) d16_12 rfl rfl rfl ?_
  refine X.iloadN (pc' := 14) d16_13 rfl rfl ?_
  refine X.putF (pc' := 17) (wd187 hw) Via.refl F_a1_consistent E_a1 (Or.inr ⟨(wd188 hw), rfl, rfl⟩) (wd91 hw) .boolean (by decide) hfl.1 hfl.2 safeE za (Or.inl (List.mem_of_getElem? (i := 0) rfl)) d16_14 rfl ?_
  intro T h L X W
  replace E_e0 := E_e0.wr W
  replace E_e1 := E_e1.wr W
  replace E_e2 := E_e2.wr W
  replace lt_a1 := Nat.lt_of_lt_of_le lt_a1 (Keep.of_wr W).1
  replace E_a1 := E_a1.wr W
  replace F_a1_modCount := F_a1_modCount.other W (Or.inr (slot_ne (Or.inl (wd98 hw)) (Or.inr (wd188 hw)) (by decide) (t := .int) (t' := .boolean) (by decide) (by decide)))
  replace F_a1_tuples := F_a1_tuples.other W (Or.inr (slot_ne (Or.inr (wd186 hw)) (Or.inr (wd188 hw)) (by decide) (t := (.object "java/util/List")) (t' := .boolean) (by decide) (by decide)))
  replace F_a1_contradiction := F_a1_contradiction.other W (Or.inr (slot_ne (Or.inr (wd190 hw)) (Or.inr (wd188 hw)) (by decide) (t := (.object "java/util/Optional")) (t' := .boolean) (by decide) (by decide)))
  replace E_u := E_u.wr W
  replace F_u_elements := F_u_elements.other W (Or.inl (Ne.symm ne_a1_u))
  replace V_el := V_el.other W nel
  replace F_a1_consistent := F_a1_consistent.same W
  refine X.aloadN (pc' := 18) d16_17 rfl rfl rfl ?_
  refine X.aloadN (pc' := 19) d16_18 rfl rfl rfl ?_
  refine X.putF (pc' := 22) (wd189 hw) Via.refl F_a1_contradiction E_a1 (Or.inr ⟨(wd190 hw), rfl, rfl⟩) (wd91 hw) (.object "java/util/Optional") (by decide) rfl rfl safeE za (Or.inl (List.mem_of_getElem? (i := 0) rfl)) d16_19 rfl ?_
  intro T h L X W
  replace E_e0 := E_e0.wr W
  replace E_e1 := E_e1.wr W
  replace E_e2 := E_e2.wr W
  replace lt_a1 := Nat.lt_of_lt_of_le lt_a1 (Keep.of_wr W).1
  replace E_a1 := E_a1.wr W
  replace F_a1_modCount := F_a1_modCount.other W (Or.inr (slot_ne (Or.inl (wd98 hw)) (Or.inr (wd190 hw)) (by decide) (t := .int) (t' := (.object "java/util/Optional")) (by decide) (by decide)))
  replace F_a1_tuples := F_a1_tuples.other W (Or.inr (slot_ne (Or.inr (wd186 hw)) (Or.inr (wd190 hw)) (by decide) (t := (.object "java/util/List")) (t' := (.object "java/util/Optional")) (by decide) (by decide)))
  replace F_a1_consistent := F_a1_consistent.other W (Or.inr (slot_ne (Or.inr (wd188 hw)) (Or.inr (wd190 hw)) (by decide) (t := .boolean) (t' := (.object "java/util/Optional")) (by decide) (by decide)))
  replace E_u := E_u.wr W
  replace F_u_elements := F_u_elements.other W (Or.inl (Ne.symm ne_a1_u))
  replace V_el := V_el.other W nel
  replace F_a1_contradiction := F_a1_contradiction.same W
  exact X.retUN d16_22 (by decide) (by decide) ⟨rfl, u, lu, E_a1, F_a1_tuples, E_u, el, neu, Nat.le_trans le1 lo_el, F_u_elements, V_el⟩
set_option maxRecDepth 65536 in
set_option maxHeartbeats 40000000 in
theorem ef_rmAns_4 (m : MethodId) (a1 : Addr) (a2 : Addr) (fl : Int32) : entryFrame m #[(.ref a1), (.ref a2), (.int fl), .null] 4 = mkF m 0 #[.val (.ref a1), .val (.ref a2), .val (.int fl), .val .null] [] := by first | (simp [entryFrame, mkF, argsToLocals, Value.category]; done) | (rfl)
set_option maxRecDepth 65536 in
set_option maxHeartbeats 40000000 in
theorem rmAns_4 (l : Launch) (Z : State) (a0 : Array Value) (hw : ∀ d ∈ tables_1, d.before a0 Z = true) (a1 : Addr) (a2 : Addr) (fl : Int32) (h0 : Heap) (O : Ext Z.heap h0) (em : Addr) (SM : Sta Z Z.heap "java/util/ImmutableCollections" "EMPTY" "Ljava/lang/Object;" (.ref em)) (hem : em < Z.heap.size) (mo : Addr) (M_o : Mrr Z "[Ljava/lang/Object;" mo) (za : Z.heap.size ≤ a1) (E_a1 : Exa Z h0 a1 "com/example/vertere/vertere/engine/Answers") (F_a1_modCount : Fld Z h0 a1 "java/util/AbstractList" "modCount" "I" (.int (0 : Int32))) (F_a1_tuples : Fld Z h0 a1 "com/example/vertere/vertere/engine/Answers" "tuples" "Ljava/util/List;" .null) (F_a1_consistent : Fld Z h0 a1 "com/example/vertere/vertere/engine/Answers" "consistent" "Z" (.int (0 : Int32))) (F_a1_contradiction : Fld Z h0 a1 "com/example/vertere/vertere/engine/Answers" "contradiction" "Ljava/util/Optional;" .null) (d : Addr) (ne2 : a2 ≠ a1) (ned : d ≠ a1) (mc : Int32) (A2 : AL Z h0 a2 (.ref d) (4 : Int32) mc) (e0 : Addr) (C0 : String) (wc0 : (Cond.castable C0 "java/lang/Object").before a0 Z = true) (E_e0 : Exa Z h0 e0 C0) (e1 : Addr) (C1 : String) (wc1 : (Cond.castable C1 "java/lang/Object").before a0 Z = true) (E_e1 : Exa Z h0 e1 C1) (e2 : Addr) (C2 : String) (wc2 : (Cond.castable C2 "java/lang/Object").before a0 Z = true) (E_e2 : Exa Z h0 e2 C2) (e3 : Addr) (C3 : String) (wc3 : (Cond.castable C3 "java/lang/Object").before a0 Z = true) (E_e3 : Exa Z h0 e3 C3) (V_d : OA Z h0 d 10 [(.ref e0), (.ref e1), (.ref e2), (.ref e3), (.null), (.null), (.null), (.null), (.null), (.null)]) (hfl : narrow .boolean (.int fl) = .int fl ∧ fits .boolean (.int fl) = true) :
    MN l Z (⟨"com/example/vertere/vertere/engine/Answers", "<init>", "(Ljava/util/List;ZLjava/util/Optional;)V"⟩ : MethodName) prog_6_method_1_code 4 none [] ({ frames := 9, cells := 4, slots := 38, locals := 180 } : Room) #[(.ref a1), (.ref a2), (.int fl), .null] h0 [a1] (RU (fun h => ∃ u, h0.size ≤ u ∧ Exa Z h a1 "com/example/vertere/vertere/engine/Answers" ∧ Fld Z h a1 "com/example/vertere/vertere/engine/Answers" "tuples" "Ljava/util/List;" (.ref u) ∧ LN Z h h0.size u (4 : Int32) [(.ref e0), (.ref e1), (.ref e2), (.ref e3)])) := by
  refine MN.mk (a0 := a0) rfl rfl (plainFor_of_name pn15) O (fun m => ef_rmAns_4 m a1 a2 fl) ?_
  intro pg ev s m below meth cd T hh X
  subst hh
  have lt_a1 := E_a1.lt
  refine X.aloadN (pc' := 1) d16_0 rfl rfl rfl ?_
  refine X.callU (pc' := 4) (X.sSpecial rfl (wd96 hw) (wd7 hw) (wd11 hw) (by decide) rfl pd0 [] rfl rfl d16_1) (rmABLA l Z a0 hw a1 _ X.old za E_a1 F_a1_modCount F_a1_tuples F_a1_consistent F_a1_contradiction) (wd11 hw) (wd10 hw) (leB rfl) (leB rfl) (leB rfl) (leB rfl) (sfS safeE sf0) (allS za all0) (allS (Or.inl (List.mem_of_getElem? (i := 0) rfl)) all0) rfl ?_
  intro T h L X K q
  have le1 := K.1
  replace A2 := A2.keep K (ninS ne2 nin0)
  replace V_d := V_d.keep K (ninS ned nin0)
  replace E_e0 := E_e0.keep K
  replace E_e1 := E_e1.keep K
  replace E_e2 := E_e2.keep K
  replace E_e3 := E_e3.keep K
  replace lt_a1 := Nat.lt_of_lt_of_le lt_a1 K.1
  clear E_a1 F_a1_modCount F_a1_tuples F_a1_consistent F_a1_contradiction
  obtain ⟨E_a1, F_a1_modCount, F_a1_tuples, F_a1_consistent, F_a1_contradiction⟩ := q
  refine X.aloadN (pc' := 5) d16_4 rfl rfl rfl ?_
  refine X.aloadN (pc' := 6) d16_5 rfl rfl rfl ?_
  refine X.callV (pc' := 9) (X.sStatic (wd99 hw) (wd100 hw) (wd101 hw) (wd102 hw) (by decide) rfl pd15 [(.ref a2)] rfl rfl d16_6) (rmCpy_4 l Z a0 hw a2 _ X.old em SM hem mo M_o d mc A2 e0 _ wc0 E_e0 e1 _ wc1 E_e1 e2 _ wc2 E_e2 e3 _ wc3 E_e3 V_d) (wd102 hw) (wd101 hw) (leB rfl) (leB rfl) (leB rfl) (leB rfl) sf0 all0 all0 rfl ?_
  intro T h L v X K q
  obtain ⟨u, rfl, le_u, q⟩ := q
  have ne_a1_u : a1 ≠ u := Nat.ne_of_lt (Nat.lt_of_lt_of_le lt_a1 le_u)
  replace E_e0 := E_e0.keep K
  replace E_e1 := E_e1.keep K
  replace E_e2 := E_e2.keep K
  replace E_e3 := E_e3.keep K
  replace lt_a1 := Nat.lt_of_lt_of_le lt_a1 K.1
  replace E_a1 := E_a1.keep K
  replace F_a1_modCount := F_a1_modCount.keep K nin0
  replace F_a1_tuples := F_a1_tuples.keep K nin0
  replace F_a1_consistent := F_a1_consistent.keep K nin0
  replace F_a1_contradiction := F_a1_contradiction.keep K nin0
  have lu := Nat.le_trans le1 le_u
  obtain ⟨E_u, el, neu, lo_el, F_u_elements, V_el⟩ := q
  have lt_el := V_el.lt
  have nel : el ≠ a1 := by obtain ⟨k9, v9, -⟩ := V_el; exact Ne.symm (Exa.neArv E_a1 v9 (wd91 hw))
  refine X.putF (pc' := 12) (wd185 hw) Via.refl F_a1_tuples E_a1 (Or.inr ⟨(wd186 hw), rfl, rfl⟩) (wd91 hw) (.object "java/util/List") (by decide) rfl rfl safeE za (Or.inl (List.mem_of_getElem? (i := 0) rfl)) d16_9 rfl ?_
  intro T h L X W
  replace E_e0 := E_e0.wr W
  replace E_e1 := E_e1.wr W
  replace E_e2 := E_e2.wr W
  replace E_e3 := E_e3.wr W
  replace lt_a1 := Nat.lt_of_lt_of_le lt_a1 (Keep.of_wr W).1
  replace E_a1 := E_a1.wr W
  replace F_a1_modCount := F_a1_modCount.other W (Or.inr (slot_ne (Or.inl (wd98 hw)) (Or.inr (wd186 hw)) (by decide) (t := .int) (t' := (.object "java/util/List")) (by decide) (by decide)))
  replace F_a1_consistent := F_a1_consistent.other W (Or.inr (slot_ne (Or.inr (wd188 hw)) (Or.inr (wd186 hw)) (by decide) (t := .boolean) (t' := (.object "java/util/List")) (by decide) (by decide)))
  replace F_a1_contradiction := F_a1_contradiction.other W (Or.inr (slot_ne (Or.inr (wd190 hw)) (Or.inr (wd186 hw)) (by decide) (t := (.object "java/util/Optional")) (t' := (.object "java/util/List")) (by decide) (by decide)))
  replace E_u := E_u.wr W
  replace F_u_elements := F_u_elements.other W (Or.inl (Ne.symm ne_a1_u))
  replace V_el := V_el.other W nel
  replace F_a1_tuples := F_a1_tuples.same W
  refine X.aloadN (pc' := 13) d16_12 rfl rfl rfl ?_
  refine X.iloadN (pc' := 14) d16_13 rfl rfl ?_
  refine X.putF (pc' := 17) (wd187 hw) Via.refl F_a1_consistent E_a1 (Or.inr ⟨(wd188 hw), rfl, rfl⟩) (wd91 hw) .boolean (by decide) hfl.1 hfl.2 safeE za (Or.inl (List.mem_of_getElem? (i := 0) rfl)) d16_14 rfl ?_
  intro T h L X W
  replace E_e0 := E_e0.wr W
  replace E_e1 := E_e1.wr W
  replace E_e2 := E_e2.wr W
  replace E_e3 := E_e3.wr W
  replace lt_a1 := Nat.lt_of_lt_of_le lt_a1 (Keep.of_wr W).1
  replace E_a1 := E_a1.wr W
  replace F_a1_modCount := F_a1_modCount.other W (Or.inr (slot_ne (Or.inl (wd98 hw)) (Or.inr (wd188 hw)) (by decide) (t := .int) (t' := .boolean) (by decide) (by decide)))
  replace F_a1_tuples := F_a1_tuples.other W (Or.inr (slot_ne (Or.inr (wd186 hw)) (Or.inr (wd188 hw)) (by decide) (t := (.object "java/util/List")) (t' := .boolean) (by decide) (by decide)))
  replace F_a1_contradiction := F_a1_contradiction.other W (Or.inr (slot_ne (Or.inr (wd190 hw)) (Or.inr (wd188 hw)) (by decide) (t := (.object "java/util/Optional")) (t' := .boolean) (by decide) (by decide)))
  replace E_u := E_u.wr W
  replace F_u_elements := F_u_elements.other W (Or.inl (Ne.symm ne_a1_u))
  replace V_el := V_el.other W nel
  replace F_a1_consistent := F_a1_consistent.same W
  refine X.aloadN (pc' := 18) d16_17 rfl rfl rfl ?_
  refine X.aloadN (pc' := 19) d16_18 rfl rfl rfl ?_
  refine X.putF (pc' := 22) (wd189 hw) Via.refl F_a1_contradiction E_a1 (Or.inr ⟨(wd190 hw), rfl, rfl⟩) (wd91 hw) (.object "java/util/Optional") (by decide) rfl rfl safeE za (Or.inl (List.mem_of_getElem? (i := 0) rfl)) d16_19 rfl ?_
  intro T h L X W
  replace E_e0 := E_e0.wr W
  replace E_e1 := E_e1.wr W
  replace E_e2 := E_e2.wr W
  replace E_e3 := E_e3.wr W
  replace lt_a1 := Nat.lt_of_lt_of_le lt_a1 (Keep.of_wr W).1
  replace E_a1 := E_a1.wr W
  replace F_a1_modCount := F_a1_modCount.other W (Or.inr (slot_ne (Or.inl (wd98 hw)) (Or.inr (wd190 hw)) (by decide) (t := .int) (t' := (.object "java/util/Optional")) (by decide) (by decide)))
  replace F_a1_tuples := F_a1_tuples.other W (Or.inr (slot_ne (Or.inr (wd186 hw)) (Or.inr (wd190 hw)) (by decide) (t := (.object "java/util/List")) (t' := (.object "java/util/Optional")) (by decide) (by decide)))
  replace F_a1_consistent := F_a1_consistent.other W (Or.inr (slot_ne (Or.inr (wd188 hw)) (Or.inr (wd190 hw)) (by decide) (t := .boolean) (t' := (.object "java/util/Optional")) (by decide) (by decide)))
  replace E_u := E_u.wr W
  replace F_u_elements := F_u_elements.other W (Or.inl (Ne.symm ne_a1_u))
  replace V_el := V_el.other W nel
  replace F_a1_contradiction := F_a1_contradiction.same W
  exact X.retUN d16_22 (by decide) (by decide) ⟨rfl, u, lu, E_a1, F_a1_tuples, E_u, el, neu, Nat.le_trans le1 lo_el, F_u_elements, V_el⟩
set_option maxRecDepth 65536 in
set_option maxHeartbeats 40000000 in
theorem ef_rmLG0 (m : MethodId) (u : Addr) : entryFrame m #[(.ref u), (.int (0 : Int32))] 2 = mkF m 0 #[.val (.ref u), .val (.int (0 : Int32))] [] := by first | (simp [entryFrame, mkF, argsToLocals, Value.category]; done) | (rfl)
set_option maxRecDepth 65536 in
set_option maxHeartbeats 40000000 in
theorem rmLG0 (l : Launch) (Z : State) (a0 : Array Value) (hw : ∀ d ∈ tables_1, d.before a0 Z = true) (u : Addr) (h0 : Heap) (O : Ext Z.heap h0) (v0 v1 : Value) (hv0 : v0.isRef = true) (U : L2 Z h0 u v0 v1) :
    MN l Z (⟨"java/util/ImmutableCollections$List12", "get", "(I)Ljava/lang/Object;"⟩ : MethodName) jdk_44_method_5_code 2 (some (.object "java/lang/Object")) [] ({ frames := 0, cells := 0, slots := 0, locals := 0 } : Room) #[(.ref u), (.int (0 : Int32))] h0 [] (RP h0 (fun w => w = v0)) := by
  refine MN.mk (a0 := a0) rfl rfl (plainFor_of_name pn11) O (fun m => ef_rmLG0 m u) ?_
  intro pg ev s m below meth cd T hh X
  subst hh
  refine X.iloadN (pc' := 1) d34_0 rfl rfl ?_
  refine X.ifN (pc' := 4) d34_1 (by decide) rfl ?_
  refine X.aloadN (pc' := 5) d34_4 rfl rfl rfl ?_
  refine X.getF (pc' := 8) (wd180 hw) Via.refl U.2.1 d34_5 rfl ?_
  intro T X
  exact X.retAN rfl hv0 d34_8 (by decide) (by decide) ⟨_, rfl, rfl, rfl⟩
set_option maxRecDepth 65536 in
set_option maxHeartbeats 40000000 in
theorem ef_rmLG1 (m : MethodId) (u : Addr) : entryFrame m #[(.ref u), (.int (1 : Int32))] 2 = mkF m 0 #[.val (.ref u), .val (.int (1 : Int32))] [] := by first | (simp [entryFrame, mkF, argsToLocals, Value.category]; done) | (rfl)
set_option maxRecDepth 65536 in
set_option maxHeartbeats 40000000 in
theorem rmLG1 (l : Launch) (Z : State) (a0 : Array Value) (hw : ∀ d ∈ tables_1, d.before a0 Z = true) (u : Addr) (h0 : Heap) (O : Ext Z.heap h0) (em : Addr) (SM : Sta Z Z.heap "java/util/ImmutableCollections" "EMPTY" "Ljava/lang/Object;" (.ref em)) (hem : em < Z.heap.size) (v0 : Value) (e1 : Addr) (hne : ¬ e1 = em) (U : L2 Z h0 u v0 (.ref e1)) :
    MN l Z (⟨"java/util/ImmutableCollections$List12", "get", "(I)Ljava/lang/Object;"⟩ : MethodName) jdk_44_method_5_code 2 (some (.object "java/lang/Object")) [] ({ frames := 0, cells := 0, slots := 0, locals := 0 } : Room) #[(.ref u), (.int (1 : Int32))] h0 [] (RP h0 (fun w => w = .ref e1)) := by
  refine MN.mk (a0 := a0) rfl rfl (plainFor_of_name pn11) O (fun m => ef_rmLG1 m u) ?_
  intro pg ev s m below meth cd T hh X
  subst hh
  refine X.iloadN (pc' := 1) d34_0 rfl rfl ?_
  refine X.ifY (pc' := 9) d34_1 (by decide) (by decide) (by decide) ?_
  refine X.iloadN (pc' := 10) d34_9 rfl rfl ?_
  refine X.iconst (pc' := 11) (1 : Int32) d34_10 rfl rfl ?_
  refine X.icN (pc' := 14) d34_11 (by decide) rfl ?_
  refine X.aloadN (pc' := 15) d34_14 rfl rfl rfl ?_
  refine X.getF (pc' := 18) (wd183 hw) Via.refl U.2.2 d34_15 rfl ?_
  intro T X
  refine X.getSN (pc' := 21) (wd182 hw) Via.refl SM d34_18 rfl ?_
  intro T X
  refine X.acmp (pc' := 24) d34_21 rfl rfl false (by simpa using hne) (by decide) (by decide) ?_
  refine X.aloadN (pc' := 25) d34_24 rfl rfl rfl ?_
  refine X.getF (pc' := 28) (wd183 hw) Via.refl U.2.2 d34_25 rfl ?_
  intro T X
  exact X.retAN rfl rfl d34_28 (by decide) (by decide) ⟨_, rfl, rfl, rfl⟩
set_option maxRecDepth 65536 in
set_option maxHeartbeats 40000000 in
theorem ef_rmGN (m : MethodId) (u : Addr) (i : Int32) : entryFrame m #[(.ref u), (.int i)] 2 = mkF m 0 #[.val (.ref u), .val (.int i)] [] := by first | (simp [entryFrame, mkF, argsToLocals, Value.category]; done) | (rfl)
set_option maxRecDepth 65536 in
set_option maxHeartbeats 40000000 in
theorem rmGN (l : Launch) (Z : State) (a0 : Array Value) (hw : ∀ d ∈ tables_1, d.before a0 Z = true) (u : Addr) (i : Int32) (h0 : Heap) (O : Ext Z.heap h0) (n : Int32) (vs : List Value) (lo : Nat) (U : LN Z h0 lo u n vs) (hi : ¬ i < 0 ∧ i < n) (e : Addr) (he : vs.getD i.toNatClampNeg .null = .ref e) :
    MN l Z (⟨"java/util/ImmutableCollections$ListN", "get", "(I)Ljava/lang/Object;"⟩ : MethodName) jdk_45_method_4_code 2 (some (.object "java/lang/Object")) [] ({ frames := 0, cells := 0, slots := 0, locals := 0 } : Room) #[(.ref u), (.int i)] h0 [] (RP h0 (fun w => w = .ref e)) := by
  refine MN.mk (a0 := a0) rfl rfl (plainFor_of_name pn12) O (fun m => ef_rmGN m u i) ?_
  intro pg ev s m below meth cd T hh X
  subst hh
  obtain ⟨-, el, -, -, FE, kd, Vd, Od, Ed⟩ := U
  refine X.aloadN (pc' := 1) d42_0 rfl rfl rfl ?_
  refine X.getF (pc' := 4) (wd265 hw) Via.refl FE d42_1 rfl ?_
  intro T X
  refine X.iloadN (pc' := 5) d42_4 rfl rfl ?_
  refine X.aaload (pc' := 6) Vd hi he d42_5 rfl ?_
  exact X.retAN rfl rfl d42_6 (by decide) (by decide) ⟨_, rfl, rfl, rfl⟩
set_option maxRecDepth 65536 in
set_option maxHeartbeats 40000000 in
theorem ef_rmAG0 (m : MethodId) (a1 : Addr) : entryFrame m #[(.ref a1), (.int (0 : Int32))] 2 = mkF m 0 #[.val (.ref a1), .val (.int (0 : Int32))] [] := by first | (simp [entryFrame, mkF, argsToLocals, Value.category]; done) | (rfl)
set_option maxRecDepth 65536 in
set_option maxHeartbeats 40000000 in
theorem rmAG0 (l : Launch) (Z : State) (a0 : Array Value) (hw : ∀ d ∈ tables_1, d.before a0 Z = true) (a1 : Addr) (h0 : Heap) (O : Ext Z.heap h0) (u : Addr) (F : Fld Z h0 a1 "com/example/vertere/vertere/engine/Answers" "tuples" "Ljava/util/List;" (.ref u)) (e : Addr) (E_e : Exa Z h0 e "java/util/ArrayList") (v1 : Value) (U : L2 Z h0 u (.ref e) v1) :
    MN l Z (⟨"com/example/vertere/vertere/engine/Answers", "get", "(I)Ljava/util/List;"⟩ : MethodName) prog_6_method_4_code 2 (some (.object "java/util/List")) [] ({ frames := 1, cells := 0, slots := 0, locals := 30 } : Room) #[(.ref a1), (.int (0 : Int32))] h0 [] (RP h0 (fun w => w = .ref e)) := by
  refine MN.mk (a0 := a0) rfl rfl (plainFor_of_name pn15) O (fun m => ef_rmAG0 m a1) ?_
  intro pg ev s m below meth cd T hh X
  subst hh
  refine X.aloadN (pc' := 1) d33_0 rfl rfl rfl ?_
  refine X.getF (pc' := 4) (wd185 hw) Via.refl F d33_1 rfl ?_
  intro T X
  refine X.iloadN (pc' := 5) d33_4 rfl rfl ?_
  refine X.callP (pc' := 10) (X.sFace (y := (⟨"java/util/ImmutableCollections$List12", "get", "(I)Ljava/lang/Object;"⟩ : MethodName)) (wd214 hw) (wd215 hw) (wd216 hw) rfl (wd217 hw) (wd218 hw) (wd219 hw) (wd220 hw) (wd221 hw) (by decide) rfl pd9 U.1 [(.int (0 : Int32))] rfl rfl d33_5) (rmLG0 l Z a0 hw u _ X.old _ v1 rfl U) (wd222 hw) (wd157 hw) (leB rfl) (leB rfl) (leB rfl) (leB rfl) rfl ?_
  intro T L v X q
  subst q
  refine X.castY (pc' := 13) (wd223 hw) (Ins.of_exa E_e (wd224 hw)) d33_10 rfl ?_
  intro T X
  exact X.retAN rfl rfl d33_13 (by decide) (by decide) ⟨_, rfl, rfl, rfl⟩
set_option maxRecDepth 65536 in
set_option maxHeartbeats 40000000 in
theorem ef_rmAG1 (m : MethodId) (a1 : Addr) : entryFrame m #[(.ref a1), (.int (1 : Int32))] 2 = mkF m 0 #[.val (.ref a1), .val (.int (1 : Int32))] [] := by first | (simp [entryFrame, mkF, argsToLocals, Value.category]; done) | (rfl)
set_option maxRecDepth 65536 in
set_option maxHeartbeats 40000000 in
theorem rmAG1 (l : Launch) (Z : State) (a0 : Array Value) (hw : ∀ d ∈ tables_1, d.before a0 Z = true) (a1 : Addr) (h0 : Heap) (O : Ext Z.heap h0) (u : Addr) (F : Fld Z h0 a1 "com/example/vertere/vertere/engine/Answers" "tuples" "Ljava/util/List;" (.ref u)) (e : Addr) (E_e : Exa Z h0 e "java/util/ArrayList") (em : Addr) (SM : Sta Z Z.heap "java/util/ImmutableCollections" "EMPTY" "Ljava/lang/Object;" (.ref em)) (hem : em < Z.heap.size) (v0 : Value) (hne : ¬ e = em) (U : L2 Z h0 u v0 (.ref e)) :
    MN l Z (⟨"com/example/vertere/vertere/engine/Answers", "get", "(I)Ljava/util/List;"⟩ : MethodName) prog_6_method_4_code 2 (some (.object "java/util/List")) [] ({ frames := 1, cells := 0, slots := 0, locals := 30 } : Room) #[(.ref a1), (.int (1 : Int32))] h0 [] (RP h0 (fun w => w = .ref e)) := by
  refine MN.mk (a0 := a0) rfl rfl (plainFor_of_name pn15) O (fun m => ef_rmAG1 m a1) ?_
  intro pg ev s m below meth cd T hh X
  subst hh
  refine X.aloadN (pc' := 1) d33_0 rfl rfl rfl ?_
  refine X.getF (pc' := 4) (wd185 hw) Via.refl F d33_1 rfl ?_
  intro T X
  refine X.iloadN (pc' := 5) d33_4 rfl rfl ?_
  refine X.callP (pc' := 10) (X.sFace (y := (⟨"java/util/ImmutableCollections$List12", "get", "(I)Ljava/lang/Object;"⟩ : MethodName)) (wd214 hw) (wd215 hw) (wd216 hw) rfl (wd217 hw) (wd218 hw) (wd219 hw) (wd220 hw) (wd221 hw) (by decide) rfl pd9 U.1 [(.int (1 : Int32))] rfl rfl d33_5) (rmLG1 l Z a0 hw u _ X.old em SM hem v0 e hne U) (wd222 hw) (wd157 hw) (leB rfl) (leB rfl) (leB rfl) (leB rfl) rfl ?_
  intro T L v X q
  subst q
  refine X.castY (pc' := 13) (wd223 hw) (Ins.of_exa E_e (wd224 hw)) d33_10 rfl ?_
  intro T X
  exact X.retAN rfl rfl d33_13 (by decide) (by decide) ⟨_, rfl, rfl, rfl⟩
set_option maxRecDepth 65536 in
set_option maxHeartbeats 40000000 in
theorem ef_rmAGN (m : MethodId) (a1 : Addr) (i : Int32) : entryFrame m #[(.ref a1), (.int i)] 2 = mkF m 0 #[.val (.ref a1), .val (.int i)] [] := by first | (simp [entryFrame, mkF, argsToLocals, Value.category]; done) | (rfl)
set_option maxRecDepth 65536 in
set_option maxHeartbeats 40000000 in
theorem rmAGN (l : Launch) (Z : State) (a0 : Array Value) (hw : ∀ d ∈ tables_1, d.before a0 Z = true) (a1 : Addr) (i : Int32) (h0 : Heap) (O : Ext Z.heap h0) (u : Addr) (F : Fld Z h0 a1 "com/example/vertere/vertere/engine/Answers" "tuples" "Ljava/util/List;" (.ref u)) (e : Addr) (E_e : Exa Z h0 e "java/util/ArrayList") (n : Int32) (vs : List Value) (lo : Nat) (U : LN Z h0 lo u n vs) (hi : ¬ i < 0 ∧ i < n) (he : vs.getD i.toNatClampNeg .null = .ref e) :
    MN l Z (⟨"com/example/vertere/vertere/engine/Answers", "get", "(I)Ljava/util/List;"⟩ : MethodName) prog_6_method_4_code 2 (some (.object "java/util/List")) [] ({ frames := 1, cells := 0, slots := 0, locals := 30 } : Room) #[(.ref a1), (.int i)] h0 [] (RP h0 (fun w => w = .ref e)) := by
  refine MN.mk (a0 := a0) rfl rfl (plainFor_of_name pn15) O (fun m => ef_rmAGN m a1 i) ?_
  intro pg ev s m below meth cd T hh X
  subst hh
  refine X.aloadN (pc' := 1) d33_0 rfl rfl rfl ?_
  refine X.getF (pc' := 4) (wd185 hw) Via.refl F d33_1 rfl ?_
  intro T X
  refine X.iloadN (pc' := 5) d33_4 rfl rfl ?_
  refine X.callP (pc' := 10) (X.sFace (y := (⟨"java/util/ImmutableCollections$ListN", "get", "(I)Ljava/lang/Object;"⟩ : MethodName)) (wd214 hw) (wd215 hw) (wd216 hw) rfl (wd269 hw) (wd270 hw) (wd271 hw) (wd272 hw) (wd273 hw) (by decide) rfl pd9 U.1 [(.int i)] rfl rfl d33_5) (rmGN l Z a0 hw u i _ X.old n vs lo U hi e he) (wd274 hw) (wd256 hw) (leB rfl) (leB rfl) (leB rfl) (leB rfl) rfl ?_
  intro T L v X q
  subst q
  refine X.castY (pc' := 13) (wd223 hw) (Ins.of_exa E_e (wd224 hw)) d33_10 rfl ?_
  intro T X
  exact X.retAN rfl rfl d33_13 (by decide) (by decide) ⟨_, rfl, rfl, rfl⟩
set_option maxRecDepth 65536 in
set_option maxHeartbeats 40000000 in
theorem ef_rmEqId (m : MethodId) (a1 : Addr) : entryFrame m #[(.ref a1), (.ref a1)] 3 = mkF m 0 #[.val (.ref a1), .val (.ref a1), .unset] [] := by first | (simp [entryFrame, mkF, argsToLocals, Value.category]; done) | (rfl)
set_option maxRecDepth 65536 in
set_option maxHeartbeats 40000000 in
theorem rmEqId (l : Launch) (Z : State) (a0 : Array Value) (hw : ∀ d ∈ tables_1, d.before a0 Z = true) (a1 : Addr) (h0 : Heap) (O : Ext Z.heap h0)  :
    MN l Z (⟨"java/lang/String", "equals", "(Ljava/lang/Object;)Z"⟩ : MethodName) jdk_42_method_66_code 3 (some .boolean) [] ({ frames := 0, cells := 0, slots := 0, locals := 0 } : Room) #[(.ref a1), (.ref a1)] h0 [] (RP h0 (fun w => w = .int 1)) := by
  refine MN.mk (a0 := a0) rfl rfl (plainFor_of_name pn16) O (fun m => ef_rmEqId m a1) ?_
  intro pg ev s m below meth cd T hh X
  subst hh
  refine X.aloadN (pc' := 1) d38_0 rfl rfl rfl ?_
  refine X.aloadN (pc' := 2) d38_1 rfl rfl rfl ?_
  refine X.acmp (pc' := 5) d38_2 rfl rfl true (by simp) (by decide) (by decide) ?_
  refine X.iconst (pc' := 6) (1 : Int32) d38_5 rfl rfl ?_
  exact X.retIN (by simp) rfl d38_6 (by decide) (by decide) ⟨_, rfl, rfl, rfl⟩
set_option maxRecDepth 65536 in
set_option maxHeartbeats 40000000 in
theorem ef_rmSame0 (m : MethodId) (a1 : Addr) : entryFrame m #[(.ref a1), (.ref a1)] 3 = mkF m 0 #[.val (.ref a1), .val (.ref a1), .unset] [] := by first | (simp [entryFrame, mkF, argsToLocals, Value.category]; done) | (rfl)
set_option maxRecDepth 65536 in
set_option maxHeartbeats 40000000 in
theorem rmSame0 (l : Launch) (Z : State) (a0 : Array Value) (hw : ∀ d ∈ tables_1, d.before a0 Z = true) (a1 : Addr) (h0 : Heap) (O : Ext Z.heap h0) (d : Addr) (mc : Int32) (A1 : AL Z h0 a1 (.ref d) (0 : Int32) mc) :
    MN l Z (⟨"com/example/vertere/vertere/engine/AnswersGetPinLaw", "same", "(Ljava/util/List;Ljava/util/List;)Z"⟩ : MethodName) method_3_code 3 (some .boolean) [] ({ frames := 4, cells := 0, slots := 0, locals := 80 } : Room) #[(.ref a1), (.ref a1)] h0 [] (RP h0 (fun w => w = .int 1)) := by
  refine MN.mk (a0 := a0) rfl rfl (plainFor_of_name pn6) O (fun m => ef_rmSame0 m a1) ?_
  intro pg ev s m below meth cd T hh X
  subst hh
  refine X.aloadN (pc' := 1) d35_0 rfl rfl rfl ?_
  refine X.callP (pc' := 6) (X.sFace (y := (⟨"java/util/ArrayList", "size", "()I"⟩ : MethodName)) (wd228 hw) (wd229 hw) (wd230 hw) rfl (wd231 hw) (wd232 hw) (wd233 hw) (wd234 hw) (wd224 hw) (by decide) rfl pd17 A1.1 [] rfl rfl d35_1) (rmSize l Z a0 hw a1 _ X.old _ (0 : Int32) _ A1) (wd235 hw) (wd2 hw) (leB rfl) (leB rfl) (leB rfl) (leB rfl) rfl ?_
  intro T L v X q
  subst q
  refine X.istoreN (pc' := 7) #[.val (.ref a1), .val (.ref a1), .val (.int (0 : Int32))] d35_6 rfl rfl ?_
  refine X.aloadN (pc' := 8) d35_7 rfl rfl rfl ?_
  refine X.callP (pc' := 13) (X.sFace (y := (⟨"java/util/ArrayList", "size", "()I"⟩ : MethodName)) (wd228 hw) (wd229 hw) (wd230 hw) rfl (wd231 hw) (wd232 hw) (wd233 hw) (wd234 hw) (wd224 hw) (by decide) rfl pd17 A1.1 [] rfl rfl d35_8) (rmSize l Z a0 hw a1 _ X.old _ (0 : Int32) _ A1) (wd235 hw) (wd2 hw) (leB rfl) (leB rfl) (leB rfl) (leB rfl) rfl ?_
  intro T L v X q
  subst q
  refine X.iloadN (pc' := 14) d35_13 rfl rfl ?_
  refine X.icY (pc' := 19) d35_14 (by decide) (by decide) (by decide) ?_
  refine X.iloadN (pc' := 20) d35_19 rfl rfl ?_
  refine X.ifY (pc' := 48) d35_20 (by decide) (by decide) (by decide) ?_
  refine X.iloadN (pc' := 49) d35_48 rfl rfl ?_
  refine X.iconst (pc' := 50) (1 : Int32) d35_49 rfl rfl ?_
  refine X.icY (pc' := 78) d35_50 (by decide) (by decide) (by decide) ?_
  refine X.iloadN (pc' := 79) d35_78 rfl rfl ?_
  refine X.iconst (pc' := 80) (2 : Int32) d35_79 rfl rfl ?_
  refine X.icY (pc' := 108) d35_80 (by decide) (by decide) (by decide) ?_
  refine X.iconst (pc' := 109) (1 : Int32) d35_108 rfl rfl ?_
  exact X.retIN (by simp) rfl d35_109 (by decide) (by decide) ⟨_, rfl, rfl, rfl⟩
set_option maxRecDepth 65536 in
set_option maxHeartbeats 40000000 in
theorem ef_rmSame1 (m : MethodId) (a1 : Addr) : entryFrame m #[(.ref a1), (.ref a1)] 3 = mkF m 0 #[.val (.ref a1), .val (.ref a1), .unset] [] := by first | (simp [entryFrame, mkF, argsToLocals, Value.category]; done) | (rfl)
set_option maxRecDepth 65536 in
set_option maxHeartbeats 40000000 in
theorem rmSame1 (l : Launch) (Z : State) (a0 : Array Value) (hw : ∀ d ∈ tables_1, d.before a0 Z = true) (a1 : Addr) (h0 : Heap) (O : Ext Z.heap h0) (d : Addr) (mc : Int32) (A1 : AL Z h0 a1 (.ref d) (1 : Int32) mc) (e0 : Addr) (E_e0 : Exa Z h0 e0 "java/lang/String") (V_d : OA Z h0 d 10 [(.ref e0), (.null), (.null), (.null), (.null), (.null), (.null), (.null), (.null), (.null)]) :
    MN l Z (⟨"com/example/vertere/vertere/engine/AnswersGetPinLaw", "same", "(Ljava/util/List;Ljava/util/List;)Z"⟩ : MethodName) method_3_code 3 (some .boolean) [] ({ frames := 4, cells := 0, slots := 0, locals := 80 } : Room) #[(.ref a1), (.ref a1)] h0 [] (RP h0 (fun w => w = .int 1)) := by
  refine MN.mk (a0 := a0) rfl rfl (plainFor_of_name pn6) O (fun m => ef_rmSame1 m a1) ?_
  intro pg ev s m below meth cd T hh X
  subst hh
  refine X.aloadN (pc' := 1) d35_0 rfl rfl rfl ?_
  refine X.callP (pc' := 6) (X.sFace (y := (⟨"java/util/ArrayList", "size", "()I"⟩ : MethodName)) (wd228 hw) (wd229 hw) (wd230 hw) rfl (wd231 hw) (wd232 hw) (wd233 hw) (wd234 hw) (wd224 hw) (by decide) rfl pd17 A1.1 [] rfl rfl d35_1) (rmSize l Z a0 hw a1 _ X.old _ (1 : Int32) _ A1) (wd235 hw) (wd2 hw) (leB rfl) (leB rfl) (leB rfl) (leB rfl) rfl ?_
  intro T L v X q
  subst q
  refine X.istoreN (pc' := 7) #[.val (.ref a1), .val (.ref a1), .val (.int (1 : Int32))] d35_6 rfl rfl ?_
  refine X.aloadN (pc' := 8) d35_7 rfl rfl rfl ?_
  refine X.callP (pc' := 13) (X.sFace (y := (⟨"java/util/ArrayList", "size", "()I"⟩ : MethodName)) (wd228 hw) (wd229 hw) (wd230 hw) rfl (wd231 hw) (wd232 hw) (wd233 hw) (wd234 hw) (wd224 hw) (by decide) rfl pd17 A1.1 [] rfl rfl d35_8) (rmSize l Z a0 hw a1 _ X.old _ (1 : Int32) _ A1) (wd235 hw) (wd2 hw) (leB rfl) (leB rfl) (leB rfl) (leB rfl) rfl ?_
  intro T L v X q
  subst q
  refine X.iloadN (pc' := 14) d35_13 rfl rfl ?_
  refine X.icY (pc' := 19) d35_14 (by decide) (by decide) (by decide) ?_
  refine X.iloadN (pc' := 20) d35_19 rfl rfl ?_
  refine X.ifN (pc' := 23) d35_20 (by decide) rfl ?_
  refine X.aloadN (pc' := 24) d35_23 rfl rfl rfl ?_
  refine X.iconst (pc' := 25) (0 : Int32) d35_24 rfl rfl ?_
  refine X.callP (pc' := 30) (X.sFace (y := (⟨"java/util/ArrayList", "get", "(I)Ljava/lang/Object;"⟩ : MethodName)) (wd236 hw) (wd215 hw) (wd216 hw) rfl (wd237 hw) (wd238 hw) (wd239 hw) (wd240 hw) (wd224 hw) (by decide) rfl pd9 A1.1 [(.int (0 : Int32))] rfl rfl d35_25) (rmGet l Z a0 hw a1 _ _ X.old d (1 : Int32) _ A1 10 _ V_d ⟨by decide, by decide⟩ (by decide) e0 rfl) (wd241 hw) (wd2 hw) (leB rfl) (leB rfl) (leB rfl) (leB rfl) rfl ?_
  intro T L v X q
  subst q
  refine X.castY (pc' := 33) (wd31 hw) (Ins.self E_e0) d35_30 rfl ?_
  intro T X
  refine X.aloadN (pc' := 34) d35_33 rfl rfl rfl ?_
  refine X.iconst (pc' := 35) (0 : Int32) d35_34 rfl rfl ?_
  refine X.callP (pc' := 40) (X.sFace (y := (⟨"java/util/ArrayList", "get", "(I)Ljava/lang/Object;"⟩ : MethodName)) (wd236 hw) (wd215 hw) (wd216 hw) rfl (wd237 hw) (wd238 hw) (wd239 hw) (wd240 hw) (wd224 hw) (by decide) rfl pd9 A1.1 [(.int (0 : Int32))] rfl rfl d35_35) (rmGet l Z a0 hw a1 _ _ X.old d (1 : Int32) _ A1 10 _ V_d ⟨by decide, by decide⟩ (by decide) e0 rfl) (wd241 hw) (wd2 hw) (leB rfl) (leB rfl) (leB rfl) (leB rfl) rfl ?_
  intro T L v X q
  subst q
  refine X.callP (pc' := 43) (X.sVirtual (wd242 hw) (wd243 hw) (wd245 hw) (wd244 hw) (by decide) rfl pd18 E_e0 [(.ref e0)] rfl rfl d35_40 (X.nf (wd245 hw) rfl)) (rmEqId l Z a0 hw e0 _ X.old) (wd246 hw) (wd33 hw) (leB rfl) (leB rfl) (leB rfl) (leB rfl) rfl ?_
  intro T L v X q
  subst q
  refine X.ifY (pc' := 48) d35_43 (by decide) (by decide) (by decide) ?_
  refine X.iloadN (pc' := 49) d35_48 rfl rfl ?_
  refine X.iconst (pc' := 50) (1 : Int32) d35_49 rfl rfl ?_
  refine X.icY (pc' := 78) d35_50 (by decide) (by decide) (by decide) ?_
  refine X.iloadN (pc' := 79) d35_78 rfl rfl ?_
  refine X.iconst (pc' := 80) (2 : Int32) d35_79 rfl rfl ?_
  refine X.icY (pc' := 108) d35_80 (by decide) (by decide) (by decide) ?_
  refine X.iconst (pc' := 109) (1 : Int32) d35_108 rfl rfl ?_
  exact X.retIN (by simp) rfl d35_109 (by decide) (by decide) ⟨_, rfl, rfl, rfl⟩
set_option maxRecDepth 65536 in
set_option maxHeartbeats 40000000 in
theorem ef_rmSame2 (m : MethodId) (a1 : Addr) : entryFrame m #[(.ref a1), (.ref a1)] 3 = mkF m 0 #[.val (.ref a1), .val (.ref a1), .unset] [] := by first | (simp [entryFrame, mkF, argsToLocals, Value.category]; done) | (rfl)
set_option maxRecDepth 65536 in
set_option maxHeartbeats 40000000 in
theorem rmSame2 (l : Launch) (Z : State) (a0 : Array Value) (hw : ∀ d ∈ tables_1, d.before a0 Z = true) (a1 : Addr) (h0 : Heap) (O : Ext Z.heap h0) (d : Addr) (mc : Int32) (A1 : AL Z h0 a1 (.ref d) (2 : Int32) mc) (e0 : Addr) (E_e0 : Exa Z h0 e0 "java/lang/String") (e1 : Addr) (E_e1 : Exa Z h0 e1 "java/lang/String") (V_d : OA Z h0 d 10 [(.ref e0), (.ref e1), (.null), (.null), (.null), (.null), (.null), (.null), (.null), (.null)]) :
    MN l Z (⟨"com/example/vertere/vertere/engine/AnswersGetPinLaw", "same", "(Ljava/util/List;Ljava/util/List;)Z"⟩ : MethodName) method_3_code 3 (some .boolean) [] ({ frames := 4, cells := 0, slots := 0, locals := 80 } : Room) #[(.ref a1), (.ref a1)] h0 [] (RP h0 (fun w => w = .int 1)) := by
  refine MN.mk (a0 := a0) rfl rfl (plainFor_of_name pn6) O (fun m => ef_rmSame2 m a1) ?_
  intro pg ev s m below meth cd T hh X
  subst hh
  refine X.aloadN (pc' := 1) d35_0 rfl rfl rfl ?_
  refine X.callP (pc' := 6) (X.sFace (y := (⟨"java/util/ArrayList", "size", "()I"⟩ : MethodName)) (wd228 hw) (wd229 hw) (wd230 hw) rfl (wd231 hw) (wd232 hw) (wd233 hw) (wd234 hw) (wd224 hw) (by decide) rfl pd17 A1.1 [] rfl rfl d35_1) (rmSize l Z a0 hw a1 _ X.old _ (2 : Int32) _ A1) (wd235 hw) (wd2 hw) (leB rfl) (leB rfl) (leB rfl) (leB rfl) rfl ?_
  intro T L v X q
  subst q
  refine X.istoreN (pc' := 7) #[.val (.ref a1), .val (.ref a1), .val (.int (2 : Int32))] d35_6 rfl rfl ?_
  refine X.aloadN (pc' := 8) d35_7 rfl rfl rfl ?_
  refine X.callP (pc' := 13) (X.sFace (y := (⟨"java/util/ArrayList", "size", "()I"⟩ : MethodName)) (wd228 hw) (wd229 hw) (wd230 hw) rfl (wd231 hw) (wd232 hw) (wd233 hw) (wd234 hw) (wd224 hw) (by decide) rfl pd17 A1.1 [] rfl rfl d35_8) (rmSize l Z a0 hw a1 _ X.old _ (2 : Int32) _ A1) (wd235 hw) (wd2 hw) (leB rfl) (leB rfl) (leB rfl) (leB rfl) rfl ?_
  intro T L v X q
  subst q
  refine X.iloadN (pc' := 14) d35_13 rfl rfl ?_
  refine X.icY (pc' := 19) d35_14 (by decide) (by decide) (by decide) ?_
  refine X.iloadN (pc' := 20) d35_19 rfl rfl ?_
  refine X.ifN (pc' := 23) d35_20 (by decide) rfl ?_
  refine X.aloadN (pc' := 24) d35_23 rfl rfl rfl ?_
  refine X.iconst (pc' := 25) (0 : Int32) d35_24 rfl rfl ?_
  refine X.callP (pc' := 30) (X.sFace (y := (⟨"java/util/ArrayList", "get", "(I)Ljava/lang/Object;"⟩ : MethodName)) (wd236 hw) (wd215 hw) (wd216 hw) rfl (wd237 hw) (wd238 hw) (wd239 hw) (wd240 hw) (wd224 hw) (by decide) rfl pd9 A1.1 [(.int (0 : Int32))] rfl rfl d35_25) (rmGet l Z a0 hw a1 _ _ X.old d (2 : Int32) _ A1 10 _ V_d ⟨by decide, by decide⟩ (by decide) e0 rfl) (wd241 hw) (wd2 hw) (leB rfl) (leB rfl) (leB rfl) (leB rfl) rfl ?_
  intro T L v X q
  subst q
  refine X.castY (pc' := 33) (wd31 hw) (Ins.self E_e0) d35_30 rfl ?_
  intro T X
  refine X.aloadN (pc' := 34) d35_33 rfl rfl rfl ?_
  refine X.iconst (pc' := 35) (0 : Int32) d35_34 rfl rfl ?_
  refine X.callP (pc' := 40) (X.sFace (y := (⟨"java/util/ArrayList", "get", "(I)Ljava/lang/Object;"⟩ : MethodName)) (wd236 hw) (wd215 hw) (wd216 hw) rfl (wd237 hw) (wd238 hw) (wd239 hw) (wd240 hw) (wd224 hw) (by decide) rfl pd9 A1.1 [(.int (0 : Int32))] rfl rfl d35_35) (rmGet l Z a0 hw a1 _ _ X.old d (2 : Int32) _ A1 10 _ V_d ⟨by decide, by decide⟩ (by decide) e0 rfl) (wd241 hw) (wd2 hw) (leB rfl) (leB rfl) (leB rfl) (leB rfl) rfl ?_
  intro T L v X q
  subst q
  refine X.callP (pc' := 43) (X.sVirtual (wd242 hw) (wd243 hw) (wd245 hw) (wd244 hw) (by decide) rfl pd18 E_e0 [(.ref e0)] rfl rfl d35_40 (X.nf (wd245 hw) rfl)) (rmEqId l Z a0 hw e0 _ X.old) (wd246 hw) (wd33 hw) (leB rfl) (leB rfl) (leB rfl) (leB rfl) rfl ?_
  intro T L v X q
  subst q
  refine X.ifY (pc' := 48) d35_43 (by decide) (by decide) (by decide) ?_
  refine X.iloadN (pc' := 49) d35_48 rfl rfl ?_
  refine X.iconst (pc' := 50) (1 : Int32) d35_49 rfl rfl ?_
  refine X.icN (pc' := 53) d35_50 (by decide) rfl ?_
  refine X.aloadN (pc' := 54) d35_53 rfl rfl rfl ?_
  refine X.iconst (pc' := 55) (1 : Int32) d35_54 rfl rfl ?_
  refine X.callP (pc' := 60) (X.sFace (y := (⟨"java/util/ArrayList", "get", "(I)Ljava/lang/Object;"⟩ : MethodName)) (wd236 hw) (wd215 hw) (wd216 hw) rfl (wd237 hw) (wd238 hw) (wd239 hw) (wd240 hw) (wd224 hw) (by decide) rfl pd9 A1.1 [(.int (1 : Int32))] rfl rfl d35_55) (rmGet l Z a0 hw a1 _ _ X.old d (2 : Int32) _ A1 10 _ V_d ⟨by decide, by decide⟩ (by decide) e1 rfl) (wd241 hw) (wd2 hw) (leB rfl) (leB rfl) (leB rfl) (leB rfl) rfl ?_
  intro T L v X q
  subst q
  refine X.castY (pc' := 63) (wd31 hw) (Ins.self E_e1) d35_60 rfl ?_
  intro T X
  refine X.aloadN (pc' := 64) d35_63 rfl rfl rfl ?_
  refine X.iconst (pc' := 65) (1 : Int32) d35_64 rfl rfl ?_
  refine X.callP (pc' := 70) (X.sFace (y := (⟨"java/util/ArrayList", "get", "(I)Ljava/lang/Object;"⟩ : MethodName)) (wd236 hw) (wd215 hw) (wd216 hw) rfl (wd237 hw) (wd238 hw) (wd239 hw) (wd240 hw) (wd224 hw) (by decide) rfl pd9 A1.1 [(.int (1 : Int32))] rfl rfl d35_65) (rmGet l Z a0 hw a1 _ _ X.old d (2 : Int32) _ A1 10 _ V_d ⟨by decide, by decide⟩ (by decide) e1 rfl) (wd241 hw) (wd2 hw) (leB rfl) (leB rfl) (leB rfl) (leB rfl) rfl ?_
  intro T L v X q
  subst q
  refine X.callP (pc' := 73) (X.sVirtual (wd242 hw) (wd243 hw) (wd245 hw) (wd244 hw) (by decide) rfl pd18 E_e1 [(.ref e1)] rfl rfl d35_70 (X.nf (wd245 hw) rfl)) (rmEqId l Z a0 hw e1 _ X.old) (wd246 hw) (wd33 hw) (leB rfl) (leB rfl) (leB rfl) (leB rfl) rfl ?_
  intro T L v X q
  subst q
  refine X.ifY (pc' := 78) d35_73 (by decide) (by decide) (by decide) ?_
  refine X.iloadN (pc' := 79) d35_78 rfl rfl ?_
  refine X.iconst (pc' := 80) (2 : Int32) d35_79 rfl rfl ?_
  refine X.icY (pc' := 108) d35_80 (by decide) (by decide) (by decide) ?_
  refine X.iconst (pc' := 109) (1 : Int32) d35_108 rfl rfl ?_
  exact X.retIN (by simp) rfl d35_109 (by decide) (by decide) ⟨_, rfl, rfl, rfl⟩
set_option maxRecDepth 65536 in
set_option maxHeartbeats 40000000 in
theorem ef_rmSame3 (m : MethodId) (a1 : Addr) : entryFrame m #[(.ref a1), (.ref a1)] 3 = mkF m 0 #[.val (.ref a1), .val (.ref a1), .unset] [] := by first | (simp [entryFrame, mkF, argsToLocals, Value.category]; done) | (rfl)
set_option maxRecDepth 65536 in
set_option maxHeartbeats 40000000 in
theorem rmSame3 (l : Launch) (Z : State) (a0 : Array Value) (hw : ∀ d ∈ tables_1, d.before a0 Z = true) (a1 : Addr) (h0 : Heap) (O : Ext Z.heap h0) (d : Addr) (mc : Int32) (A1 : AL Z h0 a1 (.ref d) (3 : Int32) mc) (e0 : Addr) (E_e0 : Exa Z h0 e0 "java/lang/String") (e1 : Addr) (E_e1 : Exa Z h0 e1 "java/lang/String") (e2 : Addr) (E_e2 : Exa Z h0 e2 "java/lang/String") (V_d : OA Z h0 d 10 [(.ref e0), (.ref e1), (.ref e2), (.null), (.null), (.null), (.null), (.null), (.null), (.null)]) :
    MN l Z (⟨"com/example/vertere/vertere/engine/AnswersGetPinLaw", "same", "(Ljava/util/List;Ljava/util/List;)Z"⟩ : MethodName) method_3_code 3 (some .boolean) [] ({ frames := 4, cells := 0, slots := 0, locals := 80 } : Room) #[(.ref a1), (.ref a1)] h0 [] (RP h0 (fun w => w = .int 1)) := by
  refine MN.mk (a0 := a0) rfl rfl (plainFor_of_name pn6) O (fun m => ef_rmSame3 m a1) ?_
  intro pg ev s m below meth cd T hh X
  subst hh
  refine X.aloadN (pc' := 1) d35_0 rfl rfl rfl ?_
  refine X.callP (pc' := 6) (X.sFace (y := (⟨"java/util/ArrayList", "size", "()I"⟩ : MethodName)) (wd228 hw) (wd229 hw) (wd230 hw) rfl (wd231 hw) (wd232 hw) (wd233 hw) (wd234 hw) (wd224 hw) (by decide) rfl pd17 A1.1 [] rfl rfl d35_1) (rmSize l Z a0 hw a1 _ X.old _ (3 : Int32) _ A1) (wd235 hw) (wd2 hw) (leB rfl) (leB rfl) (leB rfl) (leB rfl) rfl ?_
  intro T L v X q
  subst q
  refine X.istoreN (pc' := 7) #[.val (.ref a1), .val (.ref a1), .val (.int (3 : Int32))] d35_6 rfl rfl ?_
  refine X.aloadN (pc' := 8) d35_7 rfl rfl rfl ?_
  refine X.callP (pc' := 13) (X.sFace (y := (⟨"java/util/ArrayList", "size", "()I"⟩ : MethodName)) (wd228 hw) (wd229 hw) (wd230 hw) rfl (wd231 hw) (wd232 hw) (wd233 hw) (wd234 hw) (wd224 hw) (by decide) rfl pd17 A1.1 [] rfl rfl d35_8) (rmSize l Z a0 hw a1 _ X.old _ (3 : Int32) _ A1) (wd235 hw) (wd2 hw) (leB rfl) (leB rfl) (leB rfl) (leB rfl) rfl ?_
  intro T L v X q
  subst q
  refine X.iloadN (pc' := 14) d35_13 rfl rfl ?_
  refine X.icY (pc' := 19) d35_14 (by decide) (by decide) (by decide) ?_
  refine X.iloadN (pc' := 20) d35_19 rfl rfl ?_
  refine X.ifN (pc' := 23) d35_20 (by decide) rfl ?_
  refine X.aloadN (pc' := 24) d35_23 rfl rfl rfl ?_
  refine X.iconst (pc' := 25) (0 : Int32) d35_24 rfl rfl ?_
  refine X.callP (pc' := 30) (X.sFace (y := (⟨"java/util/ArrayList", "get", "(I)Ljava/lang/Object;"⟩ : MethodName)) (wd236 hw) (wd215 hw) (wd216 hw) rfl (wd237 hw) (wd238 hw) (wd239 hw) (wd240 hw) (wd224 hw) (by decide) rfl pd9 A1.1 [(.int (0 : Int32))] rfl rfl d35_25) (rmGet l Z a0 hw a1 _ _ X.old d (3 : Int32) _ A1 10 _ V_d ⟨by decide, by decide⟩ (by decide) e0 rfl) (wd241 hw) (wd2 hw) (leB rfl) (leB rfl) (leB rfl) (leB rfl) rfl ?_
  intro T L v X q
  subst q
  refine X.castY (pc' := 33) (wd31 hw) (Ins.self E_e0) d35_30 rfl ?_
  intro T X
  refine X.aloadN (pc' := 34) d35_33 rfl rfl rfl ?_
  refine X.iconst (pc' := 35) (0 : Int32) d35_34 rfl rfl ?_
  refine X.callP (pc' := 40) (X.sFace (y := (⟨"java/util/ArrayList", "get", "(I)Ljava/lang/Object;"⟩ : MethodName)) (wd236 hw) (wd215 hw) (wd216 hw) rfl (wd237 hw) (wd238 hw) (wd239 hw) (wd240 hw) (wd224 hw) (by decide) rfl pd9 A1.1 [(.int (0 : Int32))] rfl rfl d35_35) (rmGet l Z a0 hw a1 _ _ X.old d (3 : Int32) _ A1 10 _ V_d ⟨by decide, by decide⟩ (by decide) e0 rfl) (wd241 hw) (wd2 hw) (leB rfl) (leB rfl) (leB rfl) (leB rfl) rfl ?_
  intro T L v X q
  subst q
  refine X.callP (pc' := 43) (X.sVirtual (wd242 hw) (wd243 hw) (wd245 hw) (wd244 hw) (by decide) rfl pd18 E_e0 [(.ref e0)] rfl rfl d35_40 (X.nf (wd245 hw) rfl)) (rmEqId l Z a0 hw e0 _ X.old) (wd246 hw) (wd33 hw) (leB rfl) (leB rfl) (leB rfl) (leB rfl) rfl ?_
  intro T L v X q
  subst q
  refine X.ifY (pc' := 48) d35_43 (by decide) (by decide) (by decide) ?_
  refine X.iloadN (pc' := 49) d35_48 rfl rfl ?_
  refine X.iconst (pc' := 50) (1 : Int32) d35_49 rfl rfl ?_
  refine X.icN (pc' := 53) d35_50 (by decide) rfl ?_
  refine X.aloadN (pc' := 54) d35_53 rfl rfl rfl ?_
  refine X.iconst (pc' := 55) (1 : Int32) d35_54 rfl rfl ?_
  refine X.callP (pc' := 60) (X.sFace (y := (⟨"java/util/ArrayList", "get", "(I)Ljava/lang/Object;"⟩ : MethodName)) (wd236 hw) (wd215 hw) (wd216 hw) rfl (wd237 hw) (wd238 hw) (wd239 hw) (wd240 hw) (wd224 hw) (by decide) rfl pd9 A1.1 [(.int (1 : Int32))] rfl rfl d35_55) (rmGet l Z a0 hw a1 _ _ X.old d (3 : Int32) _ A1 10 _ V_d ⟨by decide, by decide⟩ (by decide) e1 rfl) (wd241 hw) (wd2 hw) (leB rfl) (leB rfl) (leB rfl) (leB rfl) rfl ?_
  intro T L v X q
  subst q
  refine X.castY (pc' := 63) (wd31 hw) (Ins.self E_e1) d35_60 rfl ?_
  intro T X
  refine X.aloadN (pc' := 64) d35_63 rfl rfl rfl ?_
  refine X.iconst (pc' := 65) (1 : Int32) d35_64 rfl rfl ?_
  refine X.callP (pc' := 70) (X.sFace (y := (⟨"java/util/ArrayList", "get", "(I)Ljava/lang/Object;"⟩ : MethodName)) (wd236 hw) (wd215 hw) (wd216 hw) rfl (wd237 hw) (wd238 hw) (wd239 hw) (wd240 hw) (wd224 hw) (by decide) rfl pd9 A1.1 [(.int (1 : Int32))] rfl rfl d35_65) (rmGet l Z a0 hw a1 _ _ X.old d (3 : Int32) _ A1 10 _ V_d ⟨by decide, by decide⟩ (by decide) e1 rfl) (wd241 hw) (wd2 hw) (leB rfl) (leB rfl) (leB rfl) (leB rfl) rfl ?_
  intro T L v X q
  subst q
  refine X.callP (pc' := 73) (X.sVirtual (wd242 hw) (wd243 hw) (wd245 hw) (wd244 hw) (by decide) rfl pd18 E_e1 [(.ref e1)] rfl rfl d35_70 (X.nf (wd245 hw) rfl)) (rmEqId l Z a0 hw e1 _ X.old) (wd246 hw) (wd33 hw) (leB rfl) (leB rfl) (leB rfl) (leB rfl) rfl ?_
  intro T L v X q
  subst q
  refine X.ifY (pc' := 78) d35_73 (by decide) (by decide) (by decide) ?_
  refine X.iloadN (pc' := 79) d35_78 rfl rfl ?_
  refine X.iconst (pc' := 80) (2 : Int32) d35_79 rfl rfl ?_
  refine X.icN (pc' := 83) d35_80 (by decide) rfl ?_
  refine X.aloadN (pc' := 84) d35_83 rfl rfl rfl ?_
  refine X.iconst (pc' := 85) (2 : Int32) d35_84 rfl rfl ?_
  refine X.callP (pc' := 90) (X.sFace (y := (⟨"java/util/ArrayList", "get", "(I)Ljava/lang/Object;"⟩ : MethodName)) (wd236 hw) (wd215 hw) (wd216 hw) rfl (wd237 hw) (wd238 hw) (wd239 hw) (wd240 hw) (wd224 hw) (by decide) rfl pd9 A1.1 [(.int (2 : Int32))] rfl rfl d35_85) (rmGet l Z a0 hw a1 _ _ X.old d (3 : Int32) _ A1 10 _ V_d ⟨by decide, by decide⟩ (by decide) e2 rfl) (wd241 hw) (wd2 hw) (leB rfl) (leB rfl) (leB rfl) (leB rfl) rfl ?_
  intro T L v X q
  subst q
  refine X.castY (pc' := 93) (wd31 hw) (Ins.self E_e2) d35_90 rfl ?_
  intro T X
  refine X.aloadN (pc' := 94) d35_93 rfl rfl rfl ?_
  refine X.iconst (pc' := 95) (2 : Int32) d35_94 rfl rfl ?_
  refine X.callP (pc' := 100) (X.sFace (y := (⟨"java/util/ArrayList", "get", "(I)Ljava/lang/Object;"⟩ : MethodName)) (wd236 hw) (wd215 hw) (wd216 hw) rfl (wd237 hw) (wd238 hw) (wd239 hw) (wd240 hw) (wd224 hw) (by decide) rfl pd9 A1.1 [(.int (2 : Int32))] rfl rfl d35_95) (rmGet l Z a0 hw a1 _ _ X.old d (3 : Int32) _ A1 10 _ V_d ⟨by decide, by decide⟩ (by decide) e2 rfl) (wd241 hw) (wd2 hw) (leB rfl) (leB rfl) (leB rfl) (leB rfl) rfl ?_
  intro T L v X q
  subst q
  refine X.callP (pc' := 103) (X.sVirtual (wd242 hw) (wd243 hw) (wd245 hw) (wd244 hw) (by decide) rfl pd18 E_e2 [(.ref e2)] rfl rfl d35_100 (X.nf (wd245 hw) rfl)) (rmEqId l Z a0 hw e2 _ X.old) (wd246 hw) (wd33 hw) (leB rfl) (leB rfl) (leB rfl) (leB rfl) rfl ?_
  intro T L v X q
  subst q
  refine X.ifY (pc' := 108) d35_103 (by decide) (by decide) (by decide) ?_
  refine X.iconst (pc' := 109) (1 : Int32) d35_108 rfl rfl ?_
  exact X.retIN (by simp) rfl d35_109 (by decide) (by decide) ⟨_, rfl, rfl, rfl⟩
theorem ix1 {i : Int32} (h : 0 ≤ i.toInt ∧ i.toInt < (1 : Int32).toInt) : i.toInt = 0 := by
  rw [show (1 : Int32).toInt = 1 from rfl] at h
  omega
theorem ix2 {i : Int32} (h : 0 ≤ i.toInt ∧ i.toInt < (2 : Int32).toInt) : i.toInt = 0 ∨ i.toInt = 1 := by
  rw [show (2 : Int32).toInt = 2 from rfl] at h
  omega
theorem ix3 {i : Int32} (h : 0 ≤ i.toInt ∧ i.toInt < (3 : Int32).toInt) : i.toInt = 0 ∨ i.toInt = 1 ∨ i.toInt = 2 := by
  rw [show (3 : Int32).toInt = 3 from rfl] at h
  omega
theorem ix4 {i : Int32} (h : 0 ≤ i.toInt ∧ i.toInt < (4 : Int32).toInt) : i.toInt = 0 ∨ i.toInt = 1 ∨ i.toInt = 2 ∨ i.toInt = 3 := by
  rw [show (4 : Int32).toInt = 4 from rfl] at h
  omega
theorem Wk_num {co : Bool} {Z : State} {a0 : Array Value} {EL : List (String × Nat)} {own : String} {bytes : ByteArray} {maxL : Nat} {ret : Option FieldType} {nm : String} {ws : List Addr} {p : Program} {l : Launch} {e : Env} {R : Room} {s : State} {m : MethodId} {args : Array Value} {below : List Frame} {meth : Method} {c : Code} {vm0 : Vm} {T : State} {h : Heap} {locs : List Loc} {cells slots : Nat} (X : Wk co Z a0 EL own bytes maxL ret nm ws p l e R s m args below meth c vm0 T h locs cells slots) (k n : Nat) (hc : cells = k) (hs : slots = n) : Wk co Z a0 EL own bytes maxL ret nm ws p l e R s m args below meth c vm0 T h locs k n := by
  subst hc hs
  exact X
set_option maxRecDepth 65536 in
set_option maxHeartbeats 40000000 in
theorem sg_m0 (l : Launch) (Z : State) (a0 : Array Value) (hw : ∀ d ∈ tables_1, d.before a0 Z = true) (z : Int32) (O2 : Sta Z Z.heap "java/lang/String" "COMPACT_STRINGS" "Z" (.int z)) (hz : ¬ z = 0) (d0 : Addr) (SD : Sta Z Z.heap "java/util/ArrayList" "DEFAULTCAPACITY_EMPTY_ELEMENTDATA" "[Ljava/lang/Object;" (.ref d0)) (VD : Emp Z Z.heap d0) (p1 p2 p3 p4 p5 p6 n : Int32) {pg : Program} {ev : Env} {s : State} {m : MethodId} {args : Array Value} {below : List Frame} {meth : Method} {cd : Code} {G : Outcome → State → Prop} {T : State} {hb : Heap} {L : List Loc}  (X : Wk false Z a0 [] "com/example/vertere/vertere/engine/AnswersGetPinLaw" code maxLocals ret "law" [] pg l ev room_1 s m args below meth cd s.vm T hb L 0 0)
    (k : ∀ (T : State) (h : Heap) (L : List Loc) (m0 dm0 x0 : Addr) (mc : Int32), Wk false Z a0 [] "com/example/vertere/vertere/engine/AnswersGetPinLaw" code maxLocals ret "law" [] pg l ev room_1 s m args below meth cd s.vm T h L 5 23 → Keep hb h [] → Z.heap.size ≤ m0 → s.heap.size ≤ m0 → hb.size ≤ m0 → Z.heap.size ≤ dm0 → s.heap.size ≤ dm0 → hb.size ≤ dm0 → m0 ≠ dm0 → AL Z h m0 (.ref dm0) (1 : Int32) mc → OA Z h dm0 10 [(.ref x0), (.null), (.null), (.null), (.null), (.null), (.null), (.null), (.null), (.null)] → Exa Z h x0 "java/lang/String" → Y.Ends pg ev below G (T.setTop (mkF m 26 #[.val (.int p1), .val (.int p2), .val (.int p3), .val (.int p4), .val (.int p5), .val (.int p6), .val (.int n), .val (.ref m0), .unset, .unset, .unset, .unset, .unset, .unset, .unset, .unset] []))) :
    Y.Ends pg ev below G (T.setTop (mkF m 7 #[.val (.int p1), .val (.int p2), .val (.int p3), .val (.int p4), .val (.int p5), .val (.int p6), .val (.int n), .unset, .unset, .unset, .unset, .unset, .unset, .unset, .unset, .unset] [])) := by
  have KK : Keep hb hb [] := Keep.refl hb []
  refine X.newO (pc' := 10) (wd0 hw) (wd1 hw) (wd2 hw) at_7 (by decide) (by decide) rfl ?_
  intro T h m0 g_m0 Ex lt_m0 E_m0 D_m0 X1
  have z_m0 : Z.heap.size ≤ m0 := by rw [g_m0]; exact X.old.1
  have s_m0 : s.heap.size ≤ m0 := by rw [g_m0]; exact X.kp.1
  have f_m0 : hb.size ≤ m0 := by rw [g_m0]; exact KK.1
  replace KK := KK.ext Ex
  replace X := X1
  have F_m0_elementData : Fld Z h m0 "java/util/ArrayList" "elementData" "[Ljava/lang/Object;" .null := D_m0 (Or.inl (wd25 hw)) (ty := (.array (.object "java/lang/Object"))) (by decide)
  have F_m0_size : Fld Z h m0 "java/util/ArrayList" "size" "I" (.int (0 : Int32)) := D_m0 (Or.inl (wd66 hw)) (ty := .int) (by decide)
  have F_m0_modCount : Fld Z h m0 "java/util/AbstractList" "modCount" "I" (.int (0 : Int32)) := D_m0 (Or.inl (wd22 hw)) (ty := .int) (by decide)
  refine X.dup (pc' := 11) at_10 rfl rfl ?_
  refine X.callU (pc' := 14) (X.sSpecial rfl (wd3 hw) (wd4 hw) (wd5 hw) (by decide) rfl pd0 [] rfl rfl at_11) (rmALI l Z a0 hw m0 _ X.old d0 SD VD z_m0 ⟨E_m0, F_m0_elementData, F_m0_size, F_m0_modCount⟩) (wd5 hw) (wd2 hw) (leB rfl) (leB rfl) (leB rfl) (leB rfl) (sfS safeE sf0) (allS z_m0 all0) (allS (Or.inr s_m0) all0) rfl ?_
  intro T h L X K q
  replace KK := KK.trans K (allS (Or.inr f_m0) all0)
  replace E_m0 := E_m0.keep K
  replace lt_m0 := Nat.lt_of_lt_of_le lt_m0 K.1
  have A_m0 := q
  refine X.astore (pc' := 16) #[.val (.int p1), .val (.int p2), .val (.int p3), .val (.int p4), .val (.int p5), .val (.int p6), .val (.int n), .val (.ref m0), .unset, .unset, .unset, .unset, .unset, .unset, .unset, .unset] at_14 rfl rfl rfl ?_
  refine X.aload (pc' := 18) at_16 rfl rfl rfl ?_
  refine X.iloadN (pc' := 19) at_18 rfl rfl ?_
  refine X.callV (pc' := 22) (X.sStatic (wd26 hw) (wd27 hw) (wd28 hw) (wd29 hw) (by decide) rfl pd19 [(.int p3)] rfl rfl at_19) (rmS l Z a0 hw p3 _ X.old z O2 hz) (wd29 hw) (wd28 hw) (leB rfl) (leB rfl) (leB rfl) (leB rfl) sf0 all0 all0 rfl ?_
  intro T h L v X K q
  obtain ⟨x0, rfl, le_x0, E_x0⟩ := q
  replace KK := KK.trans K all0
  replace lt_m0 := Nat.lt_of_lt_of_le lt_m0 K.1
  replace A_m0 := A_m0.keep K nin0
  have zo := X.old.1
  have so := X.kp.1
  refine X.callV (pc' := 25) (X.sVirtual (wd58 hw) (wd59 hw) (wd61 hw) (wd60 hw) (by decide) rfl pd18 A_m0.1 [(.ref x0)] rfl rfl at_22 (X.nf (wd61 hw) rfl)) (rmAddF l Z a0 hw m0 x0 _ X.old d0 SD VD z_m0 _ A_m0 _ (wd88 hw) E_x0) (wd62 hw) (wd2 hw) (leB rfl) (leB rfl) (leB rfl) (leB rfl) (sfS (Safe.exa X.al A_m0.1 (by decide) (by decide)) sf0) (allS z_m0 all0) (allS (Or.inr s_m0) all0) rfl ?_
  intro T h L v X K q
  obtain ⟨rfl, dm0, le_dm0, A_n, V_dm0⟩ := q
  have f_dm0 : hb.size ≤ dm0 := Nat.le_trans KK.1 le_dm0
  have ne_m0_dm0 : m0 ≠ dm0 := Nat.ne_of_lt (Nat.lt_of_lt_of_le lt_m0 le_dm0)
  have z_dm0 := Nat.le_trans zo le_dm0
  have s_dm0 := Nat.le_trans so le_dm0
  replace KK := KK.trans K (allS (Or.inr f_m0) all0)
  replace lt_m0 := Nat.lt_of_lt_of_le lt_m0 K.1
  replace E_x0 := E_x0.keep K
  replace A_m0 := A_n
  have lt_dm0 := V_dm0.lt
  refine X.pop (pc' := 26) at_25 rfl rfl ?_
  replace X := Wk_num X 5 23 (by decide) (by decide)
  exact k T h L m0 dm0 x0 _ X KK z_m0 s_m0 f_m0 z_dm0 s_dm0 f_dm0 ne_m0_dm0 A_m0 V_dm0 E_x0
set_option maxRecDepth 65536 in
set_option maxHeartbeats 40000000 in
theorem sg_m1 (l : Launch) (Z : State) (a0 : Array Value) (hw : ∀ d ∈ tables_1, d.before a0 Z = true) (z : Int32) (O2 : Sta Z Z.heap "java/lang/String" "COMPACT_STRINGS" "Z" (.int z)) (hz : ¬ z = 0) (d0 : Addr) (SD : Sta Z Z.heap "java/util/ArrayList" "DEFAULTCAPACITY_EMPTY_ELEMENTDATA" "[Ljava/lang/Object;" (.ref d0)) (VD : Emp Z Z.heap d0) (p1 p2 p3 p4 p5 p6 n : Int32) (m0 : Addr) {pg : Program} {ev : Env} {s : State} {m : MethodId} {args : Array Value} {below : List Frame} {meth : Method} {cd : Code} {G : Outcome → State → Prop} {T : State} {hb : Heap} {L : List Loc}  (X : Wk false Z a0 [] "com/example/vertere/vertere/engine/AnswersGetPinLaw" code maxLocals ret "law" [] pg l ev room_1 s m args below meth cd s.vm T hb L 5 23)
    (k : ∀ (T : State) (h : Heap) (L : List Loc) (m1 dm1 x1 x2 : Addr) (mc : Int32), Wk false Z a0 [] "com/example/vertere/vertere/engine/AnswersGetPinLaw" code maxLocals ret "law" [] pg l ev room_1 s m args below meth cd s.vm T h L 13 56 → Keep hb h [] → Z.heap.size ≤ m1 → s.heap.size ≤ m1 → hb.size ≤ m1 → Z.heap.size ≤ dm1 → s.heap.size ≤ dm1 → hb.size ≤ dm1 → m1 ≠ dm1 → AL Z h m1 (.ref dm1) (2 : Int32) mc → OA Z h dm1 10 [(.ref x1), (.ref x2), (.null), (.null), (.null), (.null), (.null), (.null), (.null), (.null)] → Exa Z h x1 "java/lang/String" → Exa Z h x2 "java/lang/String" → Y.Ends pg ev below G (T.setTop (mkF m 56 #[.val (.int p1), .val (.int p2), .val (.int p3), .val (.int p4), .val (.int p5), .val (.int p6), .val (.int n), .val (.ref m0), .val (.ref m1), .unset, .unset, .unset, .unset, .unset, .unset, .unset] []))) :
    Y.Ends pg ev below G (T.setTop (mkF m 26 #[.val (.int p1), .val (.int p2), .val (.int p3), .val (.int p4), .val (.int p5), .val (.int p6), .val (.int n), .val (.ref m0), .unset, .unset, .unset, .unset, .unset, .unset, .unset, .unset] [])) := by
  have KK : Keep hb hb [] := Keep.refl hb []
  refine X.newO (pc' := 29) (wd0 hw) (wd1 hw) (wd2 hw) at_26 (by decide) (by decide) rfl ?_
  intro T h m1 g_m1 Ex lt_m1 E_m1 D_m1 X1
  have z_m1 : Z.heap.size ≤ m1 := by rw [g_m1]; exact X.old.1
  have s_m1 : s.heap.size ≤ m1 := by rw [g_m1]; exact X.kp.1
  have f_m1 : hb.size ≤ m1 := by rw [g_m1]; exact KK.1
  replace KK := KK.ext Ex
  replace X := X1
  have F_m1_elementData : Fld Z h m1 "java/util/ArrayList" "elementData" "[Ljava/lang/Object;" .null := D_m1 (Or.inl (wd25 hw)) (ty := (.array (.object "java/lang/Object"))) (by decide)
  have F_m1_size : Fld Z h m1 "java/util/ArrayList" "size" "I" (.int (0 : Int32)) := D_m1 (Or.inl (wd66 hw)) (ty := .int) (by decide)
  have F_m1_modCount : Fld Z h m1 "java/util/AbstractList" "modCount" "I" (.int (0 : Int32)) := D_m1 (Or.inl (wd22 hw)) (ty := .int) (by decide)
  refine X.dup (pc' := 30) at_29 rfl rfl ?_
  refine X.callU (pc' := 33) (X.sSpecial rfl (wd3 hw) (wd4 hw) (wd5 hw) (by decide) rfl pd0 [] rfl rfl at_30) (rmALI l Z a0 hw m1 _ X.old d0 SD VD z_m1 ⟨E_m1, F_m1_elementData, F_m1_size, F_m1_modCount⟩) (wd5 hw) (wd2 hw) (leB rfl) (leB rfl) (leB rfl) (leB rfl) (sfS safeE sf0) (allS z_m1 all0) (allS (Or.inr s_m1) all0) rfl ?_
  intro T h L X K q
  replace KK := KK.trans K (allS (Or.inr f_m1) all0)
  replace E_m1 := E_m1.keep K
  replace lt_m1 := Nat.lt_of_lt_of_le lt_m1 K.1
  have A_m1 := q
  refine X.astore (pc' := 35) #[.val (.int p1), .val (.int p2), .val (.int p3), .val (.int p4), .val (.int p5), .val (.int p6), .val (.int n), .val (.ref m0), .val (.ref m1), .unset, .unset, .unset, .unset, .unset, .unset, .unset] at_33 rfl rfl rfl ?_
  refine X.aload (pc' := 37) at_35 rfl rfl rfl ?_
  refine X.iloadN (pc' := 38) at_37 rfl rfl ?_
  refine X.callV (pc' := 41) (X.sStatic (wd26 hw) (wd27 hw) (wd28 hw) (wd29 hw) (by decide) rfl pd19 [(.int p4)] rfl rfl at_38) (rmS l Z a0 hw p4 _ X.old z O2 hz) (wd29 hw) (wd28 hw) (leB rfl) (leB rfl) (leB rfl) (leB rfl) sf0 all0 all0 rfl ?_
  intro T h L v X K q
  obtain ⟨x1, rfl, le_x1, E_x1⟩ := q
  replace KK := KK.trans K all0
  replace lt_m1 := Nat.lt_of_lt_of_le lt_m1 K.1
  replace A_m1 := A_m1.keep K nin0
  have zo := X.old.1
  have so := X.kp.1
  refine X.callV (pc' := 44) (X.sVirtual (wd58 hw) (wd59 hw) (wd61 hw) (wd60 hw) (by decide) rfl pd18 A_m1.1 [(.ref x1)] rfl rfl at_41 (X.nf (wd61 hw) rfl)) (rmAddF l Z a0 hw m1 x1 _ X.old d0 SD VD z_m1 _ A_m1 _ (wd88 hw) E_x1) (wd62 hw) (wd2 hw) (leB rfl) (leB rfl) (leB rfl) (leB rfl) (sfS (Safe.exa X.al A_m1.1 (by decide) (by decide)) sf0) (allS z_m1 all0) (allS (Or.inr s_m1) all0) rfl ?_
  intro T h L v X K q
  obtain ⟨rfl, dm1, le_dm1, A_n, V_dm1⟩ := q
  have f_dm1 : hb.size ≤ dm1 := Nat.le_trans KK.1 le_dm1
  have ne_m1_dm1 : m1 ≠ dm1 := Nat.ne_of_lt (Nat.lt_of_lt_of_le lt_m1 le_dm1)
  have z_dm1 := Nat.le_trans zo le_dm1
  have s_dm1 := Nat.le_trans so le_dm1
  replace KK := KK.trans K (allS (Or.inr f_m1) all0)
  replace lt_m1 := Nat.lt_of_lt_of_le lt_m1 K.1
  replace E_x1 := E_x1.keep K
  replace A_m1 := A_n
  have lt_dm1 := V_dm1.lt
  refine X.pop (pc' := 45) at_44 rfl rfl ?_
  refine X.aload (pc' := 47) at_45 rfl rfl rfl ?_
  refine X.iload (pc' := 49) at_47 rfl rfl ?_
  refine X.callV (pc' := 52) (X.sStatic (wd26 hw) (wd27 hw) (wd28 hw) (wd29 hw) (by decide) rfl pd19 [(.int p5)] rfl rfl at_49) (rmS l Z a0 hw p5 _ X.old z O2 hz) (wd29 hw) (wd28 hw) (leB rfl) (leB rfl) (leB rfl) (leB rfl) sf0 all0 all0 rfl ?_
  intro T h L v X K q
  obtain ⟨x2, rfl, le_x2, E_x2⟩ := q
  replace KK := KK.trans K all0
  replace lt_m1 := Nat.lt_of_lt_of_le lt_m1 K.1
  replace E_x1 := E_x1.keep K
  replace A_m1 := A_m1.keep K nin0
  replace V_dm1 := V_dm1.keep K nin0
  replace lt_dm1 := Nat.lt_of_lt_of_le lt_dm1 K.1
  obtain ⟨kt_dm1, B_dm1⟩ := V_dm1.ty
  refine X.callV (pc' := 55) (X.sVirtual (wd58 hw) (wd59 hw) (wd61 hw) (wd60 hw) (by decide) rfl pd18 A_m1.1 [(.ref x2)] rfl rfl at_52 (X.nf (wd61 hw) rfl)) (rmAddN l Z a0 hw m1 x2 _ X.old dm1 (1 : Int32) z_m1 z_dm1 ne_m1_dm1 _ A_m1 [(.ref x1), (.null), (.null), (.null), (.null), (.null), (.null), (.null), (.null), (.null)] rfl V_dm1 1 rfl (by decide) ⟨by decide, by decide⟩ (by decide) _ (wd88 hw) E_x2) (wd62 hw) (wd2 hw) (leB rfl) (leB rfl) (leB rfl) (leB rfl) (sfS (Safe.exa X.al A_m1.1 (by decide) (by decide)) (sfS (V_dm1.safe X.al) sf0)) (allS z_m1 (allS z_dm1 all0)) (allS (Or.inr s_m1) (allS (Or.inr s_dm1) all0)) rfl ?_
  intro T h L v X K q
  obtain ⟨rfl, A_n, V_n⟩ := q
  replace KK := KK.trans K (allS (Or.inr f_m1) (allS (Or.inr f_dm1) all0))
  replace lt_m1 := Nat.lt_of_lt_of_le lt_m1 K.1
  replace E_x1 := E_x1.keep K
  replace lt_dm1 := Nat.lt_of_lt_of_le lt_dm1 K.1
  replace E_x2 := E_x2.keep K
  rw [show ((1 : Int32) + 1 : Int32) = (2 : Int32) from by decide] at A_n
  replace A_m1 := A_n
  replace V_dm1 : OA Z h dm1 10 [(.ref x1), (.ref x2), (.null), (.null), (.null), (.null), (.null), (.null), (.null), (.null)] := V_n
  refine X.pop (pc' := 56) at_55 rfl rfl ?_
  replace X := Wk_num X 13 56 (by decide) (by decide)
  exact k T h L m1 dm1 x1 x2 _ X KK z_m1 s_m1 f_m1 z_dm1 s_dm1 f_dm1 ne_m1_dm1 A_m1 V_dm1 E_x1 E_x2
set_option maxRecDepth 65536 in
set_option maxHeartbeats 40000000 in
theorem sg_m2 (l : Launch) (Z : State) (a0 : Array Value) (hw : ∀ d ∈ tables_1, d.before a0 Z = true) (z : Int32) (O2 : Sta Z Z.heap "java/lang/String" "COMPACT_STRINGS" "Z" (.int z)) (hz : ¬ z = 0) (d0 : Addr) (SD : Sta Z Z.heap "java/util/ArrayList" "DEFAULTCAPACITY_EMPTY_ELEMENTDATA" "[Ljava/lang/Object;" (.ref d0)) (VD : Emp Z Z.heap d0) (p1 p2 p3 p4 p5 p6 n : Int32) (m0 m1 : Addr) {pg : Program} {ev : Env} {s : State} {m : MethodId} {args : Array Value} {below : List Frame} {meth : Method} {cd : Code} {G : Outcome → State → Prop} {T : State} {hb : Heap} {L : List Loc}  (X : Wk false Z a0 [] "com/example/vertere/vertere/engine/AnswersGetPinLaw" code maxLocals ret "law" [] pg l ev room_1 s m args below meth cd s.vm T hb L 13 56)
    (k : ∀ (T : State) (h : Heap) (L : List Loc) (m2 : Addr) (mc : Int32), Wk false Z a0 [] "com/example/vertere/vertere/engine/AnswersGetPinLaw" code maxLocals ret "law" [] pg l ev room_1 s m args below meth cd s.vm T h L 14 59 → Keep hb h [] → Z.heap.size ≤ m2 → s.heap.size ≤ m2 → hb.size ≤ m2 → AL Z h m2 (.ref d0) (0 : Int32) mc → Y.Ends pg ev below G (T.setTop (mkF m 65 #[.val (.int p1), .val (.int p2), .val (.int p3), .val (.int p4), .val (.int p5), .val (.int p6), .val (.int n), .val (.ref m0), .val (.ref m1), .val (.ref m2), .unset, .unset, .unset, .unset, .unset, .unset] []))) :
    Y.Ends pg ev below G (T.setTop (mkF m 56 #[.val (.int p1), .val (.int p2), .val (.int p3), .val (.int p4), .val (.int p5), .val (.int p6), .val (.int n), .val (.ref m0), .val (.ref m1), .unset, .unset, .unset, .unset, .unset, .unset, .unset] [])) := by
  have KK : Keep hb hb [] := Keep.refl hb []
  refine X.newO (pc' := 59) (wd0 hw) (wd1 hw) (wd2 hw) at_56 (by decide) (by decide) rfl ?_
  intro T h m2 g_m2 Ex lt_m2 E_m2 D_m2 X1
  have z_m2 : Z.heap.size ≤ m2 := by rw [g_m2]; exact X.old.1
  have s_m2 : s.heap.size ≤ m2 := by rw [g_m2]; exact X.kp.1
  have f_m2 : hb.size ≤ m2 := by rw [g_m2]; exact KK.1
  replace KK := KK.ext Ex
  replace X := X1
  have F_m2_elementData : Fld Z h m2 "java/util/ArrayList" "elementData" "[Ljava/lang/Object;" .null := D_m2 (Or.inl (wd25 hw)) (ty := (.array (.object "java/lang/Object"))) (by decide)
  have F_m2_size : Fld Z h m2 "java/util/ArrayList" "size" "I" (.int (0 : Int32)) := D_m2 (Or.inl (wd66 hw)) (ty := .int) (by decide)
  have F_m2_modCount : Fld Z h m2 "java/util/AbstractList" "modCount" "I" (.int (0 : Int32)) := D_m2 (Or.inl (wd22 hw)) (ty := .int) (by decide)
  refine X.dup (pc' := 60) at_59 rfl rfl ?_
  refine X.callU (pc' := 63) (X.sSpecial rfl (wd3 hw) (wd4 hw) (wd5 hw) (by decide) rfl pd0 [] rfl rfl at_60) (rmALI l Z a0 hw m2 _ X.old d0 SD VD z_m2 ⟨E_m2, F_m2_elementData, F_m2_size, F_m2_modCount⟩) (wd5 hw) (wd2 hw) (leB rfl) (leB rfl) (leB rfl) (leB rfl) (sfS safeE sf0) (allS z_m2 all0) (allS (Or.inr s_m2) all0) rfl ?_
  intro T h L X K q
  replace KK := KK.trans K (allS (Or.inr f_m2) all0)
  replace E_m2 := E_m2.keep K
  replace lt_m2 := Nat.lt_of_lt_of_le lt_m2 K.1
  have A_m2 := q
  refine X.astore (pc' := 65) #[.val (.int p1), .val (.int p2), .val (.int p3), .val (.int p4), .val (.int p5), .val (.int p6), .val (.int n), .val (.ref m0), .val (.ref m1), .val (.ref m2), .unset, .unset, .unset, .unset, .unset, .unset] at_63 rfl rfl rfl ?_
  replace X := Wk_num X 14 59 (by decide) (by decide)
  exact k T h L m2 _ X KK z_m2 s_m2 f_m2 A_m2
set_option maxRecDepth 65536 in
set_option maxHeartbeats 40000000 in
theorem sg_m3 (l : Launch) (Z : State) (a0 : Array Value) (hw : ∀ d ∈ tables_1, d.before a0 Z = true) (z : Int32) (O2 : Sta Z Z.heap "java/lang/String" "COMPACT_STRINGS" "Z" (.int z)) (hz : ¬ z = 0) (d0 : Addr) (SD : Sta Z Z.heap "java/util/ArrayList" "DEFAULTCAPACITY_EMPTY_ELEMENTDATA" "[Ljava/lang/Object;" (.ref d0)) (VD : Emp Z Z.heap d0) (p1 p2 p3 p4 p5 p6 n : Int32) (m0 m1 m2 : Addr) {pg : Program} {ev : Env} {s : State} {m : MethodId} {args : Array Value} {below : List Frame} {meth : Method} {cd : Code} {G : Outcome → State → Prop} {T : State} {hb : Heap} {L : List Loc}  (X : Wk false Z a0 [] "com/example/vertere/vertere/engine/AnswersGetPinLaw" code maxLocals ret "law" [] pg l ev room_1 s m args below meth cd s.vm T hb L 14 59)
    (k : ∀ (T : State) (h : Heap) (L : List Loc) (m3 dm3 x3 x4 x5 : Addr) (mc : Int32), Wk false Z a0 [] "com/example/vertere/vertere/engine/AnswersGetPinLaw" code maxLocals ret "law" [] pg l ev room_1 s m args below meth cd s.vm T h L 25 102 → Keep hb h [] → Z.heap.size ≤ m3 → s.heap.size ≤ m3 → hb.size ≤ m3 → Z.heap.size ≤ dm3 → s.heap.size ≤ dm3 → hb.size ≤ dm3 → m3 ≠ dm3 → AL Z h m3 (.ref dm3) (3 : Int32) mc → OA Z h dm3 10 [(.ref x3), (.ref x4), (.ref x5), (.null), (.null), (.null), (.null), (.null), (.null), (.null)] → Exa Z h x3 "java/lang/String" → Exa Z h x4 "java/lang/String" → Exa Z h x5 "java/lang/String" → Y.Ends pg ev below G (T.setTop (mkF m 114 #[.val (.int p1), .val (.int p2), .val (.int p3), .val (.int p4), .val (.int p5), .val (.int p6), .val (.int n), .val (.ref m0), .val (.ref m1), .val (.ref m2), .val (.ref m3), .unset, .unset, .unset, .unset, .unset] []))) :
    Y.Ends pg ev below G (T.setTop (mkF m 65 #[.val (.int p1), .val (.int p2), .val (.int p3), .val (.int p4), .val (.int p5), .val (.int p6), .val (.int n), .val (.ref m0), .val (.ref m1), .val (.ref m2), .unset, .unset, .unset, .unset, .unset, .unset] [])) := by
  have KK : Keep hb hb [] := Keep.refl hb []
  refine X.newO (pc' := 68) (wd0 hw) (wd1 hw) (wd2 hw) at_65 (by decide) (by decide) rfl ?_
  intro T h m3 g_m3 Ex lt_m3 E_m3 D_m3 X1
  have z_m3 : Z.heap.size ≤ m3 := by rw [g_m3]; exact X.old.1
  have s_m3 : s.heap.size ≤ m3 := by rw [g_m3]; exact X.kp.1
  have f_m3 : hb.size ≤ m3 := by rw [g_m3]; exact KK.1
  replace KK := KK.ext Ex
  replace X := X1
  have F_m3_elementData : Fld Z h m3 "java/util/ArrayList" "elementData" "[Ljava/lang/Object;" .null := D_m3 (Or.inl (wd25 hw)) (ty := (.array (.object "java/lang/Object"))) (by decide)
  have F_m3_size : Fld Z h m3 "java/util/ArrayList" "size" "I" (.int (0 : Int32)) := D_m3 (Or.inl (wd66 hw)) (ty := .int) (by decide)
  have F_m3_modCount : Fld Z h m3 "java/util/AbstractList" "modCount" "I" (.int (0 : Int32)) := D_m3 (Or.inl (wd22 hw)) (ty := .int) (by decide)
  refine X.dup (pc' := 69) at_68 rfl rfl ?_
  refine X.callU (pc' := 72) (X.sSpecial rfl (wd3 hw) (wd4 hw) (wd5 hw) (by decide) rfl pd0 [] rfl rfl at_69) (rmALI l Z a0 hw m3 _ X.old d0 SD VD z_m3 ⟨E_m3, F_m3_elementData, F_m3_size, F_m3_modCount⟩) (wd5 hw) (wd2 hw) (leB rfl) (leB rfl) (leB rfl) (leB rfl) (sfS safeE sf0) (allS z_m3 all0) (allS (Or.inr s_m3) all0) rfl ?_
  intro T h L X K q
  replace KK := KK.trans K (allS (Or.inr f_m3) all0)
  replace E_m3 := E_m3.keep K
  replace lt_m3 := Nat.lt_of_lt_of_le lt_m3 K.1
  have A_m3 := q
  refine X.astore (pc' := 74) #[.val (.int p1), .val (.int p2), .val (.int p3), .val (.int p4), .val (.int p5), .val (.int p6), .val (.int n), .val (.ref m0), .val (.ref m1), .val (.ref m2), .val (.ref m3), .unset, .unset, .unset, .unset, .unset] at_72 rfl rfl rfl ?_
  refine X.aload (pc' := 76) at_74 rfl rfl rfl ?_
  refine X.iloadN (pc' := 77) at_76 rfl rfl ?_
  refine X.bipush (pc' := 79) (8 : Int32) at_77 rfl rfl ?_
  refine X.iushr (pc' := 80) at_79 rfl ?_
  generalize hg_g_x3 : ((p3.toUInt32 >>> ((8 : Int32) &&& 31).toUInt32).toInt32) = g_x3
  refine X.callV (pc' := 83) (X.sStatic (wd26 hw) (wd27 hw) (wd28 hw) (wd29 hw) (by decide) rfl pd19 [(.int g_x3)] rfl rfl at_80) (rmS l Z a0 hw g_x3 _ X.old z O2 hz) (wd29 hw) (wd28 hw) (leB rfl) (leB rfl) (leB rfl) (leB rfl) sf0 all0 all0 rfl ?_
  intro T h L v X K q
  obtain ⟨x3, rfl, le_x3, E_x3⟩ := q
  replace KK := KK.trans K all0
  replace lt_m3 := Nat.lt_of_lt_of_le lt_m3 K.1
  replace A_m3 := A_m3.keep K nin0
  have zo := X.old.1
  have so := X.kp.1
  refine X.callV (pc' := 86) (X.sVirtual (wd58 hw) (wd59 hw) (wd61 hw) (wd60 hw) (by decide) rfl pd18 A_m3.1 [(.ref x3)] rfl rfl at_83 (X.nf (wd61 hw) rfl)) (rmAddF l Z a0 hw m3 x3 _ X.old d0 SD VD z_m3 _ A_m3 _ (wd88 hw) E_x3) (wd62 hw) (wd2 hw) (leB rfl) (leB rfl) (leB rfl) (leB rfl) (sfS (Safe.exa X.al A_m3.1 (by decide) (by decide)) sf0) (allS z_m3 all0) (allS (Or.inr s_m3) all0) rfl ?_
  intro T h L v X K q
  obtain ⟨rfl, dm3, le_dm3, A_n, V_dm3⟩ := q
  have f_dm3 : hb.size ≤ dm3 := Nat.le_trans KK.1 le_dm3
  have ne_m3_dm3 : m3 ≠ dm3 := Nat.ne_of_lt (Nat.lt_of_lt_of_le lt_m3 le_dm3)
  have z_dm3 := Nat.le_trans zo le_dm3
  have s_dm3 := Nat.le_trans so le_dm3
  replace KK := KK.trans K (allS (Or.inr f_m3) all0)
  replace lt_m3 := Nat.lt_of_lt_of_le lt_m3 K.1
  replace E_x3 := E_x3.keep K
  replace A_m3 := A_n
  have lt_dm3 := V_dm3.lt
  refine X.pop (pc' := 87) at_86 rfl rfl ?_
  refine X.aload (pc' := 89) at_87 rfl rfl rfl ?_
  refine X.iloadN (pc' := 90) at_89 rfl rfl ?_
  refine X.bipush (pc' := 92) (8 : Int32) at_90 rfl rfl ?_
  refine X.iushr (pc' := 93) at_92 rfl ?_
  generalize hg_g_x4 : ((p4.toUInt32 >>> ((8 : Int32) &&& 31).toUInt32).toInt32) = g_x4
  refine X.callV (pc' := 96) (X.sStatic (wd26 hw) (wd27 hw) (wd28 hw) (wd29 hw) (by decide) rfl pd19 [(.int g_x4)] rfl rfl at_93) (rmS l Z a0 hw g_x4 _ X.old z O2 hz) (wd29 hw) (wd28 hw) (leB rfl) (leB rfl) (leB rfl) (leB rfl) sf0 all0 all0 rfl ?_
  intro T h L v X K q
  obtain ⟨x4, rfl, le_x4, E_x4⟩ := q
  replace KK := KK.trans K all0
  replace lt_m3 := Nat.lt_of_lt_of_le lt_m3 K.1
  replace E_x3 := E_x3.keep K
  replace A_m3 := A_m3.keep K nin0
  replace V_dm3 := V_dm3.keep K nin0
  replace lt_dm3 := Nat.lt_of_lt_of_le lt_dm3 K.1
  obtain ⟨kt_dm3, B_dm3⟩ := V_dm3.ty
  refine X.callV (pc' := 99) (X.sVirtual (wd58 hw) (wd59 hw) (wd61 hw) (wd60 hw) (by decide) rfl pd18 A_m3.1 [(.ref x4)] rfl rfl at_96 (X.nf (wd61 hw) rfl)) (rmAddN l Z a0 hw m3 x4 _ X.old dm3 (1 : Int32) z_m3 z_dm3 ne_m3_dm3 _ A_m3 [(.ref x3), (.null), (.null), (.null), (.null), (.null), (.null), (.null), (.null), (.null)] rfl V_dm3 1 rfl (by decide) ⟨by decide, by decide⟩ (by decide) _ (wd88 hw) E_x4) (wd62 hw) (wd2 hw) (leB rfl) (leB rfl) (leB rfl) (leB rfl) (sfS (Safe.exa X.al A_m3.1 (by decide) (by decide)) (sfS (V_dm3.safe X.al) sf0)) (allS z_m3 (allS z_dm3 all0)) (allS (Or.inr s_m3) (allS (Or.inr s_dm3) all0)) rfl ?_
  intro T h L v X K q
  obtain ⟨rfl, A_n, V_n⟩ := q
  replace KK := KK.trans K (allS (Or.inr f_m3) (allS (Or.inr f_dm3) all0))
  replace lt_m3 := Nat.lt_of_lt_of_le lt_m3 K.1
  replace E_x3 := E_x3.keep K
  replace lt_dm3 := Nat.lt_of_lt_of_le lt_dm3 K.1
  replace E_x4 := E_x4.keep K
  rw [show ((1 : Int32) + 1 : Int32) = (2 : Int32) from by decide] at A_n
  replace A_m3 := A_n
  replace V_dm3 : OA Z h dm3 10 [(.ref x3), (.ref x4), (.null), (.null), (.null), (.null), (.null), (.null), (.null), (.null)] := V_n
  refine X.pop (pc' := 100) at_99 rfl rfl ?_
  refine X.aload (pc' := 102) at_100 rfl rfl rfl ?_
  refine X.iload (pc' := 104) at_102 rfl rfl ?_
  refine X.bipush (pc' := 106) (8 : Int32) at_104 rfl rfl ?_
  refine X.iushr (pc' := 107) at_106 rfl ?_
  generalize hg_g_x5 : ((p5.toUInt32 >>> ((8 : Int32) &&& 31).toUInt32).toInt32) = g_x5
  refine X.callV (pc' := 110) (X.sStatic (wd26 hw) (wd27 hw) (wd28 hw) (wd29 hw) (by decide) rfl pd19 [(.int g_x5)] rfl rfl at_107) (rmS l Z a0 hw g_x5 _ X.old z O2 hz) (wd29 hw) (wd28 hw) (leB rfl) (leB rfl) (leB rfl) (leB rfl) sf0 all0 all0 rfl ?_
  intro T h L v X K q
  obtain ⟨x5, rfl, le_x5, E_x5⟩ := q
  replace KK := KK.trans K all0
  replace lt_m3 := Nat.lt_of_lt_of_le lt_m3 K.1
  replace E_x3 := E_x3.keep K
  replace lt_dm3 := Nat.lt_of_lt_of_le lt_dm3 K.1
  replace E_x4 := E_x4.keep K
  replace A_m3 := A_m3.keep K nin0
  replace V_dm3 := V_dm3.keep K nin0
  obtain ⟨kt_dm3, B_dm3⟩ := V_dm3.ty
  refine X.callV (pc' := 113) (X.sVirtual (wd58 hw) (wd59 hw) (wd61 hw) (wd60 hw) (by decide) rfl pd18 A_m3.1 [(.ref x5)] rfl rfl at_110 (X.nf (wd61 hw) rfl)) (rmAddN l Z a0 hw m3 x5 _ X.old dm3 (2 : Int32) z_m3 z_dm3 ne_m3_dm3 _ A_m3 [(.ref x3), (.ref x4), (.null), (.null), (.null), (.null), (.null), (.null), (.null), (.null)] rfl V_dm3 2 rfl (by decide) ⟨by decide, by decide⟩ (by decide) _ (wd88 hw) E_x5) (wd62 hw) (wd2 hw) (leB rfl) (leB rfl) (leB rfl) (leB rfl) (sfS (Safe.exa X.al A_m3.1 (by decide) (by decide)) (sfS (V_dm3.safe X.al) sf0)) (allS z_m3 (allS z_dm3 all0)) (allS (Or.inr s_m3) (allS (Or.inr s_dm3) all0)) rfl ?_
  intro T h L v X K q
  obtain ⟨rfl, A_n, V_n⟩ := q
  replace KK := KK.trans K (allS (Or.inr f_m3) (allS (Or.inr f_dm3) all0))
  replace lt_m3 := Nat.lt_of_lt_of_le lt_m3 K.1
  replace E_x3 := E_x3.keep K
  replace lt_dm3 := Nat.lt_of_lt_of_le lt_dm3 K.1
  replace E_x4 := E_x4.keep K
  replace E_x5 := E_x5.keep K
  rw [show ((2 : Int32) + 1 : Int32) = (3 : Int32) from by decide] at A_n
  replace A_m3 := A_n
  replace V_dm3 : OA Z h dm3 10 [(.ref x3), (.ref x4), (.ref x5), (.null), (.null), (.null), (.null), (.null), (.null), (.null)] := V_n
  refine X.pop (pc' := 114) at_113 rfl rfl ?_
  replace X := Wk_num X 25 102 (by decide) (by decide)
  exact k T h L m3 dm3 x3 x4 x5 _ X KK z_m3 s_m3 f_m3 z_dm3 s_dm3 f_dm3 ne_m3_dm3 A_m3 V_dm3 E_x3 E_x4 E_x5
set_option maxRecDepth 65536 in
set_option maxHeartbeats 40000000 in
theorem sg_ol (l : Launch) (Z : State) (a0 : Array Value) (hw : ∀ d ∈ tables_1, d.before a0 Z = true) (z : Int32) (O2 : Sta Z Z.heap "java/lang/String" "COMPACT_STRINGS" "Z" (.int z)) (hz : ¬ z = 0) (d0 : Addr) (SD : Sta Z Z.heap "java/util/ArrayList" "DEFAULTCAPACITY_EMPTY_ELEMENTDATA" "[Ljava/lang/Object;" (.ref d0)) (VD : Emp Z Z.heap d0) (p1 p2 p3 p4 p5 p6 n : Int32) (m0 m1 m2 m3 : Addr) {pg : Program} {ev : Env} {s : State} {m : MethodId} {args : Array Value} {below : List Frame} {meth : Method} {cd : Code} {G : Outcome → State → Prop} {T : State} {hb : Heap} {L : List Loc} (E_m0 : Exa Z hb m0 "java/util/ArrayList") (X : Wk false Z a0 [] "com/example/vertere/vertere/engine/AnswersGetPinLaw" code maxLocals ret "law" [] pg l ev room_1 s m args below meth cd s.vm T hb L 25 102)
    (k : ∀ (T : State) (h : Heap) (L : List Loc) (ol dol : Addr) (mc : Int32), Wk false Z a0 [] "com/example/vertere/vertere/engine/AnswersGetPinLaw" code maxLocals ret "law" [] pg l ev room_1 s m args below meth cd s.vm T h L 27 115 → Keep hb h [] → Z.heap.size ≤ ol → s.heap.size ≤ ol → hb.size ≤ ol → Z.heap.size ≤ dol → s.heap.size ≤ dol → hb.size ≤ dol → ol ≠ dol → AL Z h ol (.ref dol) (1 : Int32) mc → OA Z h dol 10 [(.ref m0), (.null), (.null), (.null), (.null), (.null), (.null), (.null), (.null), (.null)] → Y.Ends pg ev below G (T.setTop (mkF m 131 #[.val (.int p1), .val (.int p2), .val (.int p3), .val (.int p4), .val (.int p5), .val (.int p6), .val (.int n), .val (.ref m0), .val (.ref m1), .val (.ref m2), .val (.ref m3), .val (.ref ol), .unset, .unset, .unset, .unset] []))) :
    Y.Ends pg ev below G (T.setTop (mkF m 114 #[.val (.int p1), .val (.int p2), .val (.int p3), .val (.int p4), .val (.int p5), .val (.int p6), .val (.int n), .val (.ref m0), .val (.ref m1), .val (.ref m2), .val (.ref m3), .unset, .unset, .unset, .unset, .unset] [])) := by
  have KK : Keep hb hb [] := Keep.refl hb []
  refine X.newO (pc' := 117) (wd0 hw) (wd1 hw) (wd2 hw) at_114 (by decide) (by decide) rfl ?_
  intro T h ol g_ol Ex lt_ol E_ol D_ol X1
  have z_ol : Z.heap.size ≤ ol := by rw [g_ol]; exact X.old.1
  have s_ol : s.heap.size ≤ ol := by rw [g_ol]; exact X.kp.1
  have f_ol : hb.size ≤ ol := by rw [g_ol]; exact KK.1
  replace KK := KK.ext Ex
  replace E_m0 := E_m0.ext Ex
  replace X := X1
  have F_ol_elementData : Fld Z h ol "java/util/ArrayList" "elementData" "[Ljava/lang/Object;" .null := D_ol (Or.inl (wd25 hw)) (ty := (.array (.object "java/lang/Object"))) (by decide)
  have F_ol_size : Fld Z h ol "java/util/ArrayList" "size" "I" (.int (0 : Int32)) := D_ol (Or.inl (wd66 hw)) (ty := .int) (by decide)
  have F_ol_modCount : Fld Z h ol "java/util/AbstractList" "modCount" "I" (.int (0 : Int32)) := D_ol (Or.inl (wd22 hw)) (ty := .int) (by decide)
  refine X.dup (pc' := 118) at_117 rfl rfl ?_
  refine X.callU (pc' := 121) (X.sSpecial rfl (wd3 hw) (wd4 hw) (wd5 hw) (by decide) rfl pd0 [] rfl rfl at_118) (rmALI l Z a0 hw ol _ X.old d0 SD VD z_ol ⟨E_ol, F_ol_elementData, F_ol_size, F_ol_modCount⟩) (wd5 hw) (wd2 hw) (leB rfl) (leB rfl) (leB rfl) (leB rfl) (sfS safeE sf0) (allS z_ol all0) (allS (Or.inr s_ol) all0) rfl ?_
  intro T h L X K q
  replace KK := KK.trans K (allS (Or.inr f_ol) all0)
  replace E_m0 := E_m0.keep K
  replace E_ol := E_ol.keep K
  replace lt_ol := Nat.lt_of_lt_of_le lt_ol K.1
  have A_ol := q
  refine X.astore (pc' := 123) #[.val (.int p1), .val (.int p2), .val (.int p3), .val (.int p4), .val (.int p5), .val (.int p6), .val (.int n), .val (.ref m0), .val (.ref m1), .val (.ref m2), .val (.ref m3), .val (.ref ol), .unset, .unset, .unset, .unset] at_121 rfl rfl rfl ?_
  refine X.aload (pc' := 125) at_123 rfl rfl rfl ?_
  refine X.aload (pc' := 127) at_125 rfl rfl rfl ?_
  have zo := X.old.1
  have so := X.kp.1
  refine X.callV (pc' := 130) (X.sVirtual (wd58 hw) (wd59 hw) (wd61 hw) (wd60 hw) (by decide) rfl pd18 A_ol.1 [(.ref m0)] rfl rfl at_127 (X.nf (wd61 hw) rfl)) (rmAddF l Z a0 hw ol m0 _ X.old d0 SD VD z_ol _ A_ol _ (wd89 hw) E_m0) (wd62 hw) (wd2 hw) (leB rfl) (leB rfl) (leB rfl) (leB rfl) (sfS (Safe.exa X.al A_ol.1 (by decide) (by decide)) sf0) (allS z_ol all0) (allS (Or.inr s_ol) all0) rfl ?_
  intro T h L v X K q
  obtain ⟨rfl, dol, le_dol, A_n, V_dol⟩ := q
  have f_dol : hb.size ≤ dol := Nat.le_trans KK.1 le_dol
  have ne_ol_dol : ol ≠ dol := Nat.ne_of_lt (Nat.lt_of_lt_of_le lt_ol le_dol)
  have z_dol := Nat.le_trans zo le_dol
  have s_dol := Nat.le_trans so le_dol
  replace KK := KK.trans K (allS (Or.inr f_ol) all0)
  replace E_m0 := E_m0.keep K
  replace lt_ol := Nat.lt_of_lt_of_le lt_ol K.1
  replace A_ol := A_n
  have lt_dol := V_dol.lt
  refine X.pop (pc' := 131) at_130 rfl rfl ?_
  replace X := Wk_num X 27 115 (by decide) (by decide)
  exact k T h L ol dol _ X KK z_ol s_ol f_ol z_dol s_dol f_dol ne_ol_dol A_ol V_dol
set_option maxRecDepth 65536 in
set_option maxHeartbeats 40000000 in
theorem road_1 (l : Launch) (Z : State) (a0 : Array Value) (hw : ∀ d ∈ tables_1, d.before a0 Z = true) (z : Int32) (O2 : Sta Z Z.heap "java/lang/String" "COMPACT_STRINGS" "Z" (.int z)) (hz : ¬ z = 0) (d0 : Addr) (SD : Sta Z Z.heap "java/util/ArrayList" "DEFAULTCAPACITY_EMPTY_ELEMENTDATA" "[Ljava/lang/Object;" (.ref d0)) (VD : Emp Z Z.heap d0) (em : Addr) (SM : Sta Z Z.heap "java/util/ImmutableCollections" "EMPTY" "Ljava/lang/Object;" (.ref em)) (hem : em < Z.heap.size) (mo : Addr) (M_o : Mrr Z "[Ljava/lang/Object;" mo) {pg : Program} {ev : Env} {s : State} {m : MethodId} {args : Array Value} {below : List Frame} {meth : Method} {cd : Code} (p1 p2 p3 p4 p5 p6 : Int32)  (ol dol : Addr) (mc5 : Int32) {hf : Heap} (m0 dm0 x0 : Addr) (mc0 : Int32) (A_m0 : AL Z hf m0 (.ref dm0) (1 : Int32) mc0) (V_dm0 : OA Z hf dm0 10 [(.ref x0), (.null), (.null), (.null), (.null), (.null), (.null), (.null), (.null), (.null)]) (E_x0 : Exa Z hf x0 "java/lang/String") (m1 : Addr) (m2 : Addr) (mc2 : Int32) (A_m2 : AL Z hf m2 (.ref d0) (0 : Int32) mc2) (m3 : Addr) {T : State} {hb : Heap} {L : List Loc} (X : Wk false Z a0 [] "com/example/vertere/vertere/engine/AnswersGetPinLaw" code maxLocals ret "law" [] pg l ev room_1 s m args below meth cd s.vm T hb L 27 115) (KK : Keep hf hb []) (z_ol : Z.heap.size ≤ ol) (s_ol : s.heap.size ≤ ol) (f_ol : hf.size ≤ ol) (z_dol : Z.heap.size ≤ dol) (s_dol : s.heap.size ≤ dol) (f_dol : hf.size ≤ dol) (ne_ol_dol : ol ≠ dol) (A_ol : AL Z hb ol (.ref dol) (1 : Int32) mc5) (V_dol : OA Z hb dol 10 [(.ref m0), (.null), (.null), (.null), (.null), (.null), (.null), (.null), (.null), (.null)]) :
    Y.Ends pg ev below (GN Z [] (RV (fun w h => w = .int 1)) room_1 s) (T.setTop (mkF m 131 #[.val (.int p1), .val (.int p2), .val (.int p3), .val (.int p4), .val (.int p5), .val (.int p6), .val (.int (1 : Int32)), .val (.ref m0), .val (.ref m1), .val (.ref m2), .val (.ref m3), .val (.ref ol), .unset, .unset, .unset, .unset] [])) := by
  have lt_ol := A_ol.lt
  have lt_dol := V_dol.lt
  have E_m0 := A_m0.1.keep KK
  refine X.iload (pc' := 133) at_131 rfl rfl ?_
  refine X.iconst (pc' := 134) (1 : Int32) at_133 rfl rfl ?_
  refine X.icY (pc' := 145) at_134 (by decide) (by decide) (by decide) ?_
  refine X.iload (pc' := 147) at_145 rfl rfl ?_
  refine X.iconst (pc' := 148) (2 : Int32) at_147 rfl rfl ?_
  refine X.icY (pc' := 159) at_148 (by decide) (by decide) (by decide) ?_
  refine X.iload (pc' := 161) at_159 rfl rfl ?_
  refine X.iconst (pc' := 162) (3 : Int32) at_161 rfl rfl ?_
  refine X.icY (pc' := 173) at_162 (by decide) (by decide) (by decide) ?_
  have E_m2 := A_m2.1.keep KK
  refine X.newO (pc' := 176) (wd90 hw) (wd91 hw) (wd92 hw) at_173 (by decide) (by decide) rfl ?_
  intro T h an g_an Ex lt_an E_an D_an X1
  have z_an : Z.heap.size ≤ an := by rw [g_an]; exact X.old.1
  have s_an : s.heap.size ≤ an := by rw [g_an]; exact X.kp.1
  have f_an : hf.size ≤ an := by rw [g_an]; exact KK.1
  have ne_ol_an : ol ≠ an := Nat.ne_of_lt (by rw [g_an]; exact lt_ol)
  have ne_dol_an : dol ≠ an := Nat.ne_of_lt (by rw [g_an]; exact lt_dol)
  replace KK := KK.ext Ex
  replace lt_ol := Nat.lt_of_lt_of_le lt_ol Ex.1
  replace lt_dol := Nat.lt_of_lt_of_le lt_dol Ex.1
  replace A_ol := A_ol.ext Ex
  replace V_dol := V_dol.ext Ex
  replace E_m0 := E_m0.ext Ex
  replace E_m2 := E_m2.ext Ex
  replace X := X1
  have F_an_modCount : Fld Z h an "java/util/AbstractList" "modCount" "I" (.int (0 : Int32)) := D_an (Or.inl (wd98 hw)) (ty := .int) (by decide)
  have F_an_tuples : Fld Z h an "com/example/vertere/vertere/engine/Answers" "tuples" "Ljava/util/List;" .null := D_an (Or.inr (wd186 hw)) (ty := (.object "java/util/List")) (by decide)
  have F_an_consistent : Fld Z h an "com/example/vertere/vertere/engine/Answers" "consistent" "Z" (.int (0 : Int32)) := D_an (Or.inr (wd188 hw)) (ty := .boolean) (by decide)
  have F_an_contradiction : Fld Z h an "com/example/vertere/vertere/engine/Answers" "contradiction" "Ljava/util/Optional;" .null := D_an (Or.inr (wd190 hw)) (ty := (.object "java/util/Optional")) (by decide)
  refine X.dup (pc' := 177) at_176 rfl rfl ?_
  refine X.aload (pc' := 179) at_177 rfl rfl rfl ?_
  refine X.iload (pc' := 181) at_179 rfl rfl ?_
  refine X.iconst (pc' := 182) (1 : Int32) at_181 rfl rfl ?_
  refine X.iand (pc' := 183) at_182 rfl ?_
  have k191 : ∀ fl : Int32, ((fl = 0 ∧ (p6 &&& (1 : Int32)) = 0) ∨ (fl = 1 ∧ ¬ (p6 &&& (1 : Int32)) = 0)) → Y.Ends pg ev below (GN Z [] (RV (fun w h => w = .int 1)) room_1 s) (T.setTop (mkF m 191 #[.val (.int p1), .val (.int p2), .val (.int p3), .val (.int p4), .val (.int p5), .val (.int p6), .val (.int (1 : Int32)), .val (.ref m0), .val (.ref m1), .val (.ref m2), .val (.ref m3), .val (.ref ol), .unset, .unset, .unset, .unset] [(.int fl), (.ref ol), (.ref an), (.ref an)])) := by
    intro fl hb_fl
    refine X.aconstNull (pc' := 192) at_191 rfl ?_
    refine X.callU (pc' := 195) (X.sSpecial rfl (wd93 hw) (wd94 hw) (wd95 hw) (by decide) rfl pd20 [(.ref ol), (.int fl), .null] rfl rfl at_192) (rmAns_1 l Z a0 hw an ol _ _ X.old em SM hem mo M_o z_an E_an F_an_modCount F_an_tuples F_an_consistent F_an_contradiction dol ne_ol_an ne_dol_an _ A_ol m0 _ (wd89 hw) E_m0 V_dol (b01 (or01 hb_fl))) (wd95 hw) (wd92 hw) (leB rfl) (leB rfl) (leB rfl) (leB rfl) (sfS safeE sf0) (allS z_an all0) (allS (Or.inr s_an) all0) rfl ?_
    intro T h L X K q
    obtain ⟨u, le_u, E_an, F_an_tuples, U⟩ := q
    have f_u : hf.size ≤ u := Nat.le_trans KK.1 le_u
    have ne_ol_u : ol ≠ u := Nat.ne_of_lt (Nat.lt_of_lt_of_le lt_ol le_u)
    have ne_dol_u : dol ≠ u := Nat.ne_of_lt (Nat.lt_of_lt_of_le lt_dol le_u)
    have ne_an_u : an ≠ u := Nat.ne_of_lt (Nat.lt_of_lt_of_le lt_an le_u)
    replace KK := KK.trans K (allS (Or.inr f_an) all0)
    replace lt_ol := Nat.lt_of_lt_of_le lt_ol K.1
    replace lt_dol := Nat.lt_of_lt_of_le lt_dol K.1
    replace A_ol := A_ol.keep K (ninS ne_ol_an nin0)
    replace V_dol := V_dol.keep K (ninS ne_dol_an nin0)
    replace E_m0 := E_m0.keep K
    replace E_m2 := E_m2.keep K
    replace lt_an := Nat.lt_of_lt_of_le lt_an K.1
    refine X.astore (pc' := 197) #[.val (.int p1), .val (.int p2), .val (.int p3), .val (.int p4), .val (.int p5), .val (.int p6), .val (.int (1 : Int32)), .val (.ref m0), .val (.ref m1), .val (.ref m2), .val (.ref m3), .val (.ref ol), .val (.ref an), .unset, .unset, .unset] at_195 rfl rfl rfl ?_
    refine X.aload (pc' := 199) at_197 rfl rfl rfl ?_
    refine X.iconst (pc' := 200) (0 : Int32) at_199 rfl rfl ?_
    refine X.aload (pc' := 202) at_200 rfl rfl rfl ?_
    refine X.callV (pc' := 205) (X.sVirtual (wd191 hw) (wd192 hw) (wd194 hw) (wd193 hw) (by decide) rfl pd21 A_ol.1 [(.int (0 : Int32)), (.ref m2)] rfl rfl at_202 (X.nf (wd61 hw) rfl)) (rmSet l Z a0 hw ol (0 : Int32) m2 _ X.old dol _ _ A_ol 10 _ V_dol ⟨by decide, by decide⟩ (by decide) m0 rfl (show (0 : Int32).toNatClampNeg < 10 from by decide) z_dol _ (wd89 hw) E_m2) (wd195 hw) (wd2 hw) (leB rfl) (leB rfl) (leB rfl) (leB rfl) (sfS safeE sf0) (allS z_dol all0) (allS (Or.inr s_dol) all0) rfl ?_
    intro T h L v X K q
    obtain ⟨rfl, -⟩ := q
    replace KK := KK.trans K (allS (Or.inr f_dol) all0)
    replace lt_ol := Nat.lt_of_lt_of_le lt_ol K.1
    replace lt_dol := Nat.lt_of_lt_of_le lt_dol K.1
    replace A_ol := A_ol.keep K (ninS ne_ol_dol nin0)
    replace E_m0 := E_m0.keep K
    replace E_m2 := E_m2.keep K
    replace lt_an := Nat.lt_of_lt_of_le lt_an K.1
    replace E_an := E_an.keep K
    replace F_an_tuples := F_an_tuples.keep K (ninS (Ne.symm ne_dol_an) nin0)
    replace U := U.keep K (ninS (Ne.symm ne_dol_u) nin0)
    refine X.pop (pc' := 206) at_205 rfl rfl ?_
    refine X.iloadN (pc' := 207) at_206 rfl rfl ?_
    refine X.ldcI (pc' := 209) (wd208 hw) at_207 rfl ?_
    refine X.iand (pc' := 210) at_209 rfl ?_
    refine X.iload (pc' := 212) at_210 rfl rfl ?_
    refine X.irem (pc' := 213) at_212 (by decide) rfl ?_
    generalize hg_ix : ((p2 &&& (2147483647 : Int32)) % (1 : Int32)) = ix
    refine X.istore (pc' := 215) #[.val (.int p1), .val (.int p2), .val (.int p3), .val (.int p4), .val (.int p5), .val (.int p6), .val (.int (1 : Int32)), .val (.ref m0), .val (.ref m1), .val (.ref m2), .val (.ref m3), .val (.ref ol), .val (.ref an), .val (.int ix), .unset, .unset] at_213 rfl rfl ?_
    refine X.iload (pc' := 217) at_215 rfl rfl ?_
    have hix := ix1 (remN (by decide) hg_ix)
    have hi := hix
    obtain rfl : ix = (0 : Int32) := is_k hi
    refine X.ifN (pc' := 220) at_217 (by decide) rfl ?_
    refine X.aload (pc' := 222) at_220 rfl rfl rfl ?_
    refine X.goto (pc' := 249) at_222 (by decide) (by decide) ?_
    refine X.astore (pc' := 251) #[.val (.int p1), .val (.int p2), .val (.int p3), .val (.int p4), .val (.int p5), .val (.int p6), .val (.int (1 : Int32)), .val (.ref m0), .val (.ref m1), .val (.ref m2), .val (.ref m3), .val (.ref ol), .val (.ref an), .val (.int (0 : Int32)), .val (.ref m0), .unset] at_249 rfl rfl rfl ?_
    refine X.aload (pc' := 253) at_251 rfl rfl rfl ?_
    refine X.iload (pc' := 255) at_253 rfl rfl ?_
    refine X.callP (pc' := 258) (X.sVirtual (wd209 hw) (wd210 hw) (wd212 hw) (wd211 hw) (by decide) rfl pd22 E_an [(.int (0 : Int32))] rfl rfl at_255 (X.nf (wd212 hw) rfl)) (rmAG0 l Z a0 hw an _ X.old u F_an_tuples m0 E_m0 _ U) (wd213 hw) (wd92 hw) (leB rfl) (leB rfl) (leB rfl) (leB rfl) rfl ?_
    intro T L v X q
    subst q
    refine X.astore (pc' := 260) #[.val (.int p1), .val (.int p2), .val (.int p3), .val (.int p4), .val (.int p5), .val (.int p6), .val (.int (1 : Int32)), .val (.ref m0), .val (.ref m1), .val (.ref m2), .val (.ref m3), .val (.ref ol), .val (.ref an), .val (.int (0 : Int32)), .val (.ref m0), .val (.ref m0)] at_258 rfl rfl rfl ?_
    refine X.aload (pc' := 262) at_260 rfl rfl rfl ?_
    refine X.aload (pc' := 264) at_262 rfl rfl rfl ?_
    refine X.callP (pc' := 267) (X.sStatic (wd225 hw) (wd226 hw) (wd28 hw) (wd227 hw) (by decide) rfl pd23 [(.ref m0), (.ref m0)] rfl rfl at_264) (rmSame1 l Z a0 hw m0 _ X.old dm0 _ (A_m0.keep KK nin0) x0 (E_x0.keep KK) (V_dm0.keep KK nin0)) (wd227 hw) (wd28 hw) (leB rfl) (leB rfl) (leB rfl) (leB rfl) rfl ?_
    intro T L v X q
    subst q
    exact X.retIN (by simp) rfl at_267 (by decide) (by decide) ⟨_, rfl, rfl⟩
  by_cases hc191 : (p6 &&& (1 : Int32)) = 0
  · refine X.ifY (pc' := 190) at_183 ((if0 _ _).trans (teq hc191).1) (by decide) (by decide) ?_
    refine X.iconst (pc' := 191) (0 : Int32) at_190 rfl rfl ?_
    exact k191 _ (Or.inl ⟨rfl, hc191⟩)
  · refine X.ifN (pc' := 186) at_183 ((if0 _ _).trans (feq hc191).1) rfl ?_
    refine X.iconst (pc' := 187) (1 : Int32) at_186 rfl rfl ?_
    refine X.goto (pc' := 191) at_187 (by decide) (by decide) ?_
    exact k191 _ (Or.inr ⟨rfl, hc191⟩)
set_option maxRecDepth 65536 in
set_option maxHeartbeats 40000000 in
theorem road_2 (l : Launch) (Z : State) (a0 : Array Value) (hw : ∀ d ∈ tables_1, d.before a0 Z = true) (z : Int32) (O2 : Sta Z Z.heap "java/lang/String" "COMPACT_STRINGS" "Z" (.int z)) (hz : ¬ z = 0) (d0 : Addr) (SD : Sta Z Z.heap "java/util/ArrayList" "DEFAULTCAPACITY_EMPTY_ELEMENTDATA" "[Ljava/lang/Object;" (.ref d0)) (VD : Emp Z Z.heap d0) (em : Addr) (SM : Sta Z Z.heap "java/util/ImmutableCollections" "EMPTY" "Ljava/lang/Object;" (.ref em)) (hem : em < Z.heap.size) (mo : Addr) (M_o : Mrr Z "[Ljava/lang/Object;" mo) {pg : Program} {ev : Env} {s : State} {m : MethodId} {args : Array Value} {below : List Frame} {meth : Method} {cd : Code} (p1 p2 p3 p4 p5 p6 : Int32)  (ol dol : Addr) (mc5 : Int32) {hf : Heap} (m0 dm0 x0 : Addr) (mc0 : Int32) (A_m0 : AL Z hf m0 (.ref dm0) (1 : Int32) mc0) (V_dm0 : OA Z hf dm0 10 [(.ref x0), (.null), (.null), (.null), (.null), (.null), (.null), (.null), (.null), (.null)]) (E_x0 : Exa Z hf x0 "java/lang/String") (m1 dm1 x1 x2 : Addr) (mc1 : Int32) (A_m1 : AL Z hf m1 (.ref dm1) (2 : Int32) mc1) (V_dm1 : OA Z hf dm1 10 [(.ref x1), (.ref x2), (.null), (.null), (.null), (.null), (.null), (.null), (.null), (.null)]) (E_x1 : Exa Z hf x1 "java/lang/String") (E_x2 : Exa Z hf x2 "java/lang/String") (m2 : Addr) (mc2 : Int32) (A_m2 : AL Z hf m2 (.ref d0) (0 : Int32) mc2) (m3 : Addr) {T : State} {hb : Heap} {L : List Loc} (X : Wk false Z a0 [] "com/example/vertere/vertere/engine/AnswersGetPinLaw" code maxLocals ret "law" [] pg l ev room_1 s m args below meth cd s.vm T hb L 27 115) (KK : Keep hf hb []) (z_ol : Z.heap.size ≤ ol) (s_ol : s.heap.size ≤ ol) (f_ol : hf.size ≤ ol) (z_dol : Z.heap.size ≤ dol) (s_dol : s.heap.size ≤ dol) (f_dol : hf.size ≤ dol) (ne_ol_dol : ol ≠ dol) (A_ol : AL Z hb ol (.ref dol) (1 : Int32) mc5) (V_dol : OA Z hb dol 10 [(.ref m0), (.null), (.null), (.null), (.null), (.null), (.null), (.null), (.null), (.null)]) (z_m1 : Z.heap.size ≤ m1) :
    Y.Ends pg ev below (GN Z [] (RV (fun w h => w = .int 1)) room_1 s) (T.setTop (mkF m 131 #[.val (.int p1), .val (.int p2), .val (.int p3), .val (.int p4), .val (.int p5), .val (.int p6), .val (.int (2 : Int32)), .val (.ref m0), .val (.ref m1), .val (.ref m2), .val (.ref m3), .val (.ref ol), .unset, .unset, .unset, .unset] [])) := by
  have lt_ol := A_ol.lt
  have lt_dol := V_dol.lt
  have E_m0 := A_m0.1.keep KK
  refine X.iload (pc' := 133) at_131 rfl rfl ?_
  refine X.iconst (pc' := 134) (1 : Int32) at_133 rfl rfl ?_
  refine X.icN (pc' := 137) at_134 (by decide) rfl ?_
  refine X.aload (pc' := 139) at_137 rfl rfl rfl ?_
  refine X.aload (pc' := 141) at_139 rfl rfl rfl ?_
  have E_m1 := A_m1.1.keep KK
  obtain ⟨kt_dol, B_dol⟩ := V_dol.ty
  refine X.callV (pc' := 144) (X.sVirtual (wd58 hw) (wd59 hw) (wd61 hw) (wd60 hw) (by decide) rfl pd18 A_ol.1 [(.ref m1)] rfl rfl at_141 (X.nf (wd61 hw) rfl)) (rmAddN l Z a0 hw ol m1 _ X.old dol (1 : Int32) z_ol z_dol ne_ol_dol _ A_ol [(.ref m0), (.null), (.null), (.null), (.null), (.null), (.null), (.null), (.null), (.null)] rfl V_dol 1 rfl (by decide) ⟨by decide, by decide⟩ (by decide) _ (wd89 hw) E_m1) (wd62 hw) (wd2 hw) (leB rfl) (leB rfl) (leB rfl) (leB rfl) (sfS (Safe.exa X.al A_ol.1 (by decide) (by decide)) (sfS (V_dol.safe X.al) sf0)) (allS z_ol (allS z_dol all0)) (allS (Or.inr s_ol) (allS (Or.inr s_dol) all0)) rfl ?_
  intro T h L v X K q
  obtain ⟨rfl, A_n, V_n⟩ := q
  replace KK := KK.trans K (allS (Or.inr f_ol) (allS (Or.inr f_dol) all0))
  replace lt_ol := Nat.lt_of_lt_of_le lt_ol K.1
  replace lt_dol := Nat.lt_of_lt_of_le lt_dol K.1
  replace E_m0 := E_m0.keep K
  replace E_m1 := E_m1.keep K
  rw [show ((1 : Int32) + 1 : Int32) = (2 : Int32) from by decide] at A_n
  replace A_ol := A_n
  replace V_dol : OA Z h dol 10 [(.ref m0), (.ref m1), (.null), (.null), (.null), (.null), (.null), (.null), (.null), (.null)] := V_n
  refine X.pop (pc' := 145) at_144 rfl rfl ?_
  refine X.iload (pc' := 147) at_145 rfl rfl ?_
  refine X.iconst (pc' := 148) (2 : Int32) at_147 rfl rfl ?_
  refine X.icY (pc' := 159) at_148 (by decide) (by decide) (by decide) ?_
  refine X.iload (pc' := 161) at_159 rfl rfl ?_
  refine X.iconst (pc' := 162) (3 : Int32) at_161 rfl rfl ?_
  refine X.icY (pc' := 173) at_162 (by decide) (by decide) (by decide) ?_
  have E_m2 := A_m2.1.keep KK
  refine X.newO (pc' := 176) (wd90 hw) (wd91 hw) (wd92 hw) at_173 (by decide) (by decide) rfl ?_
  intro T h an g_an Ex lt_an E_an D_an X1
  have z_an : Z.heap.size ≤ an := by rw [g_an]; exact X.old.1
  have s_an : s.heap.size ≤ an := by rw [g_an]; exact X.kp.1
  have f_an : hf.size ≤ an := by rw [g_an]; exact KK.1
  have ne_ol_an : ol ≠ an := Nat.ne_of_lt (by rw [g_an]; exact lt_ol)
  have ne_dol_an : dol ≠ an := Nat.ne_of_lt (by rw [g_an]; exact lt_dol)
  replace KK := KK.ext Ex
  replace lt_ol := Nat.lt_of_lt_of_le lt_ol Ex.1
  replace lt_dol := Nat.lt_of_lt_of_le lt_dol Ex.1
  replace E_m0 := E_m0.ext Ex
  replace E_m1 := E_m1.ext Ex
  replace A_ol := A_ol.ext Ex
  replace V_dol := V_dol.ext Ex
  replace E_m2 := E_m2.ext Ex
  replace X := X1
  have F_an_modCount : Fld Z h an "java/util/AbstractList" "modCount" "I" (.int (0 : Int32)) := D_an (Or.inl (wd98 hw)) (ty := .int) (by decide)
  have F_an_tuples : Fld Z h an "com/example/vertere/vertere/engine/Answers" "tuples" "Ljava/util/List;" .null := D_an (Or.inr (wd186 hw)) (ty := (.object "java/util/List")) (by decide)
  have F_an_consistent : Fld Z h an "com/example/vertere/vertere/engine/Answers" "consistent" "Z" (.int (0 : Int32)) := D_an (Or.inr (wd188 hw)) (ty := .boolean) (by decide)
  have F_an_contradiction : Fld Z h an "com/example/vertere/vertere/engine/Answers" "contradiction" "Ljava/util/Optional;" .null := D_an (Or.inr (wd190 hw)) (ty := (.object "java/util/Optional")) (by decide)
  refine X.dup (pc' := 177) at_176 rfl rfl ?_
  refine X.aload (pc' := 179) at_177 rfl rfl rfl ?_
  refine X.iload (pc' := 181) at_179 rfl rfl ?_
  refine X.iconst (pc' := 182) (1 : Int32) at_181 rfl rfl ?_
  refine X.iand (pc' := 183) at_182 rfl ?_
  have k191 : ∀ fl : Int32, ((fl = 0 ∧ (p6 &&& (1 : Int32)) = 0) ∨ (fl = 1 ∧ ¬ (p6 &&& (1 : Int32)) = 0)) → Y.Ends pg ev below (GN Z [] (RV (fun w h => w = .int 1)) room_1 s) (T.setTop (mkF m 191 #[.val (.int p1), .val (.int p2), .val (.int p3), .val (.int p4), .val (.int p5), .val (.int p6), .val (.int (2 : Int32)), .val (.ref m0), .val (.ref m1), .val (.ref m2), .val (.ref m3), .val (.ref ol), .unset, .unset, .unset, .unset] [(.int fl), (.ref ol), (.ref an), (.ref an)])) := by
    intro fl hb_fl
    refine X.aconstNull (pc' := 192) at_191 rfl ?_
    refine X.callU (pc' := 195) (X.sSpecial rfl (wd93 hw) (wd94 hw) (wd95 hw) (by decide) rfl pd20 [(.ref ol), (.int fl), .null] rfl rfl at_192) (rmAns_2 l Z a0 hw an ol _ _ X.old em SM hem mo M_o z_an E_an F_an_modCount F_an_tuples F_an_consistent F_an_contradiction dol ne_ol_an ne_dol_an _ A_ol m0 _ (wd89 hw) E_m0 m1 _ (wd89 hw) E_m1 V_dol (b01 (or01 hb_fl))) (wd95 hw) (wd92 hw) (leB rfl) (leB rfl) (leB rfl) (leB rfl) (sfS safeE sf0) (allS z_an all0) (allS (Or.inr s_an) all0) rfl ?_
    intro T h L X K q
    obtain ⟨u, le_u, E_an, F_an_tuples, U⟩ := q
    have f_u : hf.size ≤ u := Nat.le_trans KK.1 le_u
    have ne_ol_u : ol ≠ u := Nat.ne_of_lt (Nat.lt_of_lt_of_le lt_ol le_u)
    have ne_dol_u : dol ≠ u := Nat.ne_of_lt (Nat.lt_of_lt_of_le lt_dol le_u)
    have ne_an_u : an ≠ u := Nat.ne_of_lt (Nat.lt_of_lt_of_le lt_an le_u)
    replace KK := KK.trans K (allS (Or.inr f_an) all0)
    replace lt_ol := Nat.lt_of_lt_of_le lt_ol K.1
    replace lt_dol := Nat.lt_of_lt_of_le lt_dol K.1
    replace E_m0 := E_m0.keep K
    replace E_m1 := E_m1.keep K
    replace A_ol := A_ol.keep K (ninS ne_ol_an nin0)
    replace V_dol := V_dol.keep K (ninS ne_dol_an nin0)
    replace E_m2 := E_m2.keep K
    replace lt_an := Nat.lt_of_lt_of_le lt_an K.1
    refine X.astore (pc' := 197) #[.val (.int p1), .val (.int p2), .val (.int p3), .val (.int p4), .val (.int p5), .val (.int p6), .val (.int (2 : Int32)), .val (.ref m0), .val (.ref m1), .val (.ref m2), .val (.ref m3), .val (.ref ol), .val (.ref an), .unset, .unset, .unset] at_195 rfl rfl rfl ?_
    refine X.aload (pc' := 199) at_197 rfl rfl rfl ?_
    refine X.iconst (pc' := 200) (0 : Int32) at_199 rfl rfl ?_
    refine X.aload (pc' := 202) at_200 rfl rfl rfl ?_
    refine X.callV (pc' := 205) (X.sVirtual (wd191 hw) (wd192 hw) (wd194 hw) (wd193 hw) (by decide) rfl pd21 A_ol.1 [(.int (0 : Int32)), (.ref m2)] rfl rfl at_202 (X.nf (wd61 hw) rfl)) (rmSet l Z a0 hw ol (0 : Int32) m2 _ X.old dol _ _ A_ol 10 _ V_dol ⟨by decide, by decide⟩ (by decide) m0 rfl (show (0 : Int32).toNatClampNeg < 10 from by decide) z_dol _ (wd89 hw) E_m2) (wd195 hw) (wd2 hw) (leB rfl) (leB rfl) (leB rfl) (leB rfl) (sfS safeE sf0) (allS z_dol all0) (allS (Or.inr s_dol) all0) rfl ?_
    intro T h L v X K q
    obtain ⟨rfl, -⟩ := q
    replace KK := KK.trans K (allS (Or.inr f_dol) all0)
    replace lt_ol := Nat.lt_of_lt_of_le lt_ol K.1
    replace lt_dol := Nat.lt_of_lt_of_le lt_dol K.1
    replace E_m0 := E_m0.keep K
    replace E_m1 := E_m1.keep K
    replace A_ol := A_ol.keep K (ninS ne_ol_dol nin0)
    replace E_m2 := E_m2.keep K
    replace lt_an := Nat.lt_of_lt_of_le lt_an K.1
    replace E_an := E_an.keep K
    replace F_an_tuples := F_an_tuples.keep K (ninS (Ne.symm ne_dol_an) nin0)
    replace U := U.keep K (ninS (Ne.symm ne_dol_u) nin0)
    refine X.pop (pc' := 206) at_205 rfl rfl ?_
    refine X.iloadN (pc' := 207) at_206 rfl rfl ?_
    refine X.ldcI (pc' := 209) (wd208 hw) at_207 rfl ?_
    refine X.iand (pc' := 210) at_209 rfl ?_
    refine X.iload (pc' := 212) at_210 rfl rfl ?_
    refine X.irem (pc' := 213) at_212 (by decide) rfl ?_
    generalize hg_ix : ((p2 &&& (2147483647 : Int32)) % (2 : Int32)) = ix
    refine X.istore (pc' := 215) #[.val (.int p1), .val (.int p2), .val (.int p3), .val (.int p4), .val (.int p5), .val (.int p6), .val (.int (2 : Int32)), .val (.ref m0), .val (.ref m1), .val (.ref m2), .val (.ref m3), .val (.ref ol), .val (.ref an), .val (.int ix), .unset, .unset] at_213 rfl rfl ?_
    refine X.iload (pc' := 217) at_215 rfl rfl ?_
    have hix := ix2 (remN (by decide) hg_ix)
    rcases hix with hi | hi
    · obtain rfl : ix = (0 : Int32) := is_k hi
      refine X.ifN (pc' := 220) at_217 (by decide) rfl ?_
      refine X.aload (pc' := 222) at_220 rfl rfl rfl ?_
      refine X.goto (pc' := 249) at_222 (by decide) (by decide) ?_
      refine X.astore (pc' := 251) #[.val (.int p1), .val (.int p2), .val (.int p3), .val (.int p4), .val (.int p5), .val (.int p6), .val (.int (2 : Int32)), .val (.ref m0), .val (.ref m1), .val (.ref m2), .val (.ref m3), .val (.ref ol), .val (.ref an), .val (.int (0 : Int32)), .val (.ref m0), .unset] at_249 rfl rfl rfl ?_
      refine X.aload (pc' := 253) at_251 rfl rfl rfl ?_
      refine X.iload (pc' := 255) at_253 rfl rfl ?_
      refine X.callP (pc' := 258) (X.sVirtual (wd209 hw) (wd210 hw) (wd212 hw) (wd211 hw) (by decide) rfl pd22 E_an [(.int (0 : Int32))] rfl rfl at_255 (X.nf (wd212 hw) rfl)) (rmAG0 l Z a0 hw an _ X.old u F_an_tuples m0 E_m0 _ U) (wd213 hw) (wd92 hw) (leB rfl) (leB rfl) (leB rfl) (leB rfl) rfl ?_
      intro T L v X q
      subst q
      refine X.astore (pc' := 260) #[.val (.int p1), .val (.int p2), .val (.int p3), .val (.int p4), .val (.int p5), .val (.int p6), .val (.int (2 : Int32)), .val (.ref m0), .val (.ref m1), .val (.ref m2), .val (.ref m3), .val (.ref ol), .val (.ref an), .val (.int (0 : Int32)), .val (.ref m0), .val (.ref m0)] at_258 rfl rfl rfl ?_
      refine X.aload (pc' := 262) at_260 rfl rfl rfl ?_
      refine X.aload (pc' := 264) at_262 rfl rfl rfl ?_
      refine X.callP (pc' := 267) (X.sStatic (wd225 hw) (wd226 hw) (wd28 hw) (wd227 hw) (by decide) rfl pd23 [(.ref m0), (.ref m0)] rfl rfl at_264) (rmSame1 l Z a0 hw m0 _ X.old dm0 _ (A_m0.keep KK nin0) x0 (E_x0.keep KK) (V_dm0.keep KK nin0)) (wd227 hw) (wd28 hw) (leB rfl) (leB rfl) (leB rfl) (leB rfl) rfl ?_
      intro T L v X q
      subst q
      exact X.retIN (by simp) rfl at_267 (by decide) (by decide) ⟨_, rfl, rfl⟩
    · obtain rfl : ix = (1 : Int32) := is_k hi
      refine X.ifY (pc' := 225) at_217 (by decide) (by decide) (by decide) ?_
      refine X.iload (pc' := 227) at_225 rfl rfl ?_
      refine X.iconst (pc' := 228) (1 : Int32) at_227 rfl rfl ?_
      refine X.icN (pc' := 231) at_228 (by decide) rfl ?_
      refine X.aload (pc' := 233) at_231 rfl rfl rfl ?_
      refine X.goto (pc' := 249) at_233 (by decide) (by decide) ?_
      refine X.astore (pc' := 251) #[.val (.int p1), .val (.int p2), .val (.int p3), .val (.int p4), .val (.int p5), .val (.int p6), .val (.int (2 : Int32)), .val (.ref m0), .val (.ref m1), .val (.ref m2), .val (.ref m3), .val (.ref ol), .val (.ref an), .val (.int (1 : Int32)), .val (.ref m1), .unset] at_249 rfl rfl rfl ?_
      refine X.aload (pc' := 253) at_251 rfl rfl rfl ?_
      refine X.iload (pc' := 255) at_253 rfl rfl ?_
      refine X.callP (pc' := 258) (X.sVirtual (wd209 hw) (wd210 hw) (wd212 hw) (wd211 hw) (by decide) rfl pd22 E_an [(.int (1 : Int32))] rfl rfl at_255 (X.nf (wd212 hw) rfl)) (rmAG1 l Z a0 hw an _ X.old u F_an_tuples m1 E_m1 em SM hem _ (Ne.symm (Nat.ne_of_lt (Nat.lt_of_lt_of_le hem z_m1))) U) (wd213 hw) (wd92 hw) (leB rfl) (leB rfl) (leB rfl) (leB rfl) rfl ?_
      intro T L v X q
      subst q
      refine X.astore (pc' := 260) #[.val (.int p1), .val (.int p2), .val (.int p3), .val (.int p4), .val (.int p5), .val (.int p6), .val (.int (2 : Int32)), .val (.ref m0), .val (.ref m1), .val (.ref m2), .val (.ref m3), .val (.ref ol), .val (.ref an), .val (.int (1 : Int32)), .val (.ref m1), .val (.ref m1)] at_258 rfl rfl rfl ?_
      refine X.aload (pc' := 262) at_260 rfl rfl rfl ?_
      refine X.aload (pc' := 264) at_262 rfl rfl rfl ?_
      refine X.callP (pc' := 267) (X.sStatic (wd225 hw) (wd226 hw) (wd28 hw) (wd227 hw) (by decide) rfl pd23 [(.ref m1), (.ref m1)] rfl rfl at_264) (rmSame2 l Z a0 hw m1 _ X.old dm1 _ (A_m1.keep KK nin0) x1 (E_x1.keep KK) x2 (E_x2.keep KK) (V_dm1.keep KK nin0)) (wd227 hw) (wd28 hw) (leB rfl) (leB rfl) (leB rfl) (leB rfl) rfl ?_
      intro T L v X q
      subst q
      exact X.retIN (by simp) rfl at_267 (by decide) (by decide) ⟨_, rfl, rfl⟩
  by_cases hc191 : (p6 &&& (1 : Int32)) = 0
  · refine X.ifY (pc' := 190) at_183 ((if0 _ _).trans (teq hc191).1) (by decide) (by decide) ?_
    refine X.iconst (pc' := 191) (0 : Int32) at_190 rfl rfl ?_
    exact k191 _ (Or.inl ⟨rfl, hc191⟩)
  · refine X.ifN (pc' := 186) at_183 ((if0 _ _).trans (feq hc191).1) rfl ?_
    refine X.iconst (pc' := 187) (1 : Int32) at_186 rfl rfl ?_
    refine X.goto (pc' := 191) at_187 (by decide) (by decide) ?_
    exact k191 _ (Or.inr ⟨rfl, hc191⟩)
set_option maxRecDepth 65536 in
set_option maxHeartbeats 40000000 in
theorem road_3 (l : Launch) (Z : State) (a0 : Array Value) (hw : ∀ d ∈ tables_1, d.before a0 Z = true) (z : Int32) (O2 : Sta Z Z.heap "java/lang/String" "COMPACT_STRINGS" "Z" (.int z)) (hz : ¬ z = 0) (d0 : Addr) (SD : Sta Z Z.heap "java/util/ArrayList" "DEFAULTCAPACITY_EMPTY_ELEMENTDATA" "[Ljava/lang/Object;" (.ref d0)) (VD : Emp Z Z.heap d0) (em : Addr) (SM : Sta Z Z.heap "java/util/ImmutableCollections" "EMPTY" "Ljava/lang/Object;" (.ref em)) (hem : em < Z.heap.size) (mo : Addr) (M_o : Mrr Z "[Ljava/lang/Object;" mo) {pg : Program} {ev : Env} {s : State} {m : MethodId} {args : Array Value} {below : List Frame} {meth : Method} {cd : Code} (p1 p2 p3 p4 p5 p6 : Int32)  (ol dol : Addr) (mc5 : Int32) {hf : Heap} (m0 dm0 x0 : Addr) (mc0 : Int32) (A_m0 : AL Z hf m0 (.ref dm0) (1 : Int32) mc0) (V_dm0 : OA Z hf dm0 10 [(.ref x0), (.null), (.null), (.null), (.null), (.null), (.null), (.null), (.null), (.null)]) (E_x0 : Exa Z hf x0 "java/lang/String") (m1 dm1 x1 x2 : Addr) (mc1 : Int32) (A_m1 : AL Z hf m1 (.ref dm1) (2 : Int32) mc1) (V_dm1 : OA Z hf dm1 10 [(.ref x1), (.ref x2), (.null), (.null), (.null), (.null), (.null), (.null), (.null), (.null)]) (E_x1 : Exa Z hf x1 "java/lang/String") (E_x2 : Exa Z hf x2 "java/lang/String") (m2 : Addr) (mc2 : Int32) (A_m2 : AL Z hf m2 (.ref d0) (0 : Int32) mc2) (m3 : Addr) {T : State} {hb : Heap} {L : List Loc} (X : Wk false Z a0 [] "com/example/vertere/vertere/engine/AnswersGetPinLaw" code maxLocals ret "law" [] pg l ev room_1 s m args below meth cd s.vm T hb L 27 115) (KK : Keep hf hb []) (z_ol : Z.heap.size ≤ ol) (s_ol : s.heap.size ≤ ol) (f_ol : hf.size ≤ ol) (z_dol : Z.heap.size ≤ dol) (s_dol : s.heap.size ≤ dol) (f_dol : hf.size ≤ dol) (ne_ol_dol : ol ≠ dol) (A_ol : AL Z hb ol (.ref dol) (1 : Int32) mc5) (V_dol : OA Z hb dol 10 [(.ref m0), (.null), (.null), (.null), (.null), (.null), (.null), (.null), (.null), (.null)]) :
    Y.Ends pg ev below (GN Z [] (RV (fun w h => w = .int 1)) room_1 s) (T.setTop (mkF m 131 #[.val (.int p1), .val (.int p2), .val (.int p3), .val (.int p4), .val (.int p5), .val (.int p6), .val (.int (3 : Int32)), .val (.ref m0), .val (.ref m1), .val (.ref m2), .val (.ref m3), .val (.ref ol), .unset, .unset, .unset, .unset] [])) := by
  have lt_ol := A_ol.lt
  have lt_dol := V_dol.lt
  have E_m0 := A_m0.1.keep KK
  refine X.iload (pc' := 133) at_131 rfl rfl ?_
  refine X.iconst (pc' := 134) (1 : Int32) at_133 rfl rfl ?_
  refine X.icN (pc' := 137) at_134 (by decide) rfl ?_
  refine X.aload (pc' := 139) at_137 rfl rfl rfl ?_
  refine X.aload (pc' := 141) at_139 rfl rfl rfl ?_
  have E_m1 := A_m1.1.keep KK
  obtain ⟨kt_dol, B_dol⟩ := V_dol.ty
  refine X.callV (pc' := 144) (X.sVirtual (wd58 hw) (wd59 hw) (wd61 hw) (wd60 hw) (by decide) rfl pd18 A_ol.1 [(.ref m1)] rfl rfl at_141 (X.nf (wd61 hw) rfl)) (rmAddN l Z a0 hw ol m1 _ X.old dol (1 : Int32) z_ol z_dol ne_ol_dol _ A_ol [(.ref m0), (.null), (.null), (.null), (.null), (.null), (.null), (.null), (.null), (.null)] rfl V_dol 1 rfl (by decide) ⟨by decide, by decide⟩ (by decide) _ (wd89 hw) E_m1) (wd62 hw) (wd2 hw) (leB rfl) (leB rfl) (leB rfl) (leB rfl) (sfS (Safe.exa X.al A_ol.1 (by decide) (by decide)) (sfS (V_dol.safe X.al) sf0)) (allS z_ol (allS z_dol all0)) (allS (Or.inr s_ol) (allS (Or.inr s_dol) all0)) rfl ?_
  intro T h L v X K q
  obtain ⟨rfl, A_n, V_n⟩ := q
  replace KK := KK.trans K (allS (Or.inr f_ol) (allS (Or.inr f_dol) all0))
  replace lt_ol := Nat.lt_of_lt_of_le lt_ol K.1
  replace lt_dol := Nat.lt_of_lt_of_le lt_dol K.1
  replace E_m0 := E_m0.keep K
  replace E_m1 := E_m1.keep K
  rw [show ((1 : Int32) + 1 : Int32) = (2 : Int32) from by decide] at A_n
  replace A_ol := A_n
  replace V_dol : OA Z h dol 10 [(.ref m0), (.ref m1), (.null), (.null), (.null), (.null), (.null), (.null), (.null), (.null)] := V_n
  refine X.pop (pc' := 145) at_144 rfl rfl ?_
  refine X.iload (pc' := 147) at_145 rfl rfl ?_
  refine X.iconst (pc' := 148) (2 : Int32) at_147 rfl rfl ?_
  refine X.icN (pc' := 151) at_148 (by decide) rfl ?_
  refine X.aload (pc' := 153) at_151 rfl rfl rfl ?_
  refine X.aload (pc' := 155) at_153 rfl rfl rfl ?_
  have E_m2 := A_m2.1.keep KK
  obtain ⟨kt_dol, B_dol⟩ := V_dol.ty
  refine X.callV (pc' := 158) (X.sVirtual (wd58 hw) (wd59 hw) (wd61 hw) (wd60 hw) (by decide) rfl pd18 A_ol.1 [(.ref m2)] rfl rfl at_155 (X.nf (wd61 hw) rfl)) (rmAddN l Z a0 hw ol m2 _ X.old dol (2 : Int32) z_ol z_dol ne_ol_dol _ A_ol [(.ref m0), (.ref m1), (.null), (.null), (.null), (.null), (.null), (.null), (.null), (.null)] rfl V_dol 2 rfl (by decide) ⟨by decide, by decide⟩ (by decide) _ (wd89 hw) E_m2) (wd62 hw) (wd2 hw) (leB rfl) (leB rfl) (leB rfl) (leB rfl) (sfS (Safe.exa X.al A_ol.1 (by decide) (by decide)) (sfS (V_dol.safe X.al) sf0)) (allS z_ol (allS z_dol all0)) (allS (Or.inr s_ol) (allS (Or.inr s_dol) all0)) rfl ?_
  intro T h L v X K q
  obtain ⟨rfl, A_n, V_n⟩ := q
  replace KK := KK.trans K (allS (Or.inr f_ol) (allS (Or.inr f_dol) all0))
  replace lt_ol := Nat.lt_of_lt_of_le lt_ol K.1
  replace lt_dol := Nat.lt_of_lt_of_le lt_dol K.1
  replace E_m0 := E_m0.keep K
  replace E_m1 := E_m1.keep K
  replace E_m2 := E_m2.keep K
  rw [show ((2 : Int32) + 1 : Int32) = (3 : Int32) from by decide] at A_n
  replace A_ol := A_n
  replace V_dol : OA Z h dol 10 [(.ref m0), (.ref m1), (.ref m2), (.null), (.null), (.null), (.null), (.null), (.null), (.null)] := V_n
  refine X.pop (pc' := 159) at_158 rfl rfl ?_
  refine X.iload (pc' := 161) at_159 rfl rfl ?_
  refine X.iconst (pc' := 162) (3 : Int32) at_161 rfl rfl ?_
  refine X.icY (pc' := 173) at_162 (by decide) (by decide) (by decide) ?_
  refine X.newO (pc' := 176) (wd90 hw) (wd91 hw) (wd92 hw) at_173 (by decide) (by decide) rfl ?_
  intro T h an g_an Ex lt_an E_an D_an X1
  have z_an : Z.heap.size ≤ an := by rw [g_an]; exact X.old.1
  have s_an : s.heap.size ≤ an := by rw [g_an]; exact X.kp.1
  have f_an : hf.size ≤ an := by rw [g_an]; exact KK.1
  have ne_ol_an : ol ≠ an := Nat.ne_of_lt (by rw [g_an]; exact lt_ol)
  have ne_dol_an : dol ≠ an := Nat.ne_of_lt (by rw [g_an]; exact lt_dol)
  replace KK := KK.ext Ex
  replace lt_ol := Nat.lt_of_lt_of_le lt_ol Ex.1
  replace lt_dol := Nat.lt_of_lt_of_le lt_dol Ex.1
  replace E_m0 := E_m0.ext Ex
  replace E_m1 := E_m1.ext Ex
  replace E_m2 := E_m2.ext Ex
  replace A_ol := A_ol.ext Ex
  replace V_dol := V_dol.ext Ex
  replace X := X1
  have F_an_modCount : Fld Z h an "java/util/AbstractList" "modCount" "I" (.int (0 : Int32)) := D_an (Or.inl (wd98 hw)) (ty := .int) (by decide)
  have F_an_tuples : Fld Z h an "com/example/vertere/vertere/engine/Answers" "tuples" "Ljava/util/List;" .null := D_an (Or.inr (wd186 hw)) (ty := (.object "java/util/List")) (by decide)
  have F_an_consistent : Fld Z h an "com/example/vertere/vertere/engine/Answers" "consistent" "Z" (.int (0 : Int32)) := D_an (Or.inr (wd188 hw)) (ty := .boolean) (by decide)
  have F_an_contradiction : Fld Z h an "com/example/vertere/vertere/engine/Answers" "contradiction" "Ljava/util/Optional;" .null := D_an (Or.inr (wd190 hw)) (ty := (.object "java/util/Optional")) (by decide)
  refine X.dup (pc' := 177) at_176 rfl rfl ?_
  refine X.aload (pc' := 179) at_177 rfl rfl rfl ?_
  refine X.iload (pc' := 181) at_179 rfl rfl ?_
  refine X.iconst (pc' := 182) (1 : Int32) at_181 rfl rfl ?_
  refine X.iand (pc' := 183) at_182 rfl ?_
  have k191 : ∀ fl : Int32, ((fl = 0 ∧ (p6 &&& (1 : Int32)) = 0) ∨ (fl = 1 ∧ ¬ (p6 &&& (1 : Int32)) = 0)) → Y.Ends pg ev below (GN Z [] (RV (fun w h => w = .int 1)) room_1 s) (T.setTop (mkF m 191 #[.val (.int p1), .val (.int p2), .val (.int p3), .val (.int p4), .val (.int p5), .val (.int p6), .val (.int (3 : Int32)), .val (.ref m0), .val (.ref m1), .val (.ref m2), .val (.ref m3), .val (.ref ol), .unset, .unset, .unset, .unset] [(.int fl), (.ref ol), (.ref an), (.ref an)])) := by
    intro fl hb_fl
    refine X.aconstNull (pc' := 192) at_191 rfl ?_
    refine X.callU (pc' := 195) (X.sSpecial rfl (wd93 hw) (wd94 hw) (wd95 hw) (by decide) rfl pd20 [(.ref ol), (.int fl), .null] rfl rfl at_192) (rmAns_3 l Z a0 hw an ol _ _ X.old em SM hem mo M_o z_an E_an F_an_modCount F_an_tuples F_an_consistent F_an_contradiction dol ne_ol_an ne_dol_an _ A_ol m0 _ (wd89 hw) E_m0 m1 _ (wd89 hw) E_m1 m2 _ (wd89 hw) E_m2 V_dol (b01 (or01 hb_fl))) (wd95 hw) (wd92 hw) (leB rfl) (leB rfl) (leB rfl) (leB rfl) (sfS safeE sf0) (allS z_an all0) (allS (Or.inr s_an) all0) rfl ?_
    intro T h L X K q
    obtain ⟨u, le_u, E_an, F_an_tuples, U⟩ := q
    have f_u : hf.size ≤ u := Nat.le_trans KK.1 le_u
    have ne_ol_u : ol ≠ u := Nat.ne_of_lt (Nat.lt_of_lt_of_le lt_ol le_u)
    have ne_dol_u : dol ≠ u := Nat.ne_of_lt (Nat.lt_of_lt_of_le lt_dol le_u)
    have ne_an_u : an ≠ u := Nat.ne_of_lt (Nat.lt_of_lt_of_le lt_an le_u)
    obtain ⟨E_u, el, neu, lo_el, F_u_el, V_el⟩ := U
    have nel : el ≠ dol := (Nat.ne_of_lt (Nat.lt_of_lt_of_le lt_dol lo_el)).symm
    replace KK := KK.trans K (allS (Or.inr f_an) all0)
    replace lt_ol := Nat.lt_of_lt_of_le lt_ol K.1
    replace lt_dol := Nat.lt_of_lt_of_le lt_dol K.1
    replace E_m0 := E_m0.keep K
    replace E_m1 := E_m1.keep K
    replace E_m2 := E_m2.keep K
    replace A_ol := A_ol.keep K (ninS ne_ol_an nin0)
    replace V_dol := V_dol.keep K (ninS ne_dol_an nin0)
    replace lt_an := Nat.lt_of_lt_of_le lt_an K.1
    refine X.astore (pc' := 197) #[.val (.int p1), .val (.int p2), .val (.int p3), .val (.int p4), .val (.int p5), .val (.int p6), .val (.int (3 : Int32)), .val (.ref m0), .val (.ref m1), .val (.ref m2), .val (.ref m3), .val (.ref ol), .val (.ref an), .unset, .unset, .unset] at_195 rfl rfl rfl ?_
    refine X.aload (pc' := 199) at_197 rfl rfl rfl ?_
    refine X.iconst (pc' := 200) (0 : Int32) at_199 rfl rfl ?_
    refine X.aload (pc' := 202) at_200 rfl rfl rfl ?_
    refine X.callV (pc' := 205) (X.sVirtual (wd191 hw) (wd192 hw) (wd194 hw) (wd193 hw) (by decide) rfl pd21 A_ol.1 [(.int (0 : Int32)), (.ref m2)] rfl rfl at_202 (X.nf (wd61 hw) rfl)) (rmSet l Z a0 hw ol (0 : Int32) m2 _ X.old dol _ _ A_ol 10 _ V_dol ⟨by decide, by decide⟩ (by decide) m0 rfl (show (0 : Int32).toNatClampNeg < 10 from by decide) z_dol _ (wd89 hw) E_m2) (wd195 hw) (wd2 hw) (leB rfl) (leB rfl) (leB rfl) (leB rfl) (sfS safeE sf0) (allS z_dol all0) (allS (Or.inr s_dol) all0) rfl ?_
    intro T h L v X K q
    obtain ⟨rfl, -⟩ := q
    replace KK := KK.trans K (allS (Or.inr f_dol) all0)
    replace lt_ol := Nat.lt_of_lt_of_le lt_ol K.1
    replace lt_dol := Nat.lt_of_lt_of_le lt_dol K.1
    replace E_m0 := E_m0.keep K
    replace E_m1 := E_m1.keep K
    replace E_m2 := E_m2.keep K
    replace A_ol := A_ol.keep K (ninS ne_ol_dol nin0)
    replace lt_an := Nat.lt_of_lt_of_le lt_an K.1
    replace E_an := E_an.keep K
    replace F_an_tuples := F_an_tuples.keep K (ninS (Ne.symm ne_dol_an) nin0)
    replace E_u := E_u.keep K
    replace F_u_el := F_u_el.keep K (ninS (Ne.symm ne_dol_u) nin0)
    replace V_el := V_el.keep K (ninS nel nin0)
    refine X.pop (pc' := 206) at_205 rfl rfl ?_
    refine X.iloadN (pc' := 207) at_206 rfl rfl ?_
    refine X.ldcI (pc' := 209) (wd208 hw) at_207 rfl ?_
    refine X.iand (pc' := 210) at_209 rfl ?_
    refine X.iload (pc' := 212) at_210 rfl rfl ?_
    refine X.irem (pc' := 213) at_212 (by decide) rfl ?_
    generalize hg_ix : ((p2 &&& (2147483647 : Int32)) % (3 : Int32)) = ix
    refine X.istore (pc' := 215) #[.val (.int p1), .val (.int p2), .val (.int p3), .val (.int p4), .val (.int p5), .val (.int p6), .val (.int (3 : Int32)), .val (.ref m0), .val (.ref m1), .val (.ref m2), .val (.ref m3), .val (.ref ol), .val (.ref an), .val (.int ix), .unset, .unset] at_213 rfl rfl ?_
    refine X.iload (pc' := 217) at_215 rfl rfl ?_
    have hix := ix3 (remN (by decide) hg_ix)
    rcases hix with hi | hi | hi
    · obtain rfl : ix = (0 : Int32) := is_k hi
      refine X.ifN (pc' := 220) at_217 (by decide) rfl ?_
      refine X.aload (pc' := 222) at_220 rfl rfl rfl ?_
      refine X.goto (pc' := 249) at_222 (by decide) (by decide) ?_
      refine X.astore (pc' := 251) #[.val (.int p1), .val (.int p2), .val (.int p3), .val (.int p4), .val (.int p5), .val (.int p6), .val (.int (3 : Int32)), .val (.ref m0), .val (.ref m1), .val (.ref m2), .val (.ref m3), .val (.ref ol), .val (.ref an), .val (.int (0 : Int32)), .val (.ref m0), .unset] at_249 rfl rfl rfl ?_
      refine X.aload (pc' := 253) at_251 rfl rfl rfl ?_
      refine X.iload (pc' := 255) at_253 rfl rfl ?_
      refine X.callP (pc' := 258) (X.sVirtual (wd209 hw) (wd210 hw) (wd212 hw) (wd211 hw) (by decide) rfl pd22 E_an [(.int (0 : Int32))] rfl rfl at_255 (X.nf (wd212 hw) rfl)) (rmAGN l Z a0 hw an (0 : Int32) _ X.old u F_an_tuples m0 E_m0 (3 : Int32) _ 0 ⟨E_u, el, neu, Nat.zero_le _, F_u_el, V_el⟩ ⟨by decide, by decide⟩ rfl) (wd213 hw) (wd92 hw) (leB rfl) (leB rfl) (leB rfl) (leB rfl) rfl ?_
      intro T L v X q
      subst q
      refine X.astore (pc' := 260) #[.val (.int p1), .val (.int p2), .val (.int p3), .val (.int p4), .val (.int p5), .val (.int p6), .val (.int (3 : Int32)), .val (.ref m0), .val (.ref m1), .val (.ref m2), .val (.ref m3), .val (.ref ol), .val (.ref an), .val (.int (0 : Int32)), .val (.ref m0), .val (.ref m0)] at_258 rfl rfl rfl ?_
      refine X.aload (pc' := 262) at_260 rfl rfl rfl ?_
      refine X.aload (pc' := 264) at_262 rfl rfl rfl ?_
      refine X.callP (pc' := 267) (X.sStatic (wd225 hw) (wd226 hw) (wd28 hw) (wd227 hw) (by decide) rfl pd23 [(.ref m0), (.ref m0)] rfl rfl at_264) (rmSame1 l Z a0 hw m0 _ X.old dm0 _ (A_m0.keep KK nin0) x0 (E_x0.keep KK) (V_dm0.keep KK nin0)) (wd227 hw) (wd28 hw) (leB rfl) (leB rfl) (leB rfl) (leB rfl) rfl ?_
      intro T L v X q
      subst q
      exact X.retIN (by simp) rfl at_267 (by decide) (by decide) ⟨_, rfl, rfl⟩
    · obtain rfl : ix = (1 : Int32) := is_k hi
      refine X.ifY (pc' := 225) at_217 (by decide) (by decide) (by decide) ?_
      refine X.iload (pc' := 227) at_225 rfl rfl ?_
      refine X.iconst (pc' := 228) (1 : Int32) at_227 rfl rfl ?_
      refine X.icN (pc' := 231) at_228 (by decide) rfl ?_
      refine X.aload (pc' := 233) at_231 rfl rfl rfl ?_
      refine X.goto (pc' := 249) at_233 (by decide) (by decide) ?_
      refine X.astore (pc' := 251) #[.val (.int p1), .val (.int p2), .val (.int p3), .val (.int p4), .val (.int p5), .val (.int p6), .val (.int (3 : Int32)), .val (.ref m0), .val (.ref m1), .val (.ref m2), .val (.ref m3), .val (.ref ol), .val (.ref an), .val (.int (1 : Int32)), .val (.ref m1), .unset] at_249 rfl rfl rfl ?_
      refine X.aload (pc' := 253) at_251 rfl rfl rfl ?_
      refine X.iload (pc' := 255) at_253 rfl rfl ?_
      refine X.callP (pc' := 258) (X.sVirtual (wd209 hw) (wd210 hw) (wd212 hw) (wd211 hw) (by decide) rfl pd22 E_an [(.int (1 : Int32))] rfl rfl at_255 (X.nf (wd212 hw) rfl)) (rmAGN l Z a0 hw an (1 : Int32) _ X.old u F_an_tuples m1 E_m1 (3 : Int32) _ 0 ⟨E_u, el, neu, Nat.zero_le _, F_u_el, V_el⟩ ⟨by decide, by decide⟩ rfl) (wd213 hw) (wd92 hw) (leB rfl) (leB rfl) (leB rfl) (leB rfl) rfl ?_
      intro T L v X q
      subst q
      refine X.astore (pc' := 260) #[.val (.int p1), .val (.int p2), .val (.int p3), .val (.int p4), .val (.int p5), .val (.int p6), .val (.int (3 : Int32)), .val (.ref m0), .val (.ref m1), .val (.ref m2), .val (.ref m3), .val (.ref ol), .val (.ref an), .val (.int (1 : Int32)), .val (.ref m1), .val (.ref m1)] at_258 rfl rfl rfl ?_
      refine X.aload (pc' := 262) at_260 rfl rfl rfl ?_
      refine X.aload (pc' := 264) at_262 rfl rfl rfl ?_
      refine X.callP (pc' := 267) (X.sStatic (wd225 hw) (wd226 hw) (wd28 hw) (wd227 hw) (by decide) rfl pd23 [(.ref m1), (.ref m1)] rfl rfl at_264) (rmSame2 l Z a0 hw m1 _ X.old dm1 _ (A_m1.keep KK nin0) x1 (E_x1.keep KK) x2 (E_x2.keep KK) (V_dm1.keep KK nin0)) (wd227 hw) (wd28 hw) (leB rfl) (leB rfl) (leB rfl) (leB rfl) rfl ?_
      intro T L v X q
      subst q
      exact X.retIN (by simp) rfl at_267 (by decide) (by decide) ⟨_, rfl, rfl⟩
    · obtain rfl : ix = (2 : Int32) := is_k hi
      refine X.ifY (pc' := 225) at_217 (by decide) (by decide) (by decide) ?_
      refine X.iload (pc' := 227) at_225 rfl rfl ?_
      refine X.iconst (pc' := 228) (1 : Int32) at_227 rfl rfl ?_
      refine X.icY (pc' := 236) at_228 (by decide) (by decide) (by decide) ?_
      refine X.iload (pc' := 238) at_236 rfl rfl ?_
      refine X.iconst (pc' := 239) (2 : Int32) at_238 rfl rfl ?_
      refine X.icN (pc' := 242) at_239 (by decide) rfl ?_
      refine X.aload (pc' := 244) at_242 rfl rfl rfl ?_
      refine X.goto (pc' := 249) at_244 (by decide) (by decide) ?_
      refine X.astore (pc' := 251) #[.val (.int p1), .val (.int p2), .val (.int p3), .val (.int p4), .val (.int p5), .val (.int p6), .val (.int (3 : Int32)), .val (.ref m0), .val (.ref m1), .val (.ref m2), .val (.ref m3), .val (.ref ol), .val (.ref an), .val (.int (2 : Int32)), .val (.ref m2), .unset] at_249 rfl rfl rfl ?_
      refine X.aload (pc' := 253) at_251 rfl rfl rfl ?_
      refine X.iload (pc' := 255) at_253 rfl rfl ?_
      refine X.callP (pc' := 258) (X.sVirtual (wd209 hw) (wd210 hw) (wd212 hw) (wd211 hw) (by decide) rfl pd22 E_an [(.int (2 : Int32))] rfl rfl at_255 (X.nf (wd212 hw) rfl)) (rmAGN l Z a0 hw an (2 : Int32) _ X.old u F_an_tuples m2 E_m2 (3 : Int32) _ 0 ⟨E_u, el, neu, Nat.zero_le _, F_u_el, V_el⟩ ⟨by decide, by decide⟩ rfl) (wd213 hw) (wd92 hw) (leB rfl) (leB rfl) (leB rfl) (leB rfl) rfl ?_
      intro T L v X q
      subst q
      refine X.astore (pc' := 260) #[.val (.int p1), .val (.int p2), .val (.int p3), .val (.int p4), .val (.int p5), .val (.int p6), .val (.int (3 : Int32)), .val (.ref m0), .val (.ref m1), .val (.ref m2), .val (.ref m3), .val (.ref ol), .val (.ref an), .val (.int (2 : Int32)), .val (.ref m2), .val (.ref m2)] at_258 rfl rfl rfl ?_
      refine X.aload (pc' := 262) at_260 rfl rfl rfl ?_
      refine X.aload (pc' := 264) at_262 rfl rfl rfl ?_
      refine X.callP (pc' := 267) (X.sStatic (wd225 hw) (wd226 hw) (wd28 hw) (wd227 hw) (by decide) rfl pd23 [(.ref m2), (.ref m2)] rfl rfl at_264) (rmSame0 l Z a0 hw m2 _ X.old d0 _ (A_m2.keep KK nin0)) (wd227 hw) (wd28 hw) (leB rfl) (leB rfl) (leB rfl) (leB rfl) rfl ?_
      intro T L v X q
      subst q
      exact X.retIN (by simp) rfl at_267 (by decide) (by decide) ⟨_, rfl, rfl⟩
  by_cases hc191 : (p6 &&& (1 : Int32)) = 0
  · refine X.ifY (pc' := 190) at_183 ((if0 _ _).trans (teq hc191).1) (by decide) (by decide) ?_
    refine X.iconst (pc' := 191) (0 : Int32) at_190 rfl rfl ?_
    exact k191 _ (Or.inl ⟨rfl, hc191⟩)
  · refine X.ifN (pc' := 186) at_183 ((if0 _ _).trans (feq hc191).1) rfl ?_
    refine X.iconst (pc' := 187) (1 : Int32) at_186 rfl rfl ?_
    refine X.goto (pc' := 191) at_187 (by decide) (by decide) ?_
    exact k191 _ (Or.inr ⟨rfl, hc191⟩)
set_option maxRecDepth 65536 in
set_option maxHeartbeats 40000000 in
theorem road_4 (l : Launch) (Z : State) (a0 : Array Value) (hw : ∀ d ∈ tables_1, d.before a0 Z = true) (z : Int32) (O2 : Sta Z Z.heap "java/lang/String" "COMPACT_STRINGS" "Z" (.int z)) (hz : ¬ z = 0) (d0 : Addr) (SD : Sta Z Z.heap "java/util/ArrayList" "DEFAULTCAPACITY_EMPTY_ELEMENTDATA" "[Ljava/lang/Object;" (.ref d0)) (VD : Emp Z Z.heap d0) (em : Addr) (SM : Sta Z Z.heap "java/util/ImmutableCollections" "EMPTY" "Ljava/lang/Object;" (.ref em)) (hem : em < Z.heap.size) (mo : Addr) (M_o : Mrr Z "[Ljava/lang/Object;" mo) {pg : Program} {ev : Env} {s : State} {m : MethodId} {args : Array Value} {below : List Frame} {meth : Method} {cd : Code} (p1 p2 p3 p4 p5 p6 : Int32)  (ol dol : Addr) (mc5 : Int32) {hf : Heap} (m0 dm0 x0 : Addr) (mc0 : Int32) (A_m0 : AL Z hf m0 (.ref dm0) (1 : Int32) mc0) (V_dm0 : OA Z hf dm0 10 [(.ref x0), (.null), (.null), (.null), (.null), (.null), (.null), (.null), (.null), (.null)]) (E_x0 : Exa Z hf x0 "java/lang/String") (m1 dm1 x1 x2 : Addr) (mc1 : Int32) (A_m1 : AL Z hf m1 (.ref dm1) (2 : Int32) mc1) (V_dm1 : OA Z hf dm1 10 [(.ref x1), (.ref x2), (.null), (.null), (.null), (.null), (.null), (.null), (.null), (.null)]) (E_x1 : Exa Z hf x1 "java/lang/String") (E_x2 : Exa Z hf x2 "java/lang/String") (m2 : Addr) (mc2 : Int32) (A_m2 : AL Z hf m2 (.ref d0) (0 : Int32) mc2) (m3 dm3 x3 x4 x5 : Addr) (mc3 : Int32) (A_m3 : AL Z hf m3 (.ref dm3) (3 : Int32) mc3) (V_dm3 : OA Z hf dm3 10 [(.ref x3), (.ref x4), (.ref x5), (.null), (.null), (.null), (.null), (.null), (.null), (.null)]) (E_x3 : Exa Z hf x3 "java/lang/String") (E_x4 : Exa Z hf x4 "java/lang/String") (E_x5 : Exa Z hf x5 "java/lang/String") {T : State} {hb : Heap} {L : List Loc} (X : Wk false Z a0 [] "com/example/vertere/vertere/engine/AnswersGetPinLaw" code maxLocals ret "law" [] pg l ev room_1 s m args below meth cd s.vm T hb L 27 115) (KK : Keep hf hb []) (z_ol : Z.heap.size ≤ ol) (s_ol : s.heap.size ≤ ol) (f_ol : hf.size ≤ ol) (z_dol : Z.heap.size ≤ dol) (s_dol : s.heap.size ≤ dol) (f_dol : hf.size ≤ dol) (ne_ol_dol : ol ≠ dol) (A_ol : AL Z hb ol (.ref dol) (1 : Int32) mc5) (V_dol : OA Z hb dol 10 [(.ref m0), (.null), (.null), (.null), (.null), (.null), (.null), (.null), (.null), (.null)]) :
    Y.Ends pg ev below (GN Z [] (RV (fun w h => w = .int 1)) room_1 s) (T.setTop (mkF m 131 #[.val (.int p1), .val (.int p2), .val (.int p3), .val (.int p4), .val (.int p5), .val (.int p6), .val (.int (4 : Int32)), .val (.ref m0), .val (.ref m1), .val (.ref m2), .val (.ref m3), .val (.ref ol), .unset, .unset, .unset, .unset] [])) := by
  have lt_ol := A_ol.lt
  have lt_dol := V_dol.lt
  have E_m0 := A_m0.1.keep KK
  refine X.iload (pc' := 133) at_131 rfl rfl ?_
  refine X.iconst (pc' := 134) (1 : Int32) at_133 rfl rfl ?_
  refine X.icN (pc' := 137) at_134 (by decide) rfl ?_
  refine X.aload (pc' := 139) at_137 rfl rfl rfl ?_
  refine X.aload (pc' := 141) at_139 rfl rfl rfl ?_
  have E_m1 := A_m1.1.keep KK
  obtain ⟨kt_dol, B_dol⟩ := V_dol.ty
  refine X.callV (pc' := 144) (X.sVirtual (wd58 hw) (wd59 hw) (wd61 hw) (wd60 hw) (by decide) rfl pd18 A_ol.1 [(.ref m1)] rfl rfl at_141 (X.nf (wd61 hw) rfl)) (rmAddN l Z a0 hw ol m1 _ X.old dol (1 : Int32) z_ol z_dol ne_ol_dol _ A_ol [(.ref m0), (.null), (.null), (.null), (.null), (.null), (.null), (.null), (.null), (.null)] rfl V_dol 1 rfl (by decide) ⟨by decide, by decide⟩ (by decide) _ (wd89 hw) E_m1) (wd62 hw) (wd2 hw) (leB rfl) (leB rfl) (leB rfl) (leB rfl) (sfS (Safe.exa X.al A_ol.1 (by decide) (by decide)) (sfS (V_dol.safe X.al) sf0)) (allS z_ol (allS z_dol all0)) (allS (Or.inr s_ol) (allS (Or.inr s_dol) all0)) rfl ?_
  intro T h L v X K q
  obtain ⟨rfl, A_n, V_n⟩ := q
  replace KK := KK.trans K (allS (Or.inr f_ol) (allS (Or.inr f_dol) all0))
  replace lt_ol := Nat.lt_of_lt_of_le lt_ol K.1
  replace lt_dol := Nat.lt_of_lt_of_le lt_dol K.1
  replace E_m0 := E_m0.keep K
  replace E_m1 := E_m1.keep K
  rw [show ((1 : Int32) + 1 : Int32) = (2 : Int32) from by decide] at A_n
  replace A_ol := A_n
  replace V_dol : OA Z h dol 10 [(.ref m0), (.ref m1), (.null), (.null), (.null), (.null), (.null), (.null), (.null), (.null)] := V_n
  refine X.pop (pc' := 145) at_144 rfl rfl ?_
  refine X.iload (pc' := 147) at_145 rfl rfl ?_
  refine X.iconst (pc' := 148) (2 : Int32) at_147 rfl rfl ?_
  refine X.icN (pc' := 151) at_148 (by decide) rfl ?_
  refine X.aload (pc' := 153) at_151 rfl rfl rfl ?_
  refine X.aload (pc' := 155) at_153 rfl rfl rfl ?_
  have E_m2 := A_m2.1.keep KK
  obtain ⟨kt_dol, B_dol⟩ := V_dol.ty
  refine X.callV (pc' := 158) (X.sVirtual (wd58 hw) (wd59 hw) (wd61 hw) (wd60 hw) (by decide) rfl pd18 A_ol.1 [(.ref m2)] rfl rfl at_155 (X.nf (wd61 hw) rfl)) (rmAddN l Z a0 hw ol m2 _ X.old dol (2 : Int32) z_ol z_dol ne_ol_dol _ A_ol [(.ref m0), (.ref m1), (.null), (.null), (.null), (.null), (.null), (.null), (.null), (.null)] rfl V_dol 2 rfl (by decide) ⟨by decide, by decide⟩ (by decide) _ (wd89 hw) E_m2) (wd62 hw) (wd2 hw) (leB rfl) (leB rfl) (leB rfl) (leB rfl) (sfS (Safe.exa X.al A_ol.1 (by decide) (by decide)) (sfS (V_dol.safe X.al) sf0)) (allS z_ol (allS z_dol all0)) (allS (Or.inr s_ol) (allS (Or.inr s_dol) all0)) rfl ?_
  intro T h L v X K q
  obtain ⟨rfl, A_n, V_n⟩ := q
  replace KK := KK.trans K (allS (Or.inr f_ol) (allS (Or.inr f_dol) all0))
  replace lt_ol := Nat.lt_of_lt_of_le lt_ol K.1
  replace lt_dol := Nat.lt_of_lt_of_le lt_dol K.1
  replace E_m0 := E_m0.keep K
  replace E_m1 := E_m1.keep K
  replace E_m2 := E_m2.keep K
  rw [show ((2 : Int32) + 1 : Int32) = (3 : Int32) from by decide] at A_n
  replace A_ol := A_n
  replace V_dol : OA Z h dol 10 [(.ref m0), (.ref m1), (.ref m2), (.null), (.null), (.null), (.null), (.null), (.null), (.null)] := V_n
  refine X.pop (pc' := 159) at_158 rfl rfl ?_
  refine X.iload (pc' := 161) at_159 rfl rfl ?_
  refine X.iconst (pc' := 162) (3 : Int32) at_161 rfl rfl ?_
  refine X.icN (pc' := 165) at_162 (by decide) rfl ?_
  refine X.aload (pc' := 167) at_165 rfl rfl rfl ?_
  refine X.aload (pc' := 169) at_167 rfl rfl rfl ?_
  have E_m3 := A_m3.1.keep KK
  obtain ⟨kt_dol, B_dol⟩ := V_dol.ty
  refine X.callV (pc' := 172) (X.sVirtual (wd58 hw) (wd59 hw) (wd61 hw) (wd60 hw) (by decide) rfl pd18 A_ol.1 [(.ref m3)] rfl rfl at_169 (X.nf (wd61 hw) rfl)) (rmAddN l Z a0 hw ol m3 _ X.old dol (3 : Int32) z_ol z_dol ne_ol_dol _ A_ol [(.ref m0), (.ref m1), (.ref m2), (.null), (.null), (.null), (.null), (.null), (.null), (.null)] rfl V_dol 3 rfl (by decide) ⟨by decide, by decide⟩ (by decide) _ (wd89 hw) E_m3) (wd62 hw) (wd2 hw) (leB rfl) (leB rfl) (leB rfl) (leB rfl) (sfS (Safe.exa X.al A_ol.1 (by decide) (by decide)) (sfS (V_dol.safe X.al) sf0)) (allS z_ol (allS z_dol all0)) (allS (Or.inr s_ol) (allS (Or.inr s_dol) all0)) rfl ?_
  intro T h L v X K q
  obtain ⟨rfl, A_n, V_n⟩ := q
  replace KK := KK.trans K (allS (Or.inr f_ol) (allS (Or.inr f_dol) all0))
  replace lt_ol := Nat.lt_of_lt_of_le lt_ol K.1
  replace lt_dol := Nat.lt_of_lt_of_le lt_dol K.1
  replace E_m0 := E_m0.keep K
  replace E_m1 := E_m1.keep K
  replace E_m2 := E_m2.keep K
  replace E_m3 := E_m3.keep K
  rw [show ((3 : Int32) + 1 : Int32) = (4 : Int32) from by decide] at A_n
  replace A_ol := A_n
  replace V_dol : OA Z h dol 10 [(.ref m0), (.ref m1), (.ref m2), (.ref m3), (.null), (.null), (.null), (.null), (.null), (.null)] := V_n
  refine X.pop (pc' := 173) at_172 rfl rfl ?_
  refine X.newO (pc' := 176) (wd90 hw) (wd91 hw) (wd92 hw) at_173 (by decide) (by decide) rfl ?_
  intro T h an g_an Ex lt_an E_an D_an X1
  have z_an : Z.heap.size ≤ an := by rw [g_an]; exact X.old.1
  have s_an : s.heap.size ≤ an := by rw [g_an]; exact X.kp.1
  have f_an : hf.size ≤ an := by rw [g_an]; exact KK.1
  have ne_ol_an : ol ≠ an := Nat.ne_of_lt (by rw [g_an]; exact lt_ol)
  have ne_dol_an : dol ≠ an := Nat.ne_of_lt (by rw [g_an]; exact lt_dol)
  replace KK := KK.ext Ex
  replace lt_ol := Nat.lt_of_lt_of_le lt_ol Ex.1
  replace lt_dol := Nat.lt_of_lt_of_le lt_dol Ex.1
  replace E_m0 := E_m0.ext Ex
  replace E_m1 := E_m1.ext Ex
  replace E_m2 := E_m2.ext Ex
  replace E_m3 := E_m3.ext Ex
  replace A_ol := A_ol.ext Ex
  replace V_dol := V_dol.ext Ex
  replace X := X1
  have F_an_modCount : Fld Z h an "java/util/AbstractList" "modCount" "I" (.int (0 : Int32)) := D_an (Or.inl (wd98 hw)) (ty := .int) (by decide)
  have F_an_tuples : Fld Z h an "com/example/vertere/vertere/engine/Answers" "tuples" "Ljava/util/List;" .null := D_an (Or.inr (wd186 hw)) (ty := (.object "java/util/List")) (by decide)
  have F_an_consistent : Fld Z h an "com/example/vertere/vertere/engine/Answers" "consistent" "Z" (.int (0 : Int32)) := D_an (Or.inr (wd188 hw)) (ty := .boolean) (by decide)
  have F_an_contradiction : Fld Z h an "com/example/vertere/vertere/engine/Answers" "contradiction" "Ljava/util/Optional;" .null := D_an (Or.inr (wd190 hw)) (ty := (.object "java/util/Optional")) (by decide)
  refine X.dup (pc' := 177) at_176 rfl rfl ?_
  refine X.aload (pc' := 179) at_177 rfl rfl rfl ?_
  refine X.iload (pc' := 181) at_179 rfl rfl ?_
  refine X.iconst (pc' := 182) (1 : Int32) at_181 rfl rfl ?_
  refine X.iand (pc' := 183) at_182 rfl ?_
  have k191 : ∀ fl : Int32, ((fl = 0 ∧ (p6 &&& (1 : Int32)) = 0) ∨ (fl = 1 ∧ ¬ (p6 &&& (1 : Int32)) = 0)) → Y.Ends pg ev below (GN Z [] (RV (fun w h => w = .int 1)) room_1 s) (T.setTop (mkF m 191 #[.val (.int p1), .val (.int p2), .val (.int p3), .val (.int p4), .val (.int p5), .val (.int p6), .val (.int (4 : Int32)), .val (.ref m0), .val (.ref m1), .val (.ref m2), .val (.ref m3), .val (.ref ol), .unset, .unset, .unset, .unset] [(.int fl), (.ref ol), (.ref an), (.ref an)])) := by
    intro fl hb_fl
    refine X.aconstNull (pc' := 192) at_191 rfl ?_
    refine X.callU (pc' := 195) (X.sSpecial rfl (wd93 hw) (wd94 hw) (wd95 hw) (by decide) rfl pd20 [(.ref ol), (.int fl), .null] rfl rfl at_192) (rmAns_4 l Z a0 hw an ol _ _ X.old em SM hem mo M_o z_an E_an F_an_modCount F_an_tuples F_an_consistent F_an_contradiction dol ne_ol_an ne_dol_an _ A_ol m0 _ (wd89 hw) E_m0 m1 _ (wd89 hw) E_m1 m2 _ (wd89 hw) E_m2 m3 _ (wd89 hw) E_m3 V_dol (b01 (or01 hb_fl))) (wd95 hw) (wd92 hw) (leB rfl) (leB rfl) (leB rfl) (leB rfl) (sfS safeE sf0) (allS z_an all0) (allS (Or.inr s_an) all0) rfl ?_
    intro T h L X K q
    obtain ⟨u, le_u, E_an, F_an_tuples, U⟩ := q
    have f_u : hf.size ≤ u := Nat.le_trans KK.1 le_u
    have ne_ol_u : ol ≠ u := Nat.ne_of_lt (Nat.lt_of_lt_of_le lt_ol le_u)
    have ne_dol_u : dol ≠ u := Nat.ne_of_lt (Nat.lt_of_lt_of_le lt_dol le_u)
    have ne_an_u : an ≠ u := Nat.ne_of_lt (Nat.lt_of_lt_of_le lt_an le_u)
    obtain ⟨E_u, el, neu, lo_el, F_u_el, V_el⟩ := U
    have nel : el ≠ dol := (Nat.ne_of_lt (Nat.lt_of_lt_of_le lt_dol lo_el)).symm
    replace KK := KK.trans K (allS (Or.inr f_an) all0)
    replace lt_ol := Nat.lt_of_lt_of_le lt_ol K.1
    replace lt_dol := Nat.lt_of_lt_of_le lt_dol K.1
    replace E_m0 := E_m0.keep K
    replace E_m1 := E_m1.keep K
    replace E_m2 := E_m2.keep K
    replace E_m3 := E_m3.keep K
    replace A_ol := A_ol.keep K (ninS ne_ol_an nin0)
    replace V_dol := V_dol.keep K (ninS ne_dol_an nin0)
    replace lt_an := Nat.lt_of_lt_of_le lt_an K.1
    refine X.astore (pc' := 197) #[.val (.int p1), .val (.int p2), .val (.int p3), .val (.int p4), .val (.int p5), .val (.int p6), .val (.int (4 : Int32)), .val (.ref m0), .val (.ref m1), .val (.ref m2), .val (.ref m3), .val (.ref ol), .val (.ref an), .unset, .unset, .unset] at_195 rfl rfl rfl ?_
    refine X.aload (pc' := 199) at_197 rfl rfl rfl ?_
    refine X.iconst (pc' := 200) (0 : Int32) at_199 rfl rfl ?_
    refine X.aload (pc' := 202) at_200 rfl rfl rfl ?_
    refine X.callV (pc' := 205) (X.sVirtual (wd191 hw) (wd192 hw) (wd194 hw) (wd193 hw) (by decide) rfl pd21 A_ol.1 [(.int (0 : Int32)), (.ref m2)] rfl rfl at_202 (X.nf (wd61 hw) rfl)) (rmSet l Z a0 hw ol (0 : Int32) m2 _ X.old dol _ _ A_ol 10 _ V_dol ⟨by decide, by decide⟩ (by decide) m0 rfl (show (0 : Int32).toNatClampNeg < 10 from by decide) z_dol _ (wd89 hw) E_m2) (wd195 hw) (wd2 hw) (leB rfl) (leB rfl) (leB rfl) (leB rfl) (sfS safeE sf0) (allS z_dol all0) (allS (Or.inr s_dol) all0) rfl ?_
    intro T h L v X K q
    obtain ⟨rfl, -⟩ := q
    replace KK := KK.trans K (allS (Or.inr f_dol) all0)
    replace lt_ol := Nat.lt_of_lt_of_le lt_ol K.1
    replace lt_dol := Nat.lt_of_lt_of_le lt_dol K.1
    replace E_m0 := E_m0.keep K
    replace E_m1 := E_m1.keep K
    replace E_m2 := E_m2.keep K
    replace E_m3 := E_m3.keep K
    replace A_ol := A_ol.keep K (ninS ne_ol_dol nin0)
    replace lt_an := Nat.lt_of_lt_of_le lt_an K.1
    replace E_an := E_an.keep K
    replace F_an_tuples := F_an_tuples.keep K (ninS (Ne.symm ne_dol_an) nin0)
    replace E_u := E_u.keep K
    replace F_u_el := F_u_el.keep K (ninS (Ne.symm ne_dol_u) nin0)
    replace V_el := V_el.keep K (ninS nel nin0)
    refine X.pop (pc' := 206) at_205 rfl rfl ?_
    refine X.iloadN (pc' := 207) at_206 rfl rfl ?_
    refine X.ldcI (pc' := 209) (wd208 hw) at_207 rfl ?_
    refine X.iand (pc' := 210) at_209 rfl ?_
    refine X.iload (pc' := 212) at_210 rfl rfl ?_
    refine X.irem (pc' := 213) at_212 (by decide) rfl ?_
    generalize hg_ix : ((p2 &&& (2147483647 : Int32)) % (4 : Int32)) = ix
    refine X.istore (pc' := 215) #[.val (.int p1), .val (.int p2), .val (.int p3), .val (.int p4), .val (.int p5), .val (.int p6), .val (.int (4 : Int32)), .val (.ref m0), .val (.ref m1), .val (.ref m2), .val (.ref m3), .val (.ref ol), .val (.ref an), .val (.int ix), .unset, .unset] at_213 rfl rfl ?_
    refine X.iload (pc' := 217) at_215 rfl rfl ?_
    have hix := ix4 (remN (by decide) hg_ix)
    rcases hix with hi | hi | hi | hi
    · obtain rfl : ix = (0 : Int32) := is_k hi
      refine X.ifN (pc' := 220) at_217 (by decide) rfl ?_
      refine X.aload (pc' := 222) at_220 rfl rfl rfl ?_
      refine X.goto (pc' := 249) at_222 (by decide) (by decide) ?_
      refine X.astore (pc' := 251) #[.val (.int p1), .val (.int p2), .val (.int p3), .val (.int p4), .val (.int p5), .val (.int p6), .val (.int (4 : Int32)), .val (.ref m0), .val (.ref m1), .val (.ref m2), .val (.ref m3), .val (.ref ol), .val (.ref an), .val (.int (0 : Int32)), .val (.ref m0), .unset] at_249 rfl rfl rfl ?_
      refine X.aload (pc' := 253) at_251 rfl rfl rfl ?_
      refine X.iload (pc' := 255) at_253 rfl rfl ?_
      refine X.callP (pc' := 258) (X.sVirtual (wd209 hw) (wd210 hw) (wd212 hw) (wd211 hw) (by decide) rfl pd22 E_an [(.int (0 : Int32))] rfl rfl at_255 (X.nf (wd212 hw) rfl)) (rmAGN l Z a0 hw an (0 : Int32) _ X.old u F_an_tuples m0 E_m0 (4 : Int32) _ 0 ⟨E_u, el, neu, Nat.zero_le _, F_u_el, V_el⟩ ⟨by decide, by decide⟩ rfl) (wd213 hw) (wd92 hw) (leB rfl) (leB rfl) (leB rfl) (leB rfl) rfl ?_
      intro T L v X q
      subst q
      refine X.astore (pc' := 260) #[.val (.int p1), .val (.int p2), .val (.int p3), .val (.int p4), .val (.int p5), .val (.int p6), .val (.int (4 : Int32)), .val (.ref m0), .val (.ref m1), .val (.ref m2), .val (.ref m3), .val (.ref ol), .val (.ref an), .val (.int (0 : Int32)), .val (.ref m0), .val (.ref m0)] at_258 rfl rfl rfl ?_
      refine X.aload (pc' := 262) at_260 rfl rfl rfl ?_
      refine X.aload (pc' := 264) at_262 rfl rfl rfl ?_
      refine X.callP (pc' := 267) (X.sStatic (wd225 hw) (wd226 hw) (wd28 hw) (wd227 hw) (by decide) rfl pd23 [(.ref m0), (.ref m0)] rfl rfl at_264) (rmSame1 l Z a0 hw m0 _ X.old dm0 _ (A_m0.keep KK nin0) x0 (E_x0.keep KK) (V_dm0.keep KK nin0)) (wd227 hw) (wd28 hw) (leB rfl) (leB rfl) (leB rfl) (leB rfl) rfl ?_
      intro T L v X q
      subst q
      exact X.retIN (by simp) rfl at_267 (by decide) (by decide) ⟨_, rfl, rfl⟩
    · obtain rfl : ix = (1 : Int32) := is_k hi
      refine X.ifY (pc' := 225) at_217 (by decide) (by decide) (by decide) ?_
      refine X.iload (pc' := 227) at_225 rfl rfl ?_
      refine X.iconst (pc' := 228) (1 : Int32) at_227 rfl rfl ?_
      refine X.icN (pc' := 231) at_228 (by decide) rfl ?_
      refine X.aload (pc' := 233) at_231 rfl rfl rfl ?_
      refine X.goto (pc' := 249) at_233 (by decide) (by decide) ?_
      refine X.astore (pc' := 251) #[.val (.int p1), .val (.int p2), .val (.int p3), .val (.int p4), .val (.int p5), .val (.int p6), .val (.int (4 : Int32)), .val (.ref m0), .val (.ref m1), .val (.ref m2), .val (.ref m3), .val (.ref ol), .val (.ref an), .val (.int (1 : Int32)), .val (.ref m1), .unset] at_249 rfl rfl rfl ?_
      refine X.aload (pc' := 253) at_251 rfl rfl rfl ?_
      refine X.iload (pc' := 255) at_253 rfl rfl ?_
      refine X.callP (pc' := 258) (X.sVirtual (wd209 hw) (wd210 hw) (wd212 hw) (wd211 hw) (by decide) rfl pd22 E_an [(.int (1 : Int32))] rfl rfl at_255 (X.nf (wd212 hw) rfl)) (rmAGN l Z a0 hw an (1 : Int32) _ X.old u F_an_tuples m1 E_m1 (4 : Int32) _ 0 ⟨E_u, el, neu, Nat.zero_le _, F_u_el, V_el⟩ ⟨by decide, by decide⟩ rfl) (wd213 hw) (wd92 hw) (leB rfl) (leB rfl) (leB rfl) (leB rfl) rfl ?_
      intro T L v X q
      subst q
      refine X.astore (pc' := 260) #[.val (.int p1), .val (.int p2), .val (.int p3), .val (.int p4), .val (.int p5), .val (.int p6), .val (.int (4 : Int32)), .val (.ref m0), .val (.ref m1), .val (.ref m2), .val (.ref m3), .val (.ref ol), .val (.ref an), .val (.int (1 : Int32)), .val (.ref m1), .val (.ref m1)] at_258 rfl rfl rfl ?_
      refine X.aload (pc' := 262) at_260 rfl rfl rfl ?_
      refine X.aload (pc' := 264) at_262 rfl rfl rfl ?_
      refine X.callP (pc' := 267) (X.sStatic (wd225 hw) (wd226 hw) (wd28 hw) (wd227 hw) (by decide) rfl pd23 [(.ref m1), (.ref m1)] rfl rfl at_264) (rmSame2 l Z a0 hw m1 _ X.old dm1 _ (A_m1.keep KK nin0) x1 (E_x1.keep KK) x2 (E_x2.keep KK) (V_dm1.keep KK nin0)) (wd227 hw) (wd28 hw) (leB rfl) (leB rfl) (leB rfl) (leB rfl) rfl ?_
      intro T L v X q
      subst q
      exact X.retIN (by simp) rfl at_267 (by decide) (by decide) ⟨_, rfl, rfl⟩
    · obtain rfl : ix = (2 : Int32) := is_k hi
      refine X.ifY (pc' := 225) at_217 (by decide) (by decide) (by decide) ?_
      refine X.iload (pc' := 227) at_225 rfl rfl ?_
      refine X.iconst (pc' := 228) (1 : Int32) at_227 rfl rfl ?_
      refine X.icY (pc' := 236) at_228 (by decide) (by decide) (by decide) ?_
      refine X.iload (pc' := 238) at_236 rfl rfl ?_
      refine X.iconst (pc' := 239) (2 : Int32) at_238 rfl rfl ?_
      refine X.icN (pc' := 242) at_239 (by decide) rfl ?_
      refine X.aload (pc' := 244) at_242 rfl rfl rfl ?_
      refine X.goto (pc' := 249) at_244 (by decide) (by decide) ?_
      refine X.astore (pc' := 251) #[.val (.int p1), .val (.int p2), .val (.int p3), .val (.int p4), .val (.int p5), .val (.int p6), .val (.int (4 : Int32)), .val (.ref m0), .val (.ref m1), .val (.ref m2), .val (.ref m3), .val (.ref ol), .val (.ref an), .val (.int (2 : Int32)), .val (.ref m2), .unset] at_249 rfl rfl rfl ?_
      refine X.aload (pc' := 253) at_251 rfl rfl rfl ?_
      refine X.iload (pc' := 255) at_253 rfl rfl ?_
      refine X.callP (pc' := 258) (X.sVirtual (wd209 hw) (wd210 hw) (wd212 hw) (wd211 hw) (by decide) rfl pd22 E_an [(.int (2 : Int32))] rfl rfl at_255 (X.nf (wd212 hw) rfl)) (rmAGN l Z a0 hw an (2 : Int32) _ X.old u F_an_tuples m2 E_m2 (4 : Int32) _ 0 ⟨E_u, el, neu, Nat.zero_le _, F_u_el, V_el⟩ ⟨by decide, by decide⟩ rfl) (wd213 hw) (wd92 hw) (leB rfl) (leB rfl) (leB rfl) (leB rfl) rfl ?_
      intro T L v X q
      subst q
      refine X.astore (pc' := 260) #[.val (.int p1), .val (.int p2), .val (.int p3), .val (.int p4), .val (.int p5), .val (.int p6), .val (.int (4 : Int32)), .val (.ref m0), .val (.ref m1), .val (.ref m2), .val (.ref m3), .val (.ref ol), .val (.ref an), .val (.int (2 : Int32)), .val (.ref m2), .val (.ref m2)] at_258 rfl rfl rfl ?_
      refine X.aload (pc' := 262) at_260 rfl rfl rfl ?_
      refine X.aload (pc' := 264) at_262 rfl rfl rfl ?_
      refine X.callP (pc' := 267) (X.sStatic (wd225 hw) (wd226 hw) (wd28 hw) (wd227 hw) (by decide) rfl pd23 [(.ref m2), (.ref m2)] rfl rfl at_264) (rmSame0 l Z a0 hw m2 _ X.old d0 _ (A_m2.keep KK nin0)) (wd227 hw) (wd28 hw) (leB rfl) (leB rfl) (leB rfl) (leB rfl) rfl ?_
      intro T L v X q
      subst q
      exact X.retIN (by simp) rfl at_267 (by decide) (by decide) ⟨_, rfl, rfl⟩
    · obtain rfl : ix = (3 : Int32) := is_k hi
      refine X.ifY (pc' := 225) at_217 (by decide) (by decide) (by decide) ?_
      refine X.iload (pc' := 227) at_225 rfl rfl ?_
      refine X.iconst (pc' := 228) (1 : Int32) at_227 rfl rfl ?_
      refine X.icY (pc' := 236) at_228 (by decide) (by decide) (by decide) ?_
      refine X.iload (pc' := 238) at_236 rfl rfl ?_
      refine X.iconst (pc' := 239) (2 : Int32) at_238 rfl rfl ?_
      refine X.icY (pc' := 247) at_239 (by decide) (by decide) (by decide) ?_
      refine X.aload (pc' := 249) at_247 rfl rfl rfl ?_
      refine X.astore (pc' := 251) #[.val (.int p1), .val (.int p2), .val (.int p3), .val (.int p4), .val (.int p5), .val (.int p6), .val (.int (4 : Int32)), .val (.ref m0), .val (.ref m1), .val (.ref m2), .val (.ref m3), .val (.ref ol), .val (.ref an), .val (.int (3 : Int32)), .val (.ref m3), .unset] at_249 rfl rfl rfl ?_
      refine X.aload (pc' := 253) at_251 rfl rfl rfl ?_
      refine X.iload (pc' := 255) at_253 rfl rfl ?_
      refine X.callP (pc' := 258) (X.sVirtual (wd209 hw) (wd210 hw) (wd212 hw) (wd211 hw) (by decide) rfl pd22 E_an [(.int (3 : Int32))] rfl rfl at_255 (X.nf (wd212 hw) rfl)) (rmAGN l Z a0 hw an (3 : Int32) _ X.old u F_an_tuples m3 E_m3 (4 : Int32) _ 0 ⟨E_u, el, neu, Nat.zero_le _, F_u_el, V_el⟩ ⟨by decide, by decide⟩ rfl) (wd213 hw) (wd92 hw) (leB rfl) (leB rfl) (leB rfl) (leB rfl) rfl ?_
      intro T L v X q
      subst q
      refine X.astore (pc' := 260) #[.val (.int p1), .val (.int p2), .val (.int p3), .val (.int p4), .val (.int p5), .val (.int p6), .val (.int (4 : Int32)), .val (.ref m0), .val (.ref m1), .val (.ref m2), .val (.ref m3), .val (.ref ol), .val (.ref an), .val (.int (3 : Int32)), .val (.ref m3), .val (.ref m3)] at_258 rfl rfl rfl ?_
      refine X.aload (pc' := 262) at_260 rfl rfl rfl ?_
      refine X.aload (pc' := 264) at_262 rfl rfl rfl ?_
      refine X.callP (pc' := 267) (X.sStatic (wd225 hw) (wd226 hw) (wd28 hw) (wd227 hw) (by decide) rfl pd23 [(.ref m3), (.ref m3)] rfl rfl at_264) (rmSame3 l Z a0 hw m3 _ X.old dm3 _ (A_m3.keep KK nin0) x3 (E_x3.keep KK) x4 (E_x4.keep KK) x5 (E_x5.keep KK) (V_dm3.keep KK nin0)) (wd227 hw) (wd28 hw) (leB rfl) (leB rfl) (leB rfl) (leB rfl) rfl ?_
      intro T L v X q
      subst q
      exact X.retIN (by simp) rfl at_267 (by decide) (by decide) ⟨_, rfl, rfl⟩
  by_cases hc191 : (p6 &&& (1 : Int32)) = 0
  · refine X.ifY (pc' := 190) at_183 ((if0 _ _).trans (teq hc191).1) (by decide) (by decide) ?_
    refine X.iconst (pc' := 191) (0 : Int32) at_190 rfl rfl ?_
    exact k191 _ (Or.inl ⟨rfl, hc191⟩)
  · refine X.ifN (pc' := 186) at_183 ((if0 _ _).trans (feq hc191).1) rfl ?_
    refine X.iconst (pc' := 187) (1 : Int32) at_186 rfl rfl ?_
    refine X.goto (pc' := 191) at_187 (by decide) (by decide) ?_
    exact k191 _ (Or.inr ⟨rfl, hc191⟩)
set_option maxRecDepth 65536 in
set_option maxHeartbeats 40000000 in
theorem ef_rm0 (m : MethodId) (p1 : Int32) (p2 : Int32) (p3 : Int32) (p4 : Int32) (p5 : Int32) (p6 : Int32) : entryFrame m #[(.int p1), (.int p2), (.int p3), (.int p4), (.int p5), (.int p6)] maxLocals = mkF m 0 #[.val (.int p1), .val (.int p2), .val (.int p3), .val (.int p4), .val (.int p5), .val (.int p6), .unset, .unset, .unset, .unset, .unset, .unset, .unset, .unset, .unset, .unset] [] := by first | (simp [entryFrame, mkF, argsToLocals, Value.category, maxLocals]; done) | (rfl)
set_option maxRecDepth 65536 in
set_option maxHeartbeats 40000000 in
theorem rm0 (l : Launch) (Z : State) (a0 : Array Value) (hw : ∀ d ∈ tables_1, d.before a0 Z = true) (p1 : Int32) (p2 : Int32) (p3 : Int32) (p4 : Int32) (p5 : Int32) (p6 : Int32) (h0 : Heap) (O : Ext Z.heap h0) (z : Int32) (O2 : Sta Z Z.heap "java/lang/String" "COMPACT_STRINGS" "Z" (.int z)) (hz : ¬ z = 0) (d0 : Addr) (SD : Sta Z Z.heap "java/util/ArrayList" "DEFAULTCAPACITY_EMPTY_ELEMENTDATA" "[Ljava/lang/Object;" (.ref d0)) (VD : Emp Z Z.heap d0) (em : Addr) (SM : Sta Z Z.heap "java/util/ImmutableCollections" "EMPTY" "Ljava/lang/Object;" (.ref em)) (hem : em < Z.heap.size) (mo : Addr) (M_o : Mrr Z "[Ljava/lang/Object;" mo) :
    MN l Z x code maxLocals ret tables_1 room_1 #[(.int p1), (.int p2), (.int p3), (.int p4), (.int p5), (.int p6)] h0 [] (RV (fun w h => w = .int 1)) := by
  refine MN.mk (a0 := a0) rfl rfl (plainFor_of_name pn6) O (fun m => ef_rm0 m p1 p2 p3 p4 p5 p6) ?_
  intro pg ev s m below meth cd T hh X
  subst hh
  refine X.iloadN (pc' := 1) at_0 rfl rfl ?_
  refine X.iconst (pc' := 2) (3 : Int32) at_1 rfl rfl ?_
  refine X.iand (pc' := 3) at_2 rfl ?_
  refine X.iconst (pc' := 4) (1 : Int32) at_3 rfl rfl ?_
  refine X.iadd (pc' := 5) at_4 rfl ?_
  generalize hg_n : ((p1 &&& (3 : Int32)) + (1 : Int32)) = n
  have hn := and3 hg_n
  refine X.istore (pc' := 7) #[.val (.int p1), .val (.int p2), .val (.int p3), .val (.int p4), .val (.int p5), .val (.int p6), .val (.int n), .unset, .unset, .unset, .unset, .unset, .unset, .unset, .unset, .unset] at_5 rfl rfl ?_
  refine sg_m0 l Z a0 hw z O2 hz d0 SD VD p1 p2 p3 p4 p5 p6 n X ?_
  intro T h1 L m0 dm0 x0 mc0 X K0 z_m0 s_m0 f_m0 z_dm0 s_dm0 f_dm0 ne_dm0 A_m0 V_dm0 E_x0
  refine sg_m1 l Z a0 hw z O2 hz d0 SD VD p1 p2 p3 p4 p5 p6 n m0 X ?_
  intro T h2 L m1 dm1 x1 x2 mc1 X K1 z_m1 s_m1 f_m1 z_dm1 s_dm1 f_dm1 ne_dm1 A_m1 V_dm1 E_x1 E_x2
  refine sg_m2 l Z a0 hw z O2 hz d0 SD VD p1 p2 p3 p4 p5 p6 n m0 m1 X ?_
  intro T h3 L m2 mc2 X K2 z_m2 s_m2 f_m2 A_m2
  refine sg_m3 l Z a0 hw z O2 hz d0 SD VD p1 p2 p3 p4 p5 p6 n m0 m1 m2 X ?_
  intro T h4 L m3 dm3 x3 x4 x5 mc3 X K3 z_m3 s_m3 f_m3 z_dm3 s_dm3 f_dm3 ne_dm3 A_m3 V_dm3 E_x3 E_x4 E_x5
  have K24 := K2.trans K3 all0
  have K14 := K1.trans K24 all0
  replace A_m0 := A_m0.keep K14 nin0
  replace V_dm0 := V_dm0.keep K14 nin0
  replace E_x0 := E_x0.keep K14
  replace A_m1 := A_m1.keep K24 nin0
  replace V_dm1 := V_dm1.keep K24 nin0
  replace E_x1 := E_x1.keep K24
  replace E_x2 := E_x2.keep K24
  replace A_m2 := A_m2.keep K3 nin0
  refine sg_ol l Z a0 hw z O2 hz d0 SD VD p1 p2 p3 p4 p5 p6 n m0 m1 m2 m3 A_m0.1 X ?_
  intro T h5 L ol dol mc5 X K4 z_ol s_ol f_ol z_dol s_dol f_dol ne_ol_dol A_ol V_dol
  rcases hn with hn | hn | hn | hn
  · subst hn
    exact road_1 l Z a0 hw z O2 hz d0 SD VD em SM hem mo M_o p1 p2 p3 p4 p5 p6 ol dol _ m0 dm0 x0 _ A_m0 V_dm0 E_x0 m1 m2 _ A_m2 m3 X K4 z_ol s_ol f_ol z_dol s_dol f_dol ne_ol_dol A_ol V_dol
  · subst hn
    exact road_2 l Z a0 hw z O2 hz d0 SD VD em SM hem mo M_o p1 p2 p3 p4 p5 p6 ol dol _ m0 dm0 x0 _ A_m0 V_dm0 E_x0 m1 dm1 x1 x2 _ A_m1 V_dm1 E_x1 E_x2 m2 _ A_m2 m3 X K4 z_ol s_ol f_ol z_dol s_dol f_dol ne_ol_dol A_ol V_dol z_m1
  · subst hn
    exact road_3 l Z a0 hw z O2 hz d0 SD VD em SM hem mo M_o p1 p2 p3 p4 p5 p6 ol dol _ m0 dm0 x0 _ A_m0 V_dm0 E_x0 m1 dm1 x1 x2 _ A_m1 V_dm1 E_x1 E_x2 m2 _ A_m2 m3 X K4 z_ol s_ol f_ol z_dol s_dol f_dol ne_ol_dol A_ol V_dol
  · subst hn
    exact road_4 l Z a0 hw z O2 hz d0 SD VD em SM hem mo M_o p1 p2 p3 p4 p5 p6 ol dol _ m0 dm0 x0 _ A_m0 V_dm0 E_x0 m1 dm1 x1 x2 _ A_m1 V_dm1 E_x1 E_x2 m2 _ A_m2 m3 dm3 x3 x4 x5 _ A_m3 V_dm3 E_x3 E_x4 E_x5 X K4 z_ol s_ol f_ol z_dol s_dol f_dol ne_ol_dol A_ol V_dol
set_option maxRecDepth 65536 in
set_option maxHeartbeats 40000000 in
theorem comes_1 {Post : Tables → Env → Array Value → State → Outcome → State → Prop} (hpost : ∀ tb e args s v u, (limb_1_1.after args s (.returned v) u = true ∧ limb_1_2.after args s (.returned v) u = true ∧ True) → FrameEnd s (.returned v) u (Jvm.fieldLocs frame_1_writes args s ++ Jvm.arrayLocs frame_1_arrays args s ++ Jvm.staticLocs frame_1_statics s) 72 320 → Post tb e args s (.returned v) u) :
    ArmFor flags0 classFile x code maxLocals ret World_1 tables_1 room_1 Calls_1 rest_1 Pre_1 Post := by
  intro l hfl _ _ p e ha hc hk s m args below hf hA hF happ hP
  obtain ⟨hcalls, hrest, hpre⟩ := hP
  obtain ⟨-, -, -, hnamed, -, -, -, hat⟩ := (Spec.applies_iff hf).mp happ
  obtain ⟨hg, hn⟩ := and_e (Cond.before_iff.mp (show (Jvm.Cond.and given_1 narrow_1).before args s = true from hpre))
  obtain ⟨h1, g0⟩ := and_e hg
  obtain ⟨k0, g1⟩ := and_e g0
  obtain ⟨k1, g2⟩ := and_e g1
  obtain ⟨k2, g3⟩ := and_e g2
  obtain ⟨k3, g4⟩ := and_e g3
  obtain ⟨k4, g5⟩ := and_e g4
  have k5 := g5
  obtain ⟨w0, w1, w2, w3, w4, w5, rfl⟩ : ∃ w0 w1 w2 w3 w4 w5 : Value, args = #[w0, w1, w2, w3, w4, w5] := by
    have hs : args.size = 6 := by simpa [Cond.value, given_1] using h1
    obtain ⟨L⟩ := args
    match L, hs with
    | [w0, w1, w2, w3, w4, w5], _ => exact ⟨w0, w1, w2, w3, w4, w5, rfl⟩
  have hw := fun d (hd : d ∈ tables_1) => atoms_spec (ws := Jvm.Cond.code x code maxLocals ret :: tables_1) hat d (List.mem_cons_of_mem _ hd)
  obtain ⟨hsets, hown0⟩ := atoms_of _ (rest_1_c_eq ▸ (show rest_1_c.before _ s = true from hrest))
  obtain ⟨i0, e0⟩ := is_v k0
  obtain rfl : w0 = (.int i0) := Option.some.inj e0
  obtain ⟨i1, e1⟩ := is_v k1
  obtain rfl : w1 = (.int i1) := Option.some.inj e1
  obtain ⟨i2, e2⟩ := is_v k2
  obtain rfl : w2 = (.int i2) := Option.some.inj e2
  obtain ⟨i3, e3⟩ := is_v k3
  obtain rfl : w3 = (.int i3) := Option.some.inj e3
  obtain ⟨i4, e4⟩ := is_v k4
  obtain rfl : w4 = (.int i4) := Option.some.inj e4
  obtain ⟨i5, e5⟩ := is_v k5
  obtain rfl : w5 = (.int i5) := Option.some.inj e5
  have hcw := hsets _ (List.mem_of_getElem? (i := 11) rfl)
  have ncs := not_v (Cond.before_iff.mp hcw)
  obtain ⟨zcs, ecs⟩ := is_v (Cond.before_iff.mp (hsets _ (List.mem_of_getElem? (i := 10) rfl)))
  have O2 : Sta s s.heap "java/lang/String" "COMPACT_STRINGS" "Z" (.int zcs) := Sta.start ecs (Or.inl (hsets _ (List.mem_of_getElem? (i := 9) rfl)))
  have hcs : ¬ (zcs = (0 : Int32)) := gotF (Cond.eq_ints ecs (Term.int_eval (0))) ncs
  obtain ⟨d0, ed0⟩ := arr_v (Cond.before_iff.mp (hsets _ (List.mem_of_getElem? (i := 6) rfl)))
  have SD : Sta s s.heap "java/util/ArrayList" "DEFAULTCAPACITY_EMPTY_ELEMENTDATA" "[Ljava/lang/Object;" (.ref d0) := Sta.start ed0 (Or.inr ⟨(wd2 hw), hsets _ (List.mem_of_getElem? (i := 2) rfl)⟩)
  have VD : Emp s s.heap d0 := Emp.start ed0 (hsets _ (List.mem_of_getElem? (i := 6) rfl)) (hsets _ (List.mem_of_getElem? (i := 8) rfl))
  obtain ⟨mc_o, mk_o, mo, M_o⟩ := hcalls.1
  replace M_o : Mrr s "[Ljava/lang/Object;" mo := ⟨mc_o, mk_o, M_o.1, M_o.2.1, M_o.2.2.1⟩
  obtain ⟨em, eem⟩ := exa_v (Cond.before_iff.mp (hsets _ (List.mem_of_getElem? (i := 20) rfl)))
  have SM : Sta s s.heap "java/util/ImmutableCollections" "EMPTY" "Ljava/lang/Object;" (.ref em) := Sta.start eem (Or.inl (hsets _ (List.mem_of_getElem? (i := 19) rfl)))
  have hem : em < s.heap.size := (Exa.start eem (Cond.before_iff.mp (hsets _ (List.mem_of_getElem? (i := 20) rfl)))).lt
  obtain ⟨n, o, h1, h2, h3, v, L, rfl, ⟨⟨w, rfl, rfl⟩, N, -, -⟩, hq⟩ := rm0 l s _ hw i0 i1 i2 i3 i4 i5 s.heap ⟨Nat.le_refl _, fun _ _ q => q⟩ zcs O2 hcs d0 SD VD em SM hem mo M_o p e ha hc hk s m _ below hf ((Spec.applies_iff_loose hf).mp happ).1 ⟨rfl, State.Warmed39.refl s, rfl⟩ trivial
  refine ⟨n, _, h1, h2, h3, hpost _ _ _ _ _ _ ⟨Cond.after_iff.mpr rfl, Cond.after_iff.mpr (eq_i res_at (Term.int_eval (1)) rfl), trivial⟩ ⟨hq.1, hq.2.1, (hq.2.2.sift fun y hy => Or.inr (N y hy)).mono (by decide) (by decide)⟩⟩
theorem main_1_1 : Claimed_1_1 := comes_1 fun _ _ _ _ _ _ h hF => ⟨h.1, hF⟩
theorem main_1_2 : Claimed_1_2 := comes_1 fun _ _ _ _ _ _ h hF => ⟨h.2.1, hF⟩
end Jvm.Pilot.@@N@@
namespace Jvm.Pilot.@@N@@
open Jvm Jvm.ClassFile Sem Op Lib Jvm.Free Jvm.Stand Jvm.Pilot.@@N@@.Jvm.D
/-! MADE BY PROGRAM (witnessworld.py) out of the Statement's table words and the real class files: 37 classes; the members and pool entries that the words name. The judged class is class 1, her method 3. -/
namespace start1
open Jvm.ClassFile
def u (s : String) : CpInfo := .utf8 (stringToUtf16 s)
/-- a pool by its gaps: so many unusable entries, then the entry; so many at the end -/
def gap : Nat → List CpInfo → List CpInfo
  | 0, r => r
  | n + 1, r => .unusable :: gap n r
def poolList (es : List (Nat × CpInfo)) (last : Nat) : List CpInfo := es.foldr (fun e r => gap e.1 (e.2 :: r)) (gap last [])
def pool (es : List (Nat × CpInfo)) (last : Nat) : Array CpInfo := ⟨poolList es last⟩
def fileOf (pool : Array CpInfo) (this : Nat) (attrs : Array Attribute := #[]) (ms : Array MethodInfo := #[]) (fl : Nat := 33) (sup : Nat := 0) (ifs : Array Nat := #[]) (fds : Array FieldInfo := #[]) : ClassFile where
  minorVersion := 0
  majorVersion := 65
  constantPool := pool
  accessFlags := fl
  thisClass := this
  superClass := sup
  interfaces := ifs
  fields := fds
  methods := ms
  attributes := attrs
def plain (name : String) (sup : Option ClassId) : Class where
  name := name
  kind := .ordinary
  loader := none
  accessFlags := 33
  super := sup
  interfaces := #[]
  cf := none
  fields := #[]
  methods := #[]
  instanceTypes := #[]
  staticTypes := #[]
  resolved := #[]
  callSites := []
  init := .initialized
  statics := none
  mirror := none

def pool0 : Array CpInfo := pool [(5, u "<init>"), (0, u "()V"), (1, .class_ 10), (1, u "java/lang/Object"), (0, u "getClass"), (0, u "()Ljava/lang/Class;")] 111

def k0c0 : Code := { maxStack := 0, maxLocals := 1, code := object_method_1_code, exceptionTable := #[], attributes := #[] }
def k0m0 : Method := { name := "<init>", desc := "()V", sig := { parameters := [], returnType := none }, accessFlags := 1, code := some k0c0 }
def k0m1 : Method := { name := "getClass", desc := "()Ljava/lang/Class;", sig := { parameters := [], returnType := some (.object "java/lang/Class") }, accessFlags := 273, code := none }
/-- java/lang/Object -/
def k0 : Class := { plain "java/lang/Object" none with
  accessFlags := 33
  interfaces := #[]
  cf := some (fileOf pool0 8 #[] #[{ accessFlags := 1, nameIndex := 5, descriptorIndex := 6, attributes := #[] }, { accessFlags := 273, nameIndex := 11, descriptorIndex := 12, attributes := #[] }] 33 0 #[] #[])
  fields := #[]
  methods := #[k0m0, k0m1]
  instanceTypes := #[]
  staticTypes := #[]
  resolved := Array.replicate 124 none
  statics := none }

def pool1 : Array CpInfo := pool [(2, .class_ 4), (0, .nameAndType 5 6), (0, u "java/lang/Object"), (0, u "<init>"), (0, u "()V"), (0, .class_ 8), (0, u "java/lang/String"), (0, .methodref 7 10), (0, .nameAndType 5 11), (0, u "([C)V"), (0, .interfaceMethodref 13 14), (0, .class_ 15), (0, .nameAndType 16 17), (0, u "java/util/List"), (0, u "size"), (0, u "()I"), (0, .interfaceMethodref 13 19), (0, .nameAndType 20 21), (0, u "get"), (0, u "(I)Ljava/lang/Object;"), (0, .methodref 7 23), (0, .nameAndType 24 25), (0, u "equals"), (0, u "(Ljava/lang/Object;)Z"), (0, .class_ 27), (0, u "java/util/ArrayList"), (0, .methodref 26 3), (0, .methodref 30 31), (0, .class_ 32), (0, .nameAndType 33 34), (0, u "com/example/vertere/vertere/engine/AnswersGetPinLaw"), (0, u "s"), (0, u "(I)Ljava/lang/String;"), (0, .methodref 26 36), (0, .nameAndType 37 25), (0, u "add"), (0, .class_ 39), (0, u "com/example/vertere/vertere/engine/Answers"), (0, .methodref 38 41), (0, .nameAndType 5 42), (0, u "(Ljava/util/List;ZLjava/util/Optional;)V"), (0, .methodref 26 44), (0, .nameAndType 45 46), (0, u "set"), (0, u "(ILjava/lang/Object;)Ljava/lang/Object;"), (0, .integer 2147483647), (0, .methodref 38 49), (0, .nameAndType 20 50), (0, u "(I)Ljava/util/List;"), (0, .methodref 30 52), (0, .nameAndType 53 54), (0, u "same"), (0, u "(Ljava/util/List;Ljava/util/List;)Z"), (5, u "law"), (0, u "(IIIIII)Z")] 2

def k1m0 : Method := { name := "<init>", desc := "()V", sig := { parameters := [], returnType := none }, accessFlags := 2, code := none }
def k1c1 : Code := { maxStack := 4, maxLocals := 2, code := method_2_code, exceptionTable := #[], attributes := #[] }
def k1m1 : Method := { name := "s", desc := "(I)Ljava/lang/String;", sig := { parameters := [.int], returnType := some (.object "java/lang/String") }, accessFlags := 10, code := some k1c1 }
def k1c2 : Code := { maxStack := 3, maxLocals := 3, code := method_3_code, exceptionTable := #[], attributes := #[] }
def k1m2 : Method := { name := "same", desc := "(Ljava/util/List;Ljava/util/List;)Z", sig := { parameters := [(.object "java/util/List"), (.object "java/util/List")], returnType := some .boolean }, accessFlags := 10, code := some k1c2 }
def k1c3 : Code := { maxStack := 5, maxLocals := 16, code := code, exceptionTable := #[], attributes := #[] }
def k1m3 : Method := { name := "law", desc := "(IIIIII)Z", sig := { parameters := [.int, .int, .int, .int, .int, .int], returnType := some .boolean }, accessFlags := 9, code := some k1c3 }
/-- com/example/vertere/vertere/engine/AnswersGetPinLaw -/
def k1 : Class := { plain "com/example/vertere/vertere/engine/AnswersGetPinLaw" (some 0) with
  accessFlags := 49
  interfaces := #[]
  cf := some (fileOf pool1 30 #[] #[{ accessFlags := 2, nameIndex := 5, descriptorIndex := 6, attributes := #[] }, { accessFlags := 10, nameIndex := 33, descriptorIndex := 34, attributes := #[] }, { accessFlags := 10, nameIndex := 53, descriptorIndex := 54, attributes := #[] }, { accessFlags := 9, nameIndex := 60, descriptorIndex := 61, attributes := #[] }] 49 2 #[] #[])
  fields := #[]
  methods := #[k1m0, k1m1, k1m2, k1m3]
  instanceTypes := #[]
  staticTypes := #[]
  resolved := Array.replicate 64 none
  statics := none }

def pool2 : Array CpInfo := pool [(8, .class_ 10), (1, u "java/lang/Iterable"), (24, .class_ 36), (0, u "java/lang/Object")] 25

/-- java/lang/Iterable -/
def k2 : Class := { plain "java/lang/Iterable" (some 0) with
  accessFlags := 1537
  interfaces := #[]
  cf := some (fileOf pool2 8 #[] #[] 1537 35 #[] #[])
  fields := #[]
  methods := #[]
  instanceTypes := #[]
  staticTypes := #[]
  resolved := Array.replicate 62 none
  statics := none }

def pool3 : Array CpInfo := pool [(10, .class_ 12), (1, u "java/util/Collection"), (0, u "toArray"), (16, u "()Z"), (29, .class_ 61), (0, u "java/lang/Object"), (0, .class_ 63), (0, u "java/lang/Iterable"), (2, u "isEmpty"), (3, u "()[Ljava/lang/Object;")] 44

def k3m0 : Method := { name := "isEmpty", desc := "()Z", sig := { parameters := [], returnType := some .boolean }, accessFlags := 1025, code := none }
def k3m1 : Method := { name := "toArray", desc := "()[Ljava/lang/Object;", sig := { parameters := [], returnType := some (.array (.object "java/lang/Object")) }, accessFlags := 1025, code := none }
/-- java/util/Collection -/
def k3 : Class := { plain "java/util/Collection" (some 0) with
  accessFlags := 1537
  interfaces := #[2]
  cf := some (fileOf pool3 10 #[] #[{ accessFlags := 1025, nameIndex := 66, descriptorIndex := 30, attributes := #[] }, { accessFlags := 1025, nameIndex := 13, descriptorIndex := 70, attributes := #[] }] 1537 60 #[62] #[])
  fields := #[]
  methods := #[k3m0, k3m1]
  instanceTypes := #[]
  staticTypes := #[]
  resolved := Array.replicate 115 none
  statics := none }

def pool4 : Array CpInfo := pool [(1, .methodref 2 3), (0, .class_ 4), (0, .nameAndType 5 6), (0, u "java/lang/Object"), (0, u "<init>"), (0, u "()V"), (1, .class_ 10), (1, u "java/util/AbstractCollection"), (66, .class_ 78), (0, u "java/util/Collection")] 81

def k4c0 : Code := { maxStack := 1, maxLocals := 1, code := jdk_22_method_1_code, exceptionTable := #[], attributes := #[] }
def k4m0 : Method := { name := "<init>", desc := "()V", sig := { parameters := [], returnType := none }, accessFlags := 4, code := some k4c0 }
/-- java/util/AbstractCollection -/
def k4 : Class := { plain "java/util/AbstractCollection" (some 0) with
  accessFlags := 1057
  interfaces := #[3]
  cf := some (fileOf pool4 8 #[] #[{ accessFlags := 4, nameIndex := 5, descriptorIndex := 6, attributes := #[] }] 1057 2 #[77] #[])
  fields := #[]
  methods := #[k4m0]
  instanceTypes := #[]
  staticTypes := #[]
  resolved := Array.replicate 160 none
  statics := none }

def pool5 : Array CpInfo := pool [(8, .class_ 10), (1, u "java/util/SequencedCollection"), (15, .class_ 27), (0, u "java/lang/Object"), (0, .class_ 29), (0, u "java/util/Collection")] 27

/-- java/util/SequencedCollection -/
def k5 : Class := { plain "java/util/SequencedCollection" (some 0) with
  accessFlags := 1537
  interfaces := #[3]
  cf := some (fileOf pool5 8 #[] #[] 1537 26 #[28] #[])
  fields := #[]
  methods := #[]
  instanceTypes := #[]
  staticTypes := #[]
  resolved := Array.replicate 57 none
  statics := none }

def pool6 : Array CpInfo := pool [(8, .class_ 10), (1, u "java/util/List"), (20, u "(Ljava/lang/Object;)V"), (16, u "<init>"), (26, u "get"), (0, u "(I)Ljava/lang/Object;"), (2, u "size"), (0, u "()I"), (7, u "of"), (2, .class_ 93), (1, u "java/util/ImmutableCollections"), (2, .class_ 97), (0, u "java/util/ImmutableCollections$List12"), (0, .methodref 96 99), (0, .nameAndType 48 31), (0, .methodref 96 101), (0, .nameAndType 48 102), (0, u "(Ljava/lang/Object;Ljava/lang/Object;)V"), (0, .class_ 104), (0, u "java/lang/Object"), (3, u "([Ljava/lang/Object;)Ljava/util/List;"), (0, .methodref 91 110), (0, .nameAndType 111 108), (0, u "listFromArray"), (0, .methodref 91 113), (0, .nameAndType 114 115), (0, u "listCopy"), (0, u "(Ljava/util/Collection;)Ljava/util/List;"), (4, .class_ 121), (0, u "java/util/SequencedCollection"), (112, u "copyOf")] 16

def k6m0 : Method := { name := "size", desc := "()I", sig := { parameters := [], returnType := some .int }, accessFlags := 1025, code := none }
def k6m1 : Method := { name := "get", desc := "(I)Ljava/lang/Object;", sig := { parameters := [.int], returnType := some (.object "java/lang/Object") }, accessFlags := 1025, code := none }
def k6c2 : Code := { maxStack := 5, maxLocals := 2, code := jdk_40_method_47_code, exceptionTable := #[], attributes := #[] }
def k6m2 : Method := { name := "of", desc := "([Ljava/lang/Object;)Ljava/util/List;", sig := { parameters := [(.array (.object "java/lang/Object"))], returnType := some (.object "java/util/List") }, accessFlags := 137, code := some k6c2 }
def k6c3 : Code := { maxStack := 1, maxLocals := 1, code := jdk_40_method_48_code, exceptionTable := #[], attributes := #[] }
def k6m3 : Method := { name := "copyOf", desc := "(Ljava/util/Collection;)Ljava/util/List;", sig := { parameters := [(.object "java/util/Collection")], returnType := some (.object "java/util/List") }, accessFlags := 9, code := some k6c3 }
/-- java/util/List -/
def k6 : Class := { plain "java/util/List" (some 0) with
  accessFlags := 1537
  interfaces := #[5]
  cf := some (fileOf pool6 8 #[] #[{ accessFlags := 1025, nameIndex := 79, descriptorIndex := 80, attributes := #[] }, { accessFlags := 1025, nameIndex := 75, descriptorIndex := 76, attributes := #[] }, { accessFlags := 137, nameIndex := 88, descriptorIndex := 108, attributes := #[] }, { accessFlags := 9, nameIndex := 234, descriptorIndex := 115, attributes := #[] }] 1537 103 #[120] #[])
  fields := #[]
  methods := #[k6m0, k6m1, k6m2, k6m3]
  instanceTypes := #[]
  staticTypes := #[]
  resolved := Array.replicate 251 none
  statics := none }

def pool7 : Array CpInfo := pool [(1, .methodref 2 3), (0, .class_ 4), (0, .nameAndType 5 6), (0, u "java/util/AbstractCollection"), (0, u "<init>"), (0, u "()V"), (0, .fieldref 8 9), (0, .class_ 10), (0, .nameAndType 11 12), (0, u "java/util/AbstractList"), (0, u "modCount"), (0, u "I"), (64, .class_ 78), (0, u "java/util/AbstractList$Itr"), (3, .class_ 83), (0, u "java/util/AbstractList$ListItr"), (9, .class_ 94), (0, u "java/util/AbstractList$RandomAccessSubList"), (3, .class_ 99), (0, u "java/util/AbstractList$SubList"), (33, .class_ 134), (0, u "java/util/List"), (73, .class_ 209), (0, u "java/util/AbstractList$SubList$1"), (0, .class_ 211), (0, u "java/util/AbstractList$RandomAccessSpliterator")] 6

def k7c0 : Code := { maxStack := 2, maxLocals := 1, code := jdk_39_method_1_code, exceptionTable := #[], attributes := #[] }
def k7m0 : Method := { name := "<init>", desc := "()V", sig := { parameters := [], returnType := none }, accessFlags := 4, code := some k7c0 }
/-- java/util/AbstractList -/
def k7 : Class := { plain "java/util/AbstractList" (some 4) with
  accessFlags := 1057
  interfaces := #[6]
  cf := some (fileOf pool7 8 #[.nestMembers #[93, 98, 208, 210, 82, 77]] #[{ accessFlags := 4, nameIndex := 5, descriptorIndex := 6, attributes := #[] }] 1057 2 #[133] #[{ accessFlags := 132, nameIndex := 11, descriptorIndex := 12, attributes := #[] }])
  fields := #[{ name := "modCount", type := .int, accessFlags := 132, slot := 0, constantValue := 0 }]
  methods := #[k7m0]
  instanceTypes := #[.int]
  staticTypes := #[]
  resolved := Array.replicate 218 none
  statics := none }

def pool8 : Array CpInfo := pool [(1, .class_ 2), (0, u "java/util/RandomAccess"), (0, .class_ 4), (0, u "java/lang/Object")] 2

/-- java/util/RandomAccess -/
def k8 : Class := { plain "java/util/RandomAccess" (some 0) with
  accessFlags := 1537
  interfaces := #[]
  cf := some (fileOf pool8 1 #[] #[] 1537 3 #[] #[])
  fields := #[]
  methods := #[]
  instanceTypes := #[]
  staticTypes := #[]
  resolved := Array.replicate 7 none
  statics := none }

def pool9 : Array CpInfo := pool [(1, .class_ 2), (0, u "java/lang/Cloneable"), (0, .class_ 4), (0, u "java/lang/Object")] 2

/-- java/lang/Cloneable -/
def k9 : Class := { plain "java/lang/Cloneable" (some 0) with
  accessFlags := 1537
  interfaces := #[]
  cf := some (fileOf pool9 1 #[] #[] 1537 3 #[] #[])
  fields := #[]
  methods := #[]
  instanceTypes := #[]
  staticTypes := #[]
  resolved := Array.replicate 7 none
  statics := none }

def pool10 : Array CpInfo := pool [(1, .class_ 2), (0, u "java/io/Serializable"), (0, .class_ 4), (0, u "java/lang/Object")] 2

/-- java/io/Serializable -/
def k10 : Class := { plain "java/io/Serializable" (some 0) with
  accessFlags := 1537
  interfaces := #[]
  cf := some (fileOf pool10 1 #[] #[] 1537 3 #[] #[])
  fields := #[]
  methods := #[]
  instanceTypes := #[]
  staticTypes := #[]
  resolved := Array.replicate 7 none
  statics := none }

def pool11 : Array CpInfo := pool [(1, .methodref 2 3), (0, .class_ 4), (0, .nameAndType 5 6), (0, u "java/util/AbstractList"), (0, u "<init>"), (0, u "()V"), (0, .class_ 8), (0, u "java/lang/Object"), (0, .fieldref 10 11), (0, .class_ 12), (0, .nameAndType 13 14), (0, u "java/util/ArrayList"), (0, u "elementData"), (0, u "[Ljava/lang/Object;"), (2, u "EMPTY_ELEMENTDATA"), (21, .fieldref 10 40), (0, .nameAndType 41 14), (0, u "DEFAULTCAPACITY_EMPTY_ELEMENTDATA"), (4, u "toArray"), (0, u "()[Ljava/lang/Object;"), (0, .fieldref 10 49), (0, .nameAndType 50 51), (0, u "size"), (0, u "I"), (6, .class_ 60), (1, u "java/util/Arrays"), (0, u "copyOf"), (1, .fieldref 10 64), (0, .nameAndType 65 51), (0, u "modCount"), (0, .methodref 58 67), (0, .nameAndType 61 68), (0, u "([Ljava/lang/Object;I)[Ljava/lang/Object;"), (0, .methodref 10 70), (0, .nameAndType 71 72), (0, u "grow"), (0, u "(I)[Ljava/lang/Object;"), (6, .methodref 80 81), (0, .class_ 82), (0, .nameAndType 83 84), (0, u "java/lang/Math"), (0, u "max"), (0, u "(II)I"), (11, u "(Ljava/lang/Object;)Z"), (21, .methodref 119 120), (0, .class_ 121), (0, .nameAndType 122 84), (0, u "java/util/Objects"), (0, u "checkIndex"), (0, .methodref 10 124), (0, .nameAndType 13 125), (0, u "(I)Ljava/lang/Object;"), (3, .methodref 10 130), (0, .nameAndType 71 47), (0, .methodref 10 132), (0, .nameAndType 133 134), (0, u "add"), (0, u "(Ljava/lang/Object;[Ljava/lang/Object;I)V"), (13, .class_ 149), (0, u "java/util/List"), (23, u "()Z"), (12, u "()I"), (75, .class_ 263), (0, u "java/util/ArrayList$ListItr"), (3, .class_ 268), (0, u "java/util/ArrayList$Itr"), (7, .class_ 277), (0, u "java/util/ArrayList$SubList"), (12, .class_ 291), (0, u "java/util/ArrayList$ArrayListSpliterator"), (37, .class_ 330), (0, u "java/util/RandomAccess"), (0, .class_ 332), (0, u "java/lang/Cloneable"), (0, .class_ 334), (0, u "java/io/Serializable"), (0, u "serialVersionUID"), (0, u "J"), (3, u "DEFAULT_CAPACITY"), (22, u "isEmpty"), (17, u "get"), (4, u "set"), (0, u "(ILjava/lang/Object;)Ljava/lang/Object;"), (112, .class_ 501), (0, u "java/util/ArrayList$SubList$2"), (0, .class_ 503), (0, u "java/util/ArrayList$SubList$1")] 5

def k11c0 : Code := { maxStack := 2, maxLocals := 1, code := jdk_38_method_2_code, exceptionTable := #[], attributes := #[] }
def k11m0 : Method := { name := "<init>", desc := "()V", sig := { parameters := [], returnType := none }, accessFlags := 1, code := some k11c0 }
def k11c1 : Code := { maxStack := 4, maxLocals := 4, code := jdk_38_method_6_code, exceptionTable := #[], attributes := #[] }
def k11m1 : Method := { name := "grow", desc := "(I)[Ljava/lang/Object;", sig := { parameters := [.int], returnType := some (.array (.object "java/lang/Object")) }, accessFlags := 2, code := some k11c1 }
def k11c2 : Code := { maxStack := 3, maxLocals := 1, code := jdk_38_method_7_code, exceptionTable := #[], attributes := #[] }
def k11m2 : Method := { name := "grow", desc := "()[Ljava/lang/Object;", sig := { parameters := [], returnType := some (.array (.object "java/lang/Object")) }, accessFlags := 2, code := some k11c2 }
def k11c3 : Code := { maxStack := 1, maxLocals := 1, code := jdk_38_method_8_code, exceptionTable := #[], attributes := #[] }
def k11m3 : Method := { name := "size", desc := "()I", sig := { parameters := [], returnType := some .int }, accessFlags := 1, code := some k11c3 }
def k11c4 : Code := { maxStack := 1, maxLocals := 1, code := jdk_38_method_9_code, exceptionTable := #[], attributes := #[] }
def k11m4 : Method := { name := "isEmpty", desc := "()Z", sig := { parameters := [], returnType := some .boolean }, accessFlags := 1, code := some k11c4 }
def k11c5 : Code := { maxStack := 2, maxLocals := 1, code := jdk_38_method_16_code, exceptionTable := #[], attributes := #[] }
def k11m5 : Method := { name := "toArray", desc := "()[Ljava/lang/Object;", sig := { parameters := [], returnType := some (.array (.object "java/lang/Object")) }, accessFlags := 1, code := some k11c5 }
def k11c6 : Code := { maxStack := 2, maxLocals := 2, code := jdk_38_method_18_code, exceptionTable := #[], attributes := #[] }
def k11m6 : Method := { name := "elementData", desc := "(I)Ljava/lang/Object;", sig := { parameters := [.int], returnType := some (.object "java/lang/Object") }, accessFlags := 0, code := some k11c6 }
def k11c7 : Code := { maxStack := 2, maxLocals := 2, code := jdk_38_method_20_code, exceptionTable := #[], attributes := #[] }
def k11m7 : Method := { name := "get", desc := "(I)Ljava/lang/Object;", sig := { parameters := [.int], returnType := some (.object "java/lang/Object") }, accessFlags := 1, code := some k11c7 }
def k11c8 : Code := { maxStack := 3, maxLocals := 4, code := jdk_38_method_23_code, exceptionTable := #[], attributes := #[] }
def k11m8 : Method := { name := "set", desc := "(ILjava/lang/Object;)Ljava/lang/Object;", sig := { parameters := [.int, (.object "java/lang/Object")], returnType := some (.object "java/lang/Object") }, accessFlags := 1, code := some k11c8 }
def k11c9 : Code := { maxStack := 3, maxLocals := 4, code := jdk_38_method_24_code, exceptionTable := #[], attributes := #[] }
def k11m9 : Method := { name := "add", desc := "(Ljava/lang/Object;[Ljava/lang/Object;I)V", sig := { parameters := [(.object "java/lang/Object"), (.array (.object "java/lang/Object")), .int], returnType := none }, accessFlags := 2, code := some k11c9 }
def k11c10 : Code := { maxStack := 4, maxLocals := 2, code := jdk_38_method_25_code, exceptionTable := #[], attributes := #[] }
def k11m10 : Method := { name := "add", desc := "(Ljava/lang/Object;)Z", sig := { parameters := [(.object "java/lang/Object")], returnType := some .boolean }, accessFlags := 1, code := some k11c10 }
/-- java/util/ArrayList -/
def k11 : Class := { plain "java/util/ArrayList" (some 7) with
  accessFlags := 33
  interfaces := #[6, 8, 9, 10]
  cf := some (fileOf pool11 10 #[.nestMembers #[290, 276, 500, 502, 262, 267]] #[{ accessFlags := 1, nameIndex := 5, descriptorIndex := 6, attributes := #[] }, { accessFlags := 2, nameIndex := 71, descriptorIndex := 72, attributes := #[] }, { accessFlags := 2, nameIndex := 71, descriptorIndex := 47, attributes := #[] }, { accessFlags := 1, nameIndex := 50, descriptorIndex := 186, attributes := #[] }, { accessFlags := 1, nameIndex := 363, descriptorIndex := 173, attributes := #[] }, { accessFlags := 1, nameIndex := 46, descriptorIndex := 47, attributes := #[] }, { accessFlags := 0, nameIndex := 13, descriptorIndex := 125, attributes := #[] }, { accessFlags := 1, nameIndex := 381, descriptorIndex := 125, attributes := #[] }, { accessFlags := 1, nameIndex := 386, descriptorIndex := 387, attributes := #[] }, { accessFlags := 2, nameIndex := 133, descriptorIndex := 134, attributes := #[] }, { accessFlags := 1, nameIndex := 133, descriptorIndex := 96, attributes := #[] }] 33 2 #[148, 329, 331, 333] #[{ accessFlags := 26, nameIndex := 335, descriptorIndex := 336, attributes := #[] }, { accessFlags := 26, nameIndex := 340, descriptorIndex := 51, attributes := #[] }, { accessFlags := 26, nameIndex := 17, descriptorIndex := 14, attributes := #[] }, { accessFlags := 26, nameIndex := 41, descriptorIndex := 14, attributes := #[] }, { accessFlags := 128, nameIndex := 13, descriptorIndex := 14, attributes := #[] }, { accessFlags := 2, nameIndex := 50, descriptorIndex := 51, attributes := #[] }])
  fields := #[{ name := "serialVersionUID", type := .long, accessFlags := 26, slot := 0, constantValue := 0 }, { name := "DEFAULT_CAPACITY", type := .int, accessFlags := 26, slot := 1, constantValue := 0 }, { name := "EMPTY_ELEMENTDATA", type := (.array (.object "java/lang/Object")), accessFlags := 26, slot := 2, constantValue := 0 }, { name := "DEFAULTCAPACITY_EMPTY_ELEMENTDATA", type := (.array (.object "java/lang/Object")), accessFlags := 26, slot := 3, constantValue := 0 }, { name := "elementData", type := (.array (.object "java/lang/Object")), accessFlags := 128, slot := 1, constantValue := 0 }, { name := "size", type := .int, accessFlags := 2, slot := 2, constantValue := 0 }]
  methods := #[k11m0, k11m1, k11m2, k11m3, k11m4, k11m5, k11m6, k11m7, k11m8, k11m9, k11m10]
  instanceTypes := #[.int, (.array (.object "java/lang/Object")), .int]
  staticTypes := #[.long, .int, (.array (.object "java/lang/Object")), (.array (.object "java/lang/Object"))]
  resolved := Array.replicate 509 none
  statics := some 0 }

def pool12 : Array CpInfo := pool [(1, .class_ 2), (0, u "java/lang/Comparable"), (0, .class_ 4), (0, u "java/lang/Object")] 7

/-- java/lang/Comparable -/
def k12 : Class := { plain "java/lang/Comparable" (some 0) with
  accessFlags := 1537
  interfaces := #[]
  cf := some (fileOf pool12 1 #[] #[] 1537 3 #[] #[])
  fields := #[]
  methods := #[]
  instanceTypes := #[]
  staticTypes := #[]
  resolved := Array.replicate 12 none
  statics := none }

def pool13 : Array CpInfo := pool [(2, .class_ 4), (1, u "java/lang/CharSequence"), (42, .class_ 48), (0, u "java/lang/CharSequence$1CodePointIterator"), (10, .class_ 60), (0, u "java/lang/CharSequence$1CharIterator"), (5, .class_ 67), (0, u "java/lang/Object")] 63

/-- java/lang/CharSequence -/
def k13 : Class := { plain "java/lang/CharSequence" (some 0) with
  accessFlags := 1537
  interfaces := #[]
  cf := some (fileOf pool13 2 #[.nestMembers #[47, 59]] #[] 1537 66 #[] #[])
  fields := #[]
  methods := #[]
  instanceTypes := #[]
  staticTypes := #[]
  resolved := Array.replicate 131 none
  statics := none }

def pool14 : Array CpInfo := pool [(1, .class_ 2), (0, u "java/lang/constant/Constable"), (0, .class_ 4), (0, u "java/lang/Object")] 6

/-- java/lang/constant/Constable -/
def k14 : Class := { plain "java/lang/constant/Constable" (some 0) with
  accessFlags := 1537
  interfaces := #[]
  cf := some (fileOf pool14 1 #[] #[] 1537 3 #[] #[])
  fields := #[]
  methods := #[]
  instanceTypes := #[]
  staticTypes := #[]
  resolved := Array.replicate 11 none
  statics := none }

def pool15 : Array CpInfo := pool [(1, .class_ 2), (0, u "java/lang/constant/ConstantDesc"), (0, .class_ 4), (0, u "java/lang/Object")] 32

/-- java/lang/constant/ConstantDesc -/
def k15 : Class := { plain "java/lang/constant/ConstantDesc" (some 0) with
  accessFlags := 1537
  interfaces := #[]
  cf := some (fileOf pool15 1 #[] #[] 1537 3 #[] #[])
  fields := #[]
  methods := #[]
  instanceTypes := #[]
  staticTypes := #[]
  resolved := Array.replicate 37 none
  statics := none }

def pool16 : Array CpInfo := pool [(1, .methodref 2 3), (0, .class_ 4), (0, .nameAndType 5 6), (0, u "java/lang/Object"), (0, u "<init>"), (0, u "()V"), (2, .fieldref 10 11), (0, .class_ 12), (0, .nameAndType 13 14), (0, u "java/lang/String"), (0, u "value"), (0, u "[B"), (0, .fieldref 10 16), (0, .nameAndType 17 18), (0, u "coder"), (0, u "B"), (2, u "hash"), (0, u "I"), (2, u "hashIsZero"), (0, u "Z"), (0, .methodref 10 28), (0, .nameAndType 5 29), (0, u "([CIILjava/lang/Void;)V"), (8, .fieldref 10 39), (0, .nameAndType 40 26), (0, u "COMPACT_STRINGS"), (1, .class_ 44), (1, u "java/lang/StringUTF16"), (0, u "compress"), (1, .methodref 42 48), (0, .nameAndType 49 50), (0, u "coderFromArrayLen"), (0, u "([BI)B"), (126, .methodref 42 178), (0, .nameAndType 45 179), (0, u "([CII)[B"), (363, u "equals"), (29, u "(Ljava/lang/Object;)Z"), (1, .class_ 576), (0, u "java/lang/CharSequence"), (22, u "CASE_INSENSITIVE_ORDER"), (0, u "Ljava/util/Comparator;"), (409, u "([C)V"), (90, u "serialPersistentFields"), (0, u "[Ljava/io/ObjectStreamField;"), (0, .class_ 1104), (0, u "java/lang/String$CaseInsensitiveComparator"), (1, .class_ 1107), (0, u "java/io/Serializable"), (0, .class_ 1109), (0, u "java/lang/Comparable"), (0, .class_ 1111), (0, u "java/lang/constant/Constable"), (0, .class_ 1113), (0, u "java/lang/constant/ConstantDesc"), (2, u "serialVersionUID"), (0, u "J"), (3, u "REPL"), (0, u "C"), (2, u "LATIN1"), (1, u "UTF16")] 323

def k16m0 : Method := { name := "<init>", desc := "()V", sig := { parameters := [], returnType := none }, accessFlags := 1, code := none }
def k16c1 : Code := { maxStack := 5, maxLocals := 2, code := jdk_42_method_3_code, exceptionTable := #[], attributes := #[] }
def k16m1 : Method := { name := "<init>", desc := "([C)V", sig := { parameters := [(.array .char)], returnType := none }, accessFlags := 1, code := some k16c1 }
def k16c2 : Code := { maxStack := 2, maxLocals := 3, code := jdk_42_method_66_code, exceptionTable := #[], attributes := #[] }
def k16m2 : Method := { name := "equals", desc := "(Ljava/lang/Object;)Z", sig := { parameters := [(.object "java/lang/Object")], returnType := some .boolean }, accessFlags := 1, code := some k16c2 }
def k16c3 : Code := { maxStack := 4, maxLocals := 6, code := jdk_42_method_149_code, exceptionTable := #[], attributes := #[] }
def k16m3 : Method := { name := "<init>", desc := "([CIILjava/lang/Void;)V", sig := { parameters := [(.array .char), .int, .int, (.object "java/lang/Void")], returnType := none }, accessFlags := 2, code := some k16c3 }
/-- java/lang/String -/
def k16 : Class := { plain "java/lang/String" (some 0) with
  accessFlags := 49
  interfaces := #[10, 12, 13, 14, 15]
  cf := some (fileOf pool16 10 #[.nestMembers #[1103]] #[{ accessFlags := 1, nameIndex := 5, descriptorIndex := 6, attributes := #[] }, { accessFlags := 1, nameIndex := 5, descriptorIndex := 1010, attributes := #[] }, { accessFlags := 1, nameIndex := 543, descriptorIndex := 573, attributes := #[] }, { accessFlags := 2, nameIndex := 5, descriptorIndex := 29, attributes := #[] }] 49 2 #[1106, 1108, 575, 1110, 1112] #[{ accessFlags := 18, nameIndex := 13, descriptorIndex := 14, attributes := #[] }, { accessFlags := 18, nameIndex := 17, descriptorIndex := 18, attributes := #[] }, { accessFlags := 2, nameIndex := 21, descriptorIndex := 22, attributes := #[] }, { accessFlags := 2, nameIndex := 25, descriptorIndex := 26, attributes := #[] }, { accessFlags := 26, nameIndex := 1116, descriptorIndex := 1117, attributes := #[] }, { accessFlags := 24, nameIndex := 40, descriptorIndex := 26, attributes := #[] }, { accessFlags := 26, nameIndex := 1101, descriptorIndex := 1102, attributes := #[] }, { accessFlags := 26, nameIndex := 1121, descriptorIndex := 1122, attributes := #[] }, { accessFlags := 25, nameIndex := 599, descriptorIndex := 600, attributes := #[] }, { accessFlags := 24, nameIndex := 1125, descriptorIndex := 18, attributes := #[] }, { accessFlags := 24, nameIndex := 1127, descriptorIndex := 18, attributes := #[] }])
  fields := #[{ name := "value", type := (.array .byte), accessFlags := 18, slot := 0, constantValue := 0 }, { name := "coder", type := .byte, accessFlags := 18, slot := 1, constantValue := 0 }, { name := "hash", type := .int, accessFlags := 2, slot := 2, constantValue := 0 }, { name := "hashIsZero", type := .boolean, accessFlags := 2, slot := 3, constantValue := 0 }, { name := "serialVersionUID", type := .long, accessFlags := 26, slot := 0, constantValue := 0 }, { name := "COMPACT_STRINGS", type := .boolean, accessFlags := 24, slot := 1, constantValue := 0 }, { name := "serialPersistentFields", type := (.array (.object "java/io/ObjectStreamField")), accessFlags := 26, slot := 2, constantValue := 0 }, { name := "REPL", type := .char, accessFlags := 26, slot := 3, constantValue := 0 }, { name := "CASE_INSENSITIVE_ORDER", type := (.object "java/util/Comparator"), accessFlags := 25, slot := 4, constantValue := 0 }, { name := "LATIN1", type := .byte, accessFlags := 24, slot := 5, constantValue := 0 }, { name := "UTF16", type := .byte, accessFlags := 24, slot := 6, constantValue := 0 }]
  methods := #[k16m0, k16m1, k16m2, k16m3]
  instanceTypes := #[(.array .byte), .byte, .int, .boolean]
  staticTypes := #[.long, .boolean, (.array (.object "java/io/ObjectStreamField")), .char, (.object "java/util/Comparator"), .byte, .byte]
  resolved := Array.replicate 1451 none
  statics := some 1 }

def pool17 : Array CpInfo := pool [(6, .class_ 8), (1, u "java/lang/Object"), (0, u "<init>"), (0, u "()V"), (1, .class_ 14), (1, u "java/lang/StringUTF16"), (31, u "$assertionsDisabled"), (0, u "Z"), (13, u "HI_BYTE_SHIFT"), (0, u "I"), (2, u "LO_BYTE_SHIFT"), (49, .methodref 12 116), (0, .nameAndType 117 118), (0, u "compress"), (0, u "([CI[BII)I"), (3, u "([CII)[B"), (138, u "coderFromArrayLen"), (0, u "([BI)B"), (106, .class_ 371), (1, u "java/lang/StringUTF16$LinesSpliterator"), (58, u "MAX_LENGTH"), (196, .class_ 628), (0, u "java/lang/StringUTF16$CodePointsSpliterator"), (0, .class_ 630), (0, u "java/lang/StringUTF16$CharsSpliterator")] 4

def k17m0 : Method := { name := "<init>", desc := "()V", sig := { parameters := [], returnType := none }, accessFlags := 0, code := none }
def k17c1 : Code := { maxStack := 2, maxLocals := 2, code := jdk_52_method_15_code, exceptionTable := #[], attributes := #[] }
def k17m1 : Method := { name := "coderFromArrayLen", desc := "([BI)B", sig := { parameters := [(.array .byte), .int], returnType := some .byte }, accessFlags := 8, code := some k17c1 }
def k17c2 : Code := { maxStack := 5, maxLocals := 6, code := jdk_52_method_16_code, exceptionTable := #[], attributes := #[] }
def k17m2 : Method := { name := "compress", desc := "([CII)[B", sig := { parameters := [(.array .char), .int, .int], returnType := some (.array .byte) }, accessFlags := 9, code := some k17c2 }
def k17c3 : Code := { maxStack := 3, maxLocals := 7, code := jdk_52_method_21_code, exceptionTable := #[], attributes := #[] }
def k17m3 : Method := { name := "compress", desc := "([CI[BII)I", sig := { parameters := [(.array .char), .int, (.array .byte), .int, .int], returnType := some .int }, accessFlags := 9, code := some k17c3 }
/-- java/lang/StringUTF16 -/
def k17 : Class := { plain "java/lang/StringUTF16" (some 0) with
  accessFlags := 48
  interfaces := #[]
  cf := some (fileOf pool17 12 #[.nestMembers #[627, 629, 369]] #[{ accessFlags := 0, nameIndex := 9, descriptorIndex := 10, attributes := #[] }, { accessFlags := 8, nameIndex := 261, descriptorIndex := 262, attributes := #[] }, { accessFlags := 9, nameIndex := 117, descriptorIndex := 122, attributes := #[] }, { accessFlags := 9, nameIndex := 117, descriptorIndex := 118, attributes := #[] }] 48 6 #[] #[{ accessFlags := 26, nameIndex := 61, descriptorIndex := 62, attributes := #[] }, { accessFlags := 26, nameIndex := 65, descriptorIndex := 62, attributes := #[] }, { accessFlags := 24, nameIndex := 430, descriptorIndex := 62, attributes := #[] }, { accessFlags := 4120, nameIndex := 46, descriptorIndex := 47, attributes := #[] }])
  fields := #[{ name := "HI_BYTE_SHIFT", type := .int, accessFlags := 26, slot := 0, constantValue := 0 }, { name := "LO_BYTE_SHIFT", type := .int, accessFlags := 26, slot := 1, constantValue := 0 }, { name := "MAX_LENGTH", type := .int, accessFlags := 24, slot := 2, constantValue := 0 }, { name := "$assertionsDisabled", type := .boolean, accessFlags := 4120, slot := 3, constantValue := 0 }]
  methods := #[k17m0, k17m1, k17m2, k17m3]
  instanceTypes := #[]
  staticTypes := #[.int, .int, .int, .boolean]
  resolved := Array.replicate 635 none
  statics := none }

def pool18 : Array CpInfo := pool [(1, .class_ 2), (0, u "java/lang/Math"), (1, .class_ 6), (1, u "java/lang/Object"), (0, u "<init>"), (0, u "()V"), (89, .class_ 100), (1, u "java/lang/Math$RandomNumberGeneratorHolder"), (71, u "negativeZeroFloatBits"), (0, u "J"), (2, u "negativeZeroDoubleBits"), (21, u "max"), (2, u "min"), (43, u "$assertionsDisabled"), (0, u "Z"), (88, u "(II)I"), (2, u "twoToTheDoubleScaleDown"), (0, u "D"), (4, u "twoToTheDoubleScaleUp"), (9, u "E"), (3, u "PI"), (2, u "TAU"), (2, u "DEGREES_TO_RADIANS"), (0, u "RADIANS_TO_DEGREES")] 94

def k18m0 : Method := { name := "<init>", desc := "()V", sig := { parameters := [], returnType := none }, accessFlags := 2, code := none }
def k18c1 : Code := { maxStack := 2, maxLocals := 2, code := jdk_29_method_65_code, exceptionTable := #[], attributes := #[] }
def k18m1 : Method := { name := "max", desc := "(II)I", sig := { parameters := [.int, .int], returnType := some .int }, accessFlags := 9, code := some k18c1 }
def k18c2 : Code := { maxStack := 2, maxLocals := 2, code := jdk_29_method_69_code, exceptionTable := #[], attributes := #[] }
def k18m2 : Method := { name := "min", desc := "(II)I", sig := { parameters := [.int, .int], returnType := some .int }, accessFlags := 9, code := some k18c2 }
/-- java/lang/Math -/
def k18 : Class := { plain "java/lang/Math" (some 0) with
  accessFlags := 49
  interfaces := #[]
  cf := some (fileOf pool18 1 #[.nestMembers #[98]] #[{ accessFlags := 2, nameIndex := 7, descriptorIndex := 8, attributes := #[] }, { accessFlags := 9, nameIndex := 198, descriptorIndex := 335, attributes := #[] }, { accessFlags := 9, nameIndex := 201, descriptorIndex := 335, attributes := #[] }] 49 4 #[] #[{ accessFlags := 25, nameIndex := 354, descriptorIndex := 339, attributes := #[] }, { accessFlags := 25, nameIndex := 358, descriptorIndex := 339, attributes := #[] }, { accessFlags := 25, nameIndex := 361, descriptorIndex := 339, attributes := #[] }, { accessFlags := 26, nameIndex := 364, descriptorIndex := 339, attributes := #[] }, { accessFlags := 26, nameIndex := 365, descriptorIndex := 339, attributes := #[] }, { accessFlags := 26, nameIndex := 172, descriptorIndex := 173, attributes := #[] }, { accessFlags := 26, nameIndex := 176, descriptorIndex := 173, attributes := #[] }, { accessFlags := 8, nameIndex := 344, descriptorIndex := 339, attributes := #[] }, { accessFlags := 8, nameIndex := 338, descriptorIndex := 339, attributes := #[] }, { accessFlags := 4120, nameIndex := 245, descriptorIndex := 246, attributes := #[] }])
  fields := #[{ name := "E", type := .double, accessFlags := 25, slot := 0, constantValue := 0 }, { name := "PI", type := .double, accessFlags := 25, slot := 1, constantValue := 0 }, { name := "TAU", type := .double, accessFlags := 25, slot := 2, constantValue := 0 }, { name := "DEGREES_TO_RADIANS", type := .double, accessFlags := 26, slot := 3, constantValue := 0 }, { name := "RADIANS_TO_DEGREES", type := .double, accessFlags := 26, slot := 4, constantValue := 0 }, { name := "negativeZeroFloatBits", type := .long, accessFlags := 26, slot := 5, constantValue := 0 }, { name := "negativeZeroDoubleBits", type := .long, accessFlags := 26, slot := 6, constantValue := 0 }, { name := "twoToTheDoubleScaleUp", type := .double, accessFlags := 8, slot := 7, constantValue := 0 }, { name := "twoToTheDoubleScaleDown", type := .double, accessFlags := 8, slot := 8, constantValue := 0 }, { name := "$assertionsDisabled", type := .boolean, accessFlags := 4120, slot := 9, constantValue := 0 }]
  methods := #[k18m0, k18m1, k18m2]
  instanceTypes := #[]
  staticTypes := #[.double, .double, .double, .double, .double, .long, .long, .double, .double, .boolean]
  resolved := Array.replicate 460 none
  statics := none }

def pool19 : Array CpInfo := pool [(1, .methodref 2 3), (0, .class_ 4), (0, .nameAndType 5 6), (0, u "java/util/AbstractList"), (0, u "<init>"), (0, u "()V"), (0, .interfaceMethodref 8 9), (0, .class_ 10), (0, .nameAndType 11 12), (0, u "java/util/List"), (0, u "copyOf"), (0, u "(Ljava/util/Collection;)Ljava/util/List;"), (0, .fieldref 14 15), (0, .class_ 16), (0, .nameAndType 17 18), (0, u "com/example/vertere/vertere/engine/Answers"), (0, u "tuples"), (0, u "Ljava/util/List;"), (0, .fieldref 14 20), (0, .nameAndType 21 22), (0, u "consistent"), (0, u "Z"), (0, .fieldref 14 24), (0, .nameAndType 25 26), (0, u "contradiction"), (0, u "Ljava/util/Optional;"), (0, .interfaceMethodref 8 28), (0, .nameAndType 29 30), (0, u "get"), (0, u "(I)Ljava/lang/Object;"), (6, u "(I)Ljava/util/List;"), (3, u "(Ljava/util/List;ZLjava/util/Optional;)V")] 13

def k19c0 : Code := { maxStack := 2, maxLocals := 4, code := prog_6_method_1_code, exceptionTable := #[], attributes := #[] }
def k19m0 : Method := { name := "<init>", desc := "(Ljava/util/List;ZLjava/util/Optional;)V", sig := { parameters := [(.object "java/util/List"), .boolean, (.object "java/util/Optional")], returnType := none }, accessFlags := 0, code := some k19c0 }
def k19c1 : Code := { maxStack := 2, maxLocals := 2, code := prog_6_method_4_code, exceptionTable := #[], attributes := #[] }
def k19m1 : Method := { name := "get", desc := "(I)Ljava/util/List;", sig := { parameters := [.int], returnType := some (.object "java/util/List") }, accessFlags := 1, code := some k19c1 }
/-- com/example/vertere/vertere/engine/Answers -/
def k19 : Class := { plain "com/example/vertere/vertere/engine/Answers" (some 7) with
  accessFlags := 33
  interfaces := #[]
  cf := some (fileOf pool19 14 #[] #[{ accessFlags := 0, nameIndex := 5, descriptorIndex := 41, attributes := #[] }, { accessFlags := 1, nameIndex := 29, descriptorIndex := 37, attributes := #[] }] 33 2 #[] #[{ accessFlags := 18, nameIndex := 17, descriptorIndex := 18, attributes := #[] }, { accessFlags := 18, nameIndex := 21, descriptorIndex := 22, attributes := #[] }, { accessFlags := 18, nameIndex := 25, descriptorIndex := 26, attributes := #[] }])
  fields := #[{ name := "tuples", type := (.object "java/util/List"), accessFlags := 18, slot := 1, constantValue := 0 }, { name := "consistent", type := .boolean, accessFlags := 18, slot := 2, constantValue := 0 }, { name := "contradiction", type := (.object "java/util/Optional"), accessFlags := 18, slot := 3, constantValue := 0 }]
  methods := #[k19m0, k19m1]
  instanceTypes := #[.int, (.object "java/util/List"), .boolean, (.object "java/util/Optional")]
  staticTypes := #[]
  resolved := Array.replicate 55 none
  statics := none }

def pool20 : Array CpInfo := pool [(2, .class_ 4), (1, u "java/lang/Object"), (0, u "<init>"), (0, u "()V"), (3, .class_ 11), (0, u "java/util/ImmutableCollections$List12"), (0, .class_ 13), (0, u "java/util/ImmutableCollections$ListN"), (3, u "Z"), (0, .class_ 19), (0, u "java/util/List"), (0, .interfaceMethodref 21 22), (0, .class_ 23), (0, .nameAndType 24 25), (0, u "java/util/Collection"), (0, u "isEmpty"), (0, u "()Z"), (2, u "of"), (1, .interfaceMethodref 21 31), (0, .nameAndType 32 33), (0, u "toArray"), (0, u "()[Ljava/lang/Object;"), (0, .interfaceMethodref 18 35), (0, .nameAndType 28 36), (0, u "([Ljava/lang/Object;)Ljava/util/List;"), (0, .methodref 38 39), (0, .class_ 40), (0, .nameAndType 41 42), (0, u "java/util/Objects"), (0, u "requireNonNull"), (0, u "(Ljava/lang/Object;)Ljava/lang/Object;"), (0, .methodref 12 44), (0, .nameAndType 5 45), (0, u "([Ljava/lang/Object;Z)V"), (1, .class_ 49), (1, u "java/util/ImmutableCollections"), (0, u "$assertionsDisabled"), (5, u "[Ljava/lang/Object;"), (5, u "EMPTY_LIST"), (0, u "Ljava/util/ImmutableCollections$ListN;"), (8, u "EMPTY_LIST_NULLS"), (22, u "SALT32L"), (0, u "J"), (2, u "REVERSE"), (6, u "archivedObjects"), (2, u "EMPTY"), (0, u "Ljava/lang/Object;"), (0, .class_ 112), (0, u "java/util/ImmutableCollections$SetN"), (5, u "EMPTY_SET"), (0, u "Ljava/util/ImmutableCollections$SetN;"), (0, .class_ 121), (0, u "java/util/ImmutableCollections$MapN"), (3, u "EMPTY_MAP"), (0, u "Ljava/util/ImmutableCollections$MapN;"), (4, u "EXPAND_FACTOR"), (0, u "I"), (9, u "listCopy"), (0, u "(Ljava/util/Collection;)Ljava/util/List;"), (7, u "listFromArray"), (17, .class_ 170), (0, u "java/util/ImmutableCollections$MapN$MapNIterator"), (0, .class_ 172), (0, u "java/util/ImmutableCollections$MapN$1"), (0, .class_ 174), (0, u "java/util/ImmutableCollections$Map1"), (0, .class_ 176), (0, u "java/util/ImmutableCollections$AbstractImmutableMap"), (0, .class_ 178), (0, u "java/util/ImmutableCollections$SetN$SetNIterator"), (0, .class_ 180), (0, u "java/util/ImmutableCollections$Set12"), (0, .class_ 182), (0, u "java/util/ImmutableCollections$Set12$1"), (0, .class_ 184), (0, u "java/util/ImmutableCollections$AbstractImmutableSet"), (0, .class_ 186), (0, u "java/util/ImmutableCollections$SubList"), (0, .class_ 188), (0, u "java/util/ImmutableCollections$ListItr"), (0, .class_ 190), (0, u "java/util/ImmutableCollections$AbstractImmutableList"), (0, .class_ 192), (0, u "java/util/ImmutableCollections$AbstractImmutableCollection"), (0, .class_ 194), (0, u "java/util/ImmutableCollections$Access"), (0, .class_ 196), (0, u "java/util/ImmutableCollections$Access$1")] 16

def k20m0 : Method := { name := "<init>", desc := "()V", sig := { parameters := [], returnType := none }, accessFlags := 2, code := none }
def k20c1 : Code := { maxStack := 1, maxLocals := 2, code := jdk_56_method_3_code, exceptionTable := #[], attributes := #[] }
def k20m1 : Method := { name := "listCopy", desc := "(Ljava/util/Collection;)Ljava/util/List;", sig := { parameters := [(.object "java/util/Collection")], returnType := some (.object "java/util/List") }, accessFlags := 8, code := some k20c1 }
def k20c2 : Code := { maxStack := 4, maxLocals := 3, code := jdk_56_method_4_code, exceptionTable := #[], attributes := #[] }
def k20m2 : Method := { name := "listFromArray", desc := "([Ljava/lang/Object;)Ljava/util/List;", sig := { parameters := [(.array (.object "java/lang/Object"))], returnType := some (.object "java/util/List") }, accessFlags := 136, code := some k20c2 }
/-- java/util/ImmutableCollections -/
def k20 : Class := { plain "java/util/ImmutableCollections" (some 0) with
  accessFlags := 32
  interfaces := #[]
  cf := some (fileOf pool20 47 #[.nestMembers #[120, 169, 171, 173, 175, 111, 177, 179, 181, 183, 12, 10, 185, 187, 189, 191, 193, 195]] #[{ accessFlags := 2, nameIndex := 5, descriptorIndex := 6, attributes := #[] }, { accessFlags := 8, nameIndex := 142, descriptorIndex := 143, attributes := #[] }, { accessFlags := 136, nameIndex := 151, descriptorIndex := 36, attributes := #[] }] 32 2 #[] #[{ accessFlags := 26, nameIndex := 95, descriptorIndex := 96, attributes := #[] }, { accessFlags := 26, nameIndex := 99, descriptorIndex := 17, attributes := #[] }, { accessFlags := 10, nameIndex := 106, descriptorIndex := 56, attributes := #[] }, { accessFlags := 26, nameIndex := 109, descriptorIndex := 110, attributes := #[] }, { accessFlags := 24, nameIndex := 62, descriptorIndex := 63, attributes := #[] }, { accessFlags := 24, nameIndex := 72, descriptorIndex := 63, attributes := #[] }, { accessFlags := 24, nameIndex := 118, descriptorIndex := 119, attributes := #[] }, { accessFlags := 24, nameIndex := 125, descriptorIndex := 126, attributes := #[] }, { accessFlags := 24, nameIndex := 131, descriptorIndex := 132, attributes := #[] }, { accessFlags := 4120, nameIndex := 50, descriptorIndex := 17, attributes := #[] }])
  fields := #[{ name := "SALT32L", type := .long, accessFlags := 26, slot := 0, constantValue := 0 }, { name := "REVERSE", type := .boolean, accessFlags := 26, slot := 1, constantValue := 0 }, { name := "archivedObjects", type := (.array (.object "java/lang/Object")), accessFlags := 10, slot := 2, constantValue := 0 }, { name := "EMPTY", type := (.object "java/lang/Object"), accessFlags := 26, slot := 3, constantValue := 0 }, { name := "EMPTY_LIST", type := (.object "java/util/ImmutableCollections$ListN"), accessFlags := 24, slot := 4, constantValue := 0 }, { name := "EMPTY_LIST_NULLS", type := (.object "java/util/ImmutableCollections$ListN"), accessFlags := 24, slot := 5, constantValue := 0 }, { name := "EMPTY_SET", type := (.object "java/util/ImmutableCollections$SetN"), accessFlags := 24, slot := 6, constantValue := 0 }, { name := "EMPTY_MAP", type := (.object "java/util/ImmutableCollections$MapN"), accessFlags := 24, slot := 7, constantValue := 0 }, { name := "EXPAND_FACTOR", type := .int, accessFlags := 24, slot := 8, constantValue := 0 }, { name := "$assertionsDisabled", type := .boolean, accessFlags := 4120, slot := 9, constantValue := 0 }]
  methods := #[k20m0, k20m1, k20m2]
  instanceTypes := #[]
  staticTypes := #[.long, .boolean, (.array (.object "java/lang/Object")), (.object "java/lang/Object"), (.object "java/util/ImmutableCollections$ListN"), (.object "java/util/ImmutableCollections$ListN"), (.object "java/util/ImmutableCollections$SetN"), (.object "java/util/ImmutableCollections$MapN"), .int, .boolean]
  resolved := Array.replicate 213 none
  statics := some 2 }

def pool21 : Array CpInfo := pool [(1, .methodref 2 3), (0, .class_ 4), (0, .nameAndType 5 6), (0, u "java/util/AbstractCollection"), (0, u "<init>"), (0, u "()V"), (1, .class_ 10), (1, u "java/util/ImmutableCollections"), (2, .class_ 14), (0, u "java/util/ImmutableCollections$AbstractImmutableCollection")] 41

def k21c0 : Code := { maxStack := 1, maxLocals := 1, code := jdk_47_method_1_code, exceptionTable := #[], attributes := #[] }
def k21m0 : Method := { name := "<init>", desc := "()V", sig := { parameters := [], returnType := none }, accessFlags := 0, code := some k21c0 }
/-- java/util/ImmutableCollections$AbstractImmutableCollection -/
def k21 : Class := { plain "java/util/ImmutableCollections$AbstractImmutableCollection" (some 4) with
  accessFlags := 1056
  interfaces := #[]
  cf := some (fileOf pool21 13 #[.nestHost 8] #[{ accessFlags := 0, nameIndex := 5, descriptorIndex := 6, attributes := #[] }] 1056 2 #[] #[])
  fields := #[]
  methods := #[k21m0]
  instanceTypes := #[]
  staticTypes := #[]
  resolved := Array.replicate 56 none
  statics := none }

def pool22 : Array CpInfo := pool [(1, .methodref 2 3), (0, .class_ 4), (0, .nameAndType 5 6), (0, u "java/util/ImmutableCollections$AbstractImmutableCollection"), (0, u "<init>"), (0, u "()V"), (1, .class_ 10), (1, u "java/util/ImmutableCollections"), (3, .class_ 16), (1, u "java/util/ImmutableCollections$AbstractImmutableList"), (60, .class_ 78), (0, u "java/util/List"), (45, .class_ 125), (0, u "java/util/RandomAccess")] 70

def k22c0 : Code := { maxStack := 1, maxLocals := 1, code := jdk_46_method_1_code, exceptionTable := #[], attributes := #[] }
def k22m0 : Method := { name := "<init>", desc := "()V", sig := { parameters := [], returnType := none }, accessFlags := 0, code := some k22c0 }
/-- java/util/ImmutableCollections$AbstractImmutableList -/
def k22 : Class := { plain "java/util/ImmutableCollections$AbstractImmutableList" (some 21) with
  accessFlags := 1056
  interfaces := #[6, 8]
  cf := some (fileOf pool22 14 #[.nestHost 8] #[{ accessFlags := 0, nameIndex := 5, descriptorIndex := 6, attributes := #[] }] 1056 2 #[77, 124] #[])
  fields := #[]
  methods := #[k22m0]
  instanceTypes := #[]
  staticTypes := #[]
  resolved := Array.replicate 196 none
  statics := none }

def pool23 : Array CpInfo := pool [(1, .methodref 2 3), (0, .class_ 4), (0, .nameAndType 5 6), (0, u "java/util/ImmutableCollections$AbstractImmutableList"), (0, u "<init>"), (0, u "()V"), (0, .methodref 8 9), (0, .class_ 10), (0, .nameAndType 11 12), (0, u "java/util/Objects"), (0, u "requireNonNull"), (0, u "(Ljava/lang/Object;)Ljava/lang/Object;"), (0, .fieldref 14 15), (0, .class_ 16), (0, .nameAndType 17 18), (0, u "java/util/ImmutableCollections$List12"), (0, u "e0"), (0, u "Ljava/lang/Object;"), (0, .fieldref 20 21), (0, .class_ 22), (0, .nameAndType 23 18), (0, u "java/util/ImmutableCollections"), (0, u "EMPTY"), (0, .fieldref 14 25), (0, .nameAndType 26 18), (0, u "e1"), (43, .class_ 71), (0, u "java/io/Serializable"), (4, u "(Ljava/lang/Object;)V"), (8, u "(Ljava/lang/Object;Ljava/lang/Object;)V"), (4, u "get"), (0, u "(I)Ljava/lang/Object;")] 33

def k23c0 : Code := { maxStack := 2, maxLocals := 2, code := jdk_44_method_1_code, exceptionTable := #[], attributes := #[] }
def k23m0 : Method := { name := "<init>", desc := "(Ljava/lang/Object;)V", sig := { parameters := [(.object "java/lang/Object")], returnType := none }, accessFlags := 0, code := some k23c0 }
def k23c1 : Code := { maxStack := 2, maxLocals := 3, code := jdk_44_method_2_code, exceptionTable := #[], attributes := #[] }
def k23m1 : Method := { name := "<init>", desc := "(Ljava/lang/Object;Ljava/lang/Object;)V", sig := { parameters := [(.object "java/lang/Object"), (.object "java/lang/Object")], returnType := none }, accessFlags := 0, code := some k23c1 }
def k23c2 : Code := { maxStack := 2, maxLocals := 2, code := jdk_44_method_5_code, exceptionTable := #[], attributes := #[] }
def k23m2 : Method := { name := "get", desc := "(I)Ljava/lang/Object;", sig := { parameters := [.int], returnType := some (.object "java/lang/Object") }, accessFlags := 1, code := some k23c2 }
/-- java/util/ImmutableCollections$List12 -/
def k23 : Class := { plain "java/util/ImmutableCollections$List12" (some 22) with
  accessFlags := 48
  interfaces := #[10]
  cf := some (fileOf pool23 14 #[.nestHost 20] #[{ accessFlags := 0, nameIndex := 5, descriptorIndex := 76, attributes := #[] }, { accessFlags := 0, nameIndex := 5, descriptorIndex := 85, attributes := #[] }, { accessFlags := 1, nameIndex := 90, descriptorIndex := 91, attributes := #[] }] 48 2 #[70] #[{ accessFlags := 18, nameIndex := 17, descriptorIndex := 18, attributes := #[] }, { accessFlags := 18, nameIndex := 26, descriptorIndex := 18, attributes := #[] }])
  fields := #[{ name := "e0", type := (.object "java/lang/Object"), accessFlags := 18, slot := 0, constantValue := 0 }, { name := "e1", type := (.object "java/lang/Object"), accessFlags := 18, slot := 1, constantValue := 0 }]
  methods := #[k23m0, k23m1, k23m2]
  instanceTypes := #[(.object "java/lang/Object"), (.object "java/lang/Object")]
  staticTypes := #[]
  resolved := Array.replicate 125 none
  statics := none }

def pool24 : Array CpInfo := pool [(1, .methodref 2 3), (0, .class_ 4), (0, .nameAndType 5 6), (0, u "java/util/ImmutableCollections$AbstractImmutableList"), (0, u "<init>"), (0, u "()V"), (0, .fieldref 8 9), (0, .class_ 10), (0, .nameAndType 11 12), (0, u "java/util/ImmutableCollections$ListN"), (0, u "elements"), (0, u "[Ljava/lang/Object;"), (0, .fieldref 8 14), (0, .nameAndType 15 16), (0, u "allowNulls"), (0, u "Z"), (42, .class_ 60), (0, u "java/io/Serializable"), (4, u "([Ljava/lang/Object;Z)V"), (13, u "get"), (0, u "(I)Ljava/lang/Object;"), (33, .class_ 115), (0, u "java/util/ImmutableCollections")] 3

def k24c0 : Code := { maxStack := 2, maxLocals := 3, code := jdk_45_method_1_code, exceptionTable := #[], attributes := #[] }
def k24m0 : Method := { name := "<init>", desc := "([Ljava/lang/Object;Z)V", sig := { parameters := [(.array (.object "java/lang/Object")), .boolean], returnType := none }, accessFlags := 2, code := some k24c0 }
def k24c1 : Code := { maxStack := 2, maxLocals := 2, code := jdk_45_method_4_code, exceptionTable := #[], attributes := #[] }
def k24m1 : Method := { name := "get", desc := "(I)Ljava/lang/Object;", sig := { parameters := [.int], returnType := some (.object "java/lang/Object") }, accessFlags := 1, code := some k24c1 }
/-- java/util/ImmutableCollections$ListN -/
def k24 : Class := { plain "java/util/ImmutableCollections$ListN" (some 22) with
  accessFlags := 48
  interfaces := #[10]
  cf := some (fileOf pool24 8 #[.nestHost 114] #[{ accessFlags := 2, nameIndex := 5, descriptorIndex := 65, attributes := #[] }, { accessFlags := 1, nameIndex := 79, descriptorIndex := 80, attributes := #[] }] 48 2 #[59] #[{ accessFlags := 18, nameIndex := 11, descriptorIndex := 12, attributes := #[] }, { accessFlags := 18, nameIndex := 15, descriptorIndex := 16, attributes := #[] }])
  fields := #[{ name := "elements", type := (.array (.object "java/lang/Object")), accessFlags := 18, slot := 0, constantValue := 0 }, { name := "allowNulls", type := .boolean, accessFlags := 18, slot := 1, constantValue := 0 }]
  methods := #[k24m0, k24m1]
  instanceTypes := #[(.array (.object "java/lang/Object")), .boolean]
  staticTypes := #[]
  resolved := Array.replicate 119 none
  statics := none }

def pool25 : Array CpInfo := pool [(2, .class_ 4), (1, u "java/lang/Object"), (0, u "<init>"), (0, u "()V"), (7, .class_ 16), (1, u "java/util/Arrays"), (57, .class_ 76), (1, u "java/util/Arrays$NaturalOrder"), (9, .methodref 2 87), (0, .nameAndType 88 89), (0, u "getClass"), (0, u "()Ljava/lang/Class;"), (20, .class_ 111), (0, u "[Ljava/lang/Object;"), (1, .class_ 115), (1, u "java/util/Arrays$LegacyMergeSort"), (1, u "Z"), (32, .methodref 151 152), (0, .class_ 153), (0, .nameAndType 154 155), (0, u "java/lang/System"), (0, u "arraycopy"), (0, u "(Ljava/lang/Object;ILjava/lang/Object;II)V"), (144, .methodref 14 301), (0, .nameAndType 302 303), (0, u "copyOf"), (0, u "([Ljava/lang/Object;ILjava/lang/Class;)[Ljava/lang/Object;"), (0, .methodref 305 306), (0, .class_ 307), (0, .nameAndType 308 309), (0, u "java/lang/Math"), (0, u "min"), (0, u "(II)I"), (65, .class_ 376), (0, u "java/util/Arrays$ArrayList"), (68, u "$assertionsDisabled"), (269, u "MIN_ARRAY_SORT_GRAN"), (0, u "I"), (2, u "INSERTIONSORT_THRESHOLD"), (140, u "([Ljava/lang/Object;I)[Ljava/lang/Object;"), (114, .class_ 976), (0, u "java/util/Arrays$ArrayItr")] 52

def k25m0 : Method := { name := "<init>", desc := "()V", sig := { parameters := [], returnType := none }, accessFlags := 2, code := none }
def k25c1 : Code := { maxStack := 3, maxLocals := 2, code := jdk_65_method_119_code, exceptionTable := #[], attributes := #[] }
def k25m1 : Method := { name := "copyOf", desc := "([Ljava/lang/Object;I)[Ljava/lang/Object;", sig := { parameters := [(.array (.object "java/lang/Object")), .int], returnType := some (.array (.object "java/lang/Object")) }, accessFlags := 9, code := some k25c1 }
def k25c2 : Code := { maxStack := 6, maxLocals := 4, code := jdk_65_method_120_code, exceptionTable := #[], attributes := #[] }
def k25m2 : Method := { name := "copyOf", desc := "([Ljava/lang/Object;ILjava/lang/Class;)[Ljava/lang/Object;", sig := { parameters := [(.array (.object "java/lang/Object")), .int, (.object "java/lang/Class")], returnType := some (.array (.object "java/lang/Object")) }, accessFlags := 9, code := some k25c2 }
/-- java/util/Arrays -/
def k25 : Class := { plain "java/util/Arrays" (some 0) with
  accessFlags := 49
  interfaces := #[]
  cf := some (fileOf pool25 14 #[.nestMembers #[975, 375, 113, 74]] #[{ accessFlags := 2, nameIndex := 5, descriptorIndex := 6, attributes := #[] }, { accessFlags := 9, nameIndex := 302, descriptorIndex := 860, attributes := #[] }, { accessFlags := 9, nameIndex := 302, descriptorIndex := 303, attributes := #[] }] 49 2 #[] #[{ accessFlags := 26, nameIndex := 715, descriptorIndex := 716, attributes := #[] }, { accessFlags := 26, nameIndex := 719, descriptorIndex := 716, attributes := #[] }, { accessFlags := 4120, nameIndex := 445, descriptorIndex := 117, attributes := #[] }])
  fields := #[{ name := "MIN_ARRAY_SORT_GRAN", type := .int, accessFlags := 26, slot := 0, constantValue := 0 }, { name := "INSERTIONSORT_THRESHOLD", type := .int, accessFlags := 26, slot := 1, constantValue := 0 }, { name := "$assertionsDisabled", type := .boolean, accessFlags := 4120, slot := 2, constantValue := 0 }]
  methods := #[k25m0, k25m1, k25m2]
  instanceTypes := #[]
  staticTypes := #[.int, .int, .boolean]
  resolved := Array.replicate 1029 none
  statics := none }

def pool26 : Array CpInfo := pool [(2, .class_ 4), (1, u "java/lang/Object"), (0, u "<init>"), (0, u "()V"), (1, .class_ 10), (1, u "java/lang/System"), (0, u "allowSecurityManager"), (0, u "I"), (16, u "cons"), (0, u "Ljava/io/Console;"), (77, .class_ 110), (1, u "java/lang/System$CallersHolder"), (43, u "initialErrStream"), (0, u "Ljava/io/PrintStream;"), (19, u "security"), (0, u "Ljava/lang/SecurityManager;"), (31, .class_ 209), (0, u "java/lang/System$1"), (7, u "props"), (0, u "Ljava/util/Properties;"), (2, u "lineSeparator"), (0, u "Ljava/lang/String;"), (96, .class_ 321), (1, u "java/lang/System$LoggerFinder"), (5, .class_ 328), (0, u "java/lang/System$Logger"), (67, u "err"), (2, u "out"), (91, u "notSupportedJnuEncoding"), (15, u "in"), (17, u "initialIn"), (0, u "Ljava/io/InputStream;"), (35, u "bootLayer"), (0, u "Ljava/lang/ModuleLayer;"), (99, .class_ 664), (0, u "java/lang/System$2"), (9, u "NEVER"), (2, u "MAYBE"), (49, u "arraycopy"), (0, u "(Ljava/lang/Object;ILjava/lang/Object;II)V"), (72, .class_ 802), (0, u "java/lang/System$Logger$Level")] 31

def k26m0 : Method := { name := "<init>", desc := "()V", sig := { parameters := [], returnType := none }, accessFlags := 2, code := none }
def k26m1 : Method := { name := "arraycopy", desc := "(Ljava/lang/Object;ILjava/lang/Object;II)V", sig := { parameters := [(.object "java/lang/Object"), .int, (.object "java/lang/Object"), .int, .int], returnType := none }, accessFlags := 265, code := none }
/-- java/lang/System -/
def k26 : Class := { plain "java/lang/System" (some 0) with
  accessFlags := 49
  interfaces := #[]
  cf := some (fileOf pool26 8 #[.nestMembers #[319, 327, 801, 108, 663, 208]] #[{ accessFlags := 2, nameIndex := 5, descriptorIndex := 6, attributes := #[] }, { accessFlags := 265, nameIndex := 727, descriptorIndex := 728, attributes := #[] }] 49 2 #[] #[{ accessFlags := 25, nameIndex := 507, descriptorIndex := 526, attributes := #[] }, { accessFlags := 25, nameIndex := 399, descriptorIndex := 155, attributes := #[] }, { accessFlags := 25, nameIndex := 396, descriptorIndex := 155, attributes := #[] }, { accessFlags := 10, nameIndex := 525, descriptorIndex := 526, attributes := #[] }, { accessFlags := 26, nameIndex := 674, descriptorIndex := 12, attributes := #[] }, { accessFlags := 26, nameIndex := 677, descriptorIndex := 12, attributes := #[] }, { accessFlags := 10, nameIndex := 11, descriptorIndex := 12, attributes := #[] }, { accessFlags := 74, nameIndex := 175, descriptorIndex := 176, attributes := #[] }, { accessFlags := 10, nameIndex := 491, descriptorIndex := 222, attributes := #[] }, { accessFlags := 74, nameIndex := 29, descriptorIndex := 30, attributes := #[] }, { accessFlags := 74, nameIndex := 154, descriptorIndex := 155, attributes := #[] }, { accessFlags := 10, nameIndex := 217, descriptorIndex := 218, attributes := #[] }, { accessFlags := 10, nameIndex := 221, descriptorIndex := 222, attributes := #[] }, { accessFlags := 8, nameIndex := 562, descriptorIndex := 563, attributes := #[] }])
  fields := #[{ name := "in", type := (.object "java/io/InputStream"), accessFlags := 25, slot := 0, constantValue := 0 }, { name := "out", type := (.object "java/io/PrintStream"), accessFlags := 25, slot := 1, constantValue := 0 }, { name := "err", type := (.object "java/io/PrintStream"), accessFlags := 25, slot := 2, constantValue := 0 }, { name := "initialIn", type := (.object "java/io/InputStream"), accessFlags := 10, slot := 3, constantValue := 0 }, { name := "NEVER", type := .int, accessFlags := 26, slot := 4, constantValue := 0 }, { name := "MAYBE", type := .int, accessFlags := 26, slot := 5, constantValue := 0 }, { name := "allowSecurityManager", type := .int, accessFlags := 10, slot := 6, constantValue := 0 }, { name := "security", type := (.object "java/lang/SecurityManager"), accessFlags := 74, slot := 7, constantValue := 0 }, { name := "notSupportedJnuEncoding", type := (.object "java/lang/String"), accessFlags := 10, slot := 8, constantValue := 0 }, { name := "cons", type := (.object "java/io/Console"), accessFlags := 74, slot := 9, constantValue := 0 }, { name := "initialErrStream", type := (.object "java/io/PrintStream"), accessFlags := 74, slot := 10, constantValue := 0 }, { name := "props", type := (.object "java/util/Properties"), accessFlags := 10, slot := 11, constantValue := 0 }, { name := "lineSeparator", type := (.object "java/lang/String"), accessFlags := 10, slot := 12, constantValue := 0 }, { name := "bootLayer", type := (.object "java/lang/ModuleLayer"), accessFlags := 8, slot := 13, constantValue := 0 }]
  methods := #[k26m0, k26m1]
  instanceTypes := #[]
  staticTypes := #[(.object "java/io/InputStream"), (.object "java/io/PrintStream"), (.object "java/io/PrintStream"), (.object "java/io/InputStream"), .int, .int, .int, (.object "java/lang/SecurityManager"), (.object "java/lang/String"), (.object "java/io/Console"), (.object "java/io/PrintStream"), (.object "java/util/Properties"), (.object "java/lang/String"), (.object "java/lang/ModuleLayer")]
  resolved := Array.replicate 834 none
  statics := none }

def pool27 : Array CpInfo := pool [(2, .class_ 4), (1, u "java/lang/Object"), (0, u "<init>"), (0, u "()V"), (35, .class_ 44), (1, u "java/util/Objects"), (0, u "requireNonNull"), (0, u "(Ljava/lang/Object;)Ljava/lang/Object;"), (58, .methodref 106 107), (0, .class_ 108), (0, .nameAndType 109 110), (0, u "jdk/internal/util/Preconditions"), (0, u "checkIndex"), (0, u "(IILjava/util/function/BiFunction;)I"), (60, u "(II)I")] 12

def k27m0 : Method := { name := "<init>", desc := "()V", sig := { parameters := [], returnType := none }, accessFlags := 2, code := none }
def k27c1 : Code := { maxStack := 2, maxLocals := 1, code := jdk_31_method_10_code, exceptionTable := #[], attributes := #[] }
def k27m1 : Method := { name := "requireNonNull", desc := "(Ljava/lang/Object;)Ljava/lang/Object;", sig := { parameters := [(.object "java/lang/Object")], returnType := some (.object "java/lang/Object") }, accessFlags := 9, code := some k27c1 }
def k27c2 : Code := { maxStack := 3, maxLocals := 2, code := jdk_31_method_17_code, exceptionTable := #[], attributes := #[] }
def k27m2 : Method := { name := "checkIndex", desc := "(II)I", sig := { parameters := [.int, .int], returnType := some .int }, accessFlags := 9, code := some k27c2 }
/-- java/util/Objects -/
def k27 : Class := { plain "java/util/Objects" (some 0) with
  accessFlags := 49
  interfaces := #[]
  cf := some (fileOf pool27 42 #[] #[{ accessFlags := 2, nameIndex := 5, descriptorIndex := 6, attributes := #[] }, { accessFlags := 9, nameIndex := 45, descriptorIndex := 46, attributes := #[] }, { accessFlags := 9, nameIndex := 109, descriptorIndex := 171, attributes := #[] }] 49 2 #[] #[])
  fields := #[]
  methods := #[k27m0, k27m1, k27m2]
  instanceTypes := #[]
  staticTypes := #[]
  resolved := Array.replicate 184 none
  statics := none }

def pool28 : Array CpInfo := pool [(2, .class_ 4), (1, u "java/lang/Object"), (0, u "<init>"), (0, u "()V"), (17, .class_ 26), (1, u "jdk/internal/util/Preconditions"), (6, u "checkIndex"), (21, .class_ 56), (0, u "jdk/internal/util/Preconditions$4"), (57, .class_ 115), (0, u "jdk/internal/util/Preconditions$1"), (7, u "SIOOBE_FORMATTER"), (0, u "Ljava/util/function/BiFunction;"), (0, .class_ 126), (0, u "jdk/internal/util/Preconditions$2"), (3, u "AIOOBE_FORMATTER"), (0, .class_ 132), (0, u "jdk/internal/util/Preconditions$3"), (3, u "IOOBE_FORMATTER"), (41, u "(IILjava/util/function/BiFunction;)I")] 15

def k28m0 : Method := { name := "<init>", desc := "()V", sig := { parameters := [], returnType := none }, accessFlags := 1, code := none }
def k28c1 : Code := { maxStack := 3, maxLocals := 3, code := jdk_41_method_11_code, exceptionTable := #[], attributes := #[] }
def k28m1 : Method := { name := "checkIndex", desc := "(IILjava/util/function/BiFunction;)I", sig := { parameters := [.int, .int, (.object "java/util/function/BiFunction")], returnType := some .int }, accessFlags := 9, code := some k28c1 }
/-- jdk/internal/util/Preconditions -/
def k28 : Class := { plain "jdk/internal/util/Preconditions" (some 0) with
  accessFlags := 33
  interfaces := #[]
  cf := some (fileOf pool28 24 #[.nestMembers #[55, 131, 125, 114]] #[{ accessFlags := 1, nameIndex := 5, descriptorIndex := 6, attributes := #[] }, { accessFlags := 9, nameIndex := 33, descriptorIndex := 178, attributes := #[] }] 33 2 #[] #[{ accessFlags := 25, nameIndex := 123, descriptorIndex := 124, attributes := #[] }, { accessFlags := 25, nameIndex := 130, descriptorIndex := 124, attributes := #[] }, { accessFlags := 25, nameIndex := 136, descriptorIndex := 124, attributes := #[] }])
  fields := #[{ name := "SIOOBE_FORMATTER", type := (.object "java/util/function/BiFunction"), accessFlags := 25, slot := 0, constantValue := 0 }, { name := "AIOOBE_FORMATTER", type := (.object "java/util/function/BiFunction"), accessFlags := 25, slot := 1, constantValue := 0 }, { name := "IOOBE_FORMATTER", type := (.object "java/util/function/BiFunction"), accessFlags := 25, slot := 2, constantValue := 0 }]
  methods := #[k28m0, k28m1]
  instanceTypes := #[]
  staticTypes := #[(.object "java/util/function/BiFunction"), (.object "java/util/function/BiFunction"), (.object "java/util/function/BiFunction")]
  resolved := Array.replicate 194 none
  statics := some 3 }

def pool29 : Array CpInfo := pool [(4, .class_ 6), (1, u "java/lang/Object"), (0, u "<init>"), (0, u "()V"), (5, .class_ 16), (1, u "java/lang/StringLatin1"), (104, u "$assertionsDisabled"), (0, u "Z"), (98, .class_ 223), (1, u "java/lang/StringLatin1$LinesSpliterator"), (166, .class_ 391), (0, u "java/lang/StringLatin1$CharsSpliterator")] 3

def k29m0 : Method := { name := "<init>", desc := "()V", sig := { parameters := [], returnType := none }, accessFlags := 0, code := none }
/-- java/lang/StringLatin1 -/
def k29 : Class := { plain "java/lang/StringLatin1" (some 0) with
  accessFlags := 48
  interfaces := #[]
  cf := some (fileOf pool29 14 #[.nestMembers #[390, 221]] #[{ accessFlags := 0, nameIndex := 7, descriptorIndex := 8, attributes := #[] }] 48 4 #[] #[{ accessFlags := 4120, nameIndex := 121, descriptorIndex := 122, attributes := #[] }])
  fields := #[{ name := "$assertionsDisabled", type := .boolean, accessFlags := 4120, slot := 0, constantValue := 0 }]
  methods := #[k29m0]
  instanceTypes := #[]
  staticTypes := #[.boolean]
  resolved := Array.replicate 395 none
  statics := none }

def pool30 : Array CpInfo := pool [(9, u "<init>"), (6, .class_ 18), (1, u "java/lang/Object"), (0, u "()V"), (1, .class_ 23), (1, u "jdk/internal/util/ArraysSupport"), (0, u "LOG2_ARRAY_LONG_INDEX_SCALE"), (0, u "I"), (2, u "U"), (0, u "Ljdk/internal/misc/Unsafe;"), (8, u "BIG_ENDIAN"), (0, u "Z"), (8, u "LOG2_BYTE_BIT_SIZE"), (4, u "LOG2_ARRAY_INT_INDEX_SCALE"), (54, u "JLA"), (0, u "Ljdk/internal/access/JavaLangAccess;"), (11, u "LOG2_ARRAY_BOOLEAN_INDEX_SCALE"), (9, u "LOG2_ARRAY_BYTE_INDEX_SCALE"), (5, u "LOG2_ARRAY_CHAR_INDEX_SCALE"), (5, u "LOG2_ARRAY_SHORT_INDEX_SCALE"), (18, u "LOG2_ARRAY_FLOAT_INDEX_SCALE"), (24, u "LOG2_ARRAY_DOUBLE_INDEX_SCALE"), (89, u "T_BOOLEAN"), (2, u "T_CHAR"), (1, u "T_FLOAT"), (1, u "T_DOUBLE"), (1, u "T_BYTE"), (1, u "T_SHORT"), (1, u "T_INT"), (1, u "T_LONG"), (1, u "SOFT_MAX_ARRAY_LENGTH")] 83

def k30m0 : Method := { name := "<init>", desc := "()V", sig := { parameters := [], returnType := none }, accessFlags := 2, code := none }
/-- jdk/internal/util/ArraysSupport -/
def k30 : Class := { plain "jdk/internal/util/ArraysSupport" (some 0) with
  accessFlags := 33
  interfaces := #[]
  cf := some (fileOf pool30 21 #[] #[{ accessFlags := 2, nameIndex := 9, descriptorIndex := 19, attributes := #[] }] 33 16 #[] #[{ accessFlags := 24, nameIndex := 28, descriptorIndex := 29, attributes := #[] }, { accessFlags := 26, nameIndex := 38, descriptorIndex := 39, attributes := #[] }, { accessFlags := 25, nameIndex := 121, descriptorIndex := 25, attributes := #[] }, { accessFlags := 25, nameIndex := 131, descriptorIndex := 25, attributes := #[] }, { accessFlags := 25, nameIndex := 137, descriptorIndex := 25, attributes := #[] }, { accessFlags := 25, nameIndex := 143, descriptorIndex := 25, attributes := #[] }, { accessFlags := 25, nameIndex := 53, descriptorIndex := 25, attributes := #[] }, { accessFlags := 25, nameIndex := 24, descriptorIndex := 25, attributes := #[] }, { accessFlags := 25, nameIndex := 162, descriptorIndex := 25, attributes := #[] }, { accessFlags := 25, nameIndex := 187, descriptorIndex := 25, attributes := #[] }, { accessFlags := 26, nameIndex := 48, descriptorIndex := 25, attributes := #[] }, { accessFlags := 25, nameIndex := 277, descriptorIndex := 25, attributes := #[] }, { accessFlags := 25, nameIndex := 280, descriptorIndex := 25, attributes := #[] }, { accessFlags := 25, nameIndex := 282, descriptorIndex := 25, attributes := #[] }, { accessFlags := 25, nameIndex := 284, descriptorIndex := 25, attributes := #[] }, { accessFlags := 25, nameIndex := 286, descriptorIndex := 25, attributes := #[] }, { accessFlags := 25, nameIndex := 288, descriptorIndex := 25, attributes := #[] }, { accessFlags := 25, nameIndex := 290, descriptorIndex := 25, attributes := #[] }, { accessFlags := 25, nameIndex := 292, descriptorIndex := 25, attributes := #[] }, { accessFlags := 26, nameIndex := 108, descriptorIndex := 109, attributes := #[] }, { accessFlags := 25, nameIndex := 294, descriptorIndex := 25, attributes := #[] }])
  fields := #[{ name := "U", type := (.object "jdk/internal/misc/Unsafe"), accessFlags := 24, slot := 0, constantValue := 0 }, { name := "BIG_ENDIAN", type := .boolean, accessFlags := 26, slot := 1, constantValue := 0 }, { name := "LOG2_ARRAY_BOOLEAN_INDEX_SCALE", type := .int, accessFlags := 25, slot := 2, constantValue := 0 }, { name := "LOG2_ARRAY_BYTE_INDEX_SCALE", type := .int, accessFlags := 25, slot := 3, constantValue := 0 }, { name := "LOG2_ARRAY_CHAR_INDEX_SCALE", type := .int, accessFlags := 25, slot := 4, constantValue := 0 }, { name := "LOG2_ARRAY_SHORT_INDEX_SCALE", type := .int, accessFlags := 25, slot := 5, constantValue := 0 }, { name := "LOG2_ARRAY_INT_INDEX_SCALE", type := .int, accessFlags := 25, slot := 6, constantValue := 0 }, { name := "LOG2_ARRAY_LONG_INDEX_SCALE", type := .int, accessFlags := 25, slot := 7, constantValue := 0 }, { name := "LOG2_ARRAY_FLOAT_INDEX_SCALE", type := .int, accessFlags := 25, slot := 8, constantValue := 0 }, { name := "LOG2_ARRAY_DOUBLE_INDEX_SCALE", type := .int, accessFlags := 25, slot := 9, constantValue := 0 }, { name := "LOG2_BYTE_BIT_SIZE", type := .int, accessFlags := 26, slot := 10, constantValue := 0 }, { name := "T_BOOLEAN", type := .int, accessFlags := 25, slot := 11, constantValue := 0 }, { name := "T_CHAR", type := .int, accessFlags := 25, slot := 12, constantValue := 0 }, { name := "T_FLOAT", type := .int, accessFlags := 25, slot := 13, constantValue := 0 }, { name := "T_DOUBLE", type := .int, accessFlags := 25, slot := 14, constantValue := 0 }, { name := "T_BYTE", type := .int, accessFlags := 25, slot := 15, constantValue := 0 }, { name := "T_SHORT", type := .int, accessFlags := 25, slot := 16, constantValue := 0 }, { name := "T_INT", type := .int, accessFlags := 25, slot := 17, constantValue := 0 }, { name := "T_LONG", type := .int, accessFlags := 25, slot := 18, constantValue := 0 }, { name := "JLA", type := (.object "jdk/internal/access/JavaLangAccess"), accessFlags := 26, slot := 19, constantValue := 0 }, { name := "SOFT_MAX_ARRAY_LENGTH", type := .int, accessFlags := 25, slot := 20, constantValue := 0 }]
  methods := #[k30m0]
  instanceTypes := #[]
  staticTypes := #[(.object "jdk/internal/misc/Unsafe"), .boolean, .int, .int, .int, .int, .int, .int, .int, .int, .int, .int, .int, .int, .int, .int, .int, .int, .int, (.object "jdk/internal/access/JavaLangAccess"), .int]
  resolved := Array.replicate 378 none
  statics := none }

def pool31 : Array CpInfo := pool [(1, u "java/lang/Class"), (0, .class_ 1), (0, u "java/lang/Object"), (0, .class_ 3)] 0

/-- java/lang/Class -/
def k31 : Class := { plain "java/lang/Class" (some 0) with
  accessFlags := 49
  interfaces := #[]
  cf := some (fileOf pool31 2 #[] #[] 49 4 #[] #[])
  fields := #[]
  methods := #[]
  instanceTypes := #[]
  staticTypes := #[]
  resolved := Array.replicate 5 none
  statics := none }

/-- the primitive byte -/
def k32 : Class := { plain "byte" none with kind := .primitive 'B', accessFlags := 0x411 }
/-- [B -/
def k33 : Class := { plain "[B" (some 0) with kind := .array 32 .byte, interfaces := #[9, 10], accessFlags := 1041 }

/-- the primitive char -/
def k34 : Class := { plain "char" none with kind := .primitive 'C', accessFlags := 0x411 }
/-- [C -/
def k35 : Class := { plain "[C" (some 0) with kind := .array 34 .char, interfaces := #[9, 10], accessFlags := 1041 }

/-- [Ljava/lang/Object; -/
def k36 : Class := { plain "[Ljava/lang/Object;" (some 0) with kind := .array 0 (.object "java/lang/Object"), interfaces := #[9, 10], accessFlags := 1041, mirror := some 4 }

def heap : Heap := #[{ cls := 11, slots := #[.long 0, .int 0, .ref 5, .ref 6], vm := .statics 11 },
  { cls := 16, slots := #[.long 0, .int 1, .null, .int 0, .null, .int 0, .int 0], vm := .statics 16 },
  { cls := 20, slots := #[.long 0, .int 0, .null, .ref 7, .ref 8, .null, .null, .null, .int 0, .int 1], vm := .statics 20 },
  { cls := 28, slots := #[.null, .null, .null], vm := .statics 28 },
  { cls := 31, slots := #[], vm := .mirror 36 },
  { cls := 36, slots := #[], vm := .none },
  { cls := 36, slots := #[], vm := .none },
  { cls := 0, slots := #[], vm := .none },
  { cls := 24, slots := #[.ref 5, .int 0], vm := .none }]
def classes : Array Class := #[k0, k1, k2, k3, k4, k5, k6, k7, k8, k9, k10, k11, k12, k13, k14, k15, k16, k17, k18, k19, k20, k21, k22, k23, k24, k25, k26, k27, k28, k29, k30, k31, k32, k33, k34, k35, k36]
def interned : List (Array UInt16 × Addr) := []
def slotsUsed : Nat := 26
def theMethod : MethodId := ⟨1, 3⟩
def args0 : Array Value := #[.int 5, .int 5, .int 5, .int 5, .int 5, .int 5]
def aboutOver (below : List Frame) : State where
  vm := { classes := classes, interned := interned.toArray }
  heap := heap
  slotsUsed := slotsUsed
  threads := #[{ frames := .invoking theMethod args0 :: below }]
def below0 : List Frame := [.native { method := ⟨0, 0⟩, args := #[] }]
def about1 : State := aboutOver below0
def p0 : Program := .bare "" "" ""
def e0 : Env := launch0.env 0 0 0
theorem w_frames : about1.frames = Frame.invoking theMethod args0 :: below0 := rfl
set_option maxRecDepth 65536 in
theorem w_args : argsFit about1.vm theMethod args0 = true := by decide +kernel
set_option maxRecDepth 65536 in
theorem w_heap : heapFits about1 = true := by decide +kernel
set_option maxRecDepth 65536 in
theorem w_runnable : about1.curStatus? = some .runnable := by decide +kernel
set_option maxRecDepth 65536 in
theorem w_alone : about1.alone = true := by decide +kernel
set_option maxRecDepth 65536 in
theorem w_named : about1.methodNamed? x = some theMethod := by decide +kernel
set_option maxRecDepth 65536 in
theorem w_hears : about1.hears theMethod below0 = true := by decide +kernel
set_option maxRecDepth 65536 in
theorem w_ripe : about1.ripe theMethod args0 below0 = true := by decide +kernel
theorem w_running : about1.status = .running := rfl
set_option maxRecDepth 65536 in
theorem w_room : about1.hasRoom e0.platform room_1 = true :=
  launch0.hasRoom_least _ room_1 (by decide +kernel) (by decide +kernel) (by decide +kernel) (by decide +kernel) (by decide +kernel) (by decide +kernel)
theorem allAtoms_all (ts : List Jvm.Cond) (a : Array Jvm.Value) (st : Jvm.State) : (allAtoms ts).before a st = ts.all (fun c => c.before a st) := by
  induction ts with
  | nil => rfl
  | cons c t ih =>
    show (Jvm.Cond.and c (allAtoms t)).before a st = _
    rw [Jvm.Cond.before_and, ih, List.all_cons]
def words1 : List Jvm.Cond := Jvm.Cond.code x code maxLocals ret :: tables_1
/-- a 'code' word, met by the world's own term for the bytes: nothing is compared byte by byte -/
theorem code_word {y : MethodName} {bytes : ByteArray} {mx : Nat} {rt : Option FieldType} {a : Array Value} {s : State} {m : MethodId} {meth : Method} {c : Code} (h1 : s.methodNamed? y = some m) (h2 : s.vm.method? m = some meth) (h3 : meth.code = some c) (h4 : c.code = bytes)
    (h5 : (c.maxLocals == mx && c.exceptionTable.isEmpty && decide (c.maxStack ≤ mostOperands) && decide (meth.sig.returnType = rt) && !meth.locks && decide (parseMethodDescriptor y.desc = some meth.sig)) = true) : (Jvm.Cond.code y bytes mx rt).before a s = true := by
  simp only [Bool.and_eq_true, beq_iff_eq, Bool.not_eq_true', decide_eq_true_eq] at h5
  obtain ⟨⟨⟨⟨⟨g1, g2⟩, g3⟩, g4⟩, g5⟩, g6⟩ := h5
  simp [Cond.before, Cond.holds, Cond.value, h1, h2, h3, h4, g1, g2, g3, g4, g5, g6]
def isCode : Jvm.Cond → Bool
  | .code _ _ _ _ => true
  | _ => false
theorem all_split {L : List Jvm.Cond} {P : Jvm.Cond → Bool} (h1 : L.all (fun c => isCode c || P c) = true) (h2 : ∀ c ∈ L.filter isCode, P c = true) : L.all P = true := by
  refine List.all_eq_true.mpr fun c hc => ?_
  have h := List.all_eq_true.mp h1 c hc
  rcases Bool.eq_false_or_eq_true (isCode c) with hi | hi
  · exact h2 c (List.mem_filter.mpr ⟨hc, hi⟩)
  · simpa [hi] using h
set_option maxRecDepth 65536 in
theorem w_c0 : (Jvm.Cond.code x code maxLocals ret).before args0 about1 = true := code_word (m := ⟨1, 3⟩) (meth := k1m3) (c := k1c3) (by decide +kernel) rfl rfl rfl (by decide +kernel)
set_option maxRecDepth 65536 in
theorem w_c1 : (Jvm.Cond.code ({ cls := "java/util/ArrayList", name := "<init>", desc := "()V" } : Jvm.MethodName) jdk_38_method_2_code (1 : Nat) (Option.none : Option Jvm.ClassFile.FieldType)).before args0 about1 = true := code_word (m := ⟨11, 0⟩) (meth := k11m0) (c := k11c0) (by decide +kernel) rfl rfl rfl (by decide +kernel)
set_option maxRecDepth 65536 in
theorem w_c2 : (Jvm.Cond.code ({ cls := "java/util/AbstractList", name := "<init>", desc := "()V" } : Jvm.MethodName) jdk_39_method_1_code (1 : Nat) (Option.none : Option Jvm.ClassFile.FieldType)).before args0 about1 = true := code_word (m := ⟨7, 0⟩) (meth := k7m0) (c := k7c0) (by decide +kernel) rfl rfl rfl (by decide +kernel)
set_option maxRecDepth 65536 in
theorem w_c3 : (Jvm.Cond.code ({ cls := "java/util/AbstractCollection", name := "<init>", desc := "()V" } : Jvm.MethodName) jdk_22_method_1_code (1 : Nat) (Option.none : Option Jvm.ClassFile.FieldType)).before args0 about1 = true := code_word (m := ⟨4, 0⟩) (meth := k4m0) (c := k4c0) (by decide +kernel) rfl rfl rfl (by decide +kernel)
set_option maxRecDepth 65536 in
theorem w_c4 : (Jvm.Cond.code ({ cls := "java/lang/Object", name := "<init>", desc := "()V" } : Jvm.MethodName) object_method_1_code (1 : Nat) (Option.none : Option Jvm.ClassFile.FieldType)).before args0 about1 = true := code_word (m := ⟨0, 0⟩) (meth := k0m0) (c := k0c0) (by decide +kernel) rfl rfl rfl (by decide +kernel)
set_option maxRecDepth 65536 in
theorem w_c5 : (Jvm.Cond.code ({ cls := "com/example/vertere/vertere/engine/AnswersGetPinLaw", name := "s", desc := "(I)Ljava/lang/String;" } : Jvm.MethodName) method_2_code (2 : Nat) (Option.some (Jvm.ClassFile.FieldType.object "java/lang/String"))).before args0 about1 = true := code_word (m := ⟨1, 1⟩) (meth := k1m1) (c := k1c1) (by decide +kernel) rfl rfl rfl (by decide +kernel)
set_option maxRecDepth 65536 in
theorem w_c6 : (Jvm.Cond.code ({ cls := "java/lang/String", name := "<init>", desc := "([C)V" } : Jvm.MethodName) jdk_42_method_3_code (2 : Nat) (Option.none : Option Jvm.ClassFile.FieldType)).before args0 about1 = true := code_word (m := ⟨16, 1⟩) (meth := k16m1) (c := k16c1) (by decide +kernel) rfl rfl rfl (by decide +kernel)
set_option maxRecDepth 65536 in
theorem w_c7 : (Jvm.Cond.code ({ cls := "java/lang/String", name := "<init>", desc := "([CIILjava/lang/Void;)V" } : Jvm.MethodName) jdk_42_method_149_code (6 : Nat) (Option.none : Option Jvm.ClassFile.FieldType)).before args0 about1 = true := code_word (m := ⟨16, 3⟩) (meth := k16m3) (c := k16c3) (by decide +kernel) rfl rfl rfl (by decide +kernel)
set_option maxRecDepth 65536 in
theorem w_c8 : (Jvm.Cond.code ({ cls := "java/lang/StringUTF16", name := "compress", desc := "([CII)[B" } : Jvm.MethodName) jdk_52_method_16_code (6 : Nat) (Option.some (Jvm.ClassFile.FieldType.array Jvm.ClassFile.FieldType.byte))).before args0 about1 = true := code_word (m := ⟨17, 2⟩) (meth := k17m2) (c := k17c2) (by decide +kernel) rfl rfl rfl (by decide +kernel)
set_option maxRecDepth 65536 in
theorem w_c9 : (Jvm.Cond.code ({ cls := "java/lang/StringUTF16", name := "compress", desc := "([CI[BII)I" } : Jvm.MethodName) jdk_52_method_21_code (7 : Nat) (Option.some Jvm.ClassFile.FieldType.int)).before args0 about1 = true := code_word (m := ⟨17, 3⟩) (meth := k17m3) (c := k17c3) (by decide +kernel) rfl rfl rfl (by decide +kernel)
set_option maxRecDepth 65536 in
theorem w_c10 : (Jvm.Cond.code ({ cls := "java/lang/StringUTF16", name := "coderFromArrayLen", desc := "([BI)B" } : Jvm.MethodName) jdk_52_method_15_code (2 : Nat) (Option.some Jvm.ClassFile.FieldType.byte)).before args0 about1 = true := code_word (m := ⟨17, 1⟩) (meth := k17m1) (c := k17c1) (by decide +kernel) rfl rfl rfl (by decide +kernel)
set_option maxRecDepth 65536 in
theorem w_c11 : (Jvm.Cond.code ({ cls := "java/util/ArrayList", name := "add", desc := "(Ljava/lang/Object;)Z" } : Jvm.MethodName) jdk_38_method_25_code (2 : Nat) (Option.some Jvm.ClassFile.FieldType.boolean)).before args0 about1 = true := code_word (m := ⟨11, 10⟩) (meth := k11m10) (c := k11c10) (by decide +kernel) rfl rfl rfl (by decide +kernel)
set_option maxRecDepth 65536 in
theorem w_c12 : (Jvm.Cond.code ({ cls := "java/util/ArrayList", name := "add", desc := "(Ljava/lang/Object;[Ljava/lang/Object;I)V" } : Jvm.MethodName) jdk_38_method_24_code (4 : Nat) (Option.none : Option Jvm.ClassFile.FieldType)).before args0 about1 = true := code_word (m := ⟨11, 9⟩) (meth := k11m9) (c := k11c9) (by decide +kernel) rfl rfl rfl (by decide +kernel)
set_option maxRecDepth 65536 in
theorem w_c13 : (Jvm.Cond.code ({ cls := "java/util/ArrayList", name := "grow", desc := "()[Ljava/lang/Object;" } : Jvm.MethodName) jdk_38_method_7_code (1 : Nat) (Option.some (Jvm.ClassFile.FieldType.array (Jvm.ClassFile.FieldType.object "java/lang/Object")))).before args0 about1 = true := code_word (m := ⟨11, 2⟩) (meth := k11m2) (c := k11c2) (by decide +kernel) rfl rfl rfl (by decide +kernel)
set_option maxRecDepth 65536 in
theorem w_c14 : (Jvm.Cond.code ({ cls := "java/util/ArrayList", name := "grow", desc := "(I)[Ljava/lang/Object;" } : Jvm.MethodName) jdk_38_method_6_code (4 : Nat) (Option.some (Jvm.ClassFile.FieldType.array (Jvm.ClassFile.FieldType.object "java/lang/Object")))).before args0 about1 = true := code_word (m := ⟨11, 1⟩) (meth := k11m1) (c := k11c1) (by decide +kernel) rfl rfl rfl (by decide +kernel)
set_option maxRecDepth 65536 in
theorem w_c15 : (Jvm.Cond.code ({ cls := "java/lang/Math", name := "max", desc := "(II)I" } : Jvm.MethodName) jdk_29_method_65_code (2 : Nat) (Option.some Jvm.ClassFile.FieldType.int)).before args0 about1 = true := code_word (m := ⟨18, 1⟩) (meth := k18m1) (c := k18c1) (by decide +kernel) rfl rfl rfl (by decide +kernel)
set_option maxRecDepth 65536 in
theorem w_c16 : (Jvm.Cond.code ({ cls := "com/example/vertere/vertere/engine/Answers", name := "<init>", desc := "(Ljava/util/List;ZLjava/util/Optional;)V" } : Jvm.MethodName) prog_6_method_1_code (4 : Nat) (Option.none : Option Jvm.ClassFile.FieldType)).before args0 about1 = true := code_word (m := ⟨19, 0⟩) (meth := k19m0) (c := k19c0) (by decide +kernel) rfl rfl rfl (by decide +kernel)
set_option maxRecDepth 65536 in
theorem w_c17 : (Jvm.Cond.code ({ cls := "java/util/List", name := "copyOf", desc := "(Ljava/util/Collection;)Ljava/util/List;" } : Jvm.MethodName) jdk_40_method_48_code (1 : Nat) (Option.some (Jvm.ClassFile.FieldType.object "java/util/List"))).before args0 about1 = true := code_word (m := ⟨6, 3⟩) (meth := k6m3) (c := k6c3) (by decide +kernel) rfl rfl rfl (by decide +kernel)
set_option maxRecDepth 65536 in
theorem w_c18 : (Jvm.Cond.code ({ cls := "java/util/ImmutableCollections", name := "listCopy", desc := "(Ljava/util/Collection;)Ljava/util/List;" } : Jvm.MethodName) jdk_56_method_3_code (2 : Nat) (Option.some (Jvm.ClassFile.FieldType.object "java/util/List"))).before args0 about1 = true := code_word (m := ⟨20, 1⟩) (meth := k20m1) (c := k20c1) (by decide +kernel) rfl rfl rfl (by decide +kernel)
set_option maxRecDepth 65536 in
theorem w_c19 : (Jvm.Cond.code ({ cls := "java/util/ArrayList", name := "isEmpty", desc := "()Z" } : Jvm.MethodName) jdk_38_method_9_code (1 : Nat) (Option.some Jvm.ClassFile.FieldType.boolean)).before args0 about1 = true := code_word (m := ⟨11, 4⟩) (meth := k11m4) (c := k11c4) (by decide +kernel) rfl rfl rfl (by decide +kernel)
set_option maxRecDepth 65536 in
theorem w_c20 : (Jvm.Cond.code ({ cls := "java/util/ArrayList", name := "toArray", desc := "()[Ljava/lang/Object;" } : Jvm.MethodName) jdk_38_method_16_code (1 : Nat) (Option.some (Jvm.ClassFile.FieldType.array (Jvm.ClassFile.FieldType.object "java/lang/Object")))).before args0 about1 = true := code_word (m := ⟨11, 5⟩) (meth := k11m5) (c := k11c5) (by decide +kernel) rfl rfl rfl (by decide +kernel)
set_option maxRecDepth 65536 in
theorem w_c21 : (Jvm.Cond.code ({ cls := "java/util/Arrays", name := "copyOf", desc := "([Ljava/lang/Object;I)[Ljava/lang/Object;" } : Jvm.MethodName) jdk_65_method_119_code (2 : Nat) (Option.some (Jvm.ClassFile.FieldType.array (Jvm.ClassFile.FieldType.object "java/lang/Object")))).before args0 about1 = true := code_word (m := ⟨25, 1⟩) (meth := k25m1) (c := k25c1) (by decide +kernel) rfl rfl rfl (by decide +kernel)
set_option maxRecDepth 65536 in
theorem w_c22 : (Jvm.Cond.code ({ cls := "java/util/Arrays", name := "copyOf", desc := "([Ljava/lang/Object;ILjava/lang/Class;)[Ljava/lang/Object;" } : Jvm.MethodName) jdk_65_method_120_code (4 : Nat) (Option.some (Jvm.ClassFile.FieldType.array (Jvm.ClassFile.FieldType.object "java/lang/Object")))).before args0 about1 = true := code_word (m := ⟨25, 2⟩) (meth := k25m2) (c := k25c2) (by decide +kernel) rfl rfl rfl (by decide +kernel)
set_option maxRecDepth 65536 in
theorem w_c23 : (Jvm.Cond.code ({ cls := "java/lang/Math", name := "min", desc := "(II)I" } : Jvm.MethodName) jdk_29_method_69_code (2 : Nat) (Option.some Jvm.ClassFile.FieldType.int)).before args0 about1 = true := code_word (m := ⟨18, 2⟩) (meth := k18m2) (c := k18c2) (by decide +kernel) rfl rfl rfl (by decide +kernel)
set_option maxRecDepth 65536 in
theorem w_c24 : (Jvm.Cond.code ({ cls := "java/util/List", name := "of", desc := "([Ljava/lang/Object;)Ljava/util/List;" } : Jvm.MethodName) jdk_40_method_47_code (2 : Nat) (Option.some (Jvm.ClassFile.FieldType.object "java/util/List"))).before args0 about1 = true := code_word (m := ⟨6, 2⟩) (meth := k6m2) (c := k6c2) (by decide +kernel) rfl rfl rfl (by decide +kernel)
set_option maxRecDepth 65536 in
theorem w_c25 : (Jvm.Cond.code ({ cls := "java/util/ImmutableCollections$List12", name := "<init>", desc := "(Ljava/lang/Object;)V" } : Jvm.MethodName) jdk_44_method_1_code (2 : Nat) (Option.none : Option Jvm.ClassFile.FieldType)).before args0 about1 = true := code_word (m := ⟨23, 0⟩) (meth := k23m0) (c := k23c0) (by decide +kernel) rfl rfl rfl (by decide +kernel)
set_option maxRecDepth 65536 in
theorem w_c26 : (Jvm.Cond.code ({ cls := "java/util/ImmutableCollections$AbstractImmutableList", name := "<init>", desc := "()V" } : Jvm.MethodName) jdk_46_method_1_code (1 : Nat) (Option.none : Option Jvm.ClassFile.FieldType)).before args0 about1 = true := code_word (m := ⟨22, 0⟩) (meth := k22m0) (c := k22c0) (by decide +kernel) rfl rfl rfl (by decide +kernel)
set_option maxRecDepth 65536 in
theorem w_c27 : (Jvm.Cond.code ({ cls := "java/util/ImmutableCollections$AbstractImmutableCollection", name := "<init>", desc := "()V" } : Jvm.MethodName) jdk_47_method_1_code (1 : Nat) (Option.none : Option Jvm.ClassFile.FieldType)).before args0 about1 = true := code_word (m := ⟨21, 0⟩) (meth := k21m0) (c := k21c0) (by decide +kernel) rfl rfl rfl (by decide +kernel)
set_option maxRecDepth 65536 in
theorem w_c28 : (Jvm.Cond.code ({ cls := "java/util/Objects", name := "requireNonNull", desc := "(Ljava/lang/Object;)Ljava/lang/Object;" } : Jvm.MethodName) jdk_31_method_10_code (1 : Nat) (Option.some (Jvm.ClassFile.FieldType.object "java/lang/Object"))).before args0 about1 = true := code_word (m := ⟨27, 1⟩) (meth := k27m1) (c := k27c1) (by decide +kernel) rfl rfl rfl (by decide +kernel)
set_option maxRecDepth 65536 in
theorem w_c29 : (Jvm.Cond.code ({ cls := "java/util/ArrayList", name := "set", desc := "(ILjava/lang/Object;)Ljava/lang/Object;" } : Jvm.MethodName) jdk_38_method_23_code (4 : Nat) (Option.some (Jvm.ClassFile.FieldType.object "java/lang/Object"))).before args0 about1 = true := code_word (m := ⟨11, 8⟩) (meth := k11m8) (c := k11c8) (by decide +kernel) rfl rfl rfl (by decide +kernel)
set_option maxRecDepth 65536 in
theorem w_c30 : (Jvm.Cond.code ({ cls := "java/util/Objects", name := "checkIndex", desc := "(II)I" } : Jvm.MethodName) jdk_31_method_17_code (2 : Nat) (Option.some Jvm.ClassFile.FieldType.int)).before args0 about1 = true := code_word (m := ⟨27, 2⟩) (meth := k27m2) (c := k27c2) (by decide +kernel) rfl rfl rfl (by decide +kernel)
set_option maxRecDepth 65536 in
theorem w_c31 : (Jvm.Cond.code ({ cls := "jdk/internal/util/Preconditions", name := "checkIndex", desc := "(IILjava/util/function/BiFunction;)I" } : Jvm.MethodName) jdk_41_method_11_code (3 : Nat) (Option.some Jvm.ClassFile.FieldType.int)).before args0 about1 = true := code_word (m := ⟨28, 1⟩) (meth := k28m1) (c := k28c1) (by decide +kernel) rfl rfl rfl (by decide +kernel)
set_option maxRecDepth 65536 in
theorem w_c32 : (Jvm.Cond.code ({ cls := "java/util/ArrayList", name := "elementData", desc := "(I)Ljava/lang/Object;" } : Jvm.MethodName) jdk_38_method_18_code (2 : Nat) (Option.some (Jvm.ClassFile.FieldType.object "java/lang/Object"))).before args0 about1 = true := code_word (m := ⟨11, 6⟩) (meth := k11m6) (c := k11c6) (by decide +kernel) rfl rfl rfl (by decide +kernel)
set_option maxRecDepth 65536 in
theorem w_c33 : (Jvm.Cond.code ({ cls := "com/example/vertere/vertere/engine/Answers", name := "get", desc := "(I)Ljava/util/List;" } : Jvm.MethodName) prog_6_method_4_code (2 : Nat) (Option.some (Jvm.ClassFile.FieldType.object "java/util/List"))).before args0 about1 = true := code_word (m := ⟨19, 1⟩) (meth := k19m1) (c := k19c1) (by decide +kernel) rfl rfl rfl (by decide +kernel)
set_option maxRecDepth 65536 in
theorem w_c34 : (Jvm.Cond.code ({ cls := "java/util/ImmutableCollections$List12", name := "get", desc := "(I)Ljava/lang/Object;" } : Jvm.MethodName) jdk_44_method_5_code (2 : Nat) (Option.some (Jvm.ClassFile.FieldType.object "java/lang/Object"))).before args0 about1 = true := code_word (m := ⟨23, 2⟩) (meth := k23m2) (c := k23c2) (by decide +kernel) rfl rfl rfl (by decide +kernel)
set_option maxRecDepth 65536 in
theorem w_c35 : (Jvm.Cond.code ({ cls := "com/example/vertere/vertere/engine/AnswersGetPinLaw", name := "same", desc := "(Ljava/util/List;Ljava/util/List;)Z" } : Jvm.MethodName) method_3_code (3 : Nat) (Option.some Jvm.ClassFile.FieldType.boolean)).before args0 about1 = true := code_word (m := ⟨1, 2⟩) (meth := k1m2) (c := k1c2) (by decide +kernel) rfl rfl rfl (by decide +kernel)
set_option maxRecDepth 65536 in
theorem w_c36 : (Jvm.Cond.code ({ cls := "java/util/ArrayList", name := "size", desc := "()I" } : Jvm.MethodName) jdk_38_method_8_code (1 : Nat) (Option.some Jvm.ClassFile.FieldType.int)).before args0 about1 = true := code_word (m := ⟨11, 3⟩) (meth := k11m3) (c := k11c3) (by decide +kernel) rfl rfl rfl (by decide +kernel)
set_option maxRecDepth 65536 in
theorem w_c37 : (Jvm.Cond.code ({ cls := "java/util/ArrayList", name := "get", desc := "(I)Ljava/lang/Object;" } : Jvm.MethodName) jdk_38_method_20_code (2 : Nat) (Option.some (Jvm.ClassFile.FieldType.object "java/lang/Object"))).before args0 about1 = true := code_word (m := ⟨11, 7⟩) (meth := k11m7) (c := k11c7) (by decide +kernel) rfl rfl rfl (by decide +kernel)
set_option maxRecDepth 65536 in
theorem w_c38 : (Jvm.Cond.code ({ cls := "java/lang/String", name := "equals", desc := "(Ljava/lang/Object;)Z" } : Jvm.MethodName) jdk_42_method_66_code (3 : Nat) (Option.some Jvm.ClassFile.FieldType.boolean)).before args0 about1 = true := code_word (m := ⟨16, 2⟩) (meth := k16m2) (c := k16c2) (by decide +kernel) rfl rfl rfl (by decide +kernel)
set_option maxRecDepth 65536 in
theorem w_c39 : (Jvm.Cond.code ({ cls := "java/util/ImmutableCollections$List12", name := "<init>", desc := "(Ljava/lang/Object;Ljava/lang/Object;)V" } : Jvm.MethodName) jdk_44_method_2_code (3 : Nat) (Option.none : Option Jvm.ClassFile.FieldType)).before args0 about1 = true := code_word (m := ⟨23, 1⟩) (meth := k23m1) (c := k23c1) (by decide +kernel) rfl rfl rfl (by decide +kernel)
set_option maxRecDepth 65536 in
theorem w_c40 : (Jvm.Cond.code ({ cls := "java/util/ImmutableCollections", name := "listFromArray", desc := "([Ljava/lang/Object;)Ljava/util/List;" } : Jvm.MethodName) jdk_56_method_4_code (3 : Nat) (Option.some (Jvm.ClassFile.FieldType.object "java/util/List"))).before args0 about1 = true := code_word (m := ⟨20, 2⟩) (meth := k20m2) (c := k20c2) (by decide +kernel) rfl rfl rfl (by decide +kernel)
set_option maxRecDepth 65536 in
theorem w_c41 : (Jvm.Cond.code ({ cls := "java/util/ImmutableCollections$ListN", name := "<init>", desc := "([Ljava/lang/Object;Z)V" } : Jvm.MethodName) jdk_45_method_1_code (3 : Nat) (Option.none : Option Jvm.ClassFile.FieldType)).before args0 about1 = true := code_word (m := ⟨24, 0⟩) (meth := k24m0) (c := k24c0) (by decide +kernel) rfl rfl rfl (by decide +kernel)
set_option maxRecDepth 65536 in
theorem w_c42 : (Jvm.Cond.code ({ cls := "java/util/ImmutableCollections$ListN", name := "get", desc := "(I)Ljava/lang/Object;" } : Jvm.MethodName) jdk_45_method_4_code (2 : Nat) (Option.some (Jvm.ClassFile.FieldType.object "java/lang/Object"))).before args0 about1 = true := code_word (m := ⟨24, 1⟩) (meth := k24m1) (c := k24c1) (by decide +kernel) rfl rfl rfl (by decide +kernel)
def codes1 : List Jvm.Cond := [Jvm.Cond.code x code maxLocals ret, Jvm.Cond.code ({ cls := "java/util/ArrayList", name := "<init>", desc := "()V" } : Jvm.MethodName) jdk_38_method_2_code (1 : Nat) (Option.none : Option Jvm.ClassFile.FieldType), Jvm.Cond.code ({ cls := "java/util/AbstractList", name := "<init>", desc := "()V" } : Jvm.MethodName) jdk_39_method_1_code (1 : Nat) (Option.none : Option Jvm.ClassFile.FieldType), Jvm.Cond.code ({ cls := "java/util/AbstractCollection", name := "<init>", desc := "()V" } : Jvm.MethodName) jdk_22_method_1_code (1 : Nat) (Option.none : Option Jvm.ClassFile.FieldType), Jvm.Cond.code ({ cls := "java/lang/Object", name := "<init>", desc := "()V" } : Jvm.MethodName) object_method_1_code (1 : Nat) (Option.none : Option Jvm.ClassFile.FieldType), Jvm.Cond.code ({ cls := "com/example/vertere/vertere/engine/AnswersGetPinLaw", name := "s", desc := "(I)Ljava/lang/String;" } : Jvm.MethodName) method_2_code (2 : Nat) (Option.some (Jvm.ClassFile.FieldType.object "java/lang/String")), Jvm.Cond.code ({ cls := "java/lang/String", name := "<init>", desc := "([C)V" } : Jvm.MethodName) jdk_42_method_3_code (2 : Nat) (Option.none : Option Jvm.ClassFile.FieldType), Jvm.Cond.code ({ cls := "java/lang/String", name := "<init>", desc := "([CIILjava/lang/Void;)V" } : Jvm.MethodName) jdk_42_method_149_code (6 : Nat) (Option.none : Option Jvm.ClassFile.FieldType), Jvm.Cond.code ({ cls := "java/lang/StringUTF16", name := "compress", desc := "([CII)[B" } : Jvm.MethodName) jdk_52_method_16_code (6 : Nat) (Option.some (Jvm.ClassFile.FieldType.array Jvm.ClassFile.FieldType.byte)), Jvm.Cond.code ({ cls := "java/lang/StringUTF16", name := "compress", desc := "([CI[BII)I" } : Jvm.MethodName) jdk_52_method_21_code (7 : Nat) (Option.some Jvm.ClassFile.FieldType.int), Jvm.Cond.code ({ cls := "java/lang/StringUTF16", name := "coderFromArrayLen", desc := "([BI)B" } : Jvm.MethodName) jdk_52_method_15_code (2 : Nat) (Option.some Jvm.ClassFile.FieldType.byte), Jvm.Cond.code ({ cls := "java/util/ArrayList", name := "add", desc := "(Ljava/lang/Object;)Z" } : Jvm.MethodName) jdk_38_method_25_code (2 : Nat) (Option.some Jvm.ClassFile.FieldType.boolean), Jvm.Cond.code ({ cls := "java/util/ArrayList", name := "add", desc := "(Ljava/lang/Object;[Ljava/lang/Object;I)V" } : Jvm.MethodName) jdk_38_method_24_code (4 : Nat) (Option.none : Option Jvm.ClassFile.FieldType), Jvm.Cond.code ({ cls := "java/util/ArrayList", name := "grow", desc := "()[Ljava/lang/Object;" } : Jvm.MethodName) jdk_38_method_7_code (1 : Nat) (Option.some (Jvm.ClassFile.FieldType.array (Jvm.ClassFile.FieldType.object "java/lang/Object"))), Jvm.Cond.code ({ cls := "java/util/ArrayList", name := "grow", desc := "(I)[Ljava/lang/Object;" } : Jvm.MethodName) jdk_38_method_6_code (4 : Nat) (Option.some (Jvm.ClassFile.FieldType.array (Jvm.ClassFile.FieldType.object "java/lang/Object"))), Jvm.Cond.code ({ cls := "java/lang/Math", name := "max", desc := "(II)I" } : Jvm.MethodName) jdk_29_method_65_code (2 : Nat) (Option.some Jvm.ClassFile.FieldType.int), Jvm.Cond.code ({ cls := "com/example/vertere/vertere/engine/Answers", name := "<init>", desc := "(Ljava/util/List;ZLjava/util/Optional;)V" } : Jvm.MethodName) prog_6_method_1_code (4 : Nat) (Option.none : Option Jvm.ClassFile.FieldType), Jvm.Cond.code ({ cls := "java/util/List", name := "copyOf", desc := "(Ljava/util/Collection;)Ljava/util/List;" } : Jvm.MethodName) jdk_40_method_48_code (1 : Nat) (Option.some (Jvm.ClassFile.FieldType.object "java/util/List")), Jvm.Cond.code ({ cls := "java/util/ImmutableCollections", name := "listCopy", desc := "(Ljava/util/Collection;)Ljava/util/List;" } : Jvm.MethodName) jdk_56_method_3_code (2 : Nat) (Option.some (Jvm.ClassFile.FieldType.object "java/util/List")), Jvm.Cond.code ({ cls := "java/util/ArrayList", name := "isEmpty", desc := "()Z" } : Jvm.MethodName) jdk_38_method_9_code (1 : Nat) (Option.some Jvm.ClassFile.FieldType.boolean), Jvm.Cond.code ({ cls := "java/util/ArrayList", name := "toArray", desc := "()[Ljava/lang/Object;" } : Jvm.MethodName) jdk_38_method_16_code (1 : Nat) (Option.some (Jvm.ClassFile.FieldType.array (Jvm.ClassFile.FieldType.object "java/lang/Object"))), Jvm.Cond.code ({ cls := "java/util/Arrays", name := "copyOf", desc := "([Ljava/lang/Object;I)[Ljava/lang/Object;" } : Jvm.MethodName) jdk_65_method_119_code (2 : Nat) (Option.some (Jvm.ClassFile.FieldType.array (Jvm.ClassFile.FieldType.object "java/lang/Object"))), Jvm.Cond.code ({ cls := "java/util/Arrays", name := "copyOf", desc := "([Ljava/lang/Object;ILjava/lang/Class;)[Ljava/lang/Object;" } : Jvm.MethodName) jdk_65_method_120_code (4 : Nat) (Option.some (Jvm.ClassFile.FieldType.array (Jvm.ClassFile.FieldType.object "java/lang/Object"))), Jvm.Cond.code ({ cls := "java/lang/Math", name := "min", desc := "(II)I" } : Jvm.MethodName) jdk_29_method_69_code (2 : Nat) (Option.some Jvm.ClassFile.FieldType.int), Jvm.Cond.code ({ cls := "java/util/List", name := "of", desc := "([Ljava/lang/Object;)Ljava/util/List;" } : Jvm.MethodName) jdk_40_method_47_code (2 : Nat) (Option.some (Jvm.ClassFile.FieldType.object "java/util/List")), Jvm.Cond.code ({ cls := "java/util/ImmutableCollections$List12", name := "<init>", desc := "(Ljava/lang/Object;)V" } : Jvm.MethodName) jdk_44_method_1_code (2 : Nat) (Option.none : Option Jvm.ClassFile.FieldType), Jvm.Cond.code ({ cls := "java/util/ImmutableCollections$AbstractImmutableList", name := "<init>", desc := "()V" } : Jvm.MethodName) jdk_46_method_1_code (1 : Nat) (Option.none : Option Jvm.ClassFile.FieldType), Jvm.Cond.code ({ cls := "java/util/ImmutableCollections$AbstractImmutableCollection", name := "<init>", desc := "()V" } : Jvm.MethodName) jdk_47_method_1_code (1 : Nat) (Option.none : Option Jvm.ClassFile.FieldType), Jvm.Cond.code ({ cls := "java/util/Objects", name := "requireNonNull", desc := "(Ljava/lang/Object;)Ljava/lang/Object;" } : Jvm.MethodName) jdk_31_method_10_code (1 : Nat) (Option.some (Jvm.ClassFile.FieldType.object "java/lang/Object")), Jvm.Cond.code ({ cls := "java/util/ArrayList", name := "set", desc := "(ILjava/lang/Object;)Ljava/lang/Object;" } : Jvm.MethodName) jdk_38_method_23_code (4 : Nat) (Option.some (Jvm.ClassFile.FieldType.object "java/lang/Object")), Jvm.Cond.code ({ cls := "java/util/Objects", name := "checkIndex", desc := "(II)I" } : Jvm.MethodName) jdk_31_method_17_code (2 : Nat) (Option.some Jvm.ClassFile.FieldType.int), Jvm.Cond.code ({ cls := "jdk/internal/util/Preconditions", name := "checkIndex", desc := "(IILjava/util/function/BiFunction;)I" } : Jvm.MethodName) jdk_41_method_11_code (3 : Nat) (Option.some Jvm.ClassFile.FieldType.int), Jvm.Cond.code ({ cls := "java/util/ArrayList", name := "elementData", desc := "(I)Ljava/lang/Object;" } : Jvm.MethodName) jdk_38_method_18_code (2 : Nat) (Option.some (Jvm.ClassFile.FieldType.object "java/lang/Object")), Jvm.Cond.code ({ cls := "com/example/vertere/vertere/engine/Answers", name := "get", desc := "(I)Ljava/util/List;" } : Jvm.MethodName) prog_6_method_4_code (2 : Nat) (Option.some (Jvm.ClassFile.FieldType.object "java/util/List")), Jvm.Cond.code ({ cls := "java/util/ImmutableCollections$List12", name := "get", desc := "(I)Ljava/lang/Object;" } : Jvm.MethodName) jdk_44_method_5_code (2 : Nat) (Option.some (Jvm.ClassFile.FieldType.object "java/lang/Object")), Jvm.Cond.code ({ cls := "com/example/vertere/vertere/engine/AnswersGetPinLaw", name := "same", desc := "(Ljava/util/List;Ljava/util/List;)Z" } : Jvm.MethodName) method_3_code (3 : Nat) (Option.some Jvm.ClassFile.FieldType.boolean), Jvm.Cond.code ({ cls := "java/util/ArrayList", name := "size", desc := "()I" } : Jvm.MethodName) jdk_38_method_8_code (1 : Nat) (Option.some Jvm.ClassFile.FieldType.int), Jvm.Cond.code ({ cls := "java/util/ArrayList", name := "get", desc := "(I)Ljava/lang/Object;" } : Jvm.MethodName) jdk_38_method_20_code (2 : Nat) (Option.some (Jvm.ClassFile.FieldType.object "java/lang/Object")), Jvm.Cond.code ({ cls := "java/lang/String", name := "equals", desc := "(Ljava/lang/Object;)Z" } : Jvm.MethodName) jdk_42_method_66_code (3 : Nat) (Option.some Jvm.ClassFile.FieldType.boolean), Jvm.Cond.code ({ cls := "java/util/ImmutableCollections$List12", name := "<init>", desc := "(Ljava/lang/Object;Ljava/lang/Object;)V" } : Jvm.MethodName) jdk_44_method_2_code (3 : Nat) (Option.none : Option Jvm.ClassFile.FieldType), Jvm.Cond.code ({ cls := "java/util/ImmutableCollections", name := "listFromArray", desc := "([Ljava/lang/Object;)Ljava/util/List;" } : Jvm.MethodName) jdk_56_method_4_code (3 : Nat) (Option.some (Jvm.ClassFile.FieldType.object "java/util/List")), Jvm.Cond.code ({ cls := "java/util/ImmutableCollections$ListN", name := "<init>", desc := "([Ljava/lang/Object;Z)V" } : Jvm.MethodName) jdk_45_method_1_code (3 : Nat) (Option.none : Option Jvm.ClassFile.FieldType), Jvm.Cond.code ({ cls := "java/util/ImmutableCollections$ListN", name := "get", desc := "(I)Ljava/lang/Object;" } : Jvm.MethodName) jdk_45_method_4_code (2 : Nat) (Option.some (Jvm.ClassFile.FieldType.object "java/lang/Object"))]
set_option maxRecDepth 65536 in
theorem codes_eq : words1.filter isCode = codes1 := rfl
theorem w_codes : ∀ c ∈ words1.filter isCode, c.before args0 about1 = true := by
  rw [codes_eq]
  intro c hc
  simp only [codes1, List.mem_cons, List.not_mem_nil, or_false] at hc
  rcases hc with rfl | rfl | rfl | rfl | rfl | rfl | rfl | rfl | rfl | rfl | rfl | rfl | rfl | rfl | rfl | rfl | rfl | rfl | rfl | rfl | rfl | rfl | rfl | rfl | rfl | rfl | rfl | rfl | rfl | rfl | rfl | rfl | rfl | rfl | rfl | rfl | rfl | rfl | rfl | rfl | rfl | rfl | rfl
  · exact w_c0
  · exact w_c1
  · exact w_c2
  · exact w_c3
  · exact w_c4
  · exact w_c5
  · exact w_c6
  · exact w_c7
  · exact w_c8
  · exact w_c9
  · exact w_c10
  · exact w_c11
  · exact w_c12
  · exact w_c13
  · exact w_c14
  · exact w_c15
  · exact w_c16
  · exact w_c17
  · exact w_c18
  · exact w_c19
  · exact w_c20
  · exact w_c21
  · exact w_c22
  · exact w_c23
  · exact w_c24
  · exact w_c25
  · exact w_c26
  · exact w_c27
  · exact w_c28
  · exact w_c29
  · exact w_c30
  · exact w_c31
  · exact w_c32
  · exact w_c33
  · exact w_c34
  · exact w_c35
  · exact w_c36
  · exact w_c37
  · exact w_c38
  · exact w_c39
  · exact w_c40
  · exact w_c41
  · exact w_c42
set_option maxRecDepth 65536 in
theorem w_t1 : (words1.take 24).all (fun c => isCode c || c.before args0 about1) = true := by decide +kernel
set_option maxRecDepth 65536 in
theorem w_t2 : ((words1.drop 24).take 24).all (fun c => isCode c || c.before args0 about1) = true := by decide +kernel
set_option maxRecDepth 65536 in
theorem w_t3 : (((words1.drop 24).drop 24).take 24).all (fun c => isCode c || c.before args0 about1) = true := by decide +kernel
set_option maxRecDepth 65536 in
theorem w_t4 : ((((words1.drop 24).drop 24).drop 24).take 24).all (fun c => isCode c || c.before args0 about1) = true := by decide +kernel
set_option maxRecDepth 65536 in
theorem w_t5 : (((((words1.drop 24).drop 24).drop 24).drop 24).take 24).all (fun c => isCode c || c.before args0 about1) = true := by decide +kernel
set_option maxRecDepth 65536 in
theorem w_t6 : ((((((words1.drop 24).drop 24).drop 24).drop 24).drop 24).take 24).all (fun c => isCode c || c.before args0 about1) = true := by decide +kernel
set_option maxRecDepth 65536 in
theorem w_t7 : (((((((words1.drop 24).drop 24).drop 24).drop 24).drop 24).drop 24).take 24).all (fun c => isCode c || c.before args0 about1) = true := by decide +kernel
set_option maxRecDepth 65536 in
theorem w_t8 : ((((((((words1.drop 24).drop 24).drop 24).drop 24).drop 24).drop 24).drop 24).take 24).all (fun c => isCode c || c.before args0 about1) = true := by decide +kernel
set_option maxRecDepth 65536 in
theorem w_t9 : (((((((((words1.drop 24).drop 24).drop 24).drop 24).drop 24).drop 24).drop 24).drop 24).take 24).all (fun c => isCode c || c.before args0 about1) = true := by decide +kernel
set_option maxRecDepth 65536 in
theorem w_t10 : ((((((((((words1.drop 24).drop 24).drop 24).drop 24).drop 24).drop 24).drop 24).drop 24).drop 24).take 24).all (fun c => isCode c || c.before args0 about1) = true := by decide +kernel
set_option maxRecDepth 65536 in
theorem w_t11 : (((((((((((words1.drop 24).drop 24).drop 24).drop 24).drop 24).drop 24).drop 24).drop 24).drop 24).drop 24).take 24).all (fun c => isCode c || c.before args0 about1) = true := by decide +kernel
set_option maxRecDepth 65536 in
theorem w_t12 : (((((((((((words1.drop 24).drop 24).drop 24).drop 24).drop 24).drop 24).drop 24).drop 24).drop 24).drop 24).drop 24).all (fun c => isCode c || c.before args0 about1) = true := by decide +kernel
theorem w_tables : (allAtoms (Jvm.Cond.code x code maxLocals ret :: tables_1)).before args0 about1 = true := by
  rw [allAtoms_all]
  show words1.all (fun c => c.before args0 about1) = true
  refine all_split ?_ w_codes
  rw [← List.take_append_drop 24 words1, List.all_append, w_t1, ← List.take_append_drop 24 (words1.drop 24), List.all_append, w_t2, ← List.take_append_drop 24 ((words1.drop 24).drop 24), List.all_append, w_t3, ← List.take_append_drop 24 (((words1.drop 24).drop 24).drop 24), List.all_append, w_t4, ← List.take_append_drop 24 ((((words1.drop 24).drop 24).drop 24).drop 24), List.all_append, w_t5, ← List.take_append_drop 24 (((((words1.drop 24).drop 24).drop 24).drop 24).drop 24), List.all_append, w_t6, ← List.take_append_drop 24 ((((((words1.drop 24).drop 24).drop 24).drop 24).drop 24).drop 24), List.all_append, w_t7, ← List.take_append_drop 24 (((((((words1.drop 24).drop 24).drop 24).drop 24).drop 24).drop 24).drop 24), List.all_append, w_t8, ← List.take_append_drop 24 ((((((((words1.drop 24).drop 24).drop 24).drop 24).drop 24).drop 24).drop 24).drop 24), List.all_append, w_t9, ← List.take_append_drop 24 (((((((((words1.drop 24).drop 24).drop 24).drop 24).drop 24).drop 24).drop 24).drop 24).drop 24), List.all_append, w_t10, ← List.take_append_drop 24 ((((((((((words1.drop 24).drop 24).drop 24).drop 24).drop 24).drop 24).drop 24).drop 24).drop 24).drop 24), List.all_append, w_t11, w_t12]
  rfl
set_option maxRecDepth 65536 in
theorem w_rest : rest_1_c.before args0 about1 = true := by decide +kernel
set_option maxRecDepth 65536 in
theorem w_case : (Jvm.Cond.and given_1 narrow_1).before args0 about1 = true := by decide +kernel
theorem w_applies : (headSpec (Jvm.Cond.code x code maxLocals ret :: tables_1) room_1).applies x e0.platform about1 = true :=
  (Spec.applies_iff w_frames).mpr ⟨w_running, w_runnable, w_alone, w_named, w_hears, w_ripe, w_room, w_tables⟩
theorem atStart : AtStart classFile x code maxLocals ret World_1 tables_1 room_1 Calls_1 rest_1 Pre_1 launch0 p0 e0 about1 theMethod args0 below0 :=
  ⟨lists_1, trivial, launch0.admits_env _ _ _, launch0.least_env, fairChoices_fair.cas, fairChoices_fair.clock, w_frames, w_args, w_heap, w_applies, ⟨⟨36, k36, 4, by decide +kernel, rfl, rfl, _, rfl, rfl⟩, trivial⟩, w_rest, w_case⟩
end start1
theorem witness_1 : WitnessClaimed_1 := ⟨start1.p0, start1.e0, start1.about1, start1.theMethod, start1.args0, start1.below0, start1.atStart⟩
end Jvm.Pilot.@@N@@
