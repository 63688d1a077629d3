import JvmDerived
import JvmDerived.Pilot.@@N@@Statement
import JvmDerived.Pilot.@@N@@Code
set_option linter.unusedVariables false
set_option linter.unusedSimpArgs false
/- laws to paste: Road.backV, Road.codOf, Road.lenW, Road.chN (cut by pick.py; bodies as the Statement names them) -/
namespace Jvm.Pilot.@@N@@
namespace StrChars
open Jvm Sem ClassFile Op Lib Jvm.Stand Jvm.Free.XT Jvm.Free.ALB Jvm.Free.JM Jvm.Free
open Jvm.Lib.Cold (StaticIs)
/-- a char array whose places are chars -/
def Ch (a : Addr) (A : Cell) (U : State) : Prop := Arr .char a A U ∧ Typed .char A
theorem Ch.mv {a : Addr} {A : Cell} {U U' : State} (h : Ch a A U) (hal : U.vm.Alike U'.vm) (hh : U'.heap = U.heap) : Ch a A U' := ⟨h.1.mv hal hh, h.2⟩
theorem Ch.keep {a : Addr} {A : Cell} {U U' : State} (h : Ch a A U) (hal : U.vm.Alike U'.vm) (hk : U'.heap[a]? = some A) : Ch a A U' := ⟨h.1.keep hal hk, h.2⟩
/-- what place i of a char[]'s cell holds -/
def cv (A : Cell) (i : Nat) : Int32 := match A.slots[i]? with | some (.int x) => x | _ => 0
theorem Ch.get {a : Addr} {A : Cell} {U : State} (h : Ch a A U) {i : Nat} (hi : i < A.slots.size) : A.slots[i]? = some (.int (cv A i)) := by
  have e := Array.getElem?_eq_getElem hi
  have f := h.2 i _ e
  unfold cv; rw [e]
  generalize A.slots[i] = v at f
  cases v <;> simp [fits] at f ⊢
/-- the byte that i2b leaves of a char -/
def lo8 (x : Int32) : Int32 := x.toInt8.toInt32
theorem fits_lo8 (y : Int32) : fits .byte (.int (lo8 y)) = true := by
  have h1 := y.toInt8.le_toInt
  have h2 := y.toInt8.toInt_lt
  simp only [lo8, fits, Bool.and_eq_true, decide_eq_true_eq, Int32.le_iff_toInt_le, Int8.toInt_toInt32, show (-128 : Int32).toInt = -128 from by decide, show (127 : Int32).toInt = 127 from by decide]
  omega
/-- A' is A but that each place j of lo .. hi - 1 holds f j -/
def Laid (A A' : Cell) (lo hi : Nat) (f : Nat → Value) : Prop := A'.cls = A.cls ∧ A'.vm = A.vm ∧ A'.slots.size = A.slots.size ∧ ∀ i, A'.slots[i]? = if lo ≤ i ∧ i < hi then some (f i) else A.slots[i]?
theorem Laid.zero (A : Cell) (lo : Nat) (f : Nat → Value) : Laid A A lo (lo + 0) f := ⟨rfl, rfl, rfl, fun i => by rw [if_neg (by omega)]⟩
theorem Laid.step {A Ak : Cell} {lo k : Nat} {f : Nat → Value} {v : Value} (h : Laid A Ak lo k f) (hlo : lo ≤ k) (hk : k < Ak.slots.size) (hv : v = f k) : Laid A (Ak.setSlot k v) lo (k + 1) f := by
  refine ⟨h.1, h.2.1, by simpa [Cell.setSlot] using h.2.2.1, fun i => ?_⟩
  by_cases e : k = i
  · subst e; rw [Cell.slots_setSlot_self v hk, if_pos (by omega), hv]
  · rw [Cell.slots_setSlot_ne v e, h.2.2.2 i]
    by_cases q : lo ≤ i ∧ i < k
    · rw [if_pos q, if_pos (by omega)]
    · rw [if_neg q, if_neg (by omega)]
def U16 : String := "java/lang/StringUTF16"
namespace Cmp5
def yN : MethodName := ⟨"java/lang/StringUTF16", "compress", "([CI[BII)I"⟩
abbrev yB : ByteArray := jdk_52_method_21_code
theorem d0 : decode yB 0 = .ok (.iconst 0, 1) := by decide +kernel
theorem d1 : decode yB 1 = .ok (.istore 5, 2) := by decide +kernel
theorem d3 : decode yB 3 = .ok (.iload 5, 2) := by decide +kernel
theorem d5 : decode yB 5 = .ok (.iload 4, 2) := by decide +kernel
theorem d7 : decode yB 7 = .ok (.if_icmp (.ge) 37, 3) := by decide +kernel
theorem d10 : decode yB 10 = .ok (.aload_n 0, 1) := by decide +kernel
theorem d11 : decode yB 11 = .ok (.iload_n 1, 1) := by decide +kernel
theorem d12 : decode yB 12 = .ok (.caload, 1) := by decide +kernel
theorem d13 : decode yB 13 = .ok (.istore 6, 2) := by decide +kernel
theorem d15 : decode yB 15 = .ok (.iload 6, 2) := by decide +kernel
theorem d17 : decode yB 17 = .ok (.sipush 255, 3) := by decide +kernel
theorem d20 : decode yB 20 = .ok (.if_icmp (.le) 6, 3) := by decide +kernel
theorem d26 : decode yB 26 = .ok (.aload_n 2, 1) := by decide +kernel
theorem d27 : decode yB 27 = .ok (.iload_n 3, 1) := by decide +kernel
theorem d28 : decode yB 28 = .ok (.iload 6, 2) := by decide +kernel
theorem d30 : decode yB 30 = .ok (.i2b, 1) := by decide +kernel
theorem d31 : decode yB 31 = .ok (.bastore, 1) := by decide +kernel
theorem d32 : decode yB 32 = .ok (.iinc 1 1, 3) := by decide +kernel
theorem d35 : decode yB 35 = .ok (.iinc 3 1, 3) := by decide +kernel
theorem d38 : decode yB 38 = .ok (.iinc 5 1, 3) := by decide +kernel
theorem d41 : decode yB 41 = .ok (.goto (-38), 3) := by decide +kernel
theorem d44 : decode yB 44 = .ok (.iload 4, 2) := by decide +kernel
theorem d46 : decode yB 46 = .ok (.ireturn, 1) := by decide +kernel
def site : List Cond := []
def tab : Cond := tabOf yN yB 7 (some .int) site
def P (b : Addr) (A : Cell) (d : Addr) (B : Cell) (o q len : Nat) (args : Array Value) (s : State) : Prop := args = #[.ref b, .int (Int32.ofNat o), .ref d, .int (Int32.ofNat q), .int (Int32.ofNat len)] ∧ Ch b A s ∧ Arr .byte d B s ∧ b ≠ d ∧ o + len ≤ A.slots.size ∧ q + len ≤ B.slots.size ∧ ∀ i, i < len → ¬ 255 < cv A (o + i)
def E (b : Addr) (A : Cell) (d : Addr) (B : Cell) (o q len : Nat) (r : Option Value) (s u : State) : Prop := r = some (.int (Int32.ofNat len)) ∧ ∃ B', Put d B' s u ∧ Laid B B' q (q + len) (fun j => Value.int (lo8 (cv A (o + (j - q)))))
/-- no char of the range above 255: len; the places written hold each char's low byte -/
theorem law (l : Launch) (b : Addr) (A : Cell) (d : Addr) (B : Cell) (o q len : Nat) : Law l yN 5 5 0 0 yB 7 (some .int) site (P b A d B o q len) (E b A d B o q len) (copyLocs d q len) 0 0 := by
  refine Law.of_walk (plainFor_of_name (by decide +kernel)) (by decide +kernel) (by decide +kernel) (by decide) (fun _ _ h => by rw [h.1]; rfl) (fun _ U U' hal hh h => ⟨h.1, h.2.1.mv hal hh, h.2.2.1.mv hal hh, h.2.2.2⟩) (fun r U U' V V' h1 hal h2 h => ⟨h.1, h.2.elim fun B' q => ⟨B', q.1.mv h1 h2, q.2⟩⟩) ?_
  intro p e s m args below meth c s₁ X0 hexec hbytes hml hret hlk hnm hown hh0 W hP
  obtain ⟨rfl, hA, hB, hne, l1, l2, hp⟩ := hP
  have c1 : Steps p.tables e below (s₁.setTop (entryFrame m #[.ref b, .int (Int32.ofNat o), .ref d, .int (Int32.ofNat q), .int (Int32.ofNat len)] 7)) (s₁.setTop (mkF m 0 #[.val (.ref b), .val (.int (Int32.ofNat o)), .val (.ref d), .val (.int (Int32.ofNat q)), .val (.int (Int32.ofNat len)), .unset, .unset] [])) := entry rfl
  have hA0 := hA.1.mv X0.warmed.alike hh0
  have hB0 := hB.mv X0.warmed.alike hh0
  have a31 := hA.1.2.2.2
  have c2 : Steps p.tables e below (s₁.setTop (entryFrame m #[.ref b, .int (Int32.ofNat o), .ref d, .int (Int32.ofNat q), .int (Int32.ofNat len)] 7)) (s₁.setTop (mkF m 3 #[.val (.ref b), .val (.int (Int32.ofNat o)), .val (.ref d), .val (.int (Int32.ofNat q)), .val (.int (Int32.ofNat len)), .val (.int 0), .unset] [])) := c1.trans (by
    refine iconstV X0.here hexec rfl 0 (hb hbytes d0) (by decide) ?_
    refine XS.istore X0.here hexec rfl (hb hbytes d1) rfl rfl ?_
    exact Steps.refl _)
  have loop : ∀ (r i : Nat), i + r = len → ∀ (z : Slot), (z = .unset ∨ ∃ w, z = .val w ∧ w.category = 1) → ∀ (Tl : State) (Bk : Cell), Stand p l e { frames := 0, locals := 0, cells := 0, slots := 0 } s m #[.ref b, .int (Int32.ofNat o), .ref d, .int (Int32.ofNat q), .int (Int32.ofNat len)] below meth c Tl ([] ++ copyLocs d q i) 0 0 → Put d Bk s₁ Tl → Laid B Bk q (q + i) (fun j => Value.int (lo8 (cv A (o + (j - q))))) →
      Steps p.tables e below (s₁.setTop (entryFrame m #[.ref b, .int (Int32.ofNat o), .ref d, .int (Int32.ofNat q), .int (Int32.ofNat len)] 7)) (Tl.setTop (mkF m 3 #[.val (.ref b), .val (.int (Int32.ofNat (o + i))), .val (.ref d), .val (.int (Int32.ofNat (q + i))), .val (.int (Int32.ofNat len)), .val (.int (Int32.ofNat i)), z] [])) → ∃ (T' : State) (B' : Cell) (z' : Slot), Stand p l e { frames := 0, locals := 0, cells := 0, slots := 0 } s m #[.ref b, .int (Int32.ofNat o), .ref d, .int (Int32.ofNat q), .int (Int32.ofNat len)] below meth c T' ([] ++ copyLocs d q len) 0 0 ∧ Put d B' s₁ T' ∧ Laid B B' q (q + len) (fun j => Value.int (lo8 (cv A (o + (j - q))))) ∧
      Steps p.tables e below (s₁.setTop (entryFrame m #[.ref b, .int (Int32.ofNat o), .ref d, .int (Int32.ofNat q), .int (Int32.ofNat len)] 7)) (T'.setTop (mkF m 3 #[.val (.ref b), .val (.int (Int32.ofNat (o + len))), .val (.ref d), .val (.int (Int32.ofNat (q + len))), .val (.int (Int32.ofNat len)), .val (.int (Int32.ofNat len)), z'] [])) := by
    intro r
    induction r with
    | zero =>
      intro i hi z hz Tl Bk Xl pl fl cl
      have hil : i = len := by omega
      rw [hil] at Xl fl cl
      exact ⟨Tl, Bk, z, Xl, pl, fl, cl⟩
    | succ r ih =>
      intro i hi z hz Tl Bk Xl pl fl cl
      have all := X0.warmed.alike.symm.trans Xl.warmed.alike
      have hAl := hA0.keep all (pl.other hne hA0.1)
      have hBk := hB0.like all pl.1 fl.1 fl.2.1 fl.2.2.1
      have hlt : q + i < Bk.slots.size := by rw [fl.2.2.1]; omega
      have c3 : Steps p.tables e below (s₁.setTop (entryFrame m #[.ref b, .int (Int32.ofNat o), .ref d, .int (Int32.ofNat q), .int (Int32.ofNat len)] 7)) (Tl.setTop (mkF m 12 #[.val (.ref b), .val (.int (Int32.ofNat (o + i))), .val (.ref d), .val (.int (Int32.ofNat (q + i))), .val (.int (Int32.ofNat len)), .val (.int (Int32.ofNat i)), z] [.int (Int32.ofNat (o + i)), .ref b])) := cl.trans (by
        refine XS.iload Xl.here hexec rfl (hb hbytes d3) rfl ?_
        refine XS.iload Xl.here hexec rfl (hb hbytes d5) rfl ?_
        refine XS.icmpNo Xl.here hexec rfl (hb hbytes d7) rfl (ii_ge_f (lt32 (by omega) (by omega))) ?_
        refine XS.aloadN Xl.here hexec rfl (hb hbytes d10) rfl rfl ?_
        refine XS.iloadN Xl.here hexec rfl (hb hbytes d11) rfl ?_
        exact Steps.refl _)
      have c4 : Steps p.tables e below (s₁.setTop (entryFrame m #[.ref b, .int (Int32.ofNat o), .ref d, .int (Int32.ofNat q), .int (Int32.ofNat len)] 7)) (Tl.setTop (mkF m 13 #[.val (.ref b), .val (.int (Int32.ofNat (o + i))), .val (.ref d), .val (.int (Int32.ofNat (q + i))), .val (.int (Int32.ofNat len)), .val (.int (Int32.ofNat i)), z] [.int (cv A (o + i))])) := c3.trans (by
        refine Xl.aget hexec hAl rfl (hA.get (i := o + i) (by omega)) rfl rfl (hb hbytes d12) ?_
        exact Steps.refl _)
      have c5 : Steps p.tables e below (s₁.setTop (entryFrame m #[.ref b, .int (Int32.ofNat o), .ref d, .int (Int32.ofNat q), .int (Int32.ofNat len)] 7)) (Tl.setTop (mkF m 15 #[.val (.ref b), .val (.int (Int32.ofNat (o + i))), .val (.ref d), .val (.int (Int32.ofNat (q + i))), .val (.int (Int32.ofNat len)), .val (.int (Int32.ofNat i)), .val (.int (cv A (o + i)))] [])) := c4.trans (by
        refine XS.istoreS Xl.here hexec rfl (hb hbytes d13) rfl rfl hz ?_
        exact Steps.refl _)
      have c6 : Steps p.tables e below (s₁.setTop (entryFrame m #[.ref b, .int (Int32.ofNat o), .ref d, .int (Int32.ofNat q), .int (Int32.ofNat len)] 7)) (Tl.setTop (mkF m 31 #[.val (.ref b), .val (.int (Int32.ofNat (o + i))), .val (.ref d), .val (.int (Int32.ofNat (q + i))), .val (.int (Int32.ofNat len)), .val (.int (Int32.ofNat i)), .val (.int (cv A (o + i)))] [.int (lo8 (cv A (o + i))), .int (Int32.ofNat (q + i)), .ref d])) := c5.trans (by
        refine XS.iload Xl.here hexec rfl (hb hbytes d15) rfl ?_
        refine sipushV Xl.here hexec rfl 255 (hb hbytes d17) (by decide) ?_
        refine XS.icmpYes Xl.here hexec rfl (pc0 := 20) rfl (hb hbytes d20) rfl (ii_le_t (hp i (by omega))) (by decide) rfl ?_
        refine XS.aloadN Xl.here hexec rfl (hb hbytes d26) rfl rfl ?_
        refine XS.iloadN Xl.here hexec rfl (hb hbytes d27) rfl ?_
        refine XS.iload Xl.here hexec rfl (hb hbytes d28) rfl ?_
        refine i2b Xl.here hexec rfl (hb hbytes d30) rfl ?_
        exact Steps.refl _)
      obtain ⟨T7, X7, p7, st7⟩ := Xl.aput hexec hBk rfl hlt rfl (fits_lo8 (cv A (o + i))) (g := (mkF m 31 #[.val (.ref b), .val (.int (Int32.ofNat (o + i))), .val (.ref d), .val (.int (Int32.ofNat (q + i))), .val (.int (Int32.ofNat len)), .val (.int (Int32.ofNat i)), .val (.int (cv A (o + i)))] [.int (lo8 (cv A (o + i))), .int (Int32.ofNat (q + i)), .ref d])) rfl (rest := []) rfl (hb hbytes d31)
      have c8 : Steps p.tables e below (s₁.setTop (entryFrame m #[.ref b, .int (Int32.ofNat o), .ref d, .int (Int32.ofNat q), .int (Int32.ofNat len)] 7)) (T7.setTop (mkF m 32 #[.val (.ref b), .val (.int (Int32.ofNat (o + i))), .val (.ref d), .val (.int (Int32.ofNat (q + i))), .val (.int (Int32.ofNat len)), .val (.int (Int32.ofNat i)), .val (.int (cv A (o + i)))] [])) := c6.trans (st7 _ (Steps.refl _))
      have c9 : Steps p.tables e below (s₁.setTop (entryFrame m #[.ref b, .int (Int32.ofNat o), .ref d, .int (Int32.ofNat q), .int (Int32.ofNat len)] 7)) (T7.setTop (mkF m 3 #[.val (.ref b), .val (.int (Int32.ofNat (o + i) + 1)), .val (.ref d), .val (.int (Int32.ofNat (q + i) + 1)), .val (.int (Int32.ofNat len)), .val (.int (Int32.ofNat i + 1)), .val (.int (cv A (o + i)))] [])) := c8.trans (by
        refine iincV X7.here hexec rfl 1 (hb hbytes d32) (by decide) rfl rfl ?_
        refine iincV X7.here hexec rfl 1 (hb hbytes d35) (by decide) rfl rfl ?_
        refine iincV X7.here hexec rfl 1 (hb hbytes d38) (by decide) rfl rfl ?_
        refine XS.goto X7.here hexec rfl (pc0 := 41) rfl (hb hbytes d41) (by decide) rfl ?_
        exact Steps.refl _)
      have c10 : Steps p.tables e below (s₁.setTop (entryFrame m #[.ref b, .int (Int32.ofNat o), .ref d, .int (Int32.ofNat q), .int (Int32.ofNat len)] 7)) (T7.setTop (mkF m 3 #[.val (.ref b), .val (.int (Int32.ofNat (o + (i + 1)))), .val (.ref d), .val (.int (Int32.ofNat (q + (i + 1)))), .val (.int (Int32.ofNat len)), .val (.int (Int32.ofNat (i + 1))), .val (.int (cv A (o + i)))] [])) := by
        have := c9
        rw [succ32, succ32, succ32] at this
        exact this
      exact ih (i + 1) (by omega) _ (Or.inr ⟨_, rfl, rfl⟩) T7 _ (by rw [copyLocs_step, ← List.append_assoc]; exact X7) (pl.trans p7) (fl.step (by omega) hlt (by simp)) c10
  obtain ⟨T9, B9, z9, X9, p9, f9, g9⟩ := loop len 0 (by omega) .unset (Or.inl rfl) s₁ B (by simpa [copyLocs] using X0) ⟨hB0.1, fun _ _ => rfl, rfl⟩ (Laid.zero _ _ _) c2
  have c11 : Steps p.tables e below (s₁.setTop (entryFrame m #[.ref b, .int (Int32.ofNat o), .ref d, .int (Int32.ofNat q), .int (Int32.ofNat len)] 7)) (T9.setTop (mkF m 46 #[.val (.ref b), .val (.int (Int32.ofNat (o + len))), .val (.ref d), .val (.int (Int32.ofNat (q + len))), .val (.int (Int32.ofNat len)), .val (.int (Int32.ofNat len)), z9] [.int (Int32.ofNat len)])) := g9.trans (by
    refine XS.iload X9.here hexec rfl (hb hbytes d3) rfl ?_
    refine XS.iload X9.here hexec rfl (hb hbytes d5) rfl ?_
    refine XS.icmpYes X9.here hexec rfl (pc0 := 7) rfl (hb hbytes d7) rfl (ii_ge_t (nlt32 (by omega) (Nat.le_refl _))) (by decide) rfl ?_
    refine XS.iload X9.here hexec rfl (hb hbytes d44) rfl ?_
    exact Steps.refl _)
  exact ⟨T9, some (.int (Int32.ofNat len)), _, _, _, X9, by simp, rfl, rfl, (fun h => by cases h), ⟨rfl, B9, p9.from hh0, f9⟩, fun fs hl => c11.trans (X9.ireturnOut hexec hret rfl (Or.inl rfl) (hb hbytes d46) hl)⟩
end Cmp5
namespace Cmp3
def yN : MethodName := ⟨"java/lang/StringUTF16", "compress", "([CII)[B"⟩
abbrev yB : ByteArray := jdk_52_method_16_code
theorem d0 : decode yB 0 = .ok (.iload_n 2, 1) := by decide +kernel
theorem d1 : decode yB 1 = .ok (.newarray .byte, 2) := by decide +kernel
theorem d3 : decode yB 3 = .ok (.astore_n 3, 1) := by decide +kernel
theorem d4 : decode yB 4 = .ok (.aload_n 0, 1) := by decide +kernel
theorem d5 : decode yB 5 = .ok (.iload_n 1, 1) := by decide +kernel
theorem d6 : decode yB 6 = .ok (.aload_n 3, 1) := by decide +kernel
theorem d7 : decode yB 7 = .ok (.iconst 0, 1) := by decide +kernel
theorem d8 : decode yB 8 = .ok (.iload_n 2, 1) := by decide +kernel
theorem d9 : decode yB 9 = .ok (.invokestatic 115, 3) := by decide +kernel
theorem d12 : decode yB 12 = .ok (.istore 4, 2) := by decide +kernel
theorem d14 : decode yB 14 = .ok (.iload 4, 2) := by decide +kernel
theorem d16 : decode yB 16 = .ok (.iload_n 2, 1) := by decide +kernel
theorem d17 : decode yB 17 = .ok (.if_icmp (.eq) 40, 3) := by decide +kernel
theorem d57 : decode yB 57 = .ok (.aload_n 3, 1) := by decide +kernel
theorem d58 : decode yB 58 = .ok (.areturn, 1) := by decide +kernel
def site : List Cond := [.arrayClass .byte, Cmp5.tab] ++ staticW U16 115 Cmp5.yN
def tab : Cond := tabOf yN yB 6 (some (.array .byte)) site
def P (b : Addr) (A : Cell) (o len : Nat) (args : Array Value) (s : State) : Prop := args = #[.ref b, .int (Int32.ofNat o), .int (Int32.ofNat len)] ∧ Ch b A s ∧ o + len ≤ A.slots.size ∧ len ≤ 536870912 ∧ ∀ i, i < len → ¬ 255 < cv A (o + i)
def E (b : Addr) (A : Cell) (o len : Nat) (r : Option Value) (s u : State) : Prop := NewArr .byte "[B" len (fun j => .int (lo8 (cv A (o + j)))) r s u ∧ u.heap.size = s.heap.size + 1
/-- no char of the range above 255: a new byte[] of their low bytes -/
theorem law (l : Launch) (b : Addr) (A : Cell) (o len : Nat) : Law l yN 3 3 1 18 yB 6 (some (.array .byte)) site (P b A o len) (E b A o len) [] 1 len := by
  refine Law.of_walk (plainFor_of_name (by decide +kernel)) (by decide +kernel) (by decide +kernel) (by decide) (fun _ _ h => by rw [h.1]; rfl) (fun _ U U' hal hh h => ⟨h.1, h.2.1.mv hal hh, h.2.2⟩) (fun r U U' V V' h1 hal h2 h => ⟨NewArr.mv r U U' V V' h1 hal h2 h.1, by rw [h1, h2]; exact h.2⟩) ?_
  intro p e s m args below meth c s₁ X0 hexec hbytes hml hret hlk hnm hown hh0 W hP
  obtain ⟨rfl, hA, l1, l2, hp⟩ := hP
  have a31 := hA.1.2.2.2
  have c1 : Steps p.tables e below (s₁.setTop (entryFrame m #[.ref b, .int (Int32.ofNat o), .int (Int32.ofNat len)] 6)) (s₁.setTop (mkF m 0 #[.val (.ref b), .val (.int (Int32.ofNat o)), .val (.int (Int32.ofNat len)), .unset, .unset, .unset] [])) := entry rfl
  have c2 : Steps p.tables e below (s₁.setTop (entryFrame m #[.ref b, .int (Int32.ofNat o), .int (Int32.ofNat len)] 6)) (s₁.setTop (mkF m 1 #[.val (.ref b), .val (.int (Int32.ofNat o)), .val (.int (Int32.ofNat len)), .unset, .unset, .unset] [.int (Int32.ofNat len)])) := c1.trans (by
    refine XS.iloadN X0.here hexec rfl (hb hbytes d0) rfl ?_
    exact Steps.refl _)
  obtain ⟨T3, B3, X3, ba3, bs3, bv3, bh3, bf3, st3⟩ := X0.anew hexec (atype := .byte) (wk W (.arrayClass .byte)) rfl (by show len * 1 ≤ _; omega) (by omega) (g := (mkF m 1 #[.val (.ref b), .val (.int (Int32.ofNat o)), .val (.int (Int32.ofNat len)), .unset, .unset, .unset] [.int (Int32.ofNat len)])) rfl (hb hbytes d1) (rest := []) rfl (Nat.le_refl _) (by show 0 + len ≤ len; omega)
  rw [hh0] at ba3 st3
  have kp3 : XT.Kept s T3 := (XT.Kept.of_eq hh0).push bh3
  have hA3 := hA.keep X3.warmed.alike (kp3 _ _ hA.1.1)
  have hne : b ≠ s.heap.size := hA.1.ne
  have c4 : Steps p.tables e below (s₁.setTop (entryFrame m #[.ref b, .int (Int32.ofNat o), .int (Int32.ofNat len)] 6)) (T3.setTop (mkF m 3 #[.val (.ref b), .val (.int (Int32.ofNat o)), .val (.int (Int32.ofNat len)), .unset, .unset, .unset] [.ref s.heap.size])) := c2.trans (st3 _ (Steps.refl _))
  have c5 : Steps p.tables e below (s₁.setTop (entryFrame m #[.ref b, .int (Int32.ofNat o), .int (Int32.ofNat len)] 6)) (T3.setTop (mkF m 9 #[.val (.ref b), .val (.int (Int32.ofNat o)), .val (.int (Int32.ofNat len)), .val (.ref s.heap.size), .unset, .unset] [.int (Int32.ofNat len), .int 0, .ref s.heap.size, .int (Int32.ofNat o), .ref b])) := c4.trans (by
    refine XS.astoreN X3.here hexec rfl (hb hbytes d3) rfl rfl rfl ?_
    refine XS.aloadN X3.here hexec rfl (hb hbytes d4) rfl rfl ?_
    refine XS.iloadN X3.here hexec rfl (hb hbytes d5) rfl ?_
    refine XS.aloadN X3.here hexec rfl (hb hbytes d6) rfl rfl ?_
    refine iconstV X3.here hexec rfl 0 (hb hbytes d7) (by decide) ?_
    refine XS.iloadN X3.here hexec rfl (hb hbytes d8) rfl ?_
    exact Steps.refl _)
  obtain ⟨v6, T6, X6, E6, g6⟩ := X3.callS hexec (Cmp5.law l b A s.heap.size B3 o 0 len) hown (wks W (staticW U16 115 Cmp5.yN)) (wk W Cmp5.tab) (W := 0) (Nat.le_of_ble_eq_true rfl) (Nat.le_of_ble_eq_true rfl) (Nat.le_refl _) (by show 0 + len + 0 ≤ len; omega) (g := (mkF m 9 #[.val (.ref b), .val (.int (Int32.ofNat o)), .val (.int (Int32.ofNat len)), .val (.ref s.heap.size), .unset, .unset] [.int (Int32.ofNat len), .int (Int32.ofNat 0), .ref s.heap.size, .int (Int32.ofNat o), .ref b])) rfl (by rw [hml]; rfl) c5 (argsL := [.ref b, .int (Int32.ofNat o), .ref s.heap.size, .int (Int32.ofNat 0), .int (Int32.ofNat len)]) (rest := []) rfl rfl (by show 2 * 0 + 0 ≤ _; decide) (hb hbytes d9) (⟨rfl, hA3, ba3, hne, l1, by rw [bs3]; simp, hp⟩)
  obtain ⟨rfl, B6, p6, f6⟩ := E6
  have c7 : Steps p.tables e below (s₁.setTop (entryFrame m #[.ref b, .int (Int32.ofNat o), .int (Int32.ofNat len)] 6)) (T6.setTop (mkF m 12 #[.val (.ref b), .val (.int (Int32.ofNat o)), .val (.int (Int32.ofNat len)), .val (.ref s.heap.size), .unset, .unset] [.int (Int32.ofNat len)])) := g6
  have c8 : Steps p.tables e below (s₁.setTop (entryFrame m #[.ref b, .int (Int32.ofNat o), .int (Int32.ofNat len)] 6)) (T6.setTop (mkF m 58 #[.val (.ref b), .val (.int (Int32.ofNat o)), .val (.int (Int32.ofNat len)), .val (.ref s.heap.size), .val (.int (Int32.ofNat len)), .unset] [.ref s.heap.size])) := c7.trans (by
    refine XS.istore X6.here hexec rfl (hb hbytes d12) rfl rfl ?_
    refine XS.iload X6.here hexec rfl (hb hbytes d14) rfl ?_
    refine XS.iloadN X6.here hexec rfl (hb hbytes d16) rfl ?_
    refine XS.icmpYes X6.here hexec rfl (pc0 := 17) rfl (hb hbytes d17) rfl (ii_eq_t rfl) (by decide) rfl ?_
    refine XS.aloadN X6.here hexec rfl (hb hbytes d57) rfl rfl ?_
    exact Steps.refl _)
  have X8 := X6.wide (L' := []) (cells' := 1) (slots' := len) (fun x hx hlt => by
    simp only [List.nil_append, copyLocs, List.mem_map, List.mem_range] at hx
    obtain ⟨i, -, rfl⟩ := hx
    exact absurd hlt (Nat.lt_irrefl _)) (Nat.le_refl _) (by omega)
  exact ⟨T6, some (.ref s.heap.size), _, _, _, X8, rfl, rfl, rfl, (fun h => by cases h), ⟨⟨rfl, B6, ba3.like (X3.warmed.alike.symm.trans X6.warmed.alike) p6.1 f6.1 f6.2.1 f6.2.2.1, f6.2.1.trans bv3, by rw [X6.warmed.alike.findClass, f6.1]; exact bf3, by rw [f6.2.2.1, bs3]; simp, fun j hj => by rw [f6.2.2.2 j, if_pos (by omega)]; rfl, kp3.put p6 (Nat.le_refl _)⟩, by rw [p6.2.2, bh3, hh0]; simp⟩, fun fs hl => c8.trans (X8.areturnOut hexec rfl hret rfl (hb hbytes d58) hl)⟩
end Cmp3
namespace CodL
def yN : MethodName := ⟨"java/lang/StringUTF16", "coderFromArrayLen", "([BI)B"⟩
abbrev yB : ByteArray := jdk_52_method_15_code
theorem d0 : decode yB 0 = .ok (.iload_n 1, 1) := by decide +kernel
theorem d1 : decode yB 1 = .ok (.aload_n 0, 1) := by decide +kernel
theorem d2 : decode yB 2 = .ok (.arraylength, 1) := by decide +kernel
theorem d3 : decode yB 3 = .ok (.isub, 1) := by decide +kernel
theorem d4 : decode yB 4 = .ok (.bipush 31, 2) := by decide +kernel
theorem d6 : decode yB 6 = .ok (.iushr, 1) := by decide +kernel
theorem d7 : decode yB 7 = .ok (.i2b, 1) := by decide +kernel
theorem d8 : decode yB 8 = .ok (.ireturn, 1) := by decide +kernel
def site : List Cond := []
def tab : Cond := tabOf yN yB 2 (some .byte) site
def P (d : Addr) (B : Cell) (args : Array Value) (s : State) : Prop := args = #[.ref d, .int (Int32.ofNat B.slots.size)] ∧ Arr .byte d B s
def E (r : Option Value) (s u : State) : Prop := XT.PureE (some (.int 0)) r s u
/-- an array as long as the number of chars: LATIN1 -/
theorem law (l : Launch) (d : Addr) (B : Cell) : Law l yN 2 2 0 0 yB 2 (some .byte) site (P d B) E [] 0 0 := by
  refine Law.of_walk (plainFor_of_name (by decide +kernel)) (by decide +kernel) (by decide +kernel) (by decide) (fun _ _ h => by rw [h.1]; rfl) (fun _ U U' hal hh h => ⟨h.1, h.2.mv hal hh⟩) (fun r U U' V V' h1 hal h2 h => XT.PureE.mv r U U' V V' h1 hal h2 h) ?_
  intro p e s m args below meth c s₁ X0 hexec hbytes hml hret hlk hnm hown hh0 W hP
  obtain ⟨rfl, hB⟩ := hP
  have hB0 := hB.mv X0.warmed.alike hh0
  have c1 : Steps p.tables e below (s₁.setTop (entryFrame m #[.ref d, .int (Int32.ofNat B.slots.size)] 2)) (s₁.setTop (mkF m 0 #[.val (.ref d), .val (.int (Int32.ofNat B.slots.size))] [])) := entry rfl
  have c2 : Steps p.tables e below (s₁.setTop (entryFrame m #[.ref d, .int (Int32.ofNat B.slots.size)] 2)) (s₁.setTop (mkF m 2 #[.val (.ref d), .val (.int (Int32.ofNat B.slots.size))] [.ref d, .int (Int32.ofNat B.slots.size)])) := c1.trans (by
    refine XS.iloadN X0.here hexec rfl (hb hbytes d0) rfl ?_
    refine XS.aloadN X0.here hexec rfl (hb hbytes d1) rfl rfl ?_
    exact Steps.refl _)
  have c3 : Steps p.tables e below (s₁.setTop (entryFrame m #[.ref d, .int (Int32.ofNat B.slots.size)] 2)) (s₁.setTop (mkF m 8 #[.val (.ref d), .val (.int (Int32.ofNat B.slots.size))] [.int (lo8 (ushr (Int32.ofNat B.slots.size - Int32.ofNat B.slots.size) 31))])) := c2.trans (by
    refine X0.alen hexec hB0 rfl rfl (hb hbytes d2) ?_
    refine XS.isub X0.here hexec rfl (hb hbytes d3) rfl ?_
    refine bipushV X0.here hexec rfl 31 (hb hbytes d4) (by decide) ?_
    refine iushr X0.here hexec rfl (hb hbytes d6) rfl ?_
    refine i2b X0.here hexec rfl (hb hbytes d7) rfl ?_
    exact Steps.refl _)
  have e0 : lo8 (ushr (Int32.ofNat B.slots.size - Int32.ofNat B.slots.size) 31) = 0 := by rw [Int32.sub_self]; decide
  rw [e0] at c3
  exact ⟨s₁, some (.int 0), _, _, _, X0, rfl, rfl, rfl, (fun h => by cases h), ⟨rfl, hh0⟩, fun fs hl => c3.trans (X0.ireturnOut hexec hret rfl (Or.inr (Or.inr (Or.inl rfl))) (hb hbytes d8) hl)⟩
end CodL
/-- the String at a is Latin-1 over a new byte[] (the heap's one new cell): the low bytes of the len chars of A from o on; every cell but a is kept -/
def Got (a : Addr) (D : Cell) (fV fC : Field) (A : Cell) (o len : Nat) (r : Option Value) (s u : State) : Prop := r = none ∧ ∃ D' V : Cell, Blank "java/lang/String" a D' u ∧ Same D D' [fV.slot, fC.slot] ∧ D'.slots[fV.slot]? = some (.ref s.heap.size) ∧ D'.slots[fC.slot]? = some (.int 0) ∧ Arr .byte s.heap.size V u ∧ V.vm = .none ∧ u.vm.findClass "[B" = some V.cls ∧ V.slots.size = len ∧ (∀ j, j < len → V.slots[j]? = some (.int (lo8 (cv A (o + j))))) ∧ (∀ (y : Addr) (c : Cell), y ≠ a → s.heap[y]? = some c → u.heap[y]? = some c) ∧ u.heap.size = s.heap.size + 1
theorem Got.mv {a : Addr} {D A : Cell} {fV fC : Field} {o len : Nat} : ∀ r (U U' V V' : State), U'.heap = U.heap → V.vm.Alike V'.vm → V'.heap = V.heap → Got a D fV fC A o len r U V → Got a D fV fC A o len r U' V' :=
  fun r U U' V V' h1 hal h2 ⟨e0, D', X, a1, a2, a3, a4, a5, a6, a7, a8, a9, a10, a11⟩ => ⟨e0, D', X, a1.mv hal h2, a2, by rw [h1]; exact a3, a4, by rw [h1]; exact a5.mv hal h2, a6, by rw [hal.findClass]; exact a7, a8, a9, by rw [h1, h2]; exact a10, by rw [h1, h2]; exact a11⟩
namespace New4
def yN : MethodName := ⟨"java/lang/String", "<init>", "([CIILjava/lang/Void;)V"⟩
abbrev yB : ByteArray := jdk_42_method_149_code
theorem d0 : decode yB 0 = .ok (.aload_n 0, 1) := by decide +kernel
theorem d1 : decode yB 1 = .ok (.invokespecial 1, 3) := by decide +kernel
theorem d4 : decode yB 4 = .ok (.iload_n 3, 1) := by decide +kernel
theorem d5 : decode yB 5 = .ok (.ifCond (.ne) 22, 3) := by decide +kernel
theorem d27 : decode yB 27 = .ok (.getstatic 38, 3) := by decide +kernel
theorem d30 : decode yB 30 = .ok (.ifCond (.eq) 28, 3) := by decide +kernel
theorem d33 : decode yB 33 = .ok (.aload_n 1, 1) := by decide +kernel
theorem d34 : decode yB 34 = .ok (.iload_n 2, 1) := by decide +kernel
theorem d35 : decode yB 35 = .ok (.iload_n 3, 1) := by decide +kernel
theorem d36 : decode yB 36 = .ok (.invokestatic 177, 3) := by decide +kernel
theorem d39 : decode yB 39 = .ok (.astore 5, 2) := by decide +kernel
theorem d41 : decode yB 41 = .ok (.aload_n 0, 1) := by decide +kernel
theorem d42 : decode yB 42 = .ok (.aload 5, 2) := by decide +kernel
theorem d44 : decode yB 44 = .ok (.iload_n 3, 1) := by decide +kernel
theorem d45 : decode yB 45 = .ok (.invokestatic 47, 3) := by decide +kernel
theorem d48 : decode yB 48 = .ok (.putfield 15, 3) := by decide +kernel
theorem d51 : decode yB 51 = .ok (.aload_n 0, 1) := by decide +kernel
theorem d52 : decode yB 52 = .ok (.aload 5, 2) := by decide +kernel
theorem d54 : decode yB 54 = .ok (.putfield 9, 3) := by decide +kernel
theorem d57 : decode yB 57 = .ok (.return_, 1) := by decide +kernel
def site : List Cond := [.fieldLink "java/lang/String" 38 "java/lang/String" "COMPACT_STRINGS" "Z", Cmp3.tab, CodL.tab, .laysFinal "java/lang/String" "java/lang/String" "value" "[B", .fieldLink "java/lang/String" 9 "java/lang/String" "value" "[B", .laysFinal "java/lang/String" "java/lang/String" "coder" "B", .fieldLink "java/lang/String" 15 "java/lang/String" "coder" "B"] ++ objW "java/lang/String" 1 ++ staticW "java/lang/String" 177 Cmp3.yN ++ staticW "java/lang/String" 47 CodL.yN
def tab : Cond := tabOf yN yB 6 none site
def P (a : Addr) (D : Cell) (fV fC : Field) (b : Addr) (A : Cell) (z : Int32) (o len : Nat) (args : Array Value) (s : State) : Prop := args = #[.ref a, .ref b, .int (Int32.ofNat o), .int (Int32.ofNat len), .null] ∧ Blank "java/lang/String" a D s ∧ Found "java/lang/String" "value" "[B" fV s ∧ Found "java/lang/String" "coder" "B" fC s ∧ Ch b A s ∧ StaticIs s "java/lang/String" "COMPACT_STRINGS" "Z" (.int z) ∧ ¬ z = 0 ∧ 0 < len ∧ o + len ≤ A.slots.size ∧ len ≤ 536870912 ∧ ∀ i, i < len → ¬ 255 < cv A (o + i)
def E (a : Addr) (D : Cell) (fV fC : Field) (A : Cell) (o len : Nat) (r : Option Value) (s u : State) : Prop := Got a D fV fC A o len r s u
/-- len > 0, no char of the range above 255: a Latin-1 String of their low bytes -/
theorem law (l : Launch) (a : Addr) (D : Cell) (fV fC : Field) (b : Addr) (A : Cell) (z : Int32) (o len : Nat) : Law l yN 5 4 2 35 yB 6 none site (P a D fV fC b A z o len) (E a D fV fC A o len) [⟨a, fC.slot⟩, ⟨a, fV.slot⟩] 1 len := by
  refine Law.of_walk (plainFor_of_name (by decide +kernel)) (by decide +kernel) (by decide +kernel) (by decide) (fun _ _ h => by rw [h.1]; rfl) (fun _ U U' hal hh h => ⟨h.1, h.2.1.mv hal hh, h.2.2.1.al hal, h.2.2.2.1.al hal, h.2.2.2.2.1.mv hal hh, h.2.2.2.2.2.1.there hal hh, h.2.2.2.2.2.2⟩) (fun r U U' V V' h1 hal h2 h => Got.mv r U U' V V' h1 hal h2 h) ?_
  intro p e s m args below meth c s₁ X0 hexec hbytes hml hret hlk hnm hown hh0 W hP
  obtain ⟨rfl, hB, f1, f2, hA, s1, hz, l0, l1, l2, hp⟩ := hP
  have a31 := hA.1.2.2.2
  have c1 : Steps p.tables e below (s₁.setTop (entryFrame m #[.ref a, .ref b, .int (Int32.ofNat o), .int (Int32.ofNat len), .null] 6)) (s₁.setTop (mkF m 0 #[.val (.ref a), .val (.ref b), .val (.int (Int32.ofNat o)), .val (.int (Int32.ofNat len)), .val .null, .unset] [])) := entry rfl
  have c2 : Steps p.tables e below (s₁.setTop (entryFrame m #[.ref a, .ref b, .int (Int32.ofNat o), .int (Int32.ofNat len), .null] 6)) (s₁.setTop (mkF m 1 #[.val (.ref a), .val (.ref b), .val (.int (Int32.ofNat o)), .val (.int (Int32.ofNat len)), .val .null, .unset] [.ref a])) := c1.trans (by
    refine XS.aloadN X0.here hexec rfl (hb hbytes d0) rfl rfl ?_
    exact Steps.refl _)
  obtain ⟨T3, X3, q3, st3⟩ := X0.oinit hexec hown (wks W (objW "java/lang/String" 1)) (g := (mkF m 1 #[.val (.ref a), .val (.ref b), .val (.int (Int32.ofNat o)), .val (.int (Int32.ofNat len)), .val .null, .unset] [.ref a])) rfl (by rw [hml]; rfl) (rest := []) rfl (hb hbytes d1) (W := 0) (by show 2 * 0 + 0 ≤ _; decide) (Nat.le_of_ble_eq_true rfl) (Nat.le_of_ble_eq_true rfl)
  have hh3 := q3.trans hh0
  have c4 : Steps p.tables e below (s₁.setTop (entryFrame m #[.ref a, .ref b, .int (Int32.ofNat o), .int (Int32.ofNat len), .null] 6)) (T3.setTop (mkF m 27 #[.val (.ref a), .val (.ref b), .val (.int (Int32.ofNat o)), .val (.int (Int32.ofNat len)), .val .null, .unset] [])) := (c2.trans (st3 _ (Steps.refl _))).trans (by
    refine XS.iloadN X3.here hexec rfl (hb hbytes d4) rfl ?_
    refine XS.ifYes X3.here hexec rfl (pc0 := 5) rfl (hb hbytes d5) rfl (i0_ne_t (nz32 (by omega) l0)) (by decide) rfl ?_
    exact Steps.refl _)
  obtain ⟨T5, X5, q5, st5⟩ := X3.sget hexec hown (wk W (.fieldLink "java/lang/String" 38 "java/lang/String" "COMPACT_STRINGS" "Z")) s1 (fun _ _ h => by rw [hh3]; exact h) (g := (mkF m 27 #[.val (.ref a), .val (.ref b), .val (.int (Int32.ofNat o)), .val (.int (Int32.ofNat len)), .val .null, .unset] [])) rfl (hb hbytes d27)
  have hh5 := q5.trans hh3
  have c6 : Steps p.tables e below (s₁.setTop (entryFrame m #[.ref a, .ref b, .int (Int32.ofNat o), .int (Int32.ofNat len), .null] 6)) (T5.setTop (mkF m 30 #[.val (.ref a), .val (.ref b), .val (.int (Int32.ofNat o)), .val (.int (Int32.ofNat len)), .val .null, .unset] [.int z])) := c4.trans (st5 _ (Steps.refl _))
  have c7 : Steps p.tables e below (s₁.setTop (entryFrame m #[.ref a, .ref b, .int (Int32.ofNat o), .int (Int32.ofNat len), .null] 6)) (T5.setTop (mkF m 36 #[.val (.ref a), .val (.ref b), .val (.int (Int32.ofNat o)), .val (.int (Int32.ofNat len)), .val .null, .unset] [.int (Int32.ofNat len), .int (Int32.ofNat o), .ref b])) := c6.trans (by
    refine XS.ifNo X5.here hexec rfl (hb hbytes d30) rfl (i0_eq_f hz) ?_
    refine XS.aloadN X5.here hexec rfl (hb hbytes d33) rfl rfl ?_
    refine XS.iloadN X5.here hexec rfl (hb hbytes d34) rfl ?_
    refine XS.iloadN X5.here hexec rfl (hb hbytes d35) rfl ?_
    exact Steps.refl _)
  obtain ⟨v8, T8, X8, E8, g8⟩ := X5.callS hexec (Cmp3.law l b A o len) hown (wks W (staticW "java/lang/String" 177 Cmp3.yN)) (wk W Cmp3.tab) (W := 0) (Nat.le_of_ble_eq_true rfl) (Nat.le_of_ble_eq_true rfl) (Nat.le_refl _) (by show 0 + len ≤ len; omega) (g := (mkF m 36 #[.val (.ref a), .val (.ref b), .val (.int (Int32.ofNat o)), .val (.int (Int32.ofNat len)), .val .null, .unset] [.int (Int32.ofNat len), .int (Int32.ofNat o), .ref b])) rfl (by rw [hml]; rfl) c7 (argsL := [.ref b, .int (Int32.ofNat o), .int (Int32.ofNat len)]) (rest := []) rfl rfl (by show 2 * 0 + 0 ≤ _; decide) (hb hbytes d36) (⟨rfl, hA.mv X5.warmed.alike hh5, l1, l2, hp⟩)
  obtain ⟨e8, z8⟩ := E8
  obtain ⟨rfl, N, n1, n2, n3, n4, n5, n6⟩ := NewArr.mv _ T5 s _ _ hh5.symm (Vm.Alike.refl _) rfl e8
  rw [hh5] at z8
  have hB1 := hB.keep X8.warmed.alike (n6 _ _ hB.1)
  have hne : s.heap.size ≠ a := (Nat.ne_of_lt (Array.getElem?_eq_some_iff.mp hB.1).1).symm
  have c9 : Steps p.tables e below (s₁.setTop (entryFrame m #[.ref a, .ref b, .int (Int32.ofNat o), .int (Int32.ofNat len), .null] 6)) (T8.setTop (mkF m 39 #[.val (.ref a), .val (.ref b), .val (.int (Int32.ofNat o)), .val (.int (Int32.ofNat len)), .val .null, .unset] [.ref s.heap.size])) := g8
  have c10 : Steps p.tables e below (s₁.setTop (entryFrame m #[.ref a, .ref b, .int (Int32.ofNat o), .int (Int32.ofNat len), .null] 6)) (T8.setTop (mkF m 45 #[.val (.ref a), .val (.ref b), .val (.int (Int32.ofNat o)), .val (.int (Int32.ofNat len)), .val .null, .val (.ref s.heap.size)] [.int (Int32.ofNat N.slots.size), .ref s.heap.size, .ref a])) := by
    have hc : Steps p.tables e below (s₁.setTop (entryFrame m #[.ref a, .ref b, .int (Int32.ofNat o), .int (Int32.ofNat len), .null] 6)) (T8.setTop (mkF m 45 #[.val (.ref a), .val (.ref b), .val (.int (Int32.ofNat o)), .val (.int (Int32.ofNat len)), .val .null, .val (.ref s.heap.size)] [.int (Int32.ofNat len), .ref s.heap.size, .ref a])) := c9.trans (by
      refine XS.astore X8.here hexec rfl (hb hbytes d39) rfl rfl rfl ?_
      refine XS.aloadN X8.here hexec rfl (hb hbytes d41) rfl rfl ?_
      refine XS.aload X8.here hexec rfl (hb hbytes d42) rfl rfl ?_
      refine XS.iloadN X8.here hexec rfl (hb hbytes d44) rfl ?_
      exact Steps.refl _)
    rw [n4]; exact hc
  obtain ⟨v11, T11, X11, E11, g11⟩ := X8.callS hexec (CodL.law l s.heap.size N) hown (wks W (staticW "java/lang/String" 47 CodL.yN)) (wk W CodL.tab) (W := 1) (Nat.le_of_ble_eq_true rfl) (Nat.le_of_ble_eq_true rfl) (Nat.le_refl _) (by show 0 + len + 0 ≤ len; omega) (g := (mkF m 45 #[.val (.ref a), .val (.ref b), .val (.int (Int32.ofNat o)), .val (.int (Int32.ofNat len)), .val .null, .val (.ref s.heap.size)] [.int (Int32.ofNat N.slots.size), .ref s.heap.size, .ref a])) rfl (by rw [hml]; rfl) c10 (argsL := [.ref s.heap.size, .int (Int32.ofNat N.slots.size)]) (rest := [.ref a]) rfl rfl (by show 2 * 0 + (1 + 0) ≤ _; decide) (hb hbytes d45) (⟨rfl, n1⟩)
  obtain ⟨rfl, q11⟩ := E11
  have hB11 := hB1.mv (X8.warmed.alike.symm.trans X11.warmed.alike) q11
  have c12 : Steps p.tables e below (s₁.setTop (entryFrame m #[.ref a, .ref b, .int (Int32.ofNat o), .int (Int32.ofNat len), .null] 6)) (T11.setTop (mkF m 48 #[.val (.ref a), .val (.ref b), .val (.int (Int32.ofNat o)), .val (.int (Int32.ofNat len)), .val .null, .val (.ref s.heap.size)] [.int 0, .ref a])) := g11
  obtain ⟨T13, X13, p13, bl13, sl13, st13⟩ := X11.finit hexec hown (wk W (.fieldLink "java/lang/String" 15 "java/lang/String" "coder" "B")) (Or.inr ⟨_, (wk W (.laysFinal "java/lang/String" "java/lang/String" "coder" "B"))⟩) (Or.inl ⟨rfl, hnm⟩) f2 (Or.inl rfl) hB11 (t := .byte) (by decide +kernel) rfl (g := (mkF m 48 #[.val (.ref a), .val (.ref b), .val (.int (Int32.ofNat o)), .val (.int (Int32.ofNat len)), .val .null, .val (.ref s.heap.size)] [.int 0, .ref a])) rfl (rest := []) rfl (hb hbytes d48)
  have c14 : Steps p.tables e below (s₁.setTop (entryFrame m #[.ref a, .ref b, .int (Int32.ofNat o), .int (Int32.ofNat len), .null] 6)) (T13.setTop (mkF m 54 #[.val (.ref a), .val (.ref b), .val (.int (Int32.ofNat o)), .val (.int (Int32.ofNat len)), .val .null, .val (.ref s.heap.size)] [.ref s.heap.size, .ref a])) := (c12.trans (st13 _ (Steps.refl _))).trans (by
    refine XS.aloadN X13.here hexec rfl (hb hbytes d51) rfl rfl ?_
    refine XS.aload X13.here hexec rfl (hb hbytes d52) rfl rfl ?_
    exact Steps.refl _)
  obtain ⟨T15, X15, p15, bl15, sl15, st15⟩ := X13.finit hexec hown (wk W (.fieldLink "java/lang/String" 9 "java/lang/String" "value" "[B")) (Or.inr ⟨_, (wk W (.laysFinal "java/lang/String" "java/lang/String" "value" "[B"))⟩) (Or.inl ⟨rfl, hnm⟩) f1 (Or.inl rfl) bl13 (t := (.array .byte)) (by decide +kernel) rfl (g := (mkF m 54 #[.val (.ref a), .val (.ref b), .val (.int (Int32.ofNat o)), .val (.int (Int32.ofNat len)), .val .null, .val (.ref s.heap.size)] [.ref s.heap.size, .ref a])) rfl (rest := []) rfl (hb hbytes d54)
  have c16 : Steps p.tables e below (s₁.setTop (entryFrame m #[.ref a, .ref b, .int (Int32.ofNat o), .int (Int32.ofNat len), .null] 6)) (T15.setTop (mkF m 57 #[.val (.ref a), .val (.ref b), .val (.int (Int32.ofNat o)), .val (.int (Int32.ofNat len)), .val .null, .val (.ref s.heap.size)] [])) := c14.trans (st15 _ (Steps.refl _))
  have ap := apart (Or.inr ⟨_, (wk W (.laysFinal "java/lang/String" "java/lang/String" "value" "[B"))⟩) (Or.inr ⟨_, (wk W (.laysFinal "java/lang/String" "java/lang/String" "coder" "B"))⟩) f1 f2 (t₁ := .array .byte) (t₂ := .byte) (by decide +kernel) (by decide +kernel) (by decide)
  have al := X8.warmed.alike.symm.trans X15.warmed.alike
  have n7 : T11.heap[s.heap.size]? = some N := by rw [q11]; exact n1.1
  exact ⟨T15, none, _, _, _, X15, by simp, rfl, by omega, (fun _ => rfl), ⟨rfl, _, N, bl15, ((Same.refl D _).set _ (by simp)).set _ (by simp), sl15, (Cell.slots_setSlot_ne _ ap).trans sl13, n1.keep al (p15.other hne (p13.other hne n7)), n2, by rw [al.findClass]; exact n3, n4, n5, fun y c h1 h2 => p15.other h1 (p13.other h1 (by rw [q11]; exact n6 y c h2)), by rw [p15.2.2, p13.2.2, q11]; exact z8⟩, fun fs hl => c16.trans (X15.returnOut hexec hret (hb hbytes d57) hl)⟩
end New4
namespace New1
def yN : MethodName := ⟨"java/lang/String", "<init>", "([C)V"⟩
abbrev yB : ByteArray := jdk_42_method_3_code
theorem d0 : decode yB 0 = .ok (.aload_n 0, 1) := by decide +kernel
theorem d1 : decode yB 1 = .ok (.aload_n 1, 1) := by decide +kernel
theorem d2 : decode yB 2 = .ok (.iconst 0, 1) := by decide +kernel
theorem d3 : decode yB 3 = .ok (.aload_n 1, 1) := by decide +kernel
theorem d4 : decode yB 4 = .ok (.arraylength, 1) := by decide +kernel
theorem d5 : decode yB 5 = .ok (.aconst_null, 1) := by decide +kernel
theorem d6 : decode yB 6 = .ok (.invokespecial 27, 3) := by decide +kernel
theorem d9 : decode yB 9 = .ok (.return_, 1) := by decide +kernel
def site : List Cond := [New4.tab] ++ initW "java/lang/String" 27 New4.yN
def tab : Cond := tabOf yN yB 2 none site
def P (a : Addr) (D : Cell) (fV fC : Field) (b : Addr) (A : Cell) (z : Int32) (args : Array Value) (s : State) : Prop := args = #[.ref a, .ref b] ∧ Blank "java/lang/String" a D s ∧ Found "java/lang/String" "value" "[B" fV s ∧ Found "java/lang/String" "coder" "B" fC s ∧ Ch b A s ∧ StaticIs s "java/lang/String" "COMPACT_STRINGS" "Z" (.int z) ∧ ¬ z = 0 ∧ 0 < A.slots.size ∧ A.slots.size ≤ 536870912 ∧ ∀ i, i < A.slots.size → ¬ 255 < cv A i
def E (a : Addr) (D : Cell) (fV fC : Field) (A : Cell) (r : Option Value) (s u : State) : Prop := Got a D fV fC A 0 A.slots.size r s u
/-- new String(chars), not empty, no char above 255: a Latin-1 String of their low bytes -/
theorem law (l : Launch) (a : Addr) (D : Cell) (fV fC : Field) (b : Addr) (A : Cell) (z : Int32) : Law l yN 2 1 3 52 yB 2 none site (P a D fV fC b A z) (E a D fV fC A) [⟨a, fC.slot⟩, ⟨a, fV.slot⟩] 1 A.slots.size := by
  refine Law.of_walk (plainFor_of_name (by decide +kernel)) (by decide +kernel) (by decide +kernel) (by decide) (fun _ _ h => by rw [h.1]; rfl) (fun _ U U' hal hh h => ⟨h.1, h.2.1.mv hal hh, h.2.2.1.al hal, h.2.2.2.1.al hal, h.2.2.2.2.1.mv hal hh, h.2.2.2.2.2.1.there hal hh, h.2.2.2.2.2.2⟩) (fun r U U' V V' h1 hal h2 h => Got.mv r U U' V V' h1 hal h2 h) ?_
  intro p e s m args below meth c s₁ X0 hexec hbytes hml hret hlk hnm hown hh0 W hP
  obtain ⟨rfl, hB, f1, f2, hA, s1, hz, l0, l2, hp⟩ := hP
  have c1 : Steps p.tables e below (s₁.setTop (entryFrame m #[.ref a, .ref b] 2)) (s₁.setTop (mkF m 0 #[.val (.ref a), .val (.ref b)] [])) := entry rfl
  have c2 : Steps p.tables e below (s₁.setTop (entryFrame m #[.ref a, .ref b] 2)) (s₁.setTop (mkF m 6 #[.val (.ref a), .val (.ref b)] [.null, .int (Int32.ofNat A.slots.size), .int 0, .ref b, .ref a])) := c1.trans (by
    refine XS.aloadN X0.here hexec rfl (hb hbytes d0) rfl rfl ?_
    refine XS.aloadN X0.here hexec rfl (hb hbytes d1) rfl rfl ?_
    refine iconstV X0.here hexec rfl 0 (hb hbytes d2) (by decide) ?_
    refine XS.aloadN X0.here hexec rfl (hb hbytes d3) rfl rfl ?_
    refine X0.alen hexec (hA.1.mv X0.warmed.alike hh0) rfl rfl (hb hbytes d4) ?_
    refine XS.aconstNull X0.here hexec rfl (hb hbytes d5) ?_
    exact Steps.refl _)
  obtain ⟨v3, T3, X3, E3, g3⟩ := X0.callN hexec (New4.law l a D fV fC b A z 0 A.slots.size) rfl hown (wks W (initW "java/lang/String" 27 New4.yN)) (W New4.tab (by simp only [site, List.mem_cons, List.mem_append, true_or, or_true])) (W := 0) (Nat.le_of_ble_eq_true rfl) (Nat.le_of_ble_eq_true rfl) (Nat.le_refl _) (by show 0 + A.slots.size ≤ A.slots.size; omega) (g := (mkF m 6 #[.val (.ref a), .val (.ref b)] [.null, .int (Int32.ofNat A.slots.size), .int (Int32.ofNat 0), .ref b, .ref a])) rfl (by rw [hml]; rfl) c2 (argsL := [.ref b, .int (Int32.ofNat 0), .int (Int32.ofNat A.slots.size), .null]) (rest := []) rfl rfl (by show 2 * 0 + 0 ≤ _; decide) (hb hbytes d6) (⟨rfl, hB.mv X0.warmed.alike hh0, f1.al X0.warmed.alike, f2.al X0.warmed.alike, hA.mv X0.warmed.alike hh0, s1.there X0.warmed.alike hh0, hz, l0, by omega, l2, fun i hi => by rw [Nat.zero_add]; exact hp i hi⟩)
  have e0 := Got.mv _ s₁ s _ _ hh0.symm (Vm.Alike.refl _) rfl E3
  obtain rfl := e0.1
  have c4 : Steps p.tables e below (s₁.setTop (entryFrame m #[.ref a, .ref b] 2)) (T3.setTop (mkF m 9 #[.val (.ref a), .val (.ref b)] [])) := g3
  exact ⟨T3, none, _, _, _, X3, by simp, rfl, by omega, (fun _ => rfl), e0, fun fs hl => c4.trans (X3.returnOut hexec hret (hb hbytes d9) hl)⟩
theorem pays {l : Launch} {R : Room} {p : Program} {e : Env} {below : List Frame} {s : State} {sargs : Array Value} {len W : Nat} (a : Addr) (D : Cell) (fV fC : Field) (b : Addr) (A : Cell) (z : Int32) (htab : tab.before sargs s = true) (hfr : 4 ≤ R.frames) (hlo : W + 65 ≤ R.locals) :
    Back l R p e below s sargs yN len W (fun A₁ a₁ => A₁.cells + 1 ≤ R.cells ∧ A₁.slots + A.slots.size ≤ R.slots ∧ P a D fV fC b A z a₁ A₁.U) (fun A₁ _ v₁ B₁ => E a D fV fC A v₁ A₁.U B₁.U ∧ B₁.locs = A₁.locs ++ [⟨a, fC.slot⟩, ⟨a, fV.slot⟩] ∧ B₁.cells = A₁.cells + 1 ∧ B₁.slots = A₁.slots + A.slots.size) :=
  (law l a D fV fC b A z).pays htab hfr (by omega)
end New1
/-- the byte, read back as charAt reads it, is the char -/
theorem lo8_mask {x : Int32} (h0 : ¬ x < 0) (h1 : ¬ 255 < x) : lo8 x &&& 255 = x := by
  have t : ∀ k : Fin 256, lo8 (Int32.ofNat k.val) &&& 255 = Int32.ofNat k.val := by decide +kernel
  rw [Int32.lt_iff_toInt_lt] at h0 h1
  have e0 : (0 : Int32).toInt = 0 := rfl
  have e1 : (255 : Int32).toInt = 255 := rfl
  obtain ⟨k, hk⟩ : ∃ k : Nat, x.toInt = k := ⟨x.toInt.toNat, by omega⟩
  have hx : x = Int32.ofNat k := Int32.toInt_inj.mp (by rw [hk, Int32.toInt_ofNat_small (by omega)])
  rw [hx]
  exact t ⟨k, by omega⟩
end StrChars
namespace StrChars.Road
open Jvm Sem ClassFile Op Lib Jvm.Stand Jvm.Free Jvm.Free.XT
open Jvm.Lib.Cold (StaticIs)
abbrev ST : String := "java/lang/String"
/-- every table word that New1's law asks, flat -/
abbrev words : List Jvm.Cond := [.code New1.yN New1.yB 2 none, .initialized ST, .methodLink ST 27 New4.yN, .instanceMethod New4.yN,
  .code New4.yN New4.yB 6 none, .fieldLink ST 38 ST "COMPACT_STRINGS" "Z", .laysFinal ST ST "value" "[B", .fieldLink ST 9 ST "value" "[B", .laysFinal ST ST "coder" "B", .fieldLink ST 15 ST "coder" "B",
  .methodLink ST 1 Lib.objectInit, .instanceMethod Lib.objectInit, .code Lib.objectInit ⟨#[0xb1]⟩ 1 none, .methodLink ST 177 Cmp3.yN, .static Cmp3.yN, .methodLink ST 47 CodL.yN, .static CodL.yN,
  .code Cmp3.yN Cmp3.yB 6 (some (.array .byte)), .initialized U16, .arrayClass .byte, .methodLink U16 115 Cmp5.yN, .static Cmp5.yN, .code Cmp5.yN Cmp5.yB 7 (some .int), .code CodL.yN CodL.yB 2 (some .byte)]
theorem tab_of {a : Array Value} {s : State} (h : ∀ w ∈ words, w.before a s = true) : New1.tab.before a s = true := by
  have h5 : Cmp5.tab.before a s = true := unparts (wk h (.code Cmp5.yN Cmp5.yB 7 (some .int))) (wks h (.initialized Cmp5.yN.cls :: Cmp5.site))
  have hc : CodL.tab.before a s = true := unparts (wk h (.code CodL.yN CodL.yB 2 (some .byte))) (wks h (.initialized CodL.yN.cls :: CodL.site))
  have q5 : ∀ w ∈ Cmp5.tab :: words, w.before a s = true := fun w hw => (List.mem_cons.mp hw).elim (fun e => e ▸ h5) (h w)
  have h3 : Cmp3.tab.before a s = true := unparts (wk q5 (.code Cmp3.yN Cmp3.yB 6 (some (.array .byte)))) (wks q5 (.initialized Cmp3.yN.cls :: Cmp3.site))
  have q3 : ∀ w ∈ Cmp3.tab :: CodL.tab :: words, w.before a s = true := fun w hw => (List.mem_cons.mp hw).elim (fun e => e ▸ h3) fun hw => (List.mem_cons.mp hw).elim (fun e => e ▸ hc) (h w)
  have h4 : New4.tab.before a s = true := unparts (wk q3 (.code New4.yN New4.yB 6 none)) (wks q3 (.initialized New4.yN.cls :: New4.site))
  have q4 : ∀ w ∈ New4.tab :: words, w.before a s = true := fun w hw => (List.mem_cons.mp hw).elim (fun e => e ▸ h4) (h w)
  exact unparts (wk q4 (.code New1.yN New1.yB 2 none)) (wks q4 (.initialized New1.yN.cls :: New1.site))
/-- the words ride from the start Z to the walk's own state -/
theorem moved {Z s : State} {a0 args : Array Value} (hZ : Z.Warmed39 s.vm) (hw : ∀ d ∈ words, d.before a0 Z = true) : ∀ d ∈ words, d.before args s = true := fun d hd => by
  have q := hw d hd
  have t : ∀ d ∈ words, d = .arrayClass .byte ∨ (d.onTables && d.keepsFace) = true := by decide +kernel
  rcases t d hd with rfl | t
  · exact RoadKit.mvA hZ q
  · exact RoadKit.mv hZ q t
/-- WHAT COMES BACK, over the tables of the start Z: h the heap at the call, h' behind it -/
def Q (Z : State) (x : Addr) (A : Cell) (h : Heap) (v : Option Value) (h' : Heap) (L : List Loc) : Prop := v = none ∧ (∀ y ∈ L, y.base = x) ∧ RoadKit.Keep h h' [x] ∧ h'.size = h.size + 1 ∧ RoadKit.Exa Z h' x ST ∧ RoadKit.Fld Z h' x ST "value" "[B" (.ref h.size) ∧ RoadKit.Fld Z h' x ST "coder" "B" (.int 0) ∧
  (∃ V : Cell, RoadKit.Arr Z h' h.size V .byte ∧ V.vm = .none ∧ Z.vm.findClass "[B" = some V.cls ∧ V.slots.size = A.slots.size ∧ ∀ j, j < A.slots.size → V.slots[j]? = some (.int (lo8 (cv A j)))) ∧
  ∀ (O n d : String) (w : Value), RoadKit.Fld Z h x O n d w → RoadKit.slotOf Z O n d ≠ RoadKit.slotOf Z ST "value" "[B" → RoadKit.slotOf Z O n d ≠ RoadKit.slotOf Z ST "coder" "B" → RoadKit.Fld Z h' x O n d w
/-- **new String(chars) AT A CALL, IN THE ROAD'S FORM**: for specialBack behind newO: x the fresh String, b the char[] with the cell A -/
theorem back {p : Program} {l : Launch} {e : Env} {R : Room} {s : State} {args : Array Value} {below : List Frame} {len W : Nat} {Z : State} {a0 : Array Value} {h : Heap} (hZ : Z.Warmed39 s.vm) (hw : ∀ d ∈ words, d.before a0 Z = true) {kI : Nat} (wi : (Jvm.Cond.instantiable ST kI).before a0 Z = true)
    {x b : Addr} {A : Cell} {z : Int32} {v0 c0 : Value} (E : RoadKit.Exa Z h x ST) (V : RoadKit.Fld Z h x ST "value" "[B" v0) (C : RoadKit.Fld Z h x ST "coder" "B" c0) (K : RoadKit.Arr Z h b A .char) (hty : Typed .char A) (S : RoadKit.Sta Z h ST "COMPACT_STRINGS" "Z" (.int z)) (hz : ¬ z = 0)
    (l0 : 0 < A.slots.size) (l2 : A.slots.size ≤ 536870912) (hp : ∀ i, i < A.slots.size → ¬ 255 < cv A i) (hfr : 4 ≤ R.frames) (hlo : W + 65 ≤ R.locals) :
    Back l R p e below s args New1.yN len W (fun P a => a = #[.ref x, .ref b] ∧ P.U.heap = h ∧ P.cells + 1 ≤ R.cells ∧ P.slots + A.slots.size ≤ R.slots)
      (fun P _ v B => ∃ L, Q Z x A h v B.U.heap L ∧ B.locs = P.locs ++ L ∧ B.cells = P.cells + 1 ∧ B.slots = P.slots + A.slots.size) := by
  intro m meth c P g ig mk a X hg hsize hdg hW hn hp'
  obtain ⟨rfl, rfl, r1, r2⟩ := hp'
  have al : Z.vm.Alike P.U.vm := hZ.alike.trans X.warmed.alike
  obtain ⟨D, cfV, kV, iV, fV, hD, gV, stV, knV, obV, asV, slV⟩ := id V
  obtain ⟨D', cfC, kC, iC, fC, hD', gC, stC, -, -, asC, slC⟩ := id C
  cases hD.symm.trans hD'
  obtain ⟨D2, kD, e1, e2, e3, e4, e5⟩ := id E
  cases hD.symm.trans e1
  obtain ⟨c2, k2, i1, i2, i3, -⟩ := Cond.instantiable_spec wi
  cases e2.symm.trans i1
  cases e3.symm.trans i2
  obtain ⟨kU, u1, u2⟩ := al.2.2 _ _ e3
  have hB : Blank ST x D P.U := ⟨hD, ⟨knV, fun q hq => by rw [hq] at obV; cases obV⟩, by rw [al.findClass]; exact e2, kU, u1, by rw [u2]; exact i3, by rw [u2]; exact e5 i3⟩
  have F1 : Found ST "value" "[B" fV P.U := ⟨SBG.found_only al ⟨cfV, kV, iV, gV⟩, stV⟩
  have F2 : Found ST "coder" "B" fC P.U := ⟨SBG.found_only al ⟨cfC, kC, iC, gC⟩, stC⟩
  have hA : Ch b A P.U := ⟨⟨K.1, State.isArrayOf_alike al K.2.1, K.2.2, by omega⟩, hty⟩
  have hS : StaticIs P.U ST "COMPACT_STRINGS" "Z" (.int z) := by
    obtain ⟨cfS, iS, kS, fS, st, cS, t1, t2, t3, t4, t5, t6, t7⟩ := S
    exact StaticIs.there (s := { Z with heap := P.U.heap }) ⟨cfS, iS, kS, fS, st, cS, t1, t2, t3, t4, t5, (fun q => by rw [q] at t6; cases t6), t7⟩ al rfl
  obtain ⟨v, B, X', ⟨⟨hv, E', V', q1, q2, q3, q4, q5, q6, q7, q8, q9, q10, q11⟩, hl, hc, hs⟩, st⟩ := New1.pays x D fV fC b A z (tab_of (moved hZ hw)) hfr hlo m meth c P g ig mk _ X hg hsize hdg hW hn ⟨r1, r2, rfl, hB, F1, F2, hA, hS, hz, l0, l2, hp⟩
  have al' : Z.vm.Alike B.U.vm := hZ.alike.trans X'.warmed.alike
  have hsz : E'.slots.size = D.slots.size := by
    obtain ⟨-, -, -, kB, w1, w2, w3⟩ := q1
    obtain ⟨kB', y1, y2⟩ := al'.2.2 _ _ e3
    rw [q2.2.1] at w1
    cases w1.symm.trans y1
    rw [w3, e5 i3, y2]
  refine ⟨v, B, X', ⟨_, ⟨hv, ?_, ⟨by omega, fun y cy hy hn' => q10 y cy (by simpa using hn') hy, fun y cy hy => ?_⟩, q11, ⟨E', _, q1.1, by rw [q2.2.1]; exact e2, by rw [q2.2.1]; exact e3, by rw [q2.1]; exact obV, fun _ => by rw [hsz]; exact e5 i3⟩,
    ⟨E', cfV, kV, iV, fV, q1.1, gV, stV, by rw [q2.1]; exact knV, by rw [q2.1]; exact obV, by rw [q2.2.1]; exact asV, q3⟩, ⟨E', cfC, kC, iC, fC, q1.1, gC, stC, by rw [q2.1]; exact knV, by rw [q2.1]; exact obV, by rw [q2.2.1]; exact asC, q4⟩,
    ⟨V', ⟨q5.1, State.isArrayOf_alike al'.symm q5.2.1, q5.2.2.1⟩, q6, by rw [← al'.findClass]; exact q7, q8, fun j hj => by have := q9 j hj; rwa [Nat.zero_add] at this⟩, fun O n d w F n1 n2 => ?_⟩, hl, hc, hs⟩, st⟩
  · intro y hy
    simp only [List.mem_cons, List.not_mem_nil, or_false] at hy
    rcases hy with rfl | rfl <;> rfl
  · by_cases q : y = x
    · subst q
      cases hD.symm.trans hy
      exact ⟨E', q1.1, q2.2.1, q2.1, hsz⟩
    · exact ⟨cy, q10 y cy q hy, rfl, rfl, rfl⟩
  · obtain ⟨D3, cf, k, i, f, g1, g2, g3, g4, g5, g6, g7⟩ := F
    cases hD.symm.trans g1
    simp only [RoadKit.slotOf, g2, gV, gC, Option.map_some, Option.getD_some] at n1 n2
    exact ⟨E', cf, k, i, f, q1.1, g2, g3, by rw [q2.1]; exact g4, by rw [q2.1]; exact g5, by rw [q2.2.1]; exact g6, by rw [q2.2.2 f.slot (by simp [n1, n2])]; exact g7⟩
end StrChars.Road
namespace StrChars.Road
open Jvm Sem ClassFile Op Lib Jvm.Stand Jvm.Free Jvm.Free.XT
/-- WHAT COMES BACK, the byte[] as a list of values -/
def QA (Z : State) (x : Addr) (zn : Int32) (cs : List Int32) (h : Heap) (v : Option Value) (h' : Heap) (L : List Loc) : Prop := v = none ∧ (∀ y ∈ L, y.base = x) ∧ RoadKit.Keep h h' [x] ∧ h'.size = h.size + 1 ∧ RoadKit.Exa Z h' x ST ∧ RoadKit.Fld Z h' x ST "value" "[B" (.ref h.size) ∧ RoadKit.Fld Z h' x ST "coder" "B" (.int 0) ∧
  (∃ kb, Z.vm.findClass "[B" = some kb ∧ RoadKit.Arv Z h' h.size kb .byte zn (cs.map fun c => .int (lo8 c)) (.int 0)) ∧
  ∀ (O n d : String) (w : Value), RoadKit.Fld Z h x O n d w → RoadKit.slotOf Z O n d ≠ RoadKit.slotOf Z ST "value" "[B" → RoadKit.slotOf Z O n d ≠ RoadKit.slotOf Z ST "coder" "B" → RoadKit.Fld Z h' x O n d w
/-- **new String(chars) AT A CALL, THE ARRAYS AS LISTS**: the char[] at b holds cs, not empty, no char above 255 -/
theorem backArv {p : Program} {l : Launch} {e : Env} {R : Room} {s : State} {args : Array Value} {below : List Frame} {len W : Nat} {Z : State} {a0 : Array Value} {h : Heap} (hZ : Z.Warmed39 s.vm) (hw : ∀ d ∈ words, d.before a0 Z = true) {kI : Nat} (wi : (Jvm.Cond.instantiable ST kI).before a0 Z = true)
    {x b : Addr} {k : ClassId} {zn z : Int32} {cs : List Int32} {dv v0 c0 : Value} (E : RoadKit.Exa Z h x ST) (V : RoadKit.Fld Z h x ST "value" "[B" v0) (C : RoadKit.Fld Z h x ST "coder" "B" c0) (K : RoadKit.Arv Z h b k .char zn (cs.map Value.int) dv) (S : RoadKit.Sta Z h ST "COMPACT_STRINGS" "Z" (.int z)) (hz : ¬ z = 0)
    (hlen : zn.toNatClampNeg = cs.length) (h0 : 0 < cs.length) (hbig : cs.length ≤ 536870912) (hall : ∀ c ∈ cs, ¬ 255 < c) (hfr : 4 ≤ R.frames) (hlo : W + 65 ≤ R.locals) :
    Back l R p e below s args New1.yN len W (fun P a => a = #[.ref x, .ref b] ∧ P.U.heap = h ∧ P.cells + 1 ≤ R.cells ∧ P.slots + cs.length ≤ R.slots)
      (fun P _ v B => ∃ L, QA Z x zn cs h v B.U.heap L ∧ B.locs = P.locs ++ L ∧ B.cells = P.cells + 1 ∧ B.slots = P.slots + cs.length) := by
  obtain ⟨A, K1, K2, K3, K4, K5, K6⟩ := K
  have e : A.slots.size = cs.length := K3.trans hlen
  have hat : ∀ (i : Nat) (hi : i < cs.length), A.slots[i]? = some (.int cs[i]) := fun i hi => by rw [K5 i (by omega)]; simp [List.getD_eq_getElem?_getD, hi]
  have hcv : ∀ (i : Nat) (hi : i < cs.length), cv A i = cs[i] := fun i hi => by unfold cv; rw [hat i hi]
  have hty : Typed .char A := fun i v hv => by
    have hi : i < A.slots.size := (Array.getElem?_eq_some_iff.mp hv).1
    have q := K5 i hi
    rw [hv] at q
    rw [Option.some.inj q]
    exact K6 i hi
  refine Back.mono (back hZ hw wi E V C K1 hty S hz (by omega) (by omega) (fun i hi => by rw [hcv i (by omega)]; exact hall _ (List.getElem_mem _)) hfr hlo) (fun P a hp => ⟨hp.1, hp.2.1, hp.2.2.1, by rw [e]; exact hp.2.2.2⟩) (fun P a v B hp hq => ?_)
  obtain ⟨L, ⟨q1, q2, q3, q4, q5, q6, q7, ⟨V', v1, v2, v3, v4, v5⟩, q9⟩, hl, hc, hs⟩ := hq
  refine ⟨L, ⟨q1, q2, q3, q4, q5, q6, q7, ⟨V'.cls, v3, V', v1, rfl, by rw [v4, e, hlen], K4, fun i hi => ?_, fun i hi => ?_⟩, q9⟩, hl, hc, by rw [hs, e]⟩
  · have hi' : i < cs.length := by omega
    rw [v5 i (by omega), hcv i hi']; simp [List.getD_eq_getElem?_getD, hi']
  · have hi' : i < cs.length := by omega
    simp only [List.getD_eq_getElem?_getD, List.getElem?_map, List.getElem?_eq_getElem hi', Option.map_some, Option.getD_some]
    exact fits_lo8 _
end StrChars.Road
namespace StrChars.Road
open Jvm Sem ClassFile Op Lib Jvm.Stand Jvm.Free Jvm.Free.XT
/-- WHAT COMES BACK, in the writer's own shape -/
def QV (Z : State) (x : Addr) (N : Int32) (bs : List Int32) (h : Heap) (n0 : Nat) (v : Option Value) (h' : Heap) (L : List Loc) : Prop := v = none ∧ RoadKit.Fr n0 L ∧ RoadKit.Keep h h' [x] ∧ RoadKit.Exa Z h' x ST ∧ RoadKit.Fld Z h' x ST "coder" "B" (.int 0) ∧
  ∃ (t : Addr) (kb : ClassId), n0 ≤ t ∧ h.size ≤ t ∧ ¬ t = x ∧ RoadKit.Fld Z h' x ST "value" "[B" (.ref t) ∧ RoadKit.Arv Z h' t kb .byte N (bs.map Value.int) (.int 0)
/-- **new String(chars) AT A CALL, FOR THE WRITER**: a char[] of n known ints, each 0 to 255 -/
theorem backV {p : Program} {l : Launch} {e : Env} {R : Room} {s : State} {args : Array Value} {below : List Frame} {len W : Nat} {Z : State} {a0 : Array Value} {h : Heap} (hZ : Z.Warmed39 s.vm) (hw : ∀ d ∈ words, d.before a0 Z = true) {kI : Nat} (wi : (Jvm.Cond.instantiable ST kI).before a0 Z = true)
    {x b : Addr} {kC : ClassId} {cs bs : List Int32} {d v0 c0 : Value} {z N : Int32} {n n0 : Nat} (hx0 : n0 ≤ x) (hh0 : n0 ≤ h.size) (E : RoadKit.Exa Z h x ST) (V : RoadKit.Fld Z h x ST "value" "[B" v0) (C : RoadKit.Fld Z h x ST "coder" "B" c0) (K : RoadKit.Arv Z h b kC .char N (cs.map Value.int) d) (S : RoadKit.Sta Z h ST "COMPACT_STRINGS" "Z" (.int z)) (hz : ¬ z = 0)
    (hn : cs.length = n) (hN : N = Int32.ofNat n) (l0 : 0 < n) (l2 : n ≤ 4000) (hp : ∀ c ∈ cs, ¬ c < 0 ∧ ¬ (255 : Int32) < c) (hb : bs = cs.map (fun c => c.toInt8.toInt32)) (hfr : 4 ≤ R.frames) (hlo : W + 65 ≤ R.locals) :
    Back l R p e below s args (⟨"java/lang/String", "<init>", "([C)V"⟩ : MethodName) len W (fun P a => a = #[.ref x, .ref b] ∧ P.U.heap = h ∧ P.cells + 1 ≤ R.cells ∧ P.slots + n ≤ R.slots)
      (fun P _ v B => ∃ L, QV Z x N bs h n0 v B.U.heap L ∧ B.locs = P.locs ++ L ∧ B.cells = P.cells + 1 ∧ B.slots = P.slots + n) := by
  subst hn hN hb
  refine Back.mono (backArv hZ hw wi E V C K S hz (n32 (by omega)) l0 (by omega) (fun c hc => (hp c hc).2) hfr hlo) (fun P a hp => hp) (fun P a v B hp hq => ?_)
  obtain ⟨L, ⟨q1, q2, q3, q4, q5, q6, q7, ⟨kb, v1, v2⟩, q9⟩, hl, hc, hs⟩ := hq
  exact ⟨L, ⟨q1, fun y hy => by rw [q2 y hy]; exact hx0, q3, q5, q7, h.size, kb, hh0, Nat.le_refl _, Nat.ne_of_gt E.lt, q6, by rw [List.map_map]; exact v2⟩, hl, hc, hs⟩
end StrChars.Road
namespace StrChars
open Jvm Sem ClassFile Op Lib Jvm.Stand Jvm.Free.XT Jvm.Free.ALB Jvm.Free.JM Jvm.Free
open Jvm.Lib.Cold (StaticIs)
def hi8 (x : Int32) : Int32 := lo8 (x >>> ((8 : Int32) &&& 31))
/-- what StringUTF16.getChar makes of two bytes -/
def pairCh (u v : Int32) : Int32 := (((u &&& 255) <<< ((0 : Int32) &&& 31)) ||| ((v &&& 255) <<< ((8 : Int32) &&& 31))).toUInt32.toUInt16.toUInt32.toInt32
theorem shr0 (c : Int32) : c >>> ((0 : Int32) &&& 31) = c := by
  have e : ((0 : Int32) &&& 31) = 0 := by decide
  rw [e]
  apply Int32.toBitVec_inj.mp
  rw [Int32.toBitVec_shiftRight]
  have e1 : ((0 : Int32).toBitVec.smod 32) = 0#32 := by decide
  rw [e1, BitVec.sshiftRight_eq']
  exact BitVec.sshiftRight_zero
theorem lo8_and (x : Int32) : (lo8 x &&& 255).toBitVec.toNat = x.toBitVec.toNat % 256 := by
  have h : (lo8 x).toBitVec = (x.toBitVec.signExtend 8).signExtend 32 := by rw [lo8, Int8.toBitVec_toInt32, Int32.toBitVec_toInt8]
  rw [Int32.toBitVec_and, BitVec.toNat_and, h]
  have e : ((x.toBitVec.signExtend 8).signExtend 32).toNat % 256 = x.toBitVec.toNat % 256 := by
    rw [BitVec.toNat_signExtend]
    have hlt := x.toBitVec.isLt
    simp only [BitVec.toNat_setWidth, BitVec.toNat_signExtend]
    split <;> split <;> omega
  rw [← e]
  exact Nat.and_two_pow_sub_one_eq_mod _ 8
theorem pair_says {c : Int32} (h0 : ¬ c < 0) (h1 : ¬ 65535 < c) : pairCh (lo8 c) (hi8 c) = c := by
  rw [Int32.lt_iff_toInt_lt] at h0 h1
  have e0 : (0 : Int32).toInt = 0 := rfl
  have e1 : (65535 : Int32).toInt = 65535 := rfl
  have hc : c.toInt = c.toBitVec.toNat := by
    have := c.toBitVec.isLt
    have e : c.toInt = c.toBitVec.toInt := rfl
    rw [e] at h0 h1
    rw [e]
    rw [BitVec.toInt_eq_toNat_cond] at h0 h1 ⊢
    split at h0 <;> split <;> omega
  have hn : c.toBitVec.toNat < 65536 := by omega
  have a1 := lo8_and c
  have a2 : (hi8 c &&& 255).toBitVec.toNat = c.toBitVec.toNat / 256 := by
    rw [hi8, lo8_and]
    have e : ((8 : Int32) &&& 31) = 8 := by decide
    rw [e, Int32.toBitVec_shiftRight]
    have e2 : ((8 : Int32).toBitVec.smod 32) = 8#32 := by decide
    rw [e2, BitVec.sshiftRight_eq', BitVec.toNat_sshiftRight_of_msb_false (by rw [BitVec.msb_eq_false_iff_two_mul_lt]; omega)]
    show c.toBitVec.toNat >>> 8 % 256 = _
    rw [Nat.shiftRight_eq_div_pow]
    omega
  unfold pairCh
  apply Int32.toBitVec_inj.mp
  apply BitVec.eq_of_toNat_eq
  have f0 : ((0 : Int32) &&& 31) = 0 := by decide
  have f8 : ((8 : Int32) &&& 31) = 8 := by decide
  rw [f0, f8]
  have g : (((lo8 c &&& 255) <<< (0 : Int32)) ||| ((hi8 c &&& 255) <<< (8 : Int32))).toBitVec.toNat = c.toBitVec.toNat := by
    rw [Int32.toBitVec_or, Int32.toBitVec_shiftLeft, Int32.toBitVec_shiftLeft]
    have s0 : ((0 : Int32).toBitVec.smod 32) = 0#32 := by decide
    have s8 : ((8 : Int32).toBitVec.smod 32) = 8#32 := by decide
    rw [s0, s8, BitVec.toNat_or]
    simp only [BitVec.shiftLeft_eq', BitVec.toNat_shiftLeft, a1, a2]
    show (c.toBitVec.toNat % 256) <<< 0 % 2 ^ 32 ||| (c.toBitVec.toNat / 256) <<< 8 % 2 ^ 32 = _
    rw [Nat.shiftLeft_zero, Nat.mod_eq_of_lt (show c.toBitVec.toNat % 256 < 2 ^ 32 by omega), Nat.mod_eq_of_lt (show (c.toBitVec.toNat / 256) <<< 8 < 2 ^ 32 by rw [Nat.shiftLeft_eq]; omega), Nat.or_comm, ← Nat.shiftLeft_add_eq_or_of_lt (by omega), Nat.shiftLeft_eq]
    omega
  show BitVec.toNat (((((lo8 c &&& 255) <<< (0 : Int32)) ||| ((hi8 c &&& 255) <<< (8 : Int32))).toBitVec.setWidth 16).setWidth 32) = _
  rw [BitVec.toNat_setWidth, BitVec.toNat_setWidth, g]
  omega
end StrChars
namespace StrChars
open Jvm Sem ClassFile Op Lib Jvm.Stand Jvm.Free.XT Jvm.Free.ALB Jvm.Free.JM Jvm.Free
open Jvm.Lib.Cold (StaticIs)
theorem shr1 {n : Nat} (h : 2 * n < 2 ^ 31) : Int32.ofNat (2 * n) >>> ((1 : Int32) &&& 31) = Int32.ofNat n := by
  have e : ((1 : Int32) &&& 31) = 1 := by decide
  rw [e]
  apply Int32.toBitVec_inj.mp
  rw [Int32.toBitVec_shiftRight]
  have e1 : ((1 : Int32).toBitVec.smod 32) = 1#32 := by decide
  have hm : (BitVec.ofNat 32 (2 * n)).toNat = 2 * n := by rw [BitVec.toNat_ofNat, Nat.mod_eq_of_lt (by omega)]
  rw [e1, BitVec.sshiftRight_eq']
  apply BitVec.eq_of_toNat_eq
  show ((BitVec.ofNat 32 (2 * n)).sshiftRight 1).toNat = (BitVec.ofNat 32 n).toNat
  rw [BitVec.toNat_sshiftRight_of_msb_false (by rw [BitVec.msb_eq_false_iff_two_mul_lt, hm]; omega), hm, BitVec.toNat_ofNat, Nat.shiftRight_eq_div_pow]
  omega
/-- charAt's cast of a byte read back -/
def chr8 (u : Int32) : Int32 := (u &&& 255).toUInt32.toUInt16.toUInt32.toInt32
theorem chr8_lo8 {c : Int32} (h0 : ¬ c < 0) (h1 : ¬ 255 < c) : chr8 (lo8 c) = c := by
  have t : ∀ k : Fin 256, (Int32.ofNat k.val).toUInt32.toUInt16.toUInt32.toInt32 = Int32.ofNat k.val := by decide +kernel
  unfold chr8
  rw [lo8_mask h0 h1]
  rw [Int32.lt_iff_toInt_lt] at h0 h1
  have e0 : (0 : Int32).toInt = 0 := rfl
  have e1 : (255 : Int32).toInt = 255 := rfl
  obtain ⟨k, hk⟩ : ∃ k : Nat, c.toInt = k := ⟨c.toInt.toNat, by omega⟩
  have hx : c = Int32.ofNat k := Int32.toInt_inj.mp (by rw [hk, Int32.toInt_ofNat_small (by omega)])
  rw [hx]
  exact t ⟨k, by omega⟩
theorem narrow_ch {c : Int32} (h0 : ¬ c < 0) (h1 : ¬ 65535 < c) : narrow .char (.int c) = .int c := by
  have q : narrow .char (.int (pairCh (lo8 c) (hi8 c))) = .int (pairCh (lo8 c) (hi8 c)) := narrow_c _
  rwa [pair_says h0 h1] at q
/-- the array's cell V codes the n chars f 0 .. f (n - 1) by the coder cd, as the JDK does: coder 1 just where some char is above 255 -/
def Cod (cd : Int32) (n : Nat) (f : Nat → Int32) (V : Cell) : Prop := (cd = 0 ∧ V.slots.size = n ∧ ∀ j, j < n → V.slots[j]? = some (.int (lo8 (f j))) ∧ ¬ 255 < f j) ∨ (cd = 1 ∧ V.slots.size = 2 * n ∧ (∀ j, j < n → V.slots[2 * j]? = some (.int (lo8 (f j))) ∧ V.slots[2 * j + 1]? = some (.int (hi8 (f j)))) ∧ ∃ j, j < n ∧ 255 < f j)
theorem Cod.cd {cd : Int32} {n : Nat} {f : Nat → Int32} {V : Cell} (h : Cod cd n f V) : cd = 0 ∨ cd = 1 := h.imp (fun q => q.1) fun q => q.1
theorem Cod.len {cd : Int32} {n : Nat} {f : Nat → Int32} {V : Cell} (h : Cod cd n f V) (hs : V.slots.size < 2 ^ 31) : Int32.ofNat V.slots.size >>> (cd &&& 31) = Int32.ofNat n := by
  rcases h with ⟨rfl, h, -⟩ | ⟨rfl, h, -⟩
  · rw [shr0, h]
  · rw [h, shr1 (by omega)]
/-- **x is a String of the n chars f 0 .. f (n - 1)**, Latin-1 or UTF-16; its array at t has the cell V -/
def Txt (x t : Addr) (V : Cell) (cd : Int32) (n : Nat) (f : Nat → Int32) (U : State) : Prop := Exact "java/lang/String" x U ∧ Has x "java/lang/String" "value" "[B" (.ref t) U ∧ Has x "java/lang/String" "coder" "B" (.int cd) U ∧ XT.Arr .byte t V U ∧ Cod cd n f V ∧ ∀ j, j < n → ¬ f j < 0 ∧ ¬ 65535 < f j
theorem Txt.mv {x t : Addr} {V : Cell} {cd : Int32} {n : Nat} {f : Nat → Int32} {U U' : State} (h : Txt x t V cd n f U) (hal : U.vm.Alike U'.vm) (hh : U'.heap = U.heap) : Txt x t V cd n f U' := ⟨h.1.mv hal hh, h.2.1.mv hal hh, h.2.2.1.mv hal hh, h.2.2.2.1.mv hal hh, h.2.2.2.2⟩
namespace Cdr
def yN : MethodName := ⟨"java/lang/String", "coder", "()B"⟩
abbrev yB : ByteArray := jdk_42_method_152_code
theorem d0 : decode yB 0 = .ok (.getstatic 38, 3) := by decide +kernel
theorem d3 : decode yB 3 = .ok (.ifCond (.eq) 10, 3) := by decide +kernel
theorem d6 : decode yB 6 = .ok (.aload_n 0, 1) := by decide +kernel
theorem d7 : decode yB 7 = .ok (.getfield 15, 3) := by decide +kernel
theorem d10 : decode yB 10 = .ok (.goto 4, 3) := by decide +kernel
theorem d14 : decode yB 14 = .ok (.ireturn, 1) := by decide +kernel
def site : List Cond := [.fieldLink "java/lang/String" 38 "java/lang/String" "COMPACT_STRINGS" "Z", .fieldLink "java/lang/String" 15 "java/lang/String" "coder" "B"]
def tab : Cond := tabOf yN yB 1 (some .byte) site
def P (x : Addr) (cd z : Int32) (args : Array Value) (s : State) : Prop := args = #[.ref x] ∧ Has x "java/lang/String" "coder" "B" (.int cd) s ∧ (cd = 0 ∨ cd = 1) ∧ StaticIs s "java/lang/String" "COMPACT_STRINGS" "Z" (.int z) ∧ ¬ z = 0
def E (cd : Int32) (r : Option Value) (s u : State) : Prop := XT.PureE (some (.int cd)) r s u
theorem law (l : Launch) (x : Addr) (cd z : Int32) : Law l yN 1 0 0 0 yB 1 (some .byte) site (P x cd z) (E cd) [] 0 0 := by
  refine Law.of_walk (plainFor_of_name (by decide +kernel)) (by decide +kernel) (by decide +kernel) (by decide) (fun _ _ h => by rw [h.1]; rfl) (fun _ U U' hal hh h => ⟨h.1, h.2.1.mv hal hh, h.2.2.1, h.2.2.2.1.there hal hh, h.2.2.2.2⟩) (fun r U U' V V' h1 hal h2 h => XT.PureE.mv r U U' V V' h1 hal h2 h) ?_
  intro p e s m args below meth c s₁ X0 hexec hbytes hml hret hlk hnm hown hh0 W hP
  obtain ⟨rfl, hx, hc, s1, hz⟩ := hP
  have c1 : Steps p.tables e below (s₁.setTop (entryFrame m #[.ref x] 1)) (s₁.setTop (mkF m 0 #[.val (.ref x)] [])) := entry rfl
  obtain ⟨T2, X2, q2, st2⟩ := X0.sget hexec hown (wk W (.fieldLink "java/lang/String" 38 "java/lang/String" "COMPACT_STRINGS" "Z")) s1 (fun _ _ h => by rw [hh0]; exact h) (g := (mkF m 0 #[.val (.ref x)] [])) rfl (hb hbytes d0)
  have hh2 := q2.trans hh0
  have c3 : Steps p.tables e below (s₁.setTop (entryFrame m #[.ref x] 1)) (T2.setTop (mkF m 7 #[.val (.ref x)] [.ref x])) := (c1.trans (st2 _ (Steps.refl _))).trans (by
    refine XS.ifNo X2.here hexec rfl (hb hbytes d3) rfl (i0_eq_f hz) ?_
    refine XS.aloadN X2.here hexec rfl (hb hbytes d6) rfl rfl ?_
    exact Steps.refl _)
  obtain ⟨T4, X4, q4, st4⟩ := X2.hget hexec hown (wk W (.fieldLink "java/lang/String" 15 "java/lang/String" "coder" "B")) (hx.mv X2.warmed.alike hh2) (g := (mkF m 7 #[.val (.ref x)] [.ref x])) rfl (rest := []) rfl (hb hbytes d7)
  have c5 : Steps p.tables e below (s₁.setTop (entryFrame m #[.ref x] 1)) (T4.setTop (mkF m 14 #[.val (.ref x)] [.int cd])) := (c3.trans (st4 _ (Steps.refl _))).trans (by
    refine XS.goto X4.here hexec rfl (pc0 := 10) rfl (hb hbytes d10) (by decide) rfl ?_
    exact Steps.refl _)
  exact ⟨T4, some (.int cd), _, _, _, X4, rfl, rfl, rfl, (fun h => by cases h), ⟨rfl, q4.trans hh2⟩, fun fs hl => c5.trans (X4.ireturnOut hexec hret (by rcases hc with rfl | rfl <;> rfl) (Or.inr (Or.inr (Or.inl rfl))) (hb hbytes d14) hl)⟩
end Cdr
namespace Len
def yN : MethodName := ⟨"java/lang/String", "length", "()I"⟩
abbrev yB : ByteArray := jdk_42_method_54_code
theorem d0 : decode yB 0 = .ok (.aload_n 0, 1) := by decide +kernel
theorem d1 : decode yB 1 = .ok (.getfield 9, 3) := by decide +kernel
theorem d4 : decode yB 4 = .ok (.arraylength, 1) := by decide +kernel
theorem d5 : decode yB 5 = .ok (.aload_n 0, 1) := by decide +kernel
theorem d6 : decode yB 6 = .ok (.invokevirtual 335, 3) := by decide +kernel
theorem d9 : decode yB 9 = .ok (.ishr, 1) := by decide +kernel
theorem d10 : decode yB 10 = .ok (.ireturn, 1) := by decide +kernel
def site : List Cond := [.fieldLink "java/lang/String" 9 "java/lang/String" "value" "[B", Cdr.tab] ++ virtW "java/lang/String" 335 "java/lang/String" Cdr.yN Cdr.yN
def tab : Cond := tabOf yN yB 1 (some .int) site
def P (x t : Addr) (V : Cell) (cd : Int32) (n : Nat) (f : Nat → Int32) (z : Int32) (args : Array Value) (s : State) : Prop := args = #[.ref x] ∧ Txt x t V cd n f s ∧ StaticIs s "java/lang/String" "COMPACT_STRINGS" "Z" (.int z) ∧ ¬ z = 0
def E (n : Nat) (r : Option Value) (s u : State) : Prop := XT.PureE (some (.int (Int32.ofNat n))) r s u
/-- length() of a String of n chars, in either coding -/
theorem law (l : Launch) (x t : Addr) (V : Cell) (cd : Int32) (n : Nat) (f : Nat → Int32) (z : Int32) : Law l yN 1 0 1 13 yB 1 (some .int) site (P x t V cd n f z) (E n) [] 0 0 := by
  refine Law.of_walk (plainFor_of_name (by decide +kernel)) (by decide +kernel) (by decide +kernel) (by decide) (fun _ _ h => by rw [h.1]; rfl) (fun _ U U' hal hh h => ⟨h.1, h.2.1.mv hal hh, h.2.2.1.there hal hh, h.2.2.2⟩) (fun r U U' V V' h1 hal h2 h => XT.PureE.mv r U U' V V' h1 hal h2 h) ?_
  intro p e s m args below meth c s₁ X0 hexec hbytes hml hret hlk hnm hown hh0 W hP
  obtain ⟨rfl, hx, s1, hz⟩ := hP
  have v31 := hx.2.2.2.1.2.2.2
  have c1 : Steps p.tables e below (s₁.setTop (entryFrame m #[.ref x] 1)) (s₁.setTop (mkF m 1 #[.val (.ref x)] [.ref x])) := Steps.trans (entry rfl) (by
    show Steps p.tables e below (s₁.setTop (mkF m 0 #[.val (.ref x)] [])) _
    refine XS.aloadN X0.here hexec rfl (hb hbytes d0) rfl rfl ?_
    exact Steps.refl _)
  obtain ⟨T2, X2, q2, st2⟩ := X0.hget hexec hown (wk W (.fieldLink "java/lang/String" 9 "java/lang/String" "value" "[B")) (hx.mv X0.warmed.alike hh0).2.1 (g := (mkF m 1 #[.val (.ref x)] [.ref x])) rfl (rest := []) rfl (hb hbytes d1)
  have hh2 := q2.trans hh0
  have hx2 := hx.mv X2.warmed.alike hh2
  have c3 : Steps p.tables e below (s₁.setTop (entryFrame m #[.ref x] 1)) (T2.setTop (mkF m 6 #[.val (.ref x)] [.ref x, .int (Int32.ofNat V.slots.size)])) := (c1.trans (st2 _ (Steps.refl _))).trans (by
    refine X2.alen hexec hx2.2.2.2.1 rfl rfl (hb hbytes d4) ?_
    refine XS.aloadN X2.here hexec rfl (hb hbytes d5) rfl rfl ?_
    exact Steps.refl _)
  obtain ⟨v4, T4, X4, E4, g4⟩ := X2.callV hexec (Cdr.law l x cd z) hown (wks W (virtW "java/lang/String" 335 "java/lang/String" Cdr.yN Cdr.yN)) rfl (by decide) (wk W Cdr.tab) (W := 1) (Nat.le_of_ble_eq_true rfl) (Nat.le_of_ble_eq_true rfl) (Nat.le_refl _) (Nat.le_refl _) (hx2.1.fc X2.warmed.alike) hx2.1.is (g := (mkF m 6 #[.val (.ref x)] [.ref x, .int (Int32.ofNat V.slots.size)])) rfl (by rw [hml]; rfl) c3 (argsL := []) (rest := [.int (Int32.ofNat V.slots.size)]) rfl rfl (by show 2 * 0 + (1 + 0) ≤ _; decide) (hb hbytes d6) (⟨rfl, hx2.2.2.1, hx.2.2.2.2.1.cd, s1.there X2.warmed.alike hh2, hz⟩)
  obtain ⟨rfl, q4⟩ := E4
  have c5 : Steps p.tables e below (s₁.setTop (entryFrame m #[.ref x] 1)) (T4.setTop (mkF m 10 #[.val (.ref x)] [.int (Int32.ofNat V.slots.size >>> (cd &&& 31))])) := Steps.trans g4 (by
    refine ishr X4.here hexec rfl (hb hbytes d9) rfl ?_
    exact Steps.refl _)
  rw [hx.2.2.2.2.1.len v31] at c5
  exact ⟨T4, some (.int (Int32.ofNat n)), _, _, _, X4, rfl, rfl, rfl, (fun h => by cases h), ⟨rfl, q4.trans hh2⟩, fun fs hl => c5.trans (X4.ireturnOut hexec hret rfl (Or.inl rfl) (hb hbytes d10) hl)⟩
theorem pays {l : Launch} {R : Room} {p : Program} {e : Env} {below : List Frame} {s : State} {sargs : Array Value} {len W : Nat} (x t : Addr) (V : Cell) (cd : Int32) (n : Nat) (f : Nat → Int32) (z : Int32) (htab : tab.before sargs s = true) (hfr : 2 ≤ R.frames) (hlo : W + 25 ≤ R.locals) :
    Back l R p e below s sargs yN len W (fun A₁ a₁ => A₁.cells + 0 ≤ R.cells ∧ A₁.slots + 0 ≤ R.slots ∧ P x t V cd n f z a₁ A₁.U) (fun A₁ _ v₁ B₁ => E n v₁ A₁.U B₁.U ∧ B₁.locs = A₁.locs ++ [] ∧ B₁.cells = A₁.cells + 0 ∧ B₁.slots = A₁.slots + 0) :=
  (law l x t V cd n f z).pays htab hfr (by omega)
end Len
namespace IsL
def yN : MethodName := ⟨"java/lang/String", "isLatin1", "()Z"⟩
abbrev yB : ByteArray := jdk_42_method_154_code
theorem d0 : decode yB 0 = .ok (.getstatic 38, 3) := by decide +kernel
theorem d3 : decode yB 3 = .ok (.ifCond (.eq) 14, 3) := by decide +kernel
theorem d6 : decode yB 6 = .ok (.aload_n 0, 1) := by decide +kernel
theorem d7 : decode yB 7 = .ok (.getfield 15, 3) := by decide +kernel
theorem d10 : decode yB 10 = .ok (.ifCond (.ne) 7, 3) := by decide +kernel
theorem d13 : decode yB 13 = .ok (.iconst 1, 1) := by decide +kernel
theorem d14 : decode yB 14 = .ok (.goto 4, 3) := by decide +kernel
theorem d17 : decode yB 17 = .ok (.iconst 0, 1) := by decide +kernel
theorem d18 : decode yB 18 = .ok (.ireturn, 1) := by decide +kernel
def site : List Cond := [.fieldLink "java/lang/String" 38 "java/lang/String" "COMPACT_STRINGS" "Z", .fieldLink "java/lang/String" 15 "java/lang/String" "coder" "B"]
def tab : Cond := tabOf yN yB 1 (some .boolean) site
def P (x : Addr) (cd z : Int32) (args : Array Value) (s : State) : Prop := args = #[.ref x] ∧ Has x "java/lang/String" "coder" "B" (.int cd) s ∧ (cd = 0 ∨ cd = 1) ∧ StaticIs s "java/lang/String" "COMPACT_STRINGS" "Z" (.int z) ∧ ¬ z = 0
def E (cd : Int32) (r : Option Value) (s u : State) : Prop := XT.PureE (some (.int (1 - cd))) r s u
theorem law (l : Launch) (x : Addr) (cd z : Int32) : Law l yN 1 0 0 0 yB 1 (some .boolean) site (P x cd z) (E cd) [] 0 0 := by
  refine Law.of_walk (plainFor_of_name (by decide +kernel)) (by decide +kernel) (by decide +kernel) (by decide) (fun _ _ h => by rw [h.1]; rfl) (fun _ U U' hal hh h => ⟨h.1, h.2.1.mv hal hh, h.2.2.1, h.2.2.2.1.there hal hh, h.2.2.2.2⟩) (fun r U U' V V' h1 hal h2 h => XT.PureE.mv r U U' V V' h1 hal h2 h) ?_
  intro p e s m args below meth c s₁ X0 hexec hbytes hml hret hlk hnm hown hh0 W hP
  obtain ⟨rfl, hx, hc, s1, hz⟩ := hP
  have c1 : Steps p.tables e below (s₁.setTop (entryFrame m #[.ref x] 1)) (s₁.setTop (mkF m 0 #[.val (.ref x)] [])) := entry rfl
  obtain ⟨T2, X2, q2, st2⟩ := X0.sget hexec hown (wk W (.fieldLink "java/lang/String" 38 "java/lang/String" "COMPACT_STRINGS" "Z")) s1 (fun _ _ h => by rw [hh0]; exact h) (g := (mkF m 0 #[.val (.ref x)] [])) rfl (hb hbytes d0)
  have hh2 := q2.trans hh0
  have c3 : Steps p.tables e below (s₁.setTop (entryFrame m #[.ref x] 1)) (T2.setTop (mkF m 7 #[.val (.ref x)] [.ref x])) := (c1.trans (st2 _ (Steps.refl _))).trans (by
    refine XS.ifNo X2.here hexec rfl (hb hbytes d3) rfl (i0_eq_f hz) ?_
    refine XS.aloadN X2.here hexec rfl (hb hbytes d6) rfl rfl ?_
    exact Steps.refl _)
  obtain ⟨T4, X4, q4, st4⟩ := X2.hget hexec hown (wk W (.fieldLink "java/lang/String" 15 "java/lang/String" "coder" "B")) (hx.mv X2.warmed.alike hh2) (g := (mkF m 7 #[.val (.ref x)] [.ref x])) rfl (rest := []) rfl (hb hbytes d7)
  have c5 : Steps p.tables e below (s₁.setTop (entryFrame m #[.ref x] 1)) (T4.setTop (mkF m 10 #[.val (.ref x)] [.int cd])) := c3.trans (st4 _ (Steps.refl _))
  have c6 : Steps p.tables e below (s₁.setTop (entryFrame m #[.ref x] 1)) (T4.setTop (mkF m 18 #[.val (.ref x)] [.int (1 - cd)])) := by
    rcases hc with rfl | rfl
    · exact c5.trans (by
        refine XS.ifNo X4.here hexec rfl (hb hbytes d10) rfl (i0_ne_f rfl) ?_
        refine iconstV X4.here hexec rfl 1 (hb hbytes d13) (by decide) ?_
        refine XS.goto X4.here hexec rfl (pc0 := 14) rfl (hb hbytes d14) (by decide) rfl ?_
        exact Steps.refl _)
    · exact c5.trans (by
        refine XS.ifYes X4.here hexec rfl (pc0 := 10) rfl (hb hbytes d10) rfl (i0_ne_t (by decide)) (by decide) rfl ?_
        refine iconstV X4.here hexec rfl 0 (hb hbytes d17) (by decide) ?_
        exact Steps.refl _)
  exact ⟨T4, some (.int (1 - cd)), _, _, _, X4, rfl, rfl, rfl, (fun h => by cases h), ⟨rfl, q4.trans hh2⟩, fun fs hl => c6.trans (X4.ireturnOut hexec hret (by rcases hc with rfl | rfl <;> rfl) (Or.inr (Or.inl rfl)) (hb hbytes d18) hl)⟩
end IsL
namespace LChA
def yN : MethodName := ⟨"java/lang/StringLatin1", "charAt", "([BI)C"⟩
abbrev yB : ByteArray := jdk_43_method_2_code
theorem d0 : decode yB 0 = .ok (.iload_n 1, 1) := by decide +kernel
theorem d1 : decode yB 1 = .ok (.aload_n 0, 1) := by decide +kernel
theorem d2 : decode yB 2 = .ok (.arraylength, 1) := by decide +kernel
theorem d3 : decode yB 3 = .ok (.invokestatic 9, 3) := by decide +kernel
theorem d6 : decode yB 6 = .ok (.aload_n 0, 1) := by decide +kernel
theorem d7 : decode yB 7 = .ok (.iload_n 1, 1) := by decide +kernel
theorem d8 : decode yB 8 = .ok (.baload, 1) := by decide +kernel
theorem d9 : decode yB 9 = .ok (.sipush 255, 3) := by decide +kernel
theorem d12 : decode yB 12 = .ok (.iand, 1) := by decide +kernel
theorem d13 : decode yB 13 = .ok (.i2c, 1) := by decide +kernel
theorem d14 : decode yB 14 = .ok (.ireturn, 1) := by decide +kernel
def site : List Cond := [JO.Str_checkIndex.tab] ++ staticW "java/lang/StringLatin1" 9 JO.Str_checkIndex.yN
def tab : Cond := tabOf yN yB 2 (some .char) site
def P (t : Addr) (V : Cell) (i : Nat) (u : Int32) (fm : Value) (args : Array Value) (s : State) : Prop := args = #[.ref t, .int (Int32.ofNat i)] ∧ XT.Arr .byte t V s ∧ V.slots[i]? = some (.int u) ∧ (StaticIs s "jdk/internal/util/Preconditions" "SIOOBE_FORMATTER" "Ljava/util/function/BiFunction;" fm ∧ fm.isRef = true)
def E (u : Int32) (r : Option Value) (s w : State) : Prop := XT.PureE (some (.int (chr8 u))) r s w
theorem law (l : Launch) (t : Addr) (V : Cell) (i : Nat) (u : Int32) (fm : Value) : Law l yN 2 2 2 27 yB 2 (some .char) site (P t V i u fm) (E u) [] 0 0 := by
  refine Law.of_walk (plainFor_of_name (by decide +kernel)) (by decide +kernel) (by decide +kernel) (by decide) (fun _ _ h => by rw [h.1]; rfl) (fun _ U U' hal hh h => ⟨h.1, h.2.1.mv hal hh, h.2.2.1, h.2.2.2.1.there hal hh, h.2.2.2.2⟩) (fun r U U' V V' h1 hal h2 h => XT.PureE.mv r U U' V V' h1 hal h2 h) ?_
  intro p e s m args below meth c s₁ X0 hexec hbytes hml hret hlk hnm hown hh0 W hP
  obtain ⟨rfl, hV, hu, s1, rf⟩ := hP
  have v31 := hV.2.2.2
  have hi : i < V.slots.size := (Array.getElem?_eq_some_iff.mp hu).1
  have c1 : Steps p.tables e below (s₁.setTop (entryFrame m #[.ref t, .int (Int32.ofNat i)] 2)) (s₁.setTop (mkF m 0 #[.val (.ref t), .val (.int (Int32.ofNat i))] [])) := entry rfl
  have c2 : Steps p.tables e below (s₁.setTop (entryFrame m #[.ref t, .int (Int32.ofNat i)] 2)) (s₁.setTop (mkF m 3 #[.val (.ref t), .val (.int (Int32.ofNat i))] [.int (Int32.ofNat V.slots.size), .int (Int32.ofNat i)])) := c1.trans (by
    refine XS.iloadN X0.here hexec rfl (hb hbytes d0) rfl ?_
    refine XS.aloadN X0.here hexec rfl (hb hbytes d1) rfl rfl ?_
    refine X0.alen hexec (hV.mv X0.warmed.alike hh0) rfl rfl (hb hbytes d2) ?_
    exact Steps.refl _)
  obtain ⟨v3, T3, X3, E3, g3⟩ := X0.callS hexec (JO.Str_checkIndex.law l (Int32.ofNat i) (Int32.ofNat V.slots.size) fm) hown (wks W (staticW "java/lang/StringLatin1" 9 JO.Str_checkIndex.yN)) (wk W JO.Str_checkIndex.tab) (W := 0) (Nat.le_of_ble_eq_true rfl) (Nat.le_of_ble_eq_true rfl) (Nat.le_refl _) (Nat.le_refl _) (g := (mkF m 3 #[.val (.ref t), .val (.int (Int32.ofNat i))] [.int (Int32.ofNat V.slots.size), .int (Int32.ofNat i)])) rfl (by rw [hml]; rfl) c2 (argsL := [.int (Int32.ofNat i), .int (Int32.ofNat V.slots.size)]) (rest := []) rfl rfl (by show 2 * 0 + 0 ≤ _; decide) (hb hbytes d3) (⟨rfl, rf, s1.there X0.warmed.alike hh0, Int32.ofNat_not_neg (by omega), lt32 v31 hi⟩)
  obtain ⟨rfl, q3⟩ := E3
  have hh3 := q3.trans hh0
  have c4 : Steps p.tables e below (s₁.setTop (entryFrame m #[.ref t, .int (Int32.ofNat i)] 2)) (T3.setTop (mkF m 14 #[.val (.ref t), .val (.int (Int32.ofNat i))] [.int (chr8 u)])) := Steps.trans g3 (by
    refine XS.aloadN X3.here hexec rfl (hb hbytes d6) rfl rfl ?_
    refine XS.iloadN X3.here hexec rfl (hb hbytes d7) rfl ?_
    refine X3.aget hexec (hV.mv X3.warmed.alike hh3) rfl hu rfl rfl (hb hbytes d8) ?_
    refine sipushV X3.here hexec rfl 255 (hb hbytes d9) (by decide) ?_
    refine XS.iand X3.here hexec rfl (hb hbytes d12) rfl ?_
    refine i2c X3.here hexec rfl (hb hbytes d13) rfl ?_
    exact Steps.refl _)
  exact ⟨T3, some (.int (chr8 u)), _, _, _, X3, rfl, rfl, rfl, (fun h => by cases h), ⟨rfl, hh3⟩, fun fs hl => c4.trans (X3.ireturnOut hexec hret (narrow_c _) (Or.inr (Or.inr (Or.inr (Or.inl rfl)))) (hb hbytes d14) hl)⟩
end LChA
end StrChars
namespace StrChars.Road
open Jvm Sem ClassFile Op Lib Jvm.Stand Jvm.Free Jvm.Free.XT
open Jvm.Lib.Cold (StaticIs)
theorem consq {a : Array Value} {s : State} {c : Jvm.Cond} {L : List Jvm.Cond} (h0 : c.before a s = true) (h : ∀ w ∈ L, w.before a s = true) : ∀ w ∈ c :: L, w.before a s = true := fun w hw => (List.mem_cons.mp hw).elim (fun e => e ▸ h0) (h w)
/-- the words of String.length(), either coding -/
abbrev wordsLen : List Jvm.Cond := [.code Len.yN Len.yB 1 (some .int), .initialized ST, .fieldLink ST 9 ST "value" "[B", .fieldLink ST 38 ST "COMPACT_STRINGS" "Z", .fieldLink ST 15 ST "coder" "B", .code Cdr.yN Cdr.yB 1 (some .byte), .methodLink ST 335 Cdr.yN, .declares Cdr.yN, .selects ST Cdr.yN Cdr.yN, .instanceMethod Cdr.yN]
theorem tabLen_of {a : Array Value} {s : State} (h : ∀ w ∈ wordsLen, w.before a s = true) : Len.tab.before a s = true := by
  have hc : Cdr.tab.before a s = true := unparts (wk h (.code Cdr.yN Cdr.yB 1 (some .byte))) (wks h (.initialized Cdr.yN.cls :: Cdr.site))
  have q := consq hc h
  exact unparts (wk q (.code Len.yN Len.yB 1 (some .int))) (wks q (.initialized Len.yN.cls :: Len.site))
theorem movedLen {Z s : State} {a0 args : Array Value} (hZ : Z.Warmed39 s.vm) (hw : ∀ d ∈ wordsLen, d.before a0 Z = true) : ∀ d ∈ wordsLen, d.before args s = true := fun d hd => by
  have q := hw d hd
  have t : ∀ d ∈ wordsLen, d = .arrayClass .byte ∨ (d.onTables && d.keepsFace) = true := by decide +kernel
  rcases t d hd with rfl | t
  · exact RoadKit.mvA hZ q
  · exact RoadKit.mv hZ q t
/-- the bytes of the chars cs, low before high -/
def wideBytes : List Int32 → List Value
  | [] => []
  | c :: cs => .int (lo8 c) :: .int (hi8 c) :: wideBytes cs
theorem wide_lo (d : Value) : ∀ (cs : List Int32) (j : Nat), j < cs.length → (wideBytes cs).getD (2 * j) d = .int (lo8 (cs.getD j 0))
  | [], j, h => absurd h (Nat.not_lt_zero j)
  | c :: cs, 0, _ => rfl
  | c :: cs, j + 1, h => by
    have q := wide_lo d cs j (by simpa using h)
    rw [show 2 * (j + 1) = 2 * j + 1 + 1 from by omega]
    simpa [wideBytes] using q
theorem wide_hi (d : Value) : ∀ (cs : List Int32) (j : Nat), j < cs.length → (wideBytes cs).getD (2 * j + 1) d = .int (hi8 (cs.getD j 0))
  | [], j, h => absurd h (Nat.not_lt_zero j)
  | c :: cs, 0, _ => rfl
  | c :: cs, j + 1, h => by
    have q := wide_hi d cs j (by simpa using h)
    rw [show 2 * (j + 1) + 1 = 2 * j + 1 + 1 + 1 from by omega]
    simpa [wideBytes] using q
theorem low_at (d : Value) (cs : List Int32) (j : Nat) (h : j < cs.length) : (cs.map fun c => Value.int (lo8 c)).getD j d = .int (lo8 (cs.getD j 0)) := by
  simp [List.getD_eq_getElem?_getD, h]
/-- an array of N2 bytes vs codes the chars cs by the coder cd -/
def CodA (cs : List Int32) (cd N2 : Int32) (vs : List Value) : Prop := (cd = 0 ∧ N2 = Int32.ofNat cs.length ∧ vs = (cs.map fun c => Value.int (lo8 c)) ∧ ∀ c ∈ cs, ¬ 255 < c) ∨ (cd = 1 ∧ N2 = Int32.ofNat (2 * cs.length) ∧ vs = wideBytes cs ∧ ∃ c ∈ cs, 255 < c)
theorem CodA.cod {cs : List Int32} {cd N2 : Int32} {vs : List Value} {V : Cell} (h : CodA cs cd N2 vs) (hn : 2 * cs.length < 2 ^ 31) (hs : V.slots.size = N2.toNatClampNeg) (hv : RoadKit.Has V vs (.int 0)) : Cod cd cs.length (fun j => cs.getD j 0) V := by
  rcases h with ⟨rfl, rfl, rfl, h⟩ | ⟨rfl, rfl, rfl, c, hc, hw⟩
  · rw [n32 (by omega)] at hs
    exact Or.inl ⟨rfl, hs, fun j hj => ⟨by rw [hv j (by omega), low_at _ _ _ hj], by
      have e : cs.getD j 0 = cs[j] := by simp [List.getD_eq_getElem?_getD, hj]
      show ¬ 255 < cs.getD j 0
      rw [e]; exact h _ (List.getElem_mem _)⟩⟩
  · rw [n32 (by omega)] at hs
    obtain ⟨j, hj, rfl⟩ := List.getElem_of_mem hc
    exact Or.inr ⟨rfl, hs, fun j hj => ⟨by rw [hv _ (by omega), wide_lo _ _ _ hj], by rw [hv _ (by omega), wide_hi _ _ _ hj]⟩, j, hj, by
      have e : cs.getD j 0 = cs[j] := by simp [List.getD_eq_getElem?_getD, hj]
      show 255 < cs.getD j 0
      rw [e]; exact hw⟩
/-- an object of exactly java/lang/String, its two fields found: as the laws ask it -/
theorem strObj {Z U : State} {a0 : Array Value} {kI : Nat} (wi : (Jvm.Cond.instantiable ST kI).before a0 Z = true) (al : Z.vm.Alike U.vm) {x : Addr} {v0 c0 : Value} (E : RoadKit.Exa Z U.heap x ST) (V : RoadKit.Fld Z U.heap x ST "value" "[B" v0) (C : RoadKit.Fld Z U.heap x ST "coder" "B" c0) :
    ∃ (D : Cell) (fV fC : Field), Blank ST x D U ∧ Found ST "value" "[B" fV U ∧ Found ST "coder" "B" fC U ∧ D.slots[fV.slot]? = some v0 ∧ D.slots[fC.slot]? = some c0 ∧ RoadKit.slotOf Z ST "value" "[B" = fV.slot ∧ RoadKit.slotOf Z ST "coder" "B" = fC.slot := by
  obtain ⟨D, cfV, kV, iV, fV, hD, gV, stV, knV, obV, asV, slV⟩ := V
  obtain ⟨D', cfC, kC, iC, fC, hD', gC, stC, -, -, asC, slC⟩ := C
  cases hD.symm.trans hD'
  obtain ⟨D2, kD, e1, e2, e3, e4, e5⟩ := E
  cases hD.symm.trans e1
  obtain ⟨c2, k2, i1, i2, i3, -⟩ := Cond.instantiable_spec wi
  cases e2.symm.trans i1
  cases e3.symm.trans i2
  obtain ⟨kU, u1, u2⟩ := al.2.2 _ _ e3
  exact ⟨D, fV, fC, ⟨hD, ⟨knV, fun q hq => by rw [hq] at obV; cases obV⟩, by rw [al.findClass]; exact e2, kU, u1, by rw [u2]; exact i3, by rw [u2]; exact e5 i3⟩, ⟨SBG.found_only al ⟨cfV, kV, iV, gV⟩, stV⟩, ⟨SBG.found_only al ⟨cfC, kC, iC, gC⟩, stC⟩, slV, slC, by simp [RoadKit.slotOf, gV], by simp [RoadKit.slotOf, gC]⟩
theorem sta_is {Z U : State} (al : Z.vm.Alike U.vm) {C n d : String} {v : Value} (S : RoadKit.Sta Z U.heap C n d v) : StaticIs U C n d v := by
  obtain ⟨cfS, iS, kS, fS, st, cS, t1, t2, t3, t4, t5, t6, t7⟩ := S
  exact StaticIs.there (s := { Z with heap := U.heap }) ⟨cfS, iS, kS, fS, st, cS, t1, t2, t3, t4, t5, (fun q => by rw [q] at t6; cases t6), t7⟩ al rfl
/-- **length() OF SUCH A STRING** -/
theorem lenW {p : Program} {l : Launch} {e : Env} {R : Room} {s : State} {args : Array Value} {below : List Frame} {len W : Nat} {Z : State} {a0 : Array Value} {h : Heap} (hZ : Z.Warmed39 s.vm) (hw : ∀ d ∈ wordsLen, d.before a0 Z = true) {kI : Nat} (wi : (Jvm.Cond.instantiable ST kI).before a0 Z = true)
    {x t : Addr} {kb : ClassId} {cs : List Int32} {cd N2 z : Int32} {vs : List Value} (E : RoadKit.Exa Z h x ST) (V : RoadKit.Fld Z h x ST "value" "[B" (.ref t)) (C : RoadKit.Fld Z h x ST "coder" "B" (.int cd)) (K : RoadKit.Arv Z h t kb .byte N2 vs (.int 0)) (hc : CodA cs cd N2 vs) (hb : ∀ c ∈ cs, ¬ c < 0 ∧ ¬ (65535 : Int32) < c)
    (S : RoadKit.Sta Z h ST "COMPACT_STRINGS" "Z" (.int z)) (hz : ¬ z = 0) (l2 : cs.length ≤ 4000) (hfr : 2 ≤ R.frames) (hlo : W + 25 ≤ R.locals) :
    Back l R p e below s args (⟨"java/lang/String", "length", "()I"⟩ : MethodName) len W (fun P a => a = #[.ref x] ∧ P.U.heap = h ∧ P.cells + 0 ≤ R.cells ∧ P.slots + 0 ≤ R.slots)
      (fun P _ v B => ∃ L, (v = some (.int (Int32.ofNat cs.length)) ∧ L = [] ∧ B.U.heap = h) ∧ B.locs = P.locs ++ L ∧ B.cells = P.cells + 0 ∧ B.slots = P.slots + 0) := by
  obtain ⟨A, K1, K2, K3, K4, K5, K6⟩ := K
  have hcod := hc.cod (by omega) K3 K5
  intro m meth c P g ig mk a X hg hsize hdg hW hn hp'
  obtain ⟨rfl, rfl, r1, r2⟩ := hp'
  have al : Z.vm.Alike P.U.vm := hZ.alike.trans X.warmed.alike
  obtain ⟨D, fV, fC, hB, F1, F2, g1, g2, -, -⟩ := strObj wi al E V C
  have hx : Txt x t A cd cs.length (fun j => cs.getD j 0) P.U := ⟨⟨_, hB.2.2.1, D, hB.1, rfl, by cases q : D.vm <;> first | rfl | exact absurd q (hB.2.1.2 _)⟩, Has.of hB F1 g1, Has.of hB F2 g2, ⟨K1.1, State.isArrayOf_alike al K1.2.1, K1.2.2, by rcases hcod with ⟨-, q, -⟩ | ⟨-, q, -⟩ <;> omega⟩, hcod, fun j hj => by
    have e : cs.getD j 0 = cs[j] := by simp [List.getD_eq_getElem?_getD, hj]
    show ¬ cs.getD j 0 < 0 ∧ ¬ 65535 < cs.getD j 0
    rw [e]; exact hb _ (List.getElem_mem _)⟩
  obtain ⟨v, B, X', ⟨⟨hv, hh⟩, hl, hk, hs⟩, st⟩ := Len.pays x t A cd cs.length (fun j => cs.getD j 0) z (tabLen_of (movedLen hZ hw)) hfr hlo m meth c P g ig mk _ X hg hsize hdg hW hn ⟨r1, r2, rfl, hx, sta_is al S, hz⟩
  exact ⟨v, B, X', ⟨[], ⟨hv, rfl, hh⟩, hl, hk, hs⟩, st⟩
end StrChars.Road
namespace StrChars.Road
open Jvm Sem ClassFile Op Lib Jvm.Stand Jvm.Free Jvm.Free.XT
open Jvm.Lib.Cold (StaticIs)
/-- the road's facts of a String, as the laws ask it -/
theorem txt_of {Z U : State} {a0 : Array Value} {kI : Nat} (wi : (Jvm.Cond.instantiable ST kI).before a0 Z = true) (al : Z.vm.Alike U.vm) {x t : Addr} {kb : ClassId} {cs : List Int32} {cd N2 : Int32} {vs : List Value} (E : RoadKit.Exa Z U.heap x ST) (V : RoadKit.Fld Z U.heap x ST "value" "[B" (.ref t)) (C : RoadKit.Fld Z U.heap x ST "coder" "B" (.int cd)) (K : RoadKit.Arv Z U.heap t kb .byte N2 vs (.int 0)) (hc : CodA cs cd N2 vs) (hb : ∀ c ∈ cs, ¬ c < 0 ∧ ¬ (65535 : Int32) < c) (l2 : cs.length ≤ 4000) :
    ∃ A, Txt x t A cd cs.length (fun j => cs.getD j 0) U := by
  obtain ⟨A, K1, K2, K3, K4, K5, K6⟩ := K
  have hcod := hc.cod (by omega) K3 K5
  obtain ⟨D, fV, fC, hB, F1, F2, g1, g2, -, -⟩ := strObj wi al E V C
  exact ⟨A, ⟨_, hB.2.2.1, D, hB.1, rfl, by cases q : D.vm <;> first | rfl | exact absurd q (hB.2.1.2 _)⟩, Has.of hB F1 g1, Has.of hB F2 g2, ⟨K1.1, State.isArrayOf_alike al K1.2.1, K1.2.2, by rcases hcod with ⟨-, q, -⟩ | ⟨-, q, -⟩ <;> omega⟩, hcod, fun j hj => by
    have e : cs.getD j 0 = cs[j] := by simp [List.getD_eq_getElem?_getD, hj]
    show ¬ cs.getD j 0 < 0 ∧ ¬ 65535 < cs.getD j 0
    rw [e]; exact hb _ (List.getElem_mem _)⟩
end StrChars.Road
namespace StrChars
open Jvm Sem ClassFile Op Lib Jvm.Stand Jvm.Free.XT Jvm.Free.ALB Jvm.Free.JM Jvm.Free
open Jvm.Lib.Cold (StaticIs)
namespace ChN
def yN : MethodName := ⟨"java/lang/String", "charAt", "(I)C"⟩
abbrev yB : ByteArray := jdk_42_method_56_code
theorem d0 : decode yB 0 = .ok (.aload_n 0, 1) := by decide +kernel
theorem d1 : decode yB 1 = .ok (.invokevirtual 492, 3) := by decide +kernel
theorem d4 : decode yB 4 = .ok (.ifCond (.eq) 12, 3) := by decide +kernel
theorem d7 : decode yB 7 = .ok (.aload_n 0, 1) := by decide +kernel
theorem d8 : decode yB 8 = .ok (.getfield 9, 3) := by decide +kernel
theorem d11 : decode yB 11 = .ok (.iload_n 1, 1) := by decide +kernel
theorem d12 : decode yB 12 = .ok (.invokestatic 495, 3) := by decide +kernel
theorem d15 : decode yB 15 = .ok (.ireturn, 1) := by decide +kernel
def site : List Cond := [.fieldLink "java/lang/String" 9 "java/lang/String" "value" "[B", IsL.tab, LChA.tab] ++ virtW "java/lang/String" 492 "java/lang/String" IsL.yN IsL.yN ++ staticW "java/lang/String" 495 LChA.yN
def tab : Cond := tabOf yN yB 2 (some .char) site
def P (x t : Addr) (V : Cell) (n : Nat) (f : Nat → Int32) (z : Int32) (fm : Value) (i : Nat) (args : Array Value) (s : State) : Prop := args = #[.ref x, .int (Int32.ofNat i)] ∧ Txt x t V 0 n f s ∧ i < n ∧ StaticIs s "java/lang/String" "COMPACT_STRINGS" "Z" (.int z) ∧ ¬ z = 0 ∧ StaticIs s "jdk/internal/util/Preconditions" "SIOOBE_FORMATTER" "Ljava/util/function/BiFunction;" fm ∧ fm.isRef = true
def E (f : Nat → Int32) (i : Nat) (r : Option Value) (s u : State) : Prop := XT.PureE (some (.int (f i))) r s u
/-- charAt(i) of a Latin-1 String of n chars, i < n: f i -/
theorem law (l : Launch) (x t : Addr) (V : Cell) (n : Nat) (f : Nat → Int32) (z : Int32) (fm : Value) (i : Nat) : Law l yN 2 1 3 40 yB 2 (some .char) site (P x t V n f z fm i) (E f i) [] 0 0 := by
  refine Law.of_walk (plainFor_of_name (by decide +kernel)) (by decide +kernel) (by decide +kernel) (by decide) (fun _ _ h => by rw [h.1]; rfl) (fun _ U U' hal hh h => ⟨h.1, h.2.1.mv hal hh, h.2.2.1, h.2.2.2.1.there hal hh, h.2.2.2.2.1, h.2.2.2.2.2.1.there hal hh, h.2.2.2.2.2.2⟩) (fun r U U' V V' h1 hal h2 h => XT.PureE.mv r U U' V V' h1 hal h2 h) ?_
  intro p e s m args below meth c s₁ X0 hexec hbytes hml hret hlk hnm hown hh0 W hP
  obtain ⟨rfl, hx, hi, s1, hz, s3, rf⟩ := hP
  have v31 := hx.2.2.2.1.2.2.2
  have hr := hx.2.2.2.2.2 i hi
  have hx0 := hx.mv X0.warmed.alike hh0
  have c1 : Steps p.tables e below (s₁.setTop (entryFrame m #[.ref x, .int (Int32.ofNat i)] 2)) (s₁.setTop (mkF m 1 #[.val (.ref x), .val (.int (Int32.ofNat i))] [.ref x])) := Steps.trans (entry rfl) (by
    show Steps p.tables e below (s₁.setTop (mkF m 0 #[.val (.ref x), .val (.int (Int32.ofNat i))] [])) _
    refine XS.aloadN X0.here hexec rfl (hb hbytes d0) rfl rfl ?_
    exact Steps.refl _)
  obtain ⟨v2, T2, X2, E2, g2⟩ := X0.callV hexec (IsL.law l x 0 z) hown (wks W (virtW "java/lang/String" 492 "java/lang/String" IsL.yN IsL.yN)) rfl (by decide) (wk W IsL.tab) (W := 0) (Nat.le_of_ble_eq_true rfl) (Nat.le_of_ble_eq_true rfl) (Nat.le_refl _) (Nat.le_refl _) (hx0.1.fc X0.warmed.alike) hx0.1.is (g := (mkF m 1 #[.val (.ref x), .val (.int (Int32.ofNat i))] [.ref x])) rfl (by rw [hml]; rfl) c1 (argsL := []) (rest := []) rfl rfl (by show 2 * 0 + 0 ≤ _; decide) (hb hbytes d1) (⟨rfl, hx0.2.2.1, hx.2.2.2.2.1.cd, s1.there X0.warmed.alike hh0, hz⟩)
  obtain ⟨rfl, q2⟩ := E2
  have hh2 := q2.trans hh0
  have hx2 := hx.mv X2.warmed.alike hh2
  obtain ⟨-, k1, k2⟩ | ⟨k0, -⟩ := hx.2.2.2.2.1
  · have c3 : Steps p.tables e below (s₁.setTop (entryFrame m #[.ref x, .int (Int32.ofNat i)] 2)) (T2.setTop (mkF m 8 #[.val (.ref x), .val (.int (Int32.ofNat i))] [.ref x])) := Steps.trans g2 (by
      refine XS.ifNo X2.here hexec rfl (hb hbytes d4) rfl (i0_eq_f (by decide)) ?_
      refine XS.aloadN X2.here hexec rfl (hb hbytes d7) rfl rfl ?_
      exact Steps.refl _)
    obtain ⟨T4, X4, q4, st4⟩ := X2.hget hexec hown (wk W (.fieldLink "java/lang/String" 9 "java/lang/String" "value" "[B")) hx2.2.1 (g := (mkF m 8 #[.val (.ref x), .val (.int (Int32.ofNat i))] [.ref x])) rfl (rest := []) rfl (hb hbytes d8)
    have hh4 := q4.trans hh2
    have c5 : Steps p.tables e below (s₁.setTop (entryFrame m #[.ref x, .int (Int32.ofNat i)] 2)) (T4.setTop (mkF m 12 #[.val (.ref x), .val (.int (Int32.ofNat i))] [.int (Int32.ofNat i), .ref t])) := (c3.trans (st4 _ (Steps.refl _))).trans (by
      refine XS.iloadN X4.here hexec rfl (hb hbytes d11) rfl ?_
      exact Steps.refl _)
    obtain ⟨v6, T6, X6, E6, g6⟩ := X4.callS hexec (LChA.law l t V i (lo8 (f i)) fm) hown (wks W (staticW "java/lang/String" 495 LChA.yN)) (wk W LChA.tab) (W := 0) (Nat.le_of_ble_eq_true rfl) (Nat.le_of_ble_eq_true rfl) (Nat.le_refl _) (Nat.le_refl _) (g := (mkF m 12 #[.val (.ref x), .val (.int (Int32.ofNat i))] [.int (Int32.ofNat i), .ref t])) rfl (by rw [hml]; rfl) c5 (argsL := [.ref t, .int (Int32.ofNat i)]) (rest := []) rfl rfl (by show 2 * 0 + 0 ≤ _; decide) (hb hbytes d12) (⟨rfl, hx.2.2.2.1.mv X4.warmed.alike hh4, (k2 i hi).1, s3.there X4.warmed.alike hh4, rf⟩)
    obtain ⟨rfl, q6⟩ := E6
    rw [chr8_lo8 hr.1 (k2 i hi).2] at g6
    exact ⟨T6, some (.int (f i)), _, _, _, X6, rfl, rfl, rfl, (fun h => by cases h), ⟨rfl, q6.trans hh4⟩, fun fs hl => Steps.trans g6 (X6.ireturnOut hexec hret (narrow_ch hr.1 hr.2) (Or.inr (Or.inr (Or.inr (Or.inl rfl)))) (hb hbytes d15) hl)⟩
  · exact absurd k0 (by decide)
theorem pays {l : Launch} {R : Room} {p : Program} {e : Env} {below : List Frame} {s : State} {sargs : Array Value} {len W : Nat} (x t : Addr) (V : Cell) (n : Nat) (f : Nat → Int32) (z : Int32) (fm : Value) (i : Nat) (htab : tab.before sargs s = true) (hfr : 4 ≤ R.frames) (hlo : W + 53 ≤ R.locals) :
    Back l R p e below s sargs yN len W (fun A₁ a₁ => A₁.cells + 0 ≤ R.cells ∧ A₁.slots + 0 ≤ R.slots ∧ P x t V n f z fm i a₁ A₁.U) (fun A₁ _ v₁ B₁ => E f i v₁ A₁.U B₁.U ∧ B₁.locs = A₁.locs ++ [] ∧ B₁.cells = A₁.cells + 0 ∧ B₁.slots = A₁.slots + 0) :=
  (law l x t V n f z fm i).pays htab hfr (by omega)
end ChN
end StrChars
namespace StrChars.Road
open Jvm Sem ClassFile Op Lib Jvm.Stand Jvm.Free Jvm.Free.XT
open Jvm.Lib.Cold (StaticIs)
/-- the words of String.charAt(int), the Latin-1 road alone -/
abbrev wordsChN : List Jvm.Cond := [.code ChN.yN ChN.yB 2 (some .char), .initialized ST, .fieldLink ST 9 ST "value" "[B", .fieldLink ST 38 ST "COMPACT_STRINGS" "Z", .fieldLink ST 15 ST "coder" "B", .code IsL.yN IsL.yB 1 (some .boolean), .methodLink ST 492 IsL.yN, .declares IsL.yN, .selects ST IsL.yN IsL.yN, .instanceMethod IsL.yN,
  .methodLink ST 495 LChA.yN, .static LChA.yN, .code LChA.yN LChA.yB 2 (some .char), .initialized "java/lang/StringLatin1", .methodLink "java/lang/StringLatin1" 9 JO.Str_checkIndex.yN, .static JO.Str_checkIndex.yN, .code JO.Str_checkIndex.yN JO.Str_checkIndex.yB 2 none,
  .fieldLink ST 1053 "jdk/internal/util/Preconditions" "SIOOBE_FORMATTER" "Ljava/util/function/BiFunction;", .methodLink ST 1059 JC.PreCheck.yN, .static JC.PreCheck.yN, .code JC.PreCheck.yN JC.PreCheck.yB 3 (some .int), .initialized "jdk/internal/util/Preconditions"]
theorem tabChN_of {a : Array Value} {s : State} (h : ∀ w ∈ wordsChN, w.before a s = true) : ChN.tab.before a s = true := by
  have hp : JC.PreCheck.tab.before a s = true := unparts (wk h (.code JC.PreCheck.yN JC.PreCheck.yB 3 (some .int))) (wks h (.initialized JC.PreCheck.yN.cls :: JC.PreCheck.site))
  have qk := consq hp h
  have hk : JO.Str_checkIndex.tab.before a s = true := unparts (wk qk (.code JO.Str_checkIndex.yN JO.Str_checkIndex.yB 2 none)) (wks qk (.initialized JO.Str_checkIndex.yN.cls :: JO.Str_checkIndex.site))
  have ql := consq hk h
  have hl : LChA.tab.before a s = true := unparts (wk ql (.code LChA.yN LChA.yB 2 (some .char))) (wks ql (.initialized LChA.yN.cls :: LChA.site))
  have hi : IsL.tab.before a s = true := unparts (wk h (.code IsL.yN IsL.yB 1 (some .boolean))) (wks h (.initialized IsL.yN.cls :: IsL.site))
  have q := consq hi (consq hl h)
  exact unparts (wk q (.code ChN.yN ChN.yB 2 (some .char))) (wks q (.initialized ChN.yN.cls :: ChN.site))
theorem movedChN {Z s : State} {a0 args : Array Value} (hZ : Z.Warmed39 s.vm) (hw : ∀ d ∈ wordsChN, d.before a0 Z = true) : ∀ d ∈ wordsChN, d.before args s = true := fun d hd => by
  have t : ∀ d ∈ wordsChN, (d.onTables && d.keepsFace) = true := by decide +kernel
  exact RoadKit.mv hZ (hw d hd) (t d hd)
/-- **charAt(i) OF A LATIN-1 STRING**, i < n: the char -/
theorem chN {p : Program} {l : Launch} {e : Env} {R : Room} {s : State} {args : Array Value} {below : List Frame} {len W : Nat} {Z : State} {a0 : Array Value} {h : Heap} (hZ : Z.Warmed39 s.vm) (hw : ∀ d ∈ wordsChN, d.before a0 Z = true) {kI : Nat} (wi : (Jvm.Cond.instantiable ST kI).before a0 Z = true)
    {x t : Addr} {kb : ClassId} {cs : List Int32} {N2 z : Int32} {vs : List Value} {fm : Value} {i : Nat} {j : Int32} (E : RoadKit.Exa Z h x ST) (V : RoadKit.Fld Z h x ST "value" "[B" (.ref t)) (C : RoadKit.Fld Z h x ST "coder" "B" (.int 0)) (K : RoadKit.Arv Z h t kb .byte N2 vs (.int 0)) (hc : CodA cs 0 N2 vs) (hb : ∀ c ∈ cs, ¬ c < 0 ∧ ¬ (65535 : Int32) < c)
    (S : RoadKit.Sta Z h ST "COMPACT_STRINGS" "Z" (.int z)) (hz : ¬ z = 0) (F : RoadKit.Sta Z h "jdk/internal/util/Preconditions" "SIOOBE_FORMATTER" "Ljava/util/function/BiFunction;" fm) (rf : fm.isRef = true) (l2 : cs.length ≤ 4000) (hi : i < cs.length) (hj : j = Int32.ofNat i) (hfr : 4 ≤ R.frames) (hlo : W + 53 ≤ R.locals) :
    Back l R p e below s args (⟨"java/lang/String", "charAt", "(I)C"⟩ : MethodName) len W (fun P a => a = #[.ref x, .int j] ∧ P.U.heap = h ∧ P.cells + 0 ≤ R.cells ∧ P.slots + 0 ≤ R.slots)
      (fun P _ v B => ∃ L, (v = some (.int (cs.getD i 0)) ∧ L = [] ∧ B.U.heap = h) ∧ B.locs = P.locs ++ L ∧ B.cells = P.cells + 0 ∧ B.slots = P.slots + 0) := by
  subst hj
  intro m meth c P g ig mk a X hg hsize hdg hW hn hp'
  obtain ⟨rfl, rfl, r1, r2⟩ := hp'
  have al : Z.vm.Alike P.U.vm := hZ.alike.trans X.warmed.alike
  obtain ⟨A, hx⟩ := txt_of wi al E V C K hc hb l2
  obtain ⟨v, B, X', ⟨⟨hv, hh⟩, hl, hk, hs⟩, st⟩ := ChN.pays x t A cs.length (fun j => cs.getD j 0) z fm i (tabChN_of (movedChN hZ hw)) hfr hlo m meth c P g ig mk _ X hg hsize hdg hW hn ⟨r1, r2, rfl, hx, hi, sta_is al S, hz, sta_is al F, rf⟩
  exact ⟨v, B, X', ⟨[], ⟨hv, rfl, hh⟩, hl, hk, hs⟩, st⟩
/-- what backV says of its String, as the contracts of this text ask it: cs's low bytes, coder 0 -/
theorem codOf {cs : List Int32} {n : Nat} (hn : cs.length = n) (hb : ∀ c ∈ cs, ¬ 255 < c) : CodA cs 0 (Int32.ofNat n) ((cs.map lo8).map Value.int) := Or.inl ⟨rfl, by rw [hn], by simp [List.map_map, Function.comp_def], hb⟩
end StrChars.Road
end Jvm.Pilot.@@N@@
namespace Jvm.Pilot.@@N@@.Y
open Jvm Jvm.ClassFile Sem Op Lib Jvm.Free Jvm.Stand Jvm.LawKit Jvm.RoadKit Bundle
/-- from st the run comes to an end that G tells -/
def Ends (p : Program) (e : Env) (below : List Frame) (G : Outcome → State → Prop) (st : State) : Prop := ∃ s₂ o, Steps p.tables e below st s₂ ∧ s₂.status = .running ∧ Ended s₂ below o ∧ G o s₂
theorem Ends.go {p : Program} {e : Env} {below : List Frame} {G : Outcome → State → Prop} {A B : State} (k : ∀ t, Steps p.tables e below B t → Steps p.tables e below A t) (h : Ends p e below G B) : Ends p e below G A := by
  obtain ⟨s₂, o, h1, h2⟩ := h
  exact ⟨s₂, o, k _ h1, h2⟩
theorem leB {a b : Nat} (h : Nat.ble a b = true) : a ≤ b := Nat.le_of_ble_eq_true h
theorem catR {v : Value} (h : v.isRef = true) : v.category = 1 := by rcases ref_cases h with rfl | ⟨z, rfl⟩ <;> rfl
theorem narR {v : Value} {C : String} (h : v.isRef = true) : narrow (.object C) v = v := by rcases ref_cases h with rfl | ⟨z, rfl⟩ <;> rfl
theorem fitR {v : Value} {C : String} (h : v.isRef = true) : fits (.object C) v = true := by rcases ref_cases h with rfl | ⟨z, rfl⟩ <;> rfl
theorem b01 {q : Int32} (h : q = 0 ∨ q = 1) : narrow .boolean (.int q) = .int q ∧ fits .boolean (.int q) = true := by rcases h with rfl | rfl <;> exact ⟨rfl, rfl⟩
theorem or01 {q : Int32} {c : Prop} (h : (q = 0 ∧ c) ∨ (q = 1 ∧ ¬ c)) : q = 0 ∨ q = 1 := h.imp (·.1) (·.1)
theorem or10 {q : Int32} {c : Prop} (h : (q = 1 ∧ c) ∨ (q = 0 ∧ ¬ c)) : q = 0 ∨ q = 1 := (h.imp (·.1) (·.1)).symm
/-- where the walk stands: over the start s with the tables vm0; h the heap at hand; ws: the old places it may write -/
def Wk (co : Bool) (Z : State) (a0 : Array Value) (EL : List (String × Nat)) (own : String) (bytes : ByteArray) (maxL : Nat) (ret : Option FieldType) (nm : String) (ws : List Addr) (p : Program) (l : Launch) (e : Env) (R : Room) (s : State) (m : MethodId) (args : Array Value) (below : List Frame) (meth : Method) (c : Code) (vm0 : Vm) (T : State) (h : Heap) (locs : List Loc) (cells slots : Nat) : Prop :=
  Stand p l e R (s.setVm vm0) m args below meth c T locs cells slots ∧ T.heap = h ∧ (∃ k0, s.Since vm0 k0 ∧ k0 ≤ h.size) ∧ (co = false → vm0 = s.vm) ∧ Z.Warmed39 vm0 ∧ vm0.findClass own = some m.cls ∧ CHr Z EL s.vm s.heap vm0 h ∧ EW Z a0 EL ∧
  (p.tables.exec = Jvm.exec ∧ c.code = bytes ∧ c.maxLocals = maxL ∧ meth.sig.returnType = ret ∧ meth.name = nm ∧ meth.locks = false) ∧ Ext Z.heap h ∧ Fr Z.heap.size locs ∧ Keep s.heap h ws
section Walk
variable {co : Bool} {Z : State} {a0 : Array Value} {EL : List (String × Nat)} {own : String} {bytes : ByteArray} {maxL : Nat} {ret : Option FieldType} {nm : String} {ws : List Addr} {p : Program} {l : Launch} {e : Env} {R : Room} {s : State} {m : MethodId} {args : Array Value} {below : List Frame} {meth : Method} {c : Code} {vm0 : Vm} {T : State} {h : Heap} {locs : List Loc} {cells slots : Nat} {G : Outcome → State → Prop} {pc pc' : Nat} {ls ls' : Array Slot} {rest : List Value}
abbrev WkA (co : Bool) (Z : State) (a0 : Array Value) (EL : List (String × Nat)) (own : String) (bytes : ByteArray) (maxL : Nat) (ret : Option FieldType) (nm : String) (ws : List Addr) (p : Program) (l : Launch) (e : Env) (R : Room) (s : State) (m : MethodId) (args : Array Value) (below : List Frame) (meth : Method) (c : Code) (vm0 : Vm) (T : State) (h : Heap) (locs : List Loc) (cells slots : Nat) : Prop := Wk co Z a0 EL own bytes maxL ret nm ws p l e R s m args below meth c vm0 T h locs cells slots
theorem Wk.st (X : Wk co Z a0 EL own bytes maxL ret nm ws p l e R s m args below meth c vm0 T h locs cells slots) : Stand p l e R (s.setVm vm0) m args below meth c T locs cells slots := X.1
theorem Wk.eT (X : Wk co Z a0 EL own bytes maxL ret nm ws p l e R s m args below meth c vm0 T h locs cells slots) : T.heap = h := X.2.1
theorem Wk.hx (X : Wk co Z a0 EL own bytes maxL ret nm ws p l e R s m args below meth c vm0 T h locs cells slots) : p.tables.exec = Jvm.exec := X.2.2.2.2.2.2.2.2.1.1
theorem Wk.hd (X : Wk co Z a0 EL own bytes maxL ret nm ws p l e R s m args below meth c vm0 T h locs cells slots) {r : Except DecodeError (Instr × Nat)} (d : decode bytes pc = r) : decode c.code pc = r := by
  rw [X.2.2.2.2.2.2.2.2.1.2.1]; exact d
theorem Wk.hml (X : Wk co Z a0 EL own bytes maxL ret nm ws p l e R s m args below meth c vm0 T h locs cells slots) : c.maxLocals = maxL := X.2.2.2.2.2.2.2.2.1.2.2.1
theorem Wk.hret (X : Wk co Z a0 EL own bytes maxL ret nm ws p l e R s m args below meth c vm0 T h locs cells slots) : meth.sig.returnType = ret := X.2.2.2.2.2.2.2.2.1.2.2.2.1
theorem Wk.hnm (X : Wk co Z a0 EL own bytes maxL ret nm ws p l e R s m args below meth c vm0 T h locs cells slots) : meth.name = nm := X.2.2.2.2.2.2.2.2.1.2.2.2.2.1
theorem Wk.hlk (X : Wk co Z a0 EL own bytes maxL ret nm ws p l e R s m args below meth c vm0 T h locs cells slots) : meth.locks = false := X.2.2.2.2.2.2.2.2.1.2.2.2.2.2
theorem Wk.hZ (X : Wk co Z a0 EL own bytes maxL ret nm ws p l e R s m args below meth c vm0 T h locs cells slots) : Z.Warmed39 (s.setVm vm0).vm := X.2.2.2.2.1
theorem Wk.al (X : Wk co Z a0 EL own bytes maxL ret nm ws p l e R s m args below meth c vm0 T h locs cells slots) : Z.vm.Alike vm0 := X.2.2.2.2.1.alike
theorem Wk.hown (X : Wk co Z a0 EL own bytes maxL ret nm ws p l e R s m args below meth c vm0 T h locs cells slots) : (s.setVm vm0).vm.findClass own = some m.cls := X.2.2.2.2.2.1
theorem Wk.ch (X : Wk co Z a0 EL own bytes maxL ret nm ws p l e R s m args below meth c vm0 T h locs cells slots) : CHr Z EL s.vm s.heap vm0 h := X.2.2.2.2.2.2.1
theorem Wk.H (X : Wk co Z a0 EL own bytes maxL ret nm ws p l e R s m args below meth c vm0 T h locs cells slots) : CHv Z EL vm0 h := X.ch.1
theorem Wk.ew (X : Wk co Z a0 EL own bytes maxL ret nm ws p l e R s m args below meth c vm0 T h locs cells slots) : EW Z a0 EL := X.2.2.2.2.2.2.2.1
theorem Wk.old (X : Wk co Z a0 EL own bytes maxL ret nm ws p l e R s m args below meth c vm0 T h locs cells slots) : Ext Z.heap h := X.2.2.2.2.2.2.2.2.2.1
theorem Wk.fr (X : Wk co Z a0 EL own bytes maxL ret nm ws p l e R s m args below meth c vm0 T h locs cells slots) : Fr Z.heap.size locs := X.2.2.2.2.2.2.2.2.2.2.1
theorem Wk.kp (X : Wk co Z a0 EL own bytes maxL ret nm ws p l e R s m args below meth c vm0 T h locs cells slots) : Keep s.heap h ws := X.2.2.2.2.2.2.2.2.2.2.2
theorem Wk.since (X : Wk co Z a0 EL own bytes maxL ret nm ws p l e R s m args below meth c vm0 T h locs cells slots) : ∃ k0, s.Since vm0 k0 ∧ k0 ≤ h.size := X.2.2.1
theorem Wk.nr (X : Wk co Z a0 EL own bytes maxL ret nm ws p l e R s m args below meth c vm0 T h locs cells slots) : co = false → vm0 = s.vm := X.2.2.2.1
/-- a step that leaves the heap -/
theorem Wk.same (X : Wk co Z a0 EL own bytes maxL ret nm ws p l e R s m args below meth c vm0 T h locs cells slots) {T' : State} (Y : Stand p l e R (s.setVm vm0) m args below meth c T' locs cells slots) (e' : T'.heap = h) : Wk co Z a0 EL own bytes maxL ret nm ws p l e R s m args below meth c vm0 T' h locs cells slots :=
  ⟨Y, e', X.2.2⟩
theorem fr_app0 {k : Nat} {L : List Loc} (N : Fr k L) : Fr k (L ++ []) := by rw [List.append_nil]; exact N
/-- a step that makes new cells -/
theorem Wk.ext (X : Wk co Z a0 EL own bytes maxL ret nm ws p l e R s m args below meth c vm0 T h locs cells slots) {T' : State} {h' : Heap} {cells' slots' : Nat} (Y : Stand p l e R (s.setVm vm0) m args below meth c T' locs cells' slots') (e' : T'.heap = h') (E : Ext h h') : Wk co Z a0 EL own bytes maxL ret nm ws p l e R s m args below meth c vm0 T' h' locs cells' slots' := by
  obtain ⟨k0, k1, k2⟩ := X.since
  exact ⟨Y, e', ⟨k0, k1, Nat.le_trans k2 E.1⟩, X.nr, X.hZ, X.hown, X.ch.trans (CHr.ext E X.H), X.ew, X.2.2.2.2.2.2.2.2.1, ⟨Nat.le_trans X.old.1 E.1, fun a cl q => E.2 _ _ (X.old.2 _ _ q)⟩, X.fr, X.kp.ext E⟩
/-- a narrow call: L written, of old cells those at wc alone -/
theorem Wk.keep (X : Wk co Z a0 EL own bytes maxL ret nm ws p l e R s m args below meth c vm0 T h locs cells slots) {T' : State} {h' : Heap} {L : List Loc} {wc : List Addr} {cells' slots' : Nat} (Y : Stand p l e R (s.setVm vm0) m args below meth c T' (locs ++ L) cells' slots') (e' : T'.heap = h') (K : Keep h h' wc) (S : ∀ x ∈ wc, Safe Z EL vm0 h x) (N : Fr Z.heap.size L) (hn : ∀ x ∈ wc, Z.heap.size ≤ x) (hk : ∀ x ∈ wc, x ∈ ws ∨ s.heap.size ≤ x) : Wk co Z a0 EL own bytes maxL ret nm ws p l e R s m args below meth c vm0 T' h' (locs ++ L) cells' slots' := by
  obtain ⟨k0, k1, k2⟩ := X.since
  have O : Old Z Z.heap.size h' := Old.keep ⟨rfl, X.old⟩ K hn
  exact ⟨Y, e', ⟨k0, k1, Nat.le_trans k2 K.1⟩, X.nr, X.hZ, X.hown, X.ch.trans (CHr.keep K S X.H), X.ew, X.2.2.2.2.2.2.2.2.1, O.2, X.fr.app N, X.kp.trans K hk⟩
/-- one place of a new object written -/
theorem Wk.wr (X : Wk co Z a0 EL own bytes maxL ret nm ws p l e R s m args below meth c vm0 T h locs cells slots) {T' : State} {h' : Heap} {a : Addr} {sl : Nat} {v : Value} (Y : Stand p l e R (s.setVm vm0) m args below meth c T' (locs ++ [⟨a, sl⟩]) cells slots) (e' : T'.heap = h') (W : Wr h h' a sl v) (S : Safe Z EL vm0 h a) (hn : Z.heap.size ≤ a) (hk : a ∈ ws ∨ s.heap.size ≤ a) : Wk co Z a0 EL own bytes maxL ret nm ws p l e R s m args below meth c vm0 T' h' (locs ++ [⟨a, sl⟩]) cells slots :=
  X.keep Y e' (Keep.of_wr W) (sfS S sf0) (fun y hy => by cases List.mem_singleton.mp hy; exact hn) (allS hn all0) (allS hk all0)
/-- a callee that may intern -/
theorem Wk.cold (X : Wk true Z a0 EL own bytes maxL ret nm ws p l e R s m args below meth c vm0 T h locs cells slots) {T' : State} {L : List Loc} {wc : List Addr} {cells' slots' : Nat} (Y : Stand p l e R ((s.setVm vm0).setVm T'.vm) m args below meth c T' (locs ++ L) cells' slots') (hS : (s.setVm vm0).Since T'.vm T'.heap.size) (hC : CHr Z EL vm0 h T'.vm T'.heap) (K : Keep h T'.heap wc) (N : Fr Z.heap.size L) (O : Ext Z.heap T'.heap) (hk : ∀ x ∈ wc, x ∈ ws ∨ s.heap.size ≤ x) : Wk true Z a0 EL own bytes maxL ret nm ws p l e R s m args below meth c T'.vm T' T'.heap (locs ++ L) cells' slots' := by
  obtain ⟨k0, k1, k2⟩ := X.since
  exact ⟨Y, rfl, ⟨_, k1.trans hS (Nat.le_trans k2 K.1), Nat.le_refl _⟩, fun q => (by cases q), State.Warmed39.trans X.hZ hS.1, (by rw [hS.1.alike.findClass]; exact X.hown), X.ch.trans hC, X.ew, X.2.2.2.2.2.2.2.2.1, O, X.fr.app N, X.kp.trans K hk⟩
theorem safeE {vm : Vm} {x : Addr} : Safe Z [] vm h x := fun B => by obtain ⟨q, hq, -⟩ := B; cases hq
theorem chrE {vm vm' : Vm} {h' : Heap} (q : h.size ≤ h'.size) : CHr Z [] vm h vm' h' := ⟨(fun _ hq => by cases hq), q, fun y B => absurd B safeE⟩
/-- a String whose value is still null is no booked one -/
theorem Safe.blank {vm : Vm} {x : Addr} (hal : Z.vm.Alike vm) (E : Exa Z h x "java/lang/String") {k : Nat} (wi : (Cond.instantiable "java/lang/String" k).before a0 Z = true) (F : Fld Z h x "java/lang/String" "value" "[B" .null) : Safe Z EL vm h x := fun B => by
  obtain ⟨pr, -, u, a, -, q, hq, SB, hy⟩ := B
  have hd := SB.hd
  have ha := SB.ha
  rcases hy with rfl | rfl
  · obtain ⟨cS, ⟨⟨-, -, -, ⟨cv, kv, iv, s4, -⟩, -, -, -, v1, -⟩, -⟩, -⟩ := SB
    obtain ⟨cell, cf, k2, i, f, h1, h2, -, -, -, -, h7⟩ := F
    cases (show h[q.sa]? = some q.sC from ha).symm.trans h1
    obtain ⟨k3, e3, -⟩ := State.fieldFound?_setVm (s := ({ Z with heap := h } : State)) (vm' := vm) hal h2
    have e4 := (show (Wst Z vm h).fieldFound? _ _ _ = _ from e3).symm.trans s4
    simp only [Option.some.injEq, Prod.mk.injEq] at e4
    rw [← e4.2.2.2, h7] at v1
    cases v1
  · obtain ⟨cS, ⟨⟨-, -, -, -, -, -, -, -, -, -, ⟨-, kB, hkB, compB, hkindB⟩, -⟩, -, -⟩, -⟩ := SB
    obtain ⟨cell, kE, e1, e2, e3, -, -⟩ := E
    cases (show h[q.sd]? = some q.SA from hd).symm.trans e1
    obtain ⟨c2, k2, i1, i2, i3, -⟩ := Cond.instantiable_spec wi
    cases e2.symm.trans i1
    obtain ⟨kE', hk', ek⟩ := hal.2.2 _ _ i2
    cases (show vm.classes[q.SA.cls]? = some kB from hkB).symm.trans hk'
    rw [ek, i3] at hkindB
    cases hkindB
theorem Wk.iadd (X : Wk co Z a0 EL own bytes maxL ret nm ws p l e R s m args below meth c vm0 T h locs cells slots) {x y : Int32} (hd : decode bytes pc = .ok (.iadd, 1))  (hp : pc + 1 = pc') (k : Ends p e below G (T.setTop (mkF m pc' ls (.int (x + y) :: rest)))) : Ends p e below G (T.setTop (mkF m pc ls (.int y :: .int x :: rest))) := by
  subst hp; exact Ends.go (fun _ q => XS.iadd X.st.here X.hx rfl (X.hd hd) rfl q) k
theorem Wk.isub (X : Wk co Z a0 EL own bytes maxL ret nm ws p l e R s m args below meth c vm0 T h locs cells slots) {x y : Int32} (hd : decode bytes pc = .ok (.isub, 1))  (hp : pc + 1 = pc') (k : Ends p e below G (T.setTop (mkF m pc' ls (.int (x - y) :: rest)))) : Ends p e below G (T.setTop (mkF m pc ls (.int y :: .int x :: rest))) := by
  subst hp; exact Ends.go (fun _ q => XS.isub X.st.here X.hx rfl (X.hd hd) rfl q) k
theorem Wk.imul (X : Wk co Z a0 EL own bytes maxL ret nm ws p l e R s m args below meth c vm0 T h locs cells slots) {x y : Int32} (hd : decode bytes pc = .ok (.imul, 1))  (hp : pc + 1 = pc') (k : Ends p e below G (T.setTop (mkF m pc' ls (.int (x * y) :: rest)))) : Ends p e below G (T.setTop (mkF m pc ls (.int y :: .int x :: rest))) := by
  subst hp; exact Ends.go (fun _ q => XS.imul X.st.here X.hx rfl (X.hd hd) rfl q) k
theorem Wk.iand (X : Wk co Z a0 EL own bytes maxL ret nm ws p l e R s m args below meth c vm0 T h locs cells slots) {x y : Int32} (hd : decode bytes pc = .ok (.iand, 1))  (hp : pc + 1 = pc') (k : Ends p e below G (T.setTop (mkF m pc' ls (.int (x &&& y) :: rest)))) : Ends p e below G (T.setTop (mkF m pc ls (.int y :: .int x :: rest))) := by
  subst hp; exact Ends.go (fun _ q => XS.iand X.st.here X.hx rfl (X.hd hd) rfl q) k
theorem Wk.ior (X : Wk co Z a0 EL own bytes maxL ret nm ws p l e R s m args below meth c vm0 T h locs cells slots) {x y : Int32} (hd : decode bytes pc = .ok (.ior, 1))  (hp : pc + 1 = pc') (k : Ends p e below G (T.setTop (mkF m pc' ls (.int (x ||| y) :: rest)))) : Ends p e below G (T.setTop (mkF m pc ls (.int y :: .int x :: rest))) := by
  subst hp; exact Ends.go (fun _ q => XS.ior X.st.here X.hx rfl (X.hd hd) rfl q) k
theorem Wk.ixor (X : Wk co Z a0 EL own bytes maxL ret nm ws p l e R s m args below meth c vm0 T h locs cells slots) {x y : Int32} (hd : decode bytes pc = .ok (.ixor, 1))  (hp : pc + 1 = pc') (k : Ends p e below G (T.setTop (mkF m pc' ls (.int (x ^^^ y) :: rest)))) : Ends p e below G (T.setTop (mkF m pc ls (.int y :: .int x :: rest))) := by
  subst hp; exact Ends.go (fun _ q => XS.ixor X.st.here X.hx rfl (X.hd hd) rfl q) k
theorem Wk.ishl (X : Wk co Z a0 EL own bytes maxL ret nm ws p l e R s m args below meth c vm0 T h locs cells slots) {x y : Int32} (hd : decode bytes pc = .ok (.ishl, 1))  (hp : pc + 1 = pc') (k : Ends p e below G (T.setTop (mkF m pc' ls (.int (x <<< (y &&& 31)) :: rest)))) : Ends p e below G (T.setTop (mkF m pc ls (.int y :: .int x :: rest))) := by
  subst hp; exact Ends.go (fun _ q => XS.ishl X.st.here X.hx rfl (X.hd hd) rfl q) k
theorem Wk.ishr (X : Wk co Z a0 EL own bytes maxL ret nm ws p l e R s m args below meth c vm0 T h locs cells slots) {x y : Int32} (hd : decode bytes pc = .ok (.ishr, 1))  (hp : pc + 1 = pc') (k : Ends p e below G (T.setTop (mkF m pc' ls (.int (x >>> (y &&& 31)) :: rest)))) : Ends p e below G (T.setTop (mkF m pc ls (.int y :: .int x :: rest))) := by
  subst hp; exact Ends.go (fun _ q => XS.ishr X.st.here X.hx rfl (X.hd hd) rfl q) k
theorem Wk.iushr (X : Wk co Z a0 EL own bytes maxL ret nm ws p l e R s m args below meth c vm0 T h locs cells slots) {x y : Int32} (hd : decode bytes pc = .ok (.iushr, 1))  (hp : pc + 1 = pc') (k : Ends p e below G (T.setTop (mkF m pc' ls (.int ((x.toUInt32 >>> (y &&& 31).toUInt32).toInt32) :: rest)))) : Ends p e below G (T.setTop (mkF m pc ls (.int y :: .int x :: rest))) := by
  subst hp; exact Ends.go (fun _ q => XS.iushr X.st.here X.hx rfl (X.hd hd) rfl q) k
theorem Wk.ladd (X : Wk co Z a0 EL own bytes maxL ret nm ws p l e R s m args below meth c vm0 T h locs cells slots) {x y : Int64} (hd : decode bytes pc = .ok (.ladd, 1))  (hp : pc + 1 = pc') (k : Ends p e below G (T.setTop (mkF m pc' ls (.long (x + y) :: rest)))) : Ends p e below G (T.setTop (mkF m pc ls (.long y :: .long x :: rest))) := by
  subst hp; exact Ends.go (fun _ q => XS.ladd X.st.here X.hx rfl (X.hd hd) rfl q) k
theorem Wk.lsub (X : Wk co Z a0 EL own bytes maxL ret nm ws p l e R s m args below meth c vm0 T h locs cells slots) {x y : Int64} (hd : decode bytes pc = .ok (.lsub, 1))  (hp : pc + 1 = pc') (k : Ends p e below G (T.setTop (mkF m pc' ls (.long (x - y) :: rest)))) : Ends p e below G (T.setTop (mkF m pc ls (.long y :: .long x :: rest))) := by
  subst hp; exact Ends.go (fun _ q => XS.lsub X.st.here X.hx rfl (X.hd hd) rfl q) k
theorem Wk.land (X : Wk co Z a0 EL own bytes maxL ret nm ws p l e R s m args below meth c vm0 T h locs cells slots) {x y : Int64} (hd : decode bytes pc = .ok (.land, 1))  (hp : pc + 1 = pc') (k : Ends p e below G (T.setTop (mkF m pc' ls (.long (x &&& y) :: rest)))) : Ends p e below G (T.setTop (mkF m pc ls (.long y :: .long x :: rest))) := by
  subst hp; exact Ends.go (fun _ q => XS.land X.st.here X.hx rfl (X.hd hd) rfl q) k
theorem Wk.lxor (X : Wk co Z a0 EL own bytes maxL ret nm ws p l e R s m args below meth c vm0 T h locs cells slots) {x y : Int64} (hd : decode bytes pc = .ok (.lxor, 1))  (hp : pc + 1 = pc') (k : Ends p e below G (T.setTop (mkF m pc' ls (.long (x ^^^ y) :: rest)))) : Ends p e below G (T.setTop (mkF m pc ls (.long y :: .long x :: rest))) := by
  subst hp; exact Ends.go (fun _ q => XS.lxor X.st.here X.hx rfl (X.hd hd) rfl q) k
theorem Wk.lor (X : Wk co Z a0 EL own bytes maxL ret nm ws p l e R s m args below meth c vm0 T h locs cells slots) {x y : Int64} (hd : decode bytes pc = .ok (.lor, 1))  (hp : pc + 1 = pc') (k : Ends p e below G (T.setTop (mkF m pc' ls (.long (x ||| y) :: rest)))) : Ends p e below G (T.setTop (mkF m pc ls (.long y :: .long x :: rest))) := by
  subst hp; exact Ends.go (fun _ q => XS.lor X.st.here X.hx rfl (X.hd hd) rfl q) k
theorem Wk.lushr (X : Wk co Z a0 EL own bytes maxL ret nm ws p l e R s m args below meth c vm0 T h locs cells slots) {x : Int64} {y : Int32} (hd : decode bytes pc = .ok (.lushr, 1))  (hp : pc + 1 = pc') (k : Ends p e below G (T.setTop (mkF m pc' ls (.long (XT.ushrL x y) :: rest)))) : Ends p e below G (T.setTop (mkF m pc ls (.int y :: .long x :: rest))) := by
  subst hp; exact Ends.go (fun _ q => XT.lushr X.st.here X.hx rfl (X.hd hd) rfl q) k
theorem Wk.i2c (X : Wk co Z a0 EL own bytes maxL ret nm ws p l e R s m args below meth c vm0 T h locs cells slots) {x : Int32} (hd : decode bytes pc = .ok (.i2c, 1))  (hp : pc + 1 = pc') (k : Ends p e below G (T.setTop (mkF m pc' ls (.int (x.toUInt32.toUInt16.toUInt32.toInt32) :: rest)))) : Ends p e below G (T.setTop (mkF m pc ls (.int x :: rest))) := by
  subst hp; exact Ends.go (fun _ q => XS.i2c X.st.here X.hx rfl (X.hd hd) rfl q) k
theorem Wk.i2b (X : Wk co Z a0 EL own bytes maxL ret nm ws p l e R s m args below meth c vm0 T h locs cells slots) {x : Int32} (hd : decode bytes pc = .ok (.i2b, 1))  (hp : pc + 1 = pc') (k : Ends p e below G (T.setTop (mkF m pc' ls (.int (x.toInt8.toInt32) :: rest)))) : Ends p e below G (T.setTop (mkF m pc ls (.int x :: rest))) := by
  subst hp; exact Ends.go (fun _ q => XS.i2b X.st.here X.hx rfl (X.hd hd) rfl q) k
theorem Wk.i2l (X : Wk co Z a0 EL own bytes maxL ret nm ws p l e R s m args below meth c vm0 T h locs cells slots) {x : Int32} (hd : decode bytes pc = .ok (.i2l, 1))  (hp : pc + 1 = pc') (k : Ends p e below G (T.setTop (mkF m pc' ls (.long (x.toInt64) :: rest)))) : Ends p e below G (T.setTop (mkF m pc ls (.int x :: rest))) := by
  subst hp; exact Ends.go (fun _ q => XS.i2l X.st.here X.hx rfl (X.hd hd) rfl q) k
theorem Wk.l2i (X : Wk co Z a0 EL own bytes maxL ret nm ws p l e R s m args below meth c vm0 T h locs cells slots) {x : Int64} (hd : decode bytes pc = .ok (.l2i, 1))  (hp : pc + 1 = pc') (k : Ends p e below G (T.setTop (mkF m pc' ls (.int (x.toInt32) :: rest)))) : Ends p e below G (T.setTop (mkF m pc ls (.long x :: rest))) := by
  subst hp; exact Ends.go (fun _ q => XS.l2i X.st.here X.hx rfl (X.hd hd) rfl q) k
theorem Wk.ineg (X : Wk co Z a0 EL own bytes maxL ret nm ws p l e R s m args below meth c vm0 T h locs cells slots) {x : Int32} (hd : decode bytes pc = .ok (.ineg, 1))  (hp : pc + 1 = pc') (k : Ends p e below G (T.setTop (mkF m pc' ls (.int (-x) :: rest)))) : Ends p e below G (T.setTop (mkF m pc ls (.int x :: rest))) := by
  subst hp; exact Ends.go (fun _ q => XS.ineg X.st.here X.hx rfl (X.hd hd) rfl q) k
theorem Wk.iconst (X : Wk co Z a0 EL own bytes maxL ret nm ws p l e R s m args below meth c vm0 T h locs cells slots) {i : Int} (v : Int32) (hd : decode bytes pc = .ok (.iconst i, 1)) (hv : Int32.ofInt i = v) (hp : pc + 1 = pc') (k : Ends p e below G (T.setTop (mkF m pc' ls (.int v :: rest)))) : Ends p e below G (T.setTop (mkF m pc ls rest)) := by
  subst hp; subst hv; exact Ends.go (fun _ q => XS.iconst X.st.here X.hx rfl (X.hd hd)  q) k
theorem Wk.bipush (X : Wk co Z a0 EL own bytes maxL ret nm ws p l e R s m args below meth c vm0 T h locs cells slots) {i : Int} (v : Int32) (hd : decode bytes pc = .ok (.bipush i, 2)) (hv : (Int8.ofInt i).toInt32 = v) (hp : pc + 2 = pc') (k : Ends p e below G (T.setTop (mkF m pc' ls (.int v :: rest)))) : Ends p e below G (T.setTop (mkF m pc ls rest)) := by
  subst hp; subst hv; exact Ends.go (fun _ q => XS.bipush X.st.here X.hx rfl (X.hd hd)  q) k
theorem Wk.sipush (X : Wk co Z a0 EL own bytes maxL ret nm ws p l e R s m args below meth c vm0 T h locs cells slots) {i : Int} (v : Int32) (hd : decode bytes pc = .ok (.sipush i, 3)) (hv : (Int16.ofInt i).toInt32 = v) (hp : pc + 3 = pc') (k : Ends p e below G (T.setTop (mkF m pc' ls (.int v :: rest)))) : Ends p e below G (T.setTop (mkF m pc ls rest)) := by
  subst hp; subst hv; exact Ends.go (fun _ q => XS.sipush X.st.here X.hx rfl (X.hd hd)  q) k
theorem Wk.aconstNull (X : Wk co Z a0 EL own bytes maxL ret nm ws p l e R s m args below meth c vm0 T h locs cells slots)  (hd : decode bytes pc = .ok (.aconst_null, 1))  (hp : pc + 1 = pc') (k : Ends p e below G (T.setTop (mkF m pc' ls (.null :: rest)))) : Ends p e below G (T.setTop (mkF m pc ls rest)) := by
  subst hp; exact Ends.go (fun _ q => XS.aconstNull X.st.here X.hx rfl (X.hd hd)  q) k
theorem Wk.aloadN (X : Wk co Z a0 EL own bytes maxL ret nm ws p l e R s m args below meth c vm0 T h locs cells slots) {k : Fin 4} {v : Value} (hd : decode bytes pc = .ok (.aload_n k, 1)) (hl : ls[k.val]? = some (.val v)) (hv : v.isRef = true) (hp : pc + 1 = pc') (kk : Ends p e below G (T.setTop (mkF m pc' ls (v :: rest)))) : Ends p e below G (T.setTop (mkF m pc ls rest)) := by
  subst hp; exact Ends.go (fun _ q => XS.aloadN X.st.here X.hx rfl (X.hd hd) hl hv q) kk
theorem Wk.aload (X : Wk co Z a0 EL own bytes maxL ret nm ws p l e R s m args below meth c vm0 T h locs cells slots) {k : Nat} {v : Value} (hd : decode bytes pc = .ok (.aload k, 2)) (hl : ls[k]? = some (.val v)) (hv : v.isRef = true) (hp : pc + 2 = pc') (kk : Ends p e below G (T.setTop (mkF m pc' ls (v :: rest)))) : Ends p e below G (T.setTop (mkF m pc ls rest)) := by
  subst hp; exact Ends.go (fun _ q => XS.aload X.st.here X.hx rfl (X.hd hd) hl hv q) kk
theorem Wk.iloadN (X : Wk co Z a0 EL own bytes maxL ret nm ws p l e R s m args below meth c vm0 T h locs cells slots) {k : Fin 4} {v : Int32} (hd : decode bytes pc = .ok (.iload_n k, 1)) (hl : ls[k.val]? = some (.val (.int v))) (hp : pc + 1 = pc') (kk : Ends p e below G (T.setTop (mkF m pc' ls (.int v :: rest)))) : Ends p e below G (T.setTop (mkF m pc ls rest)) := by
  subst hp; exact Ends.go (fun _ q => XS.iloadN X.st.here X.hx rfl (X.hd hd) hl q) kk
theorem Wk.iload (X : Wk co Z a0 EL own bytes maxL ret nm ws p l e R s m args below meth c vm0 T h locs cells slots) {k : Nat} {v : Int32} (hd : decode bytes pc = .ok (.iload k, 2)) (hl : ls[k]? = some (.val (.int v))) (hp : pc + 2 = pc') (kk : Ends p e below G (T.setTop (mkF m pc' ls (.int v :: rest)))) : Ends p e below G (T.setTop (mkF m pc ls rest)) := by
  subst hp; exact Ends.go (fun _ q => XS.iload X.st.here X.hx rfl (X.hd hd) hl q) kk
theorem Wk.lloadN (X : Wk co Z a0 EL own bytes maxL ret nm ws p l e R s m args below meth c vm0 T h locs cells slots) {k : Fin 4} {v : Int64} (hd : decode bytes pc = .ok (.lload_n k, 1)) (hl : ls[k.val]? = some (.val (.long v))) (hp : pc + 1 = pc') (kk : Ends p e below G (T.setTop (mkF m pc' ls (.long v :: rest)))) : Ends p e below G (T.setTop (mkF m pc ls rest)) := by
  subst hp; exact Ends.go (fun _ q => XS.lloadN X.st.here X.hx rfl (X.hd hd) hl q) kk
theorem Wk.lload (X : Wk co Z a0 EL own bytes maxL ret nm ws p l e R s m args below meth c vm0 T h locs cells slots) {k : Nat} {v : Int64} (hd : decode bytes pc = .ok (.lload k, 2)) (hl : ls[k]? = some (.val (.long v))) (hp : pc + 2 = pc') (kk : Ends p e below G (T.setTop (mkF m pc' ls (.long v :: rest)))) : Ends p e below G (T.setTop (mkF m pc ls rest)) := by
  subst hp; exact Ends.go (fun _ q => XS.lload X.st.here X.hx rfl (X.hd hd) hl q) kk
theorem Wk.istoreN (X : Wk co Z a0 EL own bytes maxL ret nm ws p l e R s m args below meth c vm0 T h locs cells slots) {k : Fin 4} {x : Int32} (ls' : Array Slot) (hd : decode bytes pc = .ok (.istore_n k, 1)) (hl : storeLocals ls k.val (.int x) = some ls') (hp : pc + 1 = pc') (kk : Ends p e below G (T.setTop (mkF m pc' ls' rest))) : Ends p e below G (T.setTop (mkF m pc ls (.int x :: rest))) := by
  subst hp; exact Ends.go (fun _ q => XS.istoreN X.st.here X.hx rfl (X.hd hd) rfl hl q) kk
theorem Wk.istore (X : Wk co Z a0 EL own bytes maxL ret nm ws p l e R s m args below meth c vm0 T h locs cells slots) {k : Nat} {x : Int32} (ls' : Array Slot) (hd : decode bytes pc = .ok (.istore k, 2)) (hl : storeLocals ls k (.int x) = some ls') (hp : pc + 2 = pc') (kk : Ends p e below G (T.setTop (mkF m pc' ls' rest))) : Ends p e below G (T.setTop (mkF m pc ls (.int x :: rest))) := by
  subst hp; exact Ends.go (fun _ q => XS.istore X.st.here X.hx rfl (X.hd hd) rfl hl q) kk
theorem Wk.lstoreN (X : Wk co Z a0 EL own bytes maxL ret nm ws p l e R s m args below meth c vm0 T h locs cells slots) {k : Fin 4} {x : Int64} (ls' : Array Slot) (hd : decode bytes pc = .ok (.lstore_n k, 1)) (hl : storeLocals ls k.val (.long x) = some ls') (hp : pc + 1 = pc') (kk : Ends p e below G (T.setTop (mkF m pc' ls' rest))) : Ends p e below G (T.setTop (mkF m pc ls (.long x :: rest))) := by
  subst hp; exact Ends.go (fun _ q => XS.lstoreN X.st.here X.hx rfl (X.hd hd) rfl hl q) kk
theorem Wk.lstore (X : Wk co Z a0 EL own bytes maxL ret nm ws p l e R s m args below meth c vm0 T h locs cells slots) {k : Nat} {x : Int64} (ls' : Array Slot) (hd : decode bytes pc = .ok (.lstore k, 2)) (hl : storeLocals ls k (.long x) = some ls') (hp : pc + 2 = pc') (kk : Ends p e below G (T.setTop (mkF m pc' ls' rest))) : Ends p e below G (T.setTop (mkF m pc ls (.long x :: rest))) := by
  subst hp; exact Ends.go (fun _ q => XS.lstore X.st.here X.hx rfl (X.hd hd) rfl hl q) kk
theorem Wk.astoreN (X : Wk co Z a0 EL own bytes maxL ret nm ws p l e R s m args below meth c vm0 T h locs cells slots) {k : Fin 4} {x : Value} (ls' : Array Slot) (hd : decode bytes pc = .ok (.astore_n k, 1)) (hv : x.isRef = true) (hl : storeLocals ls k.val x = some ls') (hp : pc + 1 = pc') (kk : Ends p e below G (T.setTop (mkF m pc' ls' rest))) : Ends p e below G (T.setTop (mkF m pc ls (x :: rest))) := by
  subst hp; exact Ends.go (fun _ q => XS.astoreN X.st.here X.hx rfl (X.hd hd) rfl hv hl q) kk
theorem Wk.astore (X : Wk co Z a0 EL own bytes maxL ret nm ws p l e R s m args below meth c vm0 T h locs cells slots) {k : Nat} {x : Value} (ls' : Array Slot) (hd : decode bytes pc = .ok (.astore k, 2)) (hv : x.isRef = true) (hl : storeLocals ls k x = some ls') (hp : pc + 2 = pc') (kk : Ends p e below G (T.setTop (mkF m pc' ls' rest))) : Ends p e below G (T.setTop (mkF m pc ls (x :: rest))) := by
  subst hp; exact Ends.go (fun _ q => XS.astore X.st.here X.hx rfl (X.hd hd) rfl hv hl q) kk
theorem Wk.iinc (X : Wk co Z a0 EL own bytes maxL ret nm ws p l e R s m args below meth c vm0 T h locs cells slots) {k : Nat} {cst : Int} {x : Int32} (ls' : Array Slot) (hd : decode bytes pc = .ok (.iinc k cst, 3)) (hl : ls[k]? = some (.val (.int x))) (hl' : storeLocals ls k (.int (x + Int32.ofInt cst)) = some ls') (hp : pc + 3 = pc') (kk : Ends p e below G (T.setTop (mkF m pc' ls' rest))) : Ends p e below G (T.setTop (mkF m pc ls rest)) := by
  subst hp; exact Ends.go (fun _ q => XS.iinc X.st.here X.hx rfl (X.hd hd) hl hl' q) kk
theorem Wk.dup (X : Wk co Z a0 EL own bytes maxL ret nm ws p l e R s m args below meth c vm0 T h locs cells slots) {x : Value} (hd : decode bytes pc = .ok (.dup, 1)) (hc : x.category = 1) (hp : pc + 1 = pc') (k : Ends p e below G (T.setTop (mkF m pc' ls (x :: x :: rest)))) : Ends p e below G (T.setTop (mkF m pc ls (x :: rest))) := by
  subst hp; exact Ends.go (fun _ q => XS.dup X.st.here X.hx rfl (X.hd hd) rfl hc q) k
theorem Wk.pop (X : Wk co Z a0 EL own bytes maxL ret nm ws p l e R s m args below meth c vm0 T h locs cells slots) {x : Value} (hd : decode bytes pc = .ok (.pop, 1)) (hc : x.category = 1) (hp : pc + 1 = pc') (k : Ends p e below G (T.setTop (mkF m pc' ls rest))) : Ends p e below G (T.setTop (mkF m pc ls (x :: rest))) := by
  subst hp; exact Ends.go (fun _ q => XS.pop X.st.here X.hx rfl (X.hd hd) rfl hc q) k
theorem Wk.dupX1 (X : Wk co Z a0 EL own bytes maxL ret nm ws p l e R s m args below meth c vm0 T h locs cells slots) {x y : Value} (hd : decode bytes pc = .ok (.dup_x1, 1)) (hc : x.category = 1) (hc' : y.category = 1) (hp : pc + 1 = pc') (k : Ends p e below G (T.setTop (mkF m pc' ls (x :: y :: x :: rest)))) : Ends p e below G (T.setTop (mkF m pc ls (x :: y :: rest))) := by
  subst hp; exact Ends.go (fun _ q => XS.dupX1 X.st.here X.hx rfl (X.hd hd) rfl hc hc' q) k
theorem Wk.irem (X : Wk co Z a0 EL own bytes maxL ret nm ws p l e R s m args below meth c vm0 T h locs cells slots) {x y : Int32} (hd : decode bytes pc = .ok (.irem, 1)) (hy : y ≠ 0) (hp : pc + 1 = pc') (k : Ends p e below G (T.setTop (mkF m pc' ls (.int (x % y) :: rest)))) : Ends p e below G (T.setTop (mkF m pc ls (.int y :: .int x :: rest))) := by
  subst hp; exact Ends.go (fun _ q => iremM X.st X.hx rfl (X.hd hd) rfl hy q) k
theorem Wk.idiv (X : Wk co Z a0 EL own bytes maxL ret nm ws p l e R s m args below meth c vm0 T h locs cells slots) {x y : Int32} (hd : decode bytes pc = .ok (.idiv, 1)) (hy : y ≠ 0) (hp : pc + 1 = pc') (k : Ends p e below G (T.setTop (mkF m pc' ls (.int (x / y) :: rest)))) : Ends p e below G (T.setTop (mkF m pc ls (.int y :: .int x :: rest))) := by
  subst hp; exact Ends.go (fun _ q => XS.idiv X.st.here X.hx rfl (X.hd hd) rfl hy q) k
theorem Wk.goto (X : Wk co Z a0 EL own bytes maxL ret nm ws p l e R s m args below meth c vm0 T h locs cells slots)  {o : Int} (hd : decode bytes pc = .ok (.goto o, 3))  (ho : 0 ≤ (pc : Int) + o) (hp : ((pc : Int) + o).toNat = pc') (k : Ends p e below G (T.setTop (mkF m pc' ls rest))) : Ends p e below G (T.setTop (mkF m pc ls rest)) :=
  Ends.go (fun _ q => XS.goto X.st.here X.hx rfl (pc0 := pc) rfl (X.hd hd)  ho hp q) k
theorem Wk.ifY (X : Wk co Z a0 EL own bytes maxL ret nm ws p l e R s m args below meth c vm0 T h locs cells slots) {cd : ClassFile.Cond} {x : Int32} {o : Int} (hd : decode bytes pc = .ok (.ifCond cd o, 3)) (hc : ifCond.holds cd x = true) (ho : 0 ≤ (pc : Int) + o) (hp : ((pc : Int) + o).toNat = pc') (k : Ends p e below G (T.setTop (mkF m pc' ls rest))) : Ends p e below G (T.setTop (mkF m pc ls (.int x :: rest))) :=
  Ends.go (fun _ q => XS.ifYes X.st.here X.hx rfl (pc0 := pc) rfl (X.hd hd) rfl hc ho hp q) k
theorem Wk.ifN (X : Wk co Z a0 EL own bytes maxL ret nm ws p l e R s m args below meth c vm0 T h locs cells slots) {cd : ClassFile.Cond} {x : Int32} {o : Int} (hd : decode bytes pc = .ok (.ifCond cd o, 3)) (hc : ifCond.holds cd x = false) (hp : pc + 3 = pc') (k : Ends p e below G (T.setTop (mkF m pc' ls rest))) : Ends p e below G (T.setTop (mkF m pc ls (.int x :: rest))) := by
  subst hp; exact Ends.go (fun _ q => XS.ifNo X.st.here X.hx rfl (X.hd hd) rfl hc q) k
theorem Wk.icY (X : Wk co Z a0 EL own bytes maxL ret nm ws p l e R s m args below meth c vm0 T h locs cells slots) {cd : ClassFile.Cond} {x y : Int32} {o : Int} (hd : decode bytes pc = .ok (.if_icmp cd o, 3)) (hc : if_icmp.holds cd x y = true) (ho : 0 ≤ (pc : Int) + o) (hp : ((pc : Int) + o).toNat = pc') (k : Ends p e below G (T.setTop (mkF m pc' ls rest))) : Ends p e below G (T.setTop (mkF m pc ls (.int y :: .int x :: rest))) :=
  Ends.go (fun _ q => XS.icmpYes X.st.here X.hx rfl (pc0 := pc) rfl (X.hd hd) rfl hc ho hp q) k
theorem Wk.icN (X : Wk co Z a0 EL own bytes maxL ret nm ws p l e R s m args below meth c vm0 T h locs cells slots) {cd : ClassFile.Cond} {x y : Int32} {o : Int} (hd : decode bytes pc = .ok (.if_icmp cd o, 3)) (hc : if_icmp.holds cd x y = false) (hp : pc + 3 = pc') (k : Ends p e below G (T.setTop (mkF m pc' ls rest))) : Ends p e below G (T.setTop (mkF m pc ls (.int y :: .int x :: rest))) := by
  subst hp; exact Ends.go (fun _ q => XS.icmpNo X.st.here X.hx rfl (X.hd hd) rfl hc q) k
theorem Wk.nullY (X : Wk co Z a0 EL own bytes maxL ret nm ws p l e R s m args below meth c vm0 T h locs cells slots)  {o : Int} (hd : decode bytes pc = .ok (.ifnull o, 3))  (ho : 0 ≤ (pc : Int) + o) (hp : ((pc : Int) + o).toNat = pc') (k : Ends p e below G (T.setTop (mkF m pc' ls rest))) : Ends p e below G (T.setTop (mkF m pc ls (.null :: rest))) :=
  Ends.go (fun _ q => XS.ifnullYes X.st.here X.hx rfl (pc0 := pc) rfl (X.hd hd) rfl ho hp q) k
theorem Wk.nullN (X : Wk co Z a0 EL own bytes maxL ret nm ws p l e R s m args below meth c vm0 T h locs cells slots) {b : Addr} {o : Int} (hd : decode bytes pc = .ok (.ifnull o, 3))  (hp : pc + 3 = pc') (k : Ends p e below G (T.setTop (mkF m pc' ls rest))) : Ends p e below G (T.setTop (mkF m pc ls (.ref b :: rest))) := by
  subst hp; exact Ends.go (fun _ q => XS.ifnullNo X.st.here X.hx rfl (X.hd hd) rfl q) k
theorem Wk.nonY (X : Wk co Z a0 EL own bytes maxL ret nm ws p l e R s m args below meth c vm0 T h locs cells slots) {b : Addr} {o : Int} (hd : decode bytes pc = .ok (.ifnonnull o, 3))  (ho : 0 ≤ (pc : Int) + o) (hp : ((pc : Int) + o).toNat = pc') (k : Ends p e below G (T.setTop (mkF m pc' ls rest))) : Ends p e below G (T.setTop (mkF m pc ls (.ref b :: rest))) :=
  Ends.go (fun _ q => XS.ifnonnullYes X.st.here X.hx rfl (pc0 := pc) rfl (X.hd hd) rfl ho hp q) k
theorem Wk.nonN (X : Wk co Z a0 EL own bytes maxL ret nm ws p l e R s m args below meth c vm0 T h locs cells slots)  {o : Int} (hd : decode bytes pc = .ok (.ifnonnull o, 3))  (hp : pc + 3 = pc') (k : Ends p e below G (T.setTop (mkF m pc' ls rest))) : Ends p e below G (T.setTop (mkF m pc ls (.null :: rest))) := by
  subst hp; exact Ends.go (fun _ q => XS.ifnonnullNo X.st.here X.hx rfl (X.hd hd) rfl q) k
theorem Wk.acmp (X : Wk co Z a0 EL own bytes maxL ret nm ws p l e R s m args below meth c vm0 T h locs cells slots) {cd : ACond} {x y : Value} {o : Int} (hd : decode bytes pc = .ok (.if_acmp cd o, 3)) (h1 : x.isRef = true) (h2 : y.isRef = true) (same : Bool) (hq : decide (x = y) = same) (ho : 0 ≤ (pc : Int) + o) (hp : pc' = if acV cd same = true then ((pc : Int) + o).toNat else pc + 3) (k : Ends p e below G (T.setTop (mkF m pc' ls rest))) : Ends p e below G (T.setTop (mkF m pc ls (y :: x :: rest))) :=
  Ends.go (fun _ q => Jvm.RoadKit.acmp (g := mkF m pc ls (y :: x :: rest)) X.st X.hx rfl h1 h2 (pc0 := pc) rfl (X.hd hd) rfl hq ho hp q) k
theorem Wk.getF (X : Wk co Z a0 EL own bytes maxL ret nm ws p l e R s m args below meth c vm0 T h locs cells slots) {R0 O n d : String} {index : Nat} (w : (Cond.fieldLink own index R0 n d).before a0 Z = true) (via : Via Z R0 O n d) {a : Addr} {v : Value} (F : Fld Z h a O n d v) (hd : decode bytes pc = .ok (.getfield index, 3)) (hp : pc + 3 = pc') (k : ∀ T, Wk co Z a0 EL own bytes maxL ret nm ws p l e R s m args below meth c vm0 T h locs cells slots → Ends p e below G (T.setTop (mkF m pc' ls (v :: rest)))) : Ends p e below G (T.setTop (mkF m pc ls (.ref a :: rest))) := by
  subst hp
  obtain ⟨T', Y, e', st⟩ := RoadKit.getF X.st X.hx X.hZ X.hown (host := "") (Or.inl w) via X.eT F (g := mkF m pc ls (.ref a :: rest)) rfl rfl (X.hd hd)
  exact Ends.go (fun _ q => st _ q) (k _ (X.same Y e'))
theorem Wk.getS (X : Wk co Z a0 EL own bytes maxL ret nm ws p l e R s m args below meth c vm0 T h locs cells slots) {R0 O n d : String} {index : Nat} (w : (Cond.fieldLink own index R0 n d).before a0 Z = true) (via : Via Z R0 O n d) {v : Value} (F : Sta Z Z.heap O n d v) (hd : decode bytes pc = .ok (.getstatic index, 3)) (hp : pc + 3 = pc') (k : ∀ T, Wk co Z a0 EL own bytes maxL ret nm ws p l e R s m args below meth c vm0 T h locs cells slots → Ends p e below G (T.setTop (mkF m pc' ls (v :: rest)))) : Ends p e below G (T.setTop (mkF m pc ls rest)) := by
  subst hp
  obtain ⟨T', Y, e', st⟩ := RoadKit.getS (host := "") X.st X.hx X.hZ X.hown w via X.eT (F.ext X.old) (g := mkF m pc ls rest) rfl (X.hd hd)
  exact Ends.go (fun _ q => st _ q) (k _ (X.same Y e'))
theorem Wk.putF (X : Wk co Z a0 EL own bytes maxL ret nm ws p l e R s m args below meth c vm0 T h locs cells slots) {R0 O n d C : String} {index kk : Nat} (w : (Cond.fieldLink own index R0 n d).before a0 Z = true) (via : Via Z R0 O n d) {a : Addr} {v old : Value} (F : Fld Z h a O n d old) (E : Exa Z h a C) (L : (Cond.lays C O n d).before a0 Z = true ∨ ((Cond.laysFinal C O n d).before a0 Z = true ∧ own = O ∧ nm = "<init>")) (wi : (Cond.instantiable C kk).before a0 Z = true) (ty : FieldType) (hty : parseFieldDescriptor d = some ty) (hn : narrow ty v = v) (hf : fits ty v = true) (S : Safe Z EL vm0 h a) (hz : Z.heap.size ≤ a) (hk : a ∈ ws ∨ s.heap.size ≤ a) (hd : decode bytes pc = .ok (.putfield index, 3)) (hp : pc + 3 = pc') (k : ∀ T h' L, Wk co Z a0 EL own bytes maxL ret nm ws p l e R s m args below meth c vm0 T h' L cells slots → Wr h h' a (RoadKit.slotOf Z O n d) v → Ends p e below G (T.setTop (mkF m pc' ls rest))) : Ends p e below G (T.setTop (mkF m pc ls (v :: .ref a :: rest))) := by
  subst hp
  obtain ⟨T', h', Y, e', W, st⟩ := RoadKit.putF X.st X.hx X.hZ X.hown (host := "") (Or.inl w) via X.eT F E (L.imp id fun q => ⟨q.1, q.2.1, X.hnm.trans q.2.2⟩) wi hty hn hf (g := mkF m pc ls (v :: .ref a :: rest)) rfl rfl (X.hd hd)
  exact Ends.go (fun _ q => st _ q) (k _ _ _ (X.wr Y e' W S hz hk) W)
theorem Wk.newO (X : Wk co Z a0 EL own bytes maxL ret nm ws p l e R s m args below meth c vm0 T h locs cells slots) {C : String} {index n : Nat} (w : (Cond.classLink own index C).before a0 Z = true) (wi : (Cond.instantiable C n).before a0 Z = true) (wz : (Cond.initialized C).before a0 Z = true) (hd : decode bytes pc = .ok (.new index, 3)) (hc : cells + 1 ≤ R.cells) (hl : slots + n ≤ R.slots) (hp : pc + 3 = pc') (k : ∀ T h' b, b = h.size → Ext h h' → b < h'.size → Exa Z h' b C → (∀ {O nm d : String} {ty : FieldType}, Laid Z a0 C O nm d → parseFieldDescriptor d = some ty → Fld Z h' b O nm d (defaultValue ty)) → Wk co Z a0 EL own bytes maxL ret nm ws p l e R s m args below meth c vm0 T h' locs (cells + 1) (slots + n) → Ends p e below G (T.setTop (mkF m pc' ls (.ref b :: rest)))) : Ends p e below G (T.setTop (mkF m pc ls rest)) := by
  subst hp
  obtain ⟨T', h', Y, e', E, A, D, -, st⟩ := RoadKit.newO X.st X.hx X.hZ X.hown w wi wz X.eT (g := mkF m pc ls rest) rfl (X.hd hd) hc hl
  exact Ends.go (fun _ q => st _ q) (k _ _ _ rfl E A.lt A D (X.ext Y e' E))
theorem Wk.newP (X : Wk co Z a0 EL own bytes maxL ret nm ws p l e R s m args below meth c vm0 T h locs cells slots) {aty : ArrayType} (w : (Cond.arrayClass (newarray.typeOf aty)).before a0 Z = true) {n : Int32} (hd : decode bytes pc = .ok (.newarray aty, 2)) (hn : ¬ n < 0) (cap : Nat) (hcap : n.toNatClampNeg ≤ cap) (hb : cap * 8 ≤ 536870912) (hc : cells + 1 ≤ R.cells) (hl : slots + cap ≤ R.slots) (hp : pc + 2 = pc') (k : ∀ T h' b ka, b = h.size → Ext h h' → b < h'.size → Arv Z h' b ka (newarray.typeOf aty) n [] (defaultValue (newarray.typeOf aty)) → Wk co Z a0 EL own bytes maxL ret nm ws p l e R s m args below meth c vm0 T h' locs (cells + 1) (slots + cap) → Ends p e below G (T.setTop (mkF m pc' ls (.ref b :: rest)))) : Ends p e below G (T.setTop (mkF m pc ls (.int n :: rest))) := by
  subst hp
  obtain ⟨T', h', ka, Y, e', E, A, st⟩ := RoadKit.newP X.st X.hx X.hZ w X.eT (g := mkF m pc ls (.int n :: rest)) rfl (X.hd hd) rfl hn hcap hb hc hl
  exact Ends.go (fun _ q => st _ q) (k _ _ _ _ rfl E A.lt (Arv.new A hn) (X.ext Y e' E))
theorem Wk.castore (X : Wk co Z a0 EL own bytes maxL ret nm ws p l e R s m args below meth c vm0 T h locs cells slots) {a : Addr} {ka : ClassId} {z j x : Int32} {vs : List Value} {dv : Value} (A : Arv Z h a ka .char z vs dv) (hj : ¬ j < 0 ∧ j < z) (i : Nat) (hi : j.toNatClampNeg = i) (hl : i < vs.length) (hz : Z.heap.size ≤ a) (hk : a ∈ ws ∨ s.heap.size ≤ a) (hd : decode bytes pc = .ok (.castore, 1)) (hp : pc + 1 = pc') (k : ∀ T h' L, Wk co Z a0 EL own bytes maxL ret nm ws p l e R s m args below meth c vm0 T h' L cells slots → Wr h h' a j.toNatClampNeg (.int (nar .char x)) → Arv Z h' a ka .char z (vs.set i (.int (nar .char x))) dv → Ends p e below G (T.setTop (mkF m pc' ls rest))) : Ends p e below G (T.setTop (mkF m pc ls (.int x :: .int j :: .ref a :: rest))) := by
  subst hp
  have S0 := (Safe.arv (EL := EL) X.al A (by decide))
  obtain ⟨cl, Ar, q1, S1, N1, H1, G1⟩ := A
  obtain ⟨T', h', Y, e', W, st⟩ := RoadKit.stC X.st X.hx X.hZ X.eT Ar (j := j) (inb_of S1 hj) (g := mkF m pc ls (.int x :: .int j :: .ref a :: rest)) rfl rfl (X.hd hd)
  exact Ends.go (fun _ q => st _ q) (k _ _ _ (X.wr Y e' W S0 hz hk) W (Arv.set Ar q1 S1 N1 H1 G1 (fits_nar_char _) W i hi hl))
theorem Wk.bastore (X : Wk co Z a0 EL own bytes maxL ret nm ws p l e R s m args below meth c vm0 T h locs cells slots) {a : Addr} {ka : ClassId} {z j x : Int32} {vs : List Value} {dv : Value} (A : Arv Z h a ka .byte z vs dv) (hj : ¬ j < 0 ∧ j < z) (i : Nat) (hi : j.toNatClampNeg = i) (hl : i < vs.length) (S : Safe Z EL vm0 h a) (hz : Z.heap.size ≤ a) (hk : a ∈ ws ∨ s.heap.size ≤ a) (hd : decode bytes pc = .ok (.bastore, 1)) (hp : pc + 1 = pc') (k : ∀ T h' L, Wk co Z a0 EL own bytes maxL ret nm ws p l e R s m args below meth c vm0 T h' L cells slots → Wr h h' a j.toNatClampNeg (.int (nar .byte x)) → Arv Z h' a ka .byte z (vs.set i (.int (nar .byte x))) dv → Ends p e below G (T.setTop (mkF m pc' ls rest))) : Ends p e below G (T.setTop (mkF m pc ls (.int x :: .int j :: .ref a :: rest))) := by
  subst hp
  have S0 := S
  obtain ⟨cl, Ar, q1, S1, N1, H1, G1⟩ := A
  obtain ⟨T', h', Y, e', W, st⟩ := RoadKit.stB X.st X.hx X.hZ X.eT Ar (j := j) (inb_of S1 hj) (g := mkF m pc ls (.int x :: .int j :: .ref a :: rest)) rfl rfl (X.hd hd)
  exact Ends.go (fun _ q => st _ q) (k _ _ _ (X.wr Y e' W S0 hz hk) W (Arv.set Ar q1 S1 N1 H1 G1 (fits_nar_byte _) W i hi hl))
theorem Wk.caload (X : Wk co Z a0 EL own bytes maxL ret nm ws p l e R s m args below meth c vm0 T h locs cells slots) {a : Addr} {ka : ClassId} {z j v : Int32} {vs : List Value} {dv : Value} (A : Arv Z h a ka .char z vs dv) (hj : ¬ j < 0 ∧ j < z) (hv : vs.getD j.toNatClampNeg dv = .int v) (hd : decode bytes pc = .ok (.caload, 1)) (hp : pc + 1 = pc') (k : Ends p e below G (T.setTop (mkF m pc' ls (.int v :: rest)))) : Ends p e below G (T.setTop (mkF m pc ls (.int j :: .ref a :: rest))) := by
  subst hp
  obtain ⟨cl, Ar, q1, S1, N1, H1, G1⟩ := A
  have hin := inb_of S1 hj
  exact Ends.go (fun t q => X.st.caload X.hx (j := j) (v := .int v) (by rw [X.eT]; exact Ar.1) (State.isArrayOf_alike X.al Ar.2.1) Ar.2.2 hin (H1.at hin hv) (g := mkF m pc ls (.int j :: .ref a :: rest)) rfl rfl (X.hd hd) t q) k
theorem Wk.baload (X : Wk co Z a0 EL own bytes maxL ret nm ws p l e R s m args below meth c vm0 T h locs cells slots) {a : Addr} {ka : ClassId} {z j v : Int32} {vs : List Value} {dv : Value} (A : Arv Z h a ka .byte z vs dv) (hj : ¬ j < 0 ∧ j < z) (hv : vs.getD j.toNatClampNeg dv = .int v) (hd : decode bytes pc = .ok (.baload, 1)) (hp : pc + 1 = pc') (k : Ends p e below G (T.setTop (mkF m pc' ls (.int v :: rest)))) : Ends p e below G (T.setTop (mkF m pc ls (.int j :: .ref a :: rest))) := by
  subst hp
  obtain ⟨cl, Ar, q1, S1, N1, H1, G1⟩ := A
  have hin := inb_of S1 hj
  exact Ends.go (fun t q => X.st.baloadBytes X.hx (j := j) (v := .int v) (by rw [X.eT]; exact Ar.1) (State.isArrayOf_alike X.al Ar.2.1) Ar.2.2 hin (H1.at hin hv) (g := mkF m pc ls (.int j :: .ref a :: rest)) rfl rfl (X.hd hd) t q) k
theorem Wk.alen (X : Wk co Z a0 EL own bytes maxL ret nm ws p l e R s m args below meth c vm0 T h locs cells slots) {a : Addr} {ka : ClassId} {ty : FieldType} {z : Int32} {vs : List Value} {dv : Value} (A : Arv Z h a ka ty z vs dv) (hd : decode bytes pc = .ok (.arraylength, 1)) (hp : pc + 1 = pc') (k : Ends p e below G (T.setTop (mkF m pc' ls (.int z :: rest)))) : Ends p e below G (T.setTop (mkF m pc ls (.ref a :: rest))) := by
  subst hp
  obtain ⟨cl, Ar, q1, S1, N1, H1, G1⟩ := A
  refine Ends.go (fun t q => X.st.arraylength X.hx (by rw [X.eT]; exact Ar.1) (State.isArrayOf_alike X.al Ar.2.1) (g := mkF m pc ls (.ref a :: rest)) rfl rfl (X.hd hd) t ?_) k
  rw [len_of S1 N1]; exact q
theorem Wk.castY (X : Wk co Z a0 EL own bytes maxL ret nm ws p l e R s m args below meth c vm0 T h locs cells slots) {K : String} {index : Nat} (w : (Cond.classLink own index K).before a0 Z = true) {a : Addr} (F : Ins Z h a K true) (hd : decode bytes pc = .ok (.checkcast index, 3)) (hp : pc + 3 = pc') (k : ∀ T, Wk co Z a0 EL own bytes maxL ret nm ws p l e R s m args below meth c vm0 T h locs cells slots → Ends p e below G (T.setTop (mkF m pc' ls (.ref a :: rest)))) : Ends p e below G (T.setTop (mkF m pc ls (.ref a :: rest))) := by
  subst hp
  obtain ⟨T', Y, e', st⟩ := RoadKit.castY X.st X.hx X.hZ X.hown w X.eT F (g := mkF m pc ls (.ref a :: rest)) rfl rfl (X.hd hd)
  exact Ends.go (fun _ q => st _ q) (k _ (X.same Y e'))
theorem Wk.instY (X : Wk co Z a0 EL own bytes maxL ret nm ws p l e R s m args below meth c vm0 T h locs cells slots) {K : String} {index : Nat} (w : (Cond.classLink own index K).before a0 Z = true) {a : Addr} (F : Ins Z h a K true) (hd : decode bytes pc = .ok (.instanceof index, 3)) (hp : pc + 3 = pc') (k : ∀ T, Wk co Z a0 EL own bytes maxL ret nm ws p l e R s m args below meth c vm0 T h locs cells slots → Ends p e below G (T.setTop (mkF m pc' ls (.int 1 :: rest)))) : Ends p e below G (T.setTop (mkF m pc ls (.ref a :: rest))) := by
  subst hp
  obtain ⟨T', Y, e', st⟩ := RoadKit.instY X.st X.hx X.hZ X.hown w X.eT F (g := mkF m pc ls (.ref a :: rest)) rfl rfl (X.hd hd)
  exact Ends.go (fun _ q => st _ q) (k _ (X.same Y e'))
theorem Wk.instNo (X : Wk co Z a0 EL own bytes maxL ret nm ws p l e R s m args below meth c vm0 T h locs cells slots) {K C : String} {index : Nat} (w : (Cond.classLink own index K).before a0 Z = true) {a : Addr} (E : Exa Z h a C) (F : ∃ c t, Z.vm.findClass C = some c ∧ Z.vm.findClass K = some t ∧ Z.vm.assignable c t = false) (hd : decode bytes pc = .ok (.instanceof index, 3)) (hp : pc + 3 = pc') (k : ∀ T, Wk co Z a0 EL own bytes maxL ret nm ws p l e R s m args below meth c vm0 T h locs cells slots → Ends p e below G (T.setTop (mkF m pc' ls (.int 0 :: rest)))) : Ends p e below G (T.setTop (mkF m pc ls (.ref a :: rest))) := by
  subst hp
  obtain ⟨T', Y, e', st⟩ := RoadKit.instNo X.st X.hx X.hZ X.hown w X.eT E F (g := mkF m pc ls (.ref a :: rest)) rfl rfl (X.hd hd)
  exact Ends.go (fun _ q => st _ q) (k _ (X.same Y e'))
theorem Wk.instNull (X : Wk co Z a0 EL own bytes maxL ret nm ws p l e R s m args below meth c vm0 T h locs cells slots) {index : Nat} (hd : decode bytes pc = .ok (.instanceof index, 3)) (hp : pc + 3 = pc') (k : Ends p e below G (T.setTop (mkF m pc' ls (.int 0 :: rest)))) : Ends p e below G (T.setTop (mkF m pc ls (.null :: rest))) := by
  subst hp
  exact Ends.go (fun t q => X.st.instanceofNull X.hx (g := mkF m pc ls (.null :: rest)) rfl rfl (X.hd hd) t q) k
theorem Wk.ldcI (X : Wk co Z a0 EL own bytes maxL ret nm ws p l e R s m args below meth c vm0 T h locs cells slots) {index : Nat} {v : Int32} (w : (Cond.constant own index v).before a0 Z = true) (hd : decode bytes pc = .ok (.ldc index, 2)) (hp : pc + 2 = pc') (k : Ends p e below G (T.setTop (mkF m pc' ls (.int v :: rest)))) : Ends p e below G (T.setTop (mkF m pc ls rest)) := by
  subst hp
  exact Ends.go (fun t q => X.st.ldcInt X.hx X.hown (mvT X.hZ w) (g := mkF m pc ls rest) rfl (X.hd hd) t q) k
theorem Wk.ldcJ (X : Wk co Z a0 EL own bytes maxL ret nm ws p l e R s m args below meth c vm0 T h locs cells slots) {index : Nat} {v : Int64} (w : (Cond.constantLong own index v).before a0 Z = true) (hd : decode bytes pc = .ok (.ldc2_w index, 3)) (hp : pc + 3 = pc') (k : Ends p e below G (T.setTop (mkF m pc' ls (.long v :: rest)))) : Ends p e below G (T.setTop (mkF m pc ls rest)) := by
  subst hp
  exact Ends.go (fun t q => X.st.ldc2Long X.hx X.hown (mvT X.hZ w) (g := mkF m pc ls rest) rfl (X.hd hd) t q) k
theorem Wk.initO (X : Wk co Z a0 EL own bytes maxL ret nm ws p l e R s m args below meth c vm0 T h locs cells slots) {idx : Nat} (w1 : (Cond.methodLink own idx Lib.objectInit).before a0 Z = true) (w2 : (Cond.instanceMethod Lib.objectInit).before a0 Z = true) (w3 : (Cond.code Lib.objectInit ⟨#[0xb1]⟩ 1 none).before a0 Z = true) {a : Addr} (hls : ls.size = maxL) (hd : decode bytes pc = .ok (.invokespecial idx, 3)) (hfr : 1 ≤ R.frames) (hlo : (rest.map fun v => v.category).sum + 12 ≤ R.locals) (hp : pc + 3 = pc') (k : ∀ T, Wk co Z a0 EL own bytes maxL ret nm ws p l e R s m args below meth c vm0 T h locs cells slots → Ends p e below G (T.setTop (mkF m pc' ls rest))) : Ends p e below G (T.setTop (mkF m pc ls (.ref a :: rest))) := by
  subst hp
  obtain ⟨T', Y, e', st⟩ := RoadKit.initO X.st X.hx X.hZ X.hown w1 w2 w3 X.eT (g := mkF m pc ls (.ref a :: rest)) rfl (hls.trans X.hml.symm) rfl (X.hd hd) hfr (W := (rest.map fun v => v.category).sum) (by show 2 * 0 + _ ≤ _; rw [Nat.mul_zero, Nat.zero_add]; exact Nat.le_refl _) (by omega)
  exact Ends.go (fun _ q => st _ q) (k _ (X.same Y e'))
/-- ldc of a String constant of EL, read -/
theorem Wk.ldcS (X : Wk true Z a0 EL own bytes maxL ret nm ws p l e R s m args below meth c vm0 T h locs cells slots) {index : Nat} {text : String} (w : (Cond.stringLink own index text).before a0 Z = true) (wS : ∀ a ∈ Bundle.stringAtoms, a.before a0 Z = true) (hmem : (own, index) ∈ EL) {vs : List Value} {z : Int32} (ht : (∀ c ∈ text.toList, c.toNat < 256) ∧ text.toList.map (fun c => Value.int (Jvm.Lit.byteI c.toNat.toUInt16)) = vs) (hz : ¬ z < 0) (hl : z.toNatClampNeg = vs.length) (hd : decode bytes pc = .ok (.ldc index, 2)) (n : Nat) (hn : 4 * text.toList.length ≤ n) (hbig : n ≤ 536870912) (hc : cells + 2 ≤ R.cells) (hl' : slots + (n + 4) ≤ R.slots) (hp : pc + 2 = pc') (k : ∀ (T : State) (vm : Vm) (h' : Heap) (a b : Addr) (ka : ClassId), Ext h h' → CHr Z EL vm0 h vm h' → Exa Z h' a "java/lang/String" → Fld Z h' a "java/lang/String" "coder" "B" (.int 0) → Fld Z h' a "java/lang/String" "value" "[B" (.ref b) → Arv Z h' b ka .byte z vs (.int 0) → a < h'.size → b < h'.size → (∀ x, Safe Z EL vm h' x → x ≠ a ∧ x ≠ b) → Wk true Z a0 EL own bytes maxL ret nm ws p l e R s m args below meth c vm T h' locs (cells + 2) (slots + (n + 4)) → Ends p e below G (T.setTop (mkF m pc' ls (.ref a :: rest)))) : Ends p e below G (T.setTop (mkF m pc ls rest)) := by
  subst hp
  obtain ⟨k0, k1, k2⟩ := X.since
  obtain ⟨a, T', h', kk, b, ka, Y, rfl, E, hS, hk, hW, ho, x1, x2, x3, x4, x5, x6, hC, -, hsf, st⟩ := RoadKit.ldcCH X.st X.hx X.hZ X.hown w wS X.eT k1 k2 X.ew hmem X.H ht hz hl (g := mkF m pc ls rest) rfl (X.hd hd) hn hbig hc hl'
  exact Ends.go (fun _ q => st _ q) (k _ _ _ _ _ _ E hC x1 x2 x3 x4 x5 x6 hsf ⟨Y, rfl, ⟨_, hS, hk⟩, fun q => (by cases q), hW, ho, X.ch.trans hC, X.ew, X.2.2.2.2.2.2.2.2.1, ⟨Nat.le_trans X.old.1 E.1, fun a cl q => E.2 _ _ (X.old.2 _ _ q)⟩, X.fr, X.kp.ext E⟩)
/-- ldc of any String constant, opaque -/
theorem Wk.ldcO (X : Wk true Z a0 EL own bytes maxL ret nm ws p l e R s m args below meth c vm0 T h locs cells slots) {index : Nat} {text : String} (w : (Cond.stringLink own index text).before a0 Z = true) (wS : ∀ a ∈ Bundle.stringAtoms, a.before a0 Z = true) (hd : decode bytes pc = .ok (.ldc index, 2)) (n : Nat) (hn : 4 * text.toList.length ≤ n) (hbig : n ≤ 536870912) (hc : cells + 2 ≤ R.cells) (hl' : slots + (n + 4) ≤ R.slots) (hp : pc + 2 = pc') (k : ∀ (T : State) (vm : Vm) (h' : Heap) (a : Addr), Ext h h' → CHr Z EL vm0 h vm h' → Wk true Z a0 EL own bytes maxL ret nm ws p l e R s m args below meth c vm T h' locs (cells + 2) (slots + (n + 4)) → Ends p e below G (T.setTop (mkF m pc' ls (.ref a :: rest)))) : Ends p e below G (T.setTop (mkF m pc ls rest)) := by
  subst hp
  obtain ⟨k0, k1, k2⟩ := X.since
  obtain ⟨a, T', h', kk, Y, rfl, E, hS, hk, hW, ho, hC, -, st⟩ := RoadKit.ldcOH X.st X.hx X.hZ X.hown w wS X.eT k1 k2 X.ew X.H (g := mkF m pc ls rest) rfl (X.hd hd) hn hbig hc hl'
  exact Ends.go (fun _ q => st _ q) (k _ _ _ _ E hC ⟨Y, rfl, ⟨_, hS, hk⟩, fun q => (by cases q), hW, ho, X.ch.trans hC, X.ew, X.2.2.2.2.2.2.2.2.1, ⟨Nat.le_trans X.old.1 E.1, fun a cl q => E.2 _ _ (X.old.2 _ _ q)⟩, X.fr, X.kp.ext E⟩)
end Walk
/-- what a method's law says; narrow -/
def MN (l : Launch) (Z : State) (y : MethodName) (bytes : ByteArray) (maxL : Nat) (ret : Option FieldType) (xs : List Jvm.Cond) (rm : Room) (as' : Array Value) (h : Heap) (ws : List Addr) (Q : Option Value → Heap → Prop) : Prop :=
  MetFree l y (head1 (Cond.code y bytes maxL ret :: xs) rm) (fun a U => a = as' ∧ Z.Warmed39 U.vm ∧ U.heap = h) (fun _ _ _ _ _ => True) (fun _ U o U' => ∃ v L, o = .returned v ∧ (Q v U'.heap ∧ Fr Z.heap.size L ∧ Keep h U'.heap ws ∧ Ext Z.heap U'.heap) ∧ FrameEnd U o U' L rm.cells rm.slots)
/-- .. of one that may intern -/
def MCc (l : Launch) (Z : State) (EL : List (String × Nat)) (y : MethodName) (bytes : ByteArray) (maxL : Nat) (ret : Option FieldType) (xs : List Jvm.Cond) (rm : Room) (as' : Array Value) (h : Heap) (ws : List Addr) (Q : Option Value → Heap → Prop) : Prop :=
  MetFree l y (head1 (Cond.code y bytes maxL ret :: xs) rm) (fun a U => a = as' ∧ Z.Warmed39 U.vm ∧ U.heap = h ∧ CHv Z EL U.vm h) (fun _ _ _ _ _ => True) (fun _ U o U' => ∃ v L, o = .returned v ∧ (Q v U'.heap ∧ Fr Z.heap.size L ∧ Keep h U'.heap ws ∧ Ext Z.heap U'.heap) ∧ CHr Z EL U.vm U.heap U'.vm U'.heap ∧ ReturnedEndW U o U' L rm.cells rm.slots)
def GN (Z : State) (ws : List Addr) (Q : Option Value → Heap → Prop) (rm : Room) (s : State) (o : Outcome) (U' : State) : Prop :=
  ∃ v L, o = .returned v ∧ (Q v U'.heap ∧ Fr Z.heap.size L ∧ Keep s.heap U'.heap ws ∧ Ext Z.heap U'.heap) ∧ FrameEnd s o U' L rm.cells rm.slots
def GC (Z : State) (EL : List (String × Nat)) (ws : List Addr) (Q : Option Value → Heap → Prop) (rm : Room) (s : State) (o : Outcome) (U' : State) : Prop :=
  ∃ v L, o = .returned v ∧ (Q v U'.heap ∧ Fr Z.heap.size L ∧ Keep s.heap U'.heap ws ∧ Ext Z.heap U'.heap) ∧ CHr Z EL s.vm s.heap U'.vm U'.heap ∧ ReturnedEndW s o U' L rm.cells rm.slots
abbrev RV (Q : Value → Heap → Prop) : Option Value → Heap → Prop := fun v h => ∃ w, v = some w ∧ Q w h
abbrev RU (Q : Heap → Prop) : Option Value → Heap → Prop := fun v h => v = none ∧ Q h
abbrev RO (h0 : Heap) : Option Value → Heap → Prop := fun v h => v = none ∧ h = h0
abbrev RP (h0 : Heap) (Q : Value → Prop) : Option Value → Heap → Prop := fun v h => ∃ w, v = some w ∧ h = h0 ∧ Q w
theorem MN.mk {l : Launch} {Z : State} {a0 : Array Value} {y : MethodName} {bytes : ByteArray} {maxL : Nat} {ret : Option FieldType} {xs : List Jvm.Cond} {rm : Room} {as' : Array Value} {h : Heap} {ws : List Addr} {Q : Option Value → Heap → Prop} {ls0 : Array Slot} {own nm : String} (ho : y.cls = own) (hnm : y.name = nm) (pn : plainFor y = true) (O : Ext Z.heap h) (ef : ∀ m, entryFrame m as' maxL = mkF m 0 ls0 [])
    (body : ∀ (p : Program) (e : Env) (s : State) (m : MethodId) (below : List Frame) (meth : Method) (c : Code) (T : State), s.heap = h → Wk false Z a0 [] own bytes maxL ret nm ws p l e rm s m as' below meth c s.vm T h [] 0 0 → Ends p e below (GN Z ws Q rm s) (T.setTop (mkF m 0 ls0 []))) : MN l Z y bytes maxL ret xs rm as' h ws Q := by
  subst ho hnm
  refine MetFree.of_bodySF pn hisR ?_
  intro p e s m args below meth c s₁ Bd hml hP hK
  obtain ⟨rfl, hZ, rfl⟩ := hP
  have e0 : s₁.heap = s.heap := by rw [Bd.state]; rfl
  obtain ⟨s₂, o, h1, h2, h3, v, L, h4, h5, h6⟩ := body p e s m below meth c s₁ rfl ⟨Stand.of_body Bd, e0, ⟨0, (State.WarmedH.refl s).since _, Nat.zero_le _⟩, fun _ => rfl, hZ, findClass_of_methodNamed Bd.named, chrE (Nat.le_refl _), EW.nil, ⟨Bd.exec, Bd.bytes, hml, Bd.returns, (name_of_methodNamed Bd.named Bd.method).1, Bd.notSynchronized⟩, O, Fr.nil _, Keep.refl _ _⟩
  exact ⟨s₂, o, castTop (ef m) h1, h2, h3, v, L, h4, h5, h6⟩
theorem MCc.mk {l : Launch} {Z : State} {a0 : Array Value} {EL : List (String × Nat)} {y : MethodName} {bytes : ByteArray} {maxL : Nat} {ret : Option FieldType} {xs : List Jvm.Cond} {rm : Room} {as' : Array Value} {h : Heap} {ws : List Addr} {Q : Option Value → Heap → Prop} {ls0 : Array Slot} {own nm : String} (ho : y.cls = own) (hnm : y.name = nm) (pn : plainFor y = true) (O : Ext Z.heap h) (ew : EW Z a0 EL) (ef : ∀ m, entryFrame m as' maxL = mkF m 0 ls0 [])
    (body : ∀ (p : Program) (e : Env) (s : State) (m : MethodId) (below : List Frame) (meth : Method) (c : Code) (T : State), s.heap = h → Wk true Z a0 EL own bytes maxL ret nm ws p l e rm s m as' below meth c s.vm T h [] 0 0 → Ends p e below (GC Z EL ws Q rm s) (T.setTop (mkF m 0 ls0 []))) : MCc l Z EL y bytes maxL ret xs rm as' h ws Q := by
  subst ho hnm
  refine MetFree.of_bodySF pn hisR ?_
  intro p e s m args below meth c s₁ Bd hml hP hK
  obtain ⟨rfl, hZ, rfl, hC⟩ := hP
  have e0 : s₁.heap = s.heap := by rw [Bd.state]; rfl
  obtain ⟨s₂, o, h1, h2, h3, v, L, h4, h5, h6⟩ := body p e s m below meth c s₁ rfl ⟨Stand.of_body Bd, e0, ⟨0, (State.WarmedH.refl s).since _, Nat.zero_le _⟩, fun _ => rfl, hZ, findClass_of_methodNamed Bd.named, CHr.refl hC, ew, ⟨Bd.exec, Bd.bytes, hml, Bd.returns, (name_of_methodNamed Bd.named Bd.method).1, Bd.notSynchronized⟩, O, Fr.nil _, Keep.refl _ _⟩
  exact ⟨s₂, o, castTop (ef m) h1, h2, h3, v, L, h4, h5, h6⟩
section Ends2
variable {co : Bool} {Z : State} {a0 : Array Value} {EL : List (String × Nat)} {own : String} {bytes : ByteArray} {maxL : Nat} {ret : Option FieldType} {nm : String} {ws : List Addr} {p : Program} {l : Launch} {e : Env} {R : Room} {s : State} {m : MethodId} {args : Array Value} {below : List Frame} {meth : Method} {c : Code} {vm0 : Vm} {T : State} {h : Heap} {locs : List Loc} {cells slots : Nat} {G : Outcome → State → Prop} {pc pc' : Nat} {ls : Array Slot} {rest : List Value} {Q : Option Value → Heap → Prop}
theorem Wk.retN (X : Wk false Z a0 [] own bytes maxL ret nm ws p l e R s m args below meth c vm0 T h locs cells slots) {t : FieldType} {w : Value} {i : Instr} (hR : ret = some t) (hn : narrow t w = w) (hi : (i = .ireturn ∧ (t = .int ∨ t = .boolean ∨ t = .byte ∨ t = .char ∨ t = .short) ∧ ∃ z, w = .int z) ∨ (i = .lreturn ∧ t = .long ∧ ∃ z, w = .long z) ∨ (i = .dreturn ∧ t = .double ∧ ∃ z, w = .double z) ∨ (i = .freturn ∧ t = .float ∧ ∃ z, w = .float z) ∨ (i = .areturn ∧ t.isReference = true ∧ w.isRef = true)) (hd : decode bytes pc = .ok (i, 1)) (hc : cells ≤ R.cells) (hl : slots ≤ R.slots) (q : Q (some w) h) : Ends p e below (GN Z ws Q R s) (T.setTop (mkF m pc ls (w :: rest))) := by
  obtain ⟨fs, hr, hrun, hended, hW, hsame⟩ := X.st.leave (v := some w) (fun q => by rw [X.hret, hR] at q; cases q) X.hlk
  have hs : (s.setVm vm0) = s := by rw [X.nr rfl]; rfl
  rw [hs] at hW hsame
  exact ⟨_, _, retOut X.st X.hx (X.hret.trans hR) hn hi (X.hd hd) hr, hrun, hended, _, _, rfl, ⟨by rw [show (T.setFrames fs).heap = h from X.eT]; exact q, X.fr, by rw [show (T.setFrames fs).heap = h from X.eT]; exact X.kp, by rw [show (T.setFrames fs).heap = h from X.eT]; exact X.old⟩, ⟨_, rfl⟩, hW, hsame.mono hc hl⟩
theorem Wk.retAN {t : FieldType} (X : Wk false Z a0 [] own bytes maxL (some t) nm ws p l e R s m args below meth c vm0 T h locs cells slots) {w : Value} (ht : t.isReference = true) (hw : w.isRef = true) (hd : decode bytes pc = .ok (.areturn, 1)) (hc : cells ≤ R.cells) (hl : slots ≤ R.slots) (q : Q (some w) h) : Ends p e below (GN Z ws Q R s) (T.setTop (mkF m pc ls (w :: rest))) :=
  X.retN rfl (by cases t <;> first | (cases ht; done) | (rcases ref_cases hw with rfl | ⟨z, rfl⟩ <;> rfl)) (Or.inr (Or.inr (Or.inr (Or.inr ⟨rfl, ht, hw⟩)))) hd hc hl q
theorem Wk.retIN {t : FieldType} (X : Wk false Z a0 [] own bytes maxL (some t) nm ws p l e R s m args below meth c vm0 T h locs cells slots) {z : Int32} (ht : t = .int ∨ t = .boolean ∨ t = .byte ∨ t = .char ∨ t = .short) (hn : narrow t (.int z) = .int z) (hd : decode bytes pc = .ok (.ireturn, 1)) (hc : cells ≤ R.cells) (hl : slots ≤ R.slots) (q : Q (some (.int z)) h) : Ends p e below (GN Z ws Q R s) (T.setTop (mkF m pc ls (.int z :: rest))) :=
  X.retN rfl hn (Or.inl ⟨rfl, ht, z, rfl⟩) hd hc hl q
theorem Wk.retUN (X : Wk false Z a0 [] own bytes maxL none nm ws p l e R s m args below meth c vm0 T h locs cells slots) (hd : decode bytes pc = .ok (.return_, 1)) (hc : cells ≤ R.cells) (hl : slots ≤ R.slots) (q : Q none h) : Ends p e below (GN Z ws Q R s) (T.setTop (mkF m pc ls [])) := by
  obtain ⟨fs, hr, hrun, hended, hW, hsame⟩ := X.st.leave (v := none) (fun _ => rfl) X.hlk
  have hs : (s.setVm vm0) = s := by rw [X.nr rfl]; rfl
  rw [hs] at hW hsame
  exact ⟨_, _, X.st.returnOut X.hx X.hret (X.hd hd) hr, hrun, hended, _, _, rfl, ⟨by rw [show (T.setFrames fs).heap = h from X.eT]; exact q, X.fr, by rw [show (T.setFrames fs).heap = h from X.eT]; exact X.kp, by rw [show (T.setFrames fs).heap = h from X.eT]; exact X.old⟩, ⟨_, rfl⟩, hW, hsame.mono hc hl⟩
theorem Wk.retC (X : Wk true Z a0 EL own bytes maxL ret nm ws p l e R s m args below meth c vm0 T h locs cells slots) {t : FieldType} {w : Value} {i : Instr} (hR : ret = some t) (hn : narrow t w = w) (hi : (i = .ireturn ∧ (t = .int ∨ t = .boolean ∨ t = .byte ∨ t = .char ∨ t = .short) ∧ ∃ z, w = .int z) ∨ (i = .lreturn ∧ t = .long ∧ ∃ z, w = .long z) ∨ (i = .dreturn ∧ t = .double ∧ ∃ z, w = .double z) ∨ (i = .freturn ∧ t = .float ∧ ∃ z, w = .float z) ∨ (i = .areturn ∧ t.isReference = true ∧ w.isRef = true)) (hd : decode bytes pc = .ok (i, 1)) (hc : cells ≤ R.cells) (hl : slots ≤ R.slots) (q : Q (some w) h) : Ends p e below (GC Z EL ws Q R s) (T.setTop (mkF m pc ls (w :: rest))) := by
  obtain ⟨k0, k1, k2⟩ := X.since
  obtain ⟨fs, hr, hrun, hended, hE⟩ := X.st.leaveW k1 (by rw [X.eT]; exact k2) (v := some w) (fun q => by rw [X.hret, hR] at q; cases q) X.hlk
  obtain ⟨e1, e2, e3, e4⟩ := hE
  have c1 := CHv.at X.st X.hZ X.ew X.H
  exact ⟨_, _, retOut X.st X.hx (X.hret.trans hR) hn hi (X.hd hd) hr, hrun, hended, _, _, rfl, ⟨by rw [show (T.setFrames fs).heap = h from X.eT]; exact q, X.fr, by rw [show (T.setFrames fs).heap = h from X.eT]; exact X.kp, by rw [show (T.setFrames fs).heap = h from X.eT]; exact X.old⟩, by rw [show (T.setFrames fs).heap = h from X.eT]; exact X.ch.trans c1, e1, e2, e3, e4.mono hc hl⟩
theorem Wk.retAC {t : FieldType} (X : Wk true Z a0 EL own bytes maxL (some t) nm ws p l e R s m args below meth c vm0 T h locs cells slots) {w : Value} (ht : t.isReference = true) (hw : w.isRef = true) (hd : decode bytes pc = .ok (.areturn, 1)) (hc : cells ≤ R.cells) (hl : slots ≤ R.slots) (q : Q (some w) h) : Ends p e below (GC Z EL ws Q R s) (T.setTop (mkF m pc ls (w :: rest))) :=
  X.retC rfl (by cases t <;> first | (cases ht; done) | (rcases ref_cases hw with rfl | ⟨z, rfl⟩ <;> rfl)) (Or.inr (Or.inr (Or.inr (Or.inr ⟨rfl, ht, hw⟩)))) hd hc hl q
theorem Wk.retIC {t : FieldType} (X : Wk true Z a0 EL own bytes maxL (some t) nm ws p l e R s m args below meth c vm0 T h locs cells slots) {z : Int32} (ht : t = .int ∨ t = .boolean ∨ t = .byte ∨ t = .char ∨ t = .short) (hn : narrow t (.int z) = .int z) (hd : decode bytes pc = .ok (.ireturn, 1)) (hc : cells ≤ R.cells) (hl : slots ≤ R.slots) (q : Q (some (.int z)) h) : Ends p e below (GC Z EL ws Q R s) (T.setTop (mkF m pc ls (.int z :: rest))) :=
  X.retC rfl hn (Or.inl ⟨rfl, ht, z, rfl⟩) hd hc hl q
theorem Wk.retUC (X : Wk true Z a0 EL own bytes maxL none nm ws p l e R s m args below meth c vm0 T h locs cells slots) (hd : decode bytes pc = .ok (.return_, 1)) (hc : cells ≤ R.cells) (hl : slots ≤ R.slots) (q : Q none h) : Ends p e below (GC Z EL ws Q R s) (T.setTop (mkF m pc ls [])) := by
  obtain ⟨k0, k1, k2⟩ := X.since
  obtain ⟨fs, hr, hrun, hended, hE⟩ := X.st.leaveW k1 (by rw [X.eT]; exact k2) (v := none) (fun _ => rfl) X.hlk
  obtain ⟨e1, e2, e3, e4⟩ := hE
  have c1 := CHv.at X.st X.hZ X.ew X.H
  exact ⟨_, _, X.st.returnOut X.hx X.hret (X.hd hd) hr, hrun, hended, _, _, rfl, ⟨by rw [show (T.setFrames fs).heap = h from X.eT]; exact q, X.fr, by rw [show (T.setFrames fs).heap = h from X.eT]; exact X.kp, by rw [show (T.setFrames fs).heap = h from X.eT]; exact X.old⟩, by rw [show (T.setFrames fs).heap = h from X.eT]; exact X.ch.trans c1, e1, e2, e3, e4.mono hc hl⟩
/-- a place where y is called: the arguments a, rest what lies under them -/
def Site (p : Program) (l : Launch) (e : Env) (R : Room) (s : State) (m : MethodId) (args : Array Value) (below : List Frame) (meth : Method) (c : Code) (T : State) (locs : List Loc) (cells slots : Nat) (g : JFrame) (len : Nat) (y : MethodName) (a : Array Value) (rest : List Value) : Prop :=
  (∀ {W : Nat} {Pre : Pt → Array Value → Prop} {Post : Pt → Array Value → Option Value → Pt → Prop}, Back l R p e below s args y len W Pre Post → 2 * g.monitorRoom + (rest.map fun v => v.category).sum ≤ W → (∀ vm₁, s.WarmedH vm₁ → Pre ⟨T.setVm vm₁, locs, cells, slots⟩ a) →
    ∃ (v : Option Value) (vm₁ : Vm) (B : Pt), s.WarmedH vm₁ ∧ Stand p l e R s m args below meth c B.U B.locs B.cells B.slots ∧ Post ⟨T.setVm vm₁, locs, cells, slots⟩ a v B ∧ ∀ t, Steps p.tables e below (B.U.setTop { g with pc := g.pc + len, stack := v.toList ++ rest }) t → Steps p.tables e below (T.setTop g) t) ∧
  (∀ {W : Nat} {Pre : Pt → Array Value → Prop} {Post : Pt → Array Value → Option Value → Pt → Prop}, BackS l R p e below s args y len W Pre Post → 2 * g.monitorRoom + (rest.map fun v => v.category).sum ≤ W → (∀ vm₁, s.WarmedH vm₁ → Pre ⟨T.setVm vm₁, locs, cells, slots⟩ a) →
    ∃ (v : Option Value) (vm₁ : Vm) (B : Pt), s.WarmedH vm₁ ∧ Stand p l e R (s.setVm B.U.vm) m args below meth c B.U B.locs B.cells B.slots ∧ s.Since B.U.vm B.U.heap.size ∧ T.heap.size ≤ B.U.heap.size ∧ Post ⟨T.setVm vm₁, locs, cells, slots⟩ a v B ∧ ∀ t, Steps p.tables e below (B.U.setTop { g with pc := g.pc + len, stack := v.toList ++ rest }) t → Steps p.tables e below (T.setTop g) t)
theorem Wk.sStatic (X : Wk co Z a0 EL own bytes maxL ret nm ws p l e R s m args below meth c vm0 T h locs cells slots) {index : Nat} {y : MethodName} {ybytes : ByteArray} {ymaxL : Nat} {yret : Option FieldType} (w1 : (Cond.methodLink own index y).before a0 Z = true) (w2 : (Cond.static y).before a0 Z = true) (w3 : (Cond.initialized y.cls).before a0 Z = true) (w4 : (Cond.code y ybytes ymaxL yret).before a0 Z = true) (hy : y.cls ≠ "java/lang/invoke/MethodHandle" ∧ y.cls ≠ "java/lang/invoke/VarHandle") (hls : ls.size = maxL) {ps : List FieldType} {r : Option FieldType} (pd : parseMethodDescriptor y.desc = some ⟨ps, r⟩) (argsL : List Value) {st : List Value} (hlen : argsL.length = ps.length) (hst : st = argsL.reverse ++ rest) (hd : decode bytes pc = .ok (.invokestatic index, 3)) : Site p l e R (s.setVm vm0) m args below meth c T locs cells slots (mkF m pc ls st) 3 y argsL.toArray rest := by
  refine ⟨fun hK hW hpre => ?_, fun hK hW hpre => ?_⟩
  · exact Jvm.LawKit.callS X.st X.hx X.hown (mvT X.hZ w1) (mvT X.hZ w2) (mvT X.hZ w3) (mvT X.hZ w4) hy hK (g := mkF m pc ls st) rfl (hls.trans X.hml.symm) (lenOf pd hlen) hst hW (X.hd hd) hpre
  · obtain ⟨v, vm₁, B, h1, h2, h3, h4, h5, h6⟩ := callSS X.st X.hx X.hown (mvT X.hZ w1) (mvT X.hZ w2) (mvT X.hZ w3) (mvT X.hZ w4) hy hK (g := mkF m pc ls st) rfl (hls.trans X.hml.symm) (lenOf pd hlen) hst hW (X.hd hd) hpre
    exact ⟨v, vm₁, B, h1, h2, h3, h4, h5, fun t q => h6.trans q⟩
theorem Wk.sSpecial (X : Wk co Z a0 EL own bytes maxL ret nm ws p l e R s m args below meth c vm0 T h locs cells slots) {index : Nat} {y : MethodName} {ybytes : ByteArray} {ymaxL : Nat} (hy1 : y.name = "<init>") (w1 : (Cond.methodLink own index y).before a0 Z = true) (w2 : (Cond.instanceMethod y).before a0 Z = true) (w4 : (Cond.code y ybytes ymaxL none).before a0 Z = true) (hy : y.cls ≠ "java/lang/invoke/MethodHandle" ∧ y.cls ≠ "java/lang/invoke/VarHandle") (hls : ls.size = maxL) {ps : List FieldType} {r : Option FieldType} (pd : parseMethodDescriptor y.desc = some ⟨ps, r⟩) {a : Addr} (argsL : List Value) {st : List Value} (hlen : argsL.length = ps.length) (hst : st = argsL.reverse ++ .ref a :: rest) (hd : decode bytes pc = .ok (.invokespecial index, 3)) : Site p l e R (s.setVm vm0) m args below meth c T locs cells slots (mkF m pc ls st) 3 y (.ref a :: argsL).toArray rest := by
  refine ⟨fun hK hW hpre => ?_, fun hK hW hpre => ?_⟩
  · obtain ⟨v, vm₁, B, h1, h2, h5, h6⟩ := X.st.specialBack X.hx hy1 X.hown (mvT X.hZ w1) (mvT X.hZ w2) (mvT X.hZ w4) hy hK (g := mkF m pc ls st) rfl (hls.trans X.hml.symm) (Steps.refl _) (lenOf pd hlen) hst hW (X.hd hd) hpre
    exact ⟨v, vm₁, B, h1, h2, h5, fun t q => h6.trans q⟩
  · obtain ⟨v, vm₁, B, h1, h2, h3, h4, h5, h6⟩ := X.st.specialBackS X.hx hy1 X.hown (mvT X.hZ w1) (mvT X.hZ w2) (mvT X.hZ w4) hy hK (g := mkF m pc ls st) rfl (hls.trans X.hml.symm) (Steps.refl _) (lenOf pd hlen) hst hW (X.hd hd) hpre
    exact ⟨v, vm₁, B, h1, h2, h3, h4, h5, fun t q => h6.trans q⟩
theorem Wk.nf (X : Wk co Z a0 EL own bytes maxL ret nm ws p l e R s m args below meth c vm0 T h locs cells slots) {C : String} {y y' : MethodName} (w : (Cond.selects C y' y').before a0 Z = true) (hc : y'.cls = y.cls) : NotFace (s.setVm vm0) y := fun r0 h0 => by
  obtain ⟨c2, r2, m2, -, -, q3, -, kP, hkP, hkPi⟩ := Cond.selects_spec (mvT X.hZ w (args := #[]))
  have e1 := findClass_of_methodNamed h0
  have e2 := findClass_of_methodNamed q3
  rw [hc] at e2
  have e3 : m2.cls = r0.cls := Option.some.inj (e2.symm.trans e1)
  rw [e3] at hkP
  exact ⟨kP, hkP, hkPi⟩
theorem Wk.sVirtual (X : Wk co Z a0 EL own bytes maxL ret nm ws p l e R s m args below meth c vm0 T h locs cells slots) {index : Nat} {C : String} {y z : MethodName} (w1 : (Cond.methodLink own index y).before a0 Z = true) (w2 : (Cond.declares y).before a0 Z = true) (w3 : (Cond.selects C y z).before a0 Z = true) (w4 : (Cond.instanceMethod z).before a0 Z = true) (hy : y.cls ≠ "java/lang/invoke/MethodHandle" ∧ y.cls ≠ "java/lang/invoke/VarHandle") (hls : ls.size = maxL) {ps : List FieldType} {r : Option FieldType} (pd : parseMethodDescriptor y.desc = some ⟨ps, r⟩) {a : Addr} (E : Exa Z h a C) (argsL : List Value) {st : List Value} (hlen : argsL.length = ps.length) (hst : st = argsL.reverse ++ .ref a :: rest) (hd : decode bytes pc = .ok (.invokevirtual index, 3)) (nf : NotFace (s.setVm vm0) y) : Site p l e R (s.setVm vm0) m args below meth c T locs cells slots (mkF m pc ls st) 3 z (.ref a :: argsL).toArray rest := by
  obtain ⟨cq, kq, qa, qb, qc⟩ := isOf X.hZ X.eT E
  refine ⟨fun hK hW hpre => ?_, fun hK hW hpre => ?_⟩
  · obtain ⟨v, vm₁, B, h1, h2, h5, h6⟩ := X.st.virtualBack X.hx X.hown (mvT X.hZ w1) (mvT X.hZ w2) nf (mvT X.hZ w3) (mvT X.hZ w4) hy hK qa qc (g := mkF m pc ls st) rfl (hls.trans X.hml.symm) (Steps.refl _) (lenOf pd hlen) hst hW (X.hd hd) hpre
    exact ⟨v, vm₁, B, h1, h2, h5, fun t q => h6.trans q⟩
  · obtain ⟨v, vm₁, B, h1, h2, h3, h4, h5, h6⟩ := X.st.virtualBackS X.hx X.hown (mvT X.hZ w1) (mvT X.hZ w2) nf (mvT X.hZ w3) (mvT X.hZ w4) hy hK qa qc (g := mkF m pc ls st) rfl (hls.trans X.hml.symm) (Steps.refl _) (lenOf pd hlen) hst hW (X.hd hd) hpre
    exact ⟨v, vm₁, B, h1, h2, h3, h4, h5, fun t q => h6.trans q⟩
theorem Wk.callV (X : Wk co Z a0 EL own bytes maxL ret nm ws p l e R s m args below meth c vm0 T h locs cells slots) {len : Nat} {y : MethodName} {ybytes : ByteArray} {ymaxL : Nat} {yret : Option FieldType} {rm : Room} {a : Array Value} {wc : List Addr} {Q : Value → Heap → Prop} {st : List Value} (S : Site p l e R (s.setVm vm0) m args below meth c T locs cells slots (mkF m pc ls st) len y a rest) (M : MN l Z y ybytes ymaxL yret [] rm a h wc (RV Q)) (w4 : (Cond.code y ybytes ymaxL yret).before a0 Z = true) (w3 : (Cond.initialized y.cls).before a0 Z = true) (hf : rm.frames + 1 ≤ R.frames) (hl : (rest.map fun v => v.category).sum + (ymaxL + 11) + rm.locals ≤ R.locals) (hc : cells + rm.cells ≤ R.cells) (hs : slots + rm.slots ≤ R.slots) (Sf : ∀ x ∈ wc, Safe Z EL vm0 h x) (hz : ∀ x ∈ wc, Z.heap.size ≤ x) (hk : ∀ x ∈ wc, x ∈ ws ∨ s.heap.size ≤ x) (hp : pc + len = pc') (k : ∀ T h' L (v : Value), Wk co Z a0 EL own bytes maxL ret nm ws p l e R s m args below meth c vm0 T h' L (cells + rm.cells) (slots + rm.slots) → Keep h h' wc → Q v h' → Ends p e below G (T.setTop (mkF m pc' ls (v :: rest)))) : Ends p e below G (T.setTop (mkF m pc ls st)) := by
  subst hp
  obtain ⟨v, vm₁, ⟨T', L', k', n'⟩, h1, Y, ⟨Lc, ⟨⟨w, rfl, q1⟩, q2, q3, q4⟩, l1, l2, l3⟩, st1⟩ := S.1 (backOf (Q := fun v h' L => (RV Q) v h' ∧ Fr Z.heap.size L ∧ Keep h h' wc ∧ Ext Z.heap h') (W := (rest.map fun v => v.category).sum) M X.hZ w4 w3 hf hl) (by show 2 * 0 + _ ≤ _; rw [Nat.mul_zero, Nat.zero_add]; exact Nat.le_refl _) (fun vm₁ _ => ⟨rfl, X.eT, hc, hs⟩)
  dsimp only [Pt.U, Pt.locs, Pt.cells, Pt.slots] at Y l1 l2 l3 st1 q2 q3 q4 q1
  subst l1 l2 l3
  exact Ends.go st1 (k _ _ _ _ (X.keep Y rfl q3 Sf q2 hz hk) q3 q1)
theorem Wk.callU (X : Wk co Z a0 EL own bytes maxL ret nm ws p l e R s m args below meth c vm0 T h locs cells slots) {len : Nat} {y : MethodName} {ybytes : ByteArray} {ymaxL : Nat} {yret : Option FieldType} {rm : Room} {a : Array Value} {wc : List Addr} {Q : Heap → Prop} {st : List Value} (S : Site p l e R (s.setVm vm0) m args below meth c T locs cells slots (mkF m pc ls st) len y a rest) (M : MN l Z y ybytes ymaxL yret [] rm a h wc (RU Q)) (w4 : (Cond.code y ybytes ymaxL yret).before a0 Z = true) (w3 : (Cond.initialized y.cls).before a0 Z = true) (hf : rm.frames + 1 ≤ R.frames) (hl : (rest.map fun v => v.category).sum + (ymaxL + 11) + rm.locals ≤ R.locals) (hc : cells + rm.cells ≤ R.cells) (hs : slots + rm.slots ≤ R.slots) (Sf : ∀ x ∈ wc, Safe Z EL vm0 h x) (hz : ∀ x ∈ wc, Z.heap.size ≤ x) (hk : ∀ x ∈ wc, x ∈ ws ∨ s.heap.size ≤ x) (hp : pc + len = pc') (k : ∀ T h' L, Wk co Z a0 EL own bytes maxL ret nm ws p l e R s m args below meth c vm0 T h' L (cells + rm.cells) (slots + rm.slots) → Keep h h' wc → Q h' → Ends p e below G (T.setTop (mkF m pc' ls rest))) : Ends p e below G (T.setTop (mkF m pc ls st)) := by
  subst hp
  obtain ⟨v, vm₁, ⟨T', L', k', n'⟩, h1, Y, ⟨Lc, ⟨⟨rfl, q1⟩, q2, q3, q4⟩, l1, l2, l3⟩, st1⟩ := S.1 (backOf (Q := fun v h' L => (RU Q) v h' ∧ Fr Z.heap.size L ∧ Keep h h' wc ∧ Ext Z.heap h') (W := (rest.map fun v => v.category).sum) M X.hZ w4 w3 hf hl) (by show 2 * 0 + _ ≤ _; rw [Nat.mul_zero, Nat.zero_add]; exact Nat.le_refl _) (fun vm₁ _ => ⟨rfl, X.eT, hc, hs⟩)
  dsimp only [Pt.U, Pt.locs, Pt.cells, Pt.slots] at Y l1 l2 l3 st1 q2 q3 q4 q1
  subst l1 l2 l3
  exact Ends.go st1 (k _ _ _ (X.keep Y rfl q3 Sf q2 hz hk) q3 q1)
theorem Wk.callP (X : Wk co Z a0 EL own bytes maxL ret nm ws p l e R s m args below meth c vm0 T h locs cells slots) {len : Nat} {y : MethodName} {ybytes : ByteArray} {ymaxL : Nat} {yret : Option FieldType} {rm : Room} {a : Array Value} {Q : Value → Prop} {st : List Value} (S : Site p l e R (s.setVm vm0) m args below meth c T locs cells slots (mkF m pc ls st) len y a rest) (M : MN l Z y ybytes ymaxL yret [] rm a h [] (RP h Q)) (w4 : (Cond.code y ybytes ymaxL yret).before a0 Z = true) (w3 : (Cond.initialized y.cls).before a0 Z = true) (hf : rm.frames + 1 ≤ R.frames) (hl : (rest.map fun v => v.category).sum + (ymaxL + 11) + rm.locals ≤ R.locals) (hc : cells + rm.cells ≤ R.cells) (hs : slots + rm.slots ≤ R.slots) (hp : pc + len = pc') (k : ∀ T L (v : Value), Wk co Z a0 EL own bytes maxL ret nm ws p l e R s m args below meth c vm0 T h L (cells + rm.cells) (slots + rm.slots) → Q v → Ends p e below G (T.setTop (mkF m pc' ls (v :: rest)))) : Ends p e below G (T.setTop (mkF m pc ls st)) := by
  subst hp
  obtain ⟨v, vm₁, ⟨T', L', k', n'⟩, h1, Y, ⟨Lc, ⟨⟨w, rfl, e1, q1⟩, q2, q3, q4⟩, l1, l2, l3⟩, st1⟩ := S.1 (backOf (Q := fun v h' L => (RP h Q) v h' ∧ Fr Z.heap.size L ∧ Keep h h' [] ∧ Ext Z.heap h') (W := (rest.map fun v => v.category).sum) M X.hZ w4 w3 hf hl) (by show 2 * 0 + _ ≤ _; rw [Nat.mul_zero, Nat.zero_add]; exact Nat.le_refl _) (fun vm₁ _ => ⟨rfl, X.eT, hc, hs⟩)
  dsimp only [Pt.U, Pt.locs, Pt.cells, Pt.slots] at Y l1 l2 l3 st1 q2 q3 q4 e1
  subst l1 l2 l3
  exact Ends.go st1 (k _ _ _ (by have W := X.keep Y rfl q3 sf0 q2 all0 all0; rw [e1] at W; exact W) q1)
theorem Wk.callO (X : Wk co Z a0 EL own bytes maxL ret nm ws p l e R s m args below meth c vm0 T h locs cells slots) {len : Nat} {y : MethodName} {ybytes : ByteArray} {ymaxL : Nat} {yret : Option FieldType} {rm : Room} {a : Array Value}  {st : List Value} (S : Site p l e R (s.setVm vm0) m args below meth c T locs cells slots (mkF m pc ls st) len y a rest) (M : MN l Z y ybytes ymaxL yret [] rm a h [] (RO h)) (w4 : (Cond.code y ybytes ymaxL yret).before a0 Z = true) (w3 : (Cond.initialized y.cls).before a0 Z = true) (hf : rm.frames + 1 ≤ R.frames) (hl : (rest.map fun v => v.category).sum + (ymaxL + 11) + rm.locals ≤ R.locals) (hc : cells + rm.cells ≤ R.cells) (hs : slots + rm.slots ≤ R.slots) (hp : pc + len = pc') (k : ∀ T L, Wk co Z a0 EL own bytes maxL ret nm ws p l e R s m args below meth c vm0 T h L (cells + rm.cells) (slots + rm.slots) → Ends p e below G (T.setTop (mkF m pc' ls rest))) : Ends p e below G (T.setTop (mkF m pc ls st)) := by
  subst hp
  obtain ⟨v, vm₁, ⟨T', L', k', n'⟩, h1, Y, ⟨Lc, ⟨⟨rfl, e1⟩, q2, q3, q4⟩, l1, l2, l3⟩, st1⟩ := S.1 (backOf (Q := fun v h' L => (RO h) v h' ∧ Fr Z.heap.size L ∧ Keep h h' [] ∧ Ext Z.heap h') (W := (rest.map fun v => v.category).sum) M X.hZ w4 w3 hf hl) (by show 2 * 0 + _ ≤ _; rw [Nat.mul_zero, Nat.zero_add]; exact Nat.le_refl _) (fun vm₁ _ => ⟨rfl, X.eT, hc, hs⟩)
  dsimp only [Pt.U, Pt.locs, Pt.cells, Pt.slots] at Y l1 l2 l3 st1 q2 q3 q4 e1
  subst l1 l2 l3
  exact Ends.go st1 (k _ _ (by have W := X.keep Y rfl q3 sf0 q2 all0 all0; rw [e1] at W; exact W))
theorem Wk.coldV (X : Wk true Z a0 EL own bytes maxL ret nm ws p l e R s m args below meth c vm0 T h locs cells slots) {len : Nat} {y : MethodName} {ybytes : ByteArray} {ymaxL : Nat} {yret : Option FieldType} {rm : Room} {a : Array Value} {wc : List Addr} {Q : Value → Heap → Prop} {st : List Value} (S : Site p l e R (s.setVm vm0) m args below meth c T locs cells slots (mkF m pc ls st) len y a rest) (M : MCc l Z EL y ybytes ymaxL yret [] rm a h wc (RV Q)) (w4 : (Cond.code y ybytes ymaxL yret).before a0 Z = true) (w3 : (Cond.initialized y.cls).before a0 Z = true) (hf : rm.frames + 1 ≤ R.frames) (hl : (rest.map fun v => v.category).sum + (ymaxL + 11) + rm.locals ≤ R.locals) (hc : cells + rm.cells ≤ R.cells) (hs : slots + rm.slots ≤ R.slots) (hk : ∀ x ∈ wc, x ∈ ws ∨ s.heap.size ≤ x) (hp : pc + len = pc') (k : ∀ T vm h' L (v : Value), Wk true Z a0 EL own bytes maxL ret nm ws p l e R s m args below meth c vm T h' L (cells + rm.cells) (slots + rm.slots) → Keep h h' wc → CHr Z EL vm0 h vm h' → Q v h' → Ends p e below G (T.setTop (mkF m pc' ls (v :: rest)))) : Ends p e below G (T.setTop (mkF m pc ls st)) := by
  subst hp
  obtain ⟨v, vm₁, ⟨T', L', k', n'⟩, h1, Y, hS, hgr, ⟨Lc, ⟨⟨w, rfl, q1⟩, q2, q3, q4⟩, l1, l2, l3, hC⟩, st1⟩ := S.2 (backOfSH (s := s) (Q := fun v h' L => (RV Q) v h' ∧ Fr Z.heap.size L ∧ Keep h h' wc ∧ Ext Z.heap h') (W := (rest.map fun v => v.category).sum) M X.hZ w4 w3 hf hl X.ew X.H) (by show 2 * 0 + _ ≤ _; rw [Nat.mul_zero, Nat.zero_add]; exact Nat.le_refl _) (fun vm₁ _ => ⟨rfl, X.eT, hc, hs⟩)
  dsimp only [Pt.U, Pt.locs, Pt.cells, Pt.slots] at Y l1 l2 l3 st1 q1 q2 q3 q4 hS hC
  subst l1 l2 l3
  exact Ends.go st1 (k _ _ _ _ _ (X.cold Y hS hC q3 q2 q4 hk) q3 hC q1)
theorem Wk.coldU (X : Wk true Z a0 EL own bytes maxL ret nm ws p l e R s m args below meth c vm0 T h locs cells slots) {len : Nat} {y : MethodName} {ybytes : ByteArray} {ymaxL : Nat} {yret : Option FieldType} {rm : Room} {a : Array Value} {wc : List Addr} {Q : Heap → Prop} {st : List Value} (S : Site p l e R (s.setVm vm0) m args below meth c T locs cells slots (mkF m pc ls st) len y a rest) (M : MCc l Z EL y ybytes ymaxL yret [] rm a h wc (RU Q)) (w4 : (Cond.code y ybytes ymaxL yret).before a0 Z = true) (w3 : (Cond.initialized y.cls).before a0 Z = true) (hf : rm.frames + 1 ≤ R.frames) (hl : (rest.map fun v => v.category).sum + (ymaxL + 11) + rm.locals ≤ R.locals) (hc : cells + rm.cells ≤ R.cells) (hs : slots + rm.slots ≤ R.slots) (hk : ∀ x ∈ wc, x ∈ ws ∨ s.heap.size ≤ x) (hp : pc + len = pc') (k : ∀ T vm h' L, Wk true Z a0 EL own bytes maxL ret nm ws p l e R s m args below meth c vm T h' L (cells + rm.cells) (slots + rm.slots) → Keep h h' wc → CHr Z EL vm0 h vm h' → Q h' → Ends p e below G (T.setTop (mkF m pc' ls rest))) : Ends p e below G (T.setTop (mkF m pc ls st)) := by
  subst hp
  obtain ⟨v, vm₁, ⟨T', L', k', n'⟩, h1, Y, hS, hgr, ⟨Lc, ⟨⟨rfl, q1⟩, q2, q3, q4⟩, l1, l2, l3, hC⟩, st1⟩ := S.2 (backOfSH (s := s) (Q := fun v h' L => (RU Q) v h' ∧ Fr Z.heap.size L ∧ Keep h h' wc ∧ Ext Z.heap h') (W := (rest.map fun v => v.category).sum) M X.hZ w4 w3 hf hl X.ew X.H) (by show 2 * 0 + _ ≤ _; rw [Nat.mul_zero, Nat.zero_add]; exact Nat.le_refl _) (fun vm₁ _ => ⟨rfl, X.eT, hc, hs⟩)
  dsimp only [Pt.U, Pt.locs, Pt.cells, Pt.slots] at Y l1 l2 l3 st1 q1 q2 q3 q4 hS hC
  subst l1 l2 l3
  exact Ends.go st1 (k _ _ _ _ (X.cold Y hS hC q3 q2 q4 hk) q3 hC q1)
end Ends2
end Jvm.Pilot.@@N@@.Y
namespace Jvm.Pilot.@@N@@.Y
open Jvm Jvm.ClassFile Sem Op Lib Jvm.Free Jvm.Stand Jvm.LawKit Jvm.RoadKit Bundle
section Str
variable {co : Bool} {Z : State} {a0 : Array Value} {EL : List (String × Nat)} {own : String} {bytes : ByteArray} {maxL : Nat} {ret : Option FieldType} {nm : String} {ws : List Addr} {p : Program} {l : Launch} {e : Env} {R : Room} {s : State} {m : MethodId} {args : Array Value} {below : List Frame} {meth : Method} {c : Code} {vm0 : Vm} {T : State} {h h' : Heap} {locs : List Loc} {cells slots : Nat} {G : Outcome → State → Prop} {pc pc' : Nat} {ls : Array Slot} {rest : List Value} {Q : Option Value → Heap → Prop}
/-- x is a String that spells cs -/
def Str (Z : State) (h : Heap) (x : Addr) (cs : List Int32) : Prop := ∃ (t : Addr) (kb : ClassId) (cd N : Int32) (vs : List Value), Exa Z h x "java/lang/String" ∧ Fld Z h x "java/lang/String" "value" "[B" (.ref t) ∧ Fld Z h x "java/lang/String" "coder" "B" (.int cd) ∧ Arv Z h t kb .byte N vs (.int 0) ∧ StrChars.Road.CodA cs cd N vs ∧ (∀ c ∈ cs, ¬ c < 0 ∧ ¬ (65535 : Int32) < c) ∧ cs.length ≤ 4000
theorem Str.exa {x : Addr} {cs : List Int32} (S : Str Z h x cs) : Exa Z h x "java/lang/String" := by obtain ⟨_, _, _, _, _, E, -⟩ := S; exact E
theorem Str.lt {x : Addr} {cs : List Int32} (S : Str Z h x cs) : x < h.size := S.exa.lt
theorem Str.ext {x : Addr} {cs : List Int32} (S : Str Z h x cs) (E : Ext h h') : Str Z h' x cs := by
  obtain ⟨t, kb, cd, N, vs, s1, s2, s3, s4, r⟩ := S; exact ⟨t, kb, cd, N, vs, s1.ext E, s2.ext E, s3.ext E, s4.ext E, r⟩
theorem Str.keep0 {x : Addr} {cs : List Int32} (S : Str Z h x cs) (K : Keep h h' []) : Str Z h' x cs := by
  obtain ⟨t, kb, cd, N, vs, s1, s2, s3, s4, r⟩ := S; exact ⟨t, kb, cd, N, vs, s1.keep K, s2.keep K nin0, s3.keep K nin0, s4.keep K nin0, r⟩
/-- a is an object, no array -/
def Obj (Z : State) (h : Heap) (a : Addr) : Prop := ∃ (C : String) (k : Nat) (a0 : Array Value), Exa Z h a C ∧ (Cond.instantiable C k).before a0 Z = true
theorem obj {C : String} {k : Nat} {a : Addr} (E : Exa Z h a C) (w : (Cond.instantiable C k).before a0 Z = true) : Obj Z h a := ⟨C, k, a0, E, w⟩
theorem Obj.ne {a b : Addr} {k : ClassId} {ty : FieldType} {z : Int32} {vs : List Value} {d : Value} (O : Obj Z h a) (A : Arv Z h b k ty z vs d) : b ≠ a := by
  obtain ⟨C, n, a0, E, w⟩ := O; exact Ne.symm (Exa.neArv E A w)
theorem arv_ty {a b : Addr} {k1 k2 : ClassId} {t1 t2 : FieldType} {z1 z2 : Int32} {v1 v2 : List Value} {d1 d2 : Value} (A : Arv Z h a k1 t1 z1 v1 d1) (B : Arv Z h b k2 t2 z2 v2 d2) (q : t1 ≠ t2) : a ≠ b := fun e => by
  subst e
  obtain ⟨c1, ⟨a1, ⟨-, kA, hkA, compA, hkindA⟩, -⟩, -⟩ := A
  obtain ⟨c2, ⟨b1, ⟨-, kB, hkB, compB, hkindB⟩, -⟩, -⟩ := B
  cases a1.symm.trans b1
  cases hkA.symm.trans hkB
  have := hkindA.symm.trans hkindB
  injection this with _ e
  exact q e
theorem Str.keep1 {x a : Addr} {cs : List Int32} (S : Str Z h x cs) (K : Keep h h' [a]) (ne : x ≠ a) (O : Obj Z h a) : Str Z h' x cs := by
  obtain ⟨t, kb, cd, N, vs, s1, s2, s3, s4, r⟩ := S
  exact ⟨t, kb, cd, N, vs, s1.keep K, s2.keep K (ninS ne nin0), s3.keep K (ninS ne nin0), s4.keep K (ninS (O.ne s4) nin0), r⟩
theorem Str.keep2 {x a b : Addr} {cs : List Int32} {k : ClassId} {ty : FieldType} {z : Int32} {vs' : List Value} {d : Value} (S : Str Z h x cs) (K : Keep h h' [a, b]) (ne : x ≠ a) (O : Obj Z h a) (ne' : x ≠ b) (B : Arv Z h b k ty z vs' d ∧ ty ≠ .byte) : Str Z h' x cs := by
  obtain ⟨t, kb, cd, N, vs, s1, s2, s3, s4, r⟩ := S
  exact ⟨t, kb, cd, N, vs, s1.keep K, s2.keep K (ninS ne (ninS ne' nin0)), s3.keep K (ninS ne (ninS ne' nin0)), s4.keep K (ninS (O.ne s4) (ninS (Ne.symm (arv_ty B.1 s4 B.2)) nin0)), r⟩
theorem Str.wrA {x a : Addr} {cs : List Int32} {k : ClassId} {ty : FieldType} {z : Int32} {vs' : List Value} {d v : Value} {sl n : Nat} (S : Str Z h x cs) (W : Wr h h' a sl v) (A : Arv Z h a k ty z vs' d) (q : ty ≠ .byte) (wi : (Cond.instantiable "java/lang/String" n).before a0 Z = true) : Str Z h' x cs := by
  obtain ⟨t, kb, cd, N, vs, s1, s2, s3, s4, r⟩ := S
  have n1 : x ≠ a := Exa.neArv s1 A wi
  have n2 : t ≠ a := Ne.symm (arv_ty A s4 q)
  exact ⟨t, kb, cd, N, vs, s1.wr W, s2.other W (Or.inl n1), s3.other W (Or.inl n1), s4.other W n2, r⟩
theorem chr255 {x c : Int32} (q : (x &&& (255 : Int32)).toUInt32.toUInt16.toUInt32.toInt32 = c) : (¬ c < 0 ∧ ¬ (255 : Int32) < c) ∧ nar .char c = c := by
  rw [i2c_mask] at q
  have h1 := c_and x 255 (by decide)
  rw [q] at h1
  have e255 : (255 : Int32).toInt = 255 := rfl
  refine ⟨⟨fun z => ?_, fun z => ?_⟩, ?_⟩
  · rw [Int32.lt_iff_toInt_lt] at z; have : (0 : Int32).toInt = 0 := rfl; omega
  · rw [Int32.lt_iff_toInt_lt] at z; omega
  · show c.toUInt32.toUInt16.toUInt32.toInt32 = c
    rw [← q]; exact i2c_mask x
theorem narB (x : Int32) : nar .byte (x.toInt8.toInt32) = x.toInt8.toInt32 := by
  show x.toInt8.toInt32.toInt8.toInt32 = x.toInt8.toInt32
  rw [Int8.toInt8_toInt32]
theorem up16 {cs : List Int32} (h : ∀ c ∈ cs, ¬ c < 0 ∧ ¬ (255 : Int32) < c) : ∀ c ∈ cs, ¬ c < 0 ∧ ¬ (65535 : Int32) < c := fun c hc => ⟨(h c hc).1, fun q => (h c hc).2 (by rw [Int32.lt_iff_toInt_lt] at q ⊢; have e1 : (65535 : Int32).toInt = 65535 := rfl; have e2 : (255 : Int32).toInt = 255 := rfl; omega)⟩
theorem all1 {P : Int32 → Prop} {c : Int32} (h : P c) : ∀ d ∈ [c], P d := fun d hd => by cases List.mem_singleton.mp hd; exact h
theorem allC {P : Int32 → Prop} {c : Int32} {cs : List Int32} (h : P c) (r : ∀ d ∈ cs, P d) : ∀ d ∈ c :: cs, P d := fun d hd => by
  rcases List.mem_cons.mp hd with rfl | hd
  · exact h
  · exact r d hd
theorem allN {P : Int32 → Prop} : ∀ d ∈ ([] : List Int32), P d := fun d hd => nomatch hd
theorem eqI_v {args : Array Value} {t : Term} {v : Int32} (h : (Cond.eq t (.int v)).value args Z none Z [] = some true) : t.eval args Z none [] Z = some (.int v) := by
  obtain ⟨x, y, e1, e2, -, k2⟩ := cmp_v (Or.inl h)
  have e3 : (Term.int v).eval args Z none [] Z = some (.int v) := Term.int_eval v
  cases e2.symm.trans e3
  obtain ⟨z, rfl⟩ := k2
  have := gotT (Cond.eq_ints e1 e3) h
  rw [e1, this]
theorem noInst {C K : String} {n : Nat} (w : (Cond.superclass C "java/lang/Object").before a0 Z = true) (wo : (Cond.noSuperclass "java/lang/Object").before a0 Z = true) (wk : (Cond.instantiable K n).before a0 Z = true) (q1 : C ≠ K) (q2 : "java/lang/Object" ≠ K) : ∃ c t, Z.vm.findClass C = some c ∧ Z.vm.findClass K = some t ∧ Z.vm.assignable c t = false := by
  obtain ⟨t, kt, g0, g2, g5, g6, -⟩ := Cond.instantiable_spec wk
  have g7 : kt.isInterface = false := (Bool.or_eq_false_iff.mp g6).1
  obtain ⟨co, ko, o1, o2, o3, -, -⟩ := Cond.noSuperclass_spec wo
  have nO : NS Z "java/lang/Object" K := by
    have ne := ids_ne o1 g0 q2
    refine ⟨co, t, o1, g0, fun fuel => ?_⟩
    cases fuel with
    | zero => rfl
    | succ f => simp [Vm.isSubclassAux, ne, o2, o3]
  obtain ⟨c, t', h0, g0', n3⟩ := NS.step w nO q1
  cases g0.symm.trans g0'
  obtain ⟨p, k, kp, h1, h2, h3, h4, h5, -, h7⟩ := Cond.superclass_spec h0 w
  have ne := ids_ne h0 g0 q1
  refine ⟨c, t, h0, g0, ?_⟩
  show Z.vm.assignableAux (255 + 1) c t = false
  simp [Vm.assignableAux, ne, h2, g2, h5, g5, g7, Vm.isSubclass, n3]
/-- new String(chars): one to 4,000 chars, each 0 to 255 -/
theorem Wk.newStr (X : Wk co Z a0 EL own bytes maxL ret nm ws p l e R s m args below meth c vm0 T h locs cells slots) {st : List Value} {x b : Addr} {kC : ClassId} {cs : List Int32} {d c0 : Value} {z N : Int32} {n : Nat} (S : Site p l e R (s.setVm vm0) m args below meth c T locs cells slots (mkF m pc ls st) 3 (⟨"java/lang/String", "<init>", "([C)V"⟩ : MethodName) #[.ref x, .ref b] rest) (hws : ∀ d ∈ StrChars.Road.words, d.before a0 Z = true) {kI : Nat} (wi : (Cond.instantiable "java/lang/String" kI).before a0 Z = true) (Ex : Exa Z h x "java/lang/String") (V : Fld Z h x "java/lang/String" "value" "[B" .null) (C : Fld Z h x "java/lang/String" "coder" "B" c0) (K : Arv Z h b kC .char N (cs.map Value.int) d) (O2 : Sta Z Z.heap "java/lang/String" "COMPACT_STRINGS" "Z" (.int z)) (hz : ¬ z = 0) (hn : cs.length = n) (hN : N = Int32.ofNat n) (l0 : 0 < n) (l2 : n ≤ 4000) (hp : ∀ c ∈ cs, ¬ c < 0 ∧ ¬ (255 : Int32) < c) (hfr : 4 ≤ R.frames) (hlo : (rest.map fun v => v.category).sum + 65 ≤ R.locals) (hc : cells + 1 ≤ R.cells) (hs : slots + n ≤ R.slots) (zx : Z.heap.size ≤ x) (hk : x ∈ ws ∨ s.heap.size ≤ x) (hpc : pc + 3 = pc') (k : ∀ T h' L, Wk co Z a0 EL own bytes maxL ret nm ws p l e R s m args below meth c vm0 T h' L (cells + 1) (slots + n) → Keep h h' [x] → Str Z h' x cs → Ends p e below G (T.setTop (mkF m pc' ls rest))) : Ends p e below G (T.setTop (mkF m pc ls st)) := by
  subst hpc
  obtain ⟨v, vm₁, ⟨T', L', k', n'⟩, h1, Y, ⟨Lc, ⟨rfl, q2, q3, q4, q5, t, kb, -, -, -, q6, q7⟩, l1, l3, l4⟩, st1⟩ := S.1 (StrChars.Road.backV (W := (rest.map fun v => v.category).sum) X.hZ hws wi (n0 := Z.heap.size) zx X.old.1 Ex V C K (O2.ext X.old) hz hn hN l0 l2 hp rfl hfr hlo) (by show 2 * 0 + _ ≤ _; rw [Nat.mul_zero, Nat.zero_add]; exact Nat.le_refl _) (fun vm₁ _ => ⟨rfl, X.eT, hc, hs⟩)
  dsimp only [Pt.U, Pt.locs, Pt.cells, Pt.slots] at Y l1 l3 l4 st1 q2 q3 q4 q5 q6 q7
  subst l1 l3 l4
  have hcod : StrChars.Road.CodA cs 0 N ((cs.map fun c => c.toInt8.toInt32).map Value.int) := by rw [hN]; exact StrChars.Road.codOf hn fun c hc => (hp c hc).2
  exact Ends.go st1 (k _ _ _ (X.keep Y rfl q3 (sfS (Safe.blank X.al Ex wi V) sf0) q2 (allS zx all0) (allS hk all0)) q3 ⟨t, kb, 0, N, _, q4, q6, q5, q7, hcod, up16 hp, by omega⟩)
/-- String.length of a known String -/
theorem Wk.lenStr (X : Wk co Z a0 EL own bytes maxL ret nm ws p l e R s m args below meth c vm0 T h locs cells slots) {st : List Value} {x : Addr} {cs : List Int32} {z : Int32} (S : Site p l e R (s.setVm vm0) m args below meth c T locs cells slots (mkF m pc ls st) 3 (⟨"java/lang/String", "length", "()I"⟩ : MethodName) #[.ref x] rest) (hws : ∀ d ∈ StrChars.Road.wordsLen, d.before a0 Z = true) {kI : Nat} (wi : (Cond.instantiable "java/lang/String" kI).before a0 Z = true) (A : Str Z h x cs) (O2 : Sta Z Z.heap "java/lang/String" "COMPACT_STRINGS" "Z" (.int z)) (hz : ¬ z = 0) (hfr : 2 ≤ R.frames) (hlo : (rest.map fun v => v.category).sum + 25 ≤ R.locals) (hc : cells + 0 ≤ R.cells) (hs : slots + 0 ≤ R.slots) (hpc : pc + 3 = pc') (k : ∀ T, Wk co Z a0 EL own bytes maxL ret nm ws p l e R s m args below meth c vm0 T h locs cells slots → Ends p e below G (T.setTop (mkF m pc' ls (.int (Int32.ofNat cs.length) :: rest)))) : Ends p e below G (T.setTop (mkF m pc ls st)) := by
  subst hpc
  obtain ⟨t, kb, cd, N, vs, s1, s2, s3, s4, s5, s6, s7⟩ := A
  obtain ⟨v, vm₁, ⟨T', L', k', n'⟩, h1, Y, ⟨Lc, ⟨rfl, rfl, q3⟩, l1, l3, l4⟩, st1⟩ := S.1 (StrChars.Road.lenW (W := (rest.map fun v => v.category).sum) X.hZ hws wi s1 s2 s3 s4 s5 s6 (O2.ext X.old) hz s7 hfr hlo) (by show 2 * 0 + _ ≤ _; rw [Nat.mul_zero, Nat.zero_add]; exact Nat.le_refl _) (fun vm₁ _ => ⟨rfl, X.eT, hc, hs⟩)
  dsimp only [Pt.U, Pt.locs, Pt.cells, Pt.slots] at Y l1 l3 l4 st1 q3
  subst l1 l3 l4
  rw [List.append_nil] at Y
  exact Ends.go st1 (k _ (X.same Y q3))
/-- String.charAt of a known Latin-1 String -/
theorem Wk.chStr (X : Wk co Z a0 EL own bytes maxL ret nm ws p l e R s m args below meth c vm0 T h locs cells slots) {st : List Value} {x : Addr} {cs : List Int32} {z : Int32} {fm : Value} {i : Nat} {j : Int32} (S : Site p l e R (s.setVm vm0) m args below meth c T locs cells slots (mkF m pc ls st) 3 (⟨"java/lang/String", "charAt", "(I)C"⟩ : MethodName) #[.ref x, .int j] rest) (hws : ∀ d ∈ StrChars.Road.wordsChN, d.before a0 Z = true) {kI : Nat} (wi : (Cond.instantiable "java/lang/String" kI).before a0 Z = true) (A : Str Z h x cs) (hlat : ∀ c ∈ cs, ¬ (255 : Int32) < c) (O2 : Sta Z Z.heap "java/lang/String" "COMPACT_STRINGS" "Z" (.int z)) (hz : ¬ z = 0) (F : Sta Z Z.heap "jdk/internal/util/Preconditions" "SIOOBE_FORMATTER" "Ljava/util/function/BiFunction;" fm) (rf : fm.isRef = true) (hi : i < cs.length) (hj : j = Int32.ofNat i) (hfr : 4 ≤ R.frames) (hlo : (rest.map fun v => v.category).sum + 53 ≤ R.locals) (hc : cells + 0 ≤ R.cells) (hs : slots + 0 ≤ R.slots) (hpc : pc + 3 = pc') (k : ∀ T, Wk co Z a0 EL own bytes maxL ret nm ws p l e R s m args below meth c vm0 T h locs cells slots → Ends p e below G (T.setTop (mkF m pc' ls (.int (cs.getD i 0) :: rest)))) : Ends p e below G (T.setTop (mkF m pc ls st)) := by
  subst hpc
  obtain ⟨t, kb, cd, N, vs, s1, s2, s3, s4, s5, s6, s7⟩ := A
  obtain rfl : cd = 0 := by
    rcases s5 with q | ⟨-, -, -, c, hc, q⟩
    · exact q.1
    · exact absurd q (hlat c hc)
  obtain ⟨v, vm₁, ⟨T', L', k', n'⟩, h1, Y, ⟨Lc, ⟨rfl, rfl, q3⟩, l1, l3, l4⟩, st1⟩ := S.1 (StrChars.Road.chN (W := (rest.map fun v => v.category).sum) X.hZ hws wi s1 s2 s3 s4 s5 s6 (O2.ext X.old) hz (F.ext X.old) rf s7 hi hj hfr hlo) (by show 2 * 0 + _ ≤ _; rw [Nat.mul_zero, Nat.zero_add]; exact Nat.le_refl _) (fun vm₁ _ => ⟨rfl, X.eT, hc, hs⟩)
  dsimp only [Pt.U, Pt.locs, Pt.cells, Pt.slots] at Y l1 l3 l4 st1 q3
  subst l1 l3 l4
  rw [List.append_nil] at Y
  exact Ends.go st1 (k _ (X.same Y q3))
end Str
end Jvm.Pilot.@@N@@.Y
namespace Jvm.Pilot.@@N@@.Y
open Jvm Jvm.ClassFile Sem Op Lib Jvm.Free Jvm.Stand Jvm.LawKit Jvm.RoadKit Bundle
section Refs
variable {co : Bool} {Z : State} {a0 : Array Value} {EL : List (String × Nat)} {own : String} {bytes : ByteArray} {maxL : Nat} {ret : Option FieldType} {nm : String} {ws : List Addr} {p : Program} {l : Launch} {e : Env} {R : Room} {s : State} {m : MethodId} {args : Array Value} {below : List Frame} {meth : Method} {c : Code} {vm0 : Vm} {T : State} {h h' : Heap} {locs : List Loc} {cells slots : Nat} {G : Outcome → State → Prop} {pc pc' : Nat} {ls : Array Slot} {rest : List Value} {Q : Option Value → Heap → Prop}
/-- mr is the class C's mirror -/
def Mrr (Z : State) (C : String) (mr : Addr) : Prop := ∃ (c : ClassId) (k : Class), Z.vm.findClass C = some c ∧ Z.vm.classes[c]? = some k ∧ k.mirror = some mr
/-- an Object[] whose length reads 0 -/
def Emp (Z : State) (h : Heap) (a : Addr) : Prop := ∃ c, Arr Z h a c (.object "java/lang/Object") ∧ c.slots.size.toInt32 = 0
theorem Emp.ext {a : Addr} (A : Emp Z h a) (E : Ext h h') : Emp Z h' a := by obtain ⟨c, q, r⟩ := A; exact ⟨c, Arr.ext E q, r⟩
theorem Emp.lt {a : Addr} (A : Emp Z h a) : a < h.size := by obtain ⟨c, q, r⟩ := A; exact q.lt
theorem Emp.start {args : Array Value} {t : Term} {a : Addr} (ev : t.eval args Z none [] Z = some (.ref a)) (hx : (Cond.arrayOf t (.object "java/lang/Object")).before args Z = true) (hl : (Cond.eq (.length t) (.int 0)).before args Z = true) : Emp Z Z.heap a := by
  obtain ⟨c, A⟩ := Arr.start ev (Cond.before_iff.mp hx)
  obtain ⟨b, cell, e1, e2, e3⟩ := Term.length_spec (eqI_v (Cond.before_iff.mp hl))
  cases ev.symm.trans e1
  have e4 : Z.arrayAt? a = some c := IntBox.arrayAt_of A.1 A.2.1 A.2.2
  cases e4.symm.trans e2
  injection e3 with e3
  exact ⟨c, A, e3.symm⟩
theorem fld_ev {args : Array Value} {t : Term} {C n d : String} {v : Value} {a : Addr} (e : t.eval args Z none [] Z = some (.ref a)) (h : (Term.field t C n d).eval args Z none [] Z = some v) : Z.fieldOf? a C n d = some v := by
  simp only [Term.eval] at h
  rw [e] at h
  simpa using h
theorem Wk.alen0 (X : Wk co Z a0 EL own bytes maxL ret nm ws p l e R s m args below meth c vm0 T h locs cells slots) {a : Addr} (A : Emp Z h a) (hd : decode bytes pc = .ok (.arraylength, 1)) (hp : pc + 1 = pc') (k : Ends p e below G (T.setTop (mkF m pc' ls (.int 0 :: rest)))) : Ends p e below G (T.setTop (mkF m pc ls (.ref a :: rest))) := by
  subst hp
  obtain ⟨cl, Ar, q0⟩ := A
  refine Ends.go (fun t q => X.st.arraylength X.hx (by rw [X.eT]; exact Ar.1) (State.isArrayOf_alike X.al Ar.2.1) (g := mkF m pc ls (.ref a :: rest)) rfl rfl (X.hd hd) t ?_) k
  rw [q0]; exact q
theorem Wk.newR (X : Wk co Z a0 EL own bytes maxL ret nm ws p l e R s m args below meth c vm0 T h locs cells slots) {C ad : String} {index : Nat} {n : Int32} (w1 : (Cond.classLink own index C).before a0 Z = true) (w2 : (Cond.arrayOver (.object C)).before a0 Z = true) (had : "[" ++ (FieldType.object C).toString = ad) (hd : decode bytes pc = .ok (.anewarray index, 3)) (hn : ¬ n < 0) (cap : Nat) (hcap : n.toNatClampNeg ≤ cap) (hb : cap * 8 ≤ 536870912) (hc : cells + 1 ≤ R.cells) (hl : slots + cap ≤ R.slots) (hp : pc + 3 = pc') (k : ∀ T h' b ka, b = h.size → Ext h h' → b < h'.size → Arv Z h' b ka (.object C) n [] .null → Exa Z h' b ad → Ovr Z ka C → Wk co Z a0 EL own bytes maxL ret nm ws p l e R s m args below meth c vm0 T h' locs (cells + 1) (slots + cap) → Ends p e below G (T.setTop (mkF m pc' ls (.ref b :: rest)))) : Ends p e below G (T.setTop (mkF m pc ls (.int n :: rest))) := by
  subst hp
  obtain ⟨T', h', ka, Y, e', Ex, A, Ea, O, st⟩ := RoadKit.newRE X.st X.hx X.hZ X.hown w1 w2 X.eT (g := mkF m pc ls (.int n :: rest)) rfl (X.hd hd) rfl hn hcap hb hc hl had
  exact Ends.go (fun _ q => st _ q) (k _ _ _ _ rfl Ex A.lt (Arv.new A hn) Ea O (X.ext Y e' Ex))
theorem Wk.aastore (X : Wk co Z a0 EL own bytes maxL ret nm ws p l e R s m args below meth c vm0 T h locs cells slots) {a y : Addr} {ka : ClassId} {C D : String} {z j : Int32} {vs : List Value} {dv : Value} (A : Arv Z h a ka (.object D) z vs dv) (O : Ovr Z ka C) (I : Ins Z h y C true) (hj : ¬ j < 0 ∧ j < z) (i : Nat) (hi : j.toNatClampNeg = i) (hl : i < vs.length) (hz : Z.heap.size ≤ a) (hk : a ∈ ws ∨ s.heap.size ≤ a) (hd : decode bytes pc = .ok (.aastore, 1)) (hp : pc + 1 = pc') (k : ∀ T h' L, Wk co Z a0 EL own bytes maxL ret nm ws p l e R s m args below meth c vm0 T h' L cells slots → Wr h h' a j.toNatClampNeg (.ref y) → Arv Z h' a ka (.object D) z (vs.set i (.ref y)) dv → Ends p e below G (T.setTop (mkF m pc' ls rest))) : Ends p e below G (T.setTop (mkF m pc ls (.ref y :: .int j :: .ref a :: rest))) := by
  subst hp
  have S0 : Safe Z EL vm0 h a := Safe.arv X.al A (by intro q; cases q)
  obtain ⟨cl, Ar, q1, S1, N1, H1, G1⟩ := A
  obtain ⟨T', h', Y, e', W, st⟩ := RoadKit.stR X.st X.hx X.hZ X.eT Ar (j := j) (inb_of S1 hj) rfl (Sto.ofV Ar q1 O I) (g := mkF m pc ls (.ref y :: .int j :: .ref a :: rest)) rfl rfl (X.hd hd)
  exact Ends.go (fun _ q => st _ q) (k _ _ _ (X.wr Y e' W S0 hz hk) W (Arv.set Ar q1 S1 N1 H1 G1 rfl W i hi hl))
theorem Wk.aaload (X : Wk co Z a0 EL own bytes maxL ret nm ws p l e R s m args below meth c vm0 T h locs cells slots) {a : Addr} {ka : ClassId} {C : String} {z j : Int32} {v : Value} {vs : List Value} {dv : Value} (A : Arv Z h a ka (.object C) z vs dv) (hj : ¬ j < 0 ∧ j < z) (hv : vs.getD j.toNatClampNeg dv = v) (hd : decode bytes pc = .ok (.aaload, 1)) (hp : pc + 1 = pc') (k : Ends p e below G (T.setTop (mkF m pc' ls (v :: rest)))) : Ends p e below G (T.setTop (mkF m pc ls (.int j :: .ref a :: rest))) := by
  subst hp
  obtain ⟨cl, Ar, q1, S1, N1, H1, G1⟩ := A
  have hin := inb_of S1 hj
  exact Ends.go (fun t q => X.st.aaload X.hx (j := j) (v := v) (by rw [X.eT]; exact Ar.1) (State.isArrayOf_alike X.al Ar.2.1) rfl Ar.2.2 hin (H1.at hin hv) (g := mkF m pc ls (.int j :: .ref a :: rest)) rfl rfl (X.hd hd) t q) k
theorem Wk.ldcM (X : Wk co Z a0 EL own bytes maxL ret nm ws p l e R s m args below meth c vm0 T h locs cells slots) {C : String} {index : Nat} {mr : Addr} (w : (Cond.classLink own index C).before a0 Z = true) (M : Mrr Z C mr) (hd : decode bytes pc = .ok (.ldc index, 2)) (hp : pc + 2 = pc') (k : ∀ T, Wk co Z a0 EL own bytes maxL ret nm ws p l e R s m args below meth c vm0 T h locs cells slots → Ends p e below G (T.setTop (mkF m pc' ls (.ref mr :: rest)))) : Ends p e below G (T.setTop (mkF m pc ls rest)) := by
  subst hp
  obtain ⟨cc, kc, m1, m2, m3⟩ := M
  obtain ⟨k', q, ek⟩ := X.al.2.2 _ _ m2
  have hev : (Term.mirror C).eval args (s.setVm vm0) none [] (s.setVm vm0) = some (.ref mr) := by
    have f1 : vm0.findClass C = some cc := by rw [X.al.findClass]; exact m1
    have f2 : vm0.classes[cc]? = some k' := q
    have f3 : k'.mirror = some mr := by rw [ek]; exact m3
    simp [Term.eval, f1, f2, f3]
  obtain ⟨vm', Y, st⟩ := X.st.ldcMirror X.hx X.hown (mvT X.hZ w) hev (g := mkF m pc ls rest) rfl (X.hd hd)
  exact Ends.go (fun _ q => st _ q) (k _ (X.same Y X.eT))
theorem Wk.gcls (X : Wk co Z a0 EL own bytes maxL ret nm ws p l e R s m args below meth c vm0 T h locs cells slots) {C : String} {index : Nat} (w1 : (Cond.methodLink own index ⟨"java/lang/Object", "getClass", "()Ljava/lang/Class;"⟩).before a0 Z = true) (w2 : (Cond.declares ⟨"java/lang/Object", "getClass", "()Ljava/lang/Class;"⟩).before a0 Z = true) (w4 : (Cond.selects C ⟨"java/lang/Object", "getClass", "()Ljava/lang/Class;"⟩ ⟨"java/lang/Object", "getClass", "()Ljava/lang/Class;"⟩).before a0 Z = true) (w5 : (Cond.instanceMethod ⟨"java/lang/Object", "getClass", "()Ljava/lang/Class;"⟩).before a0 Z = true) (w6 : (Cond.native ⟨"java/lang/Object", "getClass", "()Ljava/lang/Class;"⟩).before a0 Z = true) {a mr : Addr} (Ea : Exa Z h a C) (M : Mrr Z C mr) (hls : ls.size = maxL) (hd : decode bytes pc = .ok (.invokevirtual index, 3)) (hf : 1 ≤ R.frames) (hl : (rest.map fun v => v.category).sum + (nativeFrameWords "java/lang/Object" "getClass" 1 + 11) ≤ R.locals) (hp : pc + 3 = pc') (k : ∀ T, Wk co Z a0 EL own bytes maxL ret nm ws p l e R s m args below meth c vm0 T h locs cells slots → Ends p e below G (T.setTop (mkF m pc' ls (.ref mr :: rest)))) : Ends p e below G (T.setTop (mkF m pc ls (.ref a :: rest))) := by
  subst hp
  obtain ⟨cB, kB, i1, i2, i3⟩ := isOf X.hZ X.eT Ea
  obtain ⟨cc, kc, m1, m2, m3⟩ := M
  have i1' : Z.vm.findClass C = some cB := by rw [← X.hZ.alike.findClass]; exact i1
  cases i1'.symm.trans m1
  obtain ⟨k', q, ek⟩ := X.hZ.alike.2.2 _ _ m2
  obtain ⟨vm', Y, st⟩ := X.st.getClassOf X.hx X.hown (mvT X.hZ w1) (mvT X.hZ w2) (notFace_of_selects (args := #[]) (mvT X.hZ w4)) (mvT X.hZ w4) (mvT X.hZ w5) (mvT X.hZ w6) i1 i3 q (by rw [ek]; exact m3) (g := mkF m pc ls (.ref a :: rest)) rfl (hls.trans X.hml.symm) rfl (X.hd hd) hf (by show 2 * 0 + _ + _ ≤ _; rw [Nat.mul_zero, Nat.zero_add]; exact hl)
  exact Ends.go (fun _ q => st _ q) (k _ (X.same Y X.eT))
theorem Wk.gclsI (X : Wk co Z a0 EL own bytes maxL ret nm ws p l e R s m args below meth c vm0 T h locs cells slots) {C : String} {index count : Nat} {xi : MethodName} (w1 : (Cond.methodLink own index xi).before a0 Z = true) (w2 : (Cond.declares ⟨"java/lang/Object", "getClass", "()Ljava/lang/Class;"⟩).before a0 Z = true) (w3 : (Cond.interfaceMethod xi.cls "java/lang/Object" xi.name xi.desc).before a0 Z = true) (w4 : (Cond.selects C xi ⟨"java/lang/Object", "getClass", "()Ljava/lang/Class;"⟩).before a0 Z = true) (w5 : (Cond.instanceMethod ⟨"java/lang/Object", "getClass", "()Ljava/lang/Class;"⟩).before a0 Z = true) (w6 : (Cond.publicMethod ⟨"java/lang/Object", "getClass", "()Ljava/lang/Class;"⟩).before a0 Z = true) (w7 : (Cond.unhidden C xi.name xi.desc).before a0 Z = true) (w8 : (Cond.castable C xi.cls).before a0 Z = true) (w9 : (Cond.native ⟨"java/lang/Object", "getClass", "()Ljava/lang/Class;"⟩).before a0 Z = true) (hy : xi.cls ≠ "java/lang/invoke/MethodHandle" ∧ xi.cls ≠ "java/lang/invoke/VarHandle") (hxo : xi.cls ≠ "java/lang/Object") (hnm : xi.name = "getClass") (hds : xi.desc = "()Ljava/lang/Class;") {a mr : Addr} (Ea : Exa Z h a C) (M : Mrr Z C mr) (hls : ls.size = maxL) (hd : decode bytes pc = .ok (.invokeinterface index count, 5)) (hf : 1 ≤ R.frames) (hl : (rest.map fun v => v.category).sum + (nativeFrameWords "java/lang/Object" "getClass" 1 + 11) ≤ R.locals) (hp : pc + 5 = pc') (k : ∀ T, Wk co Z a0 EL own bytes maxL ret nm ws p l e R s m args below meth c vm0 T h locs cells slots → Ends p e below G (T.setTop (mkF m pc' ls (.ref mr :: rest)))) : Ends p e below G (T.setTop (mkF m pc ls (.ref a :: rest))) := by
  subst hp
  obtain ⟨cB, kB, i1, i2, i3⟩ := isOf X.hZ X.eT Ea
  obtain ⟨cc, kc, m1, m2, m3⟩ := M
  have i1' : Z.vm.findClass C = some cB := by rw [← X.hZ.alike.findClass]; exact i1
  cases i1'.symm.trans m1
  obtain ⟨k', q, ek⟩ := X.hZ.alike.2.2 _ _ m2
  cases i2.symm.trans q
  obtain ⟨vm', Y, st⟩ := X.st.getClassOfI X.hx X.hown (mvT X.hZ w1) (mvT X.hZ w2) (Jvm.Free.ULB.iface_rides X.hZ.alike w3) (mvT X.hZ w4) (mvT X.hZ w5) (mvT X.hZ w6) (mvT X.hZ w7) (mvT X.hZ w8) (mvT X.hZ w9) hy hxo hnm hds i1 i2 i3 (by rw [ek]; exact m3) (g := mkF m pc ls (.ref a :: rest)) rfl (hls.trans X.hml.symm) rfl (X.hd hd) hf (by show 2 * 0 + _ + _ ≤ _; rw [Nat.mul_zero, Nat.zero_add]; exact hl)
  exact Ends.go (fun _ q => st _ q) (k _ (X.same Y X.eT))
/-- System.arraycopy between two known arrays; b is the one written -/
theorem Wk.acopy (X : Wk co Z a0 EL own bytes maxL ret nm ws p l e R s m args below meth c vm0 T h locs cells slots) {index : Nat} (w1 : (Cond.methodLink own index Jvm.Stand.acN).before a0 Z = true) (w2 : (Cond.native Jvm.Stand.acN).before a0 Z = true) (w3 : (Cond.static Jvm.Stand.acN).before a0 Z = true) (w4 : (Cond.initialized "java/lang/System").before a0 Z = true) {a b : Addr} {k1 k2 : ClassId} {ty ty' : FieldType} {z z' sp dp nn : Int32} {vs vd us : List Value} {dv dd : Value} (A : Arv Z h a k1 ty z vs dv) (B : Arv Z h b k2 ty' z' vd dd) (hty : (ty = ty' ∧ refKind ty = false) ∨ (refKind ty = true ∧ refKind ty' = true ∧ StoL Z h b us)) (h1 : ¬ sp < 0) (h2 : ¬ dp < 0) (h3 : ¬ nn < 0) (h4 : sp.toNatClampNeg + nn.toNatClampNeg ≤ z.toNatClampNeg) (h5 : dp.toNatClampNeg + nn.toNatClampNeg ≤ z'.toNatClampNeg) (hus : us = (List.range nn.toNatClampNeg).map fun i => vs.getD (sp.toNatClampNeg + i) dv) (hlen : dp.toNatClampNeg + nn.toNatClampNeg ≤ vd.length) (S : Safe Z EL vm0 h b) (hz : Z.heap.size ≤ b) (hk : b ∈ ws ∨ s.heap.size ≤ b) (hls : ls.size = maxL) (hd : decode bytes pc = .ok (.invokestatic index, 3)) (hf : 1 ≤ R.frames) (hl : (rest.map fun v => v.category).sum + (nativeFrameWords "java/lang/System" "arraycopy" 5 + 11) ≤ R.locals) (hp : pc + 3 = pc') (k : ∀ T h' L, Wk co Z a0 EL own bytes maxL ret nm ws p l e R s m args below meth c vm0 T h' L cells slots → Keep h h' [b] → Arv Z h' b k2 ty' z' (vd.take dp.toNatClampNeg ++ us ++ vd.drop (dp.toNatClampNeg + nn.toNatClampNeg)) dd → Ends p e below G (T.setTop (mkF m pc' ls rest))) : Ends p e below G (T.setTop (mkF m pc ls (.int nn :: .int dp :: .ref b :: .int sp :: .ref a :: rest))) := by
  subst hp
  obtain ⟨T', h', L, Y, e', N, K, B', st⟩ := RoadKit.cpA X.st X.hx X.hZ X.hown w1 w2 w3 w4 X.eT A B hty h1 h2 h3 h4 h5 hus hlen X.fr hz (g := mkF m pc ls (.int nn :: .int dp :: .ref b :: .int sp :: .ref a :: rest)) rfl (hls.trans X.hml.symm) rfl (X.hd hd) hf (W := (rest.map fun v => v.category).sum) (by show 2 * 0 + _ ≤ _; rw [Nat.mul_zero, Nat.zero_add]; exact Nat.le_refl _) hl
  obtain ⟨k0, k3, k4⟩ := X.since
  have O : Old Z Z.heap.size h' := Old.keep ⟨rfl, X.old⟩ K (allS hz all0)
  exact Ends.go (fun _ q => st _ q) (k _ _ _ ⟨Y, e', ⟨k0, k3, Nat.le_trans k4 K.1⟩, X.nr, X.hZ, X.hown, X.ch.trans (CHr.keep K (sfS S sf0) X.H), X.ew, X.2.2.2.2.2.2.2.2.1, O.2, N, X.kp.trans K (allS hk all0)⟩ K B')
theorem Wk.sPrivate (X : Wk co Z a0 EL own bytes maxL ret nm ws p l e R s m args below meth c vm0 T h locs cells slots) {index : Nat} {C D : String} {y : MethodName} {ybytes : ByteArray} {ymaxL : Nat} {yret : Option FieldType} (w1 : (Cond.methodLink own index y).before a0 Z = true) (w2 : (Cond.instanceMethod y).before a0 Z = true) (w3 : (Cond.selects D y y).before a0 Z = true) (w4 : (Cond.privateMethod y).before a0 Z = true) (w5 : (Cond.code y ybytes ymaxL yret).before a0 Z = true) (hy : y.cls ≠ "java/lang/invoke/MethodHandle" ∧ y.cls ≠ "java/lang/invoke/VarHandle") (hls : ls.size = maxL) {ps : List FieldType} {r : Option FieldType} (pd : parseMethodDescriptor y.desc = some ⟨ps, r⟩) {a : Addr} (Ea : Exa Z h a C) (argsL : List Value) {st : List Value} (hlen : argsL.length = ps.length) (hst : st = argsL.reverse ++ .ref a :: rest) (hd : decode bytes pc = .ok (.invokevirtual index, 3)) : Site p l e R (s.setVm vm0) m args below meth c T locs cells slots (mkF m pc ls st) 3 y (.ref a :: argsL).toArray rest := by
  obtain ⟨cq, q1, q2⟩ := Ea.cell
  have w3' : (Cond.selects y.cls y y).before args (s.setVm vm0) = true := by
    obtain ⟨c2, r2, m2, -, -, q3, -, kP, hkP, hkPi⟩ := Cond.selects_spec (mvT X.hZ w3 (args := args))
    exact selects_self_of_private (findClass_of_methodNamed q3) hkP hkPi (Cond.privateMethod_at (mvP X.hZ w4 (args := #[]))) (mvT X.hZ w2) hy
  refine ⟨fun hK hW hpre => ?_, fun hK hW hpre => ?_⟩
  · obtain ⟨v, vm₁, B, h1, h2, h5, h6⟩ := X.st.privateBack X.hx X.hown (mvT X.hZ w1) (mvT X.hZ w2) w3' (Cond.privateMethod_at (mvP X.hZ w4 (args := #[]))) (mvT X.hZ w5) hy hK (g := mkF m pc ls st) rfl (hls.trans X.hml.symm) (Steps.refl _) (by rw [X.eT]; exact q1) q2 (lenOf pd hlen) hst hW (X.hd hd) hpre
    exact ⟨v, vm₁, B, h1, h2, h5, fun t q => h6.trans q⟩
  · obtain ⟨v, vm₁, B, h1, h2, h3, h4, h5, h6⟩ := privateBackS X.st X.hx X.hown (mvT X.hZ w1) (mvT X.hZ w2) w3' (Cond.privateMethod_at (mvP X.hZ w4 (args := #[]))) (mvT X.hZ w5) hy hK (g := mkF m pc ls st) rfl (hls.trans X.hml.symm) (Steps.refl _) (by rw [X.eT]; exact q1) q2 (lenOf pd hlen) hst hW (X.hd hd) hpre
    exact ⟨v, vm₁, B, h1, h2, h3, h4, h5, fun t q => h6.trans q⟩
theorem Wk.sFace (X : Wk co Z a0 EL own bytes maxL ret nm ws p l e R s m args below meth c vm0 T h locs cells slots) {index count : Nat} {C : String} {xi y : MethodName} (w1 : (Cond.methodLink own index xi).before a0 Z = true) (w2 : (Cond.declares xi).before a0 Z = true) (w3 : (Cond.interfaceMethod xi.cls xi.cls xi.name xi.desc).before a0 Z = true) (h3 : ((Cond.interfaceMethod xi.cls xi.cls xi.name xi.desc).onTables && (Cond.interfaceMethod xi.cls xi.cls xi.name xi.desc).keepsFace) = true) (w4 : (Cond.selects C xi y).before a0 Z = true) (w5 : (Cond.instanceMethod y).before a0 Z = true) (w6 : (Cond.publicMethod y).before a0 Z = true) (w7 : (Cond.unhidden C xi.name xi.desc).before a0 Z = true) (w8 : (Cond.castable C xi.cls).before a0 Z = true) (hy : xi.cls ≠ "java/lang/invoke/MethodHandle" ∧ xi.cls ≠ "java/lang/invoke/VarHandle") (hls : ls.size = maxL) {ps : List FieldType} {r : Option FieldType} (pd : parseMethodDescriptor xi.desc = some ⟨ps, r⟩) {a : Addr} (Ea : Exa Z h a C) (argsL : List Value) {st : List Value} (hlen : argsL.length = ps.length) (hst : st = argsL.reverse ++ .ref a :: rest) (hd : decode bytes pc = .ok (.invokeinterface index count, 5)) : Site p l e R (s.setVm vm0) m args below meth c T locs cells slots (mkF m pc ls st) 5 y (.ref a :: argsL).toArray rest := by
  obtain ⟨cq, kq, qa, qb, qc⟩ := isOf X.hZ X.eT Ea
  refine ⟨fun hK hW hpre => ?_, fun hK hW hpre => ?_⟩
  · obtain ⟨v, vm₁, B, h1, h2, h5, h6⟩ := X.st.interfaceBack X.hx X.hown (mvT X.hZ w1) (mvT X.hZ w2) (mvT X.hZ w3 h3) (mvT X.hZ w4) (mvT X.hZ w5) (mvT X.hZ w6) (mvT X.hZ w7) (mvT X.hZ w8) hy hK qa qb qc (g := mkF m pc ls st) rfl (hls.trans X.hml.symm) (Steps.refl _) (lenOf pd hlen) hst hW (X.hd hd) hpre
    exact ⟨v, vm₁, B, h1, h2, h5, fun t q => h6.trans q⟩
  · obtain ⟨v, vm₁, B, h1, h2, h3, h4, h5, h6⟩ := X.st.interfaceBackS X.hx X.hown (mvT X.hZ w1) (mvT X.hZ w2) (mvT X.hZ w3 h3) (mvT X.hZ w4) (mvT X.hZ w5) (mvT X.hZ w6) (mvT X.hZ w7) (mvT X.hZ w8) hy hK qa qb qc (g := mkF m pc ls st) rfl (hls.trans X.hml.symm) (Steps.refl _) (lenOf pd hlen) hst hW (X.hd hd) hpre
    exact ⟨v, vm₁, B, h1, h2, h3, h4, h5, fun t q => h6.trans q⟩
theorem sameM {C : String} {y y' : MethodName} (w3 : (Cond.instanceMethod y).before a0 Z = true) (ws : (Cond.selects C y' y').before a0 Z = true) (hc : y'.cls = y.cls) (hy : y.cls ≠ "java/lang/invoke/MethodHandle" ∧ y.cls ≠ "java/lang/invoke/VarHandle") : (Cond.sameMethod y.cls y.cls y.name y.desc).before a0 Z = true := by
  obtain ⟨mk, methM, hnamed, -, -, -⟩ := Cond.instanceMethod_spec w3
  obtain ⟨c2, r2, m2, -, -, q3, -, kP, hkP, hkPi⟩ := Cond.selects_spec ws
  have e1 := findClass_of_methodNamed hnamed
  have e2 := findClass_of_methodNamed q3
  rw [hc] at e2
  have e3 : m2.cls = mk.cls := Option.some.inj (e2.symm.trans e1)
  rw [e3] at hkP
  have hf := State.methodFound?_of_named hnamed hy
  simp only [Cond.before, Cond.holds, Cond.value, e1, hf, show Z.methodNamed? ⟨y.cls, y.name, y.desc⟩ = some mk from hnamed, hkP]
  simp [hkPi]
theorem Wk.sSuper (X : Wk co Z a0 EL own bytes maxL ret nm ws p l e R s m args below meth c vm0 T h locs cells slots) {index : Nat} {C : String} {y y' : MethodName} {ybytes : ByteArray} {ymaxL : Nat} {yret : Option FieldType} {K : String} (hy1 : y.name ≠ "<init>") (w1 : (Cond.methodLink own index y).before a0 Z = true) (w2 : (Cond.instanceMethod y).before a0 Z = true) (ws : (Cond.selects C y' y').before a0 Z = true) (hc : y'.cls = y.cls) (w3 : (Cond.superclass own y.cls).before a0 Z = true) (w4 : (Cond.code y ybytes ymaxL yret).before a0 Z = true) (hy : y.cls ≠ "java/lang/invoke/MethodHandle" ∧ y.cls ≠ "java/lang/invoke/VarHandle") (hls : ls.size = maxL) {ps : List FieldType} {r : Option FieldType} (pd : parseMethodDescriptor y.desc = some ⟨ps, r⟩) {a : Addr} (F : Ins Z h a K true) (argsL : List Value) {st : List Value} (hlen : argsL.length = ps.length) (hst : st = argsL.reverse ++ .ref a :: rest) (hd : decode bytes pc = .ok (.invokespecial index, 3)) : Site p l e R (s.setVm vm0) m args below meth c T locs cells slots (mkF m pc ls st) 3 y (.ref a :: argsL).toArray rest := by
  have sm := sameM w2 ws hc hy
  refine ⟨fun hK hW hpre => ?_, fun hK hW hpre => ?_⟩
  · obtain ⟨v, vm₁, B, h1, h2, h5, h6⟩ := RoadKit.superBack X.st X.hx X.hZ X.hown w1 sm w2 w3 hy1 hK X.eT F (g := mkF m pc ls st) rfl (hls.trans X.hml.symm) w4 (lenOf pd hlen) hst hW (X.hd hd) hpre
    exact ⟨v, vm₁, B, h1, h2, h5, fun t q => h6.trans q⟩
  · obtain ⟨v, vm₁, B, h1, h2, h3, h4, h5, h6⟩ := RoadKit.superBackS X.st X.hx X.hZ X.hown w1 sm w2 w3 hy1 hK X.eT F (g := mkF m pc ls st) rfl (hls.trans X.hml.symm) w4 (lenOf pd hlen) hst hW (X.hd hd) hpre
    exact ⟨v, vm₁, B, h1, h2, h3, h4, h5, fun t q => h6.trans q⟩
theorem Wk.sSpecialN (X : Wk co Z a0 EL own bytes maxL ret nm ws p l e R s m args below meth c vm0 T h locs cells slots) {index : Nat} {y : MethodName} {host : String} {ybytes : ByteArray} {ymaxL : Nat} (hy1 : y.name = "<init>") (w1 : (Cond.methodLinkNest own index y host).before a0 Z = true) (w2 : (Cond.instanceMethod y).before a0 Z = true) (w4 : (Cond.code y ybytes ymaxL none).before a0 Z = true) (hy : y.cls ≠ "java/lang/invoke/MethodHandle" ∧ y.cls ≠ "java/lang/invoke/VarHandle") (hls : ls.size = maxL) {ps : List FieldType} {r : Option FieldType} (pd : parseMethodDescriptor y.desc = some ⟨ps, r⟩) {a : Addr} (argsL : List Value) {st : List Value} (hlen : argsL.length = ps.length) (hst : st = argsL.reverse ++ .ref a :: rest) (hd : decode bytes pc = .ok (.invokespecial index, 3)) : Site p l e R (s.setVm vm0) m args below meth c T locs cells slots (mkF m pc ls st) 3 y (.ref a :: argsL).toArray rest := by
  have w1' : (Cond.methodLinkNest own index y host).before args (s.setVm vm0) = true := Cond.methodLinkNest_wide X.hZ w1
  refine ⟨fun hK hW hpre => ?_, fun hK hW hpre => ?_⟩
  · obtain ⟨v, vm₁, B, h1, h2, h5, h6⟩ := Jvm.Stand.specialBackNest X.st X.hx hy1 X.hown w1' (mvT X.hZ w2) (mvT X.hZ w4) hy hK (g := mkF m pc ls st) rfl (hls.trans X.hml.symm) (Steps.refl _) (lenOf pd hlen) hst hW (X.hd hd) hpre
    exact ⟨v, vm₁, B, h1, h2, h5, fun t q => h6.trans q⟩
  · obtain ⟨v, vm₁, B, h1, h2, h3, h4, h5, h6⟩ := specialBackNestS X.st X.hx hy1 X.hown w1' (mvT X.hZ w2) (mvT X.hZ w4) hy hK (g := mkF m pc ls st) rfl (hls.trans X.hml.symm) (Steps.refl _) (lenOf pd hlen) hst hW (X.hd hd) hpre
    exact ⟨v, vm₁, B, h1, h2, h3, h4, h5, fun t q => h6.trans q⟩
theorem Wk.getSN (X : Wk co Z a0 EL own bytes maxL ret nm ws p l e R s m args below meth c vm0 T h locs cells slots) {R0 O n d host : String} {index : Nat} (w : (Cond.fieldLinkNest own index R0 n d host).before a0 Z = true) (via : Via Z R0 O n d) {v : Value} (F : Sta Z Z.heap O n d v) (hd : decode bytes pc = .ok (.getstatic index, 3)) (hp : pc + 3 = pc') (k : ∀ T, Wk co Z a0 EL own bytes maxL ret nm ws p l e R s m args below meth c vm0 T h locs cells slots → Ends p e below G (T.setTop (mkF m pc' ls (v :: rest)))) : Ends p e below G (T.setTop (mkF m pc ls rest)) := by
  subst hp
  obtain ⟨T', Y, e', st⟩ := RoadKit.getS2 X.st X.hx X.hZ X.hown (Or.inr w) via X.eT (F.ext X.old) (g := mkF m pc ls rest) rfl (X.hd hd)
  exact Ends.go (fun _ q => st _ q) (k _ (X.same Y e'))
theorem Wk.tswIn (X : Wk co Z a0 EL own bytes maxL ret nm ws p l e R s m args below meth c vm0 T h locs cells slots) {dflt low high : Int} {offs : Array Int} {len : Nat} {o : Int} {i : Int32} (hd : decode bytes pc = .ok (.tableswitch dflt low high offs, len)) (hin : ¬ (i.toInt < low ∨ i.toInt > high)) (hoff : offs[(i.toInt - low).toNat]? = some o) (ho : 0 ≤ (pc : Int) + o) (hp : ((pc : Int) + o).toNat = pc') (k : Ends p e below G (T.setTop (mkF m pc' ls rest))) : Ends p e below G (T.setTop (mkF m pc ls (.int i :: rest))) := Ends.go (fun _ q => XS.tswIn X.st.here X.hx rfl rfl (X.hd hd) rfl hin hoff ho hp q) k
theorem Wk.tswOut (X : Wk co Z a0 EL own bytes maxL ret nm ws p l e R s m args below meth c vm0 T h locs cells slots) {dflt low high : Int} {offs : Array Int} {len : Nat} {i : Int32} (hd : decode bytes pc = .ok (.tableswitch dflt low high offs, len)) (hout : i.toInt < low ∨ i.toInt > high) (ho : 0 ≤ (pc : Int) + dflt) (hp : ((pc : Int) + dflt).toNat = pc') (k : Ends p e below G (T.setTop (mkF m pc' ls rest))) : Ends p e below G (T.setTop (mkF m pc ls (.int i :: rest))) := Ends.go (fun _ q => XS.tswOut X.st.here X.hx rfl rfl (X.hd hd) rfl hout ho hp q) k
end Refs
end Jvm.Pilot.@@N@@.Y
namespace Jvm.Pilot.@@N@@
open Jvm Jvm.ClassFile Sem Op Lib Jvm.Free Jvm.Stand Jvm.LawKit Jvm.RoadKit Bundle Y Jvm.Pilot.@@N@@.Jvm.D
theorem d13_0 : decode jdk_42_method_152_code 0 = .ok (.getstatic 38, 3) := by decide +kernel
theorem d13_3 : decode jdk_42_method_152_code 3 = .ok (.ifCond .eq 10, 3) := by decide +kernel
theorem d13_6 : decode jdk_42_method_152_code 6 = .ok (.aload_n 0, 1) := by decide +kernel
theorem d13_7 : decode jdk_42_method_152_code 7 = .ok (.getfield 15, 3) := by decide +kernel
theorem d13_10 : decode jdk_42_method_152_code 10 = .ok (.goto 4, 3) := by decide +kernel
theorem d13_14 : decode jdk_42_method_152_code 14 = .ok (.ireturn, 1) := by decide +kernel
theorem d9_0 : decode method_5_code 0 = .ok (.iload_n 2, 1) := by decide +kernel
theorem d9_1 : decode method_5_code 1 = .ok (.bipush 7, 2) := by decide +kernel
theorem d9_3 : decode method_5_code 3 = .ok (.iadd, 1) := by decide +kernel
theorem d9_4 : decode method_5_code 4 = .ok (.iload_n 1, 1) := by decide +kernel
theorem d9_5 : decode method_5_code 5 = .ok (.if_icmp .gt 76, 3) := by decide +kernel
theorem d9_8 : decode method_5_code 8 = .ok (.aload_n 0, 1) := by decide +kernel
theorem d9_9 : decode method_5_code 9 = .ok (.iload_n 2, 1) := by decide +kernel
theorem d9_10 : decode method_5_code 10 = .ok (.caload, 1) := by decide +kernel
theorem d9_11 : decode method_5_code 11 = .ok (.bipush 32, 2) := by decide +kernel
theorem d9_13 : decode method_5_code 13 = .ok (.if_icmp .ne 68, 3) := by decide +kernel
theorem d9_16 : decode method_5_code 16 = .ok (.aload_n 0, 1) := by decide +kernel
theorem d9_17 : decode method_5_code 17 = .ok (.iload_n 2, 1) := by decide +kernel
theorem d9_18 : decode method_5_code 18 = .ok (.iconst 1, 1) := by decide +kernel
theorem d9_19 : decode method_5_code 19 = .ok (.iadd, 1) := by decide +kernel
theorem d9_20 : decode method_5_code 20 = .ok (.caload, 1) := by decide +kernel
theorem d9_21 : decode method_5_code 21 = .ok (.bipush 119, 2) := by decide +kernel
theorem d9_23 : decode method_5_code 23 = .ok (.if_icmp .ne 58, 3) := by decide +kernel
theorem d9_26 : decode method_5_code 26 = .ok (.aload_n 0, 1) := by decide +kernel
theorem d9_27 : decode method_5_code 27 = .ok (.iload_n 2, 1) := by decide +kernel
theorem d9_28 : decode method_5_code 28 = .ok (.iconst 2, 1) := by decide +kernel
theorem d9_29 : decode method_5_code 29 = .ok (.iadd, 1) := by decide +kernel
theorem d9_30 : decode method_5_code 30 = .ok (.caload, 1) := by decide +kernel
theorem d9_31 : decode method_5_code 31 = .ok (.bipush 111, 2) := by decide +kernel
theorem d9_33 : decode method_5_code 33 = .ok (.if_icmp .ne 48, 3) := by decide +kernel
theorem d9_36 : decode method_5_code 36 = .ok (.aload_n 0, 1) := by decide +kernel
theorem d9_37 : decode method_5_code 37 = .ok (.iload_n 2, 1) := by decide +kernel
theorem d9_38 : decode method_5_code 38 = .ok (.iconst 3, 1) := by decide +kernel
theorem d9_39 : decode method_5_code 39 = .ok (.iadd, 1) := by decide +kernel
theorem d9_40 : decode method_5_code 40 = .ok (.caload, 1) := by decide +kernel
theorem d9_41 : decode method_5_code 41 = .ok (.bipush 107, 2) := by decide +kernel
theorem d9_43 : decode method_5_code 43 = .ok (.if_icmp .ne 38, 3) := by decide +kernel
theorem d9_46 : decode method_5_code 46 = .ok (.aload_n 0, 1) := by decide +kernel
theorem d9_47 : decode method_5_code 47 = .ok (.iload_n 2, 1) := by decide +kernel
theorem d9_48 : decode method_5_code 48 = .ok (.iconst 4, 1) := by decide +kernel
theorem d9_49 : decode method_5_code 49 = .ok (.iadd, 1) := by decide +kernel
theorem d9_50 : decode method_5_code 50 = .ok (.caload, 1) := by decide +kernel
theorem d9_51 : decode method_5_code 51 = .ok (.bipush 101, 2) := by decide +kernel
theorem d9_53 : decode method_5_code 53 = .ok (.if_icmp .ne 28, 3) := by decide +kernel
theorem d9_56 : decode method_5_code 56 = .ok (.aload_n 0, 1) := by decide +kernel
theorem d9_57 : decode method_5_code 57 = .ok (.iload_n 2, 1) := by decide +kernel
theorem d9_58 : decode method_5_code 58 = .ok (.iconst 5, 1) := by decide +kernel
theorem d9_59 : decode method_5_code 59 = .ok (.iadd, 1) := by decide +kernel
theorem d9_60 : decode method_5_code 60 = .ok (.caload, 1) := by decide +kernel
theorem d9_61 : decode method_5_code 61 = .ok (.bipush 110, 2) := by decide +kernel
theorem d9_63 : decode method_5_code 63 = .ok (.if_icmp .ne 18, 3) := by decide +kernel
theorem d9_66 : decode method_5_code 66 = .ok (.aload_n 0, 1) := by decide +kernel
theorem d9_67 : decode method_5_code 67 = .ok (.iload_n 2, 1) := by decide +kernel
theorem d9_68 : decode method_5_code 68 = .ok (.bipush 6, 2) := by decide +kernel
theorem d9_70 : decode method_5_code 70 = .ok (.iadd, 1) := by decide +kernel
theorem d9_71 : decode method_5_code 71 = .ok (.caload, 1) := by decide +kernel
theorem d9_72 : decode method_5_code 72 = .ok (.bipush 58, 2) := by decide +kernel
theorem d9_74 : decode method_5_code 74 = .ok (.if_icmp .ne 7, 3) := by decide +kernel
theorem d9_77 : decode method_5_code 77 = .ok (.iconst 1, 1) := by decide +kernel
theorem d9_78 : decode method_5_code 78 = .ok (.goto 4, 3) := by decide +kernel
theorem d9_82 : decode method_5_code 82 = .ok (.ireturn, 1) := by decide +kernel
theorem d9_81 : decode method_5_code 81 = .ok (.iconst 0, 1) := by decide +kernel
theorem d8_0 : decode method_6_code 0 = .ok (.aload_n 0, 1) := by decide +kernel
theorem d8_1 : decode method_6_code 1 = .ok (.iload_n 1, 1) := by decide +kernel
theorem d8_2 : decode method_6_code 2 = .ok (.bipush 9, 2) := by decide +kernel
theorem d8_4 : decode method_6_code 4 = .ok (.invokestatic 42, 3) := by decide +kernel
theorem d8_7 : decode method_6_code 7 = .ok (.ifCond .eq 6, 3) := by decide +kernel
theorem d8_10 : decode method_6_code 10 = .ok (.bipush 9, 2) := by decide +kernel
theorem d8_12 : decode method_6_code 12 = .ok (.ireturn, 1) := by decide +kernel
theorem d8_13 : decode method_6_code 13 = .ok (.aload_n 0, 1) := by decide +kernel
theorem d8_14 : decode method_6_code 14 = .ok (.iload_n 1, 1) := by decide +kernel
theorem d8_15 : decode method_6_code 15 = .ok (.bipush 8, 2) := by decide +kernel
theorem d8_17 : decode method_6_code 17 = .ok (.invokestatic 42, 3) := by decide +kernel
theorem d8_20 : decode method_6_code 20 = .ok (.ifCond .eq 6, 3) := by decide +kernel
theorem d8_23 : decode method_6_code 23 = .ok (.bipush 8, 2) := by decide +kernel
theorem d8_25 : decode method_6_code 25 = .ok (.ireturn, 1) := by decide +kernel
theorem d8_26 : decode method_6_code 26 = .ok (.aload_n 0, 1) := by decide +kernel
theorem d8_27 : decode method_6_code 27 = .ok (.iload_n 1, 1) := by decide +kernel
theorem d8_28 : decode method_6_code 28 = .ok (.bipush 7, 2) := by decide +kernel
theorem d8_30 : decode method_6_code 30 = .ok (.invokestatic 42, 3) := by decide +kernel
theorem d8_33 : decode method_6_code 33 = .ok (.ifCond .eq 6, 3) := by decide +kernel
theorem d8_36 : decode method_6_code 36 = .ok (.bipush 7, 2) := by decide +kernel
theorem d8_38 : decode method_6_code 38 = .ok (.ireturn, 1) := by decide +kernel
theorem d8_39 : decode method_6_code 39 = .ok (.aload_n 0, 1) := by decide +kernel
theorem d8_40 : decode method_6_code 40 = .ok (.iload_n 1, 1) := by decide +kernel
theorem d8_41 : decode method_6_code 41 = .ok (.bipush 6, 2) := by decide +kernel
theorem d8_43 : decode method_6_code 43 = .ok (.invokestatic 42, 3) := by decide +kernel
theorem d8_46 : decode method_6_code 46 = .ok (.ifCond .eq 6, 3) := by decide +kernel
theorem d8_49 : decode method_6_code 49 = .ok (.bipush 6, 2) := by decide +kernel
theorem d8_51 : decode method_6_code 51 = .ok (.ireturn, 1) := by decide +kernel
theorem d8_52 : decode method_6_code 52 = .ok (.aload_n 0, 1) := by decide +kernel
theorem d8_53 : decode method_6_code 53 = .ok (.iload_n 1, 1) := by decide +kernel
theorem d8_54 : decode method_6_code 54 = .ok (.iconst 5, 1) := by decide +kernel
theorem d8_55 : decode method_6_code 55 = .ok (.invokestatic 42, 3) := by decide +kernel
theorem d8_58 : decode method_6_code 58 = .ok (.ifCond .eq 5, 3) := by decide +kernel
theorem d8_61 : decode method_6_code 61 = .ok (.iconst 5, 1) := by decide +kernel
theorem d8_62 : decode method_6_code 62 = .ok (.ireturn, 1) := by decide +kernel
theorem d8_63 : decode method_6_code 63 = .ok (.aload_n 0, 1) := by decide +kernel
theorem d8_64 : decode method_6_code 64 = .ok (.iload_n 1, 1) := by decide +kernel
theorem d8_65 : decode method_6_code 65 = .ok (.iconst 4, 1) := by decide +kernel
theorem d8_66 : decode method_6_code 66 = .ok (.invokestatic 42, 3) := by decide +kernel
theorem d8_69 : decode method_6_code 69 = .ok (.ifCond .eq 5, 3) := by decide +kernel
theorem d8_72 : decode method_6_code 72 = .ok (.iconst 4, 1) := by decide +kernel
theorem d8_73 : decode method_6_code 73 = .ok (.ireturn, 1) := by decide +kernel
theorem d8_74 : decode method_6_code 74 = .ok (.aload_n 0, 1) := by decide +kernel
theorem d8_75 : decode method_6_code 75 = .ok (.iload_n 1, 1) := by decide +kernel
theorem d8_76 : decode method_6_code 76 = .ok (.iconst 3, 1) := by decide +kernel
theorem d8_77 : decode method_6_code 77 = .ok (.invokestatic 42, 3) := by decide +kernel
theorem d8_80 : decode method_6_code 80 = .ok (.ifCond .eq 5, 3) := by decide +kernel
theorem d8_83 : decode method_6_code 83 = .ok (.iconst 3, 1) := by decide +kernel
theorem d8_84 : decode method_6_code 84 = .ok (.ireturn, 1) := by decide +kernel
theorem d8_85 : decode method_6_code 85 = .ok (.aload_n 0, 1) := by decide +kernel
theorem d8_86 : decode method_6_code 86 = .ok (.iload_n 1, 1) := by decide +kernel
theorem d8_87 : decode method_6_code 87 = .ok (.iconst 2, 1) := by decide +kernel
theorem d8_88 : decode method_6_code 88 = .ok (.invokestatic 42, 3) := by decide +kernel
theorem d8_91 : decode method_6_code 91 = .ok (.ifCond .eq 5, 3) := by decide +kernel
theorem d8_94 : decode method_6_code 94 = .ok (.iconst 2, 1) := by decide +kernel
theorem d8_95 : decode method_6_code 95 = .ok (.ireturn, 1) := by decide +kernel
theorem d8_96 : decode method_6_code 96 = .ok (.aload_n 0, 1) := by decide +kernel
theorem d8_97 : decode method_6_code 97 = .ok (.iload_n 1, 1) := by decide +kernel
theorem d8_98 : decode method_6_code 98 = .ok (.iconst 1, 1) := by decide +kernel
theorem d8_99 : decode method_6_code 99 = .ok (.invokestatic 42, 3) := by decide +kernel
theorem d8_102 : decode method_6_code 102 = .ok (.ifCond .eq 5, 3) := by decide +kernel
theorem d8_105 : decode method_6_code 105 = .ok (.iconst 1, 1) := by decide +kernel
theorem d8_106 : decode method_6_code 106 = .ok (.ireturn, 1) := by decide +kernel
theorem d8_107 : decode method_6_code 107 = .ok (.aload_n 0, 1) := by decide +kernel
theorem d8_108 : decode method_6_code 108 = .ok (.iload_n 1, 1) := by decide +kernel
theorem d8_109 : decode method_6_code 109 = .ok (.iconst 0, 1) := by decide +kernel
theorem d8_110 : decode method_6_code 110 = .ok (.invokestatic 42, 3) := by decide +kernel
theorem d8_113 : decode method_6_code 113 = .ok (.ifCond .eq 5, 3) := by decide +kernel
theorem d8_116 : decode method_6_code 116 = .ok (.iconst 0, 1) := by decide +kernel
theorem d8_117 : decode method_6_code 117 = .ok (.ireturn, 1) := by decide +kernel
theorem d8_118 : decode method_6_code 118 = .ok (.iconst (-1), 1) := by decide +kernel
theorem d8_119 : decode method_6_code 119 = .ok (.ireturn, 1) := by decide +kernel
theorem d16_0 : decode jdk_43_method_26_code 0 = .ok (.iload_n 3, 1) := by decide +kernel
theorem d16_1 : decode jdk_43_method_26_code 1 = .ok (.iconst 1, 1) := by decide +kernel
theorem d16_2 : decode jdk_43_method_26_code 2 = .ok (.isub, 1) := by decide +kernel
theorem d16_3 : decode jdk_43_method_26_code 3 = .ok (.istore 5, 2) := by decide +kernel
theorem d16_5 : decode jdk_43_method_26_code 5 = .ok (.iload 5, 2) := by decide +kernel
theorem d16_7 : decode jdk_43_method_26_code 7 = .ok (.iload 4, 2) := by decide +kernel
theorem d16_9 : decode jdk_43_method_26_code 9 = .ok (.iadd, 1) := by decide +kernel
theorem d16_10 : decode jdk_43_method_26_code 10 = .ok (.istore 6, 2) := by decide +kernel
theorem d16_12 : decode jdk_43_method_26_code 12 = .ok (.iload_n 3, 1) := by decide +kernel
theorem d16_13 : decode jdk_43_method_26_code 13 = .ok (.iconst 1, 1) := by decide +kernel
theorem d16_14 : decode jdk_43_method_26_code 14 = .ok (.isub, 1) := by decide +kernel
theorem d16_15 : decode jdk_43_method_26_code 15 = .ok (.istore 7, 2) := by decide +kernel
theorem d16_17 : decode jdk_43_method_26_code 17 = .ok (.aload_n 2, 1) := by decide +kernel
theorem d16_18 : decode jdk_43_method_26_code 18 = .ok (.iload 7, 2) := by decide +kernel
theorem d16_20 : decode jdk_43_method_26_code 20 = .ok (.baload, 1) := by decide +kernel
theorem d16_21 : decode jdk_43_method_26_code 21 = .ok (.sipush 255, 3) := by decide +kernel
theorem d16_24 : decode jdk_43_method_26_code 24 = .ok (.iand, 1) := by decide +kernel
theorem d16_25 : decode jdk_43_method_26_code 25 = .ok (.i2c, 1) := by decide +kernel
theorem d16_26 : decode jdk_43_method_26_code 26 = .ok (.istore 8, 2) := by decide +kernel
theorem d16_28 : decode jdk_43_method_26_code 28 = .ok (.iload 6, 2) := by decide +kernel
theorem d16_30 : decode jdk_43_method_26_code 30 = .ok (.iload 5, 2) := by decide +kernel
theorem d16_32 : decode jdk_43_method_26_code 32 = .ok (.if_icmp .lt 22, 3) := by decide +kernel
theorem d16_54 : decode jdk_43_method_26_code 54 = .ok (.iload 6, 2) := by decide +kernel
theorem d16_56 : decode jdk_43_method_26_code 56 = .ok (.iload 5, 2) := by decide +kernel
theorem d16_58 : decode jdk_43_method_26_code 58 = .ok (.if_icmp .ge 5, 3) := by decide +kernel
theorem d16_61 : decode jdk_43_method_26_code 61 = .ok (.iconst (-1), 1) := by decide +kernel
theorem d16_62 : decode jdk_43_method_26_code 62 = .ok (.ireturn, 1) := by decide +kernel
theorem d16_82 : decode jdk_43_method_26_code 82 = .ok (.iload 9, 2) := by decide +kernel
theorem d16_84 : decode jdk_43_method_26_code 84 = .ok (.iload 10, 2) := by decide +kernel
theorem d16_86 : decode jdk_43_method_26_code 86 = .ok (.if_icmp .le 34, 3) := by decide +kernel
theorem d16_89 : decode jdk_43_method_26_code 89 = .ok (.aload_n 0, 1) := by decide +kernel
theorem d16_90 : decode jdk_43_method_26_code 90 = .ok (.iload 9, 2) := by decide +kernel
theorem d16_92 : decode jdk_43_method_26_code 92 = .ok (.iinc 9 (-1), 3) := by decide +kernel
theorem d16_95 : decode jdk_43_method_26_code 95 = .ok (.baload, 1) := by decide +kernel
theorem d16_96 : decode jdk_43_method_26_code 96 = .ok (.sipush 255, 3) := by decide +kernel
theorem d16_99 : decode jdk_43_method_26_code 99 = .ok (.iand, 1) := by decide +kernel
theorem d16_100 : decode jdk_43_method_26_code 100 = .ok (.aload_n 2, 1) := by decide +kernel
theorem d16_101 : decode jdk_43_method_26_code 101 = .ok (.iload 11, 2) := by decide +kernel
theorem d16_103 : decode jdk_43_method_26_code 103 = .ok (.iinc 11 (-1), 3) := by decide +kernel
theorem d16_106 : decode jdk_43_method_26_code 106 = .ok (.baload, 1) := by decide +kernel
theorem d16_107 : decode jdk_43_method_26_code 107 = .ok (.sipush 255, 3) := by decide +kernel
theorem d16_110 : decode jdk_43_method_26_code 110 = .ok (.iand, 1) := by decide +kernel
theorem d16_111 : decode jdk_43_method_26_code 111 = .ok (.if_icmp .eq (-29), 3) := by decide +kernel
theorem d16_120 : decode jdk_43_method_26_code 120 = .ok (.iload 10, 2) := by decide +kernel
theorem d16_122 : decode jdk_43_method_26_code 122 = .ok (.iconst 1, 1) := by decide +kernel
theorem d16_123 : decode jdk_43_method_26_code 123 = .ok (.iadd, 1) := by decide +kernel
theorem d16_124 : decode jdk_43_method_26_code 124 = .ok (.ireturn, 1) := by decide +kernel
theorem d16_114 : decode jdk_43_method_26_code 114 = .ok (.iinc 6 (-1), 3) := by decide +kernel
theorem d16_117 : decode jdk_43_method_26_code 117 = .ok (.goto (-89), 3) := by decide +kernel
theorem d16_35 : decode jdk_43_method_26_code 35 = .ok (.aload_n 0, 1) := by decide +kernel
theorem d16_36 : decode jdk_43_method_26_code 36 = .ok (.iload 6, 2) := by decide +kernel
theorem d16_38 : decode jdk_43_method_26_code 38 = .ok (.baload, 1) := by decide +kernel
theorem d16_39 : decode jdk_43_method_26_code 39 = .ok (.sipush 255, 3) := by decide +kernel
theorem d16_42 : decode jdk_43_method_26_code 42 = .ok (.iand, 1) := by decide +kernel
theorem d16_43 : decode jdk_43_method_26_code 43 = .ok (.iload 8, 2) := by decide +kernel
theorem d16_45 : decode jdk_43_method_26_code 45 = .ok (.if_icmp .eq 9, 3) := by decide +kernel
theorem d16_63 : decode jdk_43_method_26_code 63 = .ok (.iload 6, 2) := by decide +kernel
theorem d16_65 : decode jdk_43_method_26_code 65 = .ok (.iconst 1, 1) := by decide +kernel
theorem d16_66 : decode jdk_43_method_26_code 66 = .ok (.isub, 1) := by decide +kernel
theorem d16_67 : decode jdk_43_method_26_code 67 = .ok (.istore 9, 2) := by decide +kernel
theorem d16_69 : decode jdk_43_method_26_code 69 = .ok (.iload 9, 2) := by decide +kernel
theorem d16_71 : decode jdk_43_method_26_code 71 = .ok (.iload 7, 2) := by decide +kernel
theorem d16_73 : decode jdk_43_method_26_code 73 = .ok (.isub, 1) := by decide +kernel
theorem d16_74 : decode jdk_43_method_26_code 74 = .ok (.istore 10, 2) := by decide +kernel
theorem d16_76 : decode jdk_43_method_26_code 76 = .ok (.iload 7, 2) := by decide +kernel
theorem d16_78 : decode jdk_43_method_26_code 78 = .ok (.iconst 1, 1) := by decide +kernel
theorem d16_79 : decode jdk_43_method_26_code 79 = .ok (.isub, 1) := by decide +kernel
theorem d16_80 : decode jdk_43_method_26_code 80 = .ok (.istore 11, 2) := by decide +kernel
theorem d16_48 : decode jdk_43_method_26_code 48 = .ok (.iinc 6 (-1), 3) := by decide +kernel
theorem d16_51 : decode jdk_43_method_26_code 51 = .ok (.goto (-23), 3) := by decide +kernel
theorem d15_0 : decode jdk_42_method_90_code 0 = .ok (.aload_n 3, 1) := by decide +kernel
theorem d15_1 : decode jdk_42_method_90_code 1 = .ok (.getfield 9, 3) := by decide +kernel
theorem d15_4 : decode jdk_42_method_90_code 4 = .ok (.astore 5, 2) := by decide +kernel
theorem d15_6 : decode jdk_42_method_90_code 6 = .ok (.aload_n 3, 1) := by decide +kernel
theorem d15_7 : decode jdk_42_method_90_code 7 = .ok (.invokevirtual 335, 3) := by decide +kernel
theorem d15_10 : decode jdk_42_method_90_code 10 = .ok (.istore 6, 2) := by decide +kernel
theorem d15_12 : decode jdk_42_method_90_code 12 = .ok (.aload_n 3, 1) := by decide +kernel
theorem d15_13 : decode jdk_42_method_90_code 13 = .ok (.invokevirtual 505, 3) := by decide +kernel
theorem d15_16 : decode jdk_42_method_90_code 16 = .ok (.istore 7, 2) := by decide +kernel
theorem d15_18 : decode jdk_42_method_90_code 18 = .ok (.iload_n 2, 1) := by decide +kernel
theorem d15_19 : decode jdk_42_method_90_code 19 = .ok (.iload 7, 2) := by decide +kernel
theorem d15_21 : decode jdk_42_method_90_code 21 = .ok (.isub, 1) := by decide +kernel
theorem d15_22 : decode jdk_42_method_90_code 22 = .ok (.istore 8, 2) := by decide +kernel
theorem d15_24 : decode jdk_42_method_90_code 24 = .ok (.iload 4, 2) := by decide +kernel
theorem d15_26 : decode jdk_42_method_90_code 26 = .ok (.iload 8, 2) := by decide +kernel
theorem d15_28 : decode jdk_42_method_90_code 28 = .ok (.if_icmp .le 7, 3) := by decide +kernel
theorem d15_31 : decode jdk_42_method_90_code 31 = .ok (.iload 8, 2) := by decide +kernel
theorem d15_33 : decode jdk_42_method_90_code 33 = .ok (.istore 4, 2) := by decide +kernel
theorem d15_35 : decode jdk_42_method_90_code 35 = .ok (.iload 4, 2) := by decide +kernel
theorem d15_37 : decode jdk_42_method_90_code 37 = .ok (.ifCond .ge 5, 3) := by decide +kernel
theorem d15_42 : decode jdk_42_method_90_code 42 = .ok (.iload 7, 2) := by decide +kernel
theorem d15_44 : decode jdk_42_method_90_code 44 = .ok (.ifCond .ne 6, 3) := by decide +kernel
theorem d15_50 : decode jdk_42_method_90_code 50 = .ok (.iload_n 1, 1) := by decide +kernel
theorem d15_51 : decode jdk_42_method_90_code 51 = .ok (.iload 6, 2) := by decide +kernel
theorem d15_53 : decode jdk_42_method_90_code 53 = .ok (.if_icmp .ne 33, 3) := by decide +kernel
theorem d15_56 : decode jdk_42_method_90_code 56 = .ok (.iload_n 1, 1) := by decide +kernel
theorem d15_57 : decode jdk_42_method_90_code 57 = .ok (.ifCond .ne 17, 3) := by decide +kernel
theorem d15_60 : decode jdk_42_method_90_code 60 = .ok (.aload_n 0, 1) := by decide +kernel
theorem d15_61 : decode jdk_42_method_90_code 61 = .ok (.iload_n 2, 1) := by decide +kernel
theorem d15_62 : decode jdk_42_method_90_code 62 = .ok (.aload 5, 2) := by decide +kernel
theorem d15_64 : decode jdk_42_method_90_code 64 = .ok (.iload 7, 2) := by decide +kernel
theorem d15_66 : decode jdk_42_method_90_code 66 = .ok (.iload 4, 2) := by decide +kernel
theorem d15_68 : decode jdk_42_method_90_code 68 = .ok (.invokestatic 675, 3) := by decide +kernel
theorem d15_71 : decode jdk_42_method_90_code 71 = .ok (.goto 14, 3) := by decide +kernel
theorem d15_85 : decode jdk_42_method_90_code 85 = .ok (.ireturn, 1) := by decide +kernel
theorem d14_0 : decode jdk_42_method_89_code 0 = .ok (.aload_n 0, 1) := by decide +kernel
theorem d14_1 : decode jdk_42_method_89_code 1 = .ok (.getfield 9, 3) := by decide +kernel
theorem d14_4 : decode jdk_42_method_89_code 4 = .ok (.aload_n 0, 1) := by decide +kernel
theorem d14_5 : decode jdk_42_method_89_code 5 = .ok (.invokevirtual 335, 3) := by decide +kernel
theorem d14_8 : decode jdk_42_method_89_code 8 = .ok (.aload_n 0, 1) := by decide +kernel
theorem d14_9 : decode jdk_42_method_89_code 9 = .ok (.invokevirtual 505, 3) := by decide +kernel
theorem d14_12 : decode jdk_42_method_89_code 12 = .ok (.aload_n 1, 1) := by decide +kernel
theorem d14_13 : decode jdk_42_method_89_code 13 = .ok (.iload_n 2, 1) := by decide +kernel
theorem d14_14 : decode jdk_42_method_89_code 14 = .ok (.invokestatic 673, 3) := by decide +kernel
theorem d14_17 : decode jdk_42_method_89_code 17 = .ok (.ireturn, 1) := by decide +kernel
theorem d11_0 : decode jdk_42_method_88_code 0 = .ok (.aload_n 0, 1) := by decide +kernel
theorem d11_1 : decode jdk_42_method_88_code 1 = .ok (.aload_n 1, 1) := by decide +kernel
theorem d11_2 : decode jdk_42_method_88_code 2 = .ok (.aload_n 0, 1) := by decide +kernel
theorem d11_3 : decode jdk_42_method_88_code 3 = .ok (.invokevirtual 505, 3) := by decide +kernel
theorem d11_6 : decode jdk_42_method_88_code 6 = .ok (.invokevirtual 670, 3) := by decide +kernel
theorem d11_9 : decode jdk_42_method_88_code 9 = .ok (.ireturn, 1) := by decide +kernel
theorem d27_0 : decode jdk_65_method_131_code 0 = .ok (.iload_n 1, 1) := by decide +kernel
theorem d27_1 : decode jdk_65_method_131_code 1 = .ok (.iload_n 0, 1) := by decide +kernel
theorem d27_2 : decode jdk_65_method_131_code 2 = .ok (.if_icmp .ge 35, 3) := by decide +kernel
theorem d27_37 : decode jdk_65_method_131_code 37 = .ok (.return_, 1) := by decide +kernel
theorem d28_0 : decode jdk_29_method_69_code 0 = .ok (.iload_n 0, 1) := by decide +kernel
theorem d28_1 : decode jdk_29_method_69_code 1 = .ok (.iload_n 1, 1) := by decide +kernel
theorem d28_2 : decode jdk_29_method_69_code 2 = .ok (.if_icmp .gt 7, 3) := by decide +kernel
theorem d28_5 : decode jdk_29_method_69_code 5 = .ok (.iload_n 0, 1) := by decide +kernel
theorem d28_6 : decode jdk_29_method_69_code 6 = .ok (.goto 4, 3) := by decide +kernel
theorem d28_10 : decode jdk_29_method_69_code 10 = .ok (.ireturn, 1) := by decide +kernel
theorem d21_0 : decode jdk_41_method_12_code 0 = .ok (.iload_n 0, 1) := by decide +kernel
theorem d21_1 : decode jdk_41_method_12_code 1 = .ok (.ifCond .lt 13, 3) := by decide +kernel
theorem d21_4 : decode jdk_41_method_12_code 4 = .ok (.iload_n 0, 1) := by decide +kernel
theorem d21_5 : decode jdk_41_method_12_code 5 = .ok (.iload_n 1, 1) := by decide +kernel
theorem d21_6 : decode jdk_41_method_12_code 6 = .ok (.if_icmp .gt 8, 3) := by decide +kernel
theorem d21_9 : decode jdk_41_method_12_code 9 = .ok (.iload_n 1, 1) := by decide +kernel
theorem d21_10 : decode jdk_41_method_12_code 10 = .ok (.iload_n 2, 1) := by decide +kernel
theorem d21_11 : decode jdk_41_method_12_code 11 = .ok (.if_icmp .le 11, 3) := by decide +kernel
theorem d21_22 : decode jdk_41_method_12_code 22 = .ok (.iload_n 0, 1) := by decide +kernel
theorem d21_23 : decode jdk_41_method_12_code 23 = .ok (.ireturn, 1) := by decide +kernel
theorem d20_0 : decode jdk_42_method_158_code 0 = .ok (.iload_n 0, 1) := by decide +kernel
theorem d20_1 : decode jdk_42_method_158_code 1 = .ok (.iload_n 1, 1) := by decide +kernel
theorem d20_2 : decode jdk_42_method_158_code 2 = .ok (.iload_n 2, 1) := by decide +kernel
theorem d20_3 : decode jdk_42_method_158_code 3 = .ok (.getstatic 1053, 3) := by decide +kernel
theorem d20_6 : decode jdk_42_method_158_code 6 = .ok (.invokestatic 1062, 3) := by decide +kernel
theorem d20_9 : decode jdk_42_method_158_code 9 = .ok (.pop, 1) := by decide +kernel
theorem d20_10 : decode jdk_42_method_158_code 10 = .ok (.return_, 1) := by decide +kernel
theorem d26_0 : decode jdk_65_method_133_code 0 = .ok (.iload_n 1, 1) := by decide +kernel
theorem d26_1 : decode jdk_65_method_133_code 1 = .ok (.iload_n 2, 1) := by decide +kernel
theorem d26_2 : decode jdk_65_method_133_code 2 = .ok (.invokestatic 343, 3) := by decide +kernel
theorem d26_5 : decode jdk_65_method_133_code 5 = .ok (.iload_n 2, 1) := by decide +kernel
theorem d26_6 : decode jdk_65_method_133_code 6 = .ok (.iload_n 1, 1) := by decide +kernel
theorem d26_7 : decode jdk_65_method_133_code 7 = .ok (.isub, 1) := by decide +kernel
theorem d26_8 : decode jdk_65_method_133_code 8 = .ok (.istore_n 3, 1) := by decide +kernel
theorem d26_9 : decode jdk_65_method_133_code 9 = .ok (.iload_n 3, 1) := by decide +kernel
theorem d26_10 : decode jdk_65_method_133_code 10 = .ok (.newarray .byte, 2) := by decide +kernel
theorem d26_12 : decode jdk_65_method_133_code 12 = .ok (.astore 4, 2) := by decide +kernel
theorem d26_14 : decode jdk_65_method_133_code 14 = .ok (.aload_n 0, 1) := by decide +kernel
theorem d26_15 : decode jdk_65_method_133_code 15 = .ok (.iload_n 1, 1) := by decide +kernel
theorem d26_16 : decode jdk_65_method_133_code 16 = .ok (.aload 4, 2) := by decide +kernel
theorem d26_18 : decode jdk_65_method_133_code 18 = .ok (.iconst 0, 1) := by decide +kernel
theorem d26_19 : decode jdk_65_method_133_code 19 = .ok (.aload_n 0, 1) := by decide +kernel
theorem d26_20 : decode jdk_65_method_133_code 20 = .ok (.arraylength, 1) := by decide +kernel
theorem d26_21 : decode jdk_65_method_133_code 21 = .ok (.iload_n 1, 1) := by decide +kernel
theorem d26_22 : decode jdk_65_method_133_code 22 = .ok (.isub, 1) := by decide +kernel
theorem d26_23 : decode jdk_65_method_133_code 23 = .ok (.iload_n 3, 1) := by decide +kernel
theorem d26_24 : decode jdk_65_method_133_code 24 = .ok (.invokestatic 304, 3) := by decide +kernel
theorem d26_27 : decode jdk_65_method_133_code 27 = .ok (.invokestatic 150, 3) := by decide +kernel
theorem d26_30 : decode jdk_65_method_133_code 30 = .ok (.aload 4, 2) := by decide +kernel
theorem d26_32 : decode jdk_65_method_133_code 32 = .ok (.areturn, 1) := by decide +kernel
theorem d25_0 : decode jdk_65_method_132_code 0 = .ok (.iload_n 1, 1) := by decide +kernel
theorem d25_1 : decode jdk_65_method_132_code 1 = .ok (.ifCond .ne 9, 3) := by decide +kernel
theorem d25_10 : decode jdk_65_method_132_code 10 = .ok (.aload_n 0, 1) := by decide +kernel
theorem d25_11 : decode jdk_65_method_132_code 11 = .ok (.iload_n 1, 1) := by decide +kernel
theorem d25_12 : decode jdk_65_method_132_code 12 = .ok (.iload_n 2, 1) := by decide +kernel
theorem d25_13 : decode jdk_65_method_132_code 13 = .ok (.invokestatic 339, 3) := by decide +kernel
theorem d25_16 : decode jdk_65_method_132_code 16 = .ok (.areturn, 1) := by decide +kernel
theorem d29_0 : decode jdk_42_method_151_code 0 = .ok (.aload_n 0, 1) := by decide +kernel
theorem d29_1 : decode jdk_42_method_151_code 1 = .ok (.invokespecial 1, 3) := by decide +kernel
theorem d29_4 : decode jdk_42_method_151_code 4 = .ok (.aload_n 0, 1) := by decide +kernel
theorem d29_5 : decode jdk_42_method_151_code 5 = .ok (.aload_n 1, 1) := by decide +kernel
theorem d29_6 : decode jdk_42_method_151_code 6 = .ok (.putfield 9, 3) := by decide +kernel
theorem d29_9 : decode jdk_42_method_151_code 9 = .ok (.aload_n 0, 1) := by decide +kernel
theorem d29_10 : decode jdk_42_method_151_code 10 = .ok (.iload_n 2, 1) := by decide +kernel
theorem d29_11 : decode jdk_42_method_151_code 11 = .ok (.putfield 15, 3) := by decide +kernel
theorem d29_14 : decode jdk_42_method_151_code 14 = .ok (.return_, 1) := by decide +kernel
theorem d23_0 : decode jdk_43_method_47_code 0 = .ok (.iload_n 2, 1) := by decide +kernel
theorem d23_1 : decode jdk_43_method_47_code 1 = .ok (.ifCond .ne 6, 3) := by decide +kernel
theorem d23_4 : decode jdk_43_method_47_code 4 = .ok (.ldc 151, 2) := by decide +kernel
theorem d23_6 : decode jdk_43_method_47_code 6 = .ok (.areturn, 1) := by decide +kernel
theorem d23_7 : decode jdk_43_method_47_code 7 = .ok (.new 1, 3) := by decide +kernel
theorem d23_10 : decode jdk_43_method_47_code 10 = .ok (.dup, 1) := by decide +kernel
theorem d23_11 : decode jdk_43_method_47_code 11 = .ok (.aload_n 0, 1) := by decide +kernel
theorem d23_12 : decode jdk_43_method_47_code 12 = .ok (.iload_n 1, 1) := by decide +kernel
theorem d23_13 : decode jdk_43_method_47_code 13 = .ok (.iload_n 1, 1) := by decide +kernel
theorem d23_14 : decode jdk_43_method_47_code 14 = .ok (.iload_n 2, 1) := by decide +kernel
theorem d23_15 : decode jdk_43_method_47_code 15 = .ok (.iadd, 1) := by decide +kernel
theorem d23_16 : decode jdk_43_method_47_code 16 = .ok (.invokestatic 232, 3) := by decide +kernel
theorem d23_19 : decode jdk_43_method_47_code 19 = .ok (.iconst 0, 1) := by decide +kernel
theorem d23_20 : decode jdk_43_method_47_code 20 = .ok (.invokespecial 112, 3) := by decide +kernel
theorem d23_23 : decode jdk_43_method_47_code 23 = .ok (.areturn, 1) := by decide +kernel
theorem d22_0 : decode jdk_42_method_154_code 0 = .ok (.getstatic 38, 3) := by decide +kernel
theorem d22_3 : decode jdk_42_method_154_code 3 = .ok (.ifCond .eq 14, 3) := by decide +kernel
theorem d22_6 : decode jdk_42_method_154_code 6 = .ok (.aload_n 0, 1) := by decide +kernel
theorem d22_7 : decode jdk_42_method_154_code 7 = .ok (.getfield 15, 3) := by decide +kernel
theorem d22_10 : decode jdk_42_method_154_code 10 = .ok (.ifCond .ne 7, 3) := by decide +kernel
theorem d22_13 : decode jdk_42_method_154_code 13 = .ok (.iconst 1, 1) := by decide +kernel
theorem d22_14 : decode jdk_42_method_154_code 14 = .ok (.goto 4, 3) := by decide +kernel
theorem d22_18 : decode jdk_42_method_154_code 18 = .ok (.ireturn, 1) := by decide +kernel
theorem d19_0 : decode jdk_42_method_92_code 0 = .ok (.aload_n 0, 1) := by decide +kernel
theorem d19_1 : decode jdk_42_method_92_code 1 = .ok (.invokevirtual 505, 3) := by decide +kernel
theorem d19_4 : decode jdk_42_method_92_code 4 = .ok (.istore_n 3, 1) := by decide +kernel
theorem d19_5 : decode jdk_42_method_92_code 5 = .ok (.iload_n 1, 1) := by decide +kernel
theorem d19_6 : decode jdk_42_method_92_code 6 = .ok (.iload_n 2, 1) := by decide +kernel
theorem d19_7 : decode jdk_42_method_92_code 7 = .ok (.iload_n 3, 1) := by decide +kernel
theorem d19_8 : decode jdk_42_method_92_code 8 = .ok (.invokestatic 521, 3) := by decide +kernel
theorem d19_11 : decode jdk_42_method_92_code 11 = .ok (.iload_n 1, 1) := by decide +kernel
theorem d19_12 : decode jdk_42_method_92_code 12 = .ok (.ifCond .ne 10, 3) := by decide +kernel
theorem d19_22 : decode jdk_42_method_92_code 22 = .ok (.iload_n 2, 1) := by decide +kernel
theorem d19_23 : decode jdk_42_method_92_code 23 = .ok (.iload_n 1, 1) := by decide +kernel
theorem d19_24 : decode jdk_42_method_92_code 24 = .ok (.isub, 1) := by decide +kernel
theorem d19_25 : decode jdk_42_method_92_code 25 = .ok (.istore 4, 2) := by decide +kernel
theorem d19_27 : decode jdk_42_method_92_code 27 = .ok (.aload_n 0, 1) := by decide +kernel
theorem d19_28 : decode jdk_42_method_92_code 28 = .ok (.invokevirtual 492, 3) := by decide +kernel
theorem d19_31 : decode jdk_42_method_92_code 31 = .ok (.ifCond .eq 16, 3) := by decide +kernel
theorem d19_34 : decode jdk_42_method_92_code 34 = .ok (.aload_n 0, 1) := by decide +kernel
theorem d19_35 : decode jdk_42_method_92_code 35 = .ok (.getfield 9, 3) := by decide +kernel
theorem d19_38 : decode jdk_42_method_92_code 38 = .ok (.iload_n 1, 1) := by decide +kernel
theorem d19_39 : decode jdk_42_method_92_code 39 = .ok (.iload 4, 2) := by decide +kernel
theorem d19_41 : decode jdk_42_method_92_code 41 = .ok (.invokestatic 685, 3) := by decide +kernel
theorem d19_44 : decode jdk_42_method_92_code 44 = .ok (.goto 13, 3) := by decide +kernel
theorem d19_57 : decode jdk_42_method_92_code 57 = .ok (.areturn, 1) := by decide +kernel
theorem d18_0 : decode jdk_42_method_91_code 0 = .ok (.aload_n 0, 1) := by decide +kernel
theorem d18_1 : decode jdk_42_method_91_code 1 = .ok (.iload_n 1, 1) := by decide +kernel
theorem d18_2 : decode jdk_42_method_91_code 2 = .ok (.aload_n 0, 1) := by decide +kernel
theorem d18_3 : decode jdk_42_method_91_code 3 = .ok (.invokevirtual 505, 3) := by decide +kernel
theorem d18_6 : decode jdk_42_method_91_code 6 = .ok (.invokevirtual 681, 3) := by decide +kernel
theorem d18_9 : decode jdk_42_method_91_code 9 = .ok (.areturn, 1) := by decide +kernel
theorem d10_0 : decode prog_7_method_7_code 0 = .ok (.aload_n 0, 1) := by decide +kernel
theorem d10_1 : decode prog_7_method_7_code 1 = .ok (.ldc 51, 2) := by decide +kernel
theorem d10_3 : decode prog_7_method_7_code 3 = .ok (.invokevirtual 53, 3) := by decide +kernel
theorem d10_6 : decode prog_7_method_7_code 6 = .ok (.istore_n 1, 1) := by decide +kernel
theorem d10_7 : decode prog_7_method_7_code 7 = .ok (.iload_n 1, 1) := by decide +kernel
theorem d10_8 : decode prog_7_method_7_code 8 = .ok (.ifCond .ge 5, 3) := by decide +kernel
theorem d10_11 : decode prog_7_method_7_code 11 = .ok (.aconst_null, 1) := by decide +kernel
theorem d10_12 : decode prog_7_method_7_code 12 = .ok (.areturn, 1) := by decide +kernel
theorem d10_13 : decode prog_7_method_7_code 13 = .ok (.aload_n 0, 1) := by decide +kernel
theorem d10_14 : decode prog_7_method_7_code 14 = .ok (.iload_n 1, 1) := by decide +kernel
theorem d10_15 : decode prog_7_method_7_code 15 = .ok (.ldc 51, 2) := by decide +kernel
theorem d10_17 : decode prog_7_method_7_code 17 = .ok (.invokevirtual 37, 3) := by decide +kernel
theorem d10_20 : decode prog_7_method_7_code 20 = .ok (.iadd, 1) := by decide +kernel
theorem d10_21 : decode prog_7_method_7_code 21 = .ok (.invokevirtual 41, 3) := by decide +kernel
theorem d10_24 : decode prog_7_method_7_code 24 = .ok (.areturn, 1) := by decide +kernel
theorem d1_0 : decode method_3_code 0 = .ok (.lload_n 0, 1) := by decide +kernel
theorem d1_1 : decode method_3_code 1 = .ok (.bipush 8, 2) := by decide +kernel
theorem d1_3 : decode method_3_code 3 = .ok (.iload_n 2, 1) := by decide +kernel
theorem d1_4 : decode method_3_code 4 = .ok (.imul, 1) := by decide +kernel
theorem d1_5 : decode method_3_code 5 = .ok (.lushr, 1) := by decide +kernel
theorem d1_6 : decode method_3_code 6 = .ok (.ldc2_w 40, 3) := by decide +kernel
theorem d1_9 : decode method_3_code 9 = .ok (.land, 1) := by decide +kernel
theorem d1_10 : decode method_3_code 10 = .ok (.l2i, 1) := by decide +kernel
theorem d1_11 : decode method_3_code 11 = .ok (.i2c, 1) := by decide +kernel
theorem d1_12 : decode method_3_code 12 = .ok (.ireturn, 1) := by decide +kernel
theorem d17_0 : decode method_4_code 0 = .ok (.aload_n 0, 1) := by decide +kernel
theorem d17_1 : decode method_4_code 1 = .ok (.iload_n 1, 1) := by decide +kernel
theorem d17_2 : decode method_4_code 2 = .ok (.bipush 32, 2) := by decide +kernel
theorem d17_4 : decode method_4_code 4 = .ok (.castore, 1) := by decide +kernel
theorem d17_5 : decode method_4_code 5 = .ok (.aload_n 0, 1) := by decide +kernel
theorem d17_6 : decode method_4_code 6 = .ok (.iload_n 1, 1) := by decide +kernel
theorem d17_7 : decode method_4_code 7 = .ok (.iconst 1, 1) := by decide +kernel
theorem d17_8 : decode method_4_code 8 = .ok (.iadd, 1) := by decide +kernel
theorem d17_9 : decode method_4_code 9 = .ok (.bipush 119, 2) := by decide +kernel
theorem d17_11 : decode method_4_code 11 = .ok (.castore, 1) := by decide +kernel
theorem d17_12 : decode method_4_code 12 = .ok (.aload_n 0, 1) := by decide +kernel
theorem d17_13 : decode method_4_code 13 = .ok (.iload_n 1, 1) := by decide +kernel
theorem d17_14 : decode method_4_code 14 = .ok (.iconst 2, 1) := by decide +kernel
theorem d17_15 : decode method_4_code 15 = .ok (.iadd, 1) := by decide +kernel
theorem d17_16 : decode method_4_code 16 = .ok (.bipush 111, 2) := by decide +kernel
theorem d17_18 : decode method_4_code 18 = .ok (.castore, 1) := by decide +kernel
theorem d17_19 : decode method_4_code 19 = .ok (.aload_n 0, 1) := by decide +kernel
theorem d17_20 : decode method_4_code 20 = .ok (.iload_n 1, 1) := by decide +kernel
theorem d17_21 : decode method_4_code 21 = .ok (.iconst 3, 1) := by decide +kernel
theorem d17_22 : decode method_4_code 22 = .ok (.iadd, 1) := by decide +kernel
theorem d17_23 : decode method_4_code 23 = .ok (.bipush 107, 2) := by decide +kernel
theorem d17_25 : decode method_4_code 25 = .ok (.castore, 1) := by decide +kernel
theorem d17_26 : decode method_4_code 26 = .ok (.aload_n 0, 1) := by decide +kernel
theorem d17_27 : decode method_4_code 27 = .ok (.iload_n 1, 1) := by decide +kernel
theorem d17_28 : decode method_4_code 28 = .ok (.iconst 4, 1) := by decide +kernel
theorem d17_29 : decode method_4_code 29 = .ok (.iadd, 1) := by decide +kernel
theorem d17_30 : decode method_4_code 30 = .ok (.bipush 101, 2) := by decide +kernel
theorem d17_32 : decode method_4_code 32 = .ok (.castore, 1) := by decide +kernel
theorem d17_33 : decode method_4_code 33 = .ok (.aload_n 0, 1) := by decide +kernel
theorem d17_34 : decode method_4_code 34 = .ok (.iload_n 1, 1) := by decide +kernel
theorem d17_35 : decode method_4_code 35 = .ok (.iconst 5, 1) := by decide +kernel
theorem d17_36 : decode method_4_code 36 = .ok (.iadd, 1) := by decide +kernel
theorem d17_37 : decode method_4_code 37 = .ok (.bipush 110, 2) := by decide +kernel
theorem d17_39 : decode method_4_code 39 = .ok (.castore, 1) := by decide +kernel
theorem d17_40 : decode method_4_code 40 = .ok (.aload_n 0, 1) := by decide +kernel
theorem d17_41 : decode method_4_code 41 = .ok (.iload_n 1, 1) := by decide +kernel
theorem d17_42 : decode method_4_code 42 = .ok (.bipush 6, 2) := by decide +kernel
theorem d17_44 : decode method_4_code 44 = .ok (.iadd, 1) := by decide +kernel
theorem d17_45 : decode method_4_code 45 = .ok (.bipush 58, 2) := by decide +kernel
theorem d17_47 : decode method_4_code 47 = .ok (.castore, 1) := by decide +kernel
theorem d17_48 : decode method_4_code 48 = .ok (.return_, 1) := by decide +kernel
theorem d24_0 : decode method_7_code 0 = .ok (.iload_n 3, 1) := by decide +kernel
theorem d24_1 : decode method_7_code 1 = .ok (.aload_n 0, 1) := by decide +kernel
theorem d24_2 : decode method_7_code 2 = .ok (.invokevirtual 32, 3) := by decide +kernel
theorem d24_5 : decode method_7_code 5 = .ok (.if_icmp .ge 16, 3) := by decide +kernel
theorem d24_8 : decode method_7_code 8 = .ok (.aload_n 0, 1) := by decide +kernel
theorem d24_9 : decode method_7_code 9 = .ok (.iload_n 3, 1) := by decide +kernel
theorem d24_10 : decode method_7_code 10 = .ok (.invokevirtual 46, 3) := by decide +kernel
theorem d24_13 : decode method_7_code 13 = .ok (.aload_n 1, 1) := by decide +kernel
theorem d24_14 : decode method_7_code 14 = .ok (.iload_n 2, 1) := by decide +kernel
theorem d24_15 : decode method_7_code 15 = .ok (.iload_n 3, 1) := by decide +kernel
theorem d24_16 : decode method_7_code 16 = .ok (.iadd, 1) := by decide +kernel
theorem d24_17 : decode method_7_code 17 = .ok (.caload, 1) := by decide +kernel
theorem d24_18 : decode method_7_code 18 = .ok (.if_icmp .ne 7, 3) := by decide +kernel
theorem d24_21 : decode method_7_code 21 = .ok (.iconst 1, 1) := by decide +kernel
theorem d24_22 : decode method_7_code 22 = .ok (.goto 4, 3) := by decide +kernel
theorem d24_26 : decode method_7_code 26 = .ok (.ireturn, 1) := by decide +kernel
theorem pd0 : parseMethodDescriptor "([CII)Z" = some ⟨[(.array .char), .int, .int], some .boolean⟩ := by decide +kernel
theorem pd1 : parseMethodDescriptor "()B" = some ⟨[], some .byte⟩ := by decide +kernel
theorem pd2 : parseMethodDescriptor "()I" = some ⟨[], some .int⟩ := by decide +kernel
theorem pd3 : parseMethodDescriptor "([BI[BII)I" = some ⟨[(.array .byte), .int, (.array .byte), .int, .int], some .int⟩ := by decide +kernel
theorem pd4 : parseMethodDescriptor "([BBILjava/lang/String;I)I" = some ⟨[(.array .byte), .byte, .int, (.object "java/lang/String"), .int], some .int⟩ := by decide +kernel
theorem pd5 : parseMethodDescriptor "(Ljava/lang/String;I)I" = some ⟨[(.object "java/lang/String"), .int], some .int⟩ := by decide +kernel
theorem pd6 : parseMethodDescriptor "(IIILjava/util/function/BiFunction;)I" = some ⟨[.int, .int, .int, (.object "java/util/function/BiFunction")], some .int⟩ := by decide +kernel
theorem pd7 : parseMethodDescriptor "(II)V" = some ⟨[.int, .int], none⟩ := by decide +kernel
theorem pd8 : parseMethodDescriptor "(II)I" = some ⟨[.int, .int], some .int⟩ := by decide +kernel
theorem pd9 : parseMethodDescriptor "([BII)[B" = some ⟨[(.array .byte), .int, .int], some (.array .byte)⟩ := by decide +kernel
theorem pd10 : parseMethodDescriptor "([BB)V" = some ⟨[(.array .byte), .byte], none⟩ := by decide +kernel
theorem pd11 : parseMethodDescriptor "(III)V" = some ⟨[.int, .int, .int], none⟩ := by decide +kernel
theorem pd12 : parseMethodDescriptor "()Z" = some ⟨[], some .boolean⟩ := by decide +kernel
theorem pd13 : parseMethodDescriptor "([BII)Ljava/lang/String;" = some ⟨[(.array .byte), .int, .int], some (.object "java/lang/String")⟩ := by decide +kernel
theorem pd14 : parseMethodDescriptor "(II)Ljava/lang/String;" = some ⟨[.int, .int], some (.object "java/lang/String")⟩ := by decide +kernel
theorem pd15 : parseMethodDescriptor "(Ljava/lang/String;)I" = some ⟨[(.object "java/lang/String")], some .int⟩ := by decide +kernel
theorem pd16 : parseMethodDescriptor "(I)Ljava/lang/String;" = some ⟨[.int], some (.object "java/lang/String")⟩ := by decide +kernel
theorem pd17 : parseMethodDescriptor "(I)C" = some ⟨[.int], some .char⟩ := by decide +kernel
theorem pd18 : parseMethodDescriptor "(JI)C" = some ⟨[.long, .int], some .char⟩ := by decide +kernel
theorem pd19 : parseMethodDescriptor "([C)V" = some ⟨[(.array .char)], none⟩ := by decide +kernel
theorem pd20 : parseMethodDescriptor "([CI)I" = some ⟨[(.array .char), .int], some .int⟩ := by decide +kernel
theorem pd21 : parseMethodDescriptor "(Ljava/lang/String;)Ljava/lang/String;" = some ⟨[(.object "java/lang/String")], some (.object "java/lang/String")⟩ := by decide +kernel
theorem pd22 : parseMethodDescriptor "(Ljava/lang/String;[CII)Z" = some ⟨[(.object "java/lang/String"), (.array .char), .int, .int], some .boolean⟩ := by decide +kernel
theorem pd23 : parseMethodDescriptor "([CI)V" = some ⟨[(.array .char), .int], none⟩ := by decide +kernel
theorem pn0 : plainName "java/lang/String" = true := by first | (simp [plainName, overriddenIn]; done) | decide +kernel
theorem pn1 : plainName "com/example/bounded_lock/boundedlock/LockLayoutWokenInstanceOfPinLaw" = true := by first | (simp [plainName, overriddenIn]; done) | decide +kernel
theorem pn2 : plainName "java/lang/StringLatin1" = true := by first | (simp [plainName, overriddenIn]; done) | decide +kernel
theorem pn3 : plainName "java/util/Arrays" = true := by first | (simp [plainName, overriddenIn]; done) | decide +kernel
theorem pf28 : plainFor (⟨"java/lang/Math", "min", "(II)I"⟩ : MethodName) = true := by first | decide +kernel | rfl
theorem pn5 : plainName "jdk/internal/util/Preconditions" = true := by first | (simp [plainName, overriddenIn]; done) | decide +kernel
theorem pn6 : plainName "com/example/bounded_lock/boundedlock/LockLayout" = true := by first | (simp [plainName, overriddenIn]; done) | decide +kernel
theorem wd0 {Z : State} {a0 : Array Value} (hw : ∀ d ∈ tables_1, d.before a0 Z = true) : (Jvm.Cond.arrayClass Jvm.ClassFile.FieldType.char).before a0 Z = true := hw _ (List.mem_of_getElem? (i := 0) rfl)
theorem wd1 {Z : State} {a0 : Array Value} (hw : ∀ d ∈ tables_1, d.before a0 Z = true) : (Jvm.Cond.methodLink "com/example/bounded_lock/boundedlock/LockLayoutWokenInstanceOfPinLaw" (7 : Nat) ({ cls := "com/example/bounded_lock/boundedlock/LockLayoutWokenInstanceOfPinLaw", name := "ch", desc := "(JI)C" } : Jvm.MethodName)).before a0 Z = true := hw _ (List.mem_of_getElem? (i := 1) rfl)
theorem wd2 {Z : State} {a0 : Array Value} (hw : ∀ d ∈ tables_1, d.before a0 Z = true) : (Jvm.Cond.static ({ cls := "com/example/bounded_lock/boundedlock/LockLayoutWokenInstanceOfPinLaw", name := "ch", desc := "(JI)C" } : Jvm.MethodName)).before a0 Z = true := hw _ (List.mem_of_getElem? (i := 2) rfl)
theorem wd3 {Z : State} {a0 : Array Value} (hw : ∀ d ∈ tables_1, d.before a0 Z = true) : (Jvm.Cond.initialized "com/example/bounded_lock/boundedlock/LockLayoutWokenInstanceOfPinLaw").before a0 Z = true := hw _ (List.mem_of_getElem? (i := 3) rfl)
theorem wd4 {Z : State} {a0 : Array Value} (hw : ∀ d ∈ tables_1, d.before a0 Z = true) : (Jvm.Cond.code ({ cls := "com/example/bounded_lock/boundedlock/LockLayoutWokenInstanceOfPinLaw", name := "ch", desc := "(JI)C" } : Jvm.MethodName) method_3_code (3 : Nat) (Option.some Jvm.ClassFile.FieldType.char)).before a0 Z = true := hw _ (List.mem_of_getElem? (i := 4) rfl)
theorem wd5 {Z : State} {a0 : Array Value} (hw : ∀ d ∈ tables_1, d.before a0 Z = true) : (Jvm.Cond.constantLong "com/example/bounded_lock/boundedlock/LockLayoutWokenInstanceOfPinLaw" (40 : Nat) (255 : Int64)).before a0 Z = true := hw _ (List.mem_of_getElem? (i := 5) rfl)
theorem wd6 {Z : State} {a0 : Array Value} (hw : ∀ d ∈ tables_1, d.before a0 Z = true) : (Jvm.Cond.classLink "com/example/bounded_lock/boundedlock/LockLayoutWokenInstanceOfPinLaw" (17 : Nat) "java/lang/String").before a0 Z = true := hw _ (List.mem_of_getElem? (i := 6) rfl)
theorem wd7 {Z : State} {a0 : Array Value} (hw : ∀ d ∈ tables_1, d.before a0 Z = true) : (Jvm.Cond.instantiable "java/lang/String" (4 : Nat)).before a0 Z = true := hw _ (List.mem_of_getElem? (i := 7) rfl)
theorem wd8 {Z : State} {a0 : Array Value} (hw : ∀ d ∈ tables_1, d.before a0 Z = true) : (Jvm.Cond.initialized "java/lang/String").before a0 Z = true := hw _ (List.mem_of_getElem? (i := 8) rfl)
theorem wd9 {Z : State} {a0 : Array Value} (hw : ∀ d ∈ tables_1, d.before a0 Z = true) : (Jvm.Cond.methodLink "com/example/bounded_lock/boundedlock/LockLayoutWokenInstanceOfPinLaw" (19 : Nat) ({ cls := "java/lang/String", name := "<init>", desc := "([C)V" } : Jvm.MethodName)).before a0 Z = true := hw _ (List.mem_of_getElem? (i := 9) rfl)
theorem wd10 {Z : State} {a0 : Array Value} (hw : ∀ d ∈ tables_1, d.before a0 Z = true) : (Jvm.Cond.instanceMethod ({ cls := "java/lang/String", name := "<init>", desc := "([C)V" } : Jvm.MethodName)).before a0 Z = true := hw _ (List.mem_of_getElem? (i := 10) rfl)
theorem wd11 {Z : State} {a0 : Array Value} (hw : ∀ d ∈ tables_1, d.before a0 Z = true) : (Jvm.Cond.code ({ cls := "java/lang/String", name := "<init>", desc := "([C)V" } : Jvm.MethodName) jdk_42_method_3_code (2 : Nat) (Option.none : Option Jvm.ClassFile.FieldType)).before a0 Z = true := hw _ (List.mem_of_getElem? (i := 11) rfl)
theorem wd16 {Z : State} {a0 : Array Value} (hw : ∀ d ∈ tables_1, d.before a0 Z = true) : (Jvm.Cond.methodLink "java/lang/String" (1 : Nat) ({ cls := "java/lang/Object", name := "<init>", desc := "()V" } : Jvm.MethodName)).before a0 Z = true := hw _ (List.mem_of_getElem? (i := 16) rfl)
theorem wd17 {Z : State} {a0 : Array Value} (hw : ∀ d ∈ tables_1, d.before a0 Z = true) : (Jvm.Cond.instanceMethod ({ cls := "java/lang/Object", name := "<init>", desc := "()V" } : Jvm.MethodName)).before a0 Z = true := hw _ (List.mem_of_getElem? (i := 17) rfl)
theorem wd18 {Z : State} {a0 : Array Value} (hw : ∀ d ∈ tables_1, d.before a0 Z = true) : (Jvm.Cond.code ({ cls := "java/lang/Object", name := "<init>", desc := "()V" } : Jvm.MethodName) object_method_1_code (1 : Nat) (Option.none : Option Jvm.ClassFile.FieldType)).before a0 Z = true := hw _ (List.mem_of_getElem? (i := 18) rfl)
theorem wd19 {Z : State} {a0 : Array Value} (hw : ∀ d ∈ tables_1, d.before a0 Z = true) : (Jvm.Cond.fieldLink "java/lang/String" (38 : Nat) "java/lang/String" "COMPACT_STRINGS" "Z").before a0 Z = true := hw _ (List.mem_of_getElem? (i := 19) rfl)
theorem wd24 {Z : State} {a0 : Array Value} (hw : ∀ d ∈ tables_1, d.before a0 Z = true) : (Jvm.Cond.arrayClass Jvm.ClassFile.FieldType.byte).before a0 Z = true := hw _ (List.mem_of_getElem? (i := 24) rfl)
theorem wd31 {Z : State} {a0 : Array Value} (hw : ∀ d ∈ tables_1, d.before a0 Z = true) : (Jvm.Cond.fieldLink "java/lang/String" (15 : Nat) "java/lang/String" "coder" "B").before a0 Z = true := hw _ (List.mem_of_getElem? (i := 31) rfl)
theorem wd32 {Z : State} {a0 : Array Value} (hw : ∀ d ∈ tables_1, d.before a0 Z = true) : (Jvm.Cond.laysFinal "java/lang/String" "java/lang/String" "coder" "B").before a0 Z = true := hw _ (List.mem_of_getElem? (i := 32) rfl)
theorem wd33 {Z : State} {a0 : Array Value} (hw : ∀ d ∈ tables_1, d.before a0 Z = true) : (Jvm.Cond.fieldLink "java/lang/String" (9 : Nat) "java/lang/String" "value" "[B").before a0 Z = true := hw _ (List.mem_of_getElem? (i := 33) rfl)
theorem wd34 {Z : State} {a0 : Array Value} (hw : ∀ d ∈ tables_1, d.before a0 Z = true) : (Jvm.Cond.laysFinal "java/lang/String" "java/lang/String" "value" "[B").before a0 Z = true := hw _ (List.mem_of_getElem? (i := 34) rfl)
theorem wd35 {Z : State} {a0 : Array Value} (hw : ∀ d ∈ tables_1, d.before a0 Z = true) : (Jvm.Cond.methodLink "com/example/bounded_lock/boundedlock/LockLayoutWokenInstanceOfPinLaw" (22 : Nat) ({ cls := "com/example/bounded_lock/boundedlock/LockLayoutWokenInstanceOfPinLaw", name := "lastMark", desc := "([CI)I" } : Jvm.MethodName)).before a0 Z = true := hw _ (List.mem_of_getElem? (i := 35) rfl)
theorem wd36 {Z : State} {a0 : Array Value} (hw : ∀ d ∈ tables_1, d.before a0 Z = true) : (Jvm.Cond.static ({ cls := "com/example/bounded_lock/boundedlock/LockLayoutWokenInstanceOfPinLaw", name := "lastMark", desc := "([CI)I" } : Jvm.MethodName)).before a0 Z = true := hw _ (List.mem_of_getElem? (i := 36) rfl)
theorem wd37 {Z : State} {a0 : Array Value} (hw : ∀ d ∈ tables_1, d.before a0 Z = true) : (Jvm.Cond.code ({ cls := "com/example/bounded_lock/boundedlock/LockLayoutWokenInstanceOfPinLaw", name := "lastMark", desc := "([CI)I" } : Jvm.MethodName) method_6_code (2 : Nat) (Option.some Jvm.ClassFile.FieldType.int)).before a0 Z = true := hw _ (List.mem_of_getElem? (i := 37) rfl)
theorem wd38 {Z : State} {a0 : Array Value} (hw : ∀ d ∈ tables_1, d.before a0 Z = true) : (Jvm.Cond.methodLink "com/example/bounded_lock/boundedlock/LockLayoutWokenInstanceOfPinLaw" (42 : Nat) ({ cls := "com/example/bounded_lock/boundedlock/LockLayoutWokenInstanceOfPinLaw", name := "at", desc := "([CII)Z" } : Jvm.MethodName)).before a0 Z = true := hw _ (List.mem_of_getElem? (i := 38) rfl)
theorem wd39 {Z : State} {a0 : Array Value} (hw : ∀ d ∈ tables_1, d.before a0 Z = true) : (Jvm.Cond.static ({ cls := "com/example/bounded_lock/boundedlock/LockLayoutWokenInstanceOfPinLaw", name := "at", desc := "([CII)Z" } : Jvm.MethodName)).before a0 Z = true := hw _ (List.mem_of_getElem? (i := 39) rfl)
theorem wd40 {Z : State} {a0 : Array Value} (hw : ∀ d ∈ tables_1, d.before a0 Z = true) : (Jvm.Cond.code ({ cls := "com/example/bounded_lock/boundedlock/LockLayoutWokenInstanceOfPinLaw", name := "at", desc := "([CII)Z" } : Jvm.MethodName) method_5_code (3 : Nat) (Option.some Jvm.ClassFile.FieldType.boolean)).before a0 Z = true := hw _ (List.mem_of_getElem? (i := 40) rfl)
theorem wd41 {Z : State} {a0 : Array Value} (hw : ∀ d ∈ tables_1, d.before a0 Z = true) : (Jvm.Cond.methodLink "com/example/bounded_lock/boundedlock/LockLayoutWokenInstanceOfPinLaw" (26 : Nat) ({ cls := "com/example/bounded_lock/boundedlock/LockLayout", name := "wokenInstanceOf", desc := "(Ljava/lang/String;)Ljava/lang/String;" } : Jvm.MethodName)).before a0 Z = true := hw _ (List.mem_of_getElem? (i := 41) rfl)
theorem wd42 {Z : State} {a0 : Array Value} (hw : ∀ d ∈ tables_1, d.before a0 Z = true) : (Jvm.Cond.static ({ cls := "com/example/bounded_lock/boundedlock/LockLayout", name := "wokenInstanceOf", desc := "(Ljava/lang/String;)Ljava/lang/String;" } : Jvm.MethodName)).before a0 Z = true := hw _ (List.mem_of_getElem? (i := 42) rfl)
theorem wd43 {Z : State} {a0 : Array Value} (hw : ∀ d ∈ tables_1, d.before a0 Z = true) : (Jvm.Cond.initialized "com/example/bounded_lock/boundedlock/LockLayout").before a0 Z = true := hw _ (List.mem_of_getElem? (i := 43) rfl)
theorem wd44 {Z : State} {a0 : Array Value} (hw : ∀ d ∈ tables_1, d.before a0 Z = true) : (Jvm.Cond.code ({ cls := "com/example/bounded_lock/boundedlock/LockLayout", name := "wokenInstanceOf", desc := "(Ljava/lang/String;)Ljava/lang/String;" } : Jvm.MethodName) prog_7_method_7_code (2 : Nat) (Option.some (Jvm.ClassFile.FieldType.object "java/lang/String"))).before a0 Z = true := hw _ (List.mem_of_getElem? (i := 44) rfl)
theorem wd45 {Z : State} {a0 : Array Value} (hw : ∀ d ∈ tables_1, d.before a0 Z = true) : (Jvm.Cond.stringLink "com/example/bounded_lock/boundedlock/LockLayout" (51 : Nat) " woken:").before a0 Z = true := hw _ (List.mem_of_getElem? (i := 45) rfl)
theorem wd48 {Z : State} {a0 : Array Value} (hw : ∀ d ∈ tables_1, d.before a0 Z = true) : (Jvm.Cond.methodLink "com/example/bounded_lock/boundedlock/LockLayout" (53 : Nat) ({ cls := "java/lang/String", name := "lastIndexOf", desc := "(Ljava/lang/String;)I" } : Jvm.MethodName)).before a0 Z = true := hw _ (List.mem_of_getElem? (i := 48) rfl)
theorem wd49 {Z : State} {a0 : Array Value} (hw : ∀ d ∈ tables_1, d.before a0 Z = true) : (Jvm.Cond.declares ({ cls := "java/lang/String", name := "lastIndexOf", desc := "(Ljava/lang/String;)I" } : Jvm.MethodName)).before a0 Z = true := hw _ (List.mem_of_getElem? (i := 49) rfl)
theorem wd50 {Z : State} {a0 : Array Value} (hw : ∀ d ∈ tables_1, d.before a0 Z = true) : (Jvm.Cond.instanceMethod ({ cls := "java/lang/String", name := "lastIndexOf", desc := "(Ljava/lang/String;)I" } : Jvm.MethodName)).before a0 Z = true := hw _ (List.mem_of_getElem? (i := 50) rfl)
theorem wd51 {Z : State} {a0 : Array Value} (hw : ∀ d ∈ tables_1, d.before a0 Z = true) : (Jvm.Cond.selects "java/lang/String" ({ cls := "java/lang/String", name := "lastIndexOf", desc := "(Ljava/lang/String;)I" } : Jvm.MethodName) ({ cls := "java/lang/String", name := "lastIndexOf", desc := "(Ljava/lang/String;)I" } : Jvm.MethodName)).before a0 Z = true := hw _ (List.mem_of_getElem? (i := 51) rfl)
theorem wd52 {Z : State} {a0 : Array Value} (hw : ∀ d ∈ tables_1, d.before a0 Z = true) : (Jvm.Cond.code ({ cls := "java/lang/String", name := "lastIndexOf", desc := "(Ljava/lang/String;)I" } : Jvm.MethodName) jdk_42_method_88_code (2 : Nat) (Option.some Jvm.ClassFile.FieldType.int)).before a0 Z = true := hw _ (List.mem_of_getElem? (i := 52) rfl)
theorem wd53 {Z : State} {a0 : Array Value} (hw : ∀ d ∈ tables_1, d.before a0 Z = true) : (Jvm.Cond.methodLink "java/lang/String" (505 : Nat) ({ cls := "java/lang/String", name := "length", desc := "()I" } : Jvm.MethodName)).before a0 Z = true := hw _ (List.mem_of_getElem? (i := 53) rfl)
theorem wd54 {Z : State} {a0 : Array Value} (hw : ∀ d ∈ tables_1, d.before a0 Z = true) : (Jvm.Cond.declares ({ cls := "java/lang/String", name := "length", desc := "()I" } : Jvm.MethodName)).before a0 Z = true := hw _ (List.mem_of_getElem? (i := 54) rfl)
theorem wd55 {Z : State} {a0 : Array Value} (hw : ∀ d ∈ tables_1, d.before a0 Z = true) : (Jvm.Cond.instanceMethod ({ cls := "java/lang/String", name := "length", desc := "()I" } : Jvm.MethodName)).before a0 Z = true := hw _ (List.mem_of_getElem? (i := 55) rfl)
theorem wd56 {Z : State} {a0 : Array Value} (hw : ∀ d ∈ tables_1, d.before a0 Z = true) : (Jvm.Cond.selects "java/lang/String" ({ cls := "java/lang/String", name := "length", desc := "()I" } : Jvm.MethodName) ({ cls := "java/lang/String", name := "length", desc := "()I" } : Jvm.MethodName)).before a0 Z = true := hw _ (List.mem_of_getElem? (i := 56) rfl)
theorem wd58 {Z : State} {a0 : Array Value} (hw : ∀ d ∈ tables_1, d.before a0 Z = true) : (Jvm.Cond.methodLink "java/lang/String" (335 : Nat) ({ cls := "java/lang/String", name := "coder", desc := "()B" } : Jvm.MethodName)).before a0 Z = true := hw _ (List.mem_of_getElem? (i := 58) rfl)
theorem wd59 {Z : State} {a0 : Array Value} (hw : ∀ d ∈ tables_1, d.before a0 Z = true) : (Jvm.Cond.declares ({ cls := "java/lang/String", name := "coder", desc := "()B" } : Jvm.MethodName)).before a0 Z = true := hw _ (List.mem_of_getElem? (i := 59) rfl)
theorem wd60 {Z : State} {a0 : Array Value} (hw : ∀ d ∈ tables_1, d.before a0 Z = true) : (Jvm.Cond.instanceMethod ({ cls := "java/lang/String", name := "coder", desc := "()B" } : Jvm.MethodName)).before a0 Z = true := hw _ (List.mem_of_getElem? (i := 60) rfl)
theorem wd61 {Z : State} {a0 : Array Value} (hw : ∀ d ∈ tables_1, d.before a0 Z = true) : (Jvm.Cond.selects "java/lang/String" ({ cls := "java/lang/String", name := "coder", desc := "()B" } : Jvm.MethodName) ({ cls := "java/lang/String", name := "coder", desc := "()B" } : Jvm.MethodName)).before a0 Z = true := hw _ (List.mem_of_getElem? (i := 61) rfl)
theorem wd62 {Z : State} {a0 : Array Value} (hw : ∀ d ∈ tables_1, d.before a0 Z = true) : (Jvm.Cond.code ({ cls := "java/lang/String", name := "coder", desc := "()B" } : Jvm.MethodName) jdk_42_method_152_code (1 : Nat) (Option.some Jvm.ClassFile.FieldType.byte)).before a0 Z = true := hw _ (List.mem_of_getElem? (i := 62) rfl)
theorem wd63 {Z : State} {a0 : Array Value} (hw : ∀ d ∈ tables_1, d.before a0 Z = true) : (Jvm.Cond.methodLink "java/lang/String" (670 : Nat) ({ cls := "java/lang/String", name := "lastIndexOf", desc := "(Ljava/lang/String;I)I" } : Jvm.MethodName)).before a0 Z = true := hw _ (List.mem_of_getElem? (i := 63) rfl)
theorem wd64 {Z : State} {a0 : Array Value} (hw : ∀ d ∈ tables_1, d.before a0 Z = true) : (Jvm.Cond.declares ({ cls := "java/lang/String", name := "lastIndexOf", desc := "(Ljava/lang/String;I)I" } : Jvm.MethodName)).before a0 Z = true := hw _ (List.mem_of_getElem? (i := 64) rfl)
theorem wd65 {Z : State} {a0 : Array Value} (hw : ∀ d ∈ tables_1, d.before a0 Z = true) : (Jvm.Cond.instanceMethod ({ cls := "java/lang/String", name := "lastIndexOf", desc := "(Ljava/lang/String;I)I" } : Jvm.MethodName)).before a0 Z = true := hw _ (List.mem_of_getElem? (i := 65) rfl)
theorem wd66 {Z : State} {a0 : Array Value} (hw : ∀ d ∈ tables_1, d.before a0 Z = true) : (Jvm.Cond.selects "java/lang/String" ({ cls := "java/lang/String", name := "lastIndexOf", desc := "(Ljava/lang/String;I)I" } : Jvm.MethodName) ({ cls := "java/lang/String", name := "lastIndexOf", desc := "(Ljava/lang/String;I)I" } : Jvm.MethodName)).before a0 Z = true := hw _ (List.mem_of_getElem? (i := 66) rfl)
theorem wd67 {Z : State} {a0 : Array Value} (hw : ∀ d ∈ tables_1, d.before a0 Z = true) : (Jvm.Cond.code ({ cls := "java/lang/String", name := "lastIndexOf", desc := "(Ljava/lang/String;I)I" } : Jvm.MethodName) jdk_42_method_89_code (3 : Nat) (Option.some Jvm.ClassFile.FieldType.int)).before a0 Z = true := hw _ (List.mem_of_getElem? (i := 67) rfl)
theorem wd68 {Z : State} {a0 : Array Value} (hw : ∀ d ∈ tables_1, d.before a0 Z = true) : (Jvm.Cond.methodLink "java/lang/String" (673 : Nat) ({ cls := "java/lang/String", name := "lastIndexOf", desc := "([BBILjava/lang/String;I)I" } : Jvm.MethodName)).before a0 Z = true := hw _ (List.mem_of_getElem? (i := 68) rfl)
theorem wd69 {Z : State} {a0 : Array Value} (hw : ∀ d ∈ tables_1, d.before a0 Z = true) : (Jvm.Cond.static ({ cls := "java/lang/String", name := "lastIndexOf", desc := "([BBILjava/lang/String;I)I" } : Jvm.MethodName)).before a0 Z = true := hw _ (List.mem_of_getElem? (i := 69) rfl)
theorem wd70 {Z : State} {a0 : Array Value} (hw : ∀ d ∈ tables_1, d.before a0 Z = true) : (Jvm.Cond.code ({ cls := "java/lang/String", name := "lastIndexOf", desc := "([BBILjava/lang/String;I)I" } : Jvm.MethodName) jdk_42_method_90_code (9 : Nat) (Option.some Jvm.ClassFile.FieldType.int)).before a0 Z = true := hw _ (List.mem_of_getElem? (i := 70) rfl)
theorem wd71 {Z : State} {a0 : Array Value} (hw : ∀ d ∈ tables_1, d.before a0 Z = true) : (Jvm.Cond.methodLink "java/lang/String" (675 : Nat) ({ cls := "java/lang/StringLatin1", name := "lastIndexOf", desc := "([BI[BII)I" } : Jvm.MethodName)).before a0 Z = true := hw _ (List.mem_of_getElem? (i := 71) rfl)
theorem wd72 {Z : State} {a0 : Array Value} (hw : ∀ d ∈ tables_1, d.before a0 Z = true) : (Jvm.Cond.static ({ cls := "java/lang/StringLatin1", name := "lastIndexOf", desc := "([BI[BII)I" } : Jvm.MethodName)).before a0 Z = true := hw _ (List.mem_of_getElem? (i := 72) rfl)
theorem wd73 {Z : State} {a0 : Array Value} (hw : ∀ d ∈ tables_1, d.before a0 Z = true) : (Jvm.Cond.initialized "java/lang/StringLatin1").before a0 Z = true := hw _ (List.mem_of_getElem? (i := 73) rfl)
theorem wd74 {Z : State} {a0 : Array Value} (hw : ∀ d ∈ tables_1, d.before a0 Z = true) : (Jvm.Cond.code ({ cls := "java/lang/StringLatin1", name := "lastIndexOf", desc := "([BI[BII)I" } : Jvm.MethodName) jdk_43_method_26_code (12 : Nat) (Option.some Jvm.ClassFile.FieldType.int)).before a0 Z = true := hw _ (List.mem_of_getElem? (i := 74) rfl)
theorem wd75 {Z : State} {a0 : Array Value} (hw : ∀ d ∈ tables_1, d.before a0 Z = true) : (Jvm.Cond.methodLink "com/example/bounded_lock/boundedlock/LockLayoutWokenInstanceOfPinLaw" (13 : Nat) ({ cls := "com/example/bounded_lock/boundedlock/LockLayoutWokenInstanceOfPinLaw", name := "put", desc := "([CI)V" } : Jvm.MethodName)).before a0 Z = true := hw _ (List.mem_of_getElem? (i := 75) rfl)
theorem wd76 {Z : State} {a0 : Array Value} (hw : ∀ d ∈ tables_1, d.before a0 Z = true) : (Jvm.Cond.static ({ cls := "com/example/bounded_lock/boundedlock/LockLayoutWokenInstanceOfPinLaw", name := "put", desc := "([CI)V" } : Jvm.MethodName)).before a0 Z = true := hw _ (List.mem_of_getElem? (i := 76) rfl)
theorem wd77 {Z : State} {a0 : Array Value} (hw : ∀ d ∈ tables_1, d.before a0 Z = true) : (Jvm.Cond.code ({ cls := "com/example/bounded_lock/boundedlock/LockLayoutWokenInstanceOfPinLaw", name := "put", desc := "([CI)V" } : Jvm.MethodName) method_4_code (2 : Nat) (Option.none : Option Jvm.ClassFile.FieldType)).before a0 Z = true := hw _ (List.mem_of_getElem? (i := 77) rfl)
theorem wd78 {Z : State} {a0 : Array Value} (hw : ∀ d ∈ tables_1, d.before a0 Z = true) : (Jvm.Cond.methodLink "com/example/bounded_lock/boundedlock/LockLayout" (37 : Nat) ({ cls := "java/lang/String", name := "length", desc := "()I" } : Jvm.MethodName)).before a0 Z = true := hw _ (List.mem_of_getElem? (i := 78) rfl)
theorem wd79 {Z : State} {a0 : Array Value} (hw : ∀ d ∈ tables_1, d.before a0 Z = true) : (Jvm.Cond.methodLink "com/example/bounded_lock/boundedlock/LockLayout" (41 : Nat) ({ cls := "java/lang/String", name := "substring", desc := "(I)Ljava/lang/String;" } : Jvm.MethodName)).before a0 Z = true := hw _ (List.mem_of_getElem? (i := 79) rfl)
theorem wd80 {Z : State} {a0 : Array Value} (hw : ∀ d ∈ tables_1, d.before a0 Z = true) : (Jvm.Cond.declares ({ cls := "java/lang/String", name := "substring", desc := "(I)Ljava/lang/String;" } : Jvm.MethodName)).before a0 Z = true := hw _ (List.mem_of_getElem? (i := 80) rfl)
theorem wd81 {Z : State} {a0 : Array Value} (hw : ∀ d ∈ tables_1, d.before a0 Z = true) : (Jvm.Cond.instanceMethod ({ cls := "java/lang/String", name := "substring", desc := "(I)Ljava/lang/String;" } : Jvm.MethodName)).before a0 Z = true := hw _ (List.mem_of_getElem? (i := 81) rfl)
theorem wd82 {Z : State} {a0 : Array Value} (hw : ∀ d ∈ tables_1, d.before a0 Z = true) : (Jvm.Cond.selects "java/lang/String" ({ cls := "java/lang/String", name := "substring", desc := "(I)Ljava/lang/String;" } : Jvm.MethodName) ({ cls := "java/lang/String", name := "substring", desc := "(I)Ljava/lang/String;" } : Jvm.MethodName)).before a0 Z = true := hw _ (List.mem_of_getElem? (i := 82) rfl)
theorem wd83 {Z : State} {a0 : Array Value} (hw : ∀ d ∈ tables_1, d.before a0 Z = true) : (Jvm.Cond.code ({ cls := "java/lang/String", name := "substring", desc := "(I)Ljava/lang/String;" } : Jvm.MethodName) jdk_42_method_91_code (2 : Nat) (Option.some (Jvm.ClassFile.FieldType.object "java/lang/String"))).before a0 Z = true := hw _ (List.mem_of_getElem? (i := 83) rfl)
theorem wd84 {Z : State} {a0 : Array Value} (hw : ∀ d ∈ tables_1, d.before a0 Z = true) : (Jvm.Cond.methodLink "java/lang/String" (681 : Nat) ({ cls := "java/lang/String", name := "substring", desc := "(II)Ljava/lang/String;" } : Jvm.MethodName)).before a0 Z = true := hw _ (List.mem_of_getElem? (i := 84) rfl)
theorem wd85 {Z : State} {a0 : Array Value} (hw : ∀ d ∈ tables_1, d.before a0 Z = true) : (Jvm.Cond.declares ({ cls := "java/lang/String", name := "substring", desc := "(II)Ljava/lang/String;" } : Jvm.MethodName)).before a0 Z = true := hw _ (List.mem_of_getElem? (i := 85) rfl)
theorem wd86 {Z : State} {a0 : Array Value} (hw : ∀ d ∈ tables_1, d.before a0 Z = true) : (Jvm.Cond.instanceMethod ({ cls := "java/lang/String", name := "substring", desc := "(II)Ljava/lang/String;" } : Jvm.MethodName)).before a0 Z = true := hw _ (List.mem_of_getElem? (i := 86) rfl)
theorem wd87 {Z : State} {a0 : Array Value} (hw : ∀ d ∈ tables_1, d.before a0 Z = true) : (Jvm.Cond.selects "java/lang/String" ({ cls := "java/lang/String", name := "substring", desc := "(II)Ljava/lang/String;" } : Jvm.MethodName) ({ cls := "java/lang/String", name := "substring", desc := "(II)Ljava/lang/String;" } : Jvm.MethodName)).before a0 Z = true := hw _ (List.mem_of_getElem? (i := 87) rfl)
theorem wd88 {Z : State} {a0 : Array Value} (hw : ∀ d ∈ tables_1, d.before a0 Z = true) : (Jvm.Cond.code ({ cls := "java/lang/String", name := "substring", desc := "(II)Ljava/lang/String;" } : Jvm.MethodName) jdk_42_method_92_code (5 : Nat) (Option.some (Jvm.ClassFile.FieldType.object "java/lang/String"))).before a0 Z = true := hw _ (List.mem_of_getElem? (i := 88) rfl)
theorem wd89 {Z : State} {a0 : Array Value} (hw : ∀ d ∈ tables_1, d.before a0 Z = true) : (Jvm.Cond.methodLink "java/lang/String" (521 : Nat) ({ cls := "java/lang/String", name := "checkBoundsBeginEnd", desc := "(III)V" } : Jvm.MethodName)).before a0 Z = true := hw _ (List.mem_of_getElem? (i := 89) rfl)
theorem wd90 {Z : State} {a0 : Array Value} (hw : ∀ d ∈ tables_1, d.before a0 Z = true) : (Jvm.Cond.static ({ cls := "java/lang/String", name := "checkBoundsBeginEnd", desc := "(III)V" } : Jvm.MethodName)).before a0 Z = true := hw _ (List.mem_of_getElem? (i := 90) rfl)
theorem wd91 {Z : State} {a0 : Array Value} (hw : ∀ d ∈ tables_1, d.before a0 Z = true) : (Jvm.Cond.code ({ cls := "java/lang/String", name := "checkBoundsBeginEnd", desc := "(III)V" } : Jvm.MethodName) jdk_42_method_158_code (3 : Nat) (Option.none : Option Jvm.ClassFile.FieldType)).before a0 Z = true := hw _ (List.mem_of_getElem? (i := 91) rfl)
theorem wd92 {Z : State} {a0 : Array Value} (hw : ∀ d ∈ tables_1, d.before a0 Z = true) : (Jvm.Cond.fieldLink "java/lang/String" (1053 : Nat) "jdk/internal/util/Preconditions" "SIOOBE_FORMATTER" "Ljava/util/function/BiFunction;").before a0 Z = true := hw _ (List.mem_of_getElem? (i := 92) rfl)
theorem wd93 {Z : State} {a0 : Array Value} (hw : ∀ d ∈ tables_1, d.before a0 Z = true) : (Jvm.Cond.initialized "jdk/internal/util/Preconditions").before a0 Z = true := hw _ (List.mem_of_getElem? (i := 93) rfl)
theorem wd94 {Z : State} {a0 : Array Value} (hw : ∀ d ∈ tables_1, d.before a0 Z = true) : (Jvm.Cond.methodLink "java/lang/String" (1062 : Nat) ({ cls := "jdk/internal/util/Preconditions", name := "checkFromToIndex", desc := "(IIILjava/util/function/BiFunction;)I" } : Jvm.MethodName)).before a0 Z = true := hw _ (List.mem_of_getElem? (i := 94) rfl)
theorem wd95 {Z : State} {a0 : Array Value} (hw : ∀ d ∈ tables_1, d.before a0 Z = true) : (Jvm.Cond.static ({ cls := "jdk/internal/util/Preconditions", name := "checkFromToIndex", desc := "(IIILjava/util/function/BiFunction;)I" } : Jvm.MethodName)).before a0 Z = true := hw _ (List.mem_of_getElem? (i := 95) rfl)
theorem wd96 {Z : State} {a0 : Array Value} (hw : ∀ d ∈ tables_1, d.before a0 Z = true) : (Jvm.Cond.code ({ cls := "jdk/internal/util/Preconditions", name := "checkFromToIndex", desc := "(IIILjava/util/function/BiFunction;)I" } : Jvm.MethodName) jdk_41_method_12_code (4 : Nat) (Option.some Jvm.ClassFile.FieldType.int)).before a0 Z = true := hw _ (List.mem_of_getElem? (i := 96) rfl)
theorem wd97 {Z : State} {a0 : Array Value} (hw : ∀ d ∈ tables_1, d.before a0 Z = true) : (Jvm.Cond.methodLink "java/lang/String" (492 : Nat) ({ cls := "java/lang/String", name := "isLatin1", desc := "()Z" } : Jvm.MethodName)).before a0 Z = true := hw _ (List.mem_of_getElem? (i := 97) rfl)
theorem wd98 {Z : State} {a0 : Array Value} (hw : ∀ d ∈ tables_1, d.before a0 Z = true) : (Jvm.Cond.declares ({ cls := "java/lang/String", name := "isLatin1", desc := "()Z" } : Jvm.MethodName)).before a0 Z = true := hw _ (List.mem_of_getElem? (i := 98) rfl)
theorem wd99 {Z : State} {a0 : Array Value} (hw : ∀ d ∈ tables_1, d.before a0 Z = true) : (Jvm.Cond.instanceMethod ({ cls := "java/lang/String", name := "isLatin1", desc := "()Z" } : Jvm.MethodName)).before a0 Z = true := hw _ (List.mem_of_getElem? (i := 99) rfl)
theorem wd100 {Z : State} {a0 : Array Value} (hw : ∀ d ∈ tables_1, d.before a0 Z = true) : (Jvm.Cond.selects "java/lang/String" ({ cls := "java/lang/String", name := "isLatin1", desc := "()Z" } : Jvm.MethodName) ({ cls := "java/lang/String", name := "isLatin1", desc := "()Z" } : Jvm.MethodName)).before a0 Z = true := hw _ (List.mem_of_getElem? (i := 100) rfl)
theorem wd101 {Z : State} {a0 : Array Value} (hw : ∀ d ∈ tables_1, d.before a0 Z = true) : (Jvm.Cond.code ({ cls := "java/lang/String", name := "isLatin1", desc := "()Z" } : Jvm.MethodName) jdk_42_method_154_code (1 : Nat) (Option.some Jvm.ClassFile.FieldType.boolean)).before a0 Z = true := hw _ (List.mem_of_getElem? (i := 101) rfl)
theorem wd102 {Z : State} {a0 : Array Value} (hw : ∀ d ∈ tables_1, d.before a0 Z = true) : (Jvm.Cond.methodLink "java/lang/String" (685 : Nat) ({ cls := "java/lang/StringLatin1", name := "newString", desc := "([BII)Ljava/lang/String;" } : Jvm.MethodName)).before a0 Z = true := hw _ (List.mem_of_getElem? (i := 102) rfl)
theorem wd103 {Z : State} {a0 : Array Value} (hw : ∀ d ∈ tables_1, d.before a0 Z = true) : (Jvm.Cond.static ({ cls := "java/lang/StringLatin1", name := "newString", desc := "([BII)Ljava/lang/String;" } : Jvm.MethodName)).before a0 Z = true := hw _ (List.mem_of_getElem? (i := 103) rfl)
theorem wd104 {Z : State} {a0 : Array Value} (hw : ∀ d ∈ tables_1, d.before a0 Z = true) : (Jvm.Cond.code ({ cls := "java/lang/StringLatin1", name := "newString", desc := "([BII)Ljava/lang/String;" } : Jvm.MethodName) jdk_43_method_47_code (3 : Nat) (Option.some (Jvm.ClassFile.FieldType.object "java/lang/String"))).before a0 Z = true := hw _ (List.mem_of_getElem? (i := 104) rfl)
theorem wd105 {Z : State} {a0 : Array Value} (hw : ∀ d ∈ tables_1, d.before a0 Z = true) : (Jvm.Cond.stringLink "java/lang/StringLatin1" (151 : Nat) "").before a0 Z = true := hw _ (List.mem_of_getElem? (i := 105) rfl)
theorem wd106 {Z : State} {a0 : Array Value} (hw : ∀ d ∈ tables_1, d.before a0 Z = true) : (Jvm.Cond.methodLink "com/example/bounded_lock/boundedlock/LockLayoutWokenInstanceOfPinLaw" (32 : Nat) ({ cls := "java/lang/String", name := "length", desc := "()I" } : Jvm.MethodName)).before a0 Z = true := hw _ (List.mem_of_getElem? (i := 106) rfl)
theorem wd107 {Z : State} {a0 : Array Value} (hw : ∀ d ∈ tables_1, d.before a0 Z = true) : (Jvm.Cond.methodLink "com/example/bounded_lock/boundedlock/LockLayoutWokenInstanceOfPinLaw" (36 : Nat) ({ cls := "com/example/bounded_lock/boundedlock/LockLayoutWokenInstanceOfPinLaw", name := "same", desc := "(Ljava/lang/String;[CII)Z" } : Jvm.MethodName)).before a0 Z = true := hw _ (List.mem_of_getElem? (i := 107) rfl)
theorem wd108 {Z : State} {a0 : Array Value} (hw : ∀ d ∈ tables_1, d.before a0 Z = true) : (Jvm.Cond.static ({ cls := "com/example/bounded_lock/boundedlock/LockLayoutWokenInstanceOfPinLaw", name := "same", desc := "(Ljava/lang/String;[CII)Z" } : Jvm.MethodName)).before a0 Z = true := hw _ (List.mem_of_getElem? (i := 108) rfl)
theorem wd109 {Z : State} {a0 : Array Value} (hw : ∀ d ∈ tables_1, d.before a0 Z = true) : (Jvm.Cond.code ({ cls := "com/example/bounded_lock/boundedlock/LockLayoutWokenInstanceOfPinLaw", name := "same", desc := "(Ljava/lang/String;[CII)Z" } : Jvm.MethodName) method_7_code (4 : Nat) (Option.some Jvm.ClassFile.FieldType.boolean)).before a0 Z = true := hw _ (List.mem_of_getElem? (i := 109) rfl)
theorem wd110 {Z : State} {a0 : Array Value} (hw : ∀ d ∈ tables_1, d.before a0 Z = true) : (Jvm.Cond.classLink "java/lang/StringLatin1" (1 : Nat) "java/lang/String").before a0 Z = true := hw _ (List.mem_of_getElem? (i := 110) rfl)
theorem wd111 {Z : State} {a0 : Array Value} (hw : ∀ d ∈ tables_1, d.before a0 Z = true) : (Jvm.Cond.methodLink "java/lang/StringLatin1" (232 : Nat) ({ cls := "java/util/Arrays", name := "copyOfRange", desc := "([BII)[B" } : Jvm.MethodName)).before a0 Z = true := hw _ (List.mem_of_getElem? (i := 111) rfl)
theorem wd112 {Z : State} {a0 : Array Value} (hw : ∀ d ∈ tables_1, d.before a0 Z = true) : (Jvm.Cond.static ({ cls := "java/util/Arrays", name := "copyOfRange", desc := "([BII)[B" } : Jvm.MethodName)).before a0 Z = true := hw _ (List.mem_of_getElem? (i := 112) rfl)
theorem wd113 {Z : State} {a0 : Array Value} (hw : ∀ d ∈ tables_1, d.before a0 Z = true) : (Jvm.Cond.initialized "java/util/Arrays").before a0 Z = true := hw _ (List.mem_of_getElem? (i := 113) rfl)
theorem wd114 {Z : State} {a0 : Array Value} (hw : ∀ d ∈ tables_1, d.before a0 Z = true) : (Jvm.Cond.code ({ cls := "java/util/Arrays", name := "copyOfRange", desc := "([BII)[B" } : Jvm.MethodName) jdk_65_method_132_code (3 : Nat) (Option.some (Jvm.ClassFile.FieldType.array Jvm.ClassFile.FieldType.byte))).before a0 Z = true := hw _ (List.mem_of_getElem? (i := 114) rfl)
theorem wd115 {Z : State} {a0 : Array Value} (hw : ∀ d ∈ tables_1, d.before a0 Z = true) : (Jvm.Cond.methodLink "java/util/Arrays" (339 : Nat) ({ cls := "java/util/Arrays", name := "copyOfRangeByte", desc := "([BII)[B" } : Jvm.MethodName)).before a0 Z = true := hw _ (List.mem_of_getElem? (i := 115) rfl)
theorem wd116 {Z : State} {a0 : Array Value} (hw : ∀ d ∈ tables_1, d.before a0 Z = true) : (Jvm.Cond.static ({ cls := "java/util/Arrays", name := "copyOfRangeByte", desc := "([BII)[B" } : Jvm.MethodName)).before a0 Z = true := hw _ (List.mem_of_getElem? (i := 116) rfl)
theorem wd117 {Z : State} {a0 : Array Value} (hw : ∀ d ∈ tables_1, d.before a0 Z = true) : (Jvm.Cond.code ({ cls := "java/util/Arrays", name := "copyOfRangeByte", desc := "([BII)[B" } : Jvm.MethodName) jdk_65_method_133_code (5 : Nat) (Option.some (Jvm.ClassFile.FieldType.array Jvm.ClassFile.FieldType.byte))).before a0 Z = true := hw _ (List.mem_of_getElem? (i := 117) rfl)
theorem wd118 {Z : State} {a0 : Array Value} (hw : ∀ d ∈ tables_1, d.before a0 Z = true) : (Jvm.Cond.methodLink "java/util/Arrays" (343 : Nat) ({ cls := "java/util/Arrays", name := "checkLength", desc := "(II)V" } : Jvm.MethodName)).before a0 Z = true := hw _ (List.mem_of_getElem? (i := 118) rfl)
theorem wd119 {Z : State} {a0 : Array Value} (hw : ∀ d ∈ tables_1, d.before a0 Z = true) : (Jvm.Cond.static ({ cls := "java/util/Arrays", name := "checkLength", desc := "(II)V" } : Jvm.MethodName)).before a0 Z = true := hw _ (List.mem_of_getElem? (i := 119) rfl)
theorem wd120 {Z : State} {a0 : Array Value} (hw : ∀ d ∈ tables_1, d.before a0 Z = true) : (Jvm.Cond.code ({ cls := "java/util/Arrays", name := "checkLength", desc := "(II)V" } : Jvm.MethodName) jdk_65_method_131_code (2 : Nat) (Option.none : Option Jvm.ClassFile.FieldType)).before a0 Z = true := hw _ (List.mem_of_getElem? (i := 120) rfl)
theorem wd121 {Z : State} {a0 : Array Value} (hw : ∀ d ∈ tables_1, d.before a0 Z = true) : (Jvm.Cond.methodLink "java/util/Arrays" (304 : Nat) ({ cls := "java/lang/Math", name := "min", desc := "(II)I" } : Jvm.MethodName)).before a0 Z = true := hw _ (List.mem_of_getElem? (i := 121) rfl)
theorem wd122 {Z : State} {a0 : Array Value} (hw : ∀ d ∈ tables_1, d.before a0 Z = true) : (Jvm.Cond.static ({ cls := "java/lang/Math", name := "min", desc := "(II)I" } : Jvm.MethodName)).before a0 Z = true := hw _ (List.mem_of_getElem? (i := 122) rfl)
theorem wd123 {Z : State} {a0 : Array Value} (hw : ∀ d ∈ tables_1, d.before a0 Z = true) : (Jvm.Cond.initialized "java/lang/Math").before a0 Z = true := hw _ (List.mem_of_getElem? (i := 123) rfl)
theorem wd124 {Z : State} {a0 : Array Value} (hw : ∀ d ∈ tables_1, d.before a0 Z = true) : (Jvm.Cond.code ({ cls := "java/lang/Math", name := "min", desc := "(II)I" } : Jvm.MethodName) jdk_29_method_69_code (2 : Nat) (Option.some Jvm.ClassFile.FieldType.int)).before a0 Z = true := hw _ (List.mem_of_getElem? (i := 124) rfl)
theorem wd125 {Z : State} {a0 : Array Value} (hw : ∀ d ∈ tables_1, d.before a0 Z = true) : (Jvm.Cond.methodLink "java/util/Arrays" (150 : Nat) ({ cls := "java/lang/System", name := "arraycopy", desc := "(Ljava/lang/Object;ILjava/lang/Object;II)V" } : Jvm.MethodName)).before a0 Z = true := hw _ (List.mem_of_getElem? (i := 125) rfl)
theorem wd126 {Z : State} {a0 : Array Value} (hw : ∀ d ∈ tables_1, d.before a0 Z = true) : (Jvm.Cond.static ({ cls := "java/lang/System", name := "arraycopy", desc := "(Ljava/lang/Object;ILjava/lang/Object;II)V" } : Jvm.MethodName)).before a0 Z = true := hw _ (List.mem_of_getElem? (i := 126) rfl)
theorem wd127 {Z : State} {a0 : Array Value} (hw : ∀ d ∈ tables_1, d.before a0 Z = true) : (Jvm.Cond.initialized "java/lang/System").before a0 Z = true := hw _ (List.mem_of_getElem? (i := 127) rfl)
theorem wd128 {Z : State} {a0 : Array Value} (hw : ∀ d ∈ tables_1, d.before a0 Z = true) : (Jvm.Cond.native ({ cls := "java/lang/System", name := "arraycopy", desc := "(Ljava/lang/Object;ILjava/lang/Object;II)V" } : Jvm.MethodName)).before a0 Z = true := hw _ (List.mem_of_getElem? (i := 128) rfl)
theorem wd129 {Z : State} {a0 : Array Value} (hw : ∀ d ∈ tables_1, d.before a0 Z = true) : (Jvm.Cond.methodLink "java/lang/StringLatin1" (112 : Nat) ({ cls := "java/lang/String", name := "<init>", desc := "([BB)V" } : Jvm.MethodName)).before a0 Z = true := hw _ (List.mem_of_getElem? (i := 129) rfl)
theorem wd130 {Z : State} {a0 : Array Value} (hw : ∀ d ∈ tables_1, d.before a0 Z = true) : (Jvm.Cond.instanceMethod ({ cls := "java/lang/String", name := "<init>", desc := "([BB)V" } : Jvm.MethodName)).before a0 Z = true := hw _ (List.mem_of_getElem? (i := 130) rfl)
theorem wd131 {Z : State} {a0 : Array Value} (hw : ∀ d ∈ tables_1, d.before a0 Z = true) : (Jvm.Cond.code ({ cls := "java/lang/String", name := "<init>", desc := "([BB)V" } : Jvm.MethodName) jdk_42_method_151_code (3 : Nat) (Option.none : Option Jvm.ClassFile.FieldType)).before a0 Z = true := hw _ (List.mem_of_getElem? (i := 131) rfl)
theorem wd132 {Z : State} {a0 : Array Value} (hw : ∀ d ∈ tables_1, d.before a0 Z = true) : (Jvm.Cond.methodLink "com/example/bounded_lock/boundedlock/LockLayoutWokenInstanceOfPinLaw" (46 : Nat) ({ cls := "java/lang/String", name := "charAt", desc := "(I)C" } : Jvm.MethodName)).before a0 Z = true := hw _ (List.mem_of_getElem? (i := 132) rfl)
theorem wd133 {Z : State} {a0 : Array Value} (hw : ∀ d ∈ tables_1, d.before a0 Z = true) : (Jvm.Cond.declares ({ cls := "java/lang/String", name := "charAt", desc := "(I)C" } : Jvm.MethodName)).before a0 Z = true := hw _ (List.mem_of_getElem? (i := 133) rfl)
theorem wd134 {Z : State} {a0 : Array Value} (hw : ∀ d ∈ tables_1, d.before a0 Z = true) : (Jvm.Cond.instanceMethod ({ cls := "java/lang/String", name := "charAt", desc := "(I)C" } : Jvm.MethodName)).before a0 Z = true := hw _ (List.mem_of_getElem? (i := 134) rfl)
theorem wd135 {Z : State} {a0 : Array Value} (hw : ∀ d ∈ tables_1, d.before a0 Z = true) : (Jvm.Cond.selects "java/lang/String" ({ cls := "java/lang/String", name := "charAt", desc := "(I)C" } : Jvm.MethodName) ({ cls := "java/lang/String", name := "charAt", desc := "(I)C" } : Jvm.MethodName)).before a0 Z = true := hw _ (List.mem_of_getElem? (i := 135) rfl)
/-- the first places of vs hold the bytes of cs -/
def Cnt (vs : List Value) (cs : List Int32) : Prop := ∀ i, i < cs.length → vs.getD i (.int 0) = .int ((cs.getD i 0).toInt8.toInt32)
/-- b is a StringBuilder over the byte[] t that counts k -/
def SB (Z : State) (h : Heap) (b t : Addr) (k : Nat) : Prop := Exa Z h b "java/lang/StringBuilder" ∧ Fld Z h b "java/lang/AbstractStringBuilder" "value" "[B" (.ref t) ∧ Fld Z h b "java/lang/AbstractStringBuilder" "coder" "B" (.int 0) ∧ Fld Z h b "java/lang/AbstractStringBuilder" "count" "I" (.int (Int32.ofNat k))
theorem SB.keep {Z : State} {h h' : Heap} {b t : Addr} {k : Nat} {ws : List Addr} (A : SB Z h b t k) (K : Keep h h' ws) (q : b ∉ ws) : SB Z h' b t k := ⟨A.1.keep K, A.2.1.keep K q, A.2.2.1.keep K q, A.2.2.2.keep K q⟩
theorem SB.ext {Z : State} {h h' : Heap} {b t : Addr} {k : Nat} (A : SB Z h b t k) (E : Ext h h') : SB Z h' b t k := ⟨A.1.ext E, A.2.1.ext E, A.2.2.1.ext E, A.2.2.2.ext E⟩
theorem SB.lt {Z : State} {h : Heap} {b t : Addr} {k : Nat} (A : SB Z h b t k) : b < h.size := A.1.lt
/-- a byte[] of z places (n of them) that begins with cs -/
def Buf (Z : State) (h : Heap) (t : Addr) (z : Int32) (n : Nat) (cs : List Int32) : Prop := ∃ kb vs, Arv Z h t kb .byte z vs (.int 0) ∧ vs.length = n ∧ Cnt vs cs
theorem Buf.keep {Z : State} {h h' : Heap} {t : Addr} {z : Int32} {n : Nat} {cs : List Int32} {ws : List Addr} (A : Buf Z h t z n cs) (K : Keep h h' ws) (q : t ∉ ws) : Buf Z h' t z n cs := by obtain ⟨k, vs, a, b⟩ := A; exact ⟨k, vs, a.keep K q, b⟩
theorem Buf.ext {Z : State} {h h' : Heap} {t : Addr} {z : Int32} {n : Nat} {cs : List Int32} (A : Buf Z h t z n cs) (E : Ext h h') : Buf Z h' t z n cs := by obtain ⟨k, vs, a, b⟩ := A; exact ⟨k, vs, a.ext E, b⟩
theorem Buf.other {Z : State} {h h' : Heap} {t a : Addr} {sl : Nat} {v : Value} {z : Int32} {n : Nat} {cs : List Int32} (A : Buf Z h t z n cs) (W : Wr h h' a sl v) (q : t ≠ a) : Buf Z h' t z n cs := by obtain ⟨k, vs, b, c⟩ := A; exact ⟨k, vs, b.other W q, c⟩
theorem Buf.lt {Z : State} {h : Heap} {t : Addr} {z : Int32} {n : Nat} {cs : List Int32} (A : Buf Z h t z n cs) : t < h.size := by obtain ⟨k, vs, a, b⟩ := A; exact a.lt
/-- a Latin-1 String, opened -/
def Lat (Z : State) (h : Heap) (x : Addr) (ds : List Int32) : Prop := ∃ tx kx, Exa Z h x "java/lang/String" ∧ Fld Z h x "java/lang/String" "value" "[B" (.ref tx) ∧ Fld Z h x "java/lang/String" "coder" "B" (.int 0) ∧ Arv Z h tx kx .byte (Int32.ofNat ds.length) (ds.map fun c => Value.int (c.toInt8.toInt32)) (.int 0) ∧ (∀ c ∈ ds, ¬ c < 0 ∧ ¬ (255 : Int32) < c) ∧ ds.length ≤ 4000
theorem Lat.of {Z : State} {h : Heap} {x : Addr} {ds : List Int32} (S : Str Z h x ds) (hl : ∀ c ∈ ds, ¬ (255 : Int32) < c) : Lat Z h x ds := by
  obtain ⟨t, kb, cd, N, vs, s1, s2, s3, s4, s5, s6, s7⟩ := S
  rcases s5 with ⟨rfl, rfl, rfl, -⟩ | ⟨-, -, -, c, hc, q⟩
  · exact ⟨t, kb, s1, s2, s3, s4, fun c hc => ⟨(s6 c hc).1, hl c hc⟩, s7⟩
  · exact absurd q (hl c hc)
theorem Lat.str {Z : State} {h : Heap} {x : Addr} {ds : List Int32} (S : Lat Z h x ds) : Str Z h x ds := by
  obtain ⟨t, kb, s1, s2, s3, s4, s5, s6⟩ := S
  exact ⟨t, kb, 0, _, _, s1, s2, s3, s4, Or.inl ⟨rfl, rfl, rfl, fun c hc => (s5 c hc).2⟩, up16 s5, s6⟩
theorem Lat.keep0 {Z : State} {h h' : Heap} {x : Addr} {ds : List Int32} (S : Lat Z h x ds) (K : Keep h h' []) : Lat Z h' x ds := by
  obtain ⟨t, kb, s1, s2, s3, s4, r⟩ := S; exact ⟨t, kb, s1.keep K, s2.keep K nin0, s3.keep K nin0, s4.keep K nin0, r⟩
theorem Lat.ext {Z : State} {h h' : Heap} {x : Addr} {ds : List Int32} (S : Lat Z h x ds) (E : Ext h h') : Lat Z h' x ds := by
  obtain ⟨t, kb, s1, s2, s3, s4, r⟩ := S; exact ⟨t, kb, s1.ext E, s2.ext E, s3.ext E, s4.ext E, r⟩
/-- .. all of it below n0 -/
def LatO (Z : State) (h : Heap) (n0 : Nat) (x : Addr) (ds : List Int32) : Prop := ∃ tx kx, Exa Z h x "java/lang/String" ∧ Fld Z h x "java/lang/String" "value" "[B" (.ref tx) ∧ Fld Z h x "java/lang/String" "coder" "B" (.int 0) ∧ Arv Z h tx kx .byte (Int32.ofNat ds.length) (ds.map fun c => Value.int (c.toInt8.toInt32)) (.int 0) ∧ ((∀ c ∈ ds, ¬ c < 0 ∧ ¬ (255 : Int32) < c) ∧ ds.length ≤ 4000) ∧ x < n0 ∧ tx < n0
theorem LatO.of {Z : State} {h : Heap} {x : Addr} {ds : List Int32} (S : Lat Z h x ds) : LatO Z h h.size x ds := by
  obtain ⟨t, kb, s1, s2, s3, s4, r⟩ := S; exact ⟨t, kb, s1, s2, s3, s4, r, s1.lt, s4.lt⟩
theorem LatO.lat {Z : State} {h : Heap} {n0 : Nat} {x : Addr} {ds : List Int32} (S : LatO Z h n0 x ds) : Lat Z h x ds := by
  obtain ⟨t, kb, s1, s2, s3, s4, r, -⟩ := S; exact ⟨t, kb, s1, s2, s3, s4, r⟩
theorem LatO.keep {Z : State} {h h' : Heap} {n0 : Nat} {x : Addr} {ds : List Int32} {ws : List Addr} (S : LatO Z h n0 x ds) (K : Keep h h' ws) (q : ∀ w ∈ ws, n0 ≤ w) : LatO Z h' n0 x ds := by
  obtain ⟨t, kb, s1, s2, s3, s4, r, l1, l2⟩ := S
  have n1 : x ∉ ws := fun hm => Nat.lt_irrefl _ (Nat.lt_of_lt_of_le l1 (q _ hm))
  have n2 : t ∉ ws := fun hm => Nat.lt_irrefl _ (Nat.lt_of_lt_of_le l2 (q _ hm))
  exact ⟨t, kb, s1.keep K, s2.keep K n1, s3.keep K n1, s4.keep K n2, r, l1, l2⟩
theorem LatO.ext {Z : State} {h h' : Heap} {n0 : Nat} {x : Addr} {ds : List Int32} (S : LatO Z h n0 x ds) (E : Ext h h') : LatO Z h' n0 x ds := by
  obtain ⟨t, kb, s1, s2, s3, s4, r⟩ := S; exact ⟨t, kb, s1.ext E, s2.ext E, s3.ext E, s4.ext E, r⟩
theorem ofn {k : Nat} (h : k < 2147483648) : (Int32.ofNat k).toInt = k := Int32.toInt_ofNat_of_lt h
theorem ofn0 {k : Nat} (h : k < 2147483648) : ¬ Int32.ofNat k < 0 := by rw [Int32.lt_iff_toInt_lt, ofn h]; have : (0 : Int32).toInt = 0 := rfl; omega
theorem ofnC {k : Nat} (h : k < 2147483648) : (Int32.ofNat k).toNatClampNeg = k := by simp only [Int32.toNatClampNeg, ofn h]; rfl
theorem shl0 (x : Int32) : x <<< ((0 : Int32) &&& 31) = x := by rw [show ((0 : Int32) &&& 31) = 0 from by decide]; exact Int32.shiftLeft_zero
theorem sub0 (x : Int32) : x - 0 = x := Int32.sub_zero x
theorem need16 {k : Nat} (h : k ≤ 16) : ¬ (0 : Int32) < Int32.ofNat k - 16 := (by decide : ∀ j : Fin 17, ¬ (0 : Int32) < Int32.ofNat j.val - 16) ⟨k, by omega⟩
theorem need34 {k : Nat} (h : k ≤ 34) : ¬ (0 : Int32) < Int32.ofNat k - 34 := (by decide : ∀ j : Fin 35, ¬ (0 : Int32) < Int32.ofNat j.val - 34) ⟨k, by omega⟩
theorem needG {k : Nat} (h : 16 < k ∧ k ≤ 24) : (0 : Int32) < Int32.ofNat k - 16 ∧ Int32.ofNat k - 16 < 18 := (by decide : ∀ j : Fin 25, 16 < j.val → (0 : Int32) < Int32.ofNat j.val - 16 ∧ Int32.ofNat j.val - 16 < 18) ⟨k, by omega⟩ h.1
theorem lt34 {k : Nat} (h : k ≤ 24) : Int32.ofNat k < 34 ∧ ¬ Int32.ofNat k = 34 := (by decide : ∀ j : Fin 25, Int32.ofNat j.val < 34 ∧ ¬ Int32.ofNat j.val = 34) ⟨k, by omega⟩
theorem getD_mid (a us b : List Value) (d : Value) (i : Nat) : (a ++ us ++ b).getD i d = if i < a.length then a.getD i d else if i - a.length < us.length then us.getD (i - a.length) d else b.getD (i - a.length - us.length) d := by
  simp only [List.getD_eq_getElem?_getD, List.append_assoc]
  by_cases h1 : i < a.length
  · rw [if_pos h1, List.getElem?_append_left h1]
  · rw [if_neg h1, List.getElem?_append_right (by omega)]
    by_cases h2 : i - a.length < us.length
    · rw [if_pos h2, List.getElem?_append_left h2]
    · rw [if_neg h2, List.getElem?_append_right (by omega)]
theorem getD_map (f : Nat → Value) (n i : Nat) (d : Value) (h : i < n) : ((List.range n).map f).getD i d = f i := by simp [List.getD_eq_getElem?_getD, h]
theorem grow_ok {vs us zs : List Value} {n : Nat} {cs : List Int32} (hus : us = (List.range n).map fun i => vs.getD (0 + i) (.int 0)) (hz : n ≤ zs.length) (hc : cs.length ≤ n) (H : Cnt vs cs) : (List.take 0 zs ++ us ++ List.drop (0 + n) zs).length = zs.length ∧ Cnt (List.take 0 zs ++ us ++ List.drop (0 + n) zs) cs := by
  subst hus
  refine ⟨by simp; omega, fun i hi => ?_⟩
  rw [getD_mid]
  simp only [List.take_zero, List.length_nil, Nat.not_lt_zero, if_false, Nat.sub_zero, List.length_map, List.length_range]
  rw [if_pos (by omega), getD_map _ _ _ _ (by omega), Nat.zero_add]
  exact H i hi
theorem put_ok {vs us : List Value} {cs ds : List Int32} (hus : us = (List.range ds.length).map fun i => (ds.map fun c => Value.int (c.toInt8.toInt32)).getD (0 + i) (.int 0)) (hl : cs.length + ds.length ≤ vs.length) (H : Cnt vs cs) : (List.take cs.length vs ++ us ++ List.drop (cs.length + ds.length) vs).length = vs.length ∧ Cnt (List.take cs.length vs ++ us ++ List.drop (cs.length + ds.length) vs) (cs ++ ds) := by
  subst hus
  refine ⟨by simp; omega, fun i hi => ?_⟩
  rw [List.length_append] at hi
  have e1 : (List.take cs.length vs).length = cs.length := by simp; omega
  rw [getD_mid, e1]
  by_cases h1 : i < cs.length
  · rw [if_pos h1]
    have e2 : (List.take cs.length vs).getD i (.int 0) = vs.getD i (.int 0) := by simp [List.getD_eq_getElem?_getD, List.getElem?_take, h1]
    have e3 : (cs ++ ds).getD i 0 = cs.getD i 0 := by simp [List.getD_eq_getElem?_getD, List.getElem?_append_left h1]
    rw [e2, e3]; exact H i h1
  · rw [if_neg h1]
    have e3 : (cs ++ ds).getD i 0 = ds.getD (i - cs.length) 0 := by simp only [List.getD_eq_getElem?_getD]; rw [List.getElem?_append_right (by omega)]
    have h2 : i - cs.length < ds.length := by omega
    rw [if_pos (by simpa using h2), getD_map _ _ _ _ h2, e3, Nat.zero_add]
    simp [List.getD_eq_getElem?_getD, h2]
theorem cut_ok {vs us zs : List Value} {cs : List Int32} (hus : us = (List.range cs.length).map fun i => vs.getD (0 + i) (.int 0)) (hz : zs.length = cs.length) (H : Cnt vs cs) : List.take 0 zs ++ us ++ List.drop (0 + cs.length) zs = cs.map fun c => Value.int (c.toInt8.toInt32) := by
  subst hus
  have e1 : List.drop (0 + cs.length) zs = [] := by rw [Nat.zero_add, ← hz]; exact List.drop_length
  rw [e1, List.append_nil, List.take_zero, List.nil_append]
  apply List.ext_getElem
  · simp
  · intro i h1 h2
    simp at h1
    have := H i h1
    simp only [List.getElem_map, List.getElem_range, Nat.zero_add]
    rw [this]
    simp [List.getD_eq_getElem?_getD, h1]
def mkw : List Int32 := [(32 : Int32), (119 : Int32), (111 : Int32), (107 : Int32), (101 : Int32), (110 : Int32), (58 : Int32)]
theorem mkw_v : (mkw.map fun c => Value.int (c.toInt8.toInt32)) = [(.int (32 : Int32)), (.int (119 : Int32)), (.int (111 : Int32)), (.int (107 : Int32)), (.int (101 : Int32)), (.int (110 : Int32)), (.int (58 : Int32))] := by first | rfl | decide +kernel
theorem mkw_l : ∀ c ∈ mkw, ¬ c < 0 ∧ ¬ (255 : Int32) < c := by decide
def MarkN (cs : List Int32) (n i : Nat) : Prop := i + 7 ≤ n ∧ ∀ j, j < 7 → cs.getD (i + j) 0 = mkw.getD j 0
theorem mk_of {cs : List Int32} {n i : Nat} (hn : i + 7 ≤ n) (h0 : cs.getD (i + 0) 0 = 32) (h1 : cs.getD (i + 1) 0 = 119) (h2 : cs.getD (i + 2) 0 = 111) (h3 : cs.getD (i + 3) 0 = 107) (h4 : cs.getD (i + 4) 0 = 101) (h5 : cs.getD (i + 5) 0 = 110) (h6 : cs.getD (i + 6) 0 = 58) : MarkN cs n i := ⟨hn, fun j hj => by
  rcases (show j = 0 ∨ j = 1 ∨ j = 2 ∨ j = 3 ∨ j = 4 ∨ j = 5 ∨ j = 6 from by omega) with rfl | rfl | rfl | rfl | rfl | rfl | rfl
  · exact h0
  · exact h1
  · exact h2
  · exact h3
  · exact h4
  · exact h5
  · exact h6⟩
theorem mk_take {cs : List Int32} {n i : Nat} : MarkN (cs.take n) n i ↔ MarkN cs n i := by
  have e : i + 7 ≤ n → ∀ j, j < 7 → (cs.take n).getD (i + j) 0 = cs.getD (i + j) 0 := fun h j hj => by simp only [List.getD_eq_getElem?_getD, List.getElem?_take]; rw [if_pos (by omega)]
  exact ⟨fun h => ⟨h.1, fun j hj => (e h.1 j hj).symm.trans (h.2 j hj)⟩, fun h => ⟨h.1, fun j hj => (e h.1 j hj).trans (h.2 j hj)⟩⟩
/-- R: the last place below k at which P holds, else -1 -/
def Last (P : Nat → Prop) (k : Nat) (R : Int32) : Prop := (∃ i, i < k ∧ P i ∧ (∀ j, i < j → j < k → ¬ P j) ∧ R = Int32.ofNat i) ∨ ((∀ j, j < k → ¬ P j) ∧ R = -1)
theorem Last.uniq {P : Nat → Prop} {k : Nat} {R R' : Int32} (h : Last P k R) (h' : Last P k R') : R = R' := by
  rcases h with ⟨i, a1, a2, a3, rfl⟩ | ⟨a1, rfl⟩ <;> rcases h' with ⟨j, b1, b2, b3, rfl⟩ | ⟨b1, rfl⟩
  · have : i = j := by
      rcases Nat.lt_trichotomy i j with q | q | q
      · exact absurd b2 (a3 _ q b1)
      · exact q
      · exact absurd a2 (b3 _ q a1)
    rw [this]
  · exact absurd a2 (b1 _ a1)
  · exact absurd b2 (a1 _ b1)
  · rfl
theorem Last.zero {P : Nat → Prop} : Last P 0 (-1) := Or.inr ⟨fun j h => absurd h (Nat.not_lt_zero j), rfl⟩
theorem Last.hit {P : Nat → Prop} {k : Nat} (h : P k) : Last P (k + 1) (Int32.ofNat k) := Or.inl ⟨k, Nat.lt_succ_self k, h, fun j a b => by omega, rfl⟩
theorem Last.miss {P : Nat → Prop} {k : Nat} {R : Int32} (h : ¬ P k) (H : Last P k R) : Last P (k + 1) R := by
  rcases H with ⟨i, a1, a2, a3, rfl⟩ | ⟨a1, rfl⟩
  · refine Or.inl ⟨i, by omega, a2, fun j b1 b2 => ?_, rfl⟩
    rcases Nat.lt_or_ge j k with q | q
    · exact a3 j b1 q
    · have : j = k := by omega
      rw [this]; exact h
  · refine Or.inr ⟨fun j b => ?_, rfl⟩
    rcases Nat.lt_or_ge j k with q | q
    · exact a1 j q
    · have : j = k := by omega
      rw [this]; exact h
theorem Last.down {P : Nat → Prop} {k : Nat} {R : Int32} (H : Last P (k + 1) R) (h : ¬ P k) : Last P k R := by
  rcases H with ⟨i, a1, a2, a3, rfl⟩ | ⟨a1, rfl⟩
  · have : i ≠ k := fun e => h (e ▸ a2)
    exact Or.inl ⟨i, by omega, a2, fun j b1 b2 => a3 j b1 (by omega), rfl⟩
  · exact Or.inr ⟨fun j b => a1 j (by omega), rfl⟩
theorem Last.top {P : Nat → Prop} {k : Nat} {R : Int32} (H : Last P (k + 1) R) (h : P k) : R = Int32.ofNat k := H.uniq (Last.hit h)
theorem Last.nul {P : Nat → Prop} {R : Int32} (H : Last P 0 R) : R = -1 := H.uniq Last.zero
theorem Last.exists (P : Nat → Prop) : ∀ k, ∃ R, Last P k R
  | 0 => ⟨-1, Last.zero⟩
  | k + 1 => by
    obtain ⟨R, H⟩ := Last.exists P k
    by_cases h : P k
    · exact ⟨_, Last.hit h⟩
    · exact ⟨R, Last.miss h H⟩
theorem Last.up {P : Nat → Prop} {m : Nat} {R : Int32} (H : Last P m R) (h : ∀ j, m ≤ j → ¬ P j) : ∀ d, Last P (m + d) R
  | 0 => H
  | d + 1 => Last.miss (h _ (Nat.le_add_right m d)) (Last.up H h d)
theorem Last.iff {P Q : Nat → Prop} {k : Nat} {R : Int32} (H : Last P k R) (h : ∀ i, P i ↔ Q i) : Last Q k R := by
  have : P = Q := funext fun i => propext (h i)
  rw [← this]; exact H
theorem byte_in {x : Int32} (h : ¬ x < 0 ∧ ¬ (255 : Int32) < x) : (x.toInt8.toInt32 &&& (255 : Int32)) = x := by
  obtain ⟨h1, h2⟩ := h
  rw [Int32.lt_iff_toInt_lt] at h1 h2
  have e0 : (0 : Int32).toInt = 0 := rfl
  have e1 : (255 : Int32).toInt = 255 := rfl
  have hx : x = Int32.ofNat x.toInt.toNat := by
    apply Int32.toInt_inj.mp
    rw [ofn (by omega)]; omega
  rw [hx]
  exact (by decide +kernel : ∀ j : Fin 256, ((Int32.ofNat j.val).toInt8.toInt32 &&& (255 : Int32)) = Int32.ofNat j.val) ⟨x.toInt.toNat, by omega⟩
theorem at_map {ds : List Int32} {i : Nat} (h : i < ds.length) : (ds.map fun c => Value.int (c.toInt8.toInt32)).getD i (.int 0) = .int ((ds.getD i 0).toInt8.toInt32) := by simp [List.getD_eq_getElem?_getD, h]
theorem at_int {ds : List Int32} {i : Nat} (h : i < ds.length) : (ds.map Value.int).getD i (.int 0) = .int (ds.getD i 0) := by simp [List.getD_eq_getElem?_getD, h]
theorem lat_at {ds : List Int32} (h : ∀ c ∈ ds, ¬ c < 0 ∧ ¬ (255 : Int32) < c) (i : Nat) : ¬ ds.getD i 0 < 0 ∧ ¬ (255 : Int32) < ds.getD i 0 := by
  by_cases q : i < ds.length
  · have e : ds.getD i 0 = ds[i] := by simp [List.getD_eq_getElem?_getD, q]
    rw [e]; exact h _ (List.getElem_mem q)
  · have e : ds.getD i 0 = 0 := by simp [List.getD_eq_getElem?_getD, Nat.le_of_not_lt q]
    rw [e]; exact ⟨by decide, by decide⟩
theorem ew1 {Z : State} {a0 : Array Value} (hw : ∀ d ∈ tables_1, d.before a0 Z = true) : EW Z a0 consts_1 := (EW.cons (wd45 hw) (by decide) (EW.cons (wd105 hw) (by decide) EW.nil))
theorem sa1 {Z : State} {a0 : Array Value} (hw : ∀ d ∈ tables_1, d.before a0 Z = true) : ∀ a ∈ Bundle.stringAtoms, a.before a0 Z = true := fun d hd => hw d ((by decide +kernel : ∀ d ∈ Bundle.stringAtoms, d ∈ tables_1) d hd)
set_option maxRecDepth 65536 in
set_option maxHeartbeats 40000000 in
theorem ef_rmCoder (m : MethodId) (x : Addr) : entryFrame m #[(.ref x)] 1 = mkF m 0 #[.val (.ref x)] [] := by first | (simp [entryFrame, mkF, argsToLocals, Value.category]; done) | (rfl)
set_option maxRecDepth 65536 in
set_option maxHeartbeats 40000000 in
theorem rmCoder (l : Launch) (Z : State) (a0 : Array Value) (hw : ∀ d ∈ tables_1, d.before a0 Z = true) (x : Addr) (h0 : Heap) (O : Ext Z.heap h0) (z : Int32) (O2 : Sta Z Z.heap "java/lang/String" "COMPACT_STRINGS" "Z" (.int z)) (hz : ¬ z = 0) (F : Fld Z h0 x "java/lang/String" "coder" "B" (.int 0)) :
    MN l Z (⟨"java/lang/String", "coder", "()B"⟩ : MethodName) jdk_42_method_152_code 1 (some .byte) [] ({ frames := 0, cells := 0, slots := 0, locals := 0 } : Room) #[(.ref x)] h0 [] (RP h0 (fun w => w = .int 0)) := by
  refine MN.mk (a0 := a0) rfl rfl (plainFor_of_name pn0) O (fun m => ef_rmCoder m x) ?_
  intro pg ev s m below meth cd T hh X
  subst hh
  refine X.getS (pc' := 3) (wd19 hw) Via.refl O2 d13_0 rfl ?_
  intro T X
  refine X.ifN (pc' := 6) d13_3 ((if0 _ _).trans (feq hz).1) rfl ?_
  refine X.aloadN (pc' := 7) d13_6 rfl rfl rfl ?_
  refine X.getF (pc' := 10) (wd31 hw) Via.refl F d13_7 rfl ?_
  intro T X
  refine X.goto (pc' := 14) d13_10 (by decide) (by decide) ?_
  exact X.retIN (by simp) rfl d13_14 (by decide) (by decide) ⟨_, rfl, rfl, rfl⟩
set_option maxRecDepth 65536 in
set_option maxHeartbeats 40000000 in
theorem ef_rmAt_7_0 (m : MethodId) (a : Addr) : entryFrame m #[(.ref a), (.int (7 : Int32)), (.int (0 : Int32))] 3 = mkF m 0 #[.val (.ref a), .val (.int (7 : Int32)), .val (.int (0 : Int32))] [] := by first | (simp [entryFrame, mkF, argsToLocals, Value.category]; done) | (rfl)
set_option maxRecDepth 65536 in
set_option maxHeartbeats 40000000 in
theorem rmAt_7_0 (l : Launch) (Z : State) (a0 : Array Value) (hw : ∀ d ∈ tables_1, d.before a0 Z = true) (a : Addr) (h0 : Heap) (O : Ext Z.heap h0) (ka : ClassId) (cs : List Int32) (hl : cs.length = 16) (V_a : Arv Z h0 a ka .char 16 (cs.map Value.int) (.int 0)) :
    MN l Z (⟨"com/example/bounded_lock/boundedlock/LockLayoutWokenInstanceOfPinLaw", "at", "([CII)Z"⟩ : MethodName) method_5_code 3 (some .boolean) [] ({ frames := 0, cells := 0, slots := 0, locals := 0 } : Room) #[(.ref a), (.int (7 : Int32)), (.int (0 : Int32))] h0 [] (RP h0 (fun w => ∃ v : Int32, w = .int v ∧ ((v = 1 ∧ MarkN cs 7 0) ∨ (v = 0 ∧ ¬ MarkN cs 7 0)))) := by
  refine MN.mk (a0 := a0) rfl rfl (plainFor_of_name pn1) O (fun m => ef_rmAt_7_0 m a) ?_
  intro pg ev s m below meth cd T hh X
  subst hh
  refine X.iloadN (pc' := 1) d9_0 rfl rfl ?_
  refine X.bipush (pc' := 3) (7 : Int32) d9_1 rfl rfl ?_
  refine X.iadd (pc' := 4) d9_3 rfl ?_
  rw [show (((0 : Int32) + (7 : Int32)) : Int32) = (7 : Int32) from by decide]
  refine X.iloadN (pc' := 5) d9_4 rfl rfl ?_
  refine X.icN (pc' := 8) d9_5 (by decide) rfl ?_
  refine X.aloadN (pc' := 9) d9_8 rfl rfl rfl ?_
  refine X.iloadN (pc' := 10) d9_9 rfl rfl ?_
  refine X.caload (pc' := 11) V_a ⟨by decide, by decide⟩ (v := (cs.getD 0 0)) (at_int (i := 0) (by omega)) d9_10 rfl ?_
  refine X.bipush (pc' := 13) (32 : Int32) d9_11 rfl rfl ?_
  by_cases h0 : cs.getD 0 0 = 32
  · refine X.icN (pc' := 16) d9_13 ((teq h0).2) rfl ?_
    refine X.aloadN (pc' := 17) d9_16 rfl rfl rfl ?_
    refine X.iloadN (pc' := 18) d9_17 rfl rfl ?_
    refine X.iconst (pc' := 19) (1 : Int32) d9_18 rfl rfl ?_
    refine X.iadd (pc' := 20) d9_19 rfl ?_
    rw [show (((0 : Int32) + (1 : Int32)) : Int32) = (1 : Int32) from by decide]
    refine X.caload (pc' := 21) V_a ⟨by decide, by decide⟩ (v := (cs.getD 1 0)) (at_int (i := 1) (by omega)) d9_20 rfl ?_
    refine X.bipush (pc' := 23) (119 : Int32) d9_21 rfl rfl ?_
    by_cases h1 : cs.getD 1 0 = 119
    · refine X.icN (pc' := 26) d9_23 ((teq h1).2) rfl ?_
      refine X.aloadN (pc' := 27) d9_26 rfl rfl rfl ?_
      refine X.iloadN (pc' := 28) d9_27 rfl rfl ?_
      refine X.iconst (pc' := 29) (2 : Int32) d9_28 rfl rfl ?_
      refine X.iadd (pc' := 30) d9_29 rfl ?_
      rw [show (((0 : Int32) + (2 : Int32)) : Int32) = (2 : Int32) from by decide]
      refine X.caload (pc' := 31) V_a ⟨by decide, by decide⟩ (v := (cs.getD 2 0)) (at_int (i := 2) (by omega)) d9_30 rfl ?_
      refine X.bipush (pc' := 33) (111 : Int32) d9_31 rfl rfl ?_
      by_cases h2 : cs.getD 2 0 = 111
      · refine X.icN (pc' := 36) d9_33 ((teq h2).2) rfl ?_
        refine X.aloadN (pc' := 37) d9_36 rfl rfl rfl ?_
        refine X.iloadN (pc' := 38) d9_37 rfl rfl ?_
        refine X.iconst (pc' := 39) (3 : Int32) d9_38 rfl rfl ?_
        refine X.iadd (pc' := 40) d9_39 rfl ?_
        rw [show (((0 : Int32) + (3 : Int32)) : Int32) = (3 : Int32) from by decide]
        refine X.caload (pc' := 41) V_a ⟨by decide, by decide⟩ (v := (cs.getD 3 0)) (at_int (i := 3) (by omega)) d9_40 rfl ?_
        refine X.bipush (pc' := 43) (107 : Int32) d9_41 rfl rfl ?_
        by_cases h3 : cs.getD 3 0 = 107
        · refine X.icN (pc' := 46) d9_43 ((teq h3).2) rfl ?_
          refine X.aloadN (pc' := 47) d9_46 rfl rfl rfl ?_
          refine X.iloadN (pc' := 48) d9_47 rfl rfl ?_
          refine X.iconst (pc' := 49) (4 : Int32) d9_48 rfl rfl ?_
          refine X.iadd (pc' := 50) d9_49 rfl ?_
          rw [show (((0 : Int32) + (4 : Int32)) : Int32) = (4 : Int32) from by decide]
          refine X.caload (pc' := 51) V_a ⟨by decide, by decide⟩ (v := (cs.getD 4 0)) (at_int (i := 4) (by omega)) d9_50 rfl ?_
          refine X.bipush (pc' := 53) (101 : Int32) d9_51 rfl rfl ?_
          by_cases h4 : cs.getD 4 0 = 101
          · refine X.icN (pc' := 56) d9_53 ((teq h4).2) rfl ?_
            refine X.aloadN (pc' := 57) d9_56 rfl rfl rfl ?_
            refine X.iloadN (pc' := 58) d9_57 rfl rfl ?_
            refine X.iconst (pc' := 59) (5 : Int32) d9_58 rfl rfl ?_
            refine X.iadd (pc' := 60) d9_59 rfl ?_
            rw [show (((0 : Int32) + (5 : Int32)) : Int32) = (5 : Int32) from by decide]
            refine X.caload (pc' := 61) V_a ⟨by decide, by decide⟩ (v := (cs.getD 5 0)) (at_int (i := 5) (by omega)) d9_60 rfl ?_
            refine X.bipush (pc' := 63) (110 : Int32) d9_61 rfl rfl ?_
            by_cases h5 : cs.getD 5 0 = 110
            · refine X.icN (pc' := 66) d9_63 ((teq h5).2) rfl ?_
              refine X.aloadN (pc' := 67) d9_66 rfl rfl rfl ?_
              refine X.iloadN (pc' := 68) d9_67 rfl rfl ?_
              refine X.bipush (pc' := 70) (6 : Int32) d9_68 rfl rfl ?_
              refine X.iadd (pc' := 71) d9_70 rfl ?_
              rw [show (((0 : Int32) + (6 : Int32)) : Int32) = (6 : Int32) from by decide]
              refine X.caload (pc' := 72) V_a ⟨by decide, by decide⟩ (v := (cs.getD 6 0)) (at_int (i := 6) (by omega)) d9_71 rfl ?_
              refine X.bipush (pc' := 74) (58 : Int32) d9_72 rfl rfl ?_
              by_cases h6 : cs.getD 6 0 = 58
              · refine X.icN (pc' := 77) d9_74 ((teq h6).2) rfl ?_
                refine X.iconst (pc' := 78) (1 : Int32) d9_77 rfl rfl ?_
                refine X.goto (pc' := 82) d9_78 (by decide) (by decide) ?_
                exact X.retIN (by simp) rfl d9_82 (by decide) (by decide) ⟨_, rfl, rfl, 1, rfl, Or.inl ⟨rfl, mk_of (by decide) h0 h1 h2 h3 h4 h5 h6⟩⟩
              · refine X.icY (pc' := 81) d9_74 ((feq h6).2) (by decide) (by decide) ?_
                refine X.iconst (pc' := 82) (0 : Int32) d9_81 rfl rfl ?_
                exact X.retIN (by simp) rfl d9_82 (by decide) (by decide) ⟨_, rfl, rfl, 0, rfl, Or.inr ⟨rfl, fun q => h6 (q.2 6 (by decide))⟩⟩
            · refine X.icY (pc' := 81) d9_63 ((feq h5).2) (by decide) (by decide) ?_
              refine X.iconst (pc' := 82) (0 : Int32) d9_81 rfl rfl ?_
              exact X.retIN (by simp) rfl d9_82 (by decide) (by decide) ⟨_, rfl, rfl, 0, rfl, Or.inr ⟨rfl, fun q => h5 (q.2 5 (by decide))⟩⟩
          · refine X.icY (pc' := 81) d9_53 ((feq h4).2) (by decide) (by decide) ?_
            refine X.iconst (pc' := 82) (0 : Int32) d9_81 rfl rfl ?_
            exact X.retIN (by simp) rfl d9_82 (by decide) (by decide) ⟨_, rfl, rfl, 0, rfl, Or.inr ⟨rfl, fun q => h4 (q.2 4 (by decide))⟩⟩
        · refine X.icY (pc' := 81) d9_43 ((feq h3).2) (by decide) (by decide) ?_
          refine X.iconst (pc' := 82) (0 : Int32) d9_81 rfl rfl ?_
          exact X.retIN (by simp) rfl d9_82 (by decide) (by decide) ⟨_, rfl, rfl, 0, rfl, Or.inr ⟨rfl, fun q => h3 (q.2 3 (by decide))⟩⟩
      · refine X.icY (pc' := 81) d9_33 ((feq h2).2) (by decide) (by decide) ?_
        refine X.iconst (pc' := 82) (0 : Int32) d9_81 rfl rfl ?_
        exact X.retIN (by simp) rfl d9_82 (by decide) (by decide) ⟨_, rfl, rfl, 0, rfl, Or.inr ⟨rfl, fun q => h2 (q.2 2 (by decide))⟩⟩
    · refine X.icY (pc' := 81) d9_23 ((feq h1).2) (by decide) (by decide) ?_
      refine X.iconst (pc' := 82) (0 : Int32) d9_81 rfl rfl ?_
      exact X.retIN (by simp) rfl d9_82 (by decide) (by decide) ⟨_, rfl, rfl, 0, rfl, Or.inr ⟨rfl, fun q => h1 (q.2 1 (by decide))⟩⟩
  · refine X.icY (pc' := 81) d9_13 ((feq h0).2) (by decide) (by decide) ?_
    refine X.iconst (pc' := 82) (0 : Int32) d9_81 rfl rfl ?_
    exact X.retIN (by simp) rfl d9_82 (by decide) (by decide) ⟨_, rfl, rfl, 0, rfl, Or.inr ⟨rfl, fun q => h0 (q.2 0 (by decide))⟩⟩
set_option maxRecDepth 65536 in
set_option maxHeartbeats 40000000 in
theorem ef_rmAt_7_1 (m : MethodId) (a : Addr) : entryFrame m #[(.ref a), (.int (7 : Int32)), (.int (1 : Int32))] 3 = mkF m 0 #[.val (.ref a), .val (.int (7 : Int32)), .val (.int (1 : Int32))] [] := by first | (simp [entryFrame, mkF, argsToLocals, Value.category]; done) | (rfl)
set_option maxRecDepth 65536 in
set_option maxHeartbeats 40000000 in
theorem rmAt_7_1 (l : Launch) (Z : State) (a0 : Array Value) (hw : ∀ d ∈ tables_1, d.before a0 Z = true) (a : Addr) (h0 : Heap) (O : Ext Z.heap h0) (ka : ClassId) (cs : List Int32) (hl : cs.length = 16) (V_a : Arv Z h0 a ka .char 16 (cs.map Value.int) (.int 0)) :
    MN l Z (⟨"com/example/bounded_lock/boundedlock/LockLayoutWokenInstanceOfPinLaw", "at", "([CII)Z"⟩ : MethodName) method_5_code 3 (some .boolean) [] ({ frames := 0, cells := 0, slots := 0, locals := 0 } : Room) #[(.ref a), (.int (7 : Int32)), (.int (1 : Int32))] h0 [] (RP h0 (fun w => ∃ v : Int32, w = .int v ∧ ((v = 1 ∧ MarkN cs 7 1) ∨ (v = 0 ∧ ¬ MarkN cs 7 1)))) := by
  refine MN.mk (a0 := a0) rfl rfl (plainFor_of_name pn1) O (fun m => ef_rmAt_7_1 m a) ?_
  intro pg ev s m below meth cd T hh X
  subst hh
  refine X.iloadN (pc' := 1) d9_0 rfl rfl ?_
  refine X.bipush (pc' := 3) (7 : Int32) d9_1 rfl rfl ?_
  refine X.iadd (pc' := 4) d9_3 rfl ?_
  rw [show (((1 : Int32) + (7 : Int32)) : Int32) = (8 : Int32) from by decide]
  refine X.iloadN (pc' := 5) d9_4 rfl rfl ?_
  refine X.icY (pc' := 81) d9_5 (by decide) (by decide) (by decide) ?_
  refine X.iconst (pc' := 82) (0 : Int32) d9_81 rfl rfl ?_
  exact X.retIN (by simp) rfl d9_82 (by decide) (by decide) ⟨_, rfl, rfl, 0, rfl, Or.inr ⟨rfl, fun q => absurd q.1 (by decide)⟩⟩
set_option maxRecDepth 65536 in
set_option maxHeartbeats 40000000 in
theorem ef_rmAt_7_2 (m : MethodId) (a : Addr) : entryFrame m #[(.ref a), (.int (7 : Int32)), (.int (2 : Int32))] 3 = mkF m 0 #[.val (.ref a), .val (.int (7 : Int32)), .val (.int (2 : Int32))] [] := by first | (simp [entryFrame, mkF, argsToLocals, Value.category]; done) | (rfl)
set_option maxRecDepth 65536 in
set_option maxHeartbeats 40000000 in
theorem rmAt_7_2 (l : Launch) (Z : State) (a0 : Array Value) (hw : ∀ d ∈ tables_1, d.before a0 Z = true) (a : Addr) (h0 : Heap) (O : Ext Z.heap h0) (ka : ClassId) (cs : List Int32) (hl : cs.length = 16) (V_a : Arv Z h0 a ka .char 16 (cs.map Value.int) (.int 0)) :
    MN l Z (⟨"com/example/bounded_lock/boundedlock/LockLayoutWokenInstanceOfPinLaw", "at", "([CII)Z"⟩ : MethodName) method_5_code 3 (some .boolean) [] ({ frames := 0, cells := 0, slots := 0, locals := 0 } : Room) #[(.ref a), (.int (7 : Int32)), (.int (2 : Int32))] h0 [] (RP h0 (fun w => ∃ v : Int32, w = .int v ∧ ((v = 1 ∧ MarkN cs 7 2) ∨ (v = 0 ∧ ¬ MarkN cs 7 2)))) := by
  refine MN.mk (a0 := a0) rfl rfl (plainFor_of_name pn1) O (fun m => ef_rmAt_7_2 m a) ?_
  intro pg ev s m below meth cd T hh X
  subst hh
  refine X.iloadN (pc' := 1) d9_0 rfl rfl ?_
  refine X.bipush (pc' := 3) (7 : Int32) d9_1 rfl rfl ?_
  refine X.iadd (pc' := 4) d9_3 rfl ?_
  rw [show (((2 : Int32) + (7 : Int32)) : Int32) = (9 : Int32) from by decide]
  refine X.iloadN (pc' := 5) d9_4 rfl rfl ?_
  refine X.icY (pc' := 81) d9_5 (by decide) (by decide) (by decide) ?_
  refine X.iconst (pc' := 82) (0 : Int32) d9_81 rfl rfl ?_
  exact X.retIN (by simp) rfl d9_82 (by decide) (by decide) ⟨_, rfl, rfl, 0, rfl, Or.inr ⟨rfl, fun q => absurd q.1 (by decide)⟩⟩
set_option maxRecDepth 65536 in
set_option maxHeartbeats 40000000 in
theorem ef_rmAt_7_3 (m : MethodId) (a : Addr) : entryFrame m #[(.ref a), (.int (7 : Int32)), (.int (3 : Int32))] 3 = mkF m 0 #[.val (.ref a), .val (.int (7 : Int32)), .val (.int (3 : Int32))] [] := by first | (simp [entryFrame, mkF, argsToLocals, Value.category]; done) | (rfl)
set_option maxRecDepth 65536 in
set_option maxHeartbeats 40000000 in
theorem rmAt_7_3 (l : Launch) (Z : State) (a0 : Array Value) (hw : ∀ d ∈ tables_1, d.before a0 Z = true) (a : Addr) (h0 : Heap) (O : Ext Z.heap h0) (ka : ClassId) (cs : List Int32) (hl : cs.length = 16) (V_a : Arv Z h0 a ka .char 16 (cs.map Value.int) (.int 0)) :
    MN l Z (⟨"com/example/bounded_lock/boundedlock/LockLayoutWokenInstanceOfPinLaw", "at", "([CII)Z"⟩ : MethodName) method_5_code 3 (some .boolean) [] ({ frames := 0, cells := 0, slots := 0, locals := 0 } : Room) #[(.ref a), (.int (7 : Int32)), (.int (3 : Int32))] h0 [] (RP h0 (fun w => ∃ v : Int32, w = .int v ∧ ((v = 1 ∧ MarkN cs 7 3) ∨ (v = 0 ∧ ¬ MarkN cs 7 3)))) := by
  refine MN.mk (a0 := a0) rfl rfl (plainFor_of_name pn1) O (fun m => ef_rmAt_7_3 m a) ?_
  intro pg ev s m below meth cd T hh X
  subst hh
  refine X.iloadN (pc' := 1) d9_0 rfl rfl ?_
  refine X.bipush (pc' := 3) (7 : Int32) d9_1 rfl rfl ?_
  refine X.iadd (pc' := 4) d9_3 rfl ?_
  rw [show (((3 : Int32) + (7 : Int32)) : Int32) = (10 : Int32) from by decide]
  refine X.iloadN (pc' := 5) d9_4 rfl rfl ?_
  refine X.icY (pc' := 81) d9_5 (by decide) (by decide) (by decide) ?_
  refine X.iconst (pc' := 82) (0 : Int32) d9_81 rfl rfl ?_
  exact X.retIN (by simp) rfl d9_82 (by decide) (by decide) ⟨_, rfl, rfl, 0, rfl, Or.inr ⟨rfl, fun q => absurd q.1 (by decide)⟩⟩
set_option maxRecDepth 65536 in
set_option maxHeartbeats 40000000 in
theorem ef_rmAt_7_4 (m : MethodId) (a : Addr) : entryFrame m #[(.ref a), (.int (7 : Int32)), (.int (4 : Int32))] 3 = mkF m 0 #[.val (.ref a), .val (.int (7 : Int32)), .val (.int (4 : Int32))] [] := by first | (simp [entryFrame, mkF, argsToLocals, Value.category]; done) | (rfl)
set_option maxRecDepth 65536 in
set_option maxHeartbeats 40000000 in
theorem rmAt_7_4 (l : Launch) (Z : State) (a0 : Array Value) (hw : ∀ d ∈ tables_1, d.before a0 Z = true) (a : Addr) (h0 : Heap) (O : Ext Z.heap h0) (ka : ClassId) (cs : List Int32) (hl : cs.length = 16) (V_a : Arv Z h0 a ka .char 16 (cs.map Value.int) (.int 0)) :
    MN l Z (⟨"com/example/bounded_lock/boundedlock/LockLayoutWokenInstanceOfPinLaw", "at", "([CII)Z"⟩ : MethodName) method_5_code 3 (some .boolean) [] ({ frames := 0, cells := 0, slots := 0, locals := 0 } : Room) #[(.ref a), (.int (7 : Int32)), (.int (4 : Int32))] h0 [] (RP h0 (fun w => ∃ v : Int32, w = .int v ∧ ((v = 1 ∧ MarkN cs 7 4) ∨ (v = 0 ∧ ¬ MarkN cs 7 4)))) := by
  refine MN.mk (a0 := a0) rfl rfl (plainFor_of_name pn1) O (fun m => ef_rmAt_7_4 m a) ?_
  intro pg ev s m below meth cd T hh X
  subst hh
  refine X.iloadN (pc' := 1) d9_0 rfl rfl ?_
  refine X.bipush (pc' := 3) (7 : Int32) d9_1 rfl rfl ?_
  refine X.iadd (pc' := 4) d9_3 rfl ?_
  rw [show (((4 : Int32) + (7 : Int32)) : Int32) = (11 : Int32) from by decide]
  refine X.iloadN (pc' := 5) d9_4 rfl rfl ?_
  refine X.icY (pc' := 81) d9_5 (by decide) (by decide) (by decide) ?_
  refine X.iconst (pc' := 82) (0 : Int32) d9_81 rfl rfl ?_
  exact X.retIN (by simp) rfl d9_82 (by decide) (by decide) ⟨_, rfl, rfl, 0, rfl, Or.inr ⟨rfl, fun q => absurd q.1 (by decide)⟩⟩
set_option maxRecDepth 65536 in
set_option maxHeartbeats 40000000 in
theorem ef_rmAt_7_5 (m : MethodId) (a : Addr) : entryFrame m #[(.ref a), (.int (7 : Int32)), (.int (5 : Int32))] 3 = mkF m 0 #[.val (.ref a), .val (.int (7 : Int32)), .val (.int (5 : Int32))] [] := by first | (simp [entryFrame, mkF, argsToLocals, Value.category]; done) | (rfl)
set_option maxRecDepth 65536 in
set_option maxHeartbeats 40000000 in
theorem rmAt_7_5 (l : Launch) (Z : State) (a0 : Array Value) (hw : ∀ d ∈ tables_1, d.before a0 Z = true) (a : Addr) (h0 : Heap) (O : Ext Z.heap h0) (ka : ClassId) (cs : List Int32) (hl : cs.length = 16) (V_a : Arv Z h0 a ka .char 16 (cs.map Value.int) (.int 0)) :
    MN l Z (⟨"com/example/bounded_lock/boundedlock/LockLayoutWokenInstanceOfPinLaw", "at", "([CII)Z"⟩ : MethodName) method_5_code 3 (some .boolean) [] ({ frames := 0, cells := 0, slots := 0, locals := 0 } : Room) #[(.ref a), (.int (7 : Int32)), (.int (5 : Int32))] h0 [] (RP h0 (fun w => ∃ v : Int32, w = .int v ∧ ((v = 1 ∧ MarkN cs 7 5) ∨ (v = 0 ∧ ¬ MarkN cs 7 5)))) := by
  refine MN.mk (a0 := a0) rfl rfl (plainFor_of_name pn1) O (fun m => ef_rmAt_7_5 m a) ?_
  intro pg ev s m below meth cd T hh X
  subst hh
  refine X.iloadN (pc' := 1) d9_0 rfl rfl ?_
  refine X.bipush (pc' := 3) (7 : Int32) d9_1 rfl rfl ?_
  refine X.iadd (pc' := 4) d9_3 rfl ?_
  rw [show (((5 : Int32) + (7 : Int32)) : Int32) = (12 : Int32) from by decide]
  refine X.iloadN (pc' := 5) d9_4 rfl rfl ?_
  refine X.icY (pc' := 81) d9_5 (by decide) (by decide) (by decide) ?_
  refine X.iconst (pc' := 82) (0 : Int32) d9_81 rfl rfl ?_
  exact X.retIN (by simp) rfl d9_82 (by decide) (by decide) ⟨_, rfl, rfl, 0, rfl, Or.inr ⟨rfl, fun q => absurd q.1 (by decide)⟩⟩
set_option maxRecDepth 65536 in
set_option maxHeartbeats 40000000 in
theorem ef_rmAt_7_6 (m : MethodId) (a : Addr) : entryFrame m #[(.ref a), (.int (7 : Int32)), (.int (6 : Int32))] 3 = mkF m 0 #[.val (.ref a), .val (.int (7 : Int32)), .val (.int (6 : Int32))] [] := by first | (simp [entryFrame, mkF, argsToLocals, Value.category]; done) | (rfl)
set_option maxRecDepth 65536 in
set_option maxHeartbeats 40000000 in
theorem rmAt_7_6 (l : Launch) (Z : State) (a0 : Array Value) (hw : ∀ d ∈ tables_1, d.before a0 Z = true) (a : Addr) (h0 : Heap) (O : Ext Z.heap h0) (ka : ClassId) (cs : List Int32) (hl : cs.length = 16) (V_a : Arv Z h0 a ka .char 16 (cs.map Value.int) (.int 0)) :
    MN l Z (⟨"com/example/bounded_lock/boundedlock/LockLayoutWokenInstanceOfPinLaw", "at", "([CII)Z"⟩ : MethodName) method_5_code 3 (some .boolean) [] ({ frames := 0, cells := 0, slots := 0, locals := 0 } : Room) #[(.ref a), (.int (7 : Int32)), (.int (6 : Int32))] h0 [] (RP h0 (fun w => ∃ v : Int32, w = .int v ∧ ((v = 1 ∧ MarkN cs 7 6) ∨ (v = 0 ∧ ¬ MarkN cs 7 6)))) := by
  refine MN.mk (a0 := a0) rfl rfl (plainFor_of_name pn1) O (fun m => ef_rmAt_7_6 m a) ?_
  intro pg ev s m below meth cd T hh X
  subst hh
  refine X.iloadN (pc' := 1) d9_0 rfl rfl ?_
  refine X.bipush (pc' := 3) (7 : Int32) d9_1 rfl rfl ?_
  refine X.iadd (pc' := 4) d9_3 rfl ?_
  rw [show (((6 : Int32) + (7 : Int32)) : Int32) = (13 : Int32) from by decide]
  refine X.iloadN (pc' := 5) d9_4 rfl rfl ?_
  refine X.icY (pc' := 81) d9_5 (by decide) (by decide) (by decide) ?_
  refine X.iconst (pc' := 82) (0 : Int32) d9_81 rfl rfl ?_
  exact X.retIN (by simp) rfl d9_82 (by decide) (by decide) ⟨_, rfl, rfl, 0, rfl, Or.inr ⟨rfl, fun q => absurd q.1 (by decide)⟩⟩
set_option maxRecDepth 65536 in
set_option maxHeartbeats 40000000 in
theorem ef_rmAt_7_7 (m : MethodId) (a : Addr) : entryFrame m #[(.ref a), (.int (7 : Int32)), (.int (7 : Int32))] 3 = mkF m 0 #[.val (.ref a), .val (.int (7 : Int32)), .val (.int (7 : Int32))] [] := by first | (simp [entryFrame, mkF, argsToLocals, Value.category]; done) | (rfl)
set_option maxRecDepth 65536 in
set_option maxHeartbeats 40000000 in
theorem rmAt_7_7 (l : Launch) (Z : State) (a0 : Array Value) (hw : ∀ d ∈ tables_1, d.before a0 Z = true) (a : Addr) (h0 : Heap) (O : Ext Z.heap h0) (ka : ClassId) (cs : List Int32) (hl : cs.length = 16) (V_a : Arv Z h0 a ka .char 16 (cs.map Value.int) (.int 0)) :
    MN l Z (⟨"com/example/bounded_lock/boundedlock/LockLayoutWokenInstanceOfPinLaw", "at", "([CII)Z"⟩ : MethodName) method_5_code 3 (some .boolean) [] ({ frames := 0, cells := 0, slots := 0, locals := 0 } : Room) #[(.ref a), (.int (7 : Int32)), (.int (7 : Int32))] h0 [] (RP h0 (fun w => ∃ v : Int32, w = .int v ∧ ((v = 1 ∧ MarkN cs 7 7) ∨ (v = 0 ∧ ¬ MarkN cs 7 7)))) := by
  refine MN.mk (a0 := a0) rfl rfl (plainFor_of_name pn1) O (fun m => ef_rmAt_7_7 m a) ?_
  intro pg ev s m below meth cd T hh X
  subst hh
  refine X.iloadN (pc' := 1) d9_0 rfl rfl ?_
  refine X.bipush (pc' := 3) (7 : Int32) d9_1 rfl rfl ?_
  refine X.iadd (pc' := 4) d9_3 rfl ?_
  rw [show (((7 : Int32) + (7 : Int32)) : Int32) = (14 : Int32) from by decide]
  refine X.iloadN (pc' := 5) d9_4 rfl rfl ?_
  refine X.icY (pc' := 81) d9_5 (by decide) (by decide) (by decide) ?_
  refine X.iconst (pc' := 82) (0 : Int32) d9_81 rfl rfl ?_
  exact X.retIN (by simp) rfl d9_82 (by decide) (by decide) ⟨_, rfl, rfl, 0, rfl, Or.inr ⟨rfl, fun q => absurd q.1 (by decide)⟩⟩
set_option maxRecDepth 65536 in
set_option maxHeartbeats 40000000 in
theorem ef_rmAt_7_8 (m : MethodId) (a : Addr) : entryFrame m #[(.ref a), (.int (7 : Int32)), (.int (8 : Int32))] 3 = mkF m 0 #[.val (.ref a), .val (.int (7 : Int32)), .val (.int (8 : Int32))] [] := by first | (simp [entryFrame, mkF, argsToLocals, Value.category]; done) | (rfl)
set_option maxRecDepth 65536 in
set_option maxHeartbeats 40000000 in
theorem rmAt_7_8 (l : Launch) (Z : State) (a0 : Array Value) (hw : ∀ d ∈ tables_1, d.before a0 Z = true) (a : Addr) (h0 : Heap) (O : Ext Z.heap h0) (ka : ClassId) (cs : List Int32) (hl : cs.length = 16) (V_a : Arv Z h0 a ka .char 16 (cs.map Value.int) (.int 0)) :
    MN l Z (⟨"com/example/bounded_lock/boundedlock/LockLayoutWokenInstanceOfPinLaw", "at", "([CII)Z"⟩ : MethodName) method_5_code 3 (some .boolean) [] ({ frames := 0, cells := 0, slots := 0, locals := 0 } : Room) #[(.ref a), (.int (7 : Int32)), (.int (8 : Int32))] h0 [] (RP h0 (fun w => ∃ v : Int32, w = .int v ∧ ((v = 1 ∧ MarkN cs 7 8) ∨ (v = 0 ∧ ¬ MarkN cs 7 8)))) := by
  refine MN.mk (a0 := a0) rfl rfl (plainFor_of_name pn1) O (fun m => ef_rmAt_7_8 m a) ?_
  intro pg ev s m below meth cd T hh X
  subst hh
  refine X.iloadN (pc' := 1) d9_0 rfl rfl ?_
  refine X.bipush (pc' := 3) (7 : Int32) d9_1 rfl rfl ?_
  refine X.iadd (pc' := 4) d9_3 rfl ?_
  rw [show (((8 : Int32) + (7 : Int32)) : Int32) = (15 : Int32) from by decide]
  refine X.iloadN (pc' := 5) d9_4 rfl rfl ?_
  refine X.icY (pc' := 81) d9_5 (by decide) (by decide) (by decide) ?_
  refine X.iconst (pc' := 82) (0 : Int32) d9_81 rfl rfl ?_
  exact X.retIN (by simp) rfl d9_82 (by decide) (by decide) ⟨_, rfl, rfl, 0, rfl, Or.inr ⟨rfl, fun q => absurd q.1 (by decide)⟩⟩
set_option maxRecDepth 65536 in
set_option maxHeartbeats 40000000 in
theorem ef_rmAt_7_9 (m : MethodId) (a : Addr) : entryFrame m #[(.ref a), (.int (7 : Int32)), (.int (9 : Int32))] 3 = mkF m 0 #[.val (.ref a), .val (.int (7 : Int32)), .val (.int (9 : Int32))] [] := by first | (simp [entryFrame, mkF, argsToLocals, Value.category]; done) | (rfl)
set_option maxRecDepth 65536 in
set_option maxHeartbeats 40000000 in
theorem rmAt_7_9 (l : Launch) (Z : State) (a0 : Array Value) (hw : ∀ d ∈ tables_1, d.before a0 Z = true) (a : Addr) (h0 : Heap) (O : Ext Z.heap h0) (ka : ClassId) (cs : List Int32) (hl : cs.length = 16) (V_a : Arv Z h0 a ka .char 16 (cs.map Value.int) (.int 0)) :
    MN l Z (⟨"com/example/bounded_lock/boundedlock/LockLayoutWokenInstanceOfPinLaw", "at", "([CII)Z"⟩ : MethodName) method_5_code 3 (some .boolean) [] ({ frames := 0, cells := 0, slots := 0, locals := 0 } : Room) #[(.ref a), (.int (7 : Int32)), (.int (9 : Int32))] h0 [] (RP h0 (fun w => ∃ v : Int32, w = .int v ∧ ((v = 1 ∧ MarkN cs 7 9) ∨ (v = 0 ∧ ¬ MarkN cs 7 9)))) := by
  refine MN.mk (a0 := a0) rfl rfl (plainFor_of_name pn1) O (fun m => ef_rmAt_7_9 m a) ?_
  intro pg ev s m below meth cd T hh X
  subst hh
  refine X.iloadN (pc' := 1) d9_0 rfl rfl ?_
  refine X.bipush (pc' := 3) (7 : Int32) d9_1 rfl rfl ?_
  refine X.iadd (pc' := 4) d9_3 rfl ?_
  rw [show (((9 : Int32) + (7 : Int32)) : Int32) = (16 : Int32) from by decide]
  refine X.iloadN (pc' := 5) d9_4 rfl rfl ?_
  refine X.icY (pc' := 81) d9_5 (by decide) (by decide) (by decide) ?_
  refine X.iconst (pc' := 82) (0 : Int32) d9_81 rfl rfl ?_
  exact X.retIN (by simp) rfl d9_82 (by decide) (by decide) ⟨_, rfl, rfl, 0, rfl, Or.inr ⟨rfl, fun q => absurd q.1 (by decide)⟩⟩
set_option maxRecDepth 65536 in
set_option maxHeartbeats 40000000 in
theorem ef_rmLM_7 (m : MethodId) (a : Addr) : entryFrame m #[(.ref a), (.int (7 : Int32))] 2 = mkF m 0 #[.val (.ref a), .val (.int (7 : Int32))] [] := by first | (simp [entryFrame, mkF, argsToLocals, Value.category]; done) | (rfl)
set_option maxRecDepth 65536 in
set_option maxHeartbeats 40000000 in
theorem rmLM_7 (l : Launch) (Z : State) (a0 : Array Value) (hw : ∀ d ∈ tables_1, d.before a0 Z = true) (a : Addr) (h0 : Heap) (O : Ext Z.heap h0) (ka : ClassId) (cs : List Int32) (hl : cs.length = 16) (V_a : Arv Z h0 a ka .char 16 (cs.map Value.int) (.int 0)) :
    MN l Z (⟨"com/example/bounded_lock/boundedlock/LockLayoutWokenInstanceOfPinLaw", "lastMark", "([CI)I"⟩ : MethodName) method_6_code 2 (some .int) [] ({ frames := 1, cells := 0, slots := 0, locals := 20 } : Room) #[(.ref a), (.int (7 : Int32))] h0 [] (RP h0 (fun w => ∃ R : Int32, w = .int R ∧ Last (MarkN cs 7) 10 R)) := by
  refine MN.mk (a0 := a0) rfl rfl (plainFor_of_name pn1) O (fun m => ef_rmLM_7 m a) ?_
  intro pg ev s m below meth cd T hh X
  subst hh
  refine X.aloadN (pc' := 1) d8_0 rfl rfl rfl ?_
  refine X.iloadN (pc' := 2) d8_1 rfl rfl ?_
  refine X.bipush (pc' := 4) (9 : Int32) d8_2 rfl rfl ?_
  refine X.callP (pc' := 7) (X.sStatic (wd38 hw) (wd39 hw) (wd3 hw) (wd40 hw) (by decide) rfl pd0 [(.ref a), (.int (7 : Int32)), (.int (9 : Int32))] rfl rfl d8_4) (rmAt_7_9 l Z a0 hw a _ X.old ka cs hl V_a) (wd40 hw) (wd3 hw) (leB rfl) (leB rfl) (leB rfl) (leB rfl) rfl ?_
  intro T L v X q
  obtain ⟨v9, rfl, hv9⟩ := q
  rcases hv9 with ⟨rfl, m9⟩ | ⟨rfl, m9⟩
  · refine X.ifN (pc' := 10) d8_7 (by decide) rfl ?_
    refine X.bipush (pc' := 12) (9 : Int32) d8_10 rfl rfl ?_
    exact X.retIN (by simp) rfl d8_12 (by decide) (by decide) ⟨_, rfl, rfl, _, rfl, (Last.hit (k := 9) m9)⟩
  · refine X.ifY (pc' := 13) d8_7 (by decide) (by decide) (by decide) ?_
    refine X.aloadN (pc' := 14) d8_13 rfl rfl rfl ?_
    refine X.iloadN (pc' := 15) d8_14 rfl rfl ?_
    refine X.bipush (pc' := 17) (8 : Int32) d8_15 rfl rfl ?_
    refine X.callP (pc' := 20) (X.sStatic (wd38 hw) (wd39 hw) (wd3 hw) (wd40 hw) (by decide) rfl pd0 [(.ref a), (.int (7 : Int32)), (.int (8 : Int32))] rfl rfl d8_17) (rmAt_7_8 l Z a0 hw a _ X.old ka cs hl V_a) (wd40 hw) (wd3 hw) (leB rfl) (leB rfl) (leB rfl) (leB rfl) rfl ?_
    intro T L v X q
    obtain ⟨v8, rfl, hv8⟩ := q
    rcases hv8 with ⟨rfl, m8⟩ | ⟨rfl, m8⟩
    · refine X.ifN (pc' := 23) d8_20 (by decide) rfl ?_
      refine X.bipush (pc' := 25) (8 : Int32) d8_23 rfl rfl ?_
      exact X.retIN (by simp) rfl d8_25 (by decide) (by decide) ⟨_, rfl, rfl, _, rfl, (Last.miss (k := 9) m9 (Last.hit (k := 8) m8))⟩
    · refine X.ifY (pc' := 26) d8_20 (by decide) (by decide) (by decide) ?_
      refine X.aloadN (pc' := 27) d8_26 rfl rfl rfl ?_
      refine X.iloadN (pc' := 28) d8_27 rfl rfl ?_
      refine X.bipush (pc' := 30) (7 : Int32) d8_28 rfl rfl ?_
      refine X.callP (pc' := 33) (X.sStatic (wd38 hw) (wd39 hw) (wd3 hw) (wd40 hw) (by decide) rfl pd0 [(.ref a), (.int (7 : Int32)), (.int (7 : Int32))] rfl rfl d8_30) (rmAt_7_7 l Z a0 hw a _ X.old ka cs hl V_a) (wd40 hw) (wd3 hw) (leB rfl) (leB rfl) (leB rfl) (leB rfl) rfl ?_
      intro T L v X q
      obtain ⟨v7, rfl, hv7⟩ := q
      rcases hv7 with ⟨rfl, m7⟩ | ⟨rfl, m7⟩
      · refine X.ifN (pc' := 36) d8_33 (by decide) rfl ?_
        refine X.bipush (pc' := 38) (7 : Int32) d8_36 rfl rfl ?_
        exact X.retIN (by simp) rfl d8_38 (by decide) (by decide) ⟨_, rfl, rfl, _, rfl, (Last.miss (k := 9) m9 (Last.miss (k := 8) m8 (Last.hit (k := 7) m7)))⟩
      · refine X.ifY (pc' := 39) d8_33 (by decide) (by decide) (by decide) ?_
        refine X.aloadN (pc' := 40) d8_39 rfl rfl rfl ?_
        refine X.iloadN (pc' := 41) d8_40 rfl rfl ?_
        refine X.bipush (pc' := 43) (6 : Int32) d8_41 rfl rfl ?_
        refine X.callP (pc' := 46) (X.sStatic (wd38 hw) (wd39 hw) (wd3 hw) (wd40 hw) (by decide) rfl pd0 [(.ref a), (.int (7 : Int32)), (.int (6 : Int32))] rfl rfl d8_43) (rmAt_7_6 l Z a0 hw a _ X.old ka cs hl V_a) (wd40 hw) (wd3 hw) (leB rfl) (leB rfl) (leB rfl) (leB rfl) rfl ?_
        intro T L v X q
        obtain ⟨v6, rfl, hv6⟩ := q
        rcases hv6 with ⟨rfl, m6⟩ | ⟨rfl, m6⟩
        · refine X.ifN (pc' := 49) d8_46 (by decide) rfl ?_
          refine X.bipush (pc' := 51) (6 : Int32) d8_49 rfl rfl ?_
          exact X.retIN (by simp) rfl d8_51 (by decide) (by decide) ⟨_, rfl, rfl, _, rfl, (Last.miss (k := 9) m9 (Last.miss (k := 8) m8 (Last.miss (k := 7) m7 (Last.hit (k := 6) m6))))⟩
        · refine X.ifY (pc' := 52) d8_46 (by decide) (by decide) (by decide) ?_
          refine X.aloadN (pc' := 53) d8_52 rfl rfl rfl ?_
          refine X.iloadN (pc' := 54) d8_53 rfl rfl ?_
          refine X.iconst (pc' := 55) (5 : Int32) d8_54 rfl rfl ?_
          refine X.callP (pc' := 58) (X.sStatic (wd38 hw) (wd39 hw) (wd3 hw) (wd40 hw) (by decide) rfl pd0 [(.ref a), (.int (7 : Int32)), (.int (5 : Int32))] rfl rfl d8_55) (rmAt_7_5 l Z a0 hw a _ X.old ka cs hl V_a) (wd40 hw) (wd3 hw) (leB rfl) (leB rfl) (leB rfl) (leB rfl) rfl ?_
          intro T L v X q
          obtain ⟨v5, rfl, hv5⟩ := q
          rcases hv5 with ⟨rfl, m5⟩ | ⟨rfl, m5⟩
          · refine X.ifN (pc' := 61) d8_58 (by decide) rfl ?_
            refine X.iconst (pc' := 62) (5 : Int32) d8_61 rfl rfl ?_
            exact X.retIN (by simp) rfl d8_62 (by decide) (by decide) ⟨_, rfl, rfl, _, rfl, (Last.miss (k := 9) m9 (Last.miss (k := 8) m8 (Last.miss (k := 7) m7 (Last.miss (k := 6) m6 (Last.hit (k := 5) m5)))))⟩
          · refine X.ifY (pc' := 63) d8_58 (by decide) (by decide) (by decide) ?_
            refine X.aloadN (pc' := 64) d8_63 rfl rfl rfl ?_
            refine X.iloadN (pc' := 65) d8_64 rfl rfl ?_
            refine X.iconst (pc' := 66) (4 : Int32) d8_65 rfl rfl ?_
            refine X.callP (pc' := 69) (X.sStatic (wd38 hw) (wd39 hw) (wd3 hw) (wd40 hw) (by decide) rfl pd0 [(.ref a), (.int (7 : Int32)), (.int (4 : Int32))] rfl rfl d8_66) (rmAt_7_4 l Z a0 hw a _ X.old ka cs hl V_a) (wd40 hw) (wd3 hw) (leB rfl) (leB rfl) (leB rfl) (leB rfl) rfl ?_
            intro T L v X q
            obtain ⟨v4, rfl, hv4⟩ := q
            rcases hv4 with ⟨rfl, m4⟩ | ⟨rfl, m4⟩
            · refine X.ifN (pc' := 72) d8_69 (by decide) rfl ?_
              refine X.iconst (pc' := 73) (4 : Int32) d8_72 rfl rfl ?_
              exact X.retIN (by simp) rfl d8_73 (by decide) (by decide) ⟨_, rfl, rfl, _, rfl, (Last.miss (k := 9) m9 (Last.miss (k := 8) m8 (Last.miss (k := 7) m7 (Last.miss (k := 6) m6 (Last.miss (k := 5) m5 (Last.hit (k := 4) m4))))))⟩
            · refine X.ifY (pc' := 74) d8_69 (by decide) (by decide) (by decide) ?_
              refine X.aloadN (pc' := 75) d8_74 rfl rfl rfl ?_
              refine X.iloadN (pc' := 76) d8_75 rfl rfl ?_
              refine X.iconst (pc' := 77) (3 : Int32) d8_76 rfl rfl ?_
              refine X.callP (pc' := 80) (X.sStatic (wd38 hw) (wd39 hw) (wd3 hw) (wd40 hw) (by decide) rfl pd0 [(.ref a), (.int (7 : Int32)), (.int (3 : Int32))] rfl rfl d8_77) (rmAt_7_3 l Z a0 hw a _ X.old ka cs hl V_a) (wd40 hw) (wd3 hw) (leB rfl) (leB rfl) (leB rfl) (leB rfl) rfl ?_
              intro T L v X q
              obtain ⟨v3, rfl, hv3⟩ := q
              rcases hv3 with ⟨rfl, m3⟩ | ⟨rfl, m3⟩
              · refine X.ifN (pc' := 83) d8_80 (by decide) rfl ?_
                refine X.iconst (pc' := 84) (3 : Int32) d8_83 rfl rfl ?_
                exact X.retIN (by simp) rfl d8_84 (by decide) (by decide) ⟨_, rfl, rfl, _, rfl, (Last.miss (k := 9) m9 (Last.miss (k := 8) m8 (Last.miss (k := 7) m7 (Last.miss (k := 6) m6 (Last.miss (k := 5) m5 (Last.miss (k := 4) m4 (Last.hit (k := 3) m3)))))))⟩
              · refine X.ifY (pc' := 85) d8_80 (by decide) (by decide) (by decide) ?_
                refine X.aloadN (pc' := 86) d8_85 rfl rfl rfl ?_
                refine X.iloadN (pc' := 87) d8_86 rfl rfl ?_
                refine X.iconst (pc' := 88) (2 : Int32) d8_87 rfl rfl ?_
                refine X.callP (pc' := 91) (X.sStatic (wd38 hw) (wd39 hw) (wd3 hw) (wd40 hw) (by decide) rfl pd0 [(.ref a), (.int (7 : Int32)), (.int (2 : Int32))] rfl rfl d8_88) (rmAt_7_2 l Z a0 hw a _ X.old ka cs hl V_a) (wd40 hw) (wd3 hw) (leB rfl) (leB rfl) (leB rfl) (leB rfl) rfl ?_
                intro T L v X q
                obtain ⟨v2, rfl, hv2⟩ := q
                rcases hv2 with ⟨rfl, m2⟩ | ⟨rfl, m2⟩
                · refine X.ifN (pc' := 94) d8_91 (by decide) rfl ?_
                  refine X.iconst (pc' := 95) (2 : Int32) d8_94 rfl rfl ?_
                  exact X.retIN (by simp) rfl d8_95 (by decide) (by decide) ⟨_, rfl, rfl, _, rfl, (Last.miss (k := 9) m9 (Last.miss (k := 8) m8 (Last.miss (k := 7) m7 (Last.miss (k := 6) m6 (Last.miss (k := 5) m5 (Last.miss (k := 4) m4 (Last.miss (k := 3) m3 (Last.hit (k := 2) m2))))))))⟩
                · refine X.ifY (pc' := 96) d8_91 (by decide) (by decide) (by decide) ?_
                  refine X.aloadN (pc' := 97) d8_96 rfl rfl rfl ?_
                  refine X.iloadN (pc' := 98) d8_97 rfl rfl ?_
                  refine X.iconst (pc' := 99) (1 : Int32) d8_98 rfl rfl ?_
                  refine X.callP (pc' := 102) (X.sStatic (wd38 hw) (wd39 hw) (wd3 hw) (wd40 hw) (by decide) rfl pd0 [(.ref a), (.int (7 : Int32)), (.int (1 : Int32))] rfl rfl d8_99) (rmAt_7_1 l Z a0 hw a _ X.old ka cs hl V_a) (wd40 hw) (wd3 hw) (leB rfl) (leB rfl) (leB rfl) (leB rfl) rfl ?_
                  intro T L v X q
                  obtain ⟨v1, rfl, hv1⟩ := q
                  rcases hv1 with ⟨rfl, m1⟩ | ⟨rfl, m1⟩
                  · refine X.ifN (pc' := 105) d8_102 (by decide) rfl ?_
                    refine X.iconst (pc' := 106) (1 : Int32) d8_105 rfl rfl ?_
                    exact X.retIN (by simp) rfl d8_106 (by decide) (by decide) ⟨_, rfl, rfl, _, rfl, (Last.miss (k := 9) m9 (Last.miss (k := 8) m8 (Last.miss (k := 7) m7 (Last.miss (k := 6) m6 (Last.miss (k := 5) m5 (Last.miss (k := 4) m4 (Last.miss (k := 3) m3 (Last.miss (k := 2) m2 (Last.hit (k := 1) m1)))))))))⟩
                  · refine X.ifY (pc' := 107) d8_102 (by decide) (by decide) (by decide) ?_
                    refine X.aloadN (pc' := 108) d8_107 rfl rfl rfl ?_
                    refine X.iloadN (pc' := 109) d8_108 rfl rfl ?_
                    refine X.iconst (pc' := 110) (0 : Int32) d8_109 rfl rfl ?_
                    refine X.callP (pc' := 113) (X.sStatic (wd38 hw) (wd39 hw) (wd3 hw) (wd40 hw) (by decide) rfl pd0 [(.ref a), (.int (7 : Int32)), (.int (0 : Int32))] rfl rfl d8_110) (rmAt_7_0 l Z a0 hw a _ X.old ka cs hl V_a) (wd40 hw) (wd3 hw) (leB rfl) (leB rfl) (leB rfl) (leB rfl) rfl ?_
                    intro T L v X q
                    obtain ⟨v0, rfl, hv0⟩ := q
                    rcases hv0 with ⟨rfl, m0⟩ | ⟨rfl, m0⟩
                    · refine X.ifN (pc' := 116) d8_113 (by decide) rfl ?_
                      refine X.iconst (pc' := 117) (0 : Int32) d8_116 rfl rfl ?_
                      exact X.retIN (by simp) rfl d8_117 (by decide) (by decide) ⟨_, rfl, rfl, _, rfl, (Last.miss (k := 9) m9 (Last.miss (k := 8) m8 (Last.miss (k := 7) m7 (Last.miss (k := 6) m6 (Last.miss (k := 5) m5 (Last.miss (k := 4) m4 (Last.miss (k := 3) m3 (Last.miss (k := 2) m2 (Last.miss (k := 1) m1 (Last.hit (k := 0) m0))))))))))⟩
                    · refine X.ifY (pc' := 118) d8_113 (by decide) (by decide) (by decide) ?_
                      refine X.iconst (pc' := 119) (-1 : Int32) d8_118 rfl rfl ?_
                      exact X.retIN (by simp) rfl d8_119 (by decide) (by decide) ⟨_, rfl, rfl, -1, rfl, (Last.miss (k := 9) m9 (Last.miss (k := 8) m8 (Last.miss (k := 7) m7 (Last.miss (k := 6) m6 (Last.miss (k := 5) m5 (Last.miss (k := 4) m4 (Last.miss (k := 3) m3 (Last.miss (k := 2) m2 (Last.miss (k := 1) m1 (Last.miss (k := 0) m0 Last.zero))))))))))⟩
set_option maxRecDepth 65536 in
set_option maxHeartbeats 40000000 in
theorem ef_rmAt_16_0 (m : MethodId) (a : Addr) : entryFrame m #[(.ref a), (.int (16 : Int32)), (.int (0 : Int32))] 3 = mkF m 0 #[.val (.ref a), .val (.int (16 : Int32)), .val (.int (0 : Int32))] [] := by first | (simp [entryFrame, mkF, argsToLocals, Value.category]; done) | (rfl)
set_option maxRecDepth 65536 in
set_option maxHeartbeats 40000000 in
theorem rmAt_16_0 (l : Launch) (Z : State) (a0 : Array Value) (hw : ∀ d ∈ tables_1, d.before a0 Z = true) (a : Addr) (h0 : Heap) (O : Ext Z.heap h0) (ka : ClassId) (cs : List Int32) (hl : cs.length = 16) (V_a : Arv Z h0 a ka .char 16 (cs.map Value.int) (.int 0)) :
    MN l Z (⟨"com/example/bounded_lock/boundedlock/LockLayoutWokenInstanceOfPinLaw", "at", "([CII)Z"⟩ : MethodName) method_5_code 3 (some .boolean) [] ({ frames := 0, cells := 0, slots := 0, locals := 0 } : Room) #[(.ref a), (.int (16 : Int32)), (.int (0 : Int32))] h0 [] (RP h0 (fun w => ∃ v : Int32, w = .int v ∧ ((v = 1 ∧ MarkN cs 16 0) ∨ (v = 0 ∧ ¬ MarkN cs 16 0)))) := by
  refine MN.mk (a0 := a0) rfl rfl (plainFor_of_name pn1) O (fun m => ef_rmAt_16_0 m a) ?_
  intro pg ev s m below meth cd T hh X
  subst hh
  refine X.iloadN (pc' := 1) d9_0 rfl rfl ?_
  refine X.bipush (pc' := 3) (7 : Int32) d9_1 rfl rfl ?_
  refine X.iadd (pc' := 4) d9_3 rfl ?_
  rw [show (((0 : Int32) + (7 : Int32)) : Int32) = (7 : Int32) from by decide]
  refine X.iloadN (pc' := 5) d9_4 rfl rfl ?_
  refine X.icN (pc' := 8) d9_5 (by decide) rfl ?_
  refine X.aloadN (pc' := 9) d9_8 rfl rfl rfl ?_
  refine X.iloadN (pc' := 10) d9_9 rfl rfl ?_
  refine X.caload (pc' := 11) V_a ⟨by decide, by decide⟩ (v := (cs.getD 0 0)) (at_int (i := 0) (by omega)) d9_10 rfl ?_
  refine X.bipush (pc' := 13) (32 : Int32) d9_11 rfl rfl ?_
  by_cases h0 : cs.getD 0 0 = 32
  · refine X.icN (pc' := 16) d9_13 ((teq h0).2) rfl ?_
    refine X.aloadN (pc' := 17) d9_16 rfl rfl rfl ?_
    refine X.iloadN (pc' := 18) d9_17 rfl rfl ?_
    refine X.iconst (pc' := 19) (1 : Int32) d9_18 rfl rfl ?_
    refine X.iadd (pc' := 20) d9_19 rfl ?_
    rw [show (((0 : Int32) + (1 : Int32)) : Int32) = (1 : Int32) from by decide]
    refine X.caload (pc' := 21) V_a ⟨by decide, by decide⟩ (v := (cs.getD 1 0)) (at_int (i := 1) (by omega)) d9_20 rfl ?_
    refine X.bipush (pc' := 23) (119 : Int32) d9_21 rfl rfl ?_
    by_cases h1 : cs.getD 1 0 = 119
    · refine X.icN (pc' := 26) d9_23 ((teq h1).2) rfl ?_
      refine X.aloadN (pc' := 27) d9_26 rfl rfl rfl ?_
      refine X.iloadN (pc' := 28) d9_27 rfl rfl ?_
      refine X.iconst (pc' := 29) (2 : Int32) d9_28 rfl rfl ?_
      refine X.iadd (pc' := 30) d9_29 rfl ?_
      rw [show (((0 : Int32) + (2 : Int32)) : Int32) = (2 : Int32) from by decide]
      refine X.caload (pc' := 31) V_a ⟨by decide, by decide⟩ (v := (cs.getD 2 0)) (at_int (i := 2) (by omega)) d9_30 rfl ?_
      refine X.bipush (pc' := 33) (111 : Int32) d9_31 rfl rfl ?_
      by_cases h2 : cs.getD 2 0 = 111
      · refine X.icN (pc' := 36) d9_33 ((teq h2).2) rfl ?_
        refine X.aloadN (pc' := 37) d9_36 rfl rfl rfl ?_
        refine X.iloadN (pc' := 38) d9_37 rfl rfl ?_
        refine X.iconst (pc' := 39) (3 : Int32) d9_38 rfl rfl ?_
        refine X.iadd (pc' := 40) d9_39 rfl ?_
        rw [show (((0 : Int32) + (3 : Int32)) : Int32) = (3 : Int32) from by decide]
        refine X.caload (pc' := 41) V_a ⟨by decide, by decide⟩ (v := (cs.getD 3 0)) (at_int (i := 3) (by omega)) d9_40 rfl ?_
        refine X.bipush (pc' := 43) (107 : Int32) d9_41 rfl rfl ?_
        by_cases h3 : cs.getD 3 0 = 107
        · refine X.icN (pc' := 46) d9_43 ((teq h3).2) rfl ?_
          refine X.aloadN (pc' := 47) d9_46 rfl rfl rfl ?_
          refine X.iloadN (pc' := 48) d9_47 rfl rfl ?_
          refine X.iconst (pc' := 49) (4 : Int32) d9_48 rfl rfl ?_
          refine X.iadd (pc' := 50) d9_49 rfl ?_
          rw [show (((0 : Int32) + (4 : Int32)) : Int32) = (4 : Int32) from by decide]
          refine X.caload (pc' := 51) V_a ⟨by decide, by decide⟩ (v := (cs.getD 4 0)) (at_int (i := 4) (by omega)) d9_50 rfl ?_
          refine X.bipush (pc' := 53) (101 : Int32) d9_51 rfl rfl ?_
          by_cases h4 : cs.getD 4 0 = 101
          · refine X.icN (pc' := 56) d9_53 ((teq h4).2) rfl ?_
            refine X.aloadN (pc' := 57) d9_56 rfl rfl rfl ?_
            refine X.iloadN (pc' := 58) d9_57 rfl rfl ?_
            refine X.iconst (pc' := 59) (5 : Int32) d9_58 rfl rfl ?_
            refine X.iadd (pc' := 60) d9_59 rfl ?_
            rw [show (((0 : Int32) + (5 : Int32)) : Int32) = (5 : Int32) from by decide]
            refine X.caload (pc' := 61) V_a ⟨by decide, by decide⟩ (v := (cs.getD 5 0)) (at_int (i := 5) (by omega)) d9_60 rfl ?_
            refine X.bipush (pc' := 63) (110 : Int32) d9_61 rfl rfl ?_
            by_cases h5 : cs.getD 5 0 = 110
            · refine X.icN (pc' := 66) d9_63 ((teq h5).2) rfl ?_
              refine X.aloadN (pc' := 67) d9_66 rfl rfl rfl ?_
              refine X.iloadN (pc' := 68) d9_67 rfl rfl ?_
              refine X.bipush (pc' := 70) (6 : Int32) d9_68 rfl rfl ?_
              refine X.iadd (pc' := 71) d9_70 rfl ?_
              rw [show (((0 : Int32) + (6 : Int32)) : Int32) = (6 : Int32) from by decide]
              refine X.caload (pc' := 72) V_a ⟨by decide, by decide⟩ (v := (cs.getD 6 0)) (at_int (i := 6) (by omega)) d9_71 rfl ?_
              refine X.bipush (pc' := 74) (58 : Int32) d9_72 rfl rfl ?_
              by_cases h6 : cs.getD 6 0 = 58
              · refine X.icN (pc' := 77) d9_74 ((teq h6).2) rfl ?_
                refine X.iconst (pc' := 78) (1 : Int32) d9_77 rfl rfl ?_
                refine X.goto (pc' := 82) d9_78 (by decide) (by decide) ?_
                exact X.retIN (by simp) rfl d9_82 (by decide) (by decide) ⟨_, rfl, rfl, 1, rfl, Or.inl ⟨rfl, mk_of (by decide) h0 h1 h2 h3 h4 h5 h6⟩⟩
              · refine X.icY (pc' := 81) d9_74 ((feq h6).2) (by decide) (by decide) ?_
                refine X.iconst (pc' := 82) (0 : Int32) d9_81 rfl rfl ?_
                exact X.retIN (by simp) rfl d9_82 (by decide) (by decide) ⟨_, rfl, rfl, 0, rfl, Or.inr ⟨rfl, fun q => h6 (q.2 6 (by decide))⟩⟩
            · refine X.icY (pc' := 81) d9_63 ((feq h5).2) (by decide) (by decide) ?_
              refine X.iconst (pc' := 82) (0 : Int32) d9_81 rfl rfl ?_
              exact X.retIN (by simp) rfl d9_82 (by decide) (by decide) ⟨_, rfl, rfl, 0, rfl, Or.inr ⟨rfl, fun q => h5 (q.2 5 (by decide))⟩⟩
          · refine X.icY (pc' := 81) d9_53 ((feq h4).2) (by decide) (by decide) ?_
            refine X.iconst (pc' := 82) (0 : Int32) d9_81 rfl rfl ?_
            exact X.retIN (by simp) rfl d9_82 (by decide) (by decide) ⟨_, rfl, rfl, 0, rfl, Or.inr ⟨rfl, fun q => h4 (q.2 4 (by decide))⟩⟩
        · refine X.icY (pc' := 81) d9_43 ((feq h3).2) (by decide) (by decide) ?_
          refine X.iconst (pc' := 82) (0 : Int32) d9_81 rfl rfl ?_
          exact X.retIN (by simp) rfl d9_82 (by decide) (by decide) ⟨_, rfl, rfl, 0, rfl, Or.inr ⟨rfl, fun q => h3 (q.2 3 (by decide))⟩⟩
      · refine X.icY (pc' := 81) d9_33 ((feq h2).2) (by decide) (by decide) ?_
        refine X.iconst (pc' := 82) (0 : Int32) d9_81 rfl rfl ?_
        exact X.retIN (by simp) rfl d9_82 (by decide) (by decide) ⟨_, rfl, rfl, 0, rfl, Or.inr ⟨rfl, fun q => h2 (q.2 2 (by decide))⟩⟩
    · refine X.icY (pc' := 81) d9_23 ((feq h1).2) (by decide) (by decide) ?_
      refine X.iconst (pc' := 82) (0 : Int32) d9_81 rfl rfl ?_
      exact X.retIN (by simp) rfl d9_82 (by decide) (by decide) ⟨_, rfl, rfl, 0, rfl, Or.inr ⟨rfl, fun q => h1 (q.2 1 (by decide))⟩⟩
  · refine X.icY (pc' := 81) d9_13 ((feq h0).2) (by decide) (by decide) ?_
    refine X.iconst (pc' := 82) (0 : Int32) d9_81 rfl rfl ?_
    exact X.retIN (by simp) rfl d9_82 (by decide) (by decide) ⟨_, rfl, rfl, 0, rfl, Or.inr ⟨rfl, fun q => h0 (q.2 0 (by decide))⟩⟩
set_option maxRecDepth 65536 in
set_option maxHeartbeats 40000000 in
theorem ef_rmAt_16_1 (m : MethodId) (a : Addr) : entryFrame m #[(.ref a), (.int (16 : Int32)), (.int (1 : Int32))] 3 = mkF m 0 #[.val (.ref a), .val (.int (16 : Int32)), .val (.int (1 : Int32))] [] := by first | (simp [entryFrame, mkF, argsToLocals, Value.category]; done) | (rfl)
set_option maxRecDepth 65536 in
set_option maxHeartbeats 40000000 in
theorem rmAt_16_1 (l : Launch) (Z : State) (a0 : Array Value) (hw : ∀ d ∈ tables_1, d.before a0 Z = true) (a : Addr) (h0 : Heap) (O : Ext Z.heap h0) (ka : ClassId) (cs : List Int32) (hl : cs.length = 16) (V_a : Arv Z h0 a ka .char 16 (cs.map Value.int) (.int 0)) :
    MN l Z (⟨"com/example/bounded_lock/boundedlock/LockLayoutWokenInstanceOfPinLaw", "at", "([CII)Z"⟩ : MethodName) method_5_code 3 (some .boolean) [] ({ frames := 0, cells := 0, slots := 0, locals := 0 } : Room) #[(.ref a), (.int (16 : Int32)), (.int (1 : Int32))] h0 [] (RP h0 (fun w => ∃ v : Int32, w = .int v ∧ ((v = 1 ∧ MarkN cs 16 1) ∨ (v = 0 ∧ ¬ MarkN cs 16 1)))) := by
  refine MN.mk (a0 := a0) rfl rfl (plainFor_of_name pn1) O (fun m => ef_rmAt_16_1 m a) ?_
  intro pg ev s m below meth cd T hh X
  subst hh
  refine X.iloadN (pc' := 1) d9_0 rfl rfl ?_
  refine X.bipush (pc' := 3) (7 : Int32) d9_1 rfl rfl ?_
  refine X.iadd (pc' := 4) d9_3 rfl ?_
  rw [show (((1 : Int32) + (7 : Int32)) : Int32) = (8 : Int32) from by decide]
  refine X.iloadN (pc' := 5) d9_4 rfl rfl ?_
  refine X.icN (pc' := 8) d9_5 (by decide) rfl ?_
  refine X.aloadN (pc' := 9) d9_8 rfl rfl rfl ?_
  refine X.iloadN (pc' := 10) d9_9 rfl rfl ?_
  refine X.caload (pc' := 11) V_a ⟨by decide, by decide⟩ (v := (cs.getD 1 0)) (at_int (i := 1) (by omega)) d9_10 rfl ?_
  refine X.bipush (pc' := 13) (32 : Int32) d9_11 rfl rfl ?_
  by_cases h0 : cs.getD 1 0 = 32
  · refine X.icN (pc' := 16) d9_13 ((teq h0).2) rfl ?_
    refine X.aloadN (pc' := 17) d9_16 rfl rfl rfl ?_
    refine X.iloadN (pc' := 18) d9_17 rfl rfl ?_
    refine X.iconst (pc' := 19) (1 : Int32) d9_18 rfl rfl ?_
    refine X.iadd (pc' := 20) d9_19 rfl ?_
    rw [show (((1 : Int32) + (1 : Int32)) : Int32) = (2 : Int32) from by decide]
    refine X.caload (pc' := 21) V_a ⟨by decide, by decide⟩ (v := (cs.getD 2 0)) (at_int (i := 2) (by omega)) d9_20 rfl ?_
    refine X.bipush (pc' := 23) (119 : Int32) d9_21 rfl rfl ?_
    by_cases h1 : cs.getD 2 0 = 119
    · refine X.icN (pc' := 26) d9_23 ((teq h1).2) rfl ?_
      refine X.aloadN (pc' := 27) d9_26 rfl rfl rfl ?_
      refine X.iloadN (pc' := 28) d9_27 rfl rfl ?_
      refine X.iconst (pc' := 29) (2 : Int32) d9_28 rfl rfl ?_
      refine X.iadd (pc' := 30) d9_29 rfl ?_
      rw [show (((1 : Int32) + (2 : Int32)) : Int32) = (3 : Int32) from by decide]
      refine X.caload (pc' := 31) V_a ⟨by decide, by decide⟩ (v := (cs.getD 3 0)) (at_int (i := 3) (by omega)) d9_30 rfl ?_
      refine X.bipush (pc' := 33) (111 : Int32) d9_31 rfl rfl ?_
      by_cases h2 : cs.getD 3 0 = 111
      · refine X.icN (pc' := 36) d9_33 ((teq h2).2) rfl ?_
        refine X.aloadN (pc' := 37) d9_36 rfl rfl rfl ?_
        refine X.iloadN (pc' := 38) d9_37 rfl rfl ?_
        refine X.iconst (pc' := 39) (3 : Int32) d9_38 rfl rfl ?_
        refine X.iadd (pc' := 40) d9_39 rfl ?_
        rw [show (((1 : Int32) + (3 : Int32)) : Int32) = (4 : Int32) from by decide]
        refine X.caload (pc' := 41) V_a ⟨by decide, by decide⟩ (v := (cs.getD 4 0)) (at_int (i := 4) (by omega)) d9_40 rfl ?_
        refine X.bipush (pc' := 43) (107 : Int32) d9_41 rfl rfl ?_
        by_cases h3 : cs.getD 4 0 = 107
        · refine X.icN (pc' := 46) d9_43 ((teq h3).2) rfl ?_
          refine X.aloadN (pc' := 47) d9_46 rfl rfl rfl ?_
          refine X.iloadN (pc' := 48) d9_47 rfl rfl ?_
          refine X.iconst (pc' := 49) (4 : Int32) d9_48 rfl rfl ?_
          refine X.iadd (pc' := 50) d9_49 rfl ?_
          rw [show (((1 : Int32) + (4 : Int32)) : Int32) = (5 : Int32) from by decide]
          refine X.caload (pc' := 51) V_a ⟨by decide, by decide⟩ (v := (cs.getD 5 0)) (at_int (i := 5) (by omega)) d9_50 rfl ?_
          refine X.bipush (pc' := 53) (101 : Int32) d9_51 rfl rfl ?_
          by_cases h4 : cs.getD 5 0 = 101
          · refine X.icN (pc' := 56) d9_53 ((teq h4).2) rfl ?_
            refine X.aloadN (pc' := 57) d9_56 rfl rfl rfl ?_
            refine X.iloadN (pc' := 58) d9_57 rfl rfl ?_
            refine X.iconst (pc' := 59) (5 : Int32) d9_58 rfl rfl ?_
            refine X.iadd (pc' := 60) d9_59 rfl ?_
            rw [show (((1 : Int32) + (5 : Int32)) : Int32) = (6 : Int32) from by decide]
            refine X.caload (pc' := 61) V_a ⟨by decide, by decide⟩ (v := (cs.getD 6 0)) (at_int (i := 6) (by omega)) d9_60 rfl ?_
            refine X.bipush (pc' := 63) (110 : Int32) d9_61 rfl rfl ?_
            by_cases h5 : cs.getD 6 0 = 110
            · refine X.icN (pc' := 66) d9_63 ((teq h5).2) rfl ?_
              refine X.aloadN (pc' := 67) d9_66 rfl rfl rfl ?_
              refine X.iloadN (pc' := 68) d9_67 rfl rfl ?_
              refine X.bipush (pc' := 70) (6 : Int32) d9_68 rfl rfl ?_
              refine X.iadd (pc' := 71) d9_70 rfl ?_
              rw [show (((1 : Int32) + (6 : Int32)) : Int32) = (7 : Int32) from by decide]
              refine X.caload (pc' := 72) V_a ⟨by decide, by decide⟩ (v := (cs.getD 7 0)) (at_int (i := 7) (by omega)) d9_71 rfl ?_
              refine X.bipush (pc' := 74) (58 : Int32) d9_72 rfl rfl ?_
              by_cases h6 : cs.getD 7 0 = 58
              · refine X.icN (pc' := 77) d9_74 ((teq h6).2) rfl ?_
                refine X.iconst (pc' := 78) (1 : Int32) d9_77 rfl rfl ?_
                refine X.goto (pc' := 82) d9_78 (by decide) (by decide) ?_
                exact X.retIN (by simp) rfl d9_82 (by decide) (by decide) ⟨_, rfl, rfl, 1, rfl, Or.inl ⟨rfl, mk_of (by decide) h0 h1 h2 h3 h4 h5 h6⟩⟩
              · refine X.icY (pc' := 81) d9_74 ((feq h6).2) (by decide) (by decide) ?_
                refine X.iconst (pc' := 82) (0 : Int32) d9_81 rfl rfl ?_
                exact X.retIN (by simp) rfl d9_82 (by decide) (by decide) ⟨_, rfl, rfl, 0, rfl, Or.inr ⟨rfl, fun q => h6 (q.2 6 (by decide))⟩⟩
            · refine X.icY (pc' := 81) d9_63 ((feq h5).2) (by decide) (by decide) ?_
              refine X.iconst (pc' := 82) (0 : Int32) d9_81 rfl rfl ?_
              exact X.retIN (by simp) rfl d9_82 (by decide) (by decide) ⟨_, rfl, rfl, 0, rfl, Or.inr ⟨rfl, fun q => h5 (q.2 5 (by decide))⟩⟩
          · refine X.icY (pc' := 81) d9_53 ((feq h4).2) (by decide) (by decide) ?_
            refine X.iconst (pc' := 82) (0 : Int32) d9_81 rfl rfl ?_
            exact X.retIN (by simp) rfl d9_82 (by decide) (by decide) ⟨_, rfl, rfl, 0, rfl, Or.inr ⟨rfl, fun q => h4 (q.2 4 (by decide))⟩⟩
        · refine X.icY (pc' := 81) d9_43 ((feq h3).2) (by decide) (by decide) ?_
          refine X.iconst (pc' := 82) (0 : Int32) d9_81 rfl rfl ?_
          exact X.retIN (by simp) rfl d9_82 (by decide) (by decide) ⟨_, rfl, rfl, 0, rfl, Or.inr ⟨rfl, fun q => h3 (q.2 3 (by decide))⟩⟩
      · refine X.icY (pc' := 81) d9_33 ((feq h2).2) (by decide) (by decide) ?_
        refine X.iconst (pc' := 82) (0 : Int32) d9_81 rfl rfl ?_
        exact X.retIN (by simp) rfl d9_82 (by decide) (by decide) ⟨_, rfl, rfl, 0, rfl, Or.inr ⟨rfl, fun q => h2 (q.2 2 (by decide))⟩⟩
    · refine X.icY (pc' := 81) d9_23 ((feq h1).2) (by decide) (by decide) ?_
      refine X.iconst (pc' := 82) (0 : Int32) d9_81 rfl rfl ?_
      exact X.retIN (by simp) rfl d9_82 (by decide) (by decide) ⟨_, rfl, rfl, 0, rfl, Or.inr ⟨rfl, fun q => h1 (q.2 1 (by decide))⟩⟩
  · refine X.icY (pc' := 81) d9_13 ((feq h0).2) (by decide) (by decide) ?_
    refine X.iconst (pc' := 82) (0 : Int32) d9_81 rfl rfl ?_
    exact X.retIN (by simp) rfl d9_82 (by decide) (by decide) ⟨_, rfl, rfl, 0, rfl, Or.inr ⟨rfl, fun q => h0 (q.2 0 (by decide))⟩⟩
set_option maxRecDepth 65536 in
set_option maxHeartbeats 40000000 in
theorem ef_rmAt_16_2 (m : MethodId) (a : Addr) : entryFrame m #[(.ref a), (.int (16 : Int32)), (.int (2 : Int32))] 3 = mkF m 0 #[.val (.ref a), .val (.int (16 : Int32)), .val (.int (2 : Int32))] [] := by first | (simp [entryFrame, mkF, argsToLocals, Value.category]; done) | (rfl)
set_option maxRecDepth 65536 in
set_option maxHeartbeats 40000000 in
theorem rmAt_16_2 (l : Launch) (Z : State) (a0 : Array Value) (hw : ∀ d ∈ tables_1, d.before a0 Z = true) (a : Addr) (h0 : Heap) (O : Ext Z.heap h0) (ka : ClassId) (cs : List Int32) (hl : cs.length = 16) (V_a : Arv Z h0 a ka .char 16 (cs.map Value.int) (.int 0)) :
    MN l Z (⟨"com/example/bounded_lock/boundedlock/LockLayoutWokenInstanceOfPinLaw", "at", "([CII)Z"⟩ : MethodName) method_5_code 3 (some .boolean) [] ({ frames := 0, cells := 0, slots := 0, locals := 0 } : Room) #[(.ref a), (.int (16 : Int32)), (.int (2 : Int32))] h0 [] (RP h0 (fun w => ∃ v : Int32, w = .int v ∧ ((v = 1 ∧ MarkN cs 16 2) ∨ (v = 0 ∧ ¬ MarkN cs 16 2)))) := by
  refine MN.mk (a0 := a0) rfl rfl (plainFor_of_name pn1) O (fun m => ef_rmAt_16_2 m a) ?_
  intro pg ev s m below meth cd T hh X
  subst hh
  refine X.iloadN (pc' := 1) d9_0 rfl rfl ?_
  refine X.bipush (pc' := 3) (7 : Int32) d9_1 rfl rfl ?_
  refine X.iadd (pc' := 4) d9_3 rfl ?_
  rw [show (((2 : Int32) + (7 : Int32)) : Int32) = (9 : Int32) from by decide]
  refine X.iloadN (pc' := 5) d9_4 rfl rfl ?_
  refine X.icN (pc' := 8) d9_5 (by decide) rfl ?_
  refine X.aloadN (pc' := 9) d9_8 rfl rfl rfl ?_
  refine X.iloadN (pc' := 10) d9_9 rfl rfl ?_
  refine X.caload (pc' := 11) V_a ⟨by decide, by decide⟩ (v := (cs.getD 2 0)) (at_int (i := 2) (by omega)) d9_10 rfl ?_
  refine X.bipush (pc' := 13) (32 : Int32) d9_11 rfl rfl ?_
  by_cases h0 : cs.getD 2 0 = 32
  · refine X.icN (pc' := 16) d9_13 ((teq h0).2) rfl ?_
    refine X.aloadN (pc' := 17) d9_16 rfl rfl rfl ?_
    refine X.iloadN (pc' := 18) d9_17 rfl rfl ?_
    refine X.iconst (pc' := 19) (1 : Int32) d9_18 rfl rfl ?_
    refine X.iadd (pc' := 20) d9_19 rfl ?_
    rw [show (((2 : Int32) + (1 : Int32)) : Int32) = (3 : Int32) from by decide]
    refine X.caload (pc' := 21) V_a ⟨by decide, by decide⟩ (v := (cs.getD 3 0)) (at_int (i := 3) (by omega)) d9_20 rfl ?_
    refine X.bipush (pc' := 23) (119 : Int32) d9_21 rfl rfl ?_
    by_cases h1 : cs.getD 3 0 = 119
    · refine X.icN (pc' := 26) d9_23 ((teq h1).2) rfl ?_
      refine X.aloadN (pc' := 27) d9_26 rfl rfl rfl ?_
      refine X.iloadN (pc' := 28) d9_27 rfl rfl ?_
      refine X.iconst (pc' := 29) (2 : Int32) d9_28 rfl rfl ?_
      refine X.iadd (pc' := 30) d9_29 rfl ?_
      rw [show (((2 : Int32) + (2 : Int32)) : Int32) = (4 : Int32) from by decide]
      refine X.caload (pc' := 31) V_a ⟨by decide, by decide⟩ (v := (cs.getD 4 0)) (at_int (i := 4) (by omega)) d9_30 rfl ?_
      refine X.bipush (pc' := 33) (111 : Int32) d9_31 rfl rfl ?_
      by_cases h2 : cs.getD 4 0 = 111
      · refine X.icN (pc' := 36) d9_33 ((teq h2).2) rfl ?_
        refine X.aloadN (pc' := 37) d9_36 rfl rfl rfl ?_
        refine X.iloadN (pc' := 38) d9_37 rfl rfl ?_
        refine X.iconst (pc' := 39) (3 : Int32) d9_38 rfl rfl ?_
        refine X.iadd (pc' := 40) d9_39 rfl ?_
        rw [show (((2 : Int32) + (3 : Int32)) : Int32) = (5 : Int32) from by decide]
        refine X.caload (pc' := 41) V_a ⟨by decide, by decide⟩ (v := (cs.getD 5 0)) (at_int (i := 5) (by omega)) d9_40 rfl ?_
        refine X.bipush (pc' := 43) (107 : Int32) d9_41 rfl rfl ?_
        by_cases h3 : cs.getD 5 0 = 107
        · refine X.icN (pc' := 46) d9_43 ((teq h3).2) rfl ?_
          refine X.aloadN (pc' := 47) d9_46 rfl rfl rfl ?_
          refine X.iloadN (pc' := 48) d9_47 rfl rfl ?_
          refine X.iconst (pc' := 49) (4 : Int32) d9_48 rfl rfl ?_
          refine X.iadd (pc' := 50) d9_49 rfl ?_
          rw [show (((2 : Int32) + (4 : Int32)) : Int32) = (6 : Int32) from by decide]
          refine X.caload (pc' := 51) V_a ⟨by decide, by decide⟩ (v := (cs.getD 6 0)) (at_int (i := 6) (by omega)) d9_50 rfl ?_
          refine X.bipush (pc' := 53) (101 : Int32) d9_51 rfl rfl ?_
          by_cases h4 : cs.getD 6 0 = 101
          · refine X.icN (pc' := 56) d9_53 ((teq h4).2) rfl ?_
            refine X.aloadN (pc' := 57) d9_56 rfl rfl rfl ?_
            refine X.iloadN (pc' := 58) d9_57 rfl rfl ?_
            refine X.iconst (pc' := 59) (5 : Int32) d9_58 rfl rfl ?_
            refine X.iadd (pc' := 60) d9_59 rfl ?_
            rw [show (((2 : Int32) + (5 : Int32)) : Int32) = (7 : Int32) from by decide]
            refine X.caload (pc' := 61) V_a ⟨by decide, by decide⟩ (v := (cs.getD 7 0)) (at_int (i := 7) (by omega)) d9_60 rfl ?_
            refine X.bipush (pc' := 63) (110 : Int32) d9_61 rfl rfl ?_
            by_cases h5 : cs.getD 7 0 = 110
            · refine X.icN (pc' := 66) d9_63 ((teq h5).2) rfl ?_
              refine X.aloadN (pc' := 67) d9_66 rfl rfl rfl ?_
              refine X.iloadN (pc' := 68) d9_67 rfl rfl ?_
              refine X.bipush (pc' := 70) (6 : Int32) d9_68 rfl rfl ?_
              refine X.iadd (pc' := 71) d9_70 rfl ?_
              rw [show (((2 : Int32) + (6 : Int32)) : Int32) = (8 : Int32) from by decide]
              refine X.caload (pc' := 72) V_a ⟨by decide, by decide⟩ (v := (cs.getD 8 0)) (at_int (i := 8) (by omega)) d9_71 rfl ?_
              refine X.bipush (pc' := 74) (58 : Int32) d9_72 rfl rfl ?_
              by_cases h6 : cs.getD 8 0 = 58
              · refine X.icN (pc' := 77) d9_74 ((teq h6).2) rfl ?_
                refine X.iconst (pc' := 78) (1 : Int32) d9_77 rfl rfl ?_
                refine X.goto (pc' := 82) d9_78 (by decide) (by decide) ?_
                exact X.retIN (by simp) rfl d9_82 (by decide) (by decide) ⟨_, rfl, rfl, 1, rfl, Or.inl ⟨rfl, mk_of (by decide) h0 h1 h2 h3 h4 h5 h6⟩⟩
              · refine X.icY (pc' := 81) d9_74 ((feq h6).2) (by decide) (by decide) ?_
                refine X.iconst (pc' := 82) (0 : Int32) d9_81 rfl rfl ?_
                exact X.retIN (by simp) rfl d9_82 (by decide) (by decide) ⟨_, rfl, rfl, 0, rfl, Or.inr ⟨rfl, fun q => h6 (q.2 6 (by decide))⟩⟩
            · refine X.icY (pc' := 81) d9_63 ((feq h5).2) (by decide) (by decide) ?_
              refine X.iconst (pc' := 82) (0 : Int32) d9_81 rfl rfl ?_
              exact X.retIN (by simp) rfl d9_82 (by decide) (by decide) ⟨_, rfl, rfl, 0, rfl, Or.inr ⟨rfl, fun q => h5 (q.2 5 (by decide))⟩⟩
          · refine X.icY (pc' := 81) d9_53 ((feq h4).2) (by decide) (by decide) ?_
            refine X.iconst (pc' := 82) (0 : Int32) d9_81 rfl rfl ?_
            exact X.retIN (by simp) rfl d9_82 (by decide) (by decide) ⟨_, rfl, rfl, 0, rfl, Or.inr ⟨rfl, fun q => h4 (q.2 4 (by decide))⟩⟩
        · refine X.icY (pc' := 81) d9_43 ((feq h3).2) (by decide) (by decide) ?_
          refine X.iconst (pc' := 82) (0 : Int32) d9_81 rfl rfl ?_
          exact X.retIN (by simp) rfl d9_82 (by decide) (by decide) ⟨_, rfl, rfl, 0, rfl, Or.inr ⟨rfl, fun q => h3 (q.2 3 (by decide))⟩⟩
      · refine X.icY (pc' := 81) d9_33 ((feq h2).2) (by decide) (by decide) ?_
        refine X.iconst (pc' := 82) (0 : Int32) d9_81 rfl rfl ?_
        exact X.retIN (by simp) rfl d9_82 (by decide) (by decide) ⟨_, rfl, rfl, 0, rfl, Or.inr ⟨rfl, fun q => h2 (q.2 2 (by decide))⟩⟩
    · refine X.icY (pc' := 81) d9_23 ((feq h1).2) (by decide) (by decide) ?_
      refine X.iconst (pc' := 82) (0 : Int32) d9_81 rfl rfl ?_
      exact X.retIN (by simp) rfl d9_82 (by decide) (by decide) ⟨_, rfl, rfl, 0, rfl, Or.inr ⟨rfl, fun q => h1 (q.2 1 (by decide))⟩⟩
  · refine X.icY (pc' := 81) d9_13 ((feq h0).2) (by decide) (by decide) ?_
    refine X.iconst (pc' := 82) (0 : Int32) d9_81 rfl rfl ?_
    exact X.retIN (by simp) rfl d9_82 (by decide) (by decide) ⟨_, rfl, rfl, 0, rfl, Or.inr ⟨rfl, fun q => h0 (q.2 0 (by decide))⟩⟩
set_option maxRecDepth 65536 in
set_option maxHeartbeats 40000000 in
theorem ef_rmAt_16_3 (m : MethodId) (a : Addr) : entryFrame m #[(.ref a), (.int (16 : Int32)), (.int (3 : Int32))] 3 = mkF m 0 #[.val (.ref a), .val (.int (16 : Int32)), .val (.int (3 : Int32))] [] := by first | (simp [entryFrame, mkF, argsToLocals, Value.category]; done) | (rfl)
set_option maxRecDepth 65536 in
set_option maxHeartbeats 40000000 in
theorem rmAt_16_3 (l : Launch) (Z : State) (a0 : Array Value) (hw : ∀ d ∈ tables_1, d.before a0 Z = true) (a : Addr) (h0 : Heap) (O : Ext Z.heap h0) (ka : ClassId) (cs : List Int32) (hl : cs.length = 16) (V_a : Arv Z h0 a ka .char 16 (cs.map Value.int) (.int 0)) :
    MN l Z (⟨"com/example/bounded_lock/boundedlock/LockLayoutWokenInstanceOfPinLaw", "at", "([CII)Z"⟩ : MethodName) method_5_code 3 (some .boolean) [] ({ frames := 0, cells := 0, slots := 0, locals := 0 } : Room) #[(.ref a), (.int (16 : Int32)), (.int (3 : Int32))] h0 [] (RP h0 (fun w => ∃ v : Int32, w = .int v ∧ ((v = 1 ∧ MarkN cs 16 3) ∨ (v = 0 ∧ ¬ MarkN cs 16 3)))) := by
  refine MN.mk (a0 := a0) rfl rfl (plainFor_of_name pn1) O (fun m => ef_rmAt_16_3 m a) ?_
  intro pg ev s m below meth cd T hh X
  subst hh
  refine X.iloadN (pc' := 1) d9_0 rfl rfl ?_
  refine X.bipush (pc' := 3) (7 : Int32) d9_1 rfl rfl ?_
  refine X.iadd (pc' := 4) d9_3 rfl ?_
  rw [show (((3 : Int32) + (7 : Int32)) : Int32) = (10 : Int32) from by decide]
  refine X.iloadN (pc' := 5) d9_4 rfl rfl ?_
  refine X.icN (pc' := 8) d9_5 (by decide) rfl ?_
  refine X.aloadN (pc' := 9) d9_8 rfl rfl rfl ?_
  refine X.iloadN (pc' := 10) d9_9 rfl rfl ?_
  refine X.caload (pc' := 11) V_a ⟨by decide, by decide⟩ (v := (cs.getD 3 0)) (at_int (i := 3) (by omega)) d9_10 rfl ?_
  refine X.bipush (pc' := 13) (32 : Int32) d9_11 rfl rfl ?_
  by_cases h0 : cs.getD 3 0 = 32
  · refine X.icN (pc' := 16) d9_13 ((teq h0).2) rfl ?_
    refine X.aloadN (pc' := 17) d9_16 rfl rfl rfl ?_
    refine X.iloadN (pc' := 18) d9_17 rfl rfl ?_
    refine X.iconst (pc' := 19) (1 : Int32) d9_18 rfl rfl ?_
    refine X.iadd (pc' := 20) d9_19 rfl ?_
    rw [show (((3 : Int32) + (1 : Int32)) : Int32) = (4 : Int32) from by decide]
    refine X.caload (pc' := 21) V_a ⟨by decide, by decide⟩ (v := (cs.getD 4 0)) (at_int (i := 4) (by omega)) d9_20 rfl ?_
    refine X.bipush (pc' := 23) (119 : Int32) d9_21 rfl rfl ?_
    by_cases h1 : cs.getD 4 0 = 119
    · refine X.icN (pc' := 26) d9_23 ((teq h1).2) rfl ?_
      refine X.aloadN (pc' := 27) d9_26 rfl rfl rfl ?_
      refine X.iloadN (pc' := 28) d9_27 rfl rfl ?_
      refine X.iconst (pc' := 29) (2 : Int32) d9_28 rfl rfl ?_
      refine X.iadd (pc' := 30) d9_29 rfl ?_
      rw [show (((3 : Int32) + (2 : Int32)) : Int32) = (5 : Int32) from by decide]
      refine X.caload (pc' := 31) V_a ⟨by decide, by decide⟩ (v := (cs.getD 5 0)) (at_int (i := 5) (by omega)) d9_30 rfl ?_
      refine X.bipush (pc' := 33) (111 : Int32) d9_31 rfl rfl ?_
      by_cases h2 : cs.getD 5 0 = 111
      · refine X.icN (pc' := 36) d9_33 ((teq h2).2) rfl ?_
        refine X.aloadN (pc' := 37) d9_36 rfl rfl rfl ?_
        refine X.iloadN (pc' := 38) d9_37 rfl rfl ?_
        refine X.iconst (pc' := 39) (3 : Int32) d9_38 rfl rfl ?_
        refine X.iadd (pc' := 40) d9_39 rfl ?_
        rw [show (((3 : Int32) + (3 : Int32)) : Int32) = (6 : Int32) from by decide]
        refine X.caload (pc' := 41) V_a ⟨by decide, by decide⟩ (v := (cs.getD 6 0)) (at_int (i := 6) (by omega)) d9_40 rfl ?_
        refine X.bipush (pc' := 43) (107 : Int32) d9_41 rfl rfl ?_
        by_cases h3 : cs.getD 6 0 = 107
        · refine X.icN (pc' := 46) d9_43 ((teq h3).2) rfl ?_
          refine X.aloadN (pc' := 47) d9_46 rfl rfl rfl ?_
          refine X.iloadN (pc' := 48) d9_47 rfl rfl ?_
          refine X.iconst (pc' := 49) (4 : Int32) d9_48 rfl rfl ?_
          refine X.iadd (pc' := 50) d9_49 rfl ?_
          rw [show (((3 : Int32) + (4 : Int32)) : Int32) = (7 : Int32) from by decide]
          refine X.caload (pc' := 51) V_a ⟨by decide, by decide⟩ (v := (cs.getD 7 0)) (at_int (i := 7) (by omega)) d9_50 rfl ?_
          refine X.bipush (pc' := 53) (101 : Int32) d9_51 rfl rfl ?_
          by_cases h4 : cs.getD 7 0 = 101
          · refine X.icN (pc' := 56) d9_53 ((teq h4).2) rfl ?_
            refine X.aloadN (pc' := 57) d9_56 rfl rfl rfl ?_
            refine X.iloadN (pc' := 58) d9_57 rfl rfl ?_
            refine X.iconst (pc' := 59) (5 : Int32) d9_58 rfl rfl ?_
            refine X.iadd (pc' := 60) d9_59 rfl ?_
            rw [show (((3 : Int32) + (5 : Int32)) : Int32) = (8 : Int32) from by decide]
            refine X.caload (pc' := 61) V_a ⟨by decide, by decide⟩ (v := (cs.getD 8 0)) (at_int (i := 8) (by omega)) d9_60 rfl ?_
            refine X.bipush (pc' := 63) (110 : Int32) d9_61 rfl rfl ?_
            by_cases h5 : cs.getD 8 0 = 110
            · refine X.icN (pc' := 66) d9_63 ((teq h5).2) rfl ?_
              refine X.aloadN (pc' := 67) d9_66 rfl rfl rfl ?_
              refine X.iloadN (pc' := 68) d9_67 rfl rfl ?_
              refine X.bipush (pc' := 70) (6 : Int32) d9_68 rfl rfl ?_
              refine X.iadd (pc' := 71) d9_70 rfl ?_
              rw [show (((3 : Int32) + (6 : Int32)) : Int32) = (9 : Int32) from by decide]
              refine X.caload (pc' := 72) V_a ⟨by decide, by decide⟩ (v := (cs.getD 9 0)) (at_int (i := 9) (by omega)) d9_71 rfl ?_
              refine X.bipush (pc' := 74) (58 : Int32) d9_72 rfl rfl ?_
              by_cases h6 : cs.getD 9 0 = 58
              · refine X.icN (pc' := 77) d9_74 ((teq h6).2) rfl ?_
                refine X.iconst (pc' := 78) (1 : Int32) d9_77 rfl rfl ?_
                refine X.goto (pc' := 82) d9_78 (by decide) (by decide) ?_
                exact X.retIN (by simp) rfl d9_82 (by decide) (by decide) ⟨_, rfl, rfl, 1, rfl, Or.inl ⟨rfl, mk_of (by decide) h0 h1 h2 h3 h4 h5 h6⟩⟩
              · refine X.icY (pc' := 81) d9_74 ((feq h6).2) (by decide) (by decide) ?_
                refine X.iconst (pc' := 82) (0 : Int32) d9_81 rfl rfl ?_
                exact X.retIN (by simp) rfl d9_82 (by decide) (by decide) ⟨_, rfl, rfl, 0, rfl, Or.inr ⟨rfl, fun q => h6 (q.2 6 (by decide))⟩⟩
            · refine X.icY (pc' := 81) d9_63 ((feq h5).2) (by decide) (by decide) ?_
              refine X.iconst (pc' := 82) (0 : Int32) d9_81 rfl rfl ?_
              exact X.retIN (by simp) rfl d9_82 (by decide) (by decide) ⟨_, rfl, rfl, 0, rfl, Or.inr ⟨rfl, fun q => h5 (q.2 5 (by decide))⟩⟩
          · refine X.icY (pc' := 81) d9_53 ((feq h4).2) (by decide) (by decide) ?_
            refine X.iconst (pc' := 82) (0 : Int32) d9_81 rfl rfl ?_
            exact X.retIN (by simp) rfl d9_82 (by decide) (by decide) ⟨_, rfl, rfl, 0, rfl, Or.inr ⟨rfl, fun q => h4 (q.2 4 (by decide))⟩⟩
        · refine X.icY (pc' := 81) d9_43 ((feq h3).2) (by decide) (by decide) ?_
          refine X.iconst (pc' := 82) (0 : Int32) d9_81 rfl rfl ?_
          exact X.retIN (by simp) rfl d9_82 (by decide) (by decide) ⟨_, rfl, rfl, 0, rfl, Or.inr ⟨rfl, fun q => h3 (q.2 3 (by decide))⟩⟩
      · refine X.icY (pc' := 81) d9_33 ((feq h2).2) (by decide) (by decide) ?_
        refine X.iconst (pc' := 82) (0 : Int32) d9_81 rfl rfl ?_
        exact X.retIN (by simp) rfl d9_82 (by decide) (by decide) ⟨_, rfl, rfl, 0, rfl, Or.inr ⟨rfl, fun q => h2 (q.2 2 (by decide))⟩⟩
    · refine X.icY (pc' := 81) d9_23 ((feq h1).2) (by decide) (by decide) ?_
      refine X.iconst (pc' := 82) (0 : Int32) d9_81 rfl rfl ?_
      exact X.retIN (by simp) rfl d9_82 (by decide) (by decide) ⟨_, rfl, rfl, 0, rfl, Or.inr ⟨rfl, fun q => h1 (q.2 1 (by decide))⟩⟩
  · refine X.icY (pc' := 81) d9_13 ((feq h0).2) (by decide) (by decide) ?_
    refine X.iconst (pc' := 82) (0 : Int32) d9_81 rfl rfl ?_
    exact X.retIN (by simp) rfl d9_82 (by decide) (by decide) ⟨_, rfl, rfl, 0, rfl, Or.inr ⟨rfl, fun q => h0 (q.2 0 (by decide))⟩⟩
set_option maxRecDepth 65536 in
set_option maxHeartbeats 40000000 in
theorem ef_rmAt_16_4 (m : MethodId) (a : Addr) : entryFrame m #[(.ref a), (.int (16 : Int32)), (.int (4 : Int32))] 3 = mkF m 0 #[.val (.ref a), .val (.int (16 : Int32)), .val (.int (4 : Int32))] [] := by first | (simp [entryFrame, mkF, argsToLocals, Value.category]; done) | (rfl)
set_option maxRecDepth 65536 in
set_option maxHeartbeats 40000000 in
theorem rmAt_16_4 (l : Launch) (Z : State) (a0 : Array Value) (hw : ∀ d ∈ tables_1, d.before a0 Z = true) (a : Addr) (h0 : Heap) (O : Ext Z.heap h0) (ka : ClassId) (cs : List Int32) (hl : cs.length = 16) (V_a : Arv Z h0 a ka .char 16 (cs.map Value.int) (.int 0)) :
    MN l Z (⟨"com/example/bounded_lock/boundedlock/LockLayoutWokenInstanceOfPinLaw", "at", "([CII)Z"⟩ : MethodName) method_5_code 3 (some .boolean) [] ({ frames := 0, cells := 0, slots := 0, locals := 0 } : Room) #[(.ref a), (.int (16 : Int32)), (.int (4 : Int32))] h0 [] (RP h0 (fun w => ∃ v : Int32, w = .int v ∧ ((v = 1 ∧ MarkN cs 16 4) ∨ (v = 0 ∧ ¬ MarkN cs 16 4)))) := by
  refine MN.mk (a0 := a0) rfl rfl (plainFor_of_name pn1) O (fun m => ef_rmAt_16_4 m a) ?_
  intro pg ev s m below meth cd T hh X
  subst hh
  refine X.iloadN (pc' := 1) d9_0 rfl rfl ?_
  refine X.bipush (pc' := 3) (7 : Int32) d9_1 rfl rfl ?_
  refine X.iadd (pc' := 4) d9_3 rfl ?_
  rw [show (((4 : Int32) + (7 : Int32)) : Int32) = (11 : Int32) from by decide]
  refine X.iloadN (pc' := 5) d9_4 rfl rfl ?_
  refine X.icN (pc' := 8) d9_5 (by decide) rfl ?_
  refine X.aloadN (pc' := 9) d9_8 rfl rfl rfl ?_
  refine X.iloadN (pc' := 10) d9_9 rfl rfl ?_
  refine X.caload (pc' := 11) V_a ⟨by decide, by decide⟩ (v := (cs.getD 4 0)) (at_int (i := 4) (by omega)) d9_10 rfl ?_
  refine X.bipush (pc' := 13) (32 : Int32) d9_11 rfl rfl ?_
  by_cases h0 : cs.getD 4 0 = 32
  · refine X.icN (pc' := 16) d9_13 ((teq h0).2) rfl ?_
    refine X.aloadN (pc' := 17) d9_16 rfl rfl rfl ?_
    refine X.iloadN (pc' := 18) d9_17 rfl rfl ?_
    refine X.iconst (pc' := 19) (1 : Int32) d9_18 rfl rfl ?_
    refine X.iadd (pc' := 20) d9_19 rfl ?_
    rw [show (((4 : Int32) + (1 : Int32)) : Int32) = (5 : Int32) from by decide]
    refine X.caload (pc' := 21) V_a ⟨by decide, by decide⟩ (v := (cs.getD 5 0)) (at_int (i := 5) (by omega)) d9_20 rfl ?_
    refine X.bipush (pc' := 23) (119 : Int32) d9_21 rfl rfl ?_
    by_cases h1 : cs.getD 5 0 = 119
    · refine X.icN (pc' := 26) d9_23 ((teq h1).2) rfl ?_
      refine X.aloadN (pc' := 27) d9_26 rfl rfl rfl ?_
      refine X.iloadN (pc' := 28) d9_27 rfl rfl ?_
      refine X.iconst (pc' := 29) (2 : Int32) d9_28 rfl rfl ?_
      refine X.iadd (pc' := 30) d9_29 rfl ?_
      rw [show (((4 : Int32) + (2 : Int32)) : Int32) = (6 : Int32) from by decide]
      refine X.caload (pc' := 31) V_a ⟨by decide, by decide⟩ (v := (cs.getD 6 0)) (at_int (i := 6) (by omega)) d9_30 rfl ?_
      refine X.bipush (pc' := 33) (111 : Int32) d9_31 rfl rfl ?_
      by_cases h2 : cs.getD 6 0 = 111
      · refine X.icN (pc' := 36) d9_33 ((teq h2).2) rfl ?_
        refine X.aloadN (pc' := 37) d9_36 rfl rfl rfl ?_
        refine X.iloadN (pc' := 38) d9_37 rfl rfl ?_
        refine X.iconst (pc' := 39) (3 : Int32) d9_38 rfl rfl ?_
        refine X.iadd (pc' := 40) d9_39 rfl ?_
        rw [show (((4 : Int32) + (3 : Int32)) : Int32) = (7 : Int32) from by decide]
        refine X.caload (pc' := 41) V_a ⟨by decide, by decide⟩ (v := (cs.getD 7 0)) (at_int (i := 7) (by omega)) d9_40 rfl ?_
        refine X.bipush (pc' := 43) (107 : Int32) d9_41 rfl rfl ?_
        by_cases h3 : cs.getD 7 0 = 107
        · refine X.icN (pc' := 46) d9_43 ((teq h3).2) rfl ?_
          refine X.aloadN (pc' := 47) d9_46 rfl rfl rfl ?_
          refine X.iloadN (pc' := 48) d9_47 rfl rfl ?_
          refine X.iconst (pc' := 49) (4 : Int32) d9_48 rfl rfl ?_
          refine X.iadd (pc' := 50) d9_49 rfl ?_
          rw [show (((4 : Int32) + (4 : Int32)) : Int32) = (8 : Int32) from by decide]
          refine X.caload (pc' := 51) V_a ⟨by decide, by decide⟩ (v := (cs.getD 8 0)) (at_int (i := 8) (by omega)) d9_50 rfl ?_
          refine X.bipush (pc' := 53) (101 : Int32) d9_51 rfl rfl ?_
          by_cases h4 : cs.getD 8 0 = 101
          · refine X.icN (pc' := 56) d9_53 ((teq h4).2) rfl ?_
            refine X.aloadN (pc' := 57) d9_56 rfl rfl rfl ?_
            refine X.iloadN (pc' := 58) d9_57 rfl rfl ?_
            refine X.iconst (pc' := 59) (5 : Int32) d9_58 rfl rfl ?_
            refine X.iadd (pc' := 60) d9_59 rfl ?_
            rw [show (((4 : Int32) + (5 : Int32)) : Int32) = (9 : Int32) from by decide]
            refine X.caload (pc' := 61) V_a ⟨by decide, by decide⟩ (v := (cs.getD 9 0)) (at_int (i := 9) (by omega)) d9_60 rfl ?_
            refine X.bipush (pc' := 63) (110 : Int32) d9_61 rfl rfl ?_
            by_cases h5 : cs.getD 9 0 = 110
            · refine X.icN (pc' := 66) d9_63 ((teq h5).2) rfl ?_
              refine X.aloadN (pc' := 67) d9_66 rfl rfl rfl ?_
              refine X.iloadN (pc' := 68) d9_67 rfl rfl ?_
              refine X.bipush (pc' := 70) (6 : Int32) d9_68 rfl rfl ?_
              refine X.iadd (pc' := 71) d9_70 rfl ?_
              rw [show (((4 : Int32) + (6 : Int32)) : Int32) = (10 : Int32) from by decide]
              refine X.caload (pc' := 72) V_a ⟨by decide, by decide⟩ (v := (cs.getD 10 0)) (at_int (i := 10) (by omega)) d9_71 rfl ?_
              refine X.bipush (pc' := 74) (58 : Int32) d9_72 rfl rfl ?_
              by_cases h6 : cs.getD 10 0 = 58
              · refine X.icN (pc' := 77) d9_74 ((teq h6).2) rfl ?_
                refine X.iconst (pc' := 78) (1 : Int32) d9_77 rfl rfl ?_
                refine X.goto (pc' := 82) d9_78 (by decide) (by decide) ?_
                exact X.retIN (by simp) rfl d9_82 (by decide) (by decide) ⟨_, rfl, rfl, 1, rfl, Or.inl ⟨rfl, mk_of (by decide) h0 h1 h2 h3 h4 h5 h6⟩⟩
              · refine X.icY (pc' := 81) d9_74 ((feq h6).2) (by decide) (by decide) ?_
                refine X.iconst (pc' := 82) (0 : Int32) d9_81 rfl rfl ?_
                exact X.retIN (by simp) rfl d9_82 (by decide) (by decide) ⟨_, rfl, rfl, 0, rfl, Or.inr ⟨rfl, fun q => h6 (q.2 6 (by decide))⟩⟩
            · refine X.icY (pc' := 81) d9_63 ((feq h5).2) (by decide) (by decide) ?_
              refine X.iconst (pc' := 82) (0 : Int32) d9_81 rfl rfl ?_
              exact X.retIN (by simp) rfl d9_82 (by decide) (by decide) ⟨_, rfl, rfl, 0, rfl, Or.inr ⟨rfl, fun q => h5 (q.2 5 (by decide))⟩⟩
          · refine X.icY (pc' := 81) d9_53 ((feq h4).2) (by decide) (by decide) ?_
            refine X.iconst (pc' := 82) (0 : Int32) d9_81 rfl rfl ?_
            exact X.retIN (by simp) rfl d9_82 (by decide) (by decide) ⟨_, rfl, rfl, 0, rfl, Or.inr ⟨rfl, fun q => h4 (q.2 4 (by decide))⟩⟩
        · refine X.icY (pc' := 81) d9_43 ((feq h3).2) (by decide) (by decide) ?_
          refine X.iconst (pc' := 82) (0 : Int32) d9_81 rfl rfl ?_
          exact X.retIN (by simp) rfl d9_82 (by decide) (by decide) ⟨_, rfl, rfl, 0, rfl, Or.inr ⟨rfl, fun q => h3 (q.2 3 (by decide))⟩⟩
      · refine X.icY (pc' := 81) d9_33 ((feq h2).2) (by decide) (by decide) ?_
        refine X.iconst (pc' := 82) (0 : Int32) d9_81 rfl rfl ?_
        exact X.retIN (by simp) rfl d9_82 (by decide) (by decide) ⟨_, rfl, rfl, 0, rfl, Or.inr ⟨rfl, fun q => h2 (q.2 2 (by decide))⟩⟩
    · refine X.icY (pc' := 81) d9_23 ((feq h1).2) (by decide) (by decide) ?_
      refine X.iconst (pc' := 82) (0 : Int32) d9_81 rfl rfl ?_
      exact X.retIN (by simp) rfl d9_82 (by decide) (by decide) ⟨_, rfl, rfl, 0, rfl, Or.inr ⟨rfl, fun q => h1 (q.2 1 (by decide))⟩⟩
  · refine X.icY (pc' := 81) d9_13 ((feq h0).2) (by decide) (by decide) ?_
    refine X.iconst (pc' := 82) (0 : Int32) d9_81 rfl rfl ?_
    exact X.retIN (by simp) rfl d9_82 (by decide) (by decide) ⟨_, rfl, rfl, 0, rfl, Or.inr ⟨rfl, fun q => h0 (q.2 0 (by decide))⟩⟩
set_option maxRecDepth 65536 in
set_option maxHeartbeats 40000000 in
theorem ef_rmAt_16_5 (m : MethodId) (a : Addr) : entryFrame m #[(.ref a), (.int (16 : Int32)), (.int (5 : Int32))] 3 = mkF m 0 #[.val (.ref a), .val (.int (16 : Int32)), .val (.int (5 : Int32))] [] := by first | (simp [entryFrame, mkF, argsToLocals, Value.category]; done) | (rfl)
set_option maxRecDepth 65536 in
set_option maxHeartbeats 40000000 in
theorem rmAt_16_5 (l : Launch) (Z : State) (a0 : Array Value) (hw : ∀ d ∈ tables_1, d.before a0 Z = true) (a : Addr) (h0 : Heap) (O : Ext Z.heap h0) (ka : ClassId) (cs : List Int32) (hl : cs.length = 16) (V_a : Arv Z h0 a ka .char 16 (cs.map Value.int) (.int 0)) :
    MN l Z (⟨"com/example/bounded_lock/boundedlock/LockLayoutWokenInstanceOfPinLaw", "at", "([CII)Z"⟩ : MethodName) method_5_code 3 (some .boolean) [] ({ frames := 0, cells := 0, slots := 0, locals := 0 } : Room) #[(.ref a), (.int (16 : Int32)), (.int (5 : Int32))] h0 [] (RP h0 (fun w => ∃ v : Int32, w = .int v ∧ ((v = 1 ∧ MarkN cs 16 5) ∨ (v = 0 ∧ ¬ MarkN cs 16 5)))) := by
  refine MN.mk (a0 := a0) rfl rfl (plainFor_of_name pn1) O (fun m => ef_rmAt_16_5 m a) ?_
  intro pg ev s m below meth cd T hh X
  subst hh
  refine X.iloadN (pc' := 1) d9_0 rfl rfl ?_
  refine X.bipush (pc' := 3) (7 : Int32) d9_1 rfl rfl ?_
  refine X.iadd (pc' := 4) d9_3 rfl ?_
  rw [show (((5 : Int32) + (7 : Int32)) : Int32) = (12 : Int32) from by decide]
  refine X.iloadN (pc' := 5) d9_4 rfl rfl ?_
  refine X.icN (pc' := 8) d9_5 (by decide) rfl ?_
  refine X.aloadN (pc' := 9) d9_8 rfl rfl rfl ?_
  refine X.iloadN (pc' := 10) d9_9 rfl rfl ?_
  refine X.caload (pc' := 11) V_a ⟨by decide, by decide⟩ (v := (cs.getD 5 0)) (at_int (i := 5) (by omega)) d9_10 rfl ?_
  refine X.bipush (pc' := 13) (32 : Int32) d9_11 rfl rfl ?_
  by_cases h0 : cs.getD 5 0 = 32
  · refine X.icN (pc' := 16) d9_13 ((teq h0).2) rfl ?_
    refine X.aloadN (pc' := 17) d9_16 rfl rfl rfl ?_
    refine X.iloadN (pc' := 18) d9_17 rfl rfl ?_
    refine X.iconst (pc' := 19) (1 : Int32) d9_18 rfl rfl ?_
    refine X.iadd (pc' := 20) d9_19 rfl ?_
    rw [show (((5 : Int32) + (1 : Int32)) : Int32) = (6 : Int32) from by decide]
    refine X.caload (pc' := 21) V_a ⟨by decide, by decide⟩ (v := (cs.getD 6 0)) (at_int (i := 6) (by omega)) d9_20 rfl ?_
    refine X.bipush (pc' := 23) (119 : Int32) d9_21 rfl rfl ?_
    by_cases h1 : cs.getD 6 0 = 119
    · refine X.icN (pc' := 26) d9_23 ((teq h1).2) rfl ?_
      refine X.aloadN (pc' := 27) d9_26 rfl rfl rfl ?_
      refine X.iloadN (pc' := 28) d9_27 rfl rfl ?_
      refine X.iconst (pc' := 29) (2 : Int32) d9_28 rfl rfl ?_
      refine X.iadd (pc' := 30) d9_29 rfl ?_
      rw [show (((5 : Int32) + (2 : Int32)) : Int32) = (7 : Int32) from by decide]
      refine X.caload (pc' := 31) V_a ⟨by decide, by decide⟩ (v := (cs.getD 7 0)) (at_int (i := 7) (by omega)) d9_30 rfl ?_
      refine X.bipush (pc' := 33) (111 : Int32) d9_31 rfl rfl ?_
      by_cases h2 : cs.getD 7 0 = 111
      · refine X.icN (pc' := 36) d9_33 ((teq h2).2) rfl ?_
        refine X.aloadN (pc' := 37) d9_36 rfl rfl rfl ?_
        refine X.iloadN (pc' := 38) d9_37 rfl rfl ?_
        refine X.iconst (pc' := 39) (3 : Int32) d9_38 rfl rfl ?_
        refine X.iadd (pc' := 40) d9_39 rfl ?_
        rw [show (((5 : Int32) + (3 : Int32)) : Int32) = (8 : Int32) from by decide]
        refine X.caload (pc' := 41) V_a ⟨by decide, by decide⟩ (v := (cs.getD 8 0)) (at_int (i := 8) (by omega)) d9_40 rfl ?_
        refine X.bipush (pc' := 43) (107 : Int32) d9_41 rfl rfl ?_
        by_cases h3 : cs.getD 8 0 = 107
        · refine X.icN (pc' := 46) d9_43 ((teq h3).2) rfl ?_
          refine X.aloadN (pc' := 47) d9_46 rfl rfl rfl ?_
          refine X.iloadN (pc' := 48) d9_47 rfl rfl ?_
          refine X.iconst (pc' := 49) (4 : Int32) d9_48 rfl rfl ?_
          refine X.iadd (pc' := 50) d9_49 rfl ?_
          rw [show (((5 : Int32) + (4 : Int32)) : Int32) = (9 : Int32) from by decide]
          refine X.caload (pc' := 51) V_a ⟨by decide, by decide⟩ (v := (cs.getD 9 0)) (at_int (i := 9) (by omega)) d9_50 rfl ?_
          refine X.bipush (pc' := 53) (101 : Int32) d9_51 rfl rfl ?_
          by_cases h4 : cs.getD 9 0 = 101
          · refine X.icN (pc' := 56) d9_53 ((teq h4).2) rfl ?_
            refine X.aloadN (pc' := 57) d9_56 rfl rfl rfl ?_
            refine X.iloadN (pc' := 58) d9_57 rfl rfl ?_
            refine X.iconst (pc' := 59) (5 : Int32) d9_58 rfl rfl ?_
            refine X.iadd (pc' := 60) d9_59 rfl ?_
            rw [show (((5 : Int32) + (5 : Int32)) : Int32) = (10 : Int32) from by decide]
            refine X.caload (pc' := 61) V_a ⟨by decide, by decide⟩ (v := (cs.getD 10 0)) (at_int (i := 10) (by omega)) d9_60 rfl ?_
            refine X.bipush (pc' := 63) (110 : Int32) d9_61 rfl rfl ?_
            by_cases h5 : cs.getD 10 0 = 110
            · refine X.icN (pc' := 66) d9_63 ((teq h5).2) rfl ?_
              refine X.aloadN (pc' := 67) d9_66 rfl rfl rfl ?_
              refine X.iloadN (pc' := 68) d9_67 rfl rfl ?_
              refine X.bipush (pc' := 70) (6 : Int32) d9_68 rfl rfl ?_
              refine X.iadd (pc' := 71) d9_70 rfl ?_
              rw [show (((5 : Int32) + (6 : Int32)) : Int32) = (11 : Int32) from by decide]
              refine X.caload (pc' := 72) V_a ⟨by decide, by decide⟩ (v := (cs.getD 11 0)) (at_int (i := 11) (by omega)) d9_71 rfl ?_
              refine X.bipush (pc' := 74) (58 : Int32) d9_72 rfl rfl ?_
              by_cases h6 : cs.getD 11 0 = 58
              · refine X.icN (pc' := 77) d9_74 ((teq h6).2) rfl ?_
                refine X.iconst (pc' := 78) (1 : Int32) d9_77 rfl rfl ?_
                refine X.goto (pc' := 82) d9_78 (by decide) (by decide) ?_
                exact X.retIN (by simp) rfl d9_82 (by decide) (by decide) ⟨_, rfl, rfl, 1, rfl, Or.inl ⟨rfl, mk_of (by decide) h0 h1 h2 h3 h4 h5 h6⟩⟩
              · refine X.icY (pc' := 81) d9_74 ((feq h6).2) (by decide) (by decide) ?_
                refine X.iconst (pc' := 82) (0 : Int32) d9_81 rfl rfl ?_
                exact X.retIN (by simp) rfl d9_82 (by decide) (by decide) ⟨_, rfl, rfl, 0, rfl, Or.inr ⟨rfl, fun q => h6 (q.2 6 (by decide))⟩⟩
            · refine X.icY (pc' := 81) d9_63 ((feq h5).2) (by decide) (by decide) ?_
              refine X.iconst (pc' := 82) (0 : Int32) d9_81 rfl rfl ?_
              exact X.retIN (by simp) rfl d9_82 (by decide) (by decide) ⟨_, rfl, rfl, 0, rfl, Or.inr ⟨rfl, fun q => h5 (q.2 5 (by decide))⟩⟩
          · refine X.icY (pc' := 81) d9_53 ((feq h4).2) (by decide) (by decide) ?_
            refine X.iconst (pc' := 82) (0 : Int32) d9_81 rfl rfl ?_
            exact X.retIN (by simp) rfl d9_82 (by decide) (by decide) ⟨_, rfl, rfl, 0, rfl, Or.inr ⟨rfl, fun q => h4 (q.2 4 (by decide))⟩⟩
        · refine X.icY (pc' := 81) d9_43 ((feq h3).2) (by decide) (by decide) ?_
          refine X.iconst (pc' := 82) (0 : Int32) d9_81 rfl rfl ?_
          exact X.retIN (by simp) rfl d9_82 (by decide) (by decide) ⟨_, rfl, rfl, 0, rfl, Or.inr ⟨rfl, fun q => h3 (q.2 3 (by decide))⟩⟩
      · refine X.icY (pc' := 81) d9_33 ((feq h2).2) (by decide) (by decide) ?_
        refine X.iconst (pc' := 82) (0 : Int32) d9_81 rfl rfl ?_
        exact X.retIN (by simp) rfl d9_82 (by decide) (by decide) ⟨_, rfl, rfl, 0, rfl, Or.inr ⟨rfl, fun q => h2 (q.2 2 (by decide))⟩⟩
    · refine X.icY (pc' := 81) d9_23 ((feq h1).2) (by decide) (by decide) ?_
      refine X.iconst (pc' := 82) (0 : Int32) d9_81 rfl rfl ?_
      exact X.retIN (by simp) rfl d9_82 (by decide) (by decide) ⟨_, rfl, rfl, 0, rfl, Or.inr ⟨rfl, fun q => h1 (q.2 1 (by decide))⟩⟩
  · refine X.icY (pc' := 81) d9_13 ((feq h0).2) (by decide) (by decide) ?_
    refine X.iconst (pc' := 82) (0 : Int32) d9_81 rfl rfl ?_
    exact X.retIN (by simp) rfl d9_82 (by decide) (by decide) ⟨_, rfl, rfl, 0, rfl, Or.inr ⟨rfl, fun q => h0 (q.2 0 (by decide))⟩⟩
set_option maxRecDepth 65536 in
set_option maxHeartbeats 40000000 in
theorem ef_rmAt_16_6 (m : MethodId) (a : Addr) : entryFrame m #[(.ref a), (.int (16 : Int32)), (.int (6 : Int32))] 3 = mkF m 0 #[.val (.ref a), .val (.int (16 : Int32)), .val (.int (6 : Int32))] [] := by first | (simp [entryFrame, mkF, argsToLocals, Value.category]; done) | (rfl)
set_option maxRecDepth 65536 in
set_option maxHeartbeats 40000000 in
theorem rmAt_16_6 (l : Launch) (Z : State) (a0 : Array Value) (hw : ∀ d ∈ tables_1, d.before a0 Z = true) (a : Addr) (h0 : Heap) (O : Ext Z.heap h0) (ka : ClassId) (cs : List Int32) (hl : cs.length = 16) (V_a : Arv Z h0 a ka .char 16 (cs.map Value.int) (.int 0)) :
    MN l Z (⟨"com/example/bounded_lock/boundedlock/LockLayoutWokenInstanceOfPinLaw", "at", "([CII)Z"⟩ : MethodName) method_5_code 3 (some .boolean) [] ({ frames := 0, cells := 0, slots := 0, locals := 0 } : Room) #[(.ref a), (.int (16 : Int32)), (.int (6 : Int32))] h0 [] (RP h0 (fun w => ∃ v : Int32, w = .int v ∧ ((v = 1 ∧ MarkN cs 16 6) ∨ (v = 0 ∧ ¬ MarkN cs 16 6)))) := by
  refine MN.mk (a0 := a0) rfl rfl (plainFor_of_name pn1) O (fun m => ef_rmAt_16_6 m a) ?_
  intro pg ev s m below meth cd T hh X
  subst hh
  refine X.iloadN (pc' := 1) d9_0 rfl rfl ?_
  refine X.bipush (pc' := 3) (7 : Int32) d9_1 rfl rfl ?_
  refine X.iadd (pc' := 4) d9_3 rfl ?_
  rw [show (((6 : Int32) + (7 : Int32)) : Int32) = (13 : Int32) from by decide]
  refine X.iloadN (pc' := 5) d9_4 rfl rfl ?_
  refine X.icN (pc' := 8) d9_5 (by decide) rfl ?_
  refine X.aloadN (pc' := 9) d9_8 rfl rfl rfl ?_
  refine X.iloadN (pc' := 10) d9_9 rfl rfl ?_
  refine X.caload (pc' := 11) V_a ⟨by decide, by decide⟩ (v := (cs.getD 6 0)) (at_int (i := 6) (by omega)) d9_10 rfl ?_
  refine X.bipush (pc' := 13) (32 : Int32) d9_11 rfl rfl ?_
  by_cases h0 : cs.getD 6 0 = 32
  · refine X.icN (pc' := 16) d9_13 ((teq h0).2) rfl ?_
    refine X.aloadN (pc' := 17) d9_16 rfl rfl rfl ?_
    refine X.iloadN (pc' := 18) d9_17 rfl rfl ?_
    refine X.iconst (pc' := 19) (1 : Int32) d9_18 rfl rfl ?_
    refine X.iadd (pc' := 20) d9_19 rfl ?_
    rw [show (((6 : Int32) + (1 : Int32)) : Int32) = (7 : Int32) from by decide]
    refine X.caload (pc' := 21) V_a ⟨by decide, by decide⟩ (v := (cs.getD 7 0)) (at_int (i := 7) (by omega)) d9_20 rfl ?_
    refine X.bipush (pc' := 23) (119 : Int32) d9_21 rfl rfl ?_
    by_cases h1 : cs.getD 7 0 = 119
    · refine X.icN (pc' := 26) d9_23 ((teq h1).2) rfl ?_
      refine X.aloadN (pc' := 27) d9_26 rfl rfl rfl ?_
      refine X.iloadN (pc' := 28) d9_27 rfl rfl ?_
      refine X.iconst (pc' := 29) (2 : Int32) d9_28 rfl rfl ?_
      refine X.iadd (pc' := 30) d9_29 rfl ?_
      rw [show (((6 : Int32) + (2 : Int32)) : Int32) = (8 : Int32) from by decide]
      refine X.caload (pc' := 31) V_a ⟨by decide, by decide⟩ (v := (cs.getD 8 0)) (at_int (i := 8) (by omega)) d9_30 rfl ?_
      refine X.bipush (pc' := 33) (111 : Int32) d9_31 rfl rfl ?_
      by_cases h2 : cs.getD 8 0 = 111
      · refine X.icN (pc' := 36) d9_33 ((teq h2).2) rfl ?_
        refine X.aloadN (pc' := 37) d9_36 rfl rfl rfl ?_
        refine X.iloadN (pc' := 38) d9_37 rfl rfl ?_
        refine X.iconst (pc' := 39) (3 : Int32) d9_38 rfl rfl ?_
        refine X.iadd (pc' := 40) d9_39 rfl ?_
        rw [show (((6 : Int32) + (3 : Int32)) : Int32) = (9 : Int32) from by decide]
        refine X.caload (pc' := 41) V_a ⟨by decide, by decide⟩ (v := (cs.getD 9 0)) (at_int (i := 9) (by omega)) d9_40 rfl ?_
        refine X.bipush (pc' := 43) (107 : Int32) d9_41 rfl rfl ?_
        by_cases h3 : cs.getD 9 0 = 107
        · refine X.icN (pc' := 46) d9_43 ((teq h3).2) rfl ?_
          refine X.aloadN (pc' := 47) d9_46 rfl rfl rfl ?_
          refine X.iloadN (pc' := 48) d9_47 rfl rfl ?_
          refine X.iconst (pc' := 49) (4 : Int32) d9_48 rfl rfl ?_
          refine X.iadd (pc' := 50) d9_49 rfl ?_
          rw [show (((6 : Int32) + (4 : Int32)) : Int32) = (10 : Int32) from by decide]
          refine X.caload (pc' := 51) V_a ⟨by decide, by decide⟩ (v := (cs.getD 10 0)) (at_int (i := 10) (by omega)) d9_50 rfl ?_
          refine X.bipush (pc' := 53) (101 : Int32) d9_51 rfl rfl ?_
          by_cases h4 : cs.getD 10 0 = 101
          · refine X.icN (pc' := 56) d9_53 ((teq h4).2) rfl ?_
            refine X.aloadN (pc' := 57) d9_56 rfl rfl rfl ?_
            refine X.iloadN (pc' := 58) d9_57 rfl rfl ?_
            refine X.iconst (pc' := 59) (5 : Int32) d9_58 rfl rfl ?_
            refine X.iadd (pc' := 60) d9_59 rfl ?_
            rw [show (((6 : Int32) + (5 : Int32)) : Int32) = (11 : Int32) from by decide]
            refine X.caload (pc' := 61) V_a ⟨by decide, by decide⟩ (v := (cs.getD 11 0)) (at_int (i := 11) (by omega)) d9_60 rfl ?_
            refine X.bipush (pc' := 63) (110 : Int32) d9_61 rfl rfl ?_
            by_cases h5 : cs.getD 11 0 = 110
            · refine X.icN (pc' := 66) d9_63 ((teq h5).2) rfl ?_
              refine X.aloadN (pc' := 67) d9_66 rfl rfl rfl ?_
              refine X.iloadN (pc' := 68) d9_67 rfl rfl ?_
              refine X.bipush (pc' := 70) (6 : Int32) d9_68 rfl rfl ?_
              refine X.iadd (pc' := 71) d9_70 rfl ?_
              rw [show (((6 : Int32) + (6 : Int32)) : Int32) = (12 : Int32) from by decide]
              refine X.caload (pc' := 72) V_a ⟨by decide, by decide⟩ (v := (cs.getD 12 0)) (at_int (i := 12) (by omega)) d9_71 rfl ?_
              refine X.bipush (pc' := 74) (58 : Int32) d9_72 rfl rfl ?_
              by_cases h6 : cs.getD 12 0 = 58
              · refine X.icN (pc' := 77) d9_74 ((teq h6).2) rfl ?_
                refine X.iconst (pc' := 78) (1 : Int32) d9_77 rfl rfl ?_
                refine X.goto (pc' := 82) d9_78 (by decide) (by decide) ?_
                exact X.retIN (by simp) rfl d9_82 (by decide) (by decide) ⟨_, rfl, rfl, 1, rfl, Or.inl ⟨rfl, mk_of (by decide) h0 h1 h2 h3 h4 h5 h6⟩⟩
              · refine X.icY (pc' := 81) d9_74 ((feq h6).2) (by decide) (by decide) ?_
                refine X.iconst (pc' := 82) (0 : Int32) d9_81 rfl rfl ?_
                exact X.retIN (by simp) rfl d9_82 (by decide) (by decide) ⟨_, rfl, rfl, 0, rfl, Or.inr ⟨rfl, fun q => h6 (q.2 6 (by decide))⟩⟩
            · refine X.icY (pc' := 81) d9_63 ((feq h5).2) (by decide) (by decide) ?_
              refine X.iconst (pc' := 82) (0 : Int32) d9_81 rfl rfl ?_
              exact X.retIN (by simp) rfl d9_82 (by decide) (by decide) ⟨_, rfl, rfl, 0, rfl, Or.inr ⟨rfl, fun q => h5 (q.2 5 (by decide))⟩⟩
          · refine X.icY (pc' := 81) d9_53 ((feq h4).2) (by decide) (by decide) ?_
            refine X.iconst (pc' := 82) (0 : Int32) d9_81 rfl rfl ?_
            exact X.retIN (by simp) rfl d9_82 (by decide) (by decide) ⟨_, rfl, rfl, 0, rfl, Or.inr ⟨rfl, fun q => h4 (q.2 4 (by decide))⟩⟩
        · refine X.icY (pc' := 81) d9_43 ((feq h3).2) (by decide) (by decide) ?_
          refine X.iconst (pc' := 82) (0 : Int32) d9_81 rfl rfl ?_
          exact X.retIN (by simp) rfl d9_82 (by decide) (by decide) ⟨_, rfl, rfl, 0, rfl, Or.inr ⟨rfl, fun q => h3 (q.2 3 (by decide))⟩⟩
      · refine X.icY (pc' := 81) d9_33 ((feq h2).2) (by decide) (by decide) ?_
        refine X.iconst (pc' := 82) (0 : Int32) d9_81 rfl rfl ?_
        exact X.retIN (by simp) rfl d9_82 (by decide) (by decide) ⟨_, rfl, rfl, 0, rfl, Or.inr ⟨rfl, fun q => h2 (q.2 2 (by decide))⟩⟩
    · refine X.icY (pc' := 81) d9_23 ((feq h1).2) (by decide) (by decide) ?_
      refine X.iconst (pc' := 82) (0 : Int32) d9_81 rfl rfl ?_
      exact X.retIN (by simp) rfl d9_82 (by decide) (by decide) ⟨_, rfl, rfl, 0, rfl, Or.inr ⟨rfl, fun q => h1 (q.2 1 (by decide))⟩⟩
  · refine X.icY (pc' := 81) d9_13 ((feq h0).2) (by decide) (by decide) ?_
    refine X.iconst (pc' := 82) (0 : Int32) d9_81 rfl rfl ?_
    exact X.retIN (by simp) rfl d9_82 (by decide) (by decide) ⟨_, rfl, rfl, 0, rfl, Or.inr ⟨rfl, fun q => h0 (q.2 0 (by decide))⟩⟩
set_option maxRecDepth 65536 in
set_option maxHeartbeats 40000000 in
theorem ef_rmAt_16_7 (m : MethodId) (a : Addr) : entryFrame m #[(.ref a), (.int (16 : Int32)), (.int (7 : Int32))] 3 = mkF m 0 #[.val (.ref a), .val (.int (16 : Int32)), .val (.int (7 : Int32))] [] := by first | (simp [entryFrame, mkF, argsToLocals, Value.category]; done) | (rfl)
set_option maxRecDepth 65536 in
set_option maxHeartbeats 40000000 in
theorem rmAt_16_7 (l : Launch) (Z : State) (a0 : Array Value) (hw : ∀ d ∈ tables_1, d.before a0 Z = true) (a : Addr) (h0 : Heap) (O : Ext Z.heap h0) (ka : ClassId) (cs : List Int32) (hl : cs.length = 16) (V_a : Arv Z h0 a ka .char 16 (cs.map Value.int) (.int 0)) :
    MN l Z (⟨"com/example/bounded_lock/boundedlock/LockLayoutWokenInstanceOfPinLaw", "at", "([CII)Z"⟩ : MethodName) method_5_code 3 (some .boolean) [] ({ frames := 0, cells := 0, slots := 0, locals := 0 } : Room) #[(.ref a), (.int (16 : Int32)), (.int (7 : Int32))] h0 [] (RP h0 (fun w => ∃ v : Int32, w = .int v ∧ ((v = 1 ∧ MarkN cs 16 7) ∨ (v = 0 ∧ ¬ MarkN cs 16 7)))) := by
  refine MN.mk (a0 := a0) rfl rfl (plainFor_of_name pn1) O (fun m => ef_rmAt_16_7 m a) ?_
  intro pg ev s m below meth cd T hh X
  subst hh
  refine X.iloadN (pc' := 1) d9_0 rfl rfl ?_
  refine X.bipush (pc' := 3) (7 : Int32) d9_1 rfl rfl ?_
  refine X.iadd (pc' := 4) d9_3 rfl ?_
  rw [show (((7 : Int32) + (7 : Int32)) : Int32) = (14 : Int32) from by decide]
  refine X.iloadN (pc' := 5) d9_4 rfl rfl ?_
  refine X.icN (pc' := 8) d9_5 (by decide) rfl ?_
  refine X.aloadN (pc' := 9) d9_8 rfl rfl rfl ?_
  refine X.iloadN (pc' := 10) d9_9 rfl rfl ?_
  refine X.caload (pc' := 11) V_a ⟨by decide, by decide⟩ (v := (cs.getD 7 0)) (at_int (i := 7) (by omega)) d9_10 rfl ?_
  refine X.bipush (pc' := 13) (32 : Int32) d9_11 rfl rfl ?_
  by_cases h0 : cs.getD 7 0 = 32
  · refine X.icN (pc' := 16) d9_13 ((teq h0).2) rfl ?_
    refine X.aloadN (pc' := 17) d9_16 rfl rfl rfl ?_
    refine X.iloadN (pc' := 18) d9_17 rfl rfl ?_
    refine X.iconst (pc' := 19) (1 : Int32) d9_18 rfl rfl ?_
    refine X.iadd (pc' := 20) d9_19 rfl ?_
    rw [show (((7 : Int32) + (1 : Int32)) : Int32) = (8 : Int32) from by decide]
    refine X.caload (pc' := 21) V_a ⟨by decide, by decide⟩ (v := (cs.getD 8 0)) (at_int (i := 8) (by omega)) d9_20 rfl ?_
    refine X.bipush (pc' := 23) (119 : Int32) d9_21 rfl rfl ?_
    by_cases h1 : cs.getD 8 0 = 119
    · refine X.icN (pc' := 26) d9_23 ((teq h1).2) rfl ?_
      refine X.aloadN (pc' := 27) d9_26 rfl rfl rfl ?_
      refine X.iloadN (pc' := 28) d9_27 rfl rfl ?_
      refine X.iconst (pc' := 29) (2 : Int32) d9_28 rfl rfl ?_
      refine X.iadd (pc' := 30) d9_29 rfl ?_
      rw [show (((7 : Int32) + (2 : Int32)) : Int32) = (9 : Int32) from by decide]
      refine X.caload (pc' := 31) V_a ⟨by decide, by decide⟩ (v := (cs.getD 9 0)) (at_int (i := 9) (by omega)) d9_30 rfl ?_
      refine X.bipush (pc' := 33) (111 : Int32) d9_31 rfl rfl ?_
      by_cases h2 : cs.getD 9 0 = 111
      · refine X.icN (pc' := 36) d9_33 ((teq h2).2) rfl ?_
        refine X.aloadN (pc' := 37) d9_36 rfl rfl rfl ?_
        refine X.iloadN (pc' := 38) d9_37 rfl rfl ?_
        refine X.iconst (pc' := 39) (3 : Int32) d9_38 rfl rfl ?_
        refine X.iadd (pc' := 40) d9_39 rfl ?_
        rw [show (((7 : Int32) + (3 : Int32)) : Int32) = (10 : Int32) from by decide]
        refine X.caload (pc' := 41) V_a ⟨by decide, by decide⟩ (v := (cs.getD 10 0)) (at_int (i := 10) (by omega)) d9_40 rfl ?_
        refine X.bipush (pc' := 43) (107 : Int32) d9_41 rfl rfl ?_
        by_cases h3 : cs.getD 10 0 = 107
        · refine X.icN (pc' := 46) d9_43 ((teq h3).2) rfl ?_
          refine X.aloadN (pc' := 47) d9_46 rfl rfl rfl ?_
          refine X.iloadN (pc' := 48) d9_47 rfl rfl ?_
          refine X.iconst (pc' := 49) (4 : Int32) d9_48 rfl rfl ?_
          refine X.iadd (pc' := 50) d9_49 rfl ?_
          rw [show (((7 : Int32) + (4 : Int32)) : Int32) = (11 : Int32) from by decide]
          refine X.caload (pc' := 51) V_a ⟨by decide, by decide⟩ (v := (cs.getD 11 0)) (at_int (i := 11) (by omega)) d9_50 rfl ?_
          refine X.bipush (pc' := 53) (101 : Int32) d9_51 rfl rfl ?_
          by_cases h4 : cs.getD 11 0 = 101
          · refine X.icN (pc' := 56) d9_53 ((teq h4).2) rfl ?_
            refine X.aloadN (pc' := 57) d9_56 rfl rfl rfl ?_
            refine X.iloadN (pc' := 58) d9_57 rfl rfl ?_
            refine X.iconst (pc' := 59) (5 : Int32) d9_58 rfl rfl ?_
            refine X.iadd (pc' := 60) d9_59 rfl ?_
            rw [show (((7 : Int32) + (5 : Int32)) : Int32) = (12 : Int32) from by decide]
            refine X.caload (pc' := 61) V_a ⟨by decide, by decide⟩ (v := (cs.getD 12 0)) (at_int (i := 12) (by omega)) d9_60 rfl ?_
            refine X.bipush (pc' := 63) (110 : Int32) d9_61 rfl rfl ?_
            by_cases h5 : cs.getD 12 0 = 110
            · refine X.icN (pc' := 66) d9_63 ((teq h5).2) rfl ?_
              refine X.aloadN (pc' := 67) d9_66 rfl rfl rfl ?_
              refine X.iloadN (pc' := 68) d9_67 rfl rfl ?_
              refine X.bipush (pc' := 70) (6 : Int32) d9_68 rfl rfl ?_
              refine X.iadd (pc' := 71) d9_70 rfl ?_
              rw [show (((7 : Int32) + (6 : Int32)) : Int32) = (13 : Int32) from by decide]
              refine X.caload (pc' := 72) V_a ⟨by decide, by decide⟩ (v := (cs.getD 13 0)) (at_int (i := 13) (by omega)) d9_71 rfl ?_
              refine X.bipush (pc' := 74) (58 : Int32) d9_72 rfl rfl ?_
              by_cases h6 : cs.getD 13 0 = 58
              · refine X.icN (pc' := 77) d9_74 ((teq h6).2) rfl ?_
                refine X.iconst (pc' := 78) (1 : Int32) d9_77 rfl rfl ?_
                refine X.goto (pc' := 82) d9_78 (by decide) (by decide) ?_
                exact X.retIN (by simp) rfl d9_82 (by decide) (by decide) ⟨_, rfl, rfl, 1, rfl, Or.inl ⟨rfl, mk_of (by decide) h0 h1 h2 h3 h4 h5 h6⟩⟩
              · refine X.icY (pc' := 81) d9_74 ((feq h6).2) (by decide) (by decide) ?_
                refine X.iconst (pc' := 82) (0 : Int32) d9_81 rfl rfl ?_
                exact X.retIN (by simp) rfl d9_82 (by decide) (by decide) ⟨_, rfl, rfl, 0, rfl, Or.inr ⟨rfl, fun q => h6 (q.2 6 (by decide))⟩⟩
            · refine X.icY (pc' := 81) d9_63 ((feq h5).2) (by decide) (by decide) ?_
              refine X.iconst (pc' := 82) (0 : Int32) d9_81 rfl rfl ?_
              exact X.retIN (by simp) rfl d9_82 (by decide) (by decide) ⟨_, rfl, rfl, 0, rfl, Or.inr ⟨rfl, fun q => h5 (q.2 5 (by decide))⟩⟩
          · refine X.icY (pc' := 81) d9_53 ((feq h4).2) (by decide) (by decide) ?_
            refine X.iconst (pc' := 82) (0 : Int32) d9_81 rfl rfl ?_
            exact X.retIN (by simp) rfl d9_82 (by decide) (by decide) ⟨_, rfl, rfl, 0, rfl, Or.inr ⟨rfl, fun q => h4 (q.2 4 (by decide))⟩⟩
        · refine X.icY (pc' := 81) d9_43 ((feq h3).2) (by decide) (by decide) ?_
          refine X.iconst (pc' := 82) (0 : Int32) d9_81 rfl rfl ?_
          exact X.retIN (by simp) rfl d9_82 (by decide) (by decide) ⟨_, rfl, rfl, 0, rfl, Or.inr ⟨rfl, fun q => h3 (q.2 3 (by decide))⟩⟩
      · refine X.icY (pc' := 81) d9_33 ((feq h2).2) (by decide) (by decide) ?_
        refine X.iconst (pc' := 82) (0 : Int32) d9_81 rfl rfl ?_
        exact X.retIN (by simp) rfl d9_82 (by decide) (by decide) ⟨_, rfl, rfl, 0, rfl, Or.inr ⟨rfl, fun q => h2 (q.2 2 (by decide))⟩⟩
    · refine X.icY (pc' := 81) d9_23 ((feq h1).2) (by decide) (by decide) ?_
      refine X.iconst (pc' := 82) (0 : Int32) d9_81 rfl rfl ?_
      exact X.retIN (by simp) rfl d9_82 (by decide) (by decide) ⟨_, rfl, rfl, 0, rfl, Or.inr ⟨rfl, fun q => h1 (q.2 1 (by decide))⟩⟩
  · refine X.icY (pc' := 81) d9_13 ((feq h0).2) (by decide) (by decide) ?_
    refine X.iconst (pc' := 82) (0 : Int32) d9_81 rfl rfl ?_
    exact X.retIN (by simp) rfl d9_82 (by decide) (by decide) ⟨_, rfl, rfl, 0, rfl, Or.inr ⟨rfl, fun q => h0 (q.2 0 (by decide))⟩⟩
set_option maxRecDepth 65536 in
set_option maxHeartbeats 40000000 in
theorem ef_rmAt_16_8 (m : MethodId) (a : Addr) : entryFrame m #[(.ref a), (.int (16 : Int32)), (.int (8 : Int32))] 3 = mkF m 0 #[.val (.ref a), .val (.int (16 : Int32)), .val (.int (8 : Int32))] [] := by first | (simp [entryFrame, mkF, argsToLocals, Value.category]; done) | (rfl)
set_option maxRecDepth 65536 in
set_option maxHeartbeats 40000000 in
theorem rmAt_16_8 (l : Launch) (Z : State) (a0 : Array Value) (hw : ∀ d ∈ tables_1, d.before a0 Z = true) (a : Addr) (h0 : Heap) (O : Ext Z.heap h0) (ka : ClassId) (cs : List Int32) (hl : cs.length = 16) (V_a : Arv Z h0 a ka .char 16 (cs.map Value.int) (.int 0)) :
    MN l Z (⟨"com/example/bounded_lock/boundedlock/LockLayoutWokenInstanceOfPinLaw", "at", "([CII)Z"⟩ : MethodName) method_5_code 3 (some .boolean) [] ({ frames := 0, cells := 0, slots := 0, locals := 0 } : Room) #[(.ref a), (.int (16 : Int32)), (.int (8 : Int32))] h0 [] (RP h0 (fun w => ∃ v : Int32, w = .int v ∧ ((v = 1 ∧ MarkN cs 16 8) ∨ (v = 0 ∧ ¬ MarkN cs 16 8)))) := by
  refine MN.mk (a0 := a0) rfl rfl (plainFor_of_name pn1) O (fun m => ef_rmAt_16_8 m a) ?_
  intro pg ev s m below meth cd T hh X
  subst hh
  refine X.iloadN (pc' := 1) d9_0 rfl rfl ?_
  refine X.bipush (pc' := 3) (7 : Int32) d9_1 rfl rfl ?_
  refine X.iadd (pc' := 4) d9_3 rfl ?_
  rw [show (((8 : Int32) + (7 : Int32)) : Int32) = (15 : Int32) from by decide]
  refine X.iloadN (pc' := 5) d9_4 rfl rfl ?_
  refine X.icN (pc' := 8) d9_5 (by decide) rfl ?_
  refine X.aloadN (pc' := 9) d9_8 rfl rfl rfl ?_
  refine X.iloadN (pc' := 10) d9_9 rfl rfl ?_
  refine X.caload (pc' := 11) V_a ⟨by decide, by decide⟩ (v := (cs.getD 8 0)) (at_int (i := 8) (by omega)) d9_10 rfl ?_
  refine X.bipush (pc' := 13) (32 : Int32) d9_11 rfl rfl ?_
  by_cases h0 : cs.getD 8 0 = 32
  · refine X.icN (pc' := 16) d9_13 ((teq h0).2) rfl ?_
    refine X.aloadN (pc' := 17) d9_16 rfl rfl rfl ?_
    refine X.iloadN (pc' := 18) d9_17 rfl rfl ?_
    refine X.iconst (pc' := 19) (1 : Int32) d9_18 rfl rfl ?_
    refine X.iadd (pc' := 20) d9_19 rfl ?_
    rw [show (((8 : Int32) + (1 : Int32)) : Int32) = (9 : Int32) from by decide]
    refine X.caload (pc' := 21) V_a ⟨by decide, by decide⟩ (v := (cs.getD 9 0)) (at_int (i := 9) (by omega)) d9_20 rfl ?_
    refine X.bipush (pc' := 23) (119 : Int32) d9_21 rfl rfl ?_
    by_cases h1 : cs.getD 9 0 = 119
    · refine X.icN (pc' := 26) d9_23 ((teq h1).2) rfl ?_
      refine X.aloadN (pc' := 27) d9_26 rfl rfl rfl ?_
      refine X.iloadN (pc' := 28) d9_27 rfl rfl ?_
      refine X.iconst (pc' := 29) (2 : Int32) d9_28 rfl rfl ?_
      refine X.iadd (pc' := 30) d9_29 rfl ?_
      rw [show (((8 : Int32) + (2 : Int32)) : Int32) = (10 : Int32) from by decide]
      refine X.caload (pc' := 31) V_a ⟨by decide, by decide⟩ (v := (cs.getD 10 0)) (at_int (i := 10) (by omega)) d9_30 rfl ?_
      refine X.bipush (pc' := 33) (111 : Int32) d9_31 rfl rfl ?_
      by_cases h2 : cs.getD 10 0 = 111
      · refine X.icN (pc' := 36) d9_33 ((teq h2).2) rfl ?_
        refine X.aloadN (pc' := 37) d9_36 rfl rfl rfl ?_
        refine X.iloadN (pc' := 38) d9_37 rfl rfl ?_
        refine X.iconst (pc' := 39) (3 : Int32) d9_38 rfl rfl ?_
        refine X.iadd (pc' := 40) d9_39 rfl ?_
        rw [show (((8 : Int32) + (3 : Int32)) : Int32) = (11 : Int32) from by decide]
        refine X.caload (pc' := 41) V_a ⟨by decide, by decide⟩ (v := (cs.getD 11 0)) (at_int (i := 11) (by omega)) d9_40 rfl ?_
        refine X.bipush (pc' := 43) (107 : Int32) d9_41 rfl rfl ?_
        by_cases h3 : cs.getD 11 0 = 107
        · refine X.icN (pc' := 46) d9_43 ((teq h3).2) rfl ?_
          refine X.aloadN (pc' := 47) d9_46 rfl rfl rfl ?_
          refine X.iloadN (pc' := 48) d9_47 rfl rfl ?_
          refine X.iconst (pc' := 49) (4 : Int32) d9_48 rfl rfl ?_
          refine X.iadd (pc' := 50) d9_49 rfl ?_
          rw [show (((8 : Int32) + (4 : Int32)) : Int32) = (12 : Int32) from by decide]
          refine X.caload (pc' := 51) V_a ⟨by decide, by decide⟩ (v := (cs.getD 12 0)) (at_int (i := 12) (by omega)) d9_50 rfl ?_
          refine X.bipush (pc' := 53) (101 : Int32) d9_51 rfl rfl ?_
          by_cases h4 : cs.getD 12 0 = 101
          · refine X.icN (pc' := 56) d9_53 ((teq h4).2) rfl ?_
            refine X.aloadN (pc' := 57) d9_56 rfl rfl rfl ?_
            refine X.iloadN (pc' := 58) d9_57 rfl rfl ?_
            refine X.iconst (pc' := 59) (5 : Int32) d9_58 rfl rfl ?_
            refine X.iadd (pc' := 60) d9_59 rfl ?_
            rw [show (((8 : Int32) + (5 : Int32)) : Int32) = (13 : Int32) from by decide]
            refine X.caload (pc' := 61) V_a ⟨by decide, by decide⟩ (v := (cs.getD 13 0)) (at_int (i := 13) (by omega)) d9_60 rfl ?_
            refine X.bipush (pc' := 63) (110 : Int32) d9_61 rfl rfl ?_
            by_cases h5 : cs.getD 13 0 = 110
            · refine X.icN (pc' := 66) d9_63 ((teq h5).2) rfl ?_
              refine X.aloadN (pc' := 67) d9_66 rfl rfl rfl ?_
              refine X.iloadN (pc' := 68) d9_67 rfl rfl ?_
              refine X.bipush (pc' := 70) (6 : Int32) d9_68 rfl rfl ?_
              refine X.iadd (pc' := 71) d9_70 rfl ?_
              rw [show (((8 : Int32) + (6 : Int32)) : Int32) = (14 : Int32) from by decide]
              refine X.caload (pc' := 72) V_a ⟨by decide, by decide⟩ (v := (cs.getD 14 0)) (at_int (i := 14) (by omega)) d9_71 rfl ?_
              refine X.bipush (pc' := 74) (58 : Int32) d9_72 rfl rfl ?_
              by_cases h6 : cs.getD 14 0 = 58
              · refine X.icN (pc' := 77) d9_74 ((teq h6).2) rfl ?_
                refine X.iconst (pc' := 78) (1 : Int32) d9_77 rfl rfl ?_
                refine X.goto (pc' := 82) d9_78 (by decide) (by decide) ?_
                exact X.retIN (by simp) rfl d9_82 (by decide) (by decide) ⟨_, rfl, rfl, 1, rfl, Or.inl ⟨rfl, mk_of (by decide) h0 h1 h2 h3 h4 h5 h6⟩⟩
              · refine X.icY (pc' := 81) d9_74 ((feq h6).2) (by decide) (by decide) ?_
                refine X.iconst (pc' := 82) (0 : Int32) d9_81 rfl rfl ?_
                exact X.retIN (by simp) rfl d9_82 (by decide) (by decide) ⟨_, rfl, rfl, 0, rfl, Or.inr ⟨rfl, fun q => h6 (q.2 6 (by decide))⟩⟩
            · refine X.icY (pc' := 81) d9_63 ((feq h5).2) (by decide) (by decide) ?_
              refine X.iconst (pc' := 82) (0 : Int32) d9_81 rfl rfl ?_
              exact X.retIN (by simp) rfl d9_82 (by decide) (by decide) ⟨_, rfl, rfl, 0, rfl, Or.inr ⟨rfl, fun q => h5 (q.2 5 (by decide))⟩⟩
          · refine X.icY (pc' := 81) d9_53 ((feq h4).2) (by decide) (by decide) ?_
            refine X.iconst (pc' := 82) (0 : Int32) d9_81 rfl rfl ?_
            exact X.retIN (by simp) rfl d9_82 (by decide) (by decide) ⟨_, rfl, rfl, 0, rfl, Or.inr ⟨rfl, fun q => h4 (q.2 4 (by decide))⟩⟩
        · refine X.icY (pc' := 81) d9_43 ((feq h3).2) (by decide) (by decide) ?_
          refine X.iconst (pc' := 82) (0 : Int32) d9_81 rfl rfl ?_
          exact X.retIN (by simp) rfl d9_82 (by decide) (by decide) ⟨_, rfl, rfl, 0, rfl, Or.inr ⟨rfl, fun q => h3 (q.2 3 (by decide))⟩⟩
      · refine X.icY (pc' := 81) d9_33 ((feq h2).2) (by decide) (by decide) ?_
        refine X.iconst (pc' := 82) (0 : Int32) d9_81 rfl rfl ?_
        exact X.retIN (by simp) rfl d9_82 (by decide) (by decide) ⟨_, rfl, rfl, 0, rfl, Or.inr ⟨rfl, fun q => h2 (q.2 2 (by decide))⟩⟩
    · refine X.icY (pc' := 81) d9_23 ((feq h1).2) (by decide) (by decide) ?_
      refine X.iconst (pc' := 82) (0 : Int32) d9_81 rfl rfl ?_
      exact X.retIN (by simp) rfl d9_82 (by decide) (by decide) ⟨_, rfl, rfl, 0, rfl, Or.inr ⟨rfl, fun q => h1 (q.2 1 (by decide))⟩⟩
  · refine X.icY (pc' := 81) d9_13 ((feq h0).2) (by decide) (by decide) ?_
    refine X.iconst (pc' := 82) (0 : Int32) d9_81 rfl rfl ?_
    exact X.retIN (by simp) rfl d9_82 (by decide) (by decide) ⟨_, rfl, rfl, 0, rfl, Or.inr ⟨rfl, fun q => h0 (q.2 0 (by decide))⟩⟩
set_option maxRecDepth 65536 in
set_option maxHeartbeats 40000000 in
theorem ef_rmAt_16_9 (m : MethodId) (a : Addr) : entryFrame m #[(.ref a), (.int (16 : Int32)), (.int (9 : Int32))] 3 = mkF m 0 #[.val (.ref a), .val (.int (16 : Int32)), .val (.int (9 : Int32))] [] := by first | (simp [entryFrame, mkF, argsToLocals, Value.category]; done) | (rfl)
set_option maxRecDepth 65536 in
set_option maxHeartbeats 40000000 in
theorem rmAt_16_9 (l : Launch) (Z : State) (a0 : Array Value) (hw : ∀ d ∈ tables_1, d.before a0 Z = true) (a : Addr) (h0 : Heap) (O : Ext Z.heap h0) (ka : ClassId) (cs : List Int32) (hl : cs.length = 16) (V_a : Arv Z h0 a ka .char 16 (cs.map Value.int) (.int 0)) :
    MN l Z (⟨"com/example/bounded_lock/boundedlock/LockLayoutWokenInstanceOfPinLaw", "at", "([CII)Z"⟩ : MethodName) method_5_code 3 (some .boolean) [] ({ frames := 0, cells := 0, slots := 0, locals := 0 } : Room) #[(.ref a), (.int (16 : Int32)), (.int (9 : Int32))] h0 [] (RP h0 (fun w => ∃ v : Int32, w = .int v ∧ ((v = 1 ∧ MarkN cs 16 9) ∨ (v = 0 ∧ ¬ MarkN cs 16 9)))) := by
  refine MN.mk (a0 := a0) rfl rfl (plainFor_of_name pn1) O (fun m => ef_rmAt_16_9 m a) ?_
  intro pg ev s m below meth cd T hh X
  subst hh
  refine X.iloadN (pc' := 1) d9_0 rfl rfl ?_
  refine X.bipush (pc' := 3) (7 : Int32) d9_1 rfl rfl ?_
  refine X.iadd (pc' := 4) d9_3 rfl ?_
  rw [show (((9 : Int32) + (7 : Int32)) : Int32) = (16 : Int32) from by decide]
  refine X.iloadN (pc' := 5) d9_4 rfl rfl ?_
  refine X.icN (pc' := 8) d9_5 (by decide) rfl ?_
  refine X.aloadN (pc' := 9) d9_8 rfl rfl rfl ?_
  refine X.iloadN (pc' := 10) d9_9 rfl rfl ?_
  refine X.caload (pc' := 11) V_a ⟨by decide, by decide⟩ (v := (cs.getD 9 0)) (at_int (i := 9) (by omega)) d9_10 rfl ?_
  refine X.bipush (pc' := 13) (32 : Int32) d9_11 rfl rfl ?_
  by_cases h0 : cs.getD 9 0 = 32
  · refine X.icN (pc' := 16) d9_13 ((teq h0).2) rfl ?_
    refine X.aloadN (pc' := 17) d9_16 rfl rfl rfl ?_
    refine X.iloadN (pc' := 18) d9_17 rfl rfl ?_
    refine X.iconst (pc' := 19) (1 : Int32) d9_18 rfl rfl ?_
    refine X.iadd (pc' := 20) d9_19 rfl ?_
    rw [show (((9 : Int32) + (1 : Int32)) : Int32) = (10 : Int32) from by decide]
    refine X.caload (pc' := 21) V_a ⟨by decide, by decide⟩ (v := (cs.getD 10 0)) (at_int (i := 10) (by omega)) d9_20 rfl ?_
    refine X.bipush (pc' := 23) (119 : Int32) d9_21 rfl rfl ?_
    by_cases h1 : cs.getD 10 0 = 119
    · refine X.icN (pc' := 26) d9_23 ((teq h1).2) rfl ?_
      refine X.aloadN (pc' := 27) d9_26 rfl rfl rfl ?_
      refine X.iloadN (pc' := 28) d9_27 rfl rfl ?_
      refine X.iconst (pc' := 29) (2 : Int32) d9_28 rfl rfl ?_
      refine X.iadd (pc' := 30) d9_29 rfl ?_
      rw [show (((9 : Int32) + (2 : Int32)) : Int32) = (11 : Int32) from by decide]
      refine X.caload (pc' := 31) V_a ⟨by decide, by decide⟩ (v := (cs.getD 11 0)) (at_int (i := 11) (by omega)) d9_30 rfl ?_
      refine X.bipush (pc' := 33) (111 : Int32) d9_31 rfl rfl ?_
      by_cases h2 : cs.getD 11 0 = 111
      · refine X.icN (pc' := 36) d9_33 ((teq h2).2) rfl ?_
        refine X.aloadN (pc' := 37) d9_36 rfl rfl rfl ?_
        refine X.iloadN (pc' := 38) d9_37 rfl rfl ?_
        refine X.iconst (pc' := 39) (3 : Int32) d9_38 rfl rfl ?_
        refine X.iadd (pc' := 40) d9_39 rfl ?_
        rw [show (((9 : Int32) + (3 : Int32)) : Int32) = (12 : Int32) from by decide]
        refine X.caload (pc' := 41) V_a ⟨by decide, by decide⟩ (v := (cs.getD 12 0)) (at_int (i := 12) (by omega)) d9_40 rfl ?_
        refine X.bipush (pc' := 43) (107 : Int32) d9_41 rfl rfl ?_
        by_cases h3 : cs.getD 12 0 = 107
        · refine X.icN (pc' := 46) d9_43 ((teq h3).2) rfl ?_
          refine X.aloadN (pc' := 47) d9_46 rfl rfl rfl ?_
          refine X.iloadN (pc' := 48) d9_47 rfl rfl ?_
          refine X.iconst (pc' := 49) (4 : Int32) d9_48 rfl rfl ?_
          refine X.iadd (pc' := 50) d9_49 rfl ?_
          rw [show (((9 : Int32) + (4 : Int32)) : Int32) = (13 : Int32) from by decide]
          refine X.caload (pc' := 51) V_a ⟨by decide, by decide⟩ (v := (cs.getD 13 0)) (at_int (i := 13) (by omega)) d9_50 rfl ?_
          refine X.bipush (pc' := 53) (101 : Int32) d9_51 rfl rfl ?_
          by_cases h4 : cs.getD 13 0 = 101
          · refine X.icN (pc' := 56) d9_53 ((teq h4).2) rfl ?_
            refine X.aloadN (pc' := 57) d9_56 rfl rfl rfl ?_
            refine X.iloadN (pc' := 58) d9_57 rfl rfl ?_
            refine X.iconst (pc' := 59) (5 : Int32) d9_58 rfl rfl ?_
            refine X.iadd (pc' := 60) d9_59 rfl ?_
            rw [show (((9 : Int32) + (5 : Int32)) : Int32) = (14 : Int32) from by decide]
            refine X.caload (pc' := 61) V_a ⟨by decide, by decide⟩ (v := (cs.getD 14 0)) (at_int (i := 14) (by omega)) d9_60 rfl ?_
            refine X.bipush (pc' := 63) (110 : Int32) d9_61 rfl rfl ?_
            by_cases h5 : cs.getD 14 0 = 110
            · refine X.icN (pc' := 66) d9_63 ((teq h5).2) rfl ?_
              refine X.aloadN (pc' := 67) d9_66 rfl rfl rfl ?_
              refine X.iloadN (pc' := 68) d9_67 rfl rfl ?_
              refine X.bipush (pc' := 70) (6 : Int32) d9_68 rfl rfl ?_
              refine X.iadd (pc' := 71) d9_70 rfl ?_
              rw [show (((9 : Int32) + (6 : Int32)) : Int32) = (15 : Int32) from by decide]
              refine X.caload (pc' := 72) V_a ⟨by decide, by decide⟩ (v := (cs.getD 15 0)) (at_int (i := 15) (by omega)) d9_71 rfl ?_
              refine X.bipush (pc' := 74) (58 : Int32) d9_72 rfl rfl ?_
              by_cases h6 : cs.getD 15 0 = 58
              · refine X.icN (pc' := 77) d9_74 ((teq h6).2) rfl ?_
                refine X.iconst (pc' := 78) (1 : Int32) d9_77 rfl rfl ?_
                refine X.goto (pc' := 82) d9_78 (by decide) (by decide) ?_
                exact X.retIN (by simp) rfl d9_82 (by decide) (by decide) ⟨_, rfl, rfl, 1, rfl, Or.inl ⟨rfl, mk_of (by decide) h0 h1 h2 h3 h4 h5 h6⟩⟩
              · refine X.icY (pc' := 81) d9_74 ((feq h6).2) (by decide) (by decide) ?_
                refine X.iconst (pc' := 82) (0 : Int32) d9_81 rfl rfl ?_
                exact X.retIN (by simp) rfl d9_82 (by decide) (by decide) ⟨_, rfl, rfl, 0, rfl, Or.inr ⟨rfl, fun q => h6 (q.2 6 (by decide))⟩⟩
            · refine X.icY (pc' := 81) d9_63 ((feq h5).2) (by decide) (by decide) ?_
              refine X.iconst (pc' := 82) (0 : Int32) d9_81 rfl rfl ?_
              exact X.retIN (by simp) rfl d9_82 (by decide) (by decide) ⟨_, rfl, rfl, 0, rfl, Or.inr ⟨rfl, fun q => h5 (q.2 5 (by decide))⟩⟩
          · refine X.icY (pc' := 81) d9_53 ((feq h4).2) (by decide) (by decide) ?_
            refine X.iconst (pc' := 82) (0 : Int32) d9_81 rfl rfl ?_
            exact X.retIN (by simp) rfl d9_82 (by decide) (by decide) ⟨_, rfl, rfl, 0, rfl, Or.inr ⟨rfl, fun q => h4 (q.2 4 (by decide))⟩⟩
        · refine X.icY (pc' := 81) d9_43 ((feq h3).2) (by decide) (by decide) ?_
          refine X.iconst (pc' := 82) (0 : Int32) d9_81 rfl rfl ?_
          exact X.retIN (by simp) rfl d9_82 (by decide) (by decide) ⟨_, rfl, rfl, 0, rfl, Or.inr ⟨rfl, fun q => h3 (q.2 3 (by decide))⟩⟩
      · refine X.icY (pc' := 81) d9_33 ((feq h2).2) (by decide) (by decide) ?_
        refine X.iconst (pc' := 82) (0 : Int32) d9_81 rfl rfl ?_
        exact X.retIN (by simp) rfl d9_82 (by decide) (by decide) ⟨_, rfl, rfl, 0, rfl, Or.inr ⟨rfl, fun q => h2 (q.2 2 (by decide))⟩⟩
    · refine X.icY (pc' := 81) d9_23 ((feq h1).2) (by decide) (by decide) ?_
      refine X.iconst (pc' := 82) (0 : Int32) d9_81 rfl rfl ?_
      exact X.retIN (by simp) rfl d9_82 (by decide) (by decide) ⟨_, rfl, rfl, 0, rfl, Or.inr ⟨rfl, fun q => h1 (q.2 1 (by decide))⟩⟩
  · refine X.icY (pc' := 81) d9_13 ((feq h0).2) (by decide) (by decide) ?_
    refine X.iconst (pc' := 82) (0 : Int32) d9_81 rfl rfl ?_
    exact X.retIN (by simp) rfl d9_82 (by decide) (by decide) ⟨_, rfl, rfl, 0, rfl, Or.inr ⟨rfl, fun q => h0 (q.2 0 (by decide))⟩⟩
set_option maxRecDepth 65536 in
set_option maxHeartbeats 40000000 in
theorem ef_rmLM_16 (m : MethodId) (a : Addr) : entryFrame m #[(.ref a), (.int (16 : Int32))] 2 = mkF m 0 #[.val (.ref a), .val (.int (16 : Int32))] [] := by first | (simp [entryFrame, mkF, argsToLocals, Value.category]; done) | (rfl)
set_option maxRecDepth 65536 in
set_option maxHeartbeats 40000000 in
theorem rmLM_16 (l : Launch) (Z : State) (a0 : Array Value) (hw : ∀ d ∈ tables_1, d.before a0 Z = true) (a : Addr) (h0 : Heap) (O : Ext Z.heap h0) (ka : ClassId) (cs : List Int32) (hl : cs.length = 16) (V_a : Arv Z h0 a ka .char 16 (cs.map Value.int) (.int 0)) :
    MN l Z (⟨"com/example/bounded_lock/boundedlock/LockLayoutWokenInstanceOfPinLaw", "lastMark", "([CI)I"⟩ : MethodName) method_6_code 2 (some .int) [] ({ frames := 1, cells := 0, slots := 0, locals := 20 } : Room) #[(.ref a), (.int (16 : Int32))] h0 [] (RP h0 (fun w => ∃ R : Int32, w = .int R ∧ Last (MarkN cs 16) 10 R)) := by
  refine MN.mk (a0 := a0) rfl rfl (plainFor_of_name pn1) O (fun m => ef_rmLM_16 m a) ?_
  intro pg ev s m below meth cd T hh X
  subst hh
  refine X.aloadN (pc' := 1) d8_0 rfl rfl rfl ?_
  refine X.iloadN (pc' := 2) d8_1 rfl rfl ?_
  refine X.bipush (pc' := 4) (9 : Int32) d8_2 rfl rfl ?_
  refine X.callP (pc' := 7) (X.sStatic (wd38 hw) (wd39 hw) (wd3 hw) (wd40 hw) (by decide) rfl pd0 [(.ref a), (.int (16 : Int32)), (.int (9 : Int32))] rfl rfl d8_4) (rmAt_16_9 l Z a0 hw a _ X.old ka cs hl V_a) (wd40 hw) (wd3 hw) (leB rfl) (leB rfl) (leB rfl) (leB rfl) rfl ?_
  intro T L v X q
  obtain ⟨v9, rfl, hv9⟩ := q
  rcases hv9 with ⟨rfl, m9⟩ | ⟨rfl, m9⟩
  · refine X.ifN (pc' := 10) d8_7 (by decide) rfl ?_
    refine X.bipush (pc' := 12) (9 : Int32) d8_10 rfl rfl ?_
    exact X.retIN (by simp) rfl d8_12 (by decide) (by decide) ⟨_, rfl, rfl, _, rfl, (Last.hit (k := 9) m9)⟩
  · refine X.ifY (pc' := 13) d8_7 (by decide) (by decide) (by decide) ?_
    refine X.aloadN (pc' := 14) d8_13 rfl rfl rfl ?_
    refine X.iloadN (pc' := 15) d8_14 rfl rfl ?_
    refine X.bipush (pc' := 17) (8 : Int32) d8_15 rfl rfl ?_
    refine X.callP (pc' := 20) (X.sStatic (wd38 hw) (wd39 hw) (wd3 hw) (wd40 hw) (by decide) rfl pd0 [(.ref a), (.int (16 : Int32)), (.int (8 : Int32))] rfl rfl d8_17) (rmAt_16_8 l Z a0 hw a _ X.old ka cs hl V_a) (wd40 hw) (wd3 hw) (leB rfl) (leB rfl) (leB rfl) (leB rfl) rfl ?_
    intro T L v X q
    obtain ⟨v8, rfl, hv8⟩ := q
    rcases hv8 with ⟨rfl, m8⟩ | ⟨rfl, m8⟩
    · refine X.ifN (pc' := 23) d8_20 (by decide) rfl ?_
      refine X.bipush (pc' := 25) (8 : Int32) d8_23 rfl rfl ?_
      exact X.retIN (by simp) rfl d8_25 (by decide) (by decide) ⟨_, rfl, rfl, _, rfl, (Last.miss (k := 9) m9 (Last.hit (k := 8) m8))⟩
    · refine X.ifY (pc' := 26) d8_20 (by decide) (by decide) (by decide) ?_
      refine X.aloadN (pc' := 27) d8_26 rfl rfl rfl ?_
      refine X.iloadN (pc' := 28) d8_27 rfl rfl ?_
      refine X.bipush (pc' := 30) (7 : Int32) d8_28 rfl rfl ?_
      refine X.callP (pc' := 33) (X.sStatic (wd38 hw) (wd39 hw) (wd3 hw) (wd40 hw) (by decide) rfl pd0 [(.ref a), (.int (16 : Int32)), (.int (7 : Int32))] rfl rfl d8_30) (rmAt_16_7 l Z a0 hw a _ X.old ka cs hl V_a) (wd40 hw) (wd3 hw) (leB rfl) (leB rfl) (leB rfl) (leB rfl) rfl ?_
      intro T L v X q
      obtain ⟨v7, rfl, hv7⟩ := q
      rcases hv7 with ⟨rfl, m7⟩ | ⟨rfl, m7⟩
      · refine X.ifN (pc' := 36) d8_33 (by decide) rfl ?_
        refine X.bipush (pc' := 38) (7 : Int32) d8_36 rfl rfl ?_
        exact X.retIN (by simp) rfl d8_38 (by decide) (by decide) ⟨_, rfl, rfl, _, rfl, (Last.miss (k := 9) m9 (Last.miss (k := 8) m8 (Last.hit (k := 7) m7)))⟩
      · refine X.ifY (pc' := 39) d8_33 (by decide) (by decide) (by decide) ?_
        refine X.aloadN (pc' := 40) d8_39 rfl rfl rfl ?_
        refine X.iloadN (pc' := 41) d8_40 rfl rfl ?_
        refine X.bipush (pc' := 43) (6 : Int32) d8_41 rfl rfl ?_
        refine X.callP (pc' := 46) (X.sStatic (wd38 hw) (wd39 hw) (wd3 hw) (wd40 hw) (by decide) rfl pd0 [(.ref a), (.int (16 : Int32)), (.int (6 : Int32))] rfl rfl d8_43) (rmAt_16_6 l Z a0 hw a _ X.old ka cs hl V_a) (wd40 hw) (wd3 hw) (leB rfl) (leB rfl) (leB rfl) (leB rfl) rfl ?_
        intro T L v X q
        obtain ⟨v6, rfl, hv6⟩ := q
        rcases hv6 with ⟨rfl, m6⟩ | ⟨rfl, m6⟩
        · refine X.ifN (pc' := 49) d8_46 (by decide) rfl ?_
          refine X.bipush (pc' := 51) (6 : Int32) d8_49 rfl rfl ?_
          exact X.retIN (by simp) rfl d8_51 (by decide) (by decide) ⟨_, rfl, rfl, _, rfl, (Last.miss (k := 9) m9 (Last.miss (k := 8) m8 (Last.miss (k := 7) m7 (Last.hit (k := 6) m6))))⟩
        · refine X.ifY (pc' := 52) d8_46 (by decide) (by decide) (by decide) ?_
          refine X.aloadN (pc' := 53) d8_52 rfl rfl rfl ?_
          refine X.iloadN (pc' := 54) d8_53 rfl rfl ?_
          refine X.iconst (pc' := 55) (5 : Int32) d8_54 rfl rfl ?_
          refine X.callP (pc' := 58) (X.sStatic (wd38 hw) (wd39 hw) (wd3 hw) (wd40 hw) (by decide) rfl pd0 [(.ref a), (.int (16 : Int32)), (.int (5 : Int32))] rfl rfl d8_55) (rmAt_16_5 l Z a0 hw a _ X.old ka cs hl V_a) (wd40 hw) (wd3 hw) (leB rfl) (leB rfl) (leB rfl) (leB rfl) rfl ?_
          intro T L v X q
          obtain ⟨v5, rfl, hv5⟩ := q
          rcases hv5 with ⟨rfl, m5⟩ | ⟨rfl, m5⟩
          · refine X.ifN (pc' := 61) d8_58 (by decide) rfl ?_
            refine X.iconst (pc' := 62) (5 : Int32) d8_61 rfl rfl ?_
            exact X.retIN (by simp) rfl d8_62 (by decide) (by decide) ⟨_, rfl, rfl, _, rfl, (Last.miss (k := 9) m9 (Last.miss (k := 8) m8 (Last.miss (k := 7) m7 (Last.miss (k := 6) m6 (Last.hit (k := 5) m5)))))⟩
          · refine X.ifY (pc' := 63) d8_58 (by decide) (by decide) (by decide) ?_
            refine X.aloadN (pc' := 64) d8_63 rfl rfl rfl ?_
            refine X.iloadN (pc' := 65) d8_64 rfl rfl ?_
            refine X.iconst (pc' := 66) (4 : Int32) d8_65 rfl rfl ?_
            refine X.callP (pc' := 69) (X.sStatic (wd38 hw) (wd39 hw) (wd3 hw) (wd40 hw) (by decide) rfl pd0 [(.ref a), (.int (16 : Int32)), (.int (4 : Int32))] rfl rfl d8_66) (rmAt_16_4 l Z a0 hw a _ X.old ka cs hl V_a) (wd40 hw) (wd3 hw) (leB rfl) (leB rfl) (leB rfl) (leB rfl) rfl ?_
            intro T L v X q
            obtain ⟨v4, rfl, hv4⟩ := q
            rcases hv4 with ⟨rfl, m4⟩ | ⟨rfl, m4⟩
            · refine X.ifN (pc' := 72) d8_69 (by decide) rfl ?_
              refine X.iconst (pc' := 73) (4 : Int32) d8_72 rfl rfl ?_
              exact X.retIN (by simp) rfl d8_73 (by decide) (by decide) ⟨_, rfl, rfl, _, rfl, (Last.miss (k := 9) m9 (Last.miss (k := 8) m8 (Last.miss (k := 7) m7 (Last.miss (k := 6) m6 (Last.miss (k := 5) m5 (Last.hit (k := 4) m4))))))⟩
            · refine X.ifY (pc' := 74) d8_69 (by decide) (by decide) (by decide) ?_
              refine X.aloadN (pc' := 75) d8_74 rfl rfl rfl ?_
              refine X.iloadN (pc' := 76) d8_75 rfl rfl ?_
              refine X.iconst (pc' := 77) (3 : Int32) d8_76 rfl rfl ?_
              refine X.callP (pc' := 80) (X.sStatic (wd38 hw) (wd39 hw) (wd3 hw) (wd40 hw) (by decide) rfl pd0 [(.ref a), (.int (16 : Int32)), (.int (3 : Int32))] rfl rfl d8_77) (rmAt_16_3 l Z a0 hw a _ X.old ka cs hl V_a) (wd40 hw) (wd3 hw) (leB rfl) (leB rfl) (leB rfl) (leB rfl) rfl ?_
              intro T L v X q
              obtain ⟨v3, rfl, hv3⟩ := q
              rcases hv3 with ⟨rfl, m3⟩ | ⟨rfl, m3⟩
              · refine X.ifN (pc' := 83) d8_80 (by decide) rfl ?_
                refine X.iconst (pc' := 84) (3 : Int32) d8_83 rfl rfl ?_
                exact X.retIN (by simp) rfl d8_84 (by decide) (by decide) ⟨_, rfl, rfl, _, rfl, (Last.miss (k := 9) m9 (Last.miss (k := 8) m8 (Last.miss (k := 7) m7 (Last.miss (k := 6) m6 (Last.miss (k := 5) m5 (Last.miss (k := 4) m4 (Last.hit (k := 3) m3)))))))⟩
              · refine X.ifY (pc' := 85) d8_80 (by decide) (by decide) (by decide) ?_
                refine X.aloadN (pc' := 86) d8_85 rfl rfl rfl ?_
                refine X.iloadN (pc' := 87) d8_86 rfl rfl ?_
                refine X.iconst (pc' := 88) (2 : Int32) d8_87 rfl rfl ?_
                refine X.callP (pc' := 91) (X.sStatic (wd38 hw) (wd39 hw) (wd3 hw) (wd40 hw) (by decide) rfl pd0 [(.ref a), (.int (16 : Int32)), (.int (2 : Int32))] rfl rfl d8_88) (rmAt_16_2 l Z a0 hw a _ X.old ka cs hl V_a) (wd40 hw) (wd3 hw) (leB rfl) (leB rfl) (leB rfl) (leB rfl) rfl ?_
                intro T L v X q
                obtain ⟨v2, rfl, hv2⟩ := q
                rcases hv2 with ⟨rfl, m2⟩ | ⟨rfl, m2⟩
                · refine X.ifN (pc' := 94) d8_91 (by decide) rfl ?_
                  refine X.iconst (pc' := 95) (2 : Int32) d8_94 rfl rfl ?_
                  exact X.retIN (by simp) rfl d8_95 (by decide) (by decide) ⟨_, rfl, rfl, _, rfl, (Last.miss (k := 9) m9 (Last.miss (k := 8) m8 (Last.miss (k := 7) m7 (Last.miss (k := 6) m6 (Last.miss (k := 5) m5 (Last.miss (k := 4) m4 (Last.miss (k := 3) m3 (Last.hit (k := 2) m2))))))))⟩
                · refine X.ifY (pc' := 96) d8_91 (by decide) (by decide) (by decide) ?_
                  refine X.aloadN (pc' := 97) d8_96 rfl rfl rfl ?_
                  refine X.iloadN (pc' := 98) d8_97 rfl rfl ?_
                  refine X.iconst (pc' := 99) (1 : Int32) d8_98 rfl rfl ?_
                  refine X.callP (pc' := 102) (X.sStatic (wd38 hw) (wd39 hw) (wd3 hw) (wd40 hw) (by decide) rfl pd0 [(.ref a), (.int (16 : Int32)), (.int (1 : Int32))] rfl rfl d8_99) (rmAt_16_1 l Z a0 hw a _ X.old ka cs hl V_a) (wd40 hw) (wd3 hw) (leB rfl) (leB rfl) (leB rfl) (leB rfl) rfl ?_
                  intro T L v X q
                  obtain ⟨v1, rfl, hv1⟩ := q
                  rcases hv1 with ⟨rfl, m1⟩ | ⟨rfl, m1⟩
                  · refine X.ifN (pc' := 105) d8_102 (by decide) rfl ?_
                    refine X.iconst (pc' := 106) (1 : Int32) d8_105 rfl rfl ?_
                    exact X.retIN (by simp) rfl d8_106 (by decide) (by decide) ⟨_, rfl, rfl, _, rfl, (Last.miss (k := 9) m9 (Last.miss (k := 8) m8 (Last.miss (k := 7) m7 (Last.miss (k := 6) m6 (Last.miss (k := 5) m5 (Last.miss (k := 4) m4 (Last.miss (k := 3) m3 (Last.miss (k := 2) m2 (Last.hit (k := 1) m1)))))))))⟩
                  · refine X.ifY (pc' := 107) d8_102 (by decide) (by decide) (by decide) ?_
                    refine X.aloadN (pc' := 108) d8_107 rfl rfl rfl ?_
                    refine X.iloadN (pc' := 109) d8_108 rfl rfl ?_
                    refine X.iconst (pc' := 110) (0 : Int32) d8_109 rfl rfl ?_
                    refine X.callP (pc' := 113) (X.sStatic (wd38 hw) (wd39 hw) (wd3 hw) (wd40 hw) (by decide) rfl pd0 [(.ref a), (.int (16 : Int32)), (.int (0 : Int32))] rfl rfl d8_110) (rmAt_16_0 l Z a0 hw a _ X.old ka cs hl V_a) (wd40 hw) (wd3 hw) (leB rfl) (leB rfl) (leB rfl) (leB rfl) rfl ?_
                    intro T L v X q
                    obtain ⟨v0, rfl, hv0⟩ := q
                    rcases hv0 with ⟨rfl, m0⟩ | ⟨rfl, m0⟩
                    · refine X.ifN (pc' := 116) d8_113 (by decide) rfl ?_
                      refine X.iconst (pc' := 117) (0 : Int32) d8_116 rfl rfl ?_
                      exact X.retIN (by simp) rfl d8_117 (by decide) (by decide) ⟨_, rfl, rfl, _, rfl, (Last.miss (k := 9) m9 (Last.miss (k := 8) m8 (Last.miss (k := 7) m7 (Last.miss (k := 6) m6 (Last.miss (k := 5) m5 (Last.miss (k := 4) m4 (Last.miss (k := 3) m3 (Last.miss (k := 2) m2 (Last.miss (k := 1) m1 (Last.hit (k := 0) m0))))))))))⟩
                    · refine X.ifY (pc' := 118) d8_113 (by decide) (by decide) (by decide) ?_
                      refine X.iconst (pc' := 119) (-1 : Int32) d8_118 rfl rfl ?_
                      exact X.retIN (by simp) rfl d8_119 (by decide) (by decide) ⟨_, rfl, rfl, -1, rfl, (Last.miss (k := 9) m9 (Last.miss (k := 8) m8 (Last.miss (k := 7) m7 (Last.miss (k := 6) m6 (Last.miss (k := 5) m5 (Last.miss (k := 4) m4 (Last.miss (k := 3) m3 (Last.miss (k := 2) m2 (Last.miss (k := 1) m1 (Last.miss (k := 0) m0 Last.zero))))))))))⟩
set_option maxRecDepth 65536 in
set_option maxHeartbeats 40000000 in
theorem ef_rmSLI_7 (m : MethodId) (s1 : Addr) (t1 : Addr) : entryFrame m #[(.ref s1), (.int (7 : Int32)), (.ref t1), (.int (7 : Int32)), (.int (0 : Int32))] 12 = mkF m 0 #[.val (.ref s1), .val (.int (7 : Int32)), .val (.ref t1), .val (.int (7 : Int32)), .val (.int (0 : Int32)), .unset, .unset, .unset, .unset, .unset, .unset, .unset] [] := by first | (simp [entryFrame, mkF, argsToLocals, Value.category]; done) | (rfl)
set_option maxRecDepth 65536 in
set_option maxHeartbeats 40000000 in
theorem rmSLI_7 (l : Launch) (Z : State) (a0 : Array Value) (hw : ∀ d ∈ tables_1, d.before a0 Z = true) (s1 : Addr) (t1 : Addr) (h0 : Heap) (O : Ext Z.heap h0) (ks kt : ClassId) (ds : List Int32) (hl : ds.length = 7) (hlat : ∀ c ∈ ds, ¬ c < 0 ∧ ¬ (255 : Int32) < c) (V_s : Arv Z h0 s1 ks .byte (7 : Int32) (ds.map fun c => Value.int (c.toInt8.toInt32)) (.int 0)) (V_t : Arv Z h0 t1 kt .byte 7 [(.int (32 : Int32)), (.int (119 : Int32)), (.int (111 : Int32)), (.int (107 : Int32)), (.int (101 : Int32)), (.int (110 : Int32)), (.int (58 : Int32))] (.int 0)) (R : Int32) (HL0 : Last (MarkN ds 7) 1 R) :
    MN l Z (⟨"java/lang/StringLatin1", "lastIndexOf", "([BI[BII)I"⟩ : MethodName) jdk_43_method_26_code 12 (some .int) [] ({ frames := 0, cells := 0, slots := 0, locals := 0 } : Room) #[(.ref s1), (.int (7 : Int32)), (.ref t1), (.int (7 : Int32)), (.int (0 : Int32))] h0 [] (RP h0 (fun w => ∃ Q : Int32, w = .int Q ∧ Last (MarkN ds 7) 1 Q)) := by
  refine MN.mk (a0 := a0) rfl rfl (plainFor_of_name pn2) O (fun m => ef_rmSLI_7 m s1 t1) ?_
  intro pg ev s m below meth cd T hh X
  subst hh
  refine X.iloadN (pc' := 1) d16_0 rfl rfl ?_
  refine X.iconst (pc' := 2) (1 : Int32) d16_1 rfl rfl ?_
  refine X.isub (pc' := 3) d16_2 rfl ?_
  rw [show (((7 : Int32) - (1 : Int32)) : Int32) = (6 : Int32) from by decide]
  refine X.istore (pc' := 5) #[.val (.ref s1), .val (.int (7 : Int32)), .val (.ref t1), .val (.int (7 : Int32)), .val (.int (0 : Int32)), .val (.int (6 : Int32)), .unset, .unset, .unset, .unset, .unset, .unset] d16_3 rfl rfl ?_
  refine X.iload (pc' := 7) d16_5 rfl rfl ?_
  refine X.iload (pc' := 9) d16_7 rfl rfl ?_
  refine X.iadd (pc' := 10) d16_9 rfl ?_
  rw [show (((6 : Int32) + (0 : Int32)) : Int32) = (6 : Int32) from by decide]
  refine X.istore (pc' := 12) #[.val (.ref s1), .val (.int (7 : Int32)), .val (.ref t1), .val (.int (7 : Int32)), .val (.int (0 : Int32)), .val (.int (6 : Int32)), .val (.int (6 : Int32)), .unset, .unset, .unset, .unset, .unset] d16_10 rfl rfl ?_
  refine X.iloadN (pc' := 13) d16_12 rfl rfl ?_
  refine X.iconst (pc' := 14) (1 : Int32) d16_13 rfl rfl ?_
  refine X.isub (pc' := 15) d16_14 rfl ?_
  rw [show (((7 : Int32) - (1 : Int32)) : Int32) = (6 : Int32) from by decide]
  refine X.istore (pc' := 17) #[.val (.ref s1), .val (.int (7 : Int32)), .val (.ref t1), .val (.int (7 : Int32)), .val (.int (0 : Int32)), .val (.int (6 : Int32)), .val (.int (6 : Int32)), .val (.int (6 : Int32)), .unset, .unset, .unset, .unset] d16_15 rfl rfl ?_
  refine X.aloadN (pc' := 18) d16_17 rfl rfl rfl ?_
  refine X.iload (pc' := 20) d16_18 rfl rfl ?_
  refine X.baload (pc' := 21) V_t ⟨by decide, by decide⟩ (v := (58 : Int32)) rfl d16_20 rfl ?_
  refine X.sipush (pc' := 24) (255 : Int32) d16_21 rfl rfl ?_
  refine X.iand (pc' := 25) d16_24 rfl ?_
  refine X.i2c (pc' := 26) d16_25 rfl ?_
  refine X.istore (pc' := 28) #[.val (.ref s1), .val (.int (7 : Int32)), .val (.ref t1), .val (.int (7 : Int32)), .val (.int (0 : Int32)), .val (.int (6 : Int32)), .val (.int (6 : Int32)), .val (.int (6 : Int32)), .val (.int (((58 : Int32) &&& (255 : Int32)).toUInt32.toUInt16.toUInt32.toInt32)), .unset, .unset, .unset] d16_26 rfl rfl ?_
  have e58 : (((58 : Int32) &&& (255 : Int32)).toUInt32.toUInt16.toUInt32.toInt32) = 58 := by decide
  have HB0 : ∀ x9 x10 x11 : Int32, Last (MarkN ds 7) 0 R → Y.Ends pg ev below (GN Z [] (RP s.heap (fun w => ∃ Q : Int32, w = .int Q ∧ Last (MarkN ds 7) 1 Q)) ({ frames := 0, cells := 0, slots := 0, locals := 0 } : Room) s) (T.setTop (mkF m 28 #[.val (.ref s1), .val (.int (7 : Int32)), .val (.ref t1), .val (.int (7 : Int32)), .val (.int (0 : Int32)), .val (.int (6 : Int32)), .val (.int (5 : Int32)), .val (.int (6 : Int32)), .val (.int (((58 : Int32) &&& (255 : Int32)).toUInt32.toUInt16.toUInt32.toInt32)), .val (.int x9), .val (.int x10), .val (.int x11)] [])) := by
    intro x9 x10 x11 HL
    refine X.iload (pc' := 30) d16_28 rfl rfl ?_
    refine X.iload (pc' := 32) d16_30 rfl rfl ?_
    refine X.icY (pc' := 54) d16_32 (by decide) (by decide) (by decide) ?_
    refine X.iload (pc' := 56) d16_54 rfl rfl ?_
    refine X.iload (pc' := 58) d16_56 rfl rfl ?_
    refine X.icN (pc' := 61) d16_58 (by decide) rfl ?_
    refine X.iconst (pc' := 62) (-1 : Int32) d16_61 rfl rfl ?_
    obtain rfl := HL.nul
    exact X.retIN (by simp) rfl d16_62 (by decide) (by decide) ⟨_, rfl, rfl, _, rfl, HL0⟩
  have HA0 : Last (MarkN ds 7) 0 R → Y.Ends pg ev below (GN Z [] (RP s.heap (fun w => ∃ Q : Int32, w = .int Q ∧ Last (MarkN ds 7) 1 Q)) ({ frames := 0, cells := 0, slots := 0, locals := 0 } : Room) s) (T.setTop (mkF m 28 #[.val (.ref s1), .val (.int (7 : Int32)), .val (.ref t1), .val (.int (7 : Int32)), .val (.int (0 : Int32)), .val (.int (6 : Int32)), .val (.int (5 : Int32)), .val (.int (6 : Int32)), .val (.int (((58 : Int32) &&& (255 : Int32)).toUInt32.toUInt16.toUInt32.toInt32)), .unset, .unset, .unset] [])) := by
    intro HL
    refine X.iload (pc' := 30) d16_28 rfl rfl ?_
    refine X.iload (pc' := 32) d16_30 rfl rfl ?_
    refine X.icY (pc' := 54) d16_32 (by decide) (by decide) (by decide) ?_
    refine X.iload (pc' := 56) d16_54 rfl rfl ?_
    refine X.iload (pc' := 58) d16_56 rfl rfl ?_
    refine X.icN (pc' := 61) d16_58 (by decide) rfl ?_
    refine X.iconst (pc' := 62) (-1 : Int32) d16_61 rfl rfl ?_
    obtain rfl := HL.nul
    exact X.retIN (by simp) rfl d16_62 (by decide) (by decide) ⟨_, rfl, rfl, _, rfl, HL0⟩
  have HI1 : ds.getD 6 0 = 58 → Last (MarkN ds 7) 1 R → Y.Ends pg ev below (GN Z [] (RP s.heap (fun w => ∃ Q : Int32, w = .int Q ∧ Last (MarkN ds 7) 1 Q)) ({ frames := 0, cells := 0, slots := 0, locals := 0 } : Room) s) (T.setTop (mkF m 82 #[.val (.ref s1), .val (.int (7 : Int32)), .val (.ref t1), .val (.int (7 : Int32)), .val (.int (0 : Int32)), .val (.int (6 : Int32)), .val (.int (6 : Int32)), .val (.int (6 : Int32)), .val (.int (((58 : Int32) &&& (255 : Int32)).toUInt32.toUInt16.toUInt32.toInt32)), .val (.int (5 : Int32)), .val (.int (-1 : Int32)), .val (.int (5 : Int32))] [])) := by
    intro hc HL
    refine X.iload (pc' := 84) d16_82 rfl rfl ?_
    refine X.iload (pc' := 86) d16_84 rfl rfl ?_
    refine X.icN (pc' := 89) d16_86 (by decide) rfl ?_
    refine X.aloadN (pc' := 90) d16_89 rfl rfl rfl ?_
    refine X.iload (pc' := 92) d16_90 rfl rfl ?_
    refine X.iinc (pc' := 95) #[.val (.ref s1), .val (.int (7 : Int32)), .val (.ref t1), .val (.int (7 : Int32)), .val (.int (0 : Int32)), .val (.int (6 : Int32)), .val (.int (6 : Int32)), .val (.int (6 : Int32)), .val (.int (((58 : Int32) &&& (255 : Int32)).toUInt32.toUInt16.toUInt32.toInt32)), .val (.int (4 : Int32)), .val (.int (-1 : Int32)), .val (.int (5 : Int32))] d16_92 rfl rfl rfl ?_
    refine X.baload (pc' := 96) V_s ⟨by decide, by decide⟩ (v := ((ds.getD 5 0).toInt8.toInt32)) (at_map (i := 5) (by omega)) d16_95 rfl ?_
    refine X.sipush (pc' := 99) (255 : Int32) d16_96 rfl rfl ?_
    refine X.iand (pc' := 100) d16_99 rfl ?_
    rw [byte_in (lat_at hlat 5)]
    refine X.aloadN (pc' := 101) d16_100 rfl rfl rfl ?_
    refine X.iload (pc' := 103) d16_101 rfl rfl ?_
    refine X.iinc (pc' := 106) #[.val (.ref s1), .val (.int (7 : Int32)), .val (.ref t1), .val (.int (7 : Int32)), .val (.int (0 : Int32)), .val (.int (6 : Int32)), .val (.int (6 : Int32)), .val (.int (6 : Int32)), .val (.int (((58 : Int32) &&& (255 : Int32)).toUInt32.toUInt16.toUInt32.toInt32)), .val (.int (4 : Int32)), .val (.int (-1 : Int32)), .val (.int (4 : Int32))] d16_103 rfl rfl rfl ?_
    refine X.baload (pc' := 107) V_t ⟨by decide, by decide⟩ (v := (110 : Int32)) rfl d16_106 rfl ?_
    refine X.sipush (pc' := 110) (255 : Int32) d16_107 rfl rfl ?_
    refine X.iand (pc' := 111) d16_110 rfl ?_
    rw [show (((110 : Int32) &&& (255 : Int32)) : Int32) = (110 : Int32) from by decide]
    by_cases g5 : ds.getD 5 0 = 110
    · refine X.icY (pc' := 82) d16_111 ((teq g5).1) (by decide) (by decide) ?_
      refine X.iload (pc' := 84) d16_82 rfl rfl ?_
      refine X.iload (pc' := 86) d16_84 rfl rfl ?_
      refine X.icN (pc' := 89) d16_86 (by decide) rfl ?_
      refine X.aloadN (pc' := 90) d16_89 rfl rfl rfl ?_
      refine X.iload (pc' := 92) d16_90 rfl rfl ?_
      refine X.iinc (pc' := 95) #[.val (.ref s1), .val (.int (7 : Int32)), .val (.ref t1), .val (.int (7 : Int32)), .val (.int (0 : Int32)), .val (.int (6 : Int32)), .val (.int (6 : Int32)), .val (.int (6 : Int32)), .val (.int (((58 : Int32) &&& (255 : Int32)).toUInt32.toUInt16.toUInt32.toInt32)), .val (.int (3 : Int32)), .val (.int (-1 : Int32)), .val (.int (4 : Int32))] d16_92 rfl rfl rfl ?_
      refine X.baload (pc' := 96) V_s ⟨by decide, by decide⟩ (v := ((ds.getD 4 0).toInt8.toInt32)) (at_map (i := 4) (by omega)) d16_95 rfl ?_
      refine X.sipush (pc' := 99) (255 : Int32) d16_96 rfl rfl ?_
      refine X.iand (pc' := 100) d16_99 rfl ?_
      rw [byte_in (lat_at hlat 4)]
      refine X.aloadN (pc' := 101) d16_100 rfl rfl rfl ?_
      refine X.iload (pc' := 103) d16_101 rfl rfl ?_
      refine X.iinc (pc' := 106) #[.val (.ref s1), .val (.int (7 : Int32)), .val (.ref t1), .val (.int (7 : Int32)), .val (.int (0 : Int32)), .val (.int (6 : Int32)), .val (.int (6 : Int32)), .val (.int (6 : Int32)), .val (.int (((58 : Int32) &&& (255 : Int32)).toUInt32.toUInt16.toUInt32.toInt32)), .val (.int (3 : Int32)), .val (.int (-1 : Int32)), .val (.int (3 : Int32))] d16_103 rfl rfl rfl ?_
      refine X.baload (pc' := 107) V_t ⟨by decide, by decide⟩ (v := (101 : Int32)) rfl d16_106 rfl ?_
      refine X.sipush (pc' := 110) (255 : Int32) d16_107 rfl rfl ?_
      refine X.iand (pc' := 111) d16_110 rfl ?_
      rw [show (((101 : Int32) &&& (255 : Int32)) : Int32) = (101 : Int32) from by decide]
      by_cases g4 : ds.getD 4 0 = 101
      · refine X.icY (pc' := 82) d16_111 ((teq g4).1) (by decide) (by decide) ?_
        refine X.iload (pc' := 84) d16_82 rfl rfl ?_
        refine X.iload (pc' := 86) d16_84 rfl rfl ?_
        refine X.icN (pc' := 89) d16_86 (by decide) rfl ?_
        refine X.aloadN (pc' := 90) d16_89 rfl rfl rfl ?_
        refine X.iload (pc' := 92) d16_90 rfl rfl ?_
        refine X.iinc (pc' := 95) #[.val (.ref s1), .val (.int (7 : Int32)), .val (.ref t1), .val (.int (7 : Int32)), .val (.int (0 : Int32)), .val (.int (6 : Int32)), .val (.int (6 : Int32)), .val (.int (6 : Int32)), .val (.int (((58 : Int32) &&& (255 : Int32)).toUInt32.toUInt16.toUInt32.toInt32)), .val (.int (2 : Int32)), .val (.int (-1 : Int32)), .val (.int (3 : Int32))] d16_92 rfl rfl rfl ?_
        refine X.baload (pc' := 96) V_s ⟨by decide, by decide⟩ (v := ((ds.getD 3 0).toInt8.toInt32)) (at_map (i := 3) (by omega)) d16_95 rfl ?_
        refine X.sipush (pc' := 99) (255 : Int32) d16_96 rfl rfl ?_
        refine X.iand (pc' := 100) d16_99 rfl ?_
        rw [byte_in (lat_at hlat 3)]
        refine X.aloadN (pc' := 101) d16_100 rfl rfl rfl ?_
        refine X.iload (pc' := 103) d16_101 rfl rfl ?_
        refine X.iinc (pc' := 106) #[.val (.ref s1), .val (.int (7 : Int32)), .val (.ref t1), .val (.int (7 : Int32)), .val (.int (0 : Int32)), .val (.int (6 : Int32)), .val (.int (6 : Int32)), .val (.int (6 : Int32)), .val (.int (((58 : Int32) &&& (255 : Int32)).toUInt32.toUInt16.toUInt32.toInt32)), .val (.int (2 : Int32)), .val (.int (-1 : Int32)), .val (.int (2 : Int32))] d16_103 rfl rfl rfl ?_
        refine X.baload (pc' := 107) V_t ⟨by decide, by decide⟩ (v := (107 : Int32)) rfl d16_106 rfl ?_
        refine X.sipush (pc' := 110) (255 : Int32) d16_107 rfl rfl ?_
        refine X.iand (pc' := 111) d16_110 rfl ?_
        rw [show (((107 : Int32) &&& (255 : Int32)) : Int32) = (107 : Int32) from by decide]
        by_cases g3 : ds.getD 3 0 = 107
        · refine X.icY (pc' := 82) d16_111 ((teq g3).1) (by decide) (by decide) ?_
          refine X.iload (pc' := 84) d16_82 rfl rfl ?_
          refine X.iload (pc' := 86) d16_84 rfl rfl ?_
          refine X.icN (pc' := 89) d16_86 (by decide) rfl ?_
          refine X.aloadN (pc' := 90) d16_89 rfl rfl rfl ?_
          refine X.iload (pc' := 92) d16_90 rfl rfl ?_
          refine X.iinc (pc' := 95) #[.val (.ref s1), .val (.int (7 : Int32)), .val (.ref t1), .val (.int (7 : Int32)), .val (.int (0 : Int32)), .val (.int (6 : Int32)), .val (.int (6 : Int32)), .val (.int (6 : Int32)), .val (.int (((58 : Int32) &&& (255 : Int32)).toUInt32.toUInt16.toUInt32.toInt32)), .val (.int (1 : Int32)), .val (.int (-1 : Int32)), .val (.int (2 : Int32))] d16_92 rfl rfl rfl ?_
          refine X.baload (pc' := 96) V_s ⟨by decide, by decide⟩ (v := ((ds.getD 2 0).toInt8.toInt32)) (at_map (i := 2) (by omega)) d16_95 rfl ?_
          refine X.sipush (pc' := 99) (255 : Int32) d16_96 rfl rfl ?_
          refine X.iand (pc' := 100) d16_99 rfl ?_
          rw [byte_in (lat_at hlat 2)]
          refine X.aloadN (pc' := 101) d16_100 rfl rfl rfl ?_
          refine X.iload (pc' := 103) d16_101 rfl rfl ?_
          refine X.iinc (pc' := 106) #[.val (.ref s1), .val (.int (7 : Int32)), .val (.ref t1), .val (.int (7 : Int32)), .val (.int (0 : Int32)), .val (.int (6 : Int32)), .val (.int (6 : Int32)), .val (.int (6 : Int32)), .val (.int (((58 : Int32) &&& (255 : Int32)).toUInt32.toUInt16.toUInt32.toInt32)), .val (.int (1 : Int32)), .val (.int (-1 : Int32)), .val (.int (1 : Int32))] d16_103 rfl rfl rfl ?_
          refine X.baload (pc' := 107) V_t ⟨by decide, by decide⟩ (v := (111 : Int32)) rfl d16_106 rfl ?_
          refine X.sipush (pc' := 110) (255 : Int32) d16_107 rfl rfl ?_
          refine X.iand (pc' := 111) d16_110 rfl ?_
          rw [show (((111 : Int32) &&& (255 : Int32)) : Int32) = (111 : Int32) from by decide]
          by_cases g2 : ds.getD 2 0 = 111
          · refine X.icY (pc' := 82) d16_111 ((teq g2).1) (by decide) (by decide) ?_
            refine X.iload (pc' := 84) d16_82 rfl rfl ?_
            refine X.iload (pc' := 86) d16_84 rfl rfl ?_
            refine X.icN (pc' := 89) d16_86 (by decide) rfl ?_
            refine X.aloadN (pc' := 90) d16_89 rfl rfl rfl ?_
            refine X.iload (pc' := 92) d16_90 rfl rfl ?_
            refine X.iinc (pc' := 95) #[.val (.ref s1), .val (.int (7 : Int32)), .val (.ref t1), .val (.int (7 : Int32)), .val (.int (0 : Int32)), .val (.int (6 : Int32)), .val (.int (6 : Int32)), .val (.int (6 : Int32)), .val (.int (((58 : Int32) &&& (255 : Int32)).toUInt32.toUInt16.toUInt32.toInt32)), .val (.int (0 : Int32)), .val (.int (-1 : Int32)), .val (.int (1 : Int32))] d16_92 rfl rfl rfl ?_
            refine X.baload (pc' := 96) V_s ⟨by decide, by decide⟩ (v := ((ds.getD 1 0).toInt8.toInt32)) (at_map (i := 1) (by omega)) d16_95 rfl ?_
            refine X.sipush (pc' := 99) (255 : Int32) d16_96 rfl rfl ?_
            refine X.iand (pc' := 100) d16_99 rfl ?_
            rw [byte_in (lat_at hlat 1)]
            refine X.aloadN (pc' := 101) d16_100 rfl rfl rfl ?_
            refine X.iload (pc' := 103) d16_101 rfl rfl ?_
            refine X.iinc (pc' := 106) #[.val (.ref s1), .val (.int (7 : Int32)), .val (.ref t1), .val (.int (7 : Int32)), .val (.int (0 : Int32)), .val (.int (6 : Int32)), .val (.int (6 : Int32)), .val (.int (6 : Int32)), .val (.int (((58 : Int32) &&& (255 : Int32)).toUInt32.toUInt16.toUInt32.toInt32)), .val (.int (0 : Int32)), .val (.int (-1 : Int32)), .val (.int (0 : Int32))] d16_103 rfl rfl rfl ?_
            refine X.baload (pc' := 107) V_t ⟨by decide, by decide⟩ (v := (119 : Int32)) rfl d16_106 rfl ?_
            refine X.sipush (pc' := 110) (255 : Int32) d16_107 rfl rfl ?_
            refine X.iand (pc' := 111) d16_110 rfl ?_
            rw [show (((119 : Int32) &&& (255 : Int32)) : Int32) = (119 : Int32) from by decide]
            by_cases g1 : ds.getD 1 0 = 119
            · refine X.icY (pc' := 82) d16_111 ((teq g1).1) (by decide) (by decide) ?_
              refine X.iload (pc' := 84) d16_82 rfl rfl ?_
              refine X.iload (pc' := 86) d16_84 rfl rfl ?_
              refine X.icN (pc' := 89) d16_86 (by decide) rfl ?_
              refine X.aloadN (pc' := 90) d16_89 rfl rfl rfl ?_
              refine X.iload (pc' := 92) d16_90 rfl rfl ?_
              refine X.iinc (pc' := 95) #[.val (.ref s1), .val (.int (7 : Int32)), .val (.ref t1), .val (.int (7 : Int32)), .val (.int (0 : Int32)), .val (.int (6 : Int32)), .val (.int (6 : Int32)), .val (.int (6 : Int32)), .val (.int (((58 : Int32) &&& (255 : Int32)).toUInt32.toUInt16.toUInt32.toInt32)), .val (.int (-1 : Int32)), .val (.int (-1 : Int32)), .val (.int (0 : Int32))] d16_92 rfl rfl rfl ?_
              refine X.baload (pc' := 96) V_s ⟨by decide, by decide⟩ (v := ((ds.getD 0 0).toInt8.toInt32)) (at_map (i := 0) (by omega)) d16_95 rfl ?_
              refine X.sipush (pc' := 99) (255 : Int32) d16_96 rfl rfl ?_
              refine X.iand (pc' := 100) d16_99 rfl ?_
              rw [byte_in (lat_at hlat 0)]
              refine X.aloadN (pc' := 101) d16_100 rfl rfl rfl ?_
              refine X.iload (pc' := 103) d16_101 rfl rfl ?_
              refine X.iinc (pc' := 106) #[.val (.ref s1), .val (.int (7 : Int32)), .val (.ref t1), .val (.int (7 : Int32)), .val (.int (0 : Int32)), .val (.int (6 : Int32)), .val (.int (6 : Int32)), .val (.int (6 : Int32)), .val (.int (((58 : Int32) &&& (255 : Int32)).toUInt32.toUInt16.toUInt32.toInt32)), .val (.int (-1 : Int32)), .val (.int (-1 : Int32)), .val (.int (-1 : Int32))] d16_103 rfl rfl rfl ?_
              refine X.baload (pc' := 107) V_t ⟨by decide, by decide⟩ (v := (32 : Int32)) rfl d16_106 rfl ?_
              refine X.sipush (pc' := 110) (255 : Int32) d16_107 rfl rfl ?_
              refine X.iand (pc' := 111) d16_110 rfl ?_
              rw [show (((32 : Int32) &&& (255 : Int32)) : Int32) = (32 : Int32) from by decide]
              by_cases g0 : ds.getD 0 0 = 32
              · refine X.icY (pc' := 82) d16_111 ((teq g0).1) (by decide) (by decide) ?_
                refine X.iload (pc' := 84) d16_82 rfl rfl ?_
                refine X.iload (pc' := 86) d16_84 rfl rfl ?_
                refine X.icY (pc' := 120) d16_86 (by decide) (by decide) (by decide) ?_
                refine X.iload (pc' := 122) d16_120 rfl rfl ?_
                refine X.iconst (pc' := 123) (1 : Int32) d16_122 rfl rfl ?_
                refine X.iadd (pc' := 124) d16_123 rfl ?_
                rw [show (((-1 : Int32) + (1 : Int32)) : Int32) = (Int32.ofNat 0) from by decide]
                obtain rfl := HL.top (k := 0) (mk_of (by decide) g0 g1 g2 g3 g4 g5 hc)
                exact X.retIN (by simp) rfl d16_124 (by decide) (by decide) ⟨_, rfl, rfl, _, rfl, HL0⟩
              · refine X.icN (pc' := 114) d16_111 ((feq g0).1) rfl ?_
                refine X.iinc (pc' := 117) #[.val (.ref s1), .val (.int (7 : Int32)), .val (.ref t1), .val (.int (7 : Int32)), .val (.int (0 : Int32)), .val (.int (6 : Int32)), .val (.int (5 : Int32)), .val (.int (6 : Int32)), .val (.int (((58 : Int32) &&& (255 : Int32)).toUInt32.toUInt16.toUInt32.toInt32)), .val (.int (-1 : Int32)), .val (.int (-1 : Int32)), .val (.int (-1 : Int32))] d16_114 rfl rfl rfl ?_
                refine X.goto (pc' := 28) d16_117 (by decide) (by decide) ?_
                exact HB0 (-1 : Int32) (-1 : Int32) (-1 : Int32) (HL.down (k := 0) (fun q => g0 (q.2 0 (by decide))))
            · refine X.icN (pc' := 114) d16_111 ((feq g1).1) rfl ?_
              refine X.iinc (pc' := 117) #[.val (.ref s1), .val (.int (7 : Int32)), .val (.ref t1), .val (.int (7 : Int32)), .val (.int (0 : Int32)), .val (.int (6 : Int32)), .val (.int (5 : Int32)), .val (.int (6 : Int32)), .val (.int (((58 : Int32) &&& (255 : Int32)).toUInt32.toUInt16.toUInt32.toInt32)), .val (.int (0 : Int32)), .val (.int (-1 : Int32)), .val (.int (0 : Int32))] d16_114 rfl rfl rfl ?_
              refine X.goto (pc' := 28) d16_117 (by decide) (by decide) ?_
              exact HB0 (0 : Int32) (-1 : Int32) (0 : Int32) (HL.down (k := 0) (fun q => g1 (q.2 1 (by decide))))
          · refine X.icN (pc' := 114) d16_111 ((feq g2).1) rfl ?_
            refine X.iinc (pc' := 117) #[.val (.ref s1), .val (.int (7 : Int32)), .val (.ref t1), .val (.int (7 : Int32)), .val (.int (0 : Int32)), .val (.int (6 : Int32)), .val (.int (5 : Int32)), .val (.int (6 : Int32)), .val (.int (((58 : Int32) &&& (255 : Int32)).toUInt32.toUInt16.toUInt32.toInt32)), .val (.int (1 : Int32)), .val (.int (-1 : Int32)), .val (.int (1 : Int32))] d16_114 rfl rfl rfl ?_
            refine X.goto (pc' := 28) d16_117 (by decide) (by decide) ?_
            exact HB0 (1 : Int32) (-1 : Int32) (1 : Int32) (HL.down (k := 0) (fun q => g2 (q.2 2 (by decide))))
        · refine X.icN (pc' := 114) d16_111 ((feq g3).1) rfl ?_
          refine X.iinc (pc' := 117) #[.val (.ref s1), .val (.int (7 : Int32)), .val (.ref t1), .val (.int (7 : Int32)), .val (.int (0 : Int32)), .val (.int (6 : Int32)), .val (.int (5 : Int32)), .val (.int (6 : Int32)), .val (.int (((58 : Int32) &&& (255 : Int32)).toUInt32.toUInt16.toUInt32.toInt32)), .val (.int (2 : Int32)), .val (.int (-1 : Int32)), .val (.int (2 : Int32))] d16_114 rfl rfl rfl ?_
          refine X.goto (pc' := 28) d16_117 (by decide) (by decide) ?_
          exact HB0 (2 : Int32) (-1 : Int32) (2 : Int32) (HL.down (k := 0) (fun q => g3 (q.2 3 (by decide))))
      · refine X.icN (pc' := 114) d16_111 ((feq g4).1) rfl ?_
        refine X.iinc (pc' := 117) #[.val (.ref s1), .val (.int (7 : Int32)), .val (.ref t1), .val (.int (7 : Int32)), .val (.int (0 : Int32)), .val (.int (6 : Int32)), .val (.int (5 : Int32)), .val (.int (6 : Int32)), .val (.int (((58 : Int32) &&& (255 : Int32)).toUInt32.toUInt16.toUInt32.toInt32)), .val (.int (3 : Int32)), .val (.int (-1 : Int32)), .val (.int (3 : Int32))] d16_114 rfl rfl rfl ?_
        refine X.goto (pc' := 28) d16_117 (by decide) (by decide) ?_
        exact HB0 (3 : Int32) (-1 : Int32) (3 : Int32) (HL.down (k := 0) (fun q => g4 (q.2 4 (by decide))))
    · refine X.icN (pc' := 114) d16_111 ((feq g5).1) rfl ?_
      refine X.iinc (pc' := 117) #[.val (.ref s1), .val (.int (7 : Int32)), .val (.ref t1), .val (.int (7 : Int32)), .val (.int (0 : Int32)), .val (.int (6 : Int32)), .val (.int (5 : Int32)), .val (.int (6 : Int32)), .val (.int (((58 : Int32) &&& (255 : Int32)).toUInt32.toUInt16.toUInt32.toInt32)), .val (.int (4 : Int32)), .val (.int (-1 : Int32)), .val (.int (4 : Int32))] d16_114 rfl rfl rfl ?_
      refine X.goto (pc' := 28) d16_117 (by decide) (by decide) ?_
      exact HB0 (4 : Int32) (-1 : Int32) (4 : Int32) (HL.down (k := 0) (fun q => g5 (q.2 5 (by decide))))
  have HB1 : ∀ x9 x10 x11 : Int32, Last (MarkN ds 7) 1 R → Y.Ends pg ev below (GN Z [] (RP s.heap (fun w => ∃ Q : Int32, w = .int Q ∧ Last (MarkN ds 7) 1 Q)) ({ frames := 0, cells := 0, slots := 0, locals := 0 } : Room) s) (T.setTop (mkF m 28 #[.val (.ref s1), .val (.int (7 : Int32)), .val (.ref t1), .val (.int (7 : Int32)), .val (.int (0 : Int32)), .val (.int (6 : Int32)), .val (.int (6 : Int32)), .val (.int (6 : Int32)), .val (.int (((58 : Int32) &&& (255 : Int32)).toUInt32.toUInt16.toUInt32.toInt32)), .val (.int x9), .val (.int x10), .val (.int x11)] [])) := by
    intro x9 x10 x11 HL
    refine X.iload (pc' := 30) d16_28 rfl rfl ?_
    refine X.iload (pc' := 32) d16_30 rfl rfl ?_
    refine X.icN (pc' := 35) d16_32 (by decide) rfl ?_
    refine X.aloadN (pc' := 36) d16_35 rfl rfl rfl ?_
    refine X.iload (pc' := 38) d16_36 rfl rfl ?_
    refine X.baload (pc' := 39) V_s ⟨by decide, by decide⟩ (v := ((ds.getD 6 0).toInt8.toInt32)) (at_map (i := 6) (by omega)) d16_38 rfl ?_
    refine X.sipush (pc' := 42) (255 : Int32) d16_39 rfl rfl ?_
    refine X.iand (pc' := 43) d16_42 rfl ?_
    rw [byte_in (lat_at hlat 6)]
    refine X.iload (pc' := 45) d16_43 rfl rfl ?_
    by_cases hc : ds.getD 6 0 = 58
    · refine X.icY (pc' := 54) d16_45 ((teq (by rw [e58]; exact hc)).1) (by decide) (by decide) ?_
      refine X.iload (pc' := 56) d16_54 rfl rfl ?_
      refine X.iload (pc' := 58) d16_56 rfl rfl ?_
      refine X.icY (pc' := 63) d16_58 (by decide) (by decide) (by decide) ?_
      refine X.iload (pc' := 65) d16_63 rfl rfl ?_
      refine X.iconst (pc' := 66) (1 : Int32) d16_65 rfl rfl ?_
      refine X.isub (pc' := 67) d16_66 rfl ?_
      rw [show (((6 : Int32) - (1 : Int32)) : Int32) = (5 : Int32) from by decide]
      refine X.istore (pc' := 69) #[.val (.ref s1), .val (.int (7 : Int32)), .val (.ref t1), .val (.int (7 : Int32)), .val (.int (0 : Int32)), .val (.int (6 : Int32)), .val (.int (6 : Int32)), .val (.int (6 : Int32)), .val (.int (((58 : Int32) &&& (255 : Int32)).toUInt32.toUInt16.toUInt32.toInt32)), .val (.int (5 : Int32)), .val (.int x10), .val (.int x11)] d16_67 rfl rfl ?_
      refine X.iload (pc' := 71) d16_69 rfl rfl ?_
      refine X.iload (pc' := 73) d16_71 rfl rfl ?_
      refine X.isub (pc' := 74) d16_73 rfl ?_
      rw [show (((5 : Int32) - (6 : Int32)) : Int32) = (-1 : Int32) from by decide]
      refine X.istore (pc' := 76) #[.val (.ref s1), .val (.int (7 : Int32)), .val (.ref t1), .val (.int (7 : Int32)), .val (.int (0 : Int32)), .val (.int (6 : Int32)), .val (.int (6 : Int32)), .val (.int (6 : Int32)), .val (.int (((58 : Int32) &&& (255 : Int32)).toUInt32.toUInt16.toUInt32.toInt32)), .val (.int (5 : Int32)), .val (.int (-1 : Int32)), .val (.int x11)] d16_74 rfl rfl ?_
      refine X.iload (pc' := 78) d16_76 rfl rfl ?_
      refine X.iconst (pc' := 79) (1 : Int32) d16_78 rfl rfl ?_
      refine X.isub (pc' := 80) d16_79 rfl ?_
      rw [show (((6 : Int32) - (1 : Int32)) : Int32) = (5 : Int32) from by decide]
      refine X.istore (pc' := 82) #[.val (.ref s1), .val (.int (7 : Int32)), .val (.ref t1), .val (.int (7 : Int32)), .val (.int (0 : Int32)), .val (.int (6 : Int32)), .val (.int (6 : Int32)), .val (.int (6 : Int32)), .val (.int (((58 : Int32) &&& (255 : Int32)).toUInt32.toUInt16.toUInt32.toInt32)), .val (.int (5 : Int32)), .val (.int (-1 : Int32)), .val (.int (5 : Int32))] d16_80 rfl rfl ?_
      exact HI1 hc HL
    · refine X.icN (pc' := 48) d16_45 ((feq (by rw [e58]; exact hc)).1) rfl ?_
      refine X.iinc (pc' := 51) #[.val (.ref s1), .val (.int (7 : Int32)), .val (.ref t1), .val (.int (7 : Int32)), .val (.int (0 : Int32)), .val (.int (6 : Int32)), .val (.int (5 : Int32)), .val (.int (6 : Int32)), .val (.int (((58 : Int32) &&& (255 : Int32)).toUInt32.toUInt16.toUInt32.toInt32)), .val (.int x9), .val (.int x10), .val (.int x11)] d16_48 rfl rfl rfl ?_
      refine X.goto (pc' := 28) d16_51 (by decide) (by decide) ?_
      exact HB0 x9 x10 x11 (HL.down (k := 0) (fun q => hc (q.2 6 (by decide))))
  have HA1 : Last (MarkN ds 7) 1 R → Y.Ends pg ev below (GN Z [] (RP s.heap (fun w => ∃ Q : Int32, w = .int Q ∧ Last (MarkN ds 7) 1 Q)) ({ frames := 0, cells := 0, slots := 0, locals := 0 } : Room) s) (T.setTop (mkF m 28 #[.val (.ref s1), .val (.int (7 : Int32)), .val (.ref t1), .val (.int (7 : Int32)), .val (.int (0 : Int32)), .val (.int (6 : Int32)), .val (.int (6 : Int32)), .val (.int (6 : Int32)), .val (.int (((58 : Int32) &&& (255 : Int32)).toUInt32.toUInt16.toUInt32.toInt32)), .unset, .unset, .unset] [])) := by
    intro HL
    refine X.iload (pc' := 30) d16_28 rfl rfl ?_
    refine X.iload (pc' := 32) d16_30 rfl rfl ?_
    refine X.icN (pc' := 35) d16_32 (by decide) rfl ?_
    refine X.aloadN (pc' := 36) d16_35 rfl rfl rfl ?_
    refine X.iload (pc' := 38) d16_36 rfl rfl ?_
    refine X.baload (pc' := 39) V_s ⟨by decide, by decide⟩ (v := ((ds.getD 6 0).toInt8.toInt32)) (at_map (i := 6) (by omega)) d16_38 rfl ?_
    refine X.sipush (pc' := 42) (255 : Int32) d16_39 rfl rfl ?_
    refine X.iand (pc' := 43) d16_42 rfl ?_
    rw [byte_in (lat_at hlat 6)]
    refine X.iload (pc' := 45) d16_43 rfl rfl ?_
    by_cases hc : ds.getD 6 0 = 58
    · refine X.icY (pc' := 54) d16_45 ((teq (by rw [e58]; exact hc)).1) (by decide) (by decide) ?_
      refine X.iload (pc' := 56) d16_54 rfl rfl ?_
      refine X.iload (pc' := 58) d16_56 rfl rfl ?_
      refine X.icY (pc' := 63) d16_58 (by decide) (by decide) (by decide) ?_
      refine X.iload (pc' := 65) d16_63 rfl rfl ?_
      refine X.iconst (pc' := 66) (1 : Int32) d16_65 rfl rfl ?_
      refine X.isub (pc' := 67) d16_66 rfl ?_
      rw [show (((6 : Int32) - (1 : Int32)) : Int32) = (5 : Int32) from by decide]
      refine X.istore (pc' := 69) #[.val (.ref s1), .val (.int (7 : Int32)), .val (.ref t1), .val (.int (7 : Int32)), .val (.int (0 : Int32)), .val (.int (6 : Int32)), .val (.int (6 : Int32)), .val (.int (6 : Int32)), .val (.int (((58 : Int32) &&& (255 : Int32)).toUInt32.toUInt16.toUInt32.toInt32)), .val (.int (5 : Int32)), .unset, .unset] d16_67 rfl rfl ?_
      refine X.iload (pc' := 71) d16_69 rfl rfl ?_
      refine X.iload (pc' := 73) d16_71 rfl rfl ?_
      refine X.isub (pc' := 74) d16_73 rfl ?_
      rw [show (((5 : Int32) - (6 : Int32)) : Int32) = (-1 : Int32) from by decide]
      refine X.istore (pc' := 76) #[.val (.ref s1), .val (.int (7 : Int32)), .val (.ref t1), .val (.int (7 : Int32)), .val (.int (0 : Int32)), .val (.int (6 : Int32)), .val (.int (6 : Int32)), .val (.int (6 : Int32)), .val (.int (((58 : Int32) &&& (255 : Int32)).toUInt32.toUInt16.toUInt32.toInt32)), .val (.int (5 : Int32)), .val (.int (-1 : Int32)), .unset] d16_74 rfl rfl ?_
      refine X.iload (pc' := 78) d16_76 rfl rfl ?_
      refine X.iconst (pc' := 79) (1 : Int32) d16_78 rfl rfl ?_
      refine X.isub (pc' := 80) d16_79 rfl ?_
      rw [show (((6 : Int32) - (1 : Int32)) : Int32) = (5 : Int32) from by decide]
      refine X.istore (pc' := 82) #[.val (.ref s1), .val (.int (7 : Int32)), .val (.ref t1), .val (.int (7 : Int32)), .val (.int (0 : Int32)), .val (.int (6 : Int32)), .val (.int (6 : Int32)), .val (.int (6 : Int32)), .val (.int (((58 : Int32) &&& (255 : Int32)).toUInt32.toUInt16.toUInt32.toInt32)), .val (.int (5 : Int32)), .val (.int (-1 : Int32)), .val (.int (5 : Int32))] d16_80 rfl rfl ?_
      exact HI1 hc HL
    · refine X.icN (pc' := 48) d16_45 ((feq (by rw [e58]; exact hc)).1) rfl ?_
      refine X.iinc (pc' := 51) #[.val (.ref s1), .val (.int (7 : Int32)), .val (.ref t1), .val (.int (7 : Int32)), .val (.int (0 : Int32)), .val (.int (6 : Int32)), .val (.int (5 : Int32)), .val (.int (6 : Int32)), .val (.int (((58 : Int32) &&& (255 : Int32)).toUInt32.toUInt16.toUInt32.toInt32)), .unset, .unset, .unset] d16_48 rfl rfl rfl ?_
      refine X.goto (pc' := 28) d16_51 (by decide) (by decide) ?_
      exact HA0  (HL.down (k := 0) (fun q => hc (q.2 6 (by decide))))
  exact HA1 HL0
set_option maxRecDepth 65536 in
set_option maxHeartbeats 40000000 in
theorem ef_rmSLI_16 (m : MethodId) (s1 : Addr) (t1 : Addr) : entryFrame m #[(.ref s1), (.int (16 : Int32)), (.ref t1), (.int (7 : Int32)), (.int (9 : Int32))] 12 = mkF m 0 #[.val (.ref s1), .val (.int (16 : Int32)), .val (.ref t1), .val (.int (7 : Int32)), .val (.int (9 : Int32)), .unset, .unset, .unset, .unset, .unset, .unset, .unset] [] := by first | (simp [entryFrame, mkF, argsToLocals, Value.category]; done) | (rfl)
set_option maxRecDepth 65536 in
set_option maxHeartbeats 40000000 in
theorem rmSLI_16 (l : Launch) (Z : State) (a0 : Array Value) (hw : ∀ d ∈ tables_1, d.before a0 Z = true) (s1 : Addr) (t1 : Addr) (h0 : Heap) (O : Ext Z.heap h0) (ks kt : ClassId) (ds : List Int32) (hl : ds.length = 16) (hlat : ∀ c ∈ ds, ¬ c < 0 ∧ ¬ (255 : Int32) < c) (V_s : Arv Z h0 s1 ks .byte (16 : Int32) (ds.map fun c => Value.int (c.toInt8.toInt32)) (.int 0)) (V_t : Arv Z h0 t1 kt .byte 7 [(.int (32 : Int32)), (.int (119 : Int32)), (.int (111 : Int32)), (.int (107 : Int32)), (.int (101 : Int32)), (.int (110 : Int32)), (.int (58 : Int32))] (.int 0)) (R : Int32) (HL0 : Last (MarkN ds 16) 10 R) :
    MN l Z (⟨"java/lang/StringLatin1", "lastIndexOf", "([BI[BII)I"⟩ : MethodName) jdk_43_method_26_code 12 (some .int) [] ({ frames := 0, cells := 0, slots := 0, locals := 0 } : Room) #[(.ref s1), (.int (16 : Int32)), (.ref t1), (.int (7 : Int32)), (.int (9 : Int32))] h0 [] (RP h0 (fun w => ∃ Q : Int32, w = .int Q ∧ Last (MarkN ds 16) 10 Q)) := by
  refine MN.mk (a0 := a0) rfl rfl (plainFor_of_name pn2) O (fun m => ef_rmSLI_16 m s1 t1) ?_
  intro pg ev s m below meth cd T hh X
  subst hh
  refine X.iloadN (pc' := 1) d16_0 rfl rfl ?_
  refine X.iconst (pc' := 2) (1 : Int32) d16_1 rfl rfl ?_
  refine X.isub (pc' := 3) d16_2 rfl ?_
  rw [show (((7 : Int32) - (1 : Int32)) : Int32) = (6 : Int32) from by decide]
  refine X.istore (pc' := 5) #[.val (.ref s1), .val (.int (16 : Int32)), .val (.ref t1), .val (.int (7 : Int32)), .val (.int (9 : Int32)), .val (.int (6 : Int32)), .unset, .unset, .unset, .unset, .unset, .unset] d16_3 rfl rfl ?_
  refine X.iload (pc' := 7) d16_5 rfl rfl ?_
  refine X.iload (pc' := 9) d16_7 rfl rfl ?_
  refine X.iadd (pc' := 10) d16_9 rfl ?_
  rw [show (((6 : Int32) + (9 : Int32)) : Int32) = (15 : Int32) from by decide]
  refine X.istore (pc' := 12) #[.val (.ref s1), .val (.int (16 : Int32)), .val (.ref t1), .val (.int (7 : Int32)), .val (.int (9 : Int32)), .val (.int (6 : Int32)), .val (.int (15 : Int32)), .unset, .unset, .unset, .unset, .unset] d16_10 rfl rfl ?_
  refine X.iloadN (pc' := 13) d16_12 rfl rfl ?_
  refine X.iconst (pc' := 14) (1 : Int32) d16_13 rfl rfl ?_
  refine X.isub (pc' := 15) d16_14 rfl ?_
  rw [show (((7 : Int32) - (1 : Int32)) : Int32) = (6 : Int32) from by decide]
  refine X.istore (pc' := 17) #[.val (.ref s1), .val (.int (16 : Int32)), .val (.ref t1), .val (.int (7 : Int32)), .val (.int (9 : Int32)), .val (.int (6 : Int32)), .val (.int (15 : Int32)), .val (.int (6 : Int32)), .unset, .unset, .unset, .unset] d16_15 rfl rfl ?_
  refine X.aloadN (pc' := 18) d16_17 rfl rfl rfl ?_
  refine X.iload (pc' := 20) d16_18 rfl rfl ?_
  refine X.baload (pc' := 21) V_t ⟨by decide, by decide⟩ (v := (58 : Int32)) rfl d16_20 rfl ?_
  refine X.sipush (pc' := 24) (255 : Int32) d16_21 rfl rfl ?_
  refine X.iand (pc' := 25) d16_24 rfl ?_
  refine X.i2c (pc' := 26) d16_25 rfl ?_
  refine X.istore (pc' := 28) #[.val (.ref s1), .val (.int (16 : Int32)), .val (.ref t1), .val (.int (7 : Int32)), .val (.int (9 : Int32)), .val (.int (6 : Int32)), .val (.int (15 : Int32)), .val (.int (6 : Int32)), .val (.int (((58 : Int32) &&& (255 : Int32)).toUInt32.toUInt16.toUInt32.toInt32)), .unset, .unset, .unset] d16_26 rfl rfl ?_
  have e58 : (((58 : Int32) &&& (255 : Int32)).toUInt32.toUInt16.toUInt32.toInt32) = 58 := by decide
  have HB0 : ∀ x9 x10 x11 : Int32, Last (MarkN ds 16) 0 R → Y.Ends pg ev below (GN Z [] (RP s.heap (fun w => ∃ Q : Int32, w = .int Q ∧ Last (MarkN ds 16) 10 Q)) ({ frames := 0, cells := 0, slots := 0, locals := 0 } : Room) s) (T.setTop (mkF m 28 #[.val (.ref s1), .val (.int (16 : Int32)), .val (.ref t1), .val (.int (7 : Int32)), .val (.int (9 : Int32)), .val (.int (6 : Int32)), .val (.int (5 : Int32)), .val (.int (6 : Int32)), .val (.int (((58 : Int32) &&& (255 : Int32)).toUInt32.toUInt16.toUInt32.toInt32)), .val (.int x9), .val (.int x10), .val (.int x11)] [])) := by
    intro x9 x10 x11 HL
    refine X.iload (pc' := 30) d16_28 rfl rfl ?_
    refine X.iload (pc' := 32) d16_30 rfl rfl ?_
    refine X.icY (pc' := 54) d16_32 (by decide) (by decide) (by decide) ?_
    refine X.iload (pc' := 56) d16_54 rfl rfl ?_
    refine X.iload (pc' := 58) d16_56 rfl rfl ?_
    refine X.icN (pc' := 61) d16_58 (by decide) rfl ?_
    refine X.iconst (pc' := 62) (-1 : Int32) d16_61 rfl rfl ?_
    obtain rfl := HL.nul
    exact X.retIN (by simp) rfl d16_62 (by decide) (by decide) ⟨_, rfl, rfl, _, rfl, HL0⟩
  have HA0 : Last (MarkN ds 16) 0 R → Y.Ends pg ev below (GN Z [] (RP s.heap (fun w => ∃ Q : Int32, w = .int Q ∧ Last (MarkN ds 16) 10 Q)) ({ frames := 0, cells := 0, slots := 0, locals := 0 } : Room) s) (T.setTop (mkF m 28 #[.val (.ref s1), .val (.int (16 : Int32)), .val (.ref t1), .val (.int (7 : Int32)), .val (.int (9 : Int32)), .val (.int (6 : Int32)), .val (.int (5 : Int32)), .val (.int (6 : Int32)), .val (.int (((58 : Int32) &&& (255 : Int32)).toUInt32.toUInt16.toUInt32.toInt32)), .unset, .unset, .unset] [])) := by
    intro HL
    refine X.iload (pc' := 30) d16_28 rfl rfl ?_
    refine X.iload (pc' := 32) d16_30 rfl rfl ?_
    refine X.icY (pc' := 54) d16_32 (by decide) (by decide) (by decide) ?_
    refine X.iload (pc' := 56) d16_54 rfl rfl ?_
    refine X.iload (pc' := 58) d16_56 rfl rfl ?_
    refine X.icN (pc' := 61) d16_58 (by decide) rfl ?_
    refine X.iconst (pc' := 62) (-1 : Int32) d16_61 rfl rfl ?_
    obtain rfl := HL.nul
    exact X.retIN (by simp) rfl d16_62 (by decide) (by decide) ⟨_, rfl, rfl, _, rfl, HL0⟩
  have HI1 : ds.getD 6 0 = 58 → Last (MarkN ds 16) 1 R → Y.Ends pg ev below (GN Z [] (RP s.heap (fun w => ∃ Q : Int32, w = .int Q ∧ Last (MarkN ds 16) 10 Q)) ({ frames := 0, cells := 0, slots := 0, locals := 0 } : Room) s) (T.setTop (mkF m 82 #[.val (.ref s1), .val (.int (16 : Int32)), .val (.ref t1), .val (.int (7 : Int32)), .val (.int (9 : Int32)), .val (.int (6 : Int32)), .val (.int (6 : Int32)), .val (.int (6 : Int32)), .val (.int (((58 : Int32) &&& (255 : Int32)).toUInt32.toUInt16.toUInt32.toInt32)), .val (.int (5 : Int32)), .val (.int (-1 : Int32)), .val (.int (5 : Int32))] [])) := by
    intro hc HL
    refine X.iload (pc' := 84) d16_82 rfl rfl ?_
    refine X.iload (pc' := 86) d16_84 rfl rfl ?_
    refine X.icN (pc' := 89) d16_86 (by decide) rfl ?_
    refine X.aloadN (pc' := 90) d16_89 rfl rfl rfl ?_
    refine X.iload (pc' := 92) d16_90 rfl rfl ?_
    refine X.iinc (pc' := 95) #[.val (.ref s1), .val (.int (16 : Int32)), .val (.ref t1), .val (.int (7 : Int32)), .val (.int (9 : Int32)), .val (.int (6 : Int32)), .val (.int (6 : Int32)), .val (.int (6 : Int32)), .val (.int (((58 : Int32) &&& (255 : Int32)).toUInt32.toUInt16.toUInt32.toInt32)), .val (.int (4 : Int32)), .val (.int (-1 : Int32)), .val (.int (5 : Int32))] d16_92 rfl rfl rfl ?_
    refine X.baload (pc' := 96) V_s ⟨by decide, by decide⟩ (v := ((ds.getD 5 0).toInt8.toInt32)) (at_map (i := 5) (by omega)) d16_95 rfl ?_
    refine X.sipush (pc' := 99) (255 : Int32) d16_96 rfl rfl ?_
    refine X.iand (pc' := 100) d16_99 rfl ?_
    rw [byte_in (lat_at hlat 5)]
    refine X.aloadN (pc' := 101) d16_100 rfl rfl rfl ?_
    refine X.iload (pc' := 103) d16_101 rfl rfl ?_
    refine X.iinc (pc' := 106) #[.val (.ref s1), .val (.int (16 : Int32)), .val (.ref t1), .val (.int (7 : Int32)), .val (.int (9 : Int32)), .val (.int (6 : Int32)), .val (.int (6 : Int32)), .val (.int (6 : Int32)), .val (.int (((58 : Int32) &&& (255 : Int32)).toUInt32.toUInt16.toUInt32.toInt32)), .val (.int (4 : Int32)), .val (.int (-1 : Int32)), .val (.int (4 : Int32))] d16_103 rfl rfl rfl ?_
    refine X.baload (pc' := 107) V_t ⟨by decide, by decide⟩ (v := (110 : Int32)) rfl d16_106 rfl ?_
    refine X.sipush (pc' := 110) (255 : Int32) d16_107 rfl rfl ?_
    refine X.iand (pc' := 111) d16_110 rfl ?_
    rw [show (((110 : Int32) &&& (255 : Int32)) : Int32) = (110 : Int32) from by decide]
    by_cases g5 : ds.getD 5 0 = 110
    · refine X.icY (pc' := 82) d16_111 ((teq g5).1) (by decide) (by decide) ?_
      refine X.iload (pc' := 84) d16_82 rfl rfl ?_
      refine X.iload (pc' := 86) d16_84 rfl rfl ?_
      refine X.icN (pc' := 89) d16_86 (by decide) rfl ?_
      refine X.aloadN (pc' := 90) d16_89 rfl rfl rfl ?_
      refine X.iload (pc' := 92) d16_90 rfl rfl ?_
      refine X.iinc (pc' := 95) #[.val (.ref s1), .val (.int (16 : Int32)), .val (.ref t1), .val (.int (7 : Int32)), .val (.int (9 : Int32)), .val (.int (6 : Int32)), .val (.int (6 : Int32)), .val (.int (6 : Int32)), .val (.int (((58 : Int32) &&& (255 : Int32)).toUInt32.toUInt16.toUInt32.toInt32)), .val (.int (3 : Int32)), .val (.int (-1 : Int32)), .val (.int (4 : Int32))] d16_92 rfl rfl rfl ?_
      refine X.baload (pc' := 96) V_s ⟨by decide, by decide⟩ (v := ((ds.getD 4 0).toInt8.toInt32)) (at_map (i := 4) (by omega)) d16_95 rfl ?_
      refine X.sipush (pc' := 99) (255 : Int32) d16_96 rfl rfl ?_
      refine X.iand (pc' := 100) d16_99 rfl ?_
      rw [byte_in (lat_at hlat 4)]
      refine X.aloadN (pc' := 101) d16_100 rfl rfl rfl ?_
      refine X.iload (pc' := 103) d16_101 rfl rfl ?_
      refine X.iinc (pc' := 106) #[.val (.ref s1), .val (.int (16 : Int32)), .val (.ref t1), .val (.int (7 : Int32)), .val (.int (9 : Int32)), .val (.int (6 : Int32)), .val (.int (6 : Int32)), .val (.int (6 : Int32)), .val (.int (((58 : Int32) &&& (255 : Int32)).toUInt32.toUInt16.toUInt32.toInt32)), .val (.int (3 : Int32)), .val (.int (-1 : Int32)), .val (.int (3 : Int32))] d16_103 rfl rfl rfl ?_
      refine X.baload (pc' := 107) V_t ⟨by decide, by decide⟩ (v := (101 : Int32)) rfl d16_106 rfl ?_
      refine X.sipush (pc' := 110) (255 : Int32) d16_107 rfl rfl ?_
      refine X.iand (pc' := 111) d16_110 rfl ?_
      rw [show (((101 : Int32) &&& (255 : Int32)) : Int32) = (101 : Int32) from by decide]
      by_cases g4 : ds.getD 4 0 = 101
      · refine X.icY (pc' := 82) d16_111 ((teq g4).1) (by decide) (by decide) ?_
        refine X.iload (pc' := 84) d16_82 rfl rfl ?_
        refine X.iload (pc' := 86) d16_84 rfl rfl ?_
        refine X.icN (pc' := 89) d16_86 (by decide) rfl ?_
        refine X.aloadN (pc' := 90) d16_89 rfl rfl rfl ?_
        refine X.iload (pc' := 92) d16_90 rfl rfl ?_
        refine X.iinc (pc' := 95) #[.val (.ref s1), .val (.int (16 : Int32)), .val (.ref t1), .val (.int (7 : Int32)), .val (.int (9 : Int32)), .val (.int (6 : Int32)), .val (.int (6 : Int32)), .val (.int (6 : Int32)), .val (.int (((58 : Int32) &&& (255 : Int32)).toUInt32.toUInt16.toUInt32.toInt32)), .val (.int (2 : Int32)), .val (.int (-1 : Int32)), .val (.int (3 : Int32))] d16_92 rfl rfl rfl ?_
        refine X.baload (pc' := 96) V_s ⟨by decide, by decide⟩ (v := ((ds.getD 3 0).toInt8.toInt32)) (at_map (i := 3) (by omega)) d16_95 rfl ?_
        refine X.sipush (pc' := 99) (255 : Int32) d16_96 rfl rfl ?_
        refine X.iand (pc' := 100) d16_99 rfl ?_
        rw [byte_in (lat_at hlat 3)]
        refine X.aloadN (pc' := 101) d16_100 rfl rfl rfl ?_
        refine X.iload (pc' := 103) d16_101 rfl rfl ?_
        refine X.iinc (pc' := 106) #[.val (.ref s1), .val (.int (16 : Int32)), .val (.ref t1), .val (.int (7 : Int32)), .val (.int (9 : Int32)), .val (.int (6 : Int32)), .val (.int (6 : Int32)), .val (.int (6 : Int32)), .val (.int (((58 : Int32) &&& (255 : Int32)).toUInt32.toUInt16.toUInt32.toInt32)), .val (.int (2 : Int32)), .val (.int (-1 : Int32)), .val (.int (2 : Int32))] d16_103 rfl rfl rfl ?_
        refine X.baload (pc' := 107) V_t ⟨by decide, by decide⟩ (v := (107 : Int32)) rfl d16_106 rfl ?_
        refine X.sipush (pc' := 110) (255 : Int32) d16_107 rfl rfl ?_
        refine X.iand (pc' := 111) d16_110 rfl ?_
        rw [show (((107 : Int32) &&& (255 : Int32)) : Int32) = (107 : Int32) from by decide]
        by_cases g3 : ds.getD 3 0 = 107
        · refine X.icY (pc' := 82) d16_111 ((teq g3).1) (by decide) (by decide) ?_
          refine X.iload (pc' := 84) d16_82 rfl rfl ?_
          refine X.iload (pc' := 86) d16_84 rfl rfl ?_
          refine X.icN (pc' := 89) d16_86 (by decide) rfl ?_
          refine X.aloadN (pc' := 90) d16_89 rfl rfl rfl ?_
          refine X.iload (pc' := 92) d16_90 rfl rfl ?_
          refine X.iinc (pc' := 95) #[.val (.ref s1), .val (.int (16 : Int32)), .val (.ref t1), .val (.int (7 : Int32)), .val (.int (9 : Int32)), .val (.int (6 : Int32)), .val (.int (6 : Int32)), .val (.int (6 : Int32)), .val (.int (((58 : Int32) &&& (255 : Int32)).toUInt32.toUInt16.toUInt32.toInt32)), .val (.int (1 : Int32)), .val (.int (-1 : Int32)), .val (.int (2 : Int32))] d16_92 rfl rfl rfl ?_
          refine X.baload (pc' := 96) V_s ⟨by decide, by decide⟩ (v := ((ds.getD 2 0).toInt8.toInt32)) (at_map (i := 2) (by omega)) d16_95 rfl ?_
          refine X.sipush (pc' := 99) (255 : Int32) d16_96 rfl rfl ?_
          refine X.iand (pc' := 100) d16_99 rfl ?_
          rw [byte_in (lat_at hlat 2)]
          refine X.aloadN (pc' := 101) d16_100 rfl rfl rfl ?_
          refine X.iload (pc' := 103) d16_101 rfl rfl ?_
          refine X.iinc (pc' := 106) #[.val (.ref s1), .val (.int (16 : Int32)), .val (.ref t1), .val (.int (7 : Int32)), .val (.int (9 : Int32)), .val (.int (6 : Int32)), .val (.int (6 : Int32)), .val (.int (6 : Int32)), .val (.int (((58 : Int32) &&& (255 : Int32)).toUInt32.toUInt16.toUInt32.toInt32)), .val (.int (1 : Int32)), .val (.int (-1 : Int32)), .val (.int (1 : Int32))] d16_103 rfl rfl rfl ?_
          refine X.baload (pc' := 107) V_t ⟨by decide, by decide⟩ (v := (111 : Int32)) rfl d16_106 rfl ?_
          refine X.sipush (pc' := 110) (255 : Int32) d16_107 rfl rfl ?_
          refine X.iand (pc' := 111) d16_110 rfl ?_
          rw [show (((111 : Int32) &&& (255 : Int32)) : Int32) = (111 : Int32) from by decide]
          by_cases g2 : ds.getD 2 0 = 111
          · refine X.icY (pc' := 82) d16_111 ((teq g2).1) (by decide) (by decide) ?_
            refine X.iload (pc' := 84) d16_82 rfl rfl ?_
            refine X.iload (pc' := 86) d16_84 rfl rfl ?_
            refine X.icN (pc' := 89) d16_86 (by decide) rfl ?_
            refine X.aloadN (pc' := 90) d16_89 rfl rfl rfl ?_
            refine X.iload (pc' := 92) d16_90 rfl rfl ?_
            refine X.iinc (pc' := 95) #[.val (.ref s1), .val (.int (16 : Int32)), .val (.ref t1), .val (.int (7 : Int32)), .val (.int (9 : Int32)), .val (.int (6 : Int32)), .val (.int (6 : Int32)), .val (.int (6 : Int32)), .val (.int (((58 : Int32) &&& (255 : Int32)).toUInt32.toUInt16.toUInt32.toInt32)), .val (.int (0 : Int32)), .val (.int (-1 : Int32)), .val (.int (1 : Int32))] d16_92 rfl rfl rfl ?_
            refine X.baload (pc' := 96) V_s ⟨by decide, by decide⟩ (v := ((ds.getD 1 0).toInt8.toInt32)) (at_map (i := 1) (by omega)) d16_95 rfl ?_
            refine X.sipush (pc' := 99) (255 : Int32) d16_96 rfl rfl ?_
            refine X.iand (pc' := 100) d16_99 rfl ?_
            rw [byte_in (lat_at hlat 1)]
            refine X.aloadN (pc' := 101) d16_100 rfl rfl rfl ?_
            refine X.iload (pc' := 103) d16_101 rfl rfl ?_
            refine X.iinc (pc' := 106) #[.val (.ref s1), .val (.int (16 : Int32)), .val (.ref t1), .val (.int (7 : Int32)), .val (.int (9 : Int32)), .val (.int (6 : Int32)), .val (.int (6 : Int32)), .val (.int (6 : Int32)), .val (.int (((58 : Int32) &&& (255 : Int32)).toUInt32.toUInt16.toUInt32.toInt32)), .val (.int (0 : Int32)), .val (.int (-1 : Int32)), .val (.int (0 : Int32))] d16_103 rfl rfl rfl ?_
            refine X.baload (pc' := 107) V_t ⟨by decide, by decide⟩ (v := (119 : Int32)) rfl d16_106 rfl ?_
            refine X.sipush (pc' := 110) (255 : Int32) d16_107 rfl rfl ?_
            refine X.iand (pc' := 111) d16_110 rfl ?_
            rw [show (((119 : Int32) &&& (255 : Int32)) : Int32) = (119 : Int32) from by decide]
            by_cases g1 : ds.getD 1 0 = 119
            · refine X.icY (pc' := 82) d16_111 ((teq g1).1) (by decide) (by decide) ?_
              refine X.iload (pc' := 84) d16_82 rfl rfl ?_
              refine X.iload (pc' := 86) d16_84 rfl rfl ?_
              refine X.icN (pc' := 89) d16_86 (by decide) rfl ?_
              refine X.aloadN (pc' := 90) d16_89 rfl rfl rfl ?_
              refine X.iload (pc' := 92) d16_90 rfl rfl ?_
              refine X.iinc (pc' := 95) #[.val (.ref s1), .val (.int (16 : Int32)), .val (.ref t1), .val (.int (7 : Int32)), .val (.int (9 : Int32)), .val (.int (6 : Int32)), .val (.int (6 : Int32)), .val (.int (6 : Int32)), .val (.int (((58 : Int32) &&& (255 : Int32)).toUInt32.toUInt16.toUInt32.toInt32)), .val (.int (-1 : Int32)), .val (.int (-1 : Int32)), .val (.int (0 : Int32))] d16_92 rfl rfl rfl ?_
              refine X.baload (pc' := 96) V_s ⟨by decide, by decide⟩ (v := ((ds.getD 0 0).toInt8.toInt32)) (at_map (i := 0) (by omega)) d16_95 rfl ?_
              refine X.sipush (pc' := 99) (255 : Int32) d16_96 rfl rfl ?_
              refine X.iand (pc' := 100) d16_99 rfl ?_
              rw [byte_in (lat_at hlat 0)]
              refine X.aloadN (pc' := 101) d16_100 rfl rfl rfl ?_
              refine X.iload (pc' := 103) d16_101 rfl rfl ?_
              refine X.iinc (pc' := 106) #[.val (.ref s1), .val (.int (16 : Int32)), .val (.ref t1), .val (.int (7 : Int32)), .val (.int (9 : Int32)), .val (.int (6 : Int32)), .val (.int (6 : Int32)), .val (.int (6 : Int32)), .val (.int (((58 : Int32) &&& (255 : Int32)).toUInt32.toUInt16.toUInt32.toInt32)), .val (.int (-1 : Int32)), .val (.int (-1 : Int32)), .val (.int (-1 : Int32))] d16_103 rfl rfl rfl ?_
              refine X.baload (pc' := 107) V_t ⟨by decide, by decide⟩ (v := (32 : Int32)) rfl d16_106 rfl ?_
              refine X.sipush (pc' := 110) (255 : Int32) d16_107 rfl rfl ?_
              refine X.iand (pc' := 111) d16_110 rfl ?_
              rw [show (((32 : Int32) &&& (255 : Int32)) : Int32) = (32 : Int32) from by decide]
              by_cases g0 : ds.getD 0 0 = 32
              · refine X.icY (pc' := 82) d16_111 ((teq g0).1) (by decide) (by decide) ?_
                refine X.iload (pc' := 84) d16_82 rfl rfl ?_
                refine X.iload (pc' := 86) d16_84 rfl rfl ?_
                refine X.icY (pc' := 120) d16_86 (by decide) (by decide) (by decide) ?_
                refine X.iload (pc' := 122) d16_120 rfl rfl ?_
                refine X.iconst (pc' := 123) (1 : Int32) d16_122 rfl rfl ?_
                refine X.iadd (pc' := 124) d16_123 rfl ?_
                rw [show (((-1 : Int32) + (1 : Int32)) : Int32) = (Int32.ofNat 0) from by decide]
                obtain rfl := HL.top (k := 0) (mk_of (by decide) g0 g1 g2 g3 g4 g5 hc)
                exact X.retIN (by simp) rfl d16_124 (by decide) (by decide) ⟨_, rfl, rfl, _, rfl, HL0⟩
              · refine X.icN (pc' := 114) d16_111 ((feq g0).1) rfl ?_
                refine X.iinc (pc' := 117) #[.val (.ref s1), .val (.int (16 : Int32)), .val (.ref t1), .val (.int (7 : Int32)), .val (.int (9 : Int32)), .val (.int (6 : Int32)), .val (.int (5 : Int32)), .val (.int (6 : Int32)), .val (.int (((58 : Int32) &&& (255 : Int32)).toUInt32.toUInt16.toUInt32.toInt32)), .val (.int (-1 : Int32)), .val (.int (-1 : Int32)), .val (.int (-1 : Int32))] d16_114 rfl rfl rfl ?_
                refine X.goto (pc' := 28) d16_117 (by decide) (by decide) ?_
                exact HB0 (-1 : Int32) (-1 : Int32) (-1 : Int32) (HL.down (k := 0) (fun q => g0 (q.2 0 (by decide))))
            · refine X.icN (pc' := 114) d16_111 ((feq g1).1) rfl ?_
              refine X.iinc (pc' := 117) #[.val (.ref s1), .val (.int (16 : Int32)), .val (.ref t1), .val (.int (7 : Int32)), .val (.int (9 : Int32)), .val (.int (6 : Int32)), .val (.int (5 : Int32)), .val (.int (6 : Int32)), .val (.int (((58 : Int32) &&& (255 : Int32)).toUInt32.toUInt16.toUInt32.toInt32)), .val (.int (0 : Int32)), .val (.int (-1 : Int32)), .val (.int (0 : Int32))] d16_114 rfl rfl rfl ?_
              refine X.goto (pc' := 28) d16_117 (by decide) (by decide) ?_
              exact HB0 (0 : Int32) (-1 : Int32) (0 : Int32) (HL.down (k := 0) (fun q => g1 (q.2 1 (by decide))))
          · refine X.icN (pc' := 114) d16_111 ((feq g2).1) rfl ?_
            refine X.iinc (pc' := 117) #[.val (.ref s1), .val (.int (16 : Int32)), .val (.ref t1), .val (.int (7 : Int32)), .val (.int (9 : Int32)), .val (.int (6 : Int32)), .val (.int (5 : Int32)), .val (.int (6 : Int32)), .val (.int (((58 : Int32) &&& (255 : Int32)).toUInt32.toUInt16.toUInt32.toInt32)), .val (.int (1 : Int32)), .val (.int (-1 : Int32)), .val (.int (1 : Int32))] d16_114 rfl rfl rfl ?_
            refine X.goto (pc' := 28) d16_117 (by decide) (by decide) ?_
            exact HB0 (1 : Int32) (-1 : Int32) (1 : Int32) (HL.down (k := 0) (fun q => g2 (q.2 2 (by decide))))
        · refine X.icN (pc' := 114) d16_111 ((feq g3).1) rfl ?_
          refine X.iinc (pc' := 117) #[.val (.ref s1), .val (.int (16 : Int32)), .val (.ref t1), .val (.int (7 : Int32)), .val (.int (9 : Int32)), .val (.int (6 : Int32)), .val (.int (5 : Int32)), .val (.int (6 : Int32)), .val (.int (((58 : Int32) &&& (255 : Int32)).toUInt32.toUInt16.toUInt32.toInt32)), .val (.int (2 : Int32)), .val (.int (-1 : Int32)), .val (.int (2 : Int32))] d16_114 rfl rfl rfl ?_
          refine X.goto (pc' := 28) d16_117 (by decide) (by decide) ?_
          exact HB0 (2 : Int32) (-1 : Int32) (2 : Int32) (HL.down (k := 0) (fun q => g3 (q.2 3 (by decide))))
      · refine X.icN (pc' := 114) d16_111 ((feq g4).1) rfl ?_
        refine X.iinc (pc' := 117) #[.val (.ref s1), .val (.int (16 : Int32)), .val (.ref t1), .val (.int (7 : Int32)), .val (.int (9 : Int32)), .val (.int (6 : Int32)), .val (.int (5 : Int32)), .val (.int (6 : Int32)), .val (.int (((58 : Int32) &&& (255 : Int32)).toUInt32.toUInt16.toUInt32.toInt32)), .val (.int (3 : Int32)), .val (.int (-1 : Int32)), .val (.int (3 : Int32))] d16_114 rfl rfl rfl ?_
        refine X.goto (pc' := 28) d16_117 (by decide) (by decide) ?_
        exact HB0 (3 : Int32) (-1 : Int32) (3 : Int32) (HL.down (k := 0) (fun q => g4 (q.2 4 (by decide))))
    · refine X.icN (pc' := 114) d16_111 ((feq g5).1) rfl ?_
      refine X.iinc (pc' := 117) #[.val (.ref s1), .val (.int (16 : Int32)), .val (.ref t1), .val (.int (7 : Int32)), .val (.int (9 : Int32)), .val (.int (6 : Int32)), .val (.int (5 : Int32)), .val (.int (6 : Int32)), .val (.int (((58 : Int32) &&& (255 : Int32)).toUInt32.toUInt16.toUInt32.toInt32)), .val (.int (4 : Int32)), .val (.int (-1 : Int32)), .val (.int (4 : Int32))] d16_114 rfl rfl rfl ?_
      refine X.goto (pc' := 28) d16_117 (by decide) (by decide) ?_
      exact HB0 (4 : Int32) (-1 : Int32) (4 : Int32) (HL.down (k := 0) (fun q => g5 (q.2 5 (by decide))))
  have HB1 : ∀ x9 x10 x11 : Int32, Last (MarkN ds 16) 1 R → Y.Ends pg ev below (GN Z [] (RP s.heap (fun w => ∃ Q : Int32, w = .int Q ∧ Last (MarkN ds 16) 10 Q)) ({ frames := 0, cells := 0, slots := 0, locals := 0 } : Room) s) (T.setTop (mkF m 28 #[.val (.ref s1), .val (.int (16 : Int32)), .val (.ref t1), .val (.int (7 : Int32)), .val (.int (9 : Int32)), .val (.int (6 : Int32)), .val (.int (6 : Int32)), .val (.int (6 : Int32)), .val (.int (((58 : Int32) &&& (255 : Int32)).toUInt32.toUInt16.toUInt32.toInt32)), .val (.int x9), .val (.int x10), .val (.int x11)] [])) := by
    intro x9 x10 x11 HL
    refine X.iload (pc' := 30) d16_28 rfl rfl ?_
    refine X.iload (pc' := 32) d16_30 rfl rfl ?_
    refine X.icN (pc' := 35) d16_32 (by decide) rfl ?_
    refine X.aloadN (pc' := 36) d16_35 rfl rfl rfl ?_
    refine X.iload (pc' := 38) d16_36 rfl rfl ?_
    refine X.baload (pc' := 39) V_s ⟨by decide, by decide⟩ (v := ((ds.getD 6 0).toInt8.toInt32)) (at_map (i := 6) (by omega)) d16_38 rfl ?_
    refine X.sipush (pc' := 42) (255 : Int32) d16_39 rfl rfl ?_
    refine X.iand (pc' := 43) d16_42 rfl ?_
    rw [byte_in (lat_at hlat 6)]
    refine X.iload (pc' := 45) d16_43 rfl rfl ?_
    by_cases hc : ds.getD 6 0 = 58
    · refine X.icY (pc' := 54) d16_45 ((teq (by rw [e58]; exact hc)).1) (by decide) (by decide) ?_
      refine X.iload (pc' := 56) d16_54 rfl rfl ?_
      refine X.iload (pc' := 58) d16_56 rfl rfl ?_
      refine X.icY (pc' := 63) d16_58 (by decide) (by decide) (by decide) ?_
      refine X.iload (pc' := 65) d16_63 rfl rfl ?_
      refine X.iconst (pc' := 66) (1 : Int32) d16_65 rfl rfl ?_
      refine X.isub (pc' := 67) d16_66 rfl ?_
      rw [show (((6 : Int32) - (1 : Int32)) : Int32) = (5 : Int32) from by decide]
      refine X.istore (pc' := 69) #[.val (.ref s1), .val (.int (16 : Int32)), .val (.ref t1), .val (.int (7 : Int32)), .val (.int (9 : Int32)), .val (.int (6 : Int32)), .val (.int (6 : Int32)), .val (.int (6 : Int32)), .val (.int (((58 : Int32) &&& (255 : Int32)).toUInt32.toUInt16.toUInt32.toInt32)), .val (.int (5 : Int32)), .val (.int x10), .val (.int x11)] d16_67 rfl rfl ?_
      refine X.iload (pc' := 71) d16_69 rfl rfl ?_
      refine X.iload (pc' := 73) d16_71 rfl rfl ?_
      refine X.isub (pc' := 74) d16_73 rfl ?_
      rw [show (((5 : Int32) - (6 : Int32)) : Int32) = (-1 : Int32) from by decide]
      refine X.istore (pc' := 76) #[.val (.ref s1), .val (.int (16 : Int32)), .val (.ref t1), .val (.int (7 : Int32)), .val (.int (9 : Int32)), .val (.int (6 : Int32)), .val (.int (6 : Int32)), .val (.int (6 : Int32)), .val (.int (((58 : Int32) &&& (255 : Int32)).toUInt32.toUInt16.toUInt32.toInt32)), .val (.int (5 : Int32)), .val (.int (-1 : Int32)), .val (.int x11)] d16_74 rfl rfl ?_
      refine X.iload (pc' := 78) d16_76 rfl rfl ?_
      refine X.iconst (pc' := 79) (1 : Int32) d16_78 rfl rfl ?_
      refine X.isub (pc' := 80) d16_79 rfl ?_
      rw [show (((6 : Int32) - (1 : Int32)) : Int32) = (5 : Int32) from by decide]
      refine X.istore (pc' := 82) #[.val (.ref s1), .val (.int (16 : Int32)), .val (.ref t1), .val (.int (7 : Int32)), .val (.int (9 : Int32)), .val (.int (6 : Int32)), .val (.int (6 : Int32)), .val (.int (6 : Int32)), .val (.int (((58 : Int32) &&& (255 : Int32)).toUInt32.toUInt16.toUInt32.toInt32)), .val (.int (5 : Int32)), .val (.int (-1 : Int32)), .val (.int (5 : Int32))] d16_80 rfl rfl ?_
      exact HI1 hc HL
    · refine X.icN (pc' := 48) d16_45 ((feq (by rw [e58]; exact hc)).1) rfl ?_
      refine X.iinc (pc' := 51) #[.val (.ref s1), .val (.int (16 : Int32)), .val (.ref t1), .val (.int (7 : Int32)), .val (.int (9 : Int32)), .val (.int (6 : Int32)), .val (.int (5 : Int32)), .val (.int (6 : Int32)), .val (.int (((58 : Int32) &&& (255 : Int32)).toUInt32.toUInt16.toUInt32.toInt32)), .val (.int x9), .val (.int x10), .val (.int x11)] d16_48 rfl rfl rfl ?_
      refine X.goto (pc' := 28) d16_51 (by decide) (by decide) ?_
      exact HB0 x9 x10 x11 (HL.down (k := 0) (fun q => hc (q.2 6 (by decide))))
  have HA1 : Last (MarkN ds 16) 1 R → Y.Ends pg ev below (GN Z [] (RP s.heap (fun w => ∃ Q : Int32, w = .int Q ∧ Last (MarkN ds 16) 10 Q)) ({ frames := 0, cells := 0, slots := 0, locals := 0 } : Room) s) (T.setTop (mkF m 28 #[.val (.ref s1), .val (.int (16 : Int32)), .val (.ref t1), .val (.int (7 : Int32)), .val (.int (9 : Int32)), .val (.int (6 : Int32)), .val (.int (6 : Int32)), .val (.int (6 : Int32)), .val (.int (((58 : Int32) &&& (255 : Int32)).toUInt32.toUInt16.toUInt32.toInt32)), .unset, .unset, .unset] [])) := by
    intro HL
    refine X.iload (pc' := 30) d16_28 rfl rfl ?_
    refine X.iload (pc' := 32) d16_30 rfl rfl ?_
    refine X.icN (pc' := 35) d16_32 (by decide) rfl ?_
    refine X.aloadN (pc' := 36) d16_35 rfl rfl rfl ?_
    refine X.iload (pc' := 38) d16_36 rfl rfl ?_
    refine X.baload (pc' := 39) V_s ⟨by decide, by decide⟩ (v := ((ds.getD 6 0).toInt8.toInt32)) (at_map (i := 6) (by omega)) d16_38 rfl ?_
    refine X.sipush (pc' := 42) (255 : Int32) d16_39 rfl rfl ?_
    refine X.iand (pc' := 43) d16_42 rfl ?_
    rw [byte_in (lat_at hlat 6)]
    refine X.iload (pc' := 45) d16_43 rfl rfl ?_
    by_cases hc : ds.getD 6 0 = 58
    · refine X.icY (pc' := 54) d16_45 ((teq (by rw [e58]; exact hc)).1) (by decide) (by decide) ?_
      refine X.iload (pc' := 56) d16_54 rfl rfl ?_
      refine X.iload (pc' := 58) d16_56 rfl rfl ?_
      refine X.icY (pc' := 63) d16_58 (by decide) (by decide) (by decide) ?_
      refine X.iload (pc' := 65) d16_63 rfl rfl ?_
      refine X.iconst (pc' := 66) (1 : Int32) d16_65 rfl rfl ?_
      refine X.isub (pc' := 67) d16_66 rfl ?_
      rw [show (((6 : Int32) - (1 : Int32)) : Int32) = (5 : Int32) from by decide]
      refine X.istore (pc' := 69) #[.val (.ref s1), .val (.int (16 : Int32)), .val (.ref t1), .val (.int (7 : Int32)), .val (.int (9 : Int32)), .val (.int (6 : Int32)), .val (.int (6 : Int32)), .val (.int (6 : Int32)), .val (.int (((58 : Int32) &&& (255 : Int32)).toUInt32.toUInt16.toUInt32.toInt32)), .val (.int (5 : Int32)), .unset, .unset] d16_67 rfl rfl ?_
      refine X.iload (pc' := 71) d16_69 rfl rfl ?_
      refine X.iload (pc' := 73) d16_71 rfl rfl ?_
      refine X.isub (pc' := 74) d16_73 rfl ?_
      rw [show (((5 : Int32) - (6 : Int32)) : Int32) = (-1 : Int32) from by decide]
      refine X.istore (pc' := 76) #[.val (.ref s1), .val (.int (16 : Int32)), .val (.ref t1), .val (.int (7 : Int32)), .val (.int (9 : Int32)), .val (.int (6 : Int32)), .val (.int (6 : Int32)), .val (.int (6 : Int32)), .val (.int (((58 : Int32) &&& (255 : Int32)).toUInt32.toUInt16.toUInt32.toInt32)), .val (.int (5 : Int32)), .val (.int (-1 : Int32)), .unset] d16_74 rfl rfl ?_
      refine X.iload (pc' := 78) d16_76 rfl rfl ?_
      refine X.iconst (pc' := 79) (1 : Int32) d16_78 rfl rfl ?_
      refine X.isub (pc' := 80) d16_79 rfl ?_
      rw [show (((6 : Int32) - (1 : Int32)) : Int32) = (5 : Int32) from by decide]
      refine X.istore (pc' := 82) #[.val (.ref s1), .val (.int (16 : Int32)), .val (.ref t1), .val (.int (7 : Int32)), .val (.int (9 : Int32)), .val (.int (6 : Int32)), .val (.int (6 : Int32)), .val (.int (6 : Int32)), .val (.int (((58 : Int32) &&& (255 : Int32)).toUInt32.toUInt16.toUInt32.toInt32)), .val (.int (5 : Int32)), .val (.int (-1 : Int32)), .val (.int (5 : Int32))] d16_80 rfl rfl ?_
      exact HI1 hc HL
    · refine X.icN (pc' := 48) d16_45 ((feq (by rw [e58]; exact hc)).1) rfl ?_
      refine X.iinc (pc' := 51) #[.val (.ref s1), .val (.int (16 : Int32)), .val (.ref t1), .val (.int (7 : Int32)), .val (.int (9 : Int32)), .val (.int (6 : Int32)), .val (.int (5 : Int32)), .val (.int (6 : Int32)), .val (.int (((58 : Int32) &&& (255 : Int32)).toUInt32.toUInt16.toUInt32.toInt32)), .unset, .unset, .unset] d16_48 rfl rfl rfl ?_
      refine X.goto (pc' := 28) d16_51 (by decide) (by decide) ?_
      exact HA0  (HL.down (k := 0) (fun q => hc (q.2 6 (by decide))))
  have HI2 : ds.getD 7 0 = 58 → Last (MarkN ds 16) 2 R → Y.Ends pg ev below (GN Z [] (RP s.heap (fun w => ∃ Q : Int32, w = .int Q ∧ Last (MarkN ds 16) 10 Q)) ({ frames := 0, cells := 0, slots := 0, locals := 0 } : Room) s) (T.setTop (mkF m 82 #[.val (.ref s1), .val (.int (16 : Int32)), .val (.ref t1), .val (.int (7 : Int32)), .val (.int (9 : Int32)), .val (.int (6 : Int32)), .val (.int (7 : Int32)), .val (.int (6 : Int32)), .val (.int (((58 : Int32) &&& (255 : Int32)).toUInt32.toUInt16.toUInt32.toInt32)), .val (.int (6 : Int32)), .val (.int (0 : Int32)), .val (.int (5 : Int32))] [])) := by
    intro hc HL
    refine X.iload (pc' := 84) d16_82 rfl rfl ?_
    refine X.iload (pc' := 86) d16_84 rfl rfl ?_
    refine X.icN (pc' := 89) d16_86 (by decide) rfl ?_
    refine X.aloadN (pc' := 90) d16_89 rfl rfl rfl ?_
    refine X.iload (pc' := 92) d16_90 rfl rfl ?_
    refine X.iinc (pc' := 95) #[.val (.ref s1), .val (.int (16 : Int32)), .val (.ref t1), .val (.int (7 : Int32)), .val (.int (9 : Int32)), .val (.int (6 : Int32)), .val (.int (7 : Int32)), .val (.int (6 : Int32)), .val (.int (((58 : Int32) &&& (255 : Int32)).toUInt32.toUInt16.toUInt32.toInt32)), .val (.int (5 : Int32)), .val (.int (0 : Int32)), .val (.int (5 : Int32))] d16_92 rfl rfl rfl ?_
    refine X.baload (pc' := 96) V_s ⟨by decide, by decide⟩ (v := ((ds.getD 6 0).toInt8.toInt32)) (at_map (i := 6) (by omega)) d16_95 rfl ?_
    refine X.sipush (pc' := 99) (255 : Int32) d16_96 rfl rfl ?_
    refine X.iand (pc' := 100) d16_99 rfl ?_
    rw [byte_in (lat_at hlat 6)]
    refine X.aloadN (pc' := 101) d16_100 rfl rfl rfl ?_
    refine X.iload (pc' := 103) d16_101 rfl rfl ?_
    refine X.iinc (pc' := 106) #[.val (.ref s1), .val (.int (16 : Int32)), .val (.ref t1), .val (.int (7 : Int32)), .val (.int (9 : Int32)), .val (.int (6 : Int32)), .val (.int (7 : Int32)), .val (.int (6 : Int32)), .val (.int (((58 : Int32) &&& (255 : Int32)).toUInt32.toUInt16.toUInt32.toInt32)), .val (.int (5 : Int32)), .val (.int (0 : Int32)), .val (.int (4 : Int32))] d16_103 rfl rfl rfl ?_
    refine X.baload (pc' := 107) V_t ⟨by decide, by decide⟩ (v := (110 : Int32)) rfl d16_106 rfl ?_
    refine X.sipush (pc' := 110) (255 : Int32) d16_107 rfl rfl ?_
    refine X.iand (pc' := 111) d16_110 rfl ?_
    rw [show (((110 : Int32) &&& (255 : Int32)) : Int32) = (110 : Int32) from by decide]
    by_cases g5 : ds.getD 6 0 = 110
    · refine X.icY (pc' := 82) d16_111 ((teq g5).1) (by decide) (by decide) ?_
      refine X.iload (pc' := 84) d16_82 rfl rfl ?_
      refine X.iload (pc' := 86) d16_84 rfl rfl ?_
      refine X.icN (pc' := 89) d16_86 (by decide) rfl ?_
      refine X.aloadN (pc' := 90) d16_89 rfl rfl rfl ?_
      refine X.iload (pc' := 92) d16_90 rfl rfl ?_
      refine X.iinc (pc' := 95) #[.val (.ref s1), .val (.int (16 : Int32)), .val (.ref t1), .val (.int (7 : Int32)), .val (.int (9 : Int32)), .val (.int (6 : Int32)), .val (.int (7 : Int32)), .val (.int (6 : Int32)), .val (.int (((58 : Int32) &&& (255 : Int32)).toUInt32.toUInt16.toUInt32.toInt32)), .val (.int (4 : Int32)), .val (.int (0 : Int32)), .val (.int (4 : Int32))] d16_92 rfl rfl rfl ?_
      refine X.baload (pc' := 96) V_s ⟨by decide, by decide⟩ (v := ((ds.getD 5 0).toInt8.toInt32)) (at_map (i := 5) (by omega)) d16_95 rfl ?_
      refine X.sipush (pc' := 99) (255 : Int32) d16_96 rfl rfl ?_
      refine X.iand (pc' := 100) d16_99 rfl ?_
      rw [byte_in (lat_at hlat 5)]
      refine X.aloadN (pc' := 101) d16_100 rfl rfl rfl ?_
      refine X.iload (pc' := 103) d16_101 rfl rfl ?_
      refine X.iinc (pc' := 106) #[.val (.ref s1), .val (.int (16 : Int32)), .val (.ref t1), .val (.int (7 : Int32)), .val (.int (9 : Int32)), .val (.int (6 : Int32)), .val (.int (7 : Int32)), .val (.int (6 : Int32)), .val (.int (((58 : Int32) &&& (255 : Int32)).toUInt32.toUInt16.toUInt32.toInt32)), .val (.int (4 : Int32)), .val (.int (0 : Int32)), .val (.int (3 : Int32))] d16_103 rfl rfl rfl ?_
      refine X.baload (pc' := 107) V_t ⟨by decide, by decide⟩ (v := (101 : Int32)) rfl d16_106 rfl ?_
      refine X.sipush (pc' := 110) (255 : Int32) d16_107 rfl rfl ?_
      refine X.iand (pc' := 111) d16_110 rfl ?_
      rw [show (((101 : Int32) &&& (255 : Int32)) : Int32) = (101 : Int32) from by decide]
      by_cases g4 : ds.getD 5 0 = 101
      · refine X.icY (pc' := 82) d16_111 ((teq g4).1) (by decide) (by decide) ?_
        refine X.iload (pc' := 84) d16_82 rfl rfl ?_
        refine X.iload (pc' := 86) d16_84 rfl rfl ?_
        refine X.icN (pc' := 89) d16_86 (by decide) rfl ?_
        refine X.aloadN (pc' := 90) d16_89 rfl rfl rfl ?_
        refine X.iload (pc' := 92) d16_90 rfl rfl ?_
        refine X.iinc (pc' := 95) #[.val (.ref s1), .val (.int (16 : Int32)), .val (.ref t1), .val (.int (7 : Int32)), .val (.int (9 : Int32)), .val (.int (6 : Int32)), .val (.int (7 : Int32)), .val (.int (6 : Int32)), .val (.int (((58 : Int32) &&& (255 : Int32)).toUInt32.toUInt16.toUInt32.toInt32)), .val (.int (3 : Int32)), .val (.int (0 : Int32)), .val (.int (3 : Int32))] d16_92 rfl rfl rfl ?_
        refine X.baload (pc' := 96) V_s ⟨by decide, by decide⟩ (v := ((ds.getD 4 0).toInt8.toInt32)) (at_map (i := 4) (by omega)) d16_95 rfl ?_
        refine X.sipush (pc' := 99) (255 : Int32) d16_96 rfl rfl ?_
        refine X.iand (pc' := 100) d16_99 rfl ?_
        rw [byte_in (lat_at hlat 4)]
        refine X.aloadN (pc' := 101) d16_100 rfl rfl rfl ?_
        refine X.iload (pc' := 103) d16_101 rfl rfl ?_
        refine X.iinc (pc' := 106) #[.val (.ref s1), .val (.int (16 : Int32)), .val (.ref t1), .val (.int (7 : Int32)), .val (.int (9 : Int32)), .val (.int (6 : Int32)), .val (.int (7 : Int32)), .val (.int (6 : Int32)), .val (.int (((58 : Int32) &&& (255 : Int32)).toUInt32.toUInt16.toUInt32.toInt32)), .val (.int (3 : Int32)), .val (.int (0 : Int32)), .val (.int (2 : Int32))] d16_103 rfl rfl rfl ?_
        refine X.baload (pc' := 107) V_t ⟨by decide, by decide⟩ (v := (107 : Int32)) rfl d16_106 rfl ?_
        refine X.sipush (pc' := 110) (255 : Int32) d16_107 rfl rfl ?_
        refine X.iand (pc' := 111) d16_110 rfl ?_
        rw [show (((107 : Int32) &&& (255 : Int32)) : Int32) = (107 : Int32) from by decide]
        by_cases g3 : ds.getD 4 0 = 107
        · refine X.icY (pc' := 82) d16_111 ((teq g3).1) (by decide) (by decide) ?_
          refine X.iload (pc' := 84) d16_82 rfl rfl ?_
          refine X.iload (pc' := 86) d16_84 rfl rfl ?_
          refine X.icN (pc' := 89) d16_86 (by decide) rfl ?_
          refine X.aloadN (pc' := 90) d16_89 rfl rfl rfl ?_
          refine X.iload (pc' := 92) d16_90 rfl rfl ?_
          refine X.iinc (pc' := 95) #[.val (.ref s1), .val (.int (16 : Int32)), .val (.ref t1), .val (.int (7 : Int32)), .val (.int (9 : Int32)), .val (.int (6 : Int32)), .val (.int (7 : Int32)), .val (.int (6 : Int32)), .val (.int (((58 : Int32) &&& (255 : Int32)).toUInt32.toUInt16.toUInt32.toInt32)), .val (.int (2 : Int32)), .val (.int (0 : Int32)), .val (.int (2 : Int32))] d16_92 rfl rfl rfl ?_
          refine X.baload (pc' := 96) V_s ⟨by decide, by decide⟩ (v := ((ds.getD 3 0).toInt8.toInt32)) (at_map (i := 3) (by omega)) d16_95 rfl ?_
          refine X.sipush (pc' := 99) (255 : Int32) d16_96 rfl rfl ?_
          refine X.iand (pc' := 100) d16_99 rfl ?_
          rw [byte_in (lat_at hlat 3)]
          refine X.aloadN (pc' := 101) d16_100 rfl rfl rfl ?_
          refine X.iload (pc' := 103) d16_101 rfl rfl ?_
          refine X.iinc (pc' := 106) #[.val (.ref s1), .val (.int (16 : Int32)), .val (.ref t1), .val (.int (7 : Int32)), .val (.int (9 : Int32)), .val (.int (6 : Int32)), .val (.int (7 : Int32)), .val (.int (6 : Int32)), .val (.int (((58 : Int32) &&& (255 : Int32)).toUInt32.toUInt16.toUInt32.toInt32)), .val (.int (2 : Int32)), .val (.int (0 : Int32)), .val (.int (1 : Int32))] d16_103 rfl rfl rfl ?_
          refine X.baload (pc' := 107) V_t ⟨by decide, by decide⟩ (v := (111 : Int32)) rfl d16_106 rfl ?_
          refine X.sipush (pc' := 110) (255 : Int32) d16_107 rfl rfl ?_
          refine X.iand (pc' := 111) d16_110 rfl ?_
          rw [show (((111 : Int32) &&& (255 : Int32)) : Int32) = (111 : Int32) from by decide]
          by_cases g2 : ds.getD 3 0 = 111
          · refine X.icY (pc' := 82) d16_111 ((teq g2).1) (by decide) (by decide) ?_
            refine X.iload (pc' := 84) d16_82 rfl rfl ?_
            refine X.iload (pc' := 86) d16_84 rfl rfl ?_
            refine X.icN (pc' := 89) d16_86 (by decide) rfl ?_
            refine X.aloadN (pc' := 90) d16_89 rfl rfl rfl ?_
            refine X.iload (pc' := 92) d16_90 rfl rfl ?_
            refine X.iinc (pc' := 95) #[.val (.ref s1), .val (.int (16 : Int32)), .val (.ref t1), .val (.int (7 : Int32)), .val (.int (9 : Int32)), .val (.int (6 : Int32)), .val (.int (7 : Int32)), .val (.int (6 : Int32)), .val (.int (((58 : Int32) &&& (255 : Int32)).toUInt32.toUInt16.toUInt32.toInt32)), .val (.int (1 : Int32)), .val (.int (0 : Int32)), .val (.int (1 : Int32))] d16_92 rfl rfl rfl ?_
            refine X.baload (pc' := 96) V_s ⟨by decide, by decide⟩ (v := ((ds.getD 2 0).toInt8.toInt32)) (at_map (i := 2) (by omega)) d16_95 rfl ?_
            refine X.sipush (pc' := 99) (255 : Int32) d16_96 rfl rfl ?_
            refine X.iand (pc' := 100) d16_99 rfl ?_
            rw [byte_in (lat_at hlat 2)]
            refine X.aloadN (pc' := 101) d16_100 rfl rfl rfl ?_
            refine X.iload (pc' := 103) d16_101 rfl rfl ?_
            refine X.iinc (pc' := 106) #[.val (.ref s1), .val (.int (16 : Int32)), .val (.ref t1), .val (.int (7 : Int32)), .val (.int (9 : Int32)), .val (.int (6 : Int32)), .val (.int (7 : Int32)), .val (.int (6 : Int32)), .val (.int (((58 : Int32) &&& (255 : Int32)).toUInt32.toUInt16.toUInt32.toInt32)), .val (.int (1 : Int32)), .val (.int (0 : Int32)), .val (.int (0 : Int32))] d16_103 rfl rfl rfl ?_
            refine X.baload (pc' := 107) V_t ⟨by decide, by decide⟩ (v := (119 : Int32)) rfl d16_106 rfl ?_
            refine X.sipush (pc' := 110) (255 : Int32) d16_107 rfl rfl ?_
            refine X.iand (pc' := 111) d16_110 rfl ?_
            rw [show (((119 : Int32) &&& (255 : Int32)) : Int32) = (119 : Int32) from by decide]
            by_cases g1 : ds.getD 2 0 = 119
            · refine X.icY (pc' := 82) d16_111 ((teq g1).1) (by decide) (by decide) ?_
              refine X.iload (pc' := 84) d16_82 rfl rfl ?_
              refine X.iload (pc' := 86) d16_84 rfl rfl ?_
              refine X.icN (pc' := 89) d16_86 (by decide) rfl ?_
              refine X.aloadN (pc' := 90) d16_89 rfl rfl rfl ?_
              refine X.iload (pc' := 92) d16_90 rfl rfl ?_
              refine X.iinc (pc' := 95) #[.val (.ref s1), .val (.int (16 : Int32)), .val (.ref t1), .val (.int (7 : Int32)), .val (.int (9 : Int32)), .val (.int (6 : Int32)), .val (.int (7 : Int32)), .val (.int (6 : Int32)), .val (.int (((58 : Int32) &&& (255 : Int32)).toUInt32.toUInt16.toUInt32.toInt32)), .val (.int (0 : Int32)), .val (.int (0 : Int32)), .val (.int (0 : Int32))] d16_92 rfl rfl rfl ?_
              refine X.baload (pc' := 96) V_s ⟨by decide, by decide⟩ (v := ((ds.getD 1 0).toInt8.toInt32)) (at_map (i := 1) (by omega)) d16_95 rfl ?_
              refine X.sipush (pc' := 99) (255 : Int32) d16_96 rfl rfl ?_
              refine X.iand (pc' := 100) d16_99 rfl ?_
              rw [byte_in (lat_at hlat 1)]
              refine X.aloadN (pc' := 101) d16_100 rfl rfl rfl ?_
              refine X.iload (pc' := 103) d16_101 rfl rfl ?_
              refine X.iinc (pc' := 106) #[.val (.ref s1), .val (.int (16 : Int32)), .val (.ref t1), .val (.int (7 : Int32)), .val (.int (9 : Int32)), .val (.int (6 : Int32)), .val (.int (7 : Int32)), .val (.int (6 : Int32)), .val (.int (((58 : Int32) &&& (255 : Int32)).toUInt32.toUInt16.toUInt32.toInt32)), .val (.int (0 : Int32)), .val (.int (0 : Int32)), .val (.int (-1 : Int32))] d16_103 rfl rfl rfl ?_
              refine X.baload (pc' := 107) V_t ⟨by decide, by decide⟩ (v := (32 : Int32)) rfl d16_106 rfl ?_
              refine X.sipush (pc' := 110) (255 : Int32) d16_107 rfl rfl ?_
              refine X.iand (pc' := 111) d16_110 rfl ?_
              rw [show (((32 : Int32) &&& (255 : Int32)) : Int32) = (32 : Int32) from by decide]
              by_cases g0 : ds.getD 1 0 = 32
              · refine X.icY (pc' := 82) d16_111 ((teq g0).1) (by decide) (by decide) ?_
                refine X.iload (pc' := 84) d16_82 rfl rfl ?_
                refine X.iload (pc' := 86) d16_84 rfl rfl ?_
                refine X.icY (pc' := 120) d16_86 (by decide) (by decide) (by decide) ?_
                refine X.iload (pc' := 122) d16_120 rfl rfl ?_
                refine X.iconst (pc' := 123) (1 : Int32) d16_122 rfl rfl ?_
                refine X.iadd (pc' := 124) d16_123 rfl ?_
                rw [show (((0 : Int32) + (1 : Int32)) : Int32) = (Int32.ofNat 1) from by decide]
                obtain rfl := HL.top (k := 1) (mk_of (by decide) g0 g1 g2 g3 g4 g5 hc)
                exact X.retIN (by simp) rfl d16_124 (by decide) (by decide) ⟨_, rfl, rfl, _, rfl, HL0⟩
              · refine X.icN (pc' := 114) d16_111 ((feq g0).1) rfl ?_
                refine X.iinc (pc' := 117) #[.val (.ref s1), .val (.int (16 : Int32)), .val (.ref t1), .val (.int (7 : Int32)), .val (.int (9 : Int32)), .val (.int (6 : Int32)), .val (.int (6 : Int32)), .val (.int (6 : Int32)), .val (.int (((58 : Int32) &&& (255 : Int32)).toUInt32.toUInt16.toUInt32.toInt32)), .val (.int (0 : Int32)), .val (.int (0 : Int32)), .val (.int (-1 : Int32))] d16_114 rfl rfl rfl ?_
                refine X.goto (pc' := 28) d16_117 (by decide) (by decide) ?_
                exact HB1 (0 : Int32) (0 : Int32) (-1 : Int32) (HL.down (k := 1) (fun q => g0 (q.2 0 (by decide))))
            · refine X.icN (pc' := 114) d16_111 ((feq g1).1) rfl ?_
              refine X.iinc (pc' := 117) #[.val (.ref s1), .val (.int (16 : Int32)), .val (.ref t1), .val (.int (7 : Int32)), .val (.int (9 : Int32)), .val (.int (6 : Int32)), .val (.int (6 : Int32)), .val (.int (6 : Int32)), .val (.int (((58 : Int32) &&& (255 : Int32)).toUInt32.toUInt16.toUInt32.toInt32)), .val (.int (1 : Int32)), .val (.int (0 : Int32)), .val (.int (0 : Int32))] d16_114 rfl rfl rfl ?_
              refine X.goto (pc' := 28) d16_117 (by decide) (by decide) ?_
              exact HB1 (1 : Int32) (0 : Int32) (0 : Int32) (HL.down (k := 1) (fun q => g1 (q.2 1 (by decide))))
          · refine X.icN (pc' := 114) d16_111 ((feq g2).1) rfl ?_
            refine X.iinc (pc' := 117) #[.val (.ref s1), .val (.int (16 : Int32)), .val (.ref t1), .val (.int (7 : Int32)), .val (.int (9 : Int32)), .val (.int (6 : Int32)), .val (.int (6 : Int32)), .val (.int (6 : Int32)), .val (.int (((58 : Int32) &&& (255 : Int32)).toUInt32.toUInt16.toUInt32.toInt32)), .val (.int (2 : Int32)), .val (.int (0 : Int32)), .val (.int (1 : Int32))] d16_114 rfl rfl rfl ?_
            refine X.goto (pc' := 28) d16_117 (by decide) (by decide) ?_
            exact HB1 (2 : Int32) (0 : Int32) (1 : Int32) (HL.down (k := 1) (fun q => g2 (q.2 2 (by decide))))
        · refine X.icN (pc' := 114) d16_111 ((feq g3).1) rfl ?_
          refine X.iinc (pc' := 117) #[.val (.ref s1), .val (.int (16 : Int32)), .val (.ref t1), .val (.int (7 : Int32)), .val (.int (9 : Int32)), .val (.int (6 : Int32)), .val (.int (6 : Int32)), .val (.int (6 : Int32)), .val (.int (((58 : Int32) &&& (255 : Int32)).toUInt32.toUInt16.toUInt32.toInt32)), .val (.int (3 : Int32)), .val (.int (0 : Int32)), .val (.int (2 : Int32))] d16_114 rfl rfl rfl ?_
          refine X.goto (pc' := 28) d16_117 (by decide) (by decide) ?_
          exact HB1 (3 : Int32) (0 : Int32) (2 : Int32) (HL.down (k := 1) (fun q => g3 (q.2 3 (by decide))))
      · refine X.icN (pc' := 114) d16_111 ((feq g4).1) rfl ?_
        refine X.iinc (pc' := 117) #[.val (.ref s1), .val (.int (16 : Int32)), .val (.ref t1), .val (.int (7 : Int32)), .val (.int (9 : Int32)), .val (.int (6 : Int32)), .val (.int (6 : Int32)), .val (.int (6 : Int32)), .val (.int (((58 : Int32) &&& (255 : Int32)).toUInt32.toUInt16.toUInt32.toInt32)), .val (.int (4 : Int32)), .val (.int (0 : Int32)), .val (.int (3 : Int32))] d16_114 rfl rfl rfl ?_
        refine X.goto (pc' := 28) d16_117 (by decide) (by decide) ?_
        exact HB1 (4 : Int32) (0 : Int32) (3 : Int32) (HL.down (k := 1) (fun q => g4 (q.2 4 (by decide))))
    · refine X.icN (pc' := 114) d16_111 ((feq g5).1) rfl ?_
      refine X.iinc (pc' := 117) #[.val (.ref s1), .val (.int (16 : Int32)), .val (.ref t1), .val (.int (7 : Int32)), .val (.int (9 : Int32)), .val (.int (6 : Int32)), .val (.int (6 : Int32)), .val (.int (6 : Int32)), .val (.int (((58 : Int32) &&& (255 : Int32)).toUInt32.toUInt16.toUInt32.toInt32)), .val (.int (5 : Int32)), .val (.int (0 : Int32)), .val (.int (4 : Int32))] d16_114 rfl rfl rfl ?_
      refine X.goto (pc' := 28) d16_117 (by decide) (by decide) ?_
      exact HB1 (5 : Int32) (0 : Int32) (4 : Int32) (HL.down (k := 1) (fun q => g5 (q.2 5 (by decide))))
  have HB2 : ∀ x9 x10 x11 : Int32, Last (MarkN ds 16) 2 R → Y.Ends pg ev below (GN Z [] (RP s.heap (fun w => ∃ Q : Int32, w = .int Q ∧ Last (MarkN ds 16) 10 Q)) ({ frames := 0, cells := 0, slots := 0, locals := 0 } : Room) s) (T.setTop (mkF m 28 #[.val (.ref s1), .val (.int (16 : Int32)), .val (.ref t1), .val (.int (7 : Int32)), .val (.int (9 : Int32)), .val (.int (6 : Int32)), .val (.int (7 : Int32)), .val (.int (6 : Int32)), .val (.int (((58 : Int32) &&& (255 : Int32)).toUInt32.toUInt16.toUInt32.toInt32)), .val (.int x9), .val (.int x10), .val (.int x11)] [])) := by
    intro x9 x10 x11 HL
    refine X.iload (pc' := 30) d16_28 rfl rfl ?_
    refine X.iload (pc' := 32) d16_30 rfl rfl ?_
    refine X.icN (pc' := 35) d16_32 (by decide) rfl ?_
    refine X.aloadN (pc' := 36) d16_35 rfl rfl rfl ?_
    refine X.iload (pc' := 38) d16_36 rfl rfl ?_
    refine X.baload (pc' := 39) V_s ⟨by decide, by decide⟩ (v := ((ds.getD 7 0).toInt8.toInt32)) (at_map (i := 7) (by omega)) d16_38 rfl ?_
    refine X.sipush (pc' := 42) (255 : Int32) d16_39 rfl rfl ?_
    refine X.iand (pc' := 43) d16_42 rfl ?_
    rw [byte_in (lat_at hlat 7)]
    refine X.iload (pc' := 45) d16_43 rfl rfl ?_
    by_cases hc : ds.getD 7 0 = 58
    · refine X.icY (pc' := 54) d16_45 ((teq (by rw [e58]; exact hc)).1) (by decide) (by decide) ?_
      refine X.iload (pc' := 56) d16_54 rfl rfl ?_
      refine X.iload (pc' := 58) d16_56 rfl rfl ?_
      refine X.icY (pc' := 63) d16_58 (by decide) (by decide) (by decide) ?_
      refine X.iload (pc' := 65) d16_63 rfl rfl ?_
      refine X.iconst (pc' := 66) (1 : Int32) d16_65 rfl rfl ?_
      refine X.isub (pc' := 67) d16_66 rfl ?_
      rw [show (((7 : Int32) - (1 : Int32)) : Int32) = (6 : Int32) from by decide]
      refine X.istore (pc' := 69) #[.val (.ref s1), .val (.int (16 : Int32)), .val (.ref t1), .val (.int (7 : Int32)), .val (.int (9 : Int32)), .val (.int (6 : Int32)), .val (.int (7 : Int32)), .val (.int (6 : Int32)), .val (.int (((58 : Int32) &&& (255 : Int32)).toUInt32.toUInt16.toUInt32.toInt32)), .val (.int (6 : Int32)), .val (.int x10), .val (.int x11)] d16_67 rfl rfl ?_
      refine X.iload (pc' := 71) d16_69 rfl rfl ?_
      refine X.iload (pc' := 73) d16_71 rfl rfl ?_
      refine X.isub (pc' := 74) d16_73 rfl ?_
      rw [show (((6 : Int32) - (6 : Int32)) : Int32) = (0 : Int32) from by decide]
      refine X.istore (pc' := 76) #[.val (.ref s1), .val (.int (16 : Int32)), .val (.ref t1), .val (.int (7 : Int32)), .val (.int (9 : Int32)), .val (.int (6 : Int32)), .val (.int (7 : Int32)), .val (.int (6 : Int32)), .val (.int (((58 : Int32) &&& (255 : Int32)).toUInt32.toUInt16.toUInt32.toInt32)), .val (.int (6 : Int32)), .val (.int (0 : Int32)), .val (.int x11)] d16_74 rfl rfl ?_
      refine X.iload (pc' := 78) d16_76 rfl rfl ?_
      refine X.iconst (pc' := 79) (1 : Int32) d16_78 rfl rfl ?_
      refine X.isub (pc' := 80) d16_79 rfl ?_
      rw [show (((6 : Int32) - (1 : Int32)) : Int32) = (5 : Int32) from by decide]
      refine X.istore (pc' := 82) #[.val (.ref s1), .val (.int (16 : Int32)), .val (.ref t1), .val (.int (7 : Int32)), .val (.int (9 : Int32)), .val (.int (6 : Int32)), .val (.int (7 : Int32)), .val (.int (6 : Int32)), .val (.int (((58 : Int32) &&& (255 : Int32)).toUInt32.toUInt16.toUInt32.toInt32)), .val (.int (6 : Int32)), .val (.int (0 : Int32)), .val (.int (5 : Int32))] d16_80 rfl rfl ?_
      exact HI2 hc HL
    · refine X.icN (pc' := 48) d16_45 ((feq (by rw [e58]; exact hc)).1) rfl ?_
      refine X.iinc (pc' := 51) #[.val (.ref s1), .val (.int (16 : Int32)), .val (.ref t1), .val (.int (7 : Int32)), .val (.int (9 : Int32)), .val (.int (6 : Int32)), .val (.int (6 : Int32)), .val (.int (6 : Int32)), .val (.int (((58 : Int32) &&& (255 : Int32)).toUInt32.toUInt16.toUInt32.toInt32)), .val (.int x9), .val (.int x10), .val (.int x11)] d16_48 rfl rfl rfl ?_
      refine X.goto (pc' := 28) d16_51 (by decide) (by decide) ?_
      exact HB1 x9 x10 x11 (HL.down (k := 1) (fun q => hc (q.2 6 (by decide))))
  have HA2 : Last (MarkN ds 16) 2 R → Y.Ends pg ev below (GN Z [] (RP s.heap (fun w => ∃ Q : Int32, w = .int Q ∧ Last (MarkN ds 16) 10 Q)) ({ frames := 0, cells := 0, slots := 0, locals := 0 } : Room) s) (T.setTop (mkF m 28 #[.val (.ref s1), .val (.int (16 : Int32)), .val (.ref t1), .val (.int (7 : Int32)), .val (.int (9 : Int32)), .val (.int (6 : Int32)), .val (.int (7 : Int32)), .val (.int (6 : Int32)), .val (.int (((58 : Int32) &&& (255 : Int32)).toUInt32.toUInt16.toUInt32.toInt32)), .unset, .unset, .unset] [])) := by
    intro HL
    refine X.iload (pc' := 30) d16_28 rfl rfl ?_
    refine X.iload (pc' := 32) d16_30 rfl rfl ?_
    refine X.icN (pc' := 35) d16_32 (by decide) rfl ?_
    refine X.aloadN (pc' := 36) d16_35 rfl rfl rfl ?_
    refine X.iload (pc' := 38) d16_36 rfl rfl ?_
    refine X.baload (pc' := 39) V_s ⟨by decide, by decide⟩ (v := ((ds.getD 7 0).toInt8.toInt32)) (at_map (i := 7) (by omega)) d16_38 rfl ?_
    refine X.sipush (pc' := 42) (255 : Int32) d16_39 rfl rfl ?_
    refine X.iand (pc' := 43) d16_42 rfl ?_
    rw [byte_in (lat_at hlat 7)]
    refine X.iload (pc' := 45) d16_43 rfl rfl ?_
    by_cases hc : ds.getD 7 0 = 58
    · refine X.icY (pc' := 54) d16_45 ((teq (by rw [e58]; exact hc)).1) (by decide) (by decide) ?_
      refine X.iload (pc' := 56) d16_54 rfl rfl ?_
      refine X.iload (pc' := 58) d16_56 rfl rfl ?_
      refine X.icY (pc' := 63) d16_58 (by decide) (by decide) (by decide) ?_
      refine X.iload (pc' := 65) d16_63 rfl rfl ?_
      refine X.iconst (pc' := 66) (1 : Int32) d16_65 rfl rfl ?_
      refine X.isub (pc' := 67) d16_66 rfl ?_
      rw [show (((7 : Int32) - (1 : Int32)) : Int32) = (6 : Int32) from by decide]
      refine X.istore (pc' := 69) #[.val (.ref s1), .val (.int (16 : Int32)), .val (.ref t1), .val (.int (7 : Int32)), .val (.int (9 : Int32)), .val (.int (6 : Int32)), .val (.int (7 : Int32)), .val (.int (6 : Int32)), .val (.int (((58 : Int32) &&& (255 : Int32)).toUInt32.toUInt16.toUInt32.toInt32)), .val (.int (6 : Int32)), .unset, .unset] d16_67 rfl rfl ?_
      refine X.iload (pc' := 71) d16_69 rfl rfl ?_
      refine X.iload (pc' := 73) d16_71 rfl rfl ?_
      refine X.isub (pc' := 74) d16_73 rfl ?_
      rw [show (((6 : Int32) - (6 : Int32)) : Int32) = (0 : Int32) from by decide]
      refine X.istore (pc' := 76) #[.val (.ref s1), .val (.int (16 : Int32)), .val (.ref t1), .val (.int (7 : Int32)), .val (.int (9 : Int32)), .val (.int (6 : Int32)), .val (.int (7 : Int32)), .val (.int (6 : Int32)), .val (.int (((58 : Int32) &&& (255 : Int32)).toUInt32.toUInt16.toUInt32.toInt32)), .val (.int (6 : Int32)), .val (.int (0 : Int32)), .unset] d16_74 rfl rfl ?_
      refine X.iload (pc' := 78) d16_76 rfl rfl ?_
      refine X.iconst (pc' := 79) (1 : Int32) d16_78 rfl rfl ?_
      refine X.isub (pc' := 80) d16_79 rfl ?_
      rw [show (((6 : Int32) - (1 : Int32)) : Int32) = (5 : Int32) from by decide]
      refine X.istore (pc' := 82) #[.val (.ref s1), .val (.int (16 : Int32)), .val (.ref t1), .val (.int (7 : Int32)), .val (.int (9 : Int32)), .val (.int (6 : Int32)), .val (.int (7 : Int32)), .val (.int (6 : Int32)), .val (.int (((58 : Int32) &&& (255 : Int32)).toUInt32.toUInt16.toUInt32.toInt32)), .val (.int (6 : Int32)), .val (.int (0 : Int32)), .val (.int (5 : Int32))] d16_80 rfl rfl ?_
      exact HI2 hc HL
    · refine X.icN (pc' := 48) d16_45 ((feq (by rw [e58]; exact hc)).1) rfl ?_
      refine X.iinc (pc' := 51) #[.val (.ref s1), .val (.int (16 : Int32)), .val (.ref t1), .val (.int (7 : Int32)), .val (.int (9 : Int32)), .val (.int (6 : Int32)), .val (.int (6 : Int32)), .val (.int (6 : Int32)), .val (.int (((58 : Int32) &&& (255 : Int32)).toUInt32.toUInt16.toUInt32.toInt32)), .unset, .unset, .unset] d16_48 rfl rfl rfl ?_
      refine X.goto (pc' := 28) d16_51 (by decide) (by decide) ?_
      exact HA1  (HL.down (k := 1) (fun q => hc (q.2 6 (by decide))))
  have HI3 : ds.getD 8 0 = 58 → Last (MarkN ds 16) 3 R → Y.Ends pg ev below (GN Z [] (RP s.heap (fun w => ∃ Q : Int32, w = .int Q ∧ Last (MarkN ds 16) 10 Q)) ({ frames := 0, cells := 0, slots := 0, locals := 0 } : Room) s) (T.setTop (mkF m 82 #[.val (.ref s1), .val (.int (16 : Int32)), .val (.ref t1), .val (.int (7 : Int32)), .val (.int (9 : Int32)), .val (.int (6 : Int32)), .val (.int (8 : Int32)), .val (.int (6 : Int32)), .val (.int (((58 : Int32) &&& (255 : Int32)).toUInt32.toUInt16.toUInt32.toInt32)), .val (.int (7 : Int32)), .val (.int (1 : Int32)), .val (.int (5 : Int32))] [])) := by
    intro hc HL
    refine X.iload (pc' := 84) d16_82 rfl rfl ?_
    refine X.iload (pc' := 86) d16_84 rfl rfl ?_
    refine X.icN (pc' := 89) d16_86 (by decide) rfl ?_
    refine X.aloadN (pc' := 90) d16_89 rfl rfl rfl ?_
    refine X.iload (pc' := 92) d16_90 rfl rfl ?_
    refine X.iinc (pc' := 95) #[.val (.ref s1), .val (.int (16 : Int32)), .val (.ref t1), .val (.int (7 : Int32)), .val (.int (9 : Int32)), .val (.int (6 : Int32)), .val (.int (8 : Int32)), .val (.int (6 : Int32)), .val (.int (((58 : Int32) &&& (255 : Int32)).toUInt32.toUInt16.toUInt32.toInt32)), .val (.int (6 : Int32)), .val (.int (1 : Int32)), .val (.int (5 : Int32))] d16_92 rfl rfl rfl ?_
    refine X.baload (pc' := 96) V_s ⟨by decide, by decide⟩ (v := ((ds.getD 7 0).toInt8.toInt32)) (at_map (i := 7) (by omega)) d16_95 rfl ?_
    refine X.sipush (pc' := 99) (255 : Int32) d16_96 rfl rfl ?_
    refine X.iand (pc' := 100) d16_99 rfl ?_
    rw [byte_in (lat_at hlat 7)]
    refine X.aloadN (pc' := 101) d16_100 rfl rfl rfl ?_
    refine X.iload (pc' := 103) d16_101 rfl rfl ?_
    refine X.iinc (pc' := 106) #[.val (.ref s1), .val (.int (16 : Int32)), .val (.ref t1), .val (.int (7 : Int32)), .val (.int (9 : Int32)), .val (.int (6 : Int32)), .val (.int (8 : Int32)), .val (.int (6 : Int32)), .val (.int (((58 : Int32) &&& (255 : Int32)).toUInt32.toUInt16.toUInt32.toInt32)), .val (.int (6 : Int32)), .val (.int (1 : Int32)), .val (.int (4 : Int32))] d16_103 rfl rfl rfl ?_
    refine X.baload (pc' := 107) V_t ⟨by decide, by decide⟩ (v := (110 : Int32)) rfl d16_106 rfl ?_
    refine X.sipush (pc' := 110) (255 : Int32) d16_107 rfl rfl ?_
    refine X.iand (pc' := 111) d16_110 rfl ?_
    rw [show (((110 : Int32) &&& (255 : Int32)) : Int32) = (110 : Int32) from by decide]
    by_cases g5 : ds.getD 7 0 = 110
    · refine X.icY (pc' := 82) d16_111 ((teq g5).1) (by decide) (by decide) ?_
      refine X.iload (pc' := 84) d16_82 rfl rfl ?_
      refine X.iload (pc' := 86) d16_84 rfl rfl ?_
      refine X.icN (pc' := 89) d16_86 (by decide) rfl ?_
      refine X.aloadN (pc' := 90) d16_89 rfl rfl rfl ?_
      refine X.iload (pc' := 92) d16_90 rfl rfl ?_
      refine X.iinc (pc' := 95) #[.val (.ref s1), .val (.int (16 : Int32)), .val (.ref t1), .val (.int (7 : Int32)), .val (.int (9 : Int32)), .val (.int (6 : Int32)), .val (.int (8 : Int32)), .val (.int (6 : Int32)), .val (.int (((58 : Int32) &&& (255 : Int32)).toUInt32.toUInt16.toUInt32.toInt32)), .val (.int (5 : Int32)), .val (.int (1 : Int32)), .val (.int (4 : Int32))] d16_92 rfl rfl rfl ?_
      refine X.baload (pc' := 96) V_s ⟨by decide, by decide⟩ (v := ((ds.getD 6 0).toInt8.toInt32)) (at_map (i := 6) (by omega)) d16_95 rfl ?_
      refine X.sipush (pc' := 99) (255 : Int32) d16_96 rfl rfl ?_
      refine X.iand (pc' := 100) d16_99 rfl ?_
      rw [byte_in (lat_at hlat 6)]
      refine X.aloadN (pc' := 101) d16_100 rfl rfl rfl ?_
      refine X.iload (pc' := 103) d16_101 rfl rfl ?_
      refine X.iinc (pc' := 106) #[.val (.ref s1), .val (.int (16 : Int32)), .val (.ref t1), .val (.int (7 : Int32)), .val (.int (9 : Int32)), .val (.int (6 : Int32)), .val (.int (8 : Int32)), .val (.int (6 : Int32)), .val (.int (((58 : Int32) &&& (255 : Int32)).toUInt32.toUInt16.toUInt32.toInt32)), .val (.int (5 : Int32)), .val (.int (1 : Int32)), .val (.int (3 : Int32))] d16_103 rfl rfl rfl ?_
      refine X.baload (pc' := 107) V_t ⟨by decide, by decide⟩ (v := (101 : Int32)) rfl d16_106 rfl ?_
      refine X.sipush (pc' := 110) (255 : Int32) d16_107 rfl rfl ?_
      refine X.iand (pc' := 111) d16_110 rfl ?_
      rw [show (((101 : Int32) &&& (255 : Int32)) : Int32) = (101 : Int32) from by decide]
      by_cases g4 : ds.getD 6 0 = 101
      · refine X.icY (pc' := 82) d16_111 ((teq g4).1) (by decide) (by decide) ?_
        refine X.iload (pc' := 84) d16_82 rfl rfl ?_
        refine X.iload (pc' := 86) d16_84 rfl rfl ?_
        refine X.icN (pc' := 89) d16_86 (by decide) rfl ?_
        refine X.aloadN (pc' := 90) d16_89 rfl rfl rfl ?_
        refine X.iload (pc' := 92) d16_90 rfl rfl ?_
        refine X.iinc (pc' := 95) #[.val (.ref s1), .val (.int (16 : Int32)), .val (.ref t1), .val (.int (7 : Int32)), .val (.int (9 : Int32)), .val (.int (6 : Int32)), .val (.int (8 : Int32)), .val (.int (6 : Int32)), .val (.int (((58 : Int32) &&& (255 : Int32)).toUInt32.toUInt16.toUInt32.toInt32)), .val (.int (4 : Int32)), .val (.int (1 : Int32)), .val (.int (3 : Int32))] d16_92 rfl rfl rfl ?_
        refine X.baload (pc' := 96) V_s ⟨by decide, by decide⟩ (v := ((ds.getD 5 0).toInt8.toInt32)) (at_map (i := 5) (by omega)) d16_95 rfl ?_
        refine X.sipush (pc' := 99) (255 : Int32) d16_96 rfl rfl ?_
        refine X.iand (pc' := 100) d16_99 rfl ?_
        rw [byte_in (lat_at hlat 5)]
        refine X.aloadN (pc' := 101) d16_100 rfl rfl rfl ?_
        refine X.iload (pc' := 103) d16_101 rfl rfl ?_
        refine X.iinc (pc' := 106) #[.val (.ref s1), .val (.int (16 : Int32)), .val (.ref t1), .val (.int (7 : Int32)), .val (.int (9 : Int32)), .val (.int (6 : Int32)), .val (.int (8 : Int32)), .val (.int (6 : Int32)), .val (.int (((58 : Int32) &&& (255 : Int32)).toUInt32.toUInt16.toUInt32.toInt32)), .val (.int (4 : Int32)), .val (.int (1 : Int32)), .val (.int (2 : Int32))] d16_103 rfl rfl rfl ?_
        refine X.baload (pc' := 107) V_t ⟨by decide, by decide⟩ (v := (107 : Int32)) rfl d16_106 rfl ?_
        refine X.sipush (pc' := 110) (255 : Int32) d16_107 rfl rfl ?_
        refine X.iand (pc' := 111) d16_110 rfl ?_
        rw [show (((107 : Int32) &&& (255 : Int32)) : Int32) = (107 : Int32) from by decide]
        by_cases g3 : ds.getD 5 0 = 107
        · refine X.icY (pc' := 82) d16_111 ((teq g3).1) (by decide) (by decide) ?_
          refine X.iload (pc' := 84) d16_82 rfl rfl ?_
          refine X.iload (pc' := 86) d16_84 rfl rfl ?_
          refine X.icN (pc' := 89) d16_86 (by decide) rfl ?_
          refine X.aloadN (pc' := 90) d16_89 rfl rfl rfl ?_
          refine X.iload (pc' := 92) d16_90 rfl rfl ?_
          refine X.iinc (pc' := 95) #[.val (.ref s1), .val (.int (16 : Int32)), .val (.ref t1), .val (.int (7 : Int32)), .val (.int (9 : Int32)), .val (.int (6 : Int32)), .val (.int (8 : Int32)), .val (.int (6 : Int32)), .val (.int (((58 : Int32) &&& (255 : Int32)).toUInt32.toUInt16.toUInt32.toInt32)), .val (.int (3 : Int32)), .val (.int (1 : Int32)), .val (.int (2 : Int32))] d16_92 rfl rfl rfl ?_
          refine X.baload (pc' := 96) V_s ⟨by decide, by decide⟩ (v := ((ds.getD 4 0).toInt8.toInt32)) (at_map (i := 4) (by omega)) d16_95 rfl ?_
          refine X.sipush (pc' := 99) (255 : Int32) d16_96 rfl rfl ?_
          refine X.iand (pc' := 100) d16_99 rfl ?_
          rw [byte_in (lat_at hlat 4)]
          refine X.aloadN (pc' := 101) d16_100 rfl rfl rfl ?_
          refine X.iload (pc' := 103) d16_101 rfl rfl ?_
          refine X.iinc (pc' := 106) #[.val (.ref s1), .val (.int (16 : Int32)), .val (.ref t1), .val (.int (7 : Int32)), .val (.int (9 : Int32)), .val (.int (6 : Int32)), .val (.int (8 : Int32)), .val (.int (6 : Int32)), .val (.int (((58 : Int32) &&& (255 : Int32)).toUInt32.toUInt16.toUInt32.toInt32)), .val (.int (3 : Int32)), .val (.int (1 : Int32)), .val (.int (1 : Int32))] d16_103 rfl rfl rfl ?_
          refine X.baload (pc' := 107) V_t ⟨by decide, by decide⟩ (v := (111 : Int32)) rfl d16_106 rfl ?_
          refine X.sipush (pc' := 110) (255 : Int32) d16_107 rfl rfl ?_
          refine X.iand (pc' := 111) d16_110 rfl ?_
          rw [show (((111 : Int32) &&& (255 : Int32)) : Int32) = (111 : Int32) from by decide]
          by_cases g2 : ds.getD 4 0 = 111
          · refine X.icY (pc' := 82) d16_111 ((teq g2).1) (by decide) (by decide) ?_
            refine X.iload (pc' := 84) d16_82 rfl rfl ?_
            refine X.iload (pc' := 86) d16_84 rfl rfl ?_
            refine X.icN (pc' := 89) d16_86 (by decide) rfl ?_
            refine X.aloadN (pc' := 90) d16_89 rfl rfl rfl ?_
            refine X.iload (pc' := 92) d16_90 rfl rfl ?_
            refine X.iinc (pc' := 95) #[.val (.ref s1), .val (.int (16 : Int32)), .val (.ref t1), .val (.int (7 : Int32)), .val (.int (9 : Int32)), .val (.int (6 : Int32)), .val (.int (8 : Int32)), .val (.int (6 : Int32)), .val (.int (((58 : Int32) &&& (255 : Int32)).toUInt32.toUInt16.toUInt32.toInt32)), .val (.int (2 : Int32)), .val (.int (1 : Int32)), .val (.int (1 : Int32))] d16_92 rfl rfl rfl ?_
            refine X.baload (pc' := 96) V_s ⟨by decide, by decide⟩ (v := ((ds.getD 3 0).toInt8.toInt32)) (at_map (i := 3) (by omega)) d16_95 rfl ?_
            refine X.sipush (pc' := 99) (255 : Int32) d16_96 rfl rfl ?_
            refine X.iand (pc' := 100) d16_99 rfl ?_
            rw [byte_in (lat_at hlat 3)]
            refine X.aloadN (pc' := 101) d16_100 rfl rfl rfl ?_
            refine X.iload (pc' := 103) d16_101 rfl rfl ?_
            refine X.iinc (pc' := 106) #[.val (.ref s1), .val (.int (16 : Int32)), .val (.ref t1), .val (.int (7 : Int32)), .val (.int (9 : Int32)), .val (.int (6 : Int32)), .val (.int (8 : Int32)), .val (.int (6 : Int32)), .val (.int (((58 : Int32) &&& (255 : Int32)).toUInt32.toUInt16.toUInt32.toInt32)), .val (.int (2 : Int32)), .val (.int (1 : Int32)), .val (.int (0 : Int32))] d16_103 rfl rfl rfl ?_
            refine X.baload (pc' := 107) V_t ⟨by decide, by decide⟩ (v := (119 : Int32)) rfl d16_106 rfl ?_
            refine X.sipush (pc' := 110) (255 : Int32) d16_107 rfl rfl ?_
            refine X.iand (pc' := 111) d16_110 rfl ?_
            rw [show (((119 : Int32) &&& (255 : Int32)) : Int32) = (119 : Int32) from by decide]
            by_cases g1 : ds.getD 3 0 = 119
            · refine X.icY (pc' := 82) d16_111 ((teq g1).1) (by decide) (by decide) ?_
              refine X.iload (pc' := 84) d16_82 rfl rfl ?_
              refine X.iload (pc' := 86) d16_84 rfl rfl ?_
              refine X.icN (pc' := 89) d16_86 (by decide) rfl ?_
              refine X.aloadN (pc' := 90) d16_89 rfl rfl rfl ?_
              refine X.iload (pc' := 92) d16_90 rfl rfl ?_
              refine X.iinc (pc' := 95) #[.val (.ref s1), .val (.int (16 : Int32)), .val (.ref t1), .val (.int (7 : Int32)), .val (.int (9 : Int32)), .val (.int (6 : Int32)), .val (.int (8 : Int32)), .val (.int (6 : Int32)), .val (.int (((58 : Int32) &&& (255 : Int32)).toUInt32.toUInt16.toUInt32.toInt32)), .val (.int (1 : Int32)), .val (.int (1 : Int32)), .val (.int (0 : Int32))] d16_92 rfl rfl rfl ?_
              refine X.baload (pc' := 96) V_s ⟨by decide, by decide⟩ (v := ((ds.getD 2 0).toInt8.toInt32)) (at_map (i := 2) (by omega)) d16_95 rfl ?_
              refine X.sipush (pc' := 99) (255 : Int32) d16_96 rfl rfl ?_
              refine X.iand (pc' := 100) d16_99 rfl ?_
              rw [byte_in (lat_at hlat 2)]
              refine X.aloadN (pc' := 101) d16_100 rfl rfl rfl ?_
              refine X.iload (pc' := 103) d16_101 rfl rfl ?_
              refine X.iinc (pc' := 106) #[.val (.ref s1), .val (.int (16 : Int32)), .val (.ref t1), .val (.int (7 : Int32)), .val (.int (9 : Int32)), .val (.int (6 : Int32)), .val (.int (8 : Int32)), .val (.int (6 : Int32)), .val (.int (((58 : Int32) &&& (255 : Int32)).toUInt32.toUInt16.toUInt32.toInt32)), .val (.int (1 : Int32)), .val (.int (1 : Int32)), .val (.int (-1 : Int32))] d16_103 rfl rfl rfl ?_
              refine X.baload (pc' := 107) V_t ⟨by decide, by decide⟩ (v := (32 : Int32)) rfl d16_106 rfl ?_
              refine X.sipush (pc' := 110) (255 : Int32) d16_107 rfl rfl ?_
              refine X.iand (pc' := 111) d16_110 rfl ?_
              rw [show (((32 : Int32) &&& (255 : Int32)) : Int32) = (32 : Int32) from by decide]
              by_cases g0 : ds.getD 2 0 = 32
              · refine X.icY (pc' := 82) d16_111 ((teq g0).1) (by decide) (by decide) ?_
                refine X.iload (pc' := 84) d16_82 rfl rfl ?_
                refine X.iload (pc' := 86) d16_84 rfl rfl ?_
                refine X.icY (pc' := 120) d16_86 (by decide) (by decide) (by decide) ?_
                refine X.iload (pc' := 122) d16_120 rfl rfl ?_
                refine X.iconst (pc' := 123) (1 : Int32) d16_122 rfl rfl ?_
                refine X.iadd (pc' := 124) d16_123 rfl ?_
                rw [show (((1 : Int32) + (1 : Int32)) : Int32) = (Int32.ofNat 2) from by decide]
                obtain rfl := HL.top (k := 2) (mk_of (by decide) g0 g1 g2 g3 g4 g5 hc)
                exact X.retIN (by simp) rfl d16_124 (by decide) (by decide) ⟨_, rfl, rfl, _, rfl, HL0⟩
              · refine X.icN (pc' := 114) d16_111 ((feq g0).1) rfl ?_
                refine X.iinc (pc' := 117) #[.val (.ref s1), .val (.int (16 : Int32)), .val (.ref t1), .val (.int (7 : Int32)), .val (.int (9 : Int32)), .val (.int (6 : Int32)), .val (.int (7 : Int32)), .val (.int (6 : Int32)), .val (.int (((58 : Int32) &&& (255 : Int32)).toUInt32.toUInt16.toUInt32.toInt32)), .val (.int (1 : Int32)), .val (.int (1 : Int32)), .val (.int (-1 : Int32))] d16_114 rfl rfl rfl ?_
                refine X.goto (pc' := 28) d16_117 (by decide) (by decide) ?_
                exact HB2 (1 : Int32) (1 : Int32) (-1 : Int32) (HL.down (k := 2) (fun q => g0 (q.2 0 (by decide))))
            · refine X.icN (pc' := 114) d16_111 ((feq g1).1) rfl ?_
              refine X.iinc (pc' := 117) #[.val (.ref s1), .val (.int (16 : Int32)), .val (.ref t1), .val (.int (7 : Int32)), .val (.int (9 : Int32)), .val (.int (6 : Int32)), .val (.int (7 : Int32)), .val (.int (6 : Int32)), .val (.int (((58 : Int32) &&& (255 : Int32)).toUInt32.toUInt16.toUInt32.toInt32)), .val (.int (2 : Int32)), .val (.int (1 : Int32)), .val (.int (0 : Int32))] d16_114 rfl rfl rfl ?_
              refine X.goto (pc' := 28) d16_117 (by decide) (by decide) ?_
              exact HB2 (2 : Int32) (1 : Int32) (0 : Int32) (HL.down (k := 2) (fun q => g1 (q.2 1 (by decide))))
          · refine X.icN (pc' := 114) d16_111 ((feq g2).1) rfl ?_
            refine X.iinc (pc' := 117) #[.val (.ref s1), .val (.int (16 : Int32)), .val (.ref t1), .val (.int (7 : Int32)), .val (.int (9 : Int32)), .val (.int (6 : Int32)), .val (.int (7 : Int32)), .val (.int (6 : Int32)), .val (.int (((58 : Int32) &&& (255 : Int32)).toUInt32.toUInt16.toUInt32.toInt32)), .val (.int (3 : Int32)), .val (.int (1 : Int32)), .val (.int (1 : Int32))] d16_114 rfl rfl rfl ?_
            refine X.goto (pc' := 28) d16_117 (by decide) (by decide) ?_
            exact HB2 (3 : Int32) (1 : Int32) (1 : Int32) (HL.down (k := 2) (fun q => g2 (q.2 2 (by decide))))
        · refine X.icN (pc' := 114) d16_111 ((feq g3).1) rfl ?_
          refine X.iinc (pc' := 117) #[.val (.ref s1), .val (.int (16 : Int32)), .val (.ref t1), .val (.int (7 : Int32)), .val (.int (9 : Int32)), .val (.int (6 : Int32)), .val (.int (7 : Int32)), .val (.int (6 : Int32)), .val (.int (((58 : Int32) &&& (255 : Int32)).toUInt32.toUInt16.toUInt32.toInt32)), .val (.int (4 : Int32)), .val (.int (1 : Int32)), .val (.int (2 : Int32))] d16_114 rfl rfl rfl ?_
          refine X.goto (pc' := 28) d16_117 (by decide) (by decide) ?_
          exact HB2 (4 : Int32) (1 : Int32) (2 : Int32) (HL.down (k := 2) (fun q => g3 (q.2 3 (by decide))))
      · refine X.icN (pc' := 114) d16_111 ((feq g4).1) rfl ?_
        refine X.iinc (pc' := 117) #[.val (.ref s1), .val (.int (16 : Int32)), .val (.ref t1), .val (.int (7 : Int32)), .val (.int (9 : Int32)), .val (.int (6 : Int32)), .val (.int (7 : Int32)), .val (.int (6 : Int32)), .val (.int (((58 : Int32) &&& (255 : Int32)).toUInt32.toUInt16.toUInt32.toInt32)), .val (.int (5 : Int32)), .val (.int (1 : Int32)), .val (.int (3 : Int32))] d16_114 rfl rfl rfl ?_
        refine X.goto (pc' := 28) d16_117 (by decide) (by decide) ?_
        exact HB2 (5 : Int32) (1 : Int32) (3 : Int32) (HL.down (k := 2) (fun q => g4 (q.2 4 (by decide))))
    · refine X.icN (pc' := 114) d16_111 ((feq g5).1) rfl ?_
      refine X.iinc (pc' := 117) #[.val (.ref s1), .val (.int (16 : Int32)), .val (.ref t1), .val (.int (7 : Int32)), .val (.int (9 : Int32)), .val (.int (6 : Int32)), .val (.int (7 : Int32)), .val (.int (6 : Int32)), .val (.int (((58 : Int32) &&& (255 : Int32)).toUInt32.toUInt16.toUInt32.toInt32)), .val (.int (6 : Int32)), .val (.int (1 : Int32)), .val (.int (4 : Int32))] d16_114 rfl rfl rfl ?_
      refine X.goto (pc' := 28) d16_117 (by decide) (by decide) ?_
      exact HB2 (6 : Int32) (1 : Int32) (4 : Int32) (HL.down (k := 2) (fun q => g5 (q.2 5 (by decide))))
  have HB3 : ∀ x9 x10 x11 : Int32, Last (MarkN ds 16) 3 R → Y.Ends pg ev below (GN Z [] (RP s.heap (fun w => ∃ Q : Int32, w = .int Q ∧ Last (MarkN ds 16) 10 Q)) ({ frames := 0, cells := 0, slots := 0, locals := 0 } : Room) s) (T.setTop (mkF m 28 #[.val (.ref s1), .val (.int (16 : Int32)), .val (.ref t1), .val (.int (7 : Int32)), .val (.int (9 : Int32)), .val (.int (6 : Int32)), .val (.int (8 : Int32)), .val (.int (6 : Int32)), .val (.int (((58 : Int32) &&& (255 : Int32)).toUInt32.toUInt16.toUInt32.toInt32)), .val (.int x9), .val (.int x10), .val (.int x11)] [])) := by
    intro x9 x10 x11 HL
    refine X.iload (pc' := 30) d16_28 rfl rfl ?_
    refine X.iload (pc' := 32) d16_30 rfl rfl ?_
    refine X.icN (pc' := 35) d16_32 (by decide) rfl ?_
    refine X.aloadN (pc' := 36) d16_35 rfl rfl rfl ?_
    refine X.iload (pc' := 38) d16_36 rfl rfl ?_
    refine X.baload (pc' := 39) V_s ⟨by decide, by decide⟩ (v := ((ds.getD 8 0).toInt8.toInt32)) (at_map (i := 8) (by omega)) d16_38 rfl ?_
    refine X.sipush (pc' := 42) (255 : Int32) d16_39 rfl rfl ?_
    refine X.iand (pc' := 43) d16_42 rfl ?_
    rw [byte_in (lat_at hlat 8)]
    refine X.iload (pc' := 45) d16_43 rfl rfl ?_
    by_cases hc : ds.getD 8 0 = 58
    · refine X.icY (pc' := 54) d16_45 ((teq (by rw [e58]; exact hc)).1) (by decide) (by decide) ?_
      refine X.iload (pc' := 56) d16_54 rfl rfl ?_
      refine X.iload (pc' := 58) d16_56 rfl rfl ?_
      refine X.icY (pc' := 63) d16_58 (by decide) (by decide) (by decide) ?_
      refine X.iload (pc' := 65) d16_63 rfl rfl ?_
      refine X.iconst (pc' := 66) (1 : Int32) d16_65 rfl rfl ?_
      refine X.isub (pc' := 67) d16_66 rfl ?_
      rw [show (((8 : Int32) - (1 : Int32)) : Int32) = (7 : Int32) from by decide]
      refine X.istore (pc' := 69) #[.val (.ref s1), .val (.int (16 : Int32)), .val (.ref t1), .val (.int (7 : Int32)), .val (.int (9 : Int32)), .val (.int (6 : Int32)), .val (.int (8 : Int32)), .val (.int (6 : Int32)), .val (.int (((58 : Int32) &&& (255 : Int32)).toUInt32.toUInt16.toUInt32.toInt32)), .val (.int (7 : Int32)), .val (.int x10), .val (.int x11)] d16_67 rfl rfl ?_
      refine X.iload (pc' := 71) d16_69 rfl rfl ?_
      refine X.iload (pc' := 73) d16_71 rfl rfl ?_
      refine X.isub (pc' := 74) d16_73 rfl ?_
      rw [show (((7 : Int32) - (6 : Int32)) : Int32) = (1 : Int32) from by decide]
      refine X.istore (pc' := 76) #[.val (.ref s1), .val (.int (16 : Int32)), .val (.ref t1), .val (.int (7 : Int32)), .val (.int (9 : Int32)), .val (.int (6 : Int32)), .val (.int (8 : Int32)), .val (.int (6 : Int32)), .val (.int (((58 : Int32) &&& (255 : Int32)).toUInt32.toUInt16.toUInt32.toInt32)), .val (.int (7 : Int32)), .val (.int (1 : Int32)), .val (.int x11)] d16_74 rfl rfl ?_
      refine X.iload (pc' := 78) d16_76 rfl rfl ?_
      refine X.iconst (pc' := 79) (1 : Int32) d16_78 rfl rfl ?_
      refine X.isub (pc' := 80) d16_79 rfl ?_
      rw [show (((6 : Int32) - (1 : Int32)) : Int32) = (5 : Int32) from by decide]
      refine X.istore (pc' := 82) #[.val (.ref s1), .val (.int (16 : Int32)), .val (.ref t1), .val (.int (7 : Int32)), .val (.int (9 : Int32)), .val (.int (6 : Int32)), .val (.int (8 : Int32)), .val (.int (6 : Int32)), .val (.int (((58 : Int32) &&& (255 : Int32)).toUInt32.toUInt16.toUInt32.toInt32)), .val (.int (7 : Int32)), .val (.int (1 : Int32)), .val (.int (5 : Int32))] d16_80 rfl rfl ?_
      exact HI3 hc HL
    · refine X.icN (pc' := 48) d16_45 ((feq (by rw [e58]; exact hc)).1) rfl ?_
      refine X.iinc (pc' := 51) #[.val (.ref s1), .val (.int (16 : Int32)), .val (.ref t1), .val (.int (7 : Int32)), .val (.int (9 : Int32)), .val (.int (6 : Int32)), .val (.int (7 : Int32)), .val (.int (6 : Int32)), .val (.int (((58 : Int32) &&& (255 : Int32)).toUInt32.toUInt16.toUInt32.toInt32)), .val (.int x9), .val (.int x10), .val (.int x11)] d16_48 rfl rfl rfl ?_
      refine X.goto (pc' := 28) d16_51 (by decide) (by decide) ?_
      exact HB2 x9 x10 x11 (HL.down (k := 2) (fun q => hc (q.2 6 (by decide))))
  have HA3 : Last (MarkN ds 16) 3 R → Y.Ends pg ev below (GN Z [] (RP s.heap (fun w => ∃ Q : Int32, w = .int Q ∧ Last (MarkN ds 16) 10 Q)) ({ frames := 0, cells := 0, slots := 0, locals := 0 } : Room) s) (T.setTop (mkF m 28 #[.val (.ref s1), .val (.int (16 : Int32)), .val (.ref t1), .val (.int (7 : Int32)), .val (.int (9 : Int32)), .val (.int (6 : Int32)), .val (.int (8 : Int32)), .val (.int (6 : Int32)), .val (.int (((58 : Int32) &&& (255 : Int32)).toUInt32.toUInt16.toUInt32.toInt32)), .unset, .unset, .unset] [])) := by
    intro HL
    refine X.iload (pc' := 30) d16_28 rfl rfl ?_
    refine X.iload (pc' := 32) d16_30 rfl rfl ?_
    refine X.icN (pc' := 35) d16_32 (by decide) rfl ?_
    refine X.aloadN (pc' := 36) d16_35 rfl rfl rfl ?_
    refine X.iload (pc' := 38) d16_36 rfl rfl ?_
    refine X.baload (pc' := 39) V_s ⟨by decide, by decide⟩ (v := ((ds.getD 8 0).toInt8.toInt32)) (at_map (i := 8) (by omega)) d16_38 rfl ?_
    refine X.sipush (pc' := 42) (255 : Int32) d16_39 rfl rfl ?_
    refine X.iand (pc' := 43) d16_42 rfl ?_
    rw [byte_in (lat_at hlat 8)]
    refine X.iload (pc' := 45) d16_43 rfl rfl ?_
    by_cases hc : ds.getD 8 0 = 58
    · refine X.icY (pc' := 54) d16_45 ((teq (by rw [e58]; exact hc)).1) (by decide) (by decide) ?_
      refine X.iload (pc' := 56) d16_54 rfl rfl ?_
      refine X.iload (pc' := 58) d16_56 rfl rfl ?_
      refine X.icY (pc' := 63) d16_58 (by decide) (by decide) (by decide) ?_
      refine X.iload (pc' := 65) d16_63 rfl rfl ?_
      refine X.iconst (pc' := 66) (1 : Int32) d16_65 rfl rfl ?_
      refine X.isub (pc' := 67) d16_66 rfl ?_
      rw [show (((8 : Int32) - (1 : Int32)) : Int32) = (7 : Int32) from by decide]
      refine X.istore (pc' := 69) #[.val (.ref s1), .val (.int (16 : Int32)), .val (.ref t1), .val (.int (7 : Int32)), .val (.int (9 : Int32)), .val (.int (6 : Int32)), .val (.int (8 : Int32)), .val (.int (6 : Int32)), .val (.int (((58 : Int32) &&& (255 : Int32)).toUInt32.toUInt16.toUInt32.toInt32)), .val (.int (7 : Int32)), .unset, .unset] d16_67 rfl rfl ?_
      refine X.iload (pc' := 71) d16_69 rfl rfl ?_
      refine X.iload (pc' := 73) d16_71 rfl rfl ?_
      refine X.isub (pc' := 74) d16_73 rfl ?_
      rw [show (((7 : Int32) - (6 : Int32)) : Int32) = (1 : Int32) from by decide]
      refine X.istore (pc' := 76) #[.val (.ref s1), .val (.int (16 : Int32)), .val (.ref t1), .val (.int (7 : Int32)), .val (.int (9 : Int32)), .val (.int (6 : Int32)), .val (.int (8 : Int32)), .val (.int (6 : Int32)), .val (.int (((58 : Int32) &&& (255 : Int32)).toUInt32.toUInt16.toUInt32.toInt32)), .val (.int (7 : Int32)), .val (.int (1 : Int32)), .unset] d16_74 rfl rfl ?_
      refine X.iload (pc' := 78) d16_76 rfl rfl ?_
      refine X.iconst (pc' := 79) (1 : Int32) d16_78 rfl rfl ?_
      refine X.isub (pc' := 80) d16_79 rfl ?_
      rw [show (((6 : Int32) - (1 : Int32)) : Int32) = (5 : Int32) from by decide]
      refine X.istore (pc' := 82) #[.val (.ref s1), .val (.int (16 : Int32)), .val (.ref t1), .val (.int (7 : Int32)), .val (.int (9 : Int32)), .val (.int (6 : Int32)), .val (.int (8 : Int32)), .val (.int (6 : Int32)), .val (.int (((58 : Int32) &&& (255 : Int32)).toUInt32.toUInt16.toUInt32.toInt32)), .val (.int (7 : Int32)), .val (.int (1 : Int32)), .val (.int (5 : Int32))] d16_80 rfl rfl ?_
      exact HI3 hc HL
    · refine X.icN (pc' := 48) d16_45 ((feq (by rw [e58]; exact hc)).1) rfl ?_
      refine X.iinc (pc' := 51) #[.val (.ref s1), .val (.int (16 : Int32)), .val (.ref t1), .val (.int (7 : Int32)), .val (.int (9 : Int32)), .val (.int (6 : Int32)), .val (.int (7 : Int32)), .val (.int (6 : Int32)), .val (.int (((58 : Int32) &&& (255 : Int32)).toUInt32.toUInt16.toUInt32.toInt32)), .unset, .unset, .unset] d16_48 rfl rfl rfl ?_
      refine X.goto (pc' := 28) d16_51 (by decide) (by decide) ?_
      exact HA2  (HL.down (k := 2) (fun q => hc (q.2 6 (by decide))))
  have HI4 : ds.getD 9 0 = 58 → Last (MarkN ds 16) 4 R → Y.Ends pg ev below (GN Z [] (RP s.heap (fun w => ∃ Q : Int32, w = .int Q ∧ Last (MarkN ds 16) 10 Q)) ({ frames := 0, cells := 0, slots := 0, locals := 0 } : Room) s) (T.setTop (mkF m 82 #[.val (.ref s1), .val (.int (16 : Int32)), .val (.ref t1), .val (.int (7 : Int32)), .val (.int (9 : Int32)), .val (.int (6 : Int32)), .val (.int (9 : Int32)), .val (.int (6 : Int32)), .val (.int (((58 : Int32) &&& (255 : Int32)).toUInt32.toUInt16.toUInt32.toInt32)), .val (.int (8 : Int32)), .val (.int (2 : Int32)), .val (.int (5 : Int32))] [])) := by
    intro hc HL
    refine X.iload (pc' := 84) d16_82 rfl rfl ?_
    refine X.iload (pc' := 86) d16_84 rfl rfl ?_
    refine X.icN (pc' := 89) d16_86 (by decide) rfl ?_
    refine X.aloadN (pc' := 90) d16_89 rfl rfl rfl ?_
    refine X.iload (pc' := 92) d16_90 rfl rfl ?_
    refine X.iinc (pc' := 95) #[.val (.ref s1), .val (.int (16 : Int32)), .val (.ref t1), .val (.int (7 : Int32)), .val (.int (9 : Int32)), .val (.int (6 : Int32)), .val (.int (9 : Int32)), .val (.int (6 : Int32)), .val (.int (((58 : Int32) &&& (255 : Int32)).toUInt32.toUInt16.toUInt32.toInt32)), .val (.int (7 : Int32)), .val (.int (2 : Int32)), .val (.int (5 : Int32))] d16_92 rfl rfl rfl ?_
    refine X.baload (pc' := 96) V_s ⟨by decide, by decide⟩ (v := ((ds.getD 8 0).toInt8.toInt32)) (at_map (i := 8) (by omega)) d16_95 rfl ?_
    refine X.sipush (pc' := 99) (255 : Int32) d16_96 rfl rfl ?_
    refine X.iand (pc' := 100) d16_99 rfl ?_
    rw [byte_in (lat_at hlat 8)]
    refine X.aloadN (pc' := 101) d16_100 rfl rfl rfl ?_
    refine X.iload (pc' := 103) d16_101 rfl rfl ?_
    refine X.iinc (pc' := 106) #[.val (.ref s1), .val (.int (16 : Int32)), .val (.ref t1), .val (.int (7 : Int32)), .val (.int (9 : Int32)), .val (.int (6 : Int32)), .val (.int (9 : Int32)), .val (.int (6 : Int32)), .val (.int (((58 : Int32) &&& (255 : Int32)).toUInt32.toUInt16.toUInt32.toInt32)), .val (.int (7 : Int32)), .val (.int (2 : Int32)), .val (.int (4 : Int32))] d16_103 rfl rfl rfl ?_
    refine X.baload (pc' := 107) V_t ⟨by decide, by decide⟩ (v := (110 : Int32)) rfl d16_106 rfl ?_
    refine X.sipush (pc' := 110) (255 : Int32) d16_107 rfl rfl ?_
    refine X.iand (pc' := 111) d16_110 rfl ?_
    rw [show (((110 : Int32) &&& (255 : Int32)) : Int32) = (110 : Int32) from by decide]
    by_cases g5 : ds.getD 8 0 = 110
    · refine X.icY (pc' := 82) d16_111 ((teq g5).1) (by decide) (by decide) ?_
      refine X.iload (pc' := 84) d16_82 rfl rfl ?_
      refine X.iload (pc' := 86) d16_84 rfl rfl ?_
      refine X.icN (pc' := 89) d16_86 (by decide) rfl ?_
      refine X.aloadN (pc' := 90) d16_89 rfl rfl rfl ?_
      refine X.iload (pc' := 92) d16_90 rfl rfl ?_
      refine X.iinc (pc' := 95) #[.val (.ref s1), .val (.int (16 : Int32)), .val (.ref t1), .val (.int (7 : Int32)), .val (.int (9 : Int32)), .val (.int (6 : Int32)), .val (.int (9 : Int32)), .val (.int (6 : Int32)), .val (.int (((58 : Int32) &&& (255 : Int32)).toUInt32.toUInt16.toUInt32.toInt32)), .val (.int (6 : Int32)), .val (.int (2 : Int32)), .val (.int (4 : Int32))] d16_92 rfl rfl rfl ?_
      refine X.baload (pc' := 96) V_s ⟨by decide, by decide⟩ (v := ((ds.getD 7 0).toInt8.toInt32)) (at_map (i := 7) (by omega)) d16_95 rfl ?_
      refine X.sipush (pc' := 99) (255 : Int32) d16_96 rfl rfl ?_
      refine X.iand (pc' := 100) d16_99 rfl ?_
      rw [byte_in (lat_at hlat 7)]
      refine X.aloadN (pc' := 101) d16_100 rfl rfl rfl ?_
      refine X.iload (pc' := 103) d16_101 rfl rfl ?_
      refine X.iinc (pc' := 106) #[.val (.ref s1), .val (.int (16 : Int32)), .val (.ref t1), .val (.int (7 : Int32)), .val (.int (9 : Int32)), .val (.int (6 : Int32)), .val (.int (9 : Int32)), .val (.int (6 : Int32)), .val (.int (((58 : Int32) &&& (255 : Int32)).toUInt32.toUInt16.toUInt32.toInt32)), .val (.int (6 : Int32)), .val (.int (2 : Int32)), .val (.int (3 : Int32))] d16_103 rfl rfl rfl ?_
      refine X.baload (pc' := 107) V_t ⟨by decide, by decide⟩ (v := (101 : Int32)) rfl d16_106 rfl ?_
      refine X.sipush (pc' := 110) (255 : Int32) d16_107 rfl rfl ?_
      refine X.iand (pc' := 111) d16_110 rfl ?_
      rw [show (((101 : Int32) &&& (255 : Int32)) : Int32) = (101 : Int32) from by decide]
      by_cases g4 : ds.getD 7 0 = 101
      · refine X.icY (pc' := 82) d16_111 ((teq g4).1) (by decide) (by decide) ?_
        refine X.iload (pc' := 84) d16_82 rfl rfl ?_
        refine X.iload (pc' := 86) d16_84 rfl rfl ?_
        refine X.icN (pc' := 89) d16_86 (by decide) rfl ?_
        refine X.aloadN (pc' := 90) d16_89 rfl rfl rfl ?_
        refine X.iload (pc' := 92) d16_90 rfl rfl ?_
        refine X.iinc (pc' := 95) #[.val (.ref s1), .val (.int (16 : Int32)), .val (.ref t1), .val (.int (7 : Int32)), .val (.int (9 : Int32)), .val (.int (6 : Int32)), .val (.int (9 : Int32)), .val (.int (6 : Int32)), .val (.int (((58 : Int32) &&& (255 : Int32)).toUInt32.toUInt16.toUInt32.toInt32)), .val (.int (5 : Int32)), .val (.int (2 : Int32)), .val (.int (3 : Int32))] d16_92 rfl rfl rfl ?_
        refine X.baload (pc' := 96) V_s ⟨by decide, by decide⟩ (v := ((ds.getD 6 0).toInt8.toInt32)) (at_map (i := 6) (by omega)) d16_95 rfl ?_
        refine X.sipush (pc' := 99) (255 : Int32) d16_96 rfl rfl ?_
        refine X.iand (pc' := 100) d16_99 rfl ?_
        rw [byte_in (lat_at hlat 6)]
        refine X.aloadN (pc' := 101) d16_100 rfl rfl rfl ?_
        refine X.iload (pc' := 103) d16_101 rfl rfl ?_
        refine X.iinc (pc' := 106) #[.val (.ref s1), .val (.int (16 : Int32)), .val (.ref t1), .val (.int (7 : Int32)), .val (.int (9 : Int32)), .val (.int (6 : Int32)), .val (.int (9 : Int32)), .val (.int (6 : Int32)), .val (.int (((58 : Int32) &&& (255 : Int32)).toUInt32.toUInt16.toUInt32.toInt32)), .val (.int (5 : Int32)), .val (.int (2 : Int32)), .val (.int (2 : Int32))] d16_103 rfl rfl rfl ?_
        refine X.baload (pc' := 107) V_t ⟨by decide, by decide⟩ (v := (107 : Int32)) rfl d16_106 rfl ?_
        refine X.sipush (pc' := 110) (255 : Int32) d16_107 rfl rfl ?_
        refine X.iand (pc' := 111) d16_110 rfl ?_
        rw [show (((107 : Int32) &&& (255 : Int32)) : Int32) = (107 : Int32) from by decide]
        by_cases g3 : ds.getD 6 0 = 107
        · refine X.icY (pc' := 82) d16_111 ((teq g3).1) (by decide) (by decide) ?_
          refine X.iload (pc' := 84) d16_82 rfl rfl ?_
          refine X.iload (pc' := 86) d16_84 rfl rfl ?_
          refine X.icN (pc' := 89) d16_86 (by decide) rfl ?_
          refine X.aloadN (pc' := 90) d16_89 rfl rfl rfl ?_
          refine X.iload (pc' := 92) d16_90 rfl rfl ?_
          refine X.iinc (pc' := 95) #[.val (.ref s1), .val (.int (16 : Int32)), .val (.ref t1), .val (.int (7 : Int32)), .val (.int (9 : Int32)), .val (.int (6 : Int32)), .val (.int (9 : Int32)), .val (.int (6 : Int32)), .val (.int (((58 : Int32) &&& (255 : Int32)).toUInt32.toUInt16.toUInt32.toInt32)), .val (.int (4 : Int32)), .val (.int (2 : Int32)), .val (.int (2 : Int32))] d16_92 rfl rfl rfl ?_
          refine X.baload (pc' := 96) V_s ⟨by decide, by decide⟩ (v := ((ds.getD 5 0).toInt8.toInt32)) (at_map (i := 5) (by omega)) d16_95 rfl ?_
          refine X.sipush (pc' := 99) (255 : Int32) d16_96 rfl rfl ?_
          refine X.iand (pc' := 100) d16_99 rfl ?_
          rw [byte_in (lat_at hlat 5)]
          refine X.aloadN (pc' := 101) d16_100 rfl rfl rfl ?_
          refine X.iload (pc' := 103) d16_101 rfl rfl ?_
          refine X.iinc (pc' := 106) #[.val (.ref s1), .val (.int (16 : Int32)), .val (.ref t1), .val (.int (7 : Int32)), .val (.int (9 : Int32)), .val (.int (6 : Int32)), .val (.int (9 : Int32)), .val (.int (6 : Int32)), .val (.int (((58 : Int32) &&& (255 : Int32)).toUInt32.toUInt16.toUInt32.toInt32)), .val (.int (4 : Int32)), .val (.int (2 : Int32)), .val (.int (1 : Int32))] d16_103 rfl rfl rfl ?_
          refine X.baload (pc' := 107) V_t ⟨by decide, by decide⟩ (v := (111 : Int32)) rfl d16_106 rfl ?_
          refine X.sipush (pc' := 110) (255 : Int32) d16_107 rfl rfl ?_
          refine X.iand (pc' := 111) d16_110 rfl ?_
          rw [show (((111 : Int32) &&& (255 : Int32)) : Int32) = (111 : Int32) from by decide]
          by_cases g2 : ds.getD 5 0 = 111
          · refine X.icY (pc' := 82) d16_111 ((teq g2).1) (by decide) (by decide) ?_
            refine X.iload (pc' := 84) d16_82 rfl rfl ?_
            refine X.iload (pc' := 86) d16_84 rfl rfl ?_
            refine X.icN (pc' := 89) d16_86 (by decide) rfl ?_
            refine X.aloadN (pc' := 90) d16_89 rfl rfl rfl ?_
            refine X.iload (pc' := 92) d16_90 rfl rfl ?_
            refine X.iinc (pc' := 95) #[.val (.ref s1), .val (.int (16 : Int32)), .val (.ref t1), .val (.int (7 : Int32)), .val (.int (9 : Int32)), .val (.int (6 : Int32)), .val (.int (9 : Int32)), .val (.int (6 : Int32)), .val (.int (((58 : Int32) &&& (255 : Int32)).toUInt32.toUInt16.toUInt32.toInt32)), .val (.int (3 : Int32)), .val (.int (2 : Int32)), .val (.int (1 : Int32))] d16_92 rfl rfl rfl ?_
            refine X.baload (pc' := 96) V_s ⟨by decide, by decide⟩ (v := ((ds.getD 4 0).toInt8.toInt32)) (at_map (i := 4) (by omega)) d16_95 rfl ?_
            refine X.sipush (pc' := 99) (255 : Int32) d16_96 rfl rfl ?_
            refine X.iand (pc' := 100) d16_99 rfl ?_
            rw [byte_in (lat_at hlat 4)]
            refine X.aloadN (pc' := 101) d16_100 rfl rfl rfl ?_
            refine X.iload (pc' := 103) d16_101 rfl rfl ?_
            refine X.iinc (pc' := 106) #[.val (.ref s1), .val (.int (16 : Int32)), .val (.ref t1), .val (.int (7 : Int32)), .val (.int (9 : Int32)), .val (.int (6 : Int32)), .val (.int (9 : Int32)), .val (.int (6 : Int32)), .val (.int (((58 : Int32) &&& (255 : Int32)).toUInt32.toUInt16.toUInt32.toInt32)), .val (.int (3 : Int32)), .val (.int (2 : Int32)), .val (.int (0 : Int32))] d16_103 rfl rfl rfl ?_
            refine X.baload (pc' := 107) V_t ⟨by decide, by decide⟩ (v := (119 : Int32)) rfl d16_106 rfl ?_
            refine X.sipush (pc' := 110) (255 : Int32) d16_107 rfl rfl ?_
            refine X.iand (pc' := 111) d16_110 rfl ?_
            rw [show (((119 : Int32) &&& (255 : Int32)) : Int32) = (119 : Int32) from by decide]
            by_cases g1 : ds.getD 4 0 = 119
            · refine X.icY (pc' := 82) d16_111 ((teq g1).1) (by decide) (by decide) ?_
              refine X.iload (pc' := 84) d16_82 rfl rfl ?_
              refine X.iload (pc' := 86) d16_84 rfl rfl ?_
              refine X.icN (pc' := 89) d16_86 (by decide) rfl ?_
              refine X.aloadN (pc' := 90) d16_89 rfl rfl rfl ?_
              refine X.iload (pc' := 92) d16_90 rfl rfl ?_
              refine X.iinc (pc' := 95) #[.val (.ref s1), .val (.int (16 : Int32)), .val (.ref t1), .val (.int (7 : Int32)), .val (.int (9 : Int32)), .val (.int (6 : Int32)), .val (.int (9 : Int32)), .val (.int (6 : Int32)), .val (.int (((58 : Int32) &&& (255 : Int32)).toUInt32.toUInt16.toUInt32.toInt32)), .val (.int (2 : Int32)), .val (.int (2 : Int32)), .val (.int (0 : Int32))] d16_92 rfl rfl rfl ?_
              refine X.baload (pc' := 96) V_s ⟨by decide, by decide⟩ (v := ((ds.getD 3 0).toInt8.toInt32)) (at_map (i := 3) (by omega)) d16_95 rfl ?_
              refine X.sipush (pc' := 99) (255 : Int32) d16_96 rfl rfl ?_
              refine X.iand (pc' := 100) d16_99 rfl ?_
              rw [byte_in (lat_at hlat 3)]
              refine X.aloadN (pc' := 101) d16_100 rfl rfl rfl ?_
              refine X.iload (pc' := 103) d16_101 rfl rfl ?_
              refine X.iinc (pc' := 106) #[.val (.ref s1), .val (.int (16 : Int32)), .val (.ref t1), .val (.int (7 : Int32)), .val (.int (9 : Int32)), .val (.int (6 : Int32)), .val (.int (9 : Int32)), .val (.int (6 : Int32)), .val (.int (((58 : Int32) &&& (255 : Int32)).toUInt32.toUInt16.toUInt32.toInt32)), .val (.int (2 : Int32)), .val (.int (2 : Int32)), .val (.int (-1 : Int32))] d16_103 rfl rfl rfl ?_
              refine X.baload (pc' := 107) V_t ⟨by decide, by decide⟩ (v := (32 : Int32)) rfl d16_106 rfl ?_
              refine X.sipush (pc' := 110) (255 : Int32) d16_107 rfl rfl ?_
              refine X.iand (pc' := 111) d16_110 rfl ?_
              rw [show (((32 : Int32) &&& (255 : Int32)) : Int32) = (32 : Int32) from by decide]
              by_cases g0 : ds.getD 3 0 = 32
              · refine X.icY (pc' := 82) d16_111 ((teq g0).1) (by decide) (by decide) ?_
                refine X.iload (pc' := 84) d16_82 rfl rfl ?_
                refine X.iload (pc' := 86) d16_84 rfl rfl ?_
                refine X.icY (pc' := 120) d16_86 (by decide) (by decide) (by decide) ?_
                refine X.iload (pc' := 122) d16_120 rfl rfl ?_
                refine X.iconst (pc' := 123) (1 : Int32) d16_122 rfl rfl ?_
                refine X.iadd (pc' := 124) d16_123 rfl ?_
                rw [show (((2 : Int32) + (1 : Int32)) : Int32) = (Int32.ofNat 3) from by decide]
                obtain rfl := HL.top (k := 3) (mk_of (by decide) g0 g1 g2 g3 g4 g5 hc)
                exact X.retIN (by simp) rfl d16_124 (by decide) (by decide) ⟨_, rfl, rfl, _, rfl, HL0⟩
              · refine X.icN (pc' := 114) d16_111 ((feq g0).1) rfl ?_
                refine X.iinc (pc' := 117) #[.val (.ref s1), .val (.int (16 : Int32)), .val (.ref t1), .val (.int (7 : Int32)), .val (.int (9 : Int32)), .val (.int (6 : Int32)), .val (.int (8 : Int32)), .val (.int (6 : Int32)), .val (.int (((58 : Int32) &&& (255 : Int32)).toUInt32.toUInt16.toUInt32.toInt32)), .val (.int (2 : Int32)), .val (.int (2 : Int32)), .val (.int (-1 : Int32))] d16_114 rfl rfl rfl ?_
                refine X.goto (pc' := 28) d16_117 (by decide) (by decide) ?_
                exact HB3 (2 : Int32) (2 : Int32) (-1 : Int32) (HL.down (k := 3) (fun q => g0 (q.2 0 (by decide))))
            · refine X.icN (pc' := 114) d16_111 ((feq g1).1) rfl ?_
              refine X.iinc (pc' := 117) #[.val (.ref s1), .val (.int (16 : Int32)), .val (.ref t1), .val (.int (7 : Int32)), .val (.int (9 : Int32)), .val (.int (6 : Int32)), .val (.int (8 : Int32)), .val (.int (6 : Int32)), .val (.int (((58 : Int32) &&& (255 : Int32)).toUInt32.toUInt16.toUInt32.toInt32)), .val (.int (3 : Int32)), .val (.int (2 : Int32)), .val (.int (0 : Int32))] d16_114 rfl rfl rfl ?_
              refine X.goto (pc' := 28) d16_117 (by decide) (by decide) ?_
              exact HB3 (3 : Int32) (2 : Int32) (0 : Int32) (HL.down (k := 3) (fun q => g1 (q.2 1 (by decide))))
          · refine X.icN (pc' := 114) d16_111 ((feq g2).1) rfl ?_
            refine X.iinc (pc' := 117) #[.val (.ref s1), .val (.int (16 : Int32)), .val (.ref t1), .val (.int (7 : Int32)), .val (.int (9 : Int32)), .val (.int (6 : Int32)), .val (.int (8 : Int32)), .val (.int (6 : Int32)), .val (.int (((58 : Int32) &&& (255 : Int32)).toUInt32.toUInt16.toUInt32.toInt32)), .val (.int (4 : Int32)), .val (.int (2 : Int32)), .val (.int (1 : Int32))] d16_114 rfl rfl rfl ?_
            refine X.goto (pc' := 28) d16_117 (by decide) (by decide) ?_
            exact HB3 (4 : Int32) (2 : Int32) (1 : Int32) (HL.down (k := 3) (fun q => g2 (q.2 2 (by decide))))
        · refine X.icN (pc' := 114) d16_111 ((feq g3).1) rfl ?_
          refine X.iinc (pc' := 117) #[.val (.ref s1), .val (.int (16 : Int32)), .val (.ref t1), .val (.int (7 : Int32)), .val (.int (9 : Int32)), .val (.int (6 : Int32)), .val (.int (8 : Int32)), .val (.int (6 : Int32)), .val (.int (((58 : Int32) &&& (255 : Int32)).toUInt32.toUInt16.toUInt32.toInt32)), .val (.int (5 : Int32)), .val (.int (2 : Int32)), .val (.int (2 : Int32))] d16_114 rfl rfl rfl ?_
          refine X.goto (pc' := 28) d16_117 (by decide) (by decide) ?_
          exact HB3 (5 : Int32) (2 : Int32) (2 : Int32) (HL.down (k := 3) (fun q => g3 (q.2 3 (by decide))))
      · refine X.icN (pc' := 114) d16_111 ((feq g4).1) rfl ?_
        refine X.iinc (pc' := 117) #[.val (.ref s1), .val (.int (16 : Int32)), .val (.ref t1), .val (.int (7 : Int32)), .val (.int (9 : Int32)), .val (.int (6 : Int32)), .val (.int (8 : Int32)), .val (.int (6 : Int32)), .val (.int (((58 : Int32) &&& (255 : Int32)).toUInt32.toUInt16.toUInt32.toInt32)), .val (.int (6 : Int32)), .val (.int (2 : Int32)), .val (.int (3 : Int32))] d16_114 rfl rfl rfl ?_
        refine X.goto (pc' := 28) d16_117 (by decide) (by decide) ?_
        exact HB3 (6 : Int32) (2 : Int32) (3 : Int32) (HL.down (k := 3) (fun q => g4 (q.2 4 (by decide))))
    · refine X.icN (pc' := 114) d16_111 ((feq g5).1) rfl ?_
      refine X.iinc (pc' := 117) #[.val (.ref s1), .val (.int (16 : Int32)), .val (.ref t1), .val (.int (7 : Int32)), .val (.int (9 : Int32)), .val (.int (6 : Int32)), .val (.int (8 : Int32)), .val (.int (6 : Int32)), .val (.int (((58 : Int32) &&& (255 : Int32)).toUInt32.toUInt16.toUInt32.toInt32)), .val (.int (7 : Int32)), .val (.int (2 : Int32)), .val (.int (4 : Int32))] d16_114 rfl rfl rfl ?_
      refine X.goto (pc' := 28) d16_117 (by decide) (by decide) ?_
      exact HB3 (7 : Int32) (2 : Int32) (4 : Int32) (HL.down (k := 3) (fun q => g5 (q.2 5 (by decide))))
  have HB4 : ∀ x9 x10 x11 : Int32, Last (MarkN ds 16) 4 R → Y.Ends pg ev below (GN Z [] (RP s.heap (fun w => ∃ Q : Int32, w = .int Q ∧ Last (MarkN ds 16) 10 Q)) ({ frames := 0, cells := 0, slots := 0, locals := 0 } : Room) s) (T.setTop (mkF m 28 #[.val (.ref s1), .val (.int (16 : Int32)), .val (.ref t1), .val (.int (7 : Int32)), .val (.int (9 : Int32)), .val (.int (6 : Int32)), .val (.int (9 : Int32)), .val (.int (6 : Int32)), .val (.int (((58 : Int32) &&& (255 : Int32)).toUInt32.toUInt16.toUInt32.toInt32)), .val (.int x9), .val (.int x10), .val (.int x11)] [])) := by
    intro x9 x10 x11 HL
    refine X.iload (pc' := 30) d16_28 rfl rfl ?_
    refine X.iload (pc' := 32) d16_30 rfl rfl ?_
    refine X.icN (pc' := 35) d16_32 (by decide) rfl ?_
    refine X.aloadN (pc' := 36) d16_35 rfl rfl rfl ?_
    refine X.iload (pc' := 38) d16_36 rfl rfl ?_
    refine X.baload (pc' := 39) V_s ⟨by decide, by decide⟩ (v := ((ds.getD 9 0).toInt8.toInt32)) (at_map (i := 9) (by omega)) d16_38 rfl ?_
    refine X.sipush (pc' := 42) (255 : Int32) d16_39 rfl rfl ?_
    refine X.iand (pc' := 43) d16_42 rfl ?_
    rw [byte_in (lat_at hlat 9)]
    refine X.iload (pc' := 45) d16_43 rfl rfl ?_
    by_cases hc : ds.getD 9 0 = 58
    · refine X.icY (pc' := 54) d16_45 ((teq (by rw [e58]; exact hc)).1) (by decide) (by decide) ?_
      refine X.iload (pc' := 56) d16_54 rfl rfl ?_
      refine X.iload (pc' := 58) d16_56 rfl rfl ?_
      refine X.icY (pc' := 63) d16_58 (by decide) (by decide) (by decide) ?_
      refine X.iload (pc' := 65) d16_63 rfl rfl ?_
      refine X.iconst (pc' := 66) (1 : Int32) d16_65 rfl rfl ?_
      refine X.isub (pc' := 67) d16_66 rfl ?_
      rw [show (((9 : Int32) - (1 : Int32)) : Int32) = (8 : Int32) from by decide]
      refine X.istore (pc' := 69) #[.val (.ref s1), .val (.int (16 : Int32)), .val (.ref t1), .val (.int (7 : Int32)), .val (.int (9 : Int32)), .val (.int (6 : Int32)), .val (.int (9 : Int32)), .val (.int (6 : Int32)), .val (.int (((58 : Int32) &&& (255 : Int32)).toUInt32.toUInt16.toUInt32.toInt32)), .val (.int (8 : Int32)), .val (.int x10), .val (.int x11)] d16_67 rfl rfl ?_
      refine X.iload (pc' := 71) d16_69 rfl rfl ?_
      refine X.iload (pc' := 73) d16_71 rfl rfl ?_
      refine X.isub (pc' := 74) d16_73 rfl ?_
      rw [show (((8 : Int32) - (6 : Int32)) : Int32) = (2 : Int32) from by decide]
      refine X.istore (pc' := 76) #[.val (.ref s1), .val (.int (16 : Int32)), .val (.ref t1), .val (.int (7 : Int32)), .val (.int (9 : Int32)), .val (.int (6 : Int32)), .val (.int (9 : Int32)), .val (.int (6 : Int32)), .val (.int (((58 : Int32) &&& (255 : Int32)).toUInt32.toUInt16.toUInt32.toInt32)), .val (.int (8 : Int32)), .val (.int (2 : Int32)), .val (.int x11)] d16_74 rfl rfl ?_
      refine X.iload (pc' := 78) d16_76 rfl rfl ?_
      refine X.iconst (pc' := 79) (1 : Int32) d16_78 rfl rfl ?_
      refine X.isub (pc' := 80) d16_79 rfl ?_
      rw [show (((6 : Int32) - (1 : Int32)) : Int32) = (5 : Int32) from by decide]
      refine X.istore (pc' := 82) #[.val (.ref s1), .val (.int (16 : Int32)), .val (.ref t1), .val (.int (7 : Int32)), .val (.int (9 : Int32)), .val (.int (6 : Int32)), .val (.int (9 : Int32)), .val (.int (6 : Int32)), .val (.int (((58 : Int32) &&& (255 : Int32)).toUInt32.toUInt16.toUInt32.toInt32)), .val (.int (8 : Int32)), .val (.int (2 : Int32)), .val (.int (5 : Int32))] d16_80 rfl rfl ?_
      exact HI4 hc HL
    · refine X.icN (pc' := 48) d16_45 ((feq (by rw [e58]; exact hc)).1) rfl ?_
      refine X.iinc (pc' := 51) #[.val (.ref s1), .val (.int (16 : Int32)), .val (.ref t1), .val (.int (7 : Int32)), .val (.int (9 : Int32)), .val (.int (6 : Int32)), .val (.int (8 : Int32)), .val (.int (6 : Int32)), .val (.int (((58 : Int32) &&& (255 : Int32)).toUInt32.toUInt16.toUInt32.toInt32)), .val (.int x9), .val (.int x10), .val (.int x11)] d16_48 rfl rfl rfl ?_
      refine X.goto (pc' := 28) d16_51 (by decide) (by decide) ?_
      exact HB3 x9 x10 x11 (HL.down (k := 3) (fun q => hc (q.2 6 (by decide))))
  have HA4 : Last (MarkN ds 16) 4 R → Y.Ends pg ev below (GN Z [] (RP s.heap (fun w => ∃ Q : Int32, w = .int Q ∧ Last (MarkN ds 16) 10 Q)) ({ frames := 0, cells := 0, slots := 0, locals := 0 } : Room) s) (T.setTop (mkF m 28 #[.val (.ref s1), .val (.int (16 : Int32)), .val (.ref t1), .val (.int (7 : Int32)), .val (.int (9 : Int32)), .val (.int (6 : Int32)), .val (.int (9 : Int32)), .val (.int (6 : Int32)), .val (.int (((58 : Int32) &&& (255 : Int32)).toUInt32.toUInt16.toUInt32.toInt32)), .unset, .unset, .unset] [])) := by
    intro HL
    refine X.iload (pc' := 30) d16_28 rfl rfl ?_
    refine X.iload (pc' := 32) d16_30 rfl rfl ?_
    refine X.icN (pc' := 35) d16_32 (by decide) rfl ?_
    refine X.aloadN (pc' := 36) d16_35 rfl rfl rfl ?_
    refine X.iload (pc' := 38) d16_36 rfl rfl ?_
    refine X.baload (pc' := 39) V_s ⟨by decide, by decide⟩ (v := ((ds.getD 9 0).toInt8.toInt32)) (at_map (i := 9) (by omega)) d16_38 rfl ?_
    refine X.sipush (pc' := 42) (255 : Int32) d16_39 rfl rfl ?_
    refine X.iand (pc' := 43) d16_42 rfl ?_
    rw [byte_in (lat_at hlat 9)]
    refine X.iload (pc' := 45) d16_43 rfl rfl ?_
    by_cases hc : ds.getD 9 0 = 58
    · refine X.icY (pc' := 54) d16_45 ((teq (by rw [e58]; exact hc)).1) (by decide) (by decide) ?_
      refine X.iload (pc' := 56) d16_54 rfl rfl ?_
      refine X.iload (pc' := 58) d16_56 rfl rfl ?_
      refine X.icY (pc' := 63) d16_58 (by decide) (by decide) (by decide) ?_
      refine X.iload (pc' := 65) d16_63 rfl rfl ?_
      refine X.iconst (pc' := 66) (1 : Int32) d16_65 rfl rfl ?_
      refine X.isub (pc' := 67) d16_66 rfl ?_
      rw [show (((9 : Int32) - (1 : Int32)) : Int32) = (8 : Int32) from by decide]
      refine X.istore (pc' := 69) #[.val (.ref s1), .val (.int (16 : Int32)), .val (.ref t1), .val (.int (7 : Int32)), .val (.int (9 : Int32)), .val (.int (6 : Int32)), .val (.int (9 : Int32)), .val (.int (6 : Int32)), .val (.int (((58 : Int32) &&& (255 : Int32)).toUInt32.toUInt16.toUInt32.toInt32)), .val (.int (8 : Int32)), .unset, .unset] d16_67 rfl rfl ?_
      refine X.iload (pc' := 71) d16_69 rfl rfl ?_
      refine X.iload (pc' := 73) d16_71 rfl rfl ?_
      refine X.isub (pc' := 74) d16_73 rfl ?_
      rw [show (((8 : Int32) - (6 : Int32)) : Int32) = (2 : Int32) from by decide]
      refine X.istore (pc' := 76) #[.val (.ref s1), .val (.int (16 : Int32)), .val (.ref t1), .val (.int (7 : Int32)), .val (.int (9 : Int32)), .val (.int (6 : Int32)), .val (.int (9 : Int32)), .val (.int (6 : Int32)), .val (.int (((58 : Int32) &&& (255 : Int32)).toUInt32.toUInt16.toUInt32.toInt32)), .val (.int (8 : Int32)), .val (.int (2 : Int32)), .unset] d16_74 rfl rfl ?_
      refine X.iload (pc' := 78) d16_76 rfl rfl ?_
      refine X.iconst (pc' := 79) (1 : Int32) d16_78 rfl rfl ?_
      refine X.isub (pc' := 80) d16_79 rfl ?_
      rw [show (((6 : Int32) - (1 : Int32)) : Int32) = (5 : Int32) from by decide]
      refine X.istore (pc' := 82) #[.val (.ref s1), .val (.int (16 : Int32)), .val (.ref t1), .val (.int (7 : Int32)), .val (.int (9 : Int32)), .val (.int (6 : Int32)), .val (.int (9 : Int32)), .val (.int (6 : Int32)), .val (.int (((58 : Int32) &&& (255 : Int32)).toUInt32.toUInt16.toUInt32.toInt32)), .val (.int (8 : Int32)), .val (.int (2 : Int32)), .val (.int (5 : Int32))] d16_80 rfl rfl ?_
      exact HI4 hc HL
    · refine X.icN (pc' := 48) d16_45 ((feq (by rw [e58]; exact hc)).1) rfl ?_
      refine X.iinc (pc' := 51) #[.val (.ref s1), .val (.int (16 : Int32)), .val (.ref t1), .val (.int (7 : Int32)), .val (.int (9 : Int32)), .val (.int (6 : Int32)), .val (.int (8 : Int32)), .val (.int (6 : Int32)), .val (.int (((58 : Int32) &&& (255 : Int32)).toUInt32.toUInt16.toUInt32.toInt32)), .unset, .unset, .unset] d16_48 rfl rfl rfl ?_
      refine X.goto (pc' := 28) d16_51 (by decide) (by decide) ?_
      exact HA3  (HL.down (k := 3) (fun q => hc (q.2 6 (by decide))))
  have HI5 : ds.getD 10 0 = 58 → Last (MarkN ds 16) 5 R → Y.Ends pg ev below (GN Z [] (RP s.heap (fun w => ∃ Q : Int32, w = .int Q ∧ Last (MarkN ds 16) 10 Q)) ({ frames := 0, cells := 0, slots := 0, locals := 0 } : Room) s) (T.setTop (mkF m 82 #[.val (.ref s1), .val (.int (16 : Int32)), .val (.ref t1), .val (.int (7 : Int32)), .val (.int (9 : Int32)), .val (.int (6 : Int32)), .val (.int (10 : Int32)), .val (.int (6 : Int32)), .val (.int (((58 : Int32) &&& (255 : Int32)).toUInt32.toUInt16.toUInt32.toInt32)), .val (.int (9 : Int32)), .val (.int (3 : Int32)), .val (.int (5 : Int32))] [])) := by
    intro hc HL
    refine X.iload (pc' := 84) d16_82 rfl rfl ?_
    refine X.iload (pc' := 86) d16_84 rfl rfl ?_
    refine X.icN (pc' := 89) d16_86 (by decide) rfl ?_
    refine X.aloadN (pc' := 90) d16_89 rfl rfl rfl ?_
    refine X.iload (pc' := 92) d16_90 rfl rfl ?_
    refine X.iinc (pc' := 95) #[.val (.ref s1), .val (.int (16 : Int32)), .val (.ref t1), .val (.int (7 : Int32)), .val (.int (9 : Int32)), .val (.int (6 : Int32)), .val (.int (10 : Int32)), .val (.int (6 : Int32)), .val (.int (((58 : Int32) &&& (255 : Int32)).toUInt32.toUInt16.toUInt32.toInt32)), .val (.int (8 : Int32)), .val (.int (3 : Int32)), .val (.int (5 : Int32))] d16_92 rfl rfl rfl ?_
    refine X.baload (pc' := 96) V_s ⟨by decide, by decide⟩ (v := ((ds.getD 9 0).toInt8.toInt32)) (at_map (i := 9) (by omega)) d16_95 rfl ?_
    refine X.sipush (pc' := 99) (255 : Int32) d16_96 rfl rfl ?_
    refine X.iand (pc' := 100) d16_99 rfl ?_
    rw [byte_in (lat_at hlat 9)]
    refine X.aloadN (pc' := 101) d16_100 rfl rfl rfl ?_
    refine X.iload (pc' := 103) d16_101 rfl rfl ?_
    refine X.iinc (pc' := 106) #[.val (.ref s1), .val (.int (16 : Int32)), .val (.ref t1), .val (.int (7 : Int32)), .val (.int (9 : Int32)), .val (.int (6 : Int32)), .val (.int (10 : Int32)), .val (.int (6 : Int32)), .val (.int (((58 : Int32) &&& (255 : Int32)).toUInt32.toUInt16.toUInt32.toInt32)), .val (.int (8 : Int32)), .val (.int (3 : Int32)), .val (.int (4 : Int32))] d16_103 rfl rfl rfl ?_
    refine X.baload (pc' := 107) V_t ⟨by decide, by decide⟩ (v := (110 : Int32)) rfl d16_106 rfl ?_
    refine X.sipush (pc' := 110) (255 : Int32) d16_107 rfl rfl ?_
    refine X.iand (pc' := 111) d16_110 rfl ?_
    rw [show (((110 : Int32) &&& (255 : Int32)) : Int32) = (110 : Int32) from by decide]
    by_cases g5 : ds.getD 9 0 = 110
    · refine X.icY (pc' := 82) d16_111 ((teq g5).1) (by decide) (by decide) ?_
      refine X.iload (pc' := 84) d16_82 rfl rfl ?_
      refine X.iload (pc' := 86) d16_84 rfl rfl ?_
      refine X.icN (pc' := 89) d16_86 (by decide) rfl ?_
      refine X.aloadN (pc' := 90) d16_89 rfl rfl rfl ?_
      refine X.iload (pc' := 92) d16_90 rfl rfl ?_
      refine X.iinc (pc' := 95) #[.val (.ref s1), .val (.int (16 : Int32)), .val (.ref t1), .val (.int (7 : Int32)), .val (.int (9 : Int32)), .val (.int (6 : Int32)), .val (.int (10 : Int32)), .val (.int (6 : Int32)), .val (.int (((58 : Int32) &&& (255 : Int32)).toUInt32.toUInt16.toUInt32.toInt32)), .val (.int (7 : Int32)), .val (.int (3 : Int32)), .val (.int (4 : Int32))] d16_92 rfl rfl rfl ?_
      refine X.baload (pc' := 96) V_s ⟨by decide, by decide⟩ (v := ((ds.getD 8 0).toInt8.toInt32)) (at_map (i := 8) (by omega)) d16_95 rfl ?_
      refine X.sipush (pc' := 99) (255 : Int32) d16_96 rfl rfl ?_
      refine X.iand (pc' := 100) d16_99 rfl ?_
      rw [byte_in (lat_at hlat 8)]
      refine X.aloadN (pc' := 101) d16_100 rfl rfl rfl ?_
      refine X.iload (pc' := 103) d16_101 rfl rfl ?_
      refine X.iinc (pc' := 106) #[.val (.ref s1), .val (.int (16 : Int32)), .val (.ref t1), .val (.int (7 : Int32)), .val (.int (9 : Int32)), .val (.int (6 : Int32)), .val (.int (10 : Int32)), .val (.int (6 : Int32)), .val (.int (((58 : Int32) &&& (255 : Int32)).toUInt32.toUInt16.toUInt32.toInt32)), .val (.int (7 : Int32)), .val (.int (3 : Int32)), .val (.int (3 : Int32))] d16_103 rfl rfl rfl ?_
      refine X.baload (pc' := 107) V_t ⟨by decide, by decide⟩ (v := (101 : Int32)) rfl d16_106 rfl ?_
      refine X.sipush (pc' := 110) (255 : Int32) d16_107 rfl rfl ?_
      refine X.iand (pc' := 111) d16_110 rfl ?_
      rw [show (((101 : Int32) &&& (255 : Int32)) : Int32) = (101 : Int32) from by decide]
      by_cases g4 : ds.getD 8 0 = 101
      · refine X.icY (pc' := 82) d16_111 ((teq g4).1) (by decide) (by decide) ?_
        refine X.iload (pc' := 84) d16_82 rfl rfl ?_
        refine X.iload (pc' := 86) d16_84 rfl rfl ?_
        refine X.icN (pc' := 89) d16_86 (by decide) rfl ?_
        refine X.aloadN (pc' := 90) d16_89 rfl rfl rfl ?_
        refine X.iload (pc' := 92) d16_90 rfl rfl ?_
        refine X.iinc (pc' := 95) #[.val (.ref s1), .val (.int (16 : Int32)), .val (.ref t1), .val (.int (7 : Int32)), .val (.int (9 : Int32)), .val (.int (6 : Int32)), .val (.int (10 : Int32)), .val (.int (6 : Int32)), .val (.int (((58 : Int32) &&& (255 : Int32)).toUInt32.toUInt16.toUInt32.toInt32)), .val (.int (6 : Int32)), .val (.int (3 : Int32)), .val (.int (3 : Int32))] d16_92 rfl rfl rfl ?_
        refine X.baload (pc' := 96) V_s ⟨by decide, by decide⟩ (v := ((ds.getD 7 0).toInt8.toInt32)) (at_map (i := 7) (by omega)) d16_95 rfl ?_
        refine X.sipush (pc' := 99) (255 : Int32) d16_96 rfl rfl ?_
        refine X.iand (pc' := 100) d16_99 rfl ?_
        rw [byte_in (lat_at hlat 7)]
        refine X.aloadN (pc' := 101) d16_100 rfl rfl rfl ?_
        refine X.iload (pc' := 103) d16_101 rfl rfl ?_
        refine X.iinc (pc' := 106) #[.val (.ref s1), .val (.int (16 : Int32)), .val (.ref t1), .val (.int (7 : Int32)), .val (.int (9 : Int32)), .val (.int (6 : Int32)), .val (.int (10 : Int32)), .val (.int (6 : Int32)), .val (.int (((58 : Int32) &&& (255 : Int32)).toUInt32.toUInt16.toUInt32.toInt32)), .val (.int (6 : Int32)), .val (.int (3 : Int32)), .val (.int (2 : Int32))] d16_103 rfl rfl rfl ?_
        refine X.baload (pc' := 107) V_t ⟨by decide, by decide⟩ (v := (107 : Int32)) rfl d16_106 rfl ?_
        refine X.sipush (pc' := 110) (255 : Int32) d16_107 rfl rfl ?_
        refine X.iand (pc' := 111) d16_110 rfl ?_
        rw [show (((107 : Int32) &&& (255 : Int32)) : Int32) = (107 : Int32) from by decide]
        by_cases g3 : ds.getD 7 0 = 107
        · refine X.icY (pc' := 82) d16_111 ((teq g3).1) (by decide) (by decide) ?_
          refine X.iload (pc' := 84) d16_82 rfl rfl ?_
          refine X.iload (pc' := 86) d16_84 rfl rfl ?_
          refine X.icN (pc' := 89) d16_86 (by decide) rfl ?_
          refine X.aloadN (pc' := 90) d16_89 rfl rfl rfl ?_
          refine X.iload (pc' := 92) d16_90 rfl rfl ?_
          refine X.iinc (pc' := 95) #[.val (.ref s1), .val (.int (16 : Int32)), .val (.ref t1), .val (.int (7 : Int32)), .val (.int (9 : Int32)), .val (.int (6 : Int32)), .val (.int (10 : Int32)), .val (.int (6 : Int32)), .val (.int (((58 : Int32) &&& (255 : Int32)).toUInt32.toUInt16.toUInt32.toInt32)), .val (.int (5 : Int32)), .val (.int (3 : Int32)), .val (.int (2 : Int32))] d16_92 rfl rfl rfl ?_
          refine X.baload (pc' := 96) V_s ⟨by decide, by decide⟩ (v := ((ds.getD 6 0).toInt8.toInt32)) (at_map (i := 6) (by omega)) d16_95 rfl ?_
          refine X.sipush (pc' := 99) (255 : Int32) d16_96 rfl rfl ?_
          refine X.iand (pc' := 100) d16_99 rfl ?_
          rw [byte_in (lat_at hlat 6)]
          refine X.aloadN (pc' := 101) d16_100 rfl rfl rfl ?_
          refine X.iload (pc' := 103) d16_101 rfl rfl ?_
          refine X.iinc (pc' := 106) #[.val (.ref s1), .val (.int (16 : Int32)), .val (.ref t1), .val (.int (7 : Int32)), .val (.int (9 : Int32)), .val (.int (6 : Int32)), .val (.int (10 : Int32)), .val (.int (6 : Int32)), .val (.int (((58 : Int32) &&& (255 : Int32)).toUInt32.toUInt16.toUInt32.toInt32)), .val (.int (5 : Int32)), .val (.int (3 : Int32)), .val (.int (1 : Int32))] d16_103 rfl rfl rfl ?_
          refine X.baload (pc' := 107) V_t ⟨by decide, by decide⟩ (v := (111 : Int32)) rfl d16_106 rfl ?_
          refine X.sipush (pc' := 110) (255 : Int32) d16_107 rfl rfl ?_
          refine X.iand (pc' := 111) d16_110 rfl ?_
          rw [show (((111 : Int32) &&& (255 : Int32)) : Int32) = (111 : Int32) from by decide]
          by_cases g2 : ds.getD 6 0 = 111
          · refine X.icY (pc' := 82) d16_111 ((teq g2).1) (by decide) (by decide) ?_
            refine X.iload (pc' := 84) d16_82 rfl rfl ?_
            refine X.iload (pc' := 86) d16_84 rfl rfl ?_
            refine X.icN (pc' := 89) d16_86 (by decide) rfl ?_
            refine X.aloadN (pc' := 90) d16_89 rfl rfl rfl ?_
            refine X.iload (pc' := 92) d16_90 rfl rfl ?_
            refine X.iinc (pc' := 95) #[.val (.ref s1), .val (.int (16 : Int32)), .val (.ref t1), .val (.int (7 : Int32)), .val (.int (9 : Int32)), .val (.int (6 : Int32)), .val (.int (10 : Int32)), .val (.int (6 : Int32)), .val (.int (((58 : Int32) &&& (255 : Int32)).toUInt32.toUInt16.toUInt32.toInt32)), .val (.int (4 : Int32)), .val (.int (3 : Int32)), .val (.int (1 : Int32))] d16_92 rfl rfl rfl ?_
            refine X.baload (pc' := 96) V_s ⟨by decide, by decide⟩ (v := ((ds.getD 5 0).toInt8.toInt32)) (at_map (i := 5) (by omega)) d16_95 rfl ?_
            refine X.sipush (pc' := 99) (255 : Int32) d16_96 rfl rfl ?_
            refine X.iand (pc' := 100) d16_99 rfl ?_
            rw [byte_in (lat_at hlat 5)]
            refine X.aloadN (pc' := 101) d16_100 rfl rfl rfl ?_
            refine X.iload (pc' := 103) d16_101 rfl rfl ?_
            refine X.iinc (pc' := 106) #[.val (.ref s1), .val (.int (16 : Int32)), .val (.ref t1), .val (.int (7 : Int32)), .val (.int (9 : Int32)), .val (.int (6 : Int32)), .val (.int (10 : Int32)), .val (.int (6 : Int32)), .val (.int (((58 : Int32) &&& (255 : Int32)).toUInt32.toUInt16.toUInt32.toInt32)), .val (.int (4 : Int32)), .val (.int (3 : Int32)), .val (.int (0 : Int32))] d16_103 rfl rfl rfl ?_
            refine X.baload (pc' := 107) V_t ⟨by decide, by decide⟩ (v := (119 : Int32)) rfl d16_106 rfl ?_
            refine X.sipush (pc' := 110) (255 : Int32) d16_107 rfl rfl ?_
            refine X.iand (pc' := 111) d16_110 rfl ?_
            rw [show (((119 : Int32) &&& (255 : Int32)) : Int32) = (119 : Int32) from by decide]
            by_cases g1 : ds.getD 5 0 = 119
            · refine X.icY (pc' := 82) d16_111 ((teq g1).1) (by decide) (by decide) ?_
              refine X.iload (pc' := 84) d16_82 rfl rfl ?_
              refine X.iload (pc' := 86) d16_84 rfl rfl ?_
              refine X.icN (pc' := 89) d16_86 (by decide) rfl ?_
              refine X.aloadN (pc' := 90) d16_89 rfl rfl rfl ?_
              refine X.iload (pc' := 92) d16_90 rfl rfl ?_
              refine X.iinc (pc' := 95) #[.val (.ref s1), .val (.int (16 : Int32)), .val (.ref t1), .val (.int (7 : Int32)), .val (.int (9 : Int32)), .val (.int (6 : Int32)), .val (.int (10 : Int32)), .val (.int (6 : Int32)), .val (.int (((58 : Int32) &&& (255 : Int32)).toUInt32.toUInt16.toUInt32.toInt32)), .val (.int (3 : Int32)), .val (.int (3 : Int32)), .val (.int (0 : Int32))] d16_92 rfl rfl rfl ?_
              refine X.baload (pc' := 96) V_s ⟨by decide, by decide⟩ (v := ((ds.getD 4 0).toInt8.toInt32)) (at_map (i := 4) (by omega)) d16_95 rfl ?_
              refine X.sipush (pc' := 99) (255 : Int32) d16_96 rfl rfl ?_
              refine X.iand (pc' := 100) d16_99 rfl ?_
              rw [byte_in (lat_at hlat 4)]
              refine X.aloadN (pc' := 101) d16_100 rfl rfl rfl ?_
              refine X.iload (pc' := 103) d16_101 rfl rfl ?_
              refine X.iinc (pc' := 106) #[.val (.ref s1), .val (.int (16 : Int32)), .val (.ref t1), .val (.int (7 : Int32)), .val (.int (9 : Int32)), .val (.int (6 : Int32)), .val (.int (10 : Int32)), .val (.int (6 : Int32)), .val (.int (((58 : Int32) &&& (255 : Int32)).toUInt32.toUInt16.toUInt32.toInt32)), .val (.int (3 : Int32)), .val (.int (3 : Int32)), .val (.int (-1 : Int32))] d16_103 rfl rfl rfl ?_
              refine X.baload (pc' := 107) V_t ⟨by decide, by decide⟩ (v := (32 : Int32)) rfl d16_106 rfl ?_
              refine X.sipush (pc' := 110) (255 : Int32) d16_107 rfl rfl ?_
              refine X.iand (pc' := 111) d16_110 rfl ?_
              rw [show (((32 : Int32) &&& (255 : Int32)) : Int32) = (32 : Int32) from by decide]
              by_cases g0 : ds.getD 4 0 = 32
              · refine X.icY (pc' := 82) d16_111 ((teq g0).1) (by decide) (by decide) ?_
                refine X.iload (pc' := 84) d16_82 rfl rfl ?_
                refine X.iload (pc' := 86) d16_84 rfl rfl ?_
                refine X.icY (pc' := 120) d16_86 (by decide) (by decide) (by decide) ?_
                refine X.iload (pc' := 122) d16_120 rfl rfl ?_
                refine X.iconst (pc' := 123) (1 : Int32) d16_122 rfl rfl ?_
                refine X.iadd (pc' := 124) d16_123 rfl ?_
                rw [show (((3 : Int32) + (1 : Int32)) : Int32) = (Int32.ofNat 4) from by decide]
                obtain rfl := HL.top (k := 4) (mk_of (by decide) g0 g1 g2 g3 g4 g5 hc)
                exact X.retIN (by simp) rfl d16_124 (by decide) (by decide) ⟨_, rfl, rfl, _, rfl, HL0⟩
              · refine X.icN (pc' := 114) d16_111 ((feq g0).1) rfl ?_
                refine X.iinc (pc' := 117) #[.val (.ref s1), .val (.int (16 : Int32)), .val (.ref t1), .val (.int (7 : Int32)), .val (.int (9 : Int32)), .val (.int (6 : Int32)), .val (.int (9 : Int32)), .val (.int (6 : Int32)), .val (.int (((58 : Int32) &&& (255 : Int32)).toUInt32.toUInt16.toUInt32.toInt32)), .val (.int (3 : Int32)), .val (.int (3 : Int32)), .val (.int (-1 : Int32))] d16_114 rfl rfl rfl ?_
                refine X.goto (pc' := 28) d16_117 (by decide) (by decide) ?_
                exact HB4 (3 : Int32) (3 : Int32) (-1 : Int32) (HL.down (k := 4) (fun q => g0 (q.2 0 (by decide))))
            · refine X.icN (pc' := 114) d16_111 ((feq g1).1) rfl ?_
              refine X.iinc (pc' := 117) #[.val (.ref s1), .val (.int (16 : Int32)), .val (.ref t1), .val (.int (7 : Int32)), .val (.int (9 : Int32)), .val (.int (6 : Int32)), .val (.int (9 : Int32)), .val (.int (6 : Int32)), .val (.int (((58 : Int32) &&& (255 : Int32)).toUInt32.toUInt16.toUInt32.toInt32)), .val (.int (4 : Int32)), .val (.int (3 : Int32)), .val (.int (0 : Int32))] d16_114 rfl rfl rfl ?_
              refine X.goto (pc' := 28) d16_117 (by decide) (by decide) ?_
              exact HB4 (4 : Int32) (3 : Int32) (0 : Int32) (HL.down (k := 4) (fun q => g1 (q.2 1 (by decide))))
          · refine X.icN (pc' := 114) d16_111 ((feq g2).1) rfl ?_
            refine X.iinc (pc' := 117) #[.val (.ref s1), .val (.int (16 : Int32)), .val (.ref t1), .val (.int (7 : Int32)), .val (.int (9 : Int32)), .val (.int (6 : Int32)), .val (.int (9 : Int32)), .val (.int (6 : Int32)), .val (.int (((58 : Int32) &&& (255 : Int32)).toUInt32.toUInt16.toUInt32.toInt32)), .val (.int (5 : Int32)), .val (.int (3 : Int32)), .val (.int (1 : Int32))] d16_114 rfl rfl rfl ?_
            refine X.goto (pc' := 28) d16_117 (by decide) (by decide) ?_
            exact HB4 (5 : Int32) (3 : Int32) (1 : Int32) (HL.down (k := 4) (fun q => g2 (q.2 2 (by decide))))
        · refine X.icN (pc' := 114) d16_111 ((feq g3).1) rfl ?_
          refine X.iinc (pc' := 117) #[.val (.ref s1), .val (.int (16 : Int32)), .val (.ref t1), .val (.int (7 : Int32)), .val (.int (9 : Int32)), .val (.int (6 : Int32)), .val (.int (9 : Int32)), .val (.int (6 : Int32)), .val (.int (((58 : Int32) &&& (255 : Int32)).toUInt32.toUInt16.toUInt32.toInt32)), .val (.int (6 : Int32)), .val (.int (3 : Int32)), .val (.int (2 : Int32))] d16_114 rfl rfl rfl ?_
          refine X.goto (pc' := 28) d16_117 (by decide) (by decide) ?_
          exact HB4 (6 : Int32) (3 : Int32) (2 : Int32) (HL.down (k := 4) (fun q => g3 (q.2 3 (by decide))))
      · refine X.icN (pc' := 114) d16_111 ((feq g4).1) rfl ?_
        refine X.iinc (pc' := 117) #[.val (.ref s1), .val (.int (16 : Int32)), .val (.ref t1), .val (.int (7 : Int32)), .val (.int (9 : Int32)), .val (.int (6 : Int32)), .val (.int (9 : Int32)), .val (.int (6 : Int32)), .val (.int (((58 : Int32) &&& (255 : Int32)).toUInt32.toUInt16.toUInt32.toInt32)), .val (.int (7 : Int32)), .val (.int (3 : Int32)), .val (.int (3 : Int32))] d16_114 rfl rfl rfl ?_
        refine X.goto (pc' := 28) d16_117 (by decide) (by decide) ?_
        exact HB4 (7 : Int32) (3 : Int32) (3 : Int32) (HL.down (k := 4) (fun q => g4 (q.2 4 (by decide))))
    · refine X.icN (pc' := 114) d16_111 ((feq g5).1) rfl ?_
      refine X.iinc (pc' := 117) #[.val (.ref s1), .val (.int (16 : Int32)), .val (.ref t1), .val (.int (7 : Int32)), .val (.int (9 : Int32)), .val (.int (6 : Int32)), .val (.int (9 : Int32)), .val (.int (6 : Int32)), .val (.int (((58 : Int32) &&& (255 : Int32)).toUInt32.toUInt16.toUInt32.toInt32)), .val (.int (8 : Int32)), .val (.int (3 : Int32)), .val (.int (4 : Int32))] d16_114 rfl rfl rfl ?_
      refine X.goto (pc' := 28) d16_117 (by decide) (by decide) ?_
      exact HB4 (8 : Int32) (3 : Int32) (4 : Int32) (HL.down (k := 4) (fun q => g5 (q.2 5 (by decide))))
  have HB5 : ∀ x9 x10 x11 : Int32, Last (MarkN ds 16) 5 R → Y.Ends pg ev below (GN Z [] (RP s.heap (fun w => ∃ Q : Int32, w = .int Q ∧ Last (MarkN ds 16) 10 Q)) ({ frames := 0, cells := 0, slots := 0, locals := 0 } : Room) s) (T.setTop (mkF m 28 #[.val (.ref s1), .val (.int (16 : Int32)), .val (.ref t1), .val (.int (7 : Int32)), .val (.int (9 : Int32)), .val (.int (6 : Int32)), .val (.int (10 : Int32)), .val (.int (6 : Int32)), .val (.int (((58 : Int32) &&& (255 : Int32)).toUInt32.toUInt16.toUInt32.toInt32)), .val (.int x9), .val (.int x10), .val (.int x11)] [])) := by
    intro x9 x10 x11 HL
    refine X.iload (pc' := 30) d16_28 rfl rfl ?_
    refine X.iload (pc' := 32) d16_30 rfl rfl ?_
    refine X.icN (pc' := 35) d16_32 (by decide) rfl ?_
    refine X.aloadN (pc' := 36) d16_35 rfl rfl rfl ?_
    refine X.iload (pc' := 38) d16_36 rfl rfl ?_
    refine X.baload (pc' := 39) V_s ⟨by decide, by decide⟩ (v := ((ds.getD 10 0).toInt8.toInt32)) (at_map (i := 10) (by omega)) d16_38 rfl ?_
    refine X.sipush (pc' := 42) (255 : Int32) d16_39 rfl rfl ?_
    refine X.iand (pc' := 43) d16_42 rfl ?_
    rw [byte_in (lat_at hlat 10)]
    refine X.iload (pc' := 45) d16_43 rfl rfl ?_
    by_cases hc : ds.getD 10 0 = 58
    · refine X.icY (pc' := 54) d16_45 ((teq (by rw [e58]; exact hc)).1) (by decide) (by decide) ?_
      refine X.iload (pc' := 56) d16_54 rfl rfl ?_
      refine X.iload (pc' := 58) d16_56 rfl rfl ?_
      refine X.icY (pc' := 63) d16_58 (by decide) (by decide) (by decide) ?_
      refine X.iload (pc' := 65) d16_63 rfl rfl ?_
      refine X.iconst (pc' := 66) (1 : Int32) d16_65 rfl rfl ?_
      refine X.isub (pc' := 67) d16_66 rfl ?_
      rw [show (((10 : Int32) - (1 : Int32)) : Int32) = (9 : Int32) from by decide]
      refine X.istore (pc' := 69) #[.val (.ref s1), .val (.int (16 : Int32)), .val (.ref t1), .val (.int (7 : Int32)), .val (.int (9 : Int32)), .val (.int (6 : Int32)), .val (.int (10 : Int32)), .val (.int (6 : Int32)), .val (.int (((58 : Int32) &&& (255 : Int32)).toUInt32.toUInt16.toUInt32.toInt32)), .val (.int (9 : Int32)), .val (.int x10), .val (.int x11)] d16_67 rfl rfl ?_
      refine X.iload (pc' := 71) d16_69 rfl rfl ?_
      refine X.iload (pc' := 73) d16_71 rfl rfl ?_
      refine X.isub (pc' := 74) d16_73 rfl ?_
      rw [show (((9 : Int32) - (6 : Int32)) : Int32) = (3 : Int32) from by decide]
      refine X.istore (pc' := 76) #[.val (.ref s1), .val (.int (16 : Int32)), .val (.ref t1), .val (.int (7 : Int32)), .val (.int (9 : Int32)), .val (.int (6 : Int32)), .val (.int (10 : Int32)), .val (.int (6 : Int32)), .val (.int (((58 : Int32) &&& (255 : Int32)).toUInt32.toUInt16.toUInt32.toInt32)), .val (.int (9 : Int32)), .val (.int (3 : Int32)), .val (.int x11)] d16_74 rfl rfl ?_
      refine X.iload (pc' := 78) d16_76 rfl rfl ?_
      refine X.iconst (pc' := 79) (1 : Int32) d16_78 rfl rfl ?_
      refine X.isub (pc' := 80) d16_79 rfl ?_
      rw [show (((6 : Int32) - (1 : Int32)) : Int32) = (5 : Int32) from by decide]
      refine X.istore (pc' := 82) #[.val (.ref s1), .val (.int (16 : Int32)), .val (.ref t1), .val (.int (7 : Int32)), .val (.int (9 : Int32)), .val (.int (6 : Int32)), .val (.int (10 : Int32)), .val (.int (6 : Int32)), .val (.int (((58 : Int32) &&& (255 : Int32)).toUInt32.toUInt16.toUInt32.toInt32)), .val (.int (9 : Int32)), .val (.int (3 : Int32)), .val (.int (5 : Int32))] d16_80 rfl rfl ?_
      exact HI5 hc HL
    · refine X.icN (pc' := 48) d16_45 ((feq (by rw [e58]; exact hc)).1) rfl ?_
      refine X.iinc (pc' := 51) #[.val (.ref s1), .val (.int (16 : Int32)), .val (.ref t1), .val (.int (7 : Int32)), .val (.int (9 : Int32)), .val (.int (6 : Int32)), .val (.int (9 : Int32)), .val (.int (6 : Int32)), .val (.int (((58 : Int32) &&& (255 : Int32)).toUInt32.toUInt16.toUInt32.toInt32)), .val (.int x9), .val (.int x10), .val (.int x11)] d16_48 rfl rfl rfl ?_
      refine X.goto (pc' := 28) d16_51 (by decide) (by decide) ?_
      exact HB4 x9 x10 x11 (HL.down (k := 4) (fun q => hc (q.2 6 (by decide))))
  have HA5 : Last (MarkN ds 16) 5 R → Y.Ends pg ev below (GN Z [] (RP s.heap (fun w => ∃ Q : Int32, w = .int Q ∧ Last (MarkN ds 16) 10 Q)) ({ frames := 0, cells := 0, slots := 0, locals := 0 } : Room) s) (T.setTop (mkF m 28 #[.val (.ref s1), .val (.int (16 : Int32)), .val (.ref t1), .val (.int (7 : Int32)), .val (.int (9 : Int32)), .val (.int (6 : Int32)), .val (.int (10 : Int32)), .val (.int (6 : Int32)), .val (.int (((58 : Int32) &&& (255 : Int32)).toUInt32.toUInt16.toUInt32.toInt32)), .unset, .unset, .unset] [])) := by
    intro HL
    refine X.iload (pc' := 30) d16_28 rfl rfl ?_
    refine X.iload (pc' := 32) d16_30 rfl rfl ?_
    refine X.icN (pc' := 35) d16_32 (by decide) rfl ?_
    refine X.aloadN (pc' := 36) d16_35 rfl rfl rfl ?_
    refine X.iload (pc' := 38) d16_36 rfl rfl ?_
    refine X.baload (pc' := 39) V_s ⟨by decide, by decide⟩ (v := ((ds.getD 10 0).toInt8.toInt32)) (at_map (i := 10) (by omega)) d16_38 rfl ?_
    refine X.sipush (pc' := 42) (255 : Int32) d16_39 rfl rfl ?_
    refine X.iand (pc' := 43) d16_42 rfl ?_
    rw [byte_in (lat_at hlat 10)]
    refine X.iload (pc' := 45) d16_43 rfl rfl ?_
    by_cases hc : ds.getD 10 0 = 58
    · refine X.icY (pc' := 54) d16_45 ((teq (by rw [e58]; exact hc)).1) (by decide) (by decide) ?_
      refine X.iload (pc' := 56) d16_54 rfl rfl ?_
      refine X.iload (pc' := 58) d16_56 rfl rfl ?_
      refine X.icY (pc' := 63) d16_58 (by decide) (by decide) (by decide) ?_
      refine X.iload (pc' := 65) d16_63 rfl rfl ?_
      refine X.iconst (pc' := 66) (1 : Int32) d16_65 rfl rfl ?_
      refine X.isub (pc' := 67) d16_66 rfl ?_
      rw [show (((10 : Int32) - (1 : Int32)) : Int32) = (9 : Int32) from by decide]
      refine X.istore (pc' := 69) #[.val (.ref s1), .val (.int (16 : Int32)), .val (.ref t1), .val (.int (7 : Int32)), .val (.int (9 : Int32)), .val (.int (6 : Int32)), .val (.int (10 : Int32)), .val (.int (6 : Int32)), .val (.int (((58 : Int32) &&& (255 : Int32)).toUInt32.toUInt16.toUInt32.toInt32)), .val (.int (9 : Int32)), .unset, .unset] d16_67 rfl rfl ?_
      refine X.iload (pc' := 71) d16_69 rfl rfl ?_
      refine X.iload (pc' := 73) d16_71 rfl rfl ?_
      refine X.isub (pc' := 74) d16_73 rfl ?_
      rw [show (((9 : Int32) - (6 : Int32)) : Int32) = (3 : Int32) from by decide]
      refine X.istore (pc' := 76) #[.val (.ref s1), .val (.int (16 : Int32)), .val (.ref t1), .val (.int (7 : Int32)), .val (.int (9 : Int32)), .val (.int (6 : Int32)), .val (.int (10 : Int32)), .val (.int (6 : Int32)), .val (.int (((58 : Int32) &&& (255 : Int32)).toUInt32.toUInt16.toUInt32.toInt32)), .val (.int (9 : Int32)), .val (.int (3 : Int32)), .unset] d16_74 rfl rfl ?_
      refine X.iload (pc' := 78) d16_76 rfl rfl ?_
      refine X.iconst (pc' := 79) (1 : Int32) d16_78 rfl rfl ?_
      refine X.isub (pc' := 80) d16_79 rfl ?_
      rw [show (((6 : Int32) - (1 : Int32)) : Int32) = (5 : Int32) from by decide]
      refine X.istore (pc' := 82) #[.val (.ref s1), .val (.int (16 : Int32)), .val (.ref t1), .val (.int (7 : Int32)), .val (.int (9 : Int32)), .val (.int (6 : Int32)), .val (.int (10 : Int32)), .val (.int (6 : Int32)), .val (.int (((58 : Int32) &&& (255 : Int32)).toUInt32.toUInt16.toUInt32.toInt32)), .val (.int (9 : Int32)), .val (.int (3 : Int32)), .val (.int (5 : Int32))] d16_80 rfl rfl ?_
      exact HI5 hc HL
    · refine X.icN (pc' := 48) d16_45 ((feq (by rw [e58]; exact hc)).1) rfl ?_
      refine X.iinc (pc' := 51) #[.val (.ref s1), .val (.int (16 : Int32)), .val (.ref t1), .val (.int (7 : Int32)), .val (.int (9 : Int32)), .val (.int (6 : Int32)), .val (.int (9 : Int32)), .val (.int (6 : Int32)), .val (.int (((58 : Int32) &&& (255 : Int32)).toUInt32.toUInt16.toUInt32.toInt32)), .unset, .unset, .unset] d16_48 rfl rfl rfl ?_
      refine X.goto (pc' := 28) d16_51 (by decide) (by decide) ?_
      exact HA4  (HL.down (k := 4) (fun q => hc (q.2 6 (by decide))))
  have HI6 : ds.getD 11 0 = 58 → Last (MarkN ds 16) 6 R → Y.Ends pg ev below (GN Z [] (RP s.heap (fun w => ∃ Q : Int32, w = .int Q ∧ Last (MarkN ds 16) 10 Q)) ({ frames := 0, cells := 0, slots := 0, locals := 0 } : Room) s) (T.setTop (mkF m 82 #[.val (.ref s1), .val (.int (16 : Int32)), .val (.ref t1), .val (.int (7 : Int32)), .val (.int (9 : Int32)), .val (.int (6 : Int32)), .val (.int (11 : Int32)), .val (.int (6 : Int32)), .val (.int (((58 : Int32) &&& (255 : Int32)).toUInt32.toUInt16.toUInt32.toInt32)), .val (.int (10 : Int32)), .val (.int (4 : Int32)), .val (.int (5 : Int32))] [])) := by
    intro hc HL
    refine X.iload (pc' := 84) d16_82 rfl rfl ?_
    refine X.iload (pc' := 86) d16_84 rfl rfl ?_
    refine X.icN (pc' := 89) d16_86 (by decide) rfl ?_
    refine X.aloadN (pc' := 90) d16_89 rfl rfl rfl ?_
    refine X.iload (pc' := 92) d16_90 rfl rfl ?_
    refine X.iinc (pc' := 95) #[.val (.ref s1), .val (.int (16 : Int32)), .val (.ref t1), .val (.int (7 : Int32)), .val (.int (9 : Int32)), .val (.int (6 : Int32)), .val (.int (11 : Int32)), .val (.int (6 : Int32)), .val (.int (((58 : Int32) &&& (255 : Int32)).toUInt32.toUInt16.toUInt32.toInt32)), .val (.int (9 : Int32)), .val (.int (4 : Int32)), .val (.int (5 : Int32))] d16_92 rfl rfl rfl ?_
    refine X.baload (pc' := 96) V_s ⟨by decide, by decide⟩ (v := ((ds.getD 10 0).toInt8.toInt32)) (at_map (i := 10) (by omega)) d16_95 rfl ?_
    refine X.sipush (pc' := 99) (255 : Int32) d16_96 rfl rfl ?_
    refine X.iand (pc' := 100) d16_99 rfl ?_
    rw [byte_in (lat_at hlat 10)]
    refine X.aloadN (pc' := 101) d16_100 rfl rfl rfl ?_
    refine X.iload (pc' := 103) d16_101 rfl rfl ?_
    refine X.iinc (pc' := 106) #[.val (.ref s1), .val (.int (16 : Int32)), .val (.ref t1), .val (.int (7 : Int32)), .val (.int (9 : Int32)), .val (.int (6 : Int32)), .val (.int (11 : Int32)), .val (.int (6 : Int32)), .val (.int (((58 : Int32) &&& (255 : Int32)).toUInt32.toUInt16.toUInt32.toInt32)), .val (.int (9 : Int32)), .val (.int (4 : Int32)), .val (.int (4 : Int32))] d16_103 rfl rfl rfl ?_
    refine X.baload (pc' := 107) V_t ⟨by decide, by decide⟩ (v := (110 : Int32)) rfl d16_106 rfl ?_
    refine X.sipush (pc' := 110) (255 : Int32) d16_107 rfl rfl ?_
    refine X.iand (pc' := 111) d16_110 rfl ?_
    rw [show (((110 : Int32) &&& (255 : Int32)) : Int32) = (110 : Int32) from by decide]
    by_cases g5 : ds.getD 10 0 = 110
    · refine X.icY (pc' := 82) d16_111 ((teq g5).1) (by decide) (by decide) ?_
      refine X.iload (pc' := 84) d16_82 rfl rfl ?_
      refine X.iload (pc' := 86) d16_84 rfl rfl ?_
      refine X.icN (pc' := 89) d16_86 (by decide) rfl ?_
      refine X.aloadN (pc' := 90) d16_89 rfl rfl rfl ?_
      refine X.iload (pc' := 92) d16_90 rfl rfl ?_
      refine X.iinc (pc' := 95) #[.val (.ref s1), .val (.int (16 : Int32)), .val (.ref t1), .val (.int (7 : Int32)), .val (.int (9 : Int32)), .val (.int (6 : Int32)), .val (.int (11 : Int32)), .val (.int (6 : Int32)), .val (.int (((58 : Int32) &&& (255 : Int32)).toUInt32.toUInt16.toUInt32.toInt32)), .val (.int (8 : Int32)), .val (.int (4 : Int32)), .val (.int (4 : Int32))] d16_92 rfl rfl rfl ?_
      refine X.baload (pc' := 96) V_s ⟨by decide, by decide⟩ (v := ((ds.getD 9 0).toInt8.toInt32)) (at_map (i := 9) (by omega)) d16_95 rfl ?_
      refine X.sipush (pc' := 99) (255 : Int32) d16_96 rfl rfl ?_
      refine X.iand (pc' := 100) d16_99 rfl ?_
      rw [byte_in (lat_at hlat 9)]
      refine X.aloadN (pc' := 101) d16_100 rfl rfl rfl ?_
      refine X.iload (pc' := 103) d16_101 rfl rfl ?_
      refine X.iinc (pc' := 106) #[.val (.ref s1), .val (.int (16 : Int32)), .val (.ref t1), .val (.int (7 : Int32)), .val (.int (9 : Int32)), .val (.int (6 : Int32)), .val (.int (11 : Int32)), .val (.int (6 : Int32)), .val (.int (((58 : Int32) &&& (255 : Int32)).toUInt32.toUInt16.toUInt32.toInt32)), .val (.int (8 : Int32)), .val (.int (4 : Int32)), .val (.int (3 : Int32))] d16_103 rfl rfl rfl ?_
      refine X.baload (pc' := 107) V_t ⟨by decide, by decide⟩ (v := (101 : Int32)) rfl d16_106 rfl ?_
      refine X.sipush (pc' := 110) (255 : Int32) d16_107 rfl rfl ?_
      refine X.iand (pc' := 111) d16_110 rfl ?_
      rw [show (((101 : Int32) &&& (255 : Int32)) : Int32) = (101 : Int32) from by decide]
      by_cases g4 : ds.getD 9 0 = 101
      · refine X.icY (pc' := 82) d16_111 ((teq g4).1) (by decide) (by decide) ?_
        refine X.iload (pc' := 84) d16_82 rfl rfl ?_
        refine X.iload (pc' := 86) d16_84 rfl rfl ?_
        refine X.icN (pc' := 89) d16_86 (by decide) rfl ?_
        refine X.aloadN (pc' := 90) d16_89 rfl rfl rfl ?_
        refine X.iload (pc' := 92) d16_90 rfl rfl ?_
        refine X.iinc (pc' := 95) #[.val (.ref s1), .val (.int (16 : Int32)), .val (.ref t1), .val (.int (7 : Int32)), .val (.int (9 : Int32)), .val (.int (6 : Int32)), .val (.int (11 : Int32)), .val (.int (6 : Int32)), .val (.int (((58 : Int32) &&& (255 : Int32)).toUInt32.toUInt16.toUInt32.toInt32)), .val (.int (7 : Int32)), .val (.int (4 : Int32)), .val (.int (3 : Int32))] d16_92 rfl rfl rfl ?_
        refine X.baload (pc' := 96) V_s ⟨by decide, by decide⟩ (v := ((ds.getD 8 0).toInt8.toInt32)) (at_map (i := 8) (by omega)) d16_95 rfl ?_
        refine X.sipush (pc' := 99) (255 : Int32) d16_96 rfl rfl ?_
        refine X.iand (pc' := 100) d16_99 rfl ?_
        rw [byte_in (lat_at hlat 8)]
        refine X.aloadN (pc' := 101) d16_100 rfl rfl rfl ?_
        refine X.iload (pc' := 103) d16_101 rfl rfl ?_
        refine X.iinc (pc' := 106) #[.val (.ref s1), .val (.int (16 : Int32)), .val (.ref t1), .val (.int (7 : Int32)), .val (.int (9 : Int32)), .val (.int (6 : Int32)), .val (.int (11 : Int32)), .val (.int (6 : Int32)), .val (.int (((58 : Int32) &&& (255 : Int32)).toUInt32.toUInt16.toUInt32.toInt32)), .val (.int (7 : Int32)), .val (.int (4 : Int32)), .val (.int (2 : Int32))] d16_103 rfl rfl rfl ?_
        refine X.baload (pc' := 107) V_t ⟨by decide, by decide⟩ (v := (107 : Int32)) rfl d16_106 rfl ?_
        refine X.sipush (pc' := 110) (255 : Int32) d16_107 rfl rfl ?_
        refine X.iand (pc' := 111) d16_110 rfl ?_
        rw [show (((107 : Int32) &&& (255 : Int32)) : Int32) = (107 : Int32) from by decide]
        by_cases g3 : ds.getD 8 0 = 107
        · refine X.icY (pc' := 82) d16_111 ((teq g3).1) (by decide) (by decide) ?_
          refine X.iload (pc' := 84) d16_82 rfl rfl ?_
          refine X.iload (pc' := 86) d16_84 rfl rfl ?_
          refine X.icN (pc' := 89) d16_86 (by decide) rfl ?_
          refine X.aloadN (pc' := 90) d16_89 rfl rfl rfl ?_
          refine X.iload (pc' := 92) d16_90 rfl rfl ?_
          refine X.iinc (pc' := 95) #[.val (.ref s1), .val (.int (16 : Int32)), .val (.ref t1), .val (.int (7 : Int32)), .val (.int (9 : Int32)), .val (.int (6 : Int32)), .val (.int (11 : Int32)), .val (.int (6 : Int32)), .val (.int (((58 : Int32) &&& (255 : Int32)).toUInt32.toUInt16.toUInt32.toInt32)), .val (.int (6 : Int32)), .val (.int (4 : Int32)), .val (.int (2 : Int32))] d16_92 rfl rfl rfl ?_
          refine X.baload (pc' := 96) V_s ⟨by decide, by decide⟩ (v := ((ds.getD 7 0).toInt8.toInt32)) (at_map (i := 7) (by omega)) d16_95 rfl ?_
          refine X.sipush (pc' := 99) (255 : Int32) d16_96 rfl rfl ?_
          refine X.iand (pc' := 100) d16_99 rfl ?_
          rw [byte_in (lat_at hlat 7)]
          refine X.aloadN (pc' := 101) d16_100 rfl rfl rfl ?_
          refine X.iload (pc' := 103) d16_101 rfl rfl ?_
          refine X.iinc (pc' := 106) #[.val (.ref s1), .val (.int (16 : Int32)), .val (.ref t1), .val (.int (7 : Int32)), .val (.int (9 : Int32)), .val (.int (6 : Int32)), .val (.int (11 : Int32)), .val (.int (6 : Int32)), .val (.int (((58 : Int32) &&& (255 : Int32)).toUInt32.toUInt16.toUInt32.toInt32)), .val (.int (6 : Int32)), .val (.int (4 : Int32)), .val (.int (1 : Int32))] d16_103 rfl rfl rfl ?_
          refine X.baload (pc' := 107) V_t ⟨by decide, by decide⟩ (v := (111 : Int32)) rfl d16_106 rfl ?_
          refine X.sipush (pc' := 110) (255 : Int32) d16_107 rfl rfl ?_
          refine X.iand (pc' := 111) d16_110 rfl ?_
          rw [show (((111 : Int32) &&& (255 : Int32)) : Int32) = (111 : Int32) from by decide]
          by_cases g2 : ds.getD 7 0 = 111
          · refine X.icY (pc' := 82) d16_111 ((teq g2).1) (by decide) (by decide) ?_
            refine X.iload (pc' := 84) d16_82 rfl rfl ?_
            refine X.iload (pc' := 86) d16_84 rfl rfl ?_
            refine X.icN (pc' := 89) d16_86 (by decide) rfl ?_
            refine X.aloadN (pc' := 90) d16_89 rfl rfl rfl ?_
            refine X.iload (pc' := 92) d16_90 rfl rfl ?_
            refine X.iinc (pc' := 95) #[.val (.ref s1), .val (.int (16 : Int32)), .val (.ref t1), .val (.int (7 : Int32)), .val (.int (9 : Int32)), .val (.int (6 : Int32)), .val (.int (11 : Int32)), .val (.int (6 : Int32)), .val (.int (((58 : Int32) &&& (255 : Int32)).toUInt32.toUInt16.toUInt32.toInt32)), .val (.int (5 : Int32)), .val (.int (4 : Int32)), .val (.int (1 : Int32))] d16_92 rfl rfl rfl ?_
            refine X.baload (pc' := 96) V_s ⟨by decide, by decide⟩ (v := ((ds.getD 6 0).toInt8.toInt32)) (at_map (i := 6) (by omega)) d16_95 rfl ?_
            refine X.sipush (pc' := 99) (255 : Int32) d16_96 rfl rfl ?_
            refine X.iand (pc' := 100) d16_99 rfl ?_
            rw [byte_in (lat_at hlat 6)]
            refine X.aloadN (pc' := 101) d16_100 rfl rfl rfl ?_
            refine X.iload (pc' := 103) d16_101 rfl rfl ?_
            refine X.iinc (pc' := 106) #[.val (.ref s1), .val (.int (16 : Int32)), .val (.ref t1), .val (.int (7 : Int32)), .val (.int (9 : Int32)), .val (.int (6 : Int32)), .val (.int (11 : Int32)), .val (.int (6 : Int32)), .val (.int (((58 : Int32) &&& (255 : Int32)).toUInt32.toUInt16.toUInt32.toInt32)), .val (.int (5 : Int32)), .val (.int (4 : Int32)), .val (.int (0 : Int32))] d16_103 rfl rfl rfl ?_
            refine X.baload (pc' := 107) V_t ⟨by decide, by decide⟩ (v := (119 : Int32)) rfl d16_106 rfl ?_
            refine X.sipush (pc' := 110) (255 : Int32) d16_107 rfl rfl ?_
            refine X.iand (pc' := 111) d16_110 rfl ?_
            rw [show (((119 : Int32) &&& (255 : Int32)) : Int32) = (119 : Int32) from by decide]
            by_cases g1 : ds.getD 6 0 = 119
            · refine X.icY (pc' := 82) d16_111 ((teq g1).1) (by decide) (by decide) ?_
              refine X.iload (pc' := 84) d16_82 rfl rfl ?_
              refine X.iload (pc' := 86) d16_84 rfl rfl ?_
              refine X.icN (pc' := 89) d16_86 (by decide) rfl ?_
              refine X.aloadN (pc' := 90) d16_89 rfl rfl rfl ?_
              refine X.iload (pc' := 92) d16_90 rfl rfl ?_
              refine X.iinc (pc' := 95) #[.val (.ref s1), .val (.int (16 : Int32)), .val (.ref t1), .val (.int (7 : Int32)), .val (.int (9 : Int32)), .val (.int (6 : Int32)), .val (.int (11 : Int32)), .val (.int (6 : Int32)), .val (.int (((58 : Int32) &&& (255 : Int32)).toUInt32.toUInt16.toUInt32.toInt32)), .val (.int (4 : Int32)), .val (.int (4 : Int32)), .val (.int (0 : Int32))] d16_92 rfl rfl rfl ?_
              refine X.baload (pc' := 96) V_s ⟨by decide, by decide⟩ (v := ((ds.getD 5 0).toInt8.toInt32)) (at_map (i := 5) (by omega)) d16_95 rfl ?_
              refine X.sipush (pc' := 99) (255 : Int32) d16_96 rfl rfl ?_
              refine X.iand (pc' := 100) d16_99 rfl ?_
              rw [byte_in (lat_at hlat 5)]
              refine X.aloadN (pc' := 101) d16_100 rfl rfl rfl ?_
              refine X.iload (pc' := 103) d16_101 rfl rfl ?_
              refine X.iinc (pc' := 106) #[.val (.ref s1), .val (.int (16 : Int32)), .val (.ref t1), .val (.int (7 : Int32)), .val (.int (9 : Int32)), .val (.int (6 : Int32)), .val (.int (11 : Int32)), .val (.int (6 : Int32)), .val (.int (((58 : Int32) &&& (255 : Int32)).toUInt32.toUInt16.toUInt32.toInt32)), .val (.int (4 : Int32)), .val (.int (4 : Int32)), .val (.int (-1 : Int32))] d16_103 rfl rfl rfl ?_
              refine X.baload (pc' := 107) V_t ⟨by decide, by decide⟩ (v := (32 : Int32)) rfl d16_106 rfl ?_
              refine X.sipush (pc' := 110) (255 : Int32) d16_107 rfl rfl ?_
              refine X.iand (pc' := 111) d16_110 rfl ?_
              rw [show (((32 : Int32) &&& (255 : Int32)) : Int32) = (32 : Int32) from by decide]
              by_cases g0 : ds.getD 5 0 = 32
              · refine X.icY (pc' := 82) d16_111 ((teq g0).1) (by decide) (by decide) ?_
                refine X.iload (pc' := 84) d16_82 rfl rfl ?_
                refine X.iload (pc' := 86) d16_84 rfl rfl ?_
                refine X.icY (pc' := 120) d16_86 (by decide) (by decide) (by decide) ?_
                refine X.iload (pc' := 122) d16_120 rfl rfl ?_
                refine X.iconst (pc' := 123) (1 : Int32) d16_122 rfl rfl ?_
                refine X.iadd (pc' := 124) d16_123 rfl ?_
                rw [show (((4 : Int32) + (1 : Int32)) : Int32) = (Int32.ofNat 5) from by decide]
                obtain rfl := HL.top (k := 5) (mk_of (by decide) g0 g1 g2 g3 g4 g5 hc)
                exact X.retIN (by simp) rfl d16_124 (by decide) (by decide) ⟨_, rfl, rfl, _, rfl, HL0⟩
              · refine X.icN (pc' := 114) d16_111 ((feq g0).1) rfl ?_
                refine X.iinc (pc' := 117) #[.val (.ref s1), .val (.int (16 : Int32)), .val (.ref t1), .val (.int (7 : Int32)), .val (.int (9 : Int32)), .val (.int (6 : Int32)), .val (.int (10 : Int32)), .val (.int (6 : Int32)), .val (.int (((58 : Int32) &&& (255 : Int32)).toUInt32.toUInt16.toUInt32.toInt32)), .val (.int (4 : Int32)), .val (.int (4 : Int32)), .val (.int (-1 : Int32))] d16_114 rfl rfl rfl ?_
                refine X.goto (pc' := 28) d16_117 (by decide) (by decide) ?_
                exact HB5 (4 : Int32) (4 : Int32) (-1 : Int32) (HL.down (k := 5) (fun q => g0 (q.2 0 (by decide))))
            · refine X.icN (pc' := 114) d16_111 ((feq g1).1) rfl ?_
              refine X.iinc (pc' := 117) #[.val (.ref s1), .val (.int (16 : Int32)), .val (.ref t1), .val (.int (7 : Int32)), .val (.int (9 : Int32)), .val (.int (6 : Int32)), .val (.int (10 : Int32)), .val (.int (6 : Int32)), .val (.int (((58 : Int32) &&& (255 : Int32)).toUInt32.toUInt16.toUInt32.toInt32)), .val (.int (5 : Int32)), .val (.int (4 : Int32)), .val (.int (0 : Int32))] d16_114 rfl rfl rfl ?_
              refine X.goto (pc' := 28) d16_117 (by decide) (by decide) ?_
              exact HB5 (5 : Int32) (4 : Int32) (0 : Int32) (HL.down (k := 5) (fun q => g1 (q.2 1 (by decide))))
          · refine X.icN (pc' := 114) d16_111 ((feq g2).1) rfl ?_
            refine X.iinc (pc' := 117) #[.val (.ref s1), .val (.int (16 : Int32)), .val (.ref t1), .val (.int (7 : Int32)), .val (.int (9 : Int32)), .val (.int (6 : Int32)), .val (.int (10 : Int32)), .val (.int (6 : Int32)), .val (.int (((58 : Int32) &&& (255 : Int32)).toUInt32.toUInt16.toUInt32.toInt32)), .val (.int (6 : Int32)), .val (.int (4 : Int32)), .val (.int (1 : Int32))] d16_114 rfl rfl rfl ?_
            refine X.goto (pc' := 28) d16_117 (by decide) (by decide) ?_
            exact HB5 (6 : Int32) (4 : Int32) (1 : Int32) (HL.down (k := 5) (fun q => g2 (q.2 2 (by decide))))
        · refine X.icN (pc' := 114) d16_111 ((feq g3).1) rfl ?_
          refine X.iinc (pc' := 117) #[.val (.ref s1), .val (.int (16 : Int32)), .val (.ref t1), .val (.int (7 : Int32)), .val (.int (9 : Int32)), .val (.int (6 : Int32)), .val (.int (10 : Int32)), .val (.int (6 : Int32)), .val (.int (((58 : Int32) &&& (255 : Int32)).toUInt32.toUInt16.toUInt32.toInt32)), .val (.int (7 : Int32)), .val (.int (4 : Int32)), .val (.int (2 : Int32))] d16_114 rfl rfl rfl ?_
          refine X.goto (pc' := 28) d16_117 (by decide) (by decide) ?_
          exact HB5 (7 : Int32) (4 : Int32) (2 : Int32) (HL.down (k := 5) (fun q => g3 (q.2 3 (by decide))))
      · refine X.icN (pc' := 114) d16_111 ((feq g4).1) rfl ?_
        refine X.iinc (pc' := 117) #[.val (.ref s1), .val (.int (16 : Int32)), .val (.ref t1), .val (.int (7 : Int32)), .val (.int (9 : Int32)), .val (.int (6 : Int32)), .val (.int (10 : Int32)), .val (.int (6 : Int32)), .val (.int (((58 : Int32) &&& (255 : Int32)).toUInt32.toUInt16.toUInt32.toInt32)), .val (.int (8 : Int32)), .val (.int (4 : Int32)), .val (.int (3 : Int32))] d16_114 rfl rfl rfl ?_
        refine X.goto (pc' := 28) d16_117 (by decide) (by decide) ?_
        exact HB5 (8 : Int32) (4 : Int32) (3 : Int32) (HL.down (k := 5) (fun q => g4 (q.2 4 (by decide))))
    · refine X.icN (pc' := 114) d16_111 ((feq g5).1) rfl ?_
      refine X.iinc (pc' := 117) #[.val (.ref s1), .val (.int (16 : Int32)), .val (.ref t1), .val (.int (7 : Int32)), .val (.int (9 : Int32)), .val (.int (6 : Int32)), .val (.int (10 : Int32)), .val (.int (6 : Int32)), .val (.int (((58 : Int32) &&& (255 : Int32)).toUInt32.toUInt16.toUInt32.toInt32)), .val (.int (9 : Int32)), .val (.int (4 : Int32)), .val (.int (4 : Int32))] d16_114 rfl rfl rfl ?_
      refine X.goto (pc' := 28) d16_117 (by decide) (by decide) ?_
      exact HB5 (9 : Int32) (4 : Int32) (4 : Int32) (HL.down (k := 5) (fun q => g5 (q.2 5 (by decide))))
  have HB6 : ∀ x9 x10 x11 : Int32, Last (MarkN ds 16) 6 R → Y.Ends pg ev below (GN Z [] (RP s.heap (fun w => ∃ Q : Int32, w = .int Q ∧ Last (MarkN ds 16) 10 Q)) ({ frames := 0, cells := 0, slots := 0, locals := 0 } : Room) s) (T.setTop (mkF m 28 #[.val (.ref s1), .val (.int (16 : Int32)), .val (.ref t1), .val (.int (7 : Int32)), .val (.int (9 : Int32)), .val (.int (6 : Int32)), .val (.int (11 : Int32)), .val (.int (6 : Int32)), .val (.int (((58 : Int32) &&& (255 : Int32)).toUInt32.toUInt16.toUInt32.toInt32)), .val (.int x9), .val (.int x10), .val (.int x11)] [])) := by
    intro x9 x10 x11 HL
    refine X.iload (pc' := 30) d16_28 rfl rfl ?_
    refine X.iload (pc' := 32) d16_30 rfl rfl ?_
    refine X.icN (pc' := 35) d16_32 (by decide) rfl ?_
    refine X.aloadN (pc' := 36) d16_35 rfl rfl rfl ?_
    refine X.iload (pc' := 38) d16_36 rfl rfl ?_
    refine X.baload (pc' := 39) V_s ⟨by decide, by decide⟩ (v := ((ds.getD 11 0).toInt8.toInt32)) (at_map (i := 11) (by omega)) d16_38 rfl ?_
    refine X.sipush (pc' := 42) (255 : Int32) d16_39 rfl rfl ?_
    refine X.iand (pc' := 43) d16_42 rfl ?_
    rw [byte_in (lat_at hlat 11)]
    refine X.iload (pc' := 45) d16_43 rfl rfl ?_
    by_cases hc : ds.getD 11 0 = 58
    · refine X.icY (pc' := 54) d16_45 ((teq (by rw [e58]; exact hc)).1) (by decide) (by decide) ?_
      refine X.iload (pc' := 56) d16_54 rfl rfl ?_
      refine X.iload (pc' := 58) d16_56 rfl rfl ?_
      refine X.icY (pc' := 63) d16_58 (by decide) (by decide) (by decide) ?_
      refine X.iload (pc' := 65) d16_63 rfl rfl ?_
      refine X.iconst (pc' := 66) (1 : Int32) d16_65 rfl rfl ?_
      refine X.isub (pc' := 67) d16_66 rfl ?_
      rw [show (((11 : Int32) - (1 : Int32)) : Int32) = (10 : Int32) from by decide]
      refine X.istore (pc' := 69) #[.val (.ref s1), .val (.int (16 : Int32)), .val (.ref t1), .val (.int (7 : Int32)), .val (.int (9 : Int32)), .val (.int (6 : Int32)), .val (.int (11 : Int32)), .val (.int (6 : Int32)), .val (.int (((58 : Int32) &&& (255 : Int32)).toUInt32.toUInt16.toUInt32.toInt32)), .val (.int (10 : Int32)), .val (.int x10), .val (.int x11)] d16_67 rfl rfl ?_
      refine X.iload (pc' := 71) d16_69 rfl rfl ?_
      refine X.iload (pc' := 73) d16_71 rfl rfl ?_
      refine X.isub (pc' := 74) d16_73 rfl ?_
      rw [show (((10 : Int32) - (6 : Int32)) : Int32) = (4 : Int32) from by decide]
      refine X.istore (pc' := 76) #[.val (.ref s1), .val (.int (16 : Int32)), .val (.ref t1), .val (.int (7 : Int32)), .val (.int (9 : Int32)), .val (.int (6 : Int32)), .val (.int (11 : Int32)), .val (.int (6 : Int32)), .val (.int (((58 : Int32) &&& (255 : Int32)).toUInt32.toUInt16.toUInt32.toInt32)), .val (.int (10 : Int32)), .val (.int (4 : Int32)), .val (.int x11)] d16_74 rfl rfl ?_
      refine X.iload (pc' := 78) d16_76 rfl rfl ?_
      refine X.iconst (pc' := 79) (1 : Int32) d16_78 rfl rfl ?_
      refine X.isub (pc' := 80) d16_79 rfl ?_
      rw [show (((6 : Int32) - (1 : Int32)) : Int32) = (5 : Int32) from by decide]
      refine X.istore (pc' := 82) #[.val (.ref s1), .val (.int (16 : Int32)), .val (.ref t1), .val (.int (7 : Int32)), .val (.int (9 : Int32)), .val (.int (6 : Int32)), .val (.int (11 : Int32)), .val (.int (6 : Int32)), .val (.int (((58 : Int32) &&& (255 : Int32)).toUInt32.toUInt16.toUInt32.toInt32)), .val (.int (10 : Int32)), .val (.int (4 : Int32)), .val (.int (5 : Int32))] d16_80 rfl rfl ?_
      exact HI6 hc HL
    · refine X.icN (pc' := 48) d16_45 ((feq (by rw [e58]; exact hc)).1) rfl ?_
      refine X.iinc (pc' := 51) #[.val (.ref s1), .val (.int (16 : Int32)), .val (.ref t1), .val (.int (7 : Int32)), .val (.int (9 : Int32)), .val (.int (6 : Int32)), .val (.int (10 : Int32)), .val (.int (6 : Int32)), .val (.int (((58 : Int32) &&& (255 : Int32)).toUInt32.toUInt16.toUInt32.toInt32)), .val (.int x9), .val (.int x10), .val (.int x11)] d16_48 rfl rfl rfl ?_
      refine X.goto (pc' := 28) d16_51 (by decide) (by decide) ?_
      exact HB5 x9 x10 x11 (HL.down (k := 5) (fun q => hc (q.2 6 (by decide))))
  have HA6 : Last (MarkN ds 16) 6 R → Y.Ends pg ev below (GN Z [] (RP s.heap (fun w => ∃ Q : Int32, w = .int Q ∧ Last (MarkN ds 16) 10 Q)) ({ frames := 0, cells := 0, slots := 0, locals := 0 } : Room) s) (T.setTop (mkF m 28 #[.val (.ref s1), .val (.int (16 : Int32)), .val (.ref t1), .val (.int (7 : Int32)), .val (.int (9 : Int32)), .val (.int (6 : Int32)), .val (.int (11 : Int32)), .val (.int (6 : Int32)), .val (.int (((58 : Int32) &&& (255 : Int32)).toUInt32.toUInt16.toUInt32.toInt32)), .unset, .unset, .unset] [])) := by
    intro HL
    refine X.iload (pc' := 30) d16_28 rfl rfl ?_
    refine X.iload (pc' := 32) d16_30 rfl rfl ?_
    refine X.icN (pc' := 35) d16_32 (by decide) rfl ?_
    refine X.aloadN (pc' := 36) d16_35 rfl rfl rfl ?_
    refine X.iload (pc' := 38) d16_36 rfl rfl ?_
    refine X.baload (pc' := 39) V_s ⟨by decide, by decide⟩ (v := ((ds.getD 11 0).toInt8.toInt32)) (at_map (i := 11) (by omega)) d16_38 rfl ?_
    refine X.sipush (pc' := 42) (255 : Int32) d16_39 rfl rfl ?_
    refine X.iand (pc' := 43) d16_42 rfl ?_
    rw [byte_in (lat_at hlat 11)]
    refine X.iload (pc' := 45) d16_43 rfl rfl ?_
    by_cases hc : ds.getD 11 0 = 58
    · refine X.icY (pc' := 54) d16_45 ((teq (by rw [e58]; exact hc)).1) (by decide) (by decide) ?_
      refine X.iload (pc' := 56) d16_54 rfl rfl ?_
      refine X.iload (pc' := 58) d16_56 rfl rfl ?_
      refine X.icY (pc' := 63) d16_58 (by decide) (by decide) (by decide) ?_
      refine X.iload (pc' := 65) d16_63 rfl rfl ?_
      refine X.iconst (pc' := 66) (1 : Int32) d16_65 rfl rfl ?_
      refine X.isub (pc' := 67) d16_66 rfl ?_
      rw [show (((11 : Int32) - (1 : Int32)) : Int32) = (10 : Int32) from by decide]
      refine X.istore (pc' := 69) #[.val (.ref s1), .val (.int (16 : Int32)), .val (.ref t1), .val (.int (7 : Int32)), .val (.int (9 : Int32)), .val (.int (6 : Int32)), .val (.int (11 : Int32)), .val (.int (6 : Int32)), .val (.int (((58 : Int32) &&& (255 : Int32)).toUInt32.toUInt16.toUInt32.toInt32)), .val (.int (10 : Int32)), .unset, .unset] d16_67 rfl rfl ?_
      refine X.iload (pc' := 71) d16_69 rfl rfl ?_
      refine X.iload (pc' := 73) d16_71 rfl rfl ?_
      refine X.isub (pc' := 74) d16_73 rfl ?_
      rw [show (((10 : Int32) - (6 : Int32)) : Int32) = (4 : Int32) from by decide]
      refine X.istore (pc' := 76) #[.val (.ref s1), .val (.int (16 : Int32)), .val (.ref t1), .val (.int (7 : Int32)), .val (.int (9 : Int32)), .val (.int (6 : Int32)), .val (.int (11 : Int32)), .val (.int (6 : Int32)), .val (.int (((58 : Int32) &&& (255 : Int32)).toUInt32.toUInt16.toUInt32.toInt32)), .val (.int (10 : Int32)), .val (.int (4 : Int32)), .unset] d16_74 rfl rfl ?_
      refine X.iload (pc' := 78) d16_76 rfl rfl ?_
      refine X.iconst (pc' := 79) (1 : Int32) d16_78 rfl rfl ?_
      refine X.isub (pc' := 80) d16_79 rfl ?_
      rw [show (((6 : Int32) - (1 : Int32)) : Int32) = (5 : Int32) from by decide]
      refine X.istore (pc' := 82) #[.val (.ref s1), .val (.int (16 : Int32)), .val (.ref t1), .val (.int (7 : Int32)), .val (.int (9 : Int32)), .val (.int (6 : Int32)), .val (.int (11 : Int32)), .val (.int (6 : Int32)), .val (.int (((58 : Int32) &&& (255 : Int32)).toUInt32.toUInt16.toUInt32.toInt32)), .val (.int (10 : Int32)), .val (.int (4 : Int32)), .val (.int (5 : Int32))] d16_80 rfl rfl ?_
      exact HI6 hc HL
    · refine X.icN (pc' := 48) d16_45 ((feq (by rw [e58]; exact hc)).1) rfl ?_
      refine X.iinc (pc' := 51) #[.val (.ref s1), .val (.int (16 : Int32)), .val (.ref t1), .val (.int (7 : Int32)), .val (.int (9 : Int32)), .val (.int (6 : Int32)), .val (.int (10 : Int32)), .val (.int (6 : Int32)), .val (.int (((58 : Int32) &&& (255 : Int32)).toUInt32.toUInt16.toUInt32.toInt32)), .unset, .unset, .unset] d16_48 rfl rfl rfl ?_
      refine X.goto (pc' := 28) d16_51 (by decide) (by decide) ?_
      exact HA5  (HL.down (k := 5) (fun q => hc (q.2 6 (by decide))))
  have HI7 : ds.getD 12 0 = 58 → Last (MarkN ds 16) 7 R → Y.Ends pg ev below (GN Z [] (RP s.heap (fun w => ∃ Q : Int32, w = .int Q ∧ Last (MarkN ds 16) 10 Q)) ({ frames := 0, cells := 0, slots := 0, locals := 0 } : Room) s) (T.setTop (mkF m 82 #[.val (.ref s1), .val (.int (16 : Int32)), .val (.ref t1), .val (.int (7 : Int32)), .val (.int (9 : Int32)), .val (.int (6 : Int32)), .val (.int (12 : Int32)), .val (.int (6 : Int32)), .val (.int (((58 : Int32) &&& (255 : Int32)).toUInt32.toUInt16.toUInt32.toInt32)), .val (.int (11 : Int32)), .val (.int (5 : Int32)), .val (.int (5 : Int32))] [])) := by
    intro hc HL
    refine X.iload (pc' := 84) d16_82 rfl rfl ?_
    refine X.iload (pc' := 86) d16_84 rfl rfl ?_
    refine X.icN (pc' := 89) d16_86 (by decide) rfl ?_
    refine X.aloadN (pc' := 90) d16_89 rfl rfl rfl ?_
    refine X.iload (pc' := 92) d16_90 rfl rfl ?_
    refine X.iinc (pc' := 95) #[.val (.ref s1), .val (.int (16 : Int32)), .val (.ref t1), .val (.int (7 : Int32)), .val (.int (9 : Int32)), .val (.int (6 : Int32)), .val (.int (12 : Int32)), .val (.int (6 : Int32)), .val (.int (((58 : Int32) &&& (255 : Int32)).toUInt32.toUInt16.toUInt32.toInt32)), .val (.int (10 : Int32)), .val (.int (5 : Int32)), .val (.int (5 : Int32))] d16_92 rfl rfl rfl ?_
    refine X.baload (pc' := 96) V_s ⟨by decide, by decide⟩ (v := ((ds.getD 11 0).toInt8.toInt32)) (at_map (i := 11) (by omega)) d16_95 rfl ?_
    refine X.sipush (pc' := 99) (255 : Int32) d16_96 rfl rfl ?_
    refine X.iand (pc' := 100) d16_99 rfl ?_
    rw [byte_in (lat_at hlat 11)]
    refine X.aloadN (pc' := 101) d16_100 rfl rfl rfl ?_
    refine X.iload (pc' := 103) d16_101 rfl rfl ?_
    refine X.iinc (pc' := 106) #[.val (.ref s1), .val (.int (16 : Int32)), .val (.ref t1), .val (.int (7 : Int32)), .val (.int (9 : Int32)), .val (.int (6 : Int32)), .val (.int (12 : Int32)), .val (.int (6 : Int32)), .val (.int (((58 : Int32) &&& (255 : Int32)).toUInt32.toUInt16.toUInt32.toInt32)), .val (.int (10 : Int32)), .val (.int (5 : Int32)), .val (.int (4 : Int32))] d16_103 rfl rfl rfl ?_
    refine X.baload (pc' := 107) V_t ⟨by decide, by decide⟩ (v := (110 : Int32)) rfl d16_106 rfl ?_
    refine X.sipush (pc' := 110) (255 : Int32) d16_107 rfl rfl ?_
    refine X.iand (pc' := 111) d16_110 rfl ?_
    rw [show (((110 : Int32) &&& (255 : Int32)) : Int32) = (110 : Int32) from by decide]
    by_cases g5 : ds.getD 11 0 = 110
    · refine X.icY (pc' := 82) d16_111 ((teq g5).1) (by decide) (by decide) ?_
      refine X.iload (pc' := 84) d16_82 rfl rfl ?_
      refine X.iload (pc' := 86) d16_84 rfl rfl ?_
      refine X.icN (pc' := 89) d16_86 (by decide) rfl ?_
      refine X.aloadN (pc' := 90) d16_89 rfl rfl rfl ?_
      refine X.iload (pc' := 92) d16_90 rfl rfl ?_
      refine X.iinc (pc' := 95) #[.val (.ref s1), .val (.int (16 : Int32)), .val (.ref t1), .val (.int (7 : Int32)), .val (.int (9 : Int32)), .val (.int (6 : Int32)), .val (.int (12 : Int32)), .val (.int (6 : Int32)), .val (.int (((58 : Int32) &&& (255 : Int32)).toUInt32.toUInt16.toUInt32.toInt32)), .val (.int (9 : Int32)), .val (.int (5 : Int32)), .val (.int (4 : Int32))] d16_92 rfl rfl rfl ?_
      refine X.baload (pc' := 96) V_s ⟨by decide, by decide⟩ (v := ((ds.getD 10 0).toInt8.toInt32)) (at_map (i := 10) (by omega)) d16_95 rfl ?_
      refine X.sipush (pc' := 99) (255 : Int32) d16_96 rfl rfl ?_
      refine X.iand (pc' := 100) d16_99 rfl ?_
      rw [byte_in (lat_at hlat 10)]
      refine X.aloadN (pc' := 101) d16_100 rfl rfl rfl ?_
      refine X.iload (pc' := 103) d16_101 rfl rfl ?_
      refine X.iinc (pc' := 106) #[.val (.ref s1), .val (.int (16 : Int32)), .val (.ref t1), .val (.int (7 : Int32)), .val (.int (9 : Int32)), .val (.int (6 : Int32)), .val (.int (12 : Int32)), .val (.int (6 : Int32)), .val (.int (((58 : Int32) &&& (255 : Int32)).toUInt32.toUInt16.toUInt32.toInt32)), .val (.int (9 : Int32)), .val (.int (5 : Int32)), .val (.int (3 : Int32))] d16_103 rfl rfl rfl ?_
      refine X.baload (pc' := 107) V_t ⟨by decide, by decide⟩ (v := (101 : Int32)) rfl d16_106 rfl ?_
      refine X.sipush (pc' := 110) (255 : Int32) d16_107 rfl rfl ?_
      refine X.iand (pc' := 111) d16_110 rfl ?_
      rw [show (((101 : Int32) &&& (255 : Int32)) : Int32) = (101 : Int32) from by decide]
      by_cases g4 : ds.getD 10 0 = 101
      · refine X.icY (pc' := 82) d16_111 ((teq g4).1) (by decide) (by decide) ?_
        refine X.iload (pc' := 84) d16_82 rfl rfl ?_
        refine X.iload (pc' := 86) d16_84 rfl rfl ?_
        refine X.icN (pc' := 89) d16_86 (by decide) rfl ?_
        refine X.aloadN (pc' := 90) d16_89 rfl rfl rfl ?_
        refine X.iload (pc' := 92) d16_90 rfl rfl ?_
        refine X.iinc (pc' := 95) #[.val (.ref s1), .val (.int (16 : Int32)), .val (.ref t1), .val (.int (7 : Int32)), .val (.int (9 : Int32)), .val (.int (6 : Int32)), .val (.int (12 : Int32)), .val (.int (6 : Int32)), .val (.int (((58 : Int32) &&& (255 : Int32)).toUInt32.toUInt16.toUInt32.toInt32)), .val (.int (8 : Int32)), .val (.int (5 : Int32)), .val (.int (3 : Int32))] d16_92 rfl rfl rfl ?_
        refine X.baload (pc' := 96) V_s ⟨by decide, by decide⟩ (v := ((ds.getD 9 0).toInt8.toInt32)) (at_map (i := 9) (by omega)) d16_95 rfl ?_
        refine X.sipush (pc' := 99) (255 : Int32) d16_96 rfl rfl ?_
        refine X.iand (pc' := 100) d16_99 rfl ?_
        rw [byte_in (lat_at hlat 9)]
        refine X.aloadN (pc' := 101) d16_100 rfl rfl rfl ?_
        refine X.iload (pc' := 103) d16_101 rfl rfl ?_
        refine X.iinc (pc' := 106) #[.val (.ref s1), .val (.int (16 : Int32)), .val (.ref t1), .val (.int (7 : Int32)), .val (.int (9 : Int32)), .val (.int (6 : Int32)), .val (.int (12 : Int32)), .val (.int (6 : Int32)), .val (.int (((58 : Int32) &&& (255 : Int32)).toUInt32.toUInt16.toUInt32.toInt32)), .val (.int (8 : Int32)), .val (.int (5 : Int32)), .val (.int (2 : Int32))] d16_103 rfl rfl rfl ?_
        refine X.baload (pc' := 107) V_t ⟨by decide, by decide⟩ (v := (107 : Int32)) rfl d16_106 rfl ?_
        refine X.sipush (pc' := 110) (255 : Int32) d16_107 rfl rfl ?_
        refine X.iand (pc' := 111) d16_110 rfl ?_
        rw [show (((107 : Int32) &&& (255 : Int32)) : Int32) = (107 : Int32) from by decide]
        by_cases g3 : ds.getD 9 0 = 107
        · refine X.icY (pc' := 82) d16_111 ((teq g3).1) (by decide) (by decide) ?_
          refine X.iload (pc' := 84) d16_82 rfl rfl ?_
          refine X.iload (pc' := 86) d16_84 rfl rfl ?_
          refine X.icN (pc' := 89) d16_86 (by decide) rfl ?_
          refine X.aloadN (pc' := 90) d16_89 rfl rfl rfl ?_
          refine X.iload (pc' := 92) d16_90 rfl rfl ?_
          refine X.iinc (pc' := 95) #[.val (.ref s1), .val (.int (16 : Int32)), .val (.ref t1), .val (.int (7 : Int32)), .val (.int (9 : Int32)), .val (.int (6 : Int32)), .val (.int (12 : Int32)), .val (.int (6 : Int32)), .val (.int (((58 : Int32) &&& (255 : Int32)).toUInt32.toUInt16.toUInt32.toInt32)), .val (.int (7 : Int32)), .val (.int (5 : Int32)), .val (.int (2 : Int32))] d16_92 rfl rfl rfl ?_
          refine X.baload (pc' := 96) V_s ⟨by decide, by decide⟩ (v := ((ds.getD 8 0).toInt8.toInt32)) (at_map (i := 8) (by omega)) d16_95 rfl ?_
          refine X.sipush (pc' := 99) (255 : Int32) d16_96 rfl rfl ?_
          refine X.iand (pc' := 100) d16_99 rfl ?_
          rw [byte_in (lat_at hlat 8)]
          refine X.aloadN (pc' := 101) d16_100 rfl rfl rfl ?_
          refine X.iload (pc' := 103) d16_101 rfl rfl ?_
          refine X.iinc (pc' := 106) #[.val (.ref s1), .val (.int (16 : Int32)), .val (.ref t1), .val (.int (7 : Int32)), .val (.int (9 : Int32)), .val (.int (6 : Int32)), .val (.int (12 : Int32)), .val (.int (6 : Int32)), .val (.int (((58 : Int32) &&& (255 : Int32)).toUInt32.toUInt16.toUInt32.toInt32)), .val (.int (7 : Int32)), .val (.int (5 : Int32)), .val (.int (1 : Int32))] d16_103 rfl rfl rfl ?_
          refine X.baload (pc' := 107) V_t ⟨by decide, by decide⟩ (v := (111 : Int32)) rfl d16_106 rfl ?_
          refine X.sipush (pc' := 110) (255 : Int32) d16_107 rfl rfl ?_
          refine X.iand (pc' := 111) d16_110 rfl ?_
          rw [show (((111 : Int32) &&& (255 : Int32)) : Int32) = (111 : Int32) from by decide]
          by_cases g2 : ds.getD 8 0 = 111
          · refine X.icY (pc' := 82) d16_111 ((teq g2).1) (by decide) (by decide) ?_
            refine X.iload (pc' := 84) d16_82 rfl rfl ?_
            refine X.iload (pc' := 86) d16_84 rfl rfl ?_
            refine X.icN (pc' := 89) d16_86 (by decide) rfl ?_
            refine X.aloadN (pc' := 90) d16_89 rfl rfl rfl ?_
            refine X.iload (pc' := 92) d16_90 rfl rfl ?_
            refine X.iinc (pc' := 95) #[.val (.ref s1), .val (.int (16 : Int32)), .val (.ref t1), .val (.int (7 : Int32)), .val (.int (9 : Int32)), .val (.int (6 : Int32)), .val (.int (12 : Int32)), .val (.int (6 : Int32)), .val (.int (((58 : Int32) &&& (255 : Int32)).toUInt32.toUInt16.toUInt32.toInt32)), .val (.int (6 : Int32)), .val (.int (5 : Int32)), .val (.int (1 : Int32))] d16_92 rfl rfl rfl ?_
            refine X.baload (pc' := 96) V_s ⟨by decide, by decide⟩ (v := ((ds.getD 7 0).toInt8.toInt32)) (at_map (i := 7) (by omega)) d16_95 rfl ?_
            refine X.sipush (pc' := 99) (255 : Int32) d16_96 rfl rfl ?_
            refine X.iand (pc' := 100) d16_99 rfl ?_
            rw [byte_in (lat_at hlat 7)]
            refine X.aloadN (pc' := 101) d16_100 rfl rfl rfl ?_
            refine X.iload (pc' := 103) d16_101 rfl rfl ?_
            refine X.iinc (pc' := 106) #[.val (.ref s1), .val (.int (16 : Int32)), .val (.ref t1), .val (.int (7 : Int32)), .val (.int (9 : Int32)), .val (.int (6 : Int32)), .val (.int (12 : Int32)), .val (.int (6 : Int32)), .val (.int (((58 : Int32) &&& (255 : Int32)).toUInt32.toUInt16.toUInt32.toInt32)), .val (.int (6 : Int32)), .val (.int (5 : Int32)), .val (.int (0 : Int32))] d16_103 rfl rfl rfl ?_
            refine X.baload (pc' := 107) V_t ⟨by decide, by decide⟩ (v := (119 : Int32)) rfl d16_106 rfl ?_
            refine X.sipush (pc' := 110) (255 : Int32) d16_107 rfl rfl ?_
            refine X.iand (pc' := 111) d16_110 rfl ?_
            rw [show (((119 : Int32) &&& (255 : Int32)) : Int32) = (119 : Int32) from by decide]
            by_cases g1 : ds.getD 7 0 = 119
            · refine X.icY (pc' := 82) d16_111 ((teq g1).1) (by decide) (by decide) ?_
              refine X.iload (pc' := 84) d16_82 rfl rfl ?_
              refine X.iload (pc' := 86) d16_84 rfl rfl ?_
              refine X.icN (pc' := 89) d16_86 (by decide) rfl ?_
              refine X.aloadN (pc' := 90) d16_89 rfl rfl rfl ?_
              refine X.iload (pc' := 92) d16_90 rfl rfl ?_
              refine X.iinc (pc' := 95) #[.val (.ref s1), .val (.int (16 : Int32)), .val (.ref t1), .val (.int (7 : Int32)), .val (.int (9 : Int32)), .val (.int (6 : Int32)), .val (.int (12 : Int32)), .val (.int (6 : Int32)), .val (.int (((58 : Int32) &&& (255 : Int32)).toUInt32.toUInt16.toUInt32.toInt32)), .val (.int (5 : Int32)), .val (.int (5 : Int32)), .val (.int (0 : Int32))] d16_92 rfl rfl rfl ?_
              refine X.baload (pc' := 96) V_s ⟨by decide, by decide⟩ (v := ((ds.getD 6 0).toInt8.toInt32)) (at_map (i := 6) (by omega)) d16_95 rfl ?_
              refine X.sipush (pc' := 99) (255 : Int32) d16_96 rfl rfl ?_
              refine X.iand (pc' := 100) d16_99 rfl ?_
              rw [byte_in (lat_at hlat 6)]
              refine X.aloadN (pc' := 101) d16_100 rfl rfl rfl ?_
              refine X.iload (pc' := 103) d16_101 rfl rfl ?_
              refine X.iinc (pc' := 106) #[.val (.ref s1), .val (.int (16 : Int32)), .val (.ref t1), .val (.int (7 : Int32)), .val (.int (9 : Int32)), .val (.int (6 : Int32)), .val (.int (12 : Int32)), .val (.int (6 : Int32)), .val (.int (((58 : Int32) &&& (255 : Int32)).toUInt32.toUInt16.toUInt32.toInt32)), .val (.int (5 : Int32)), .val (.int (5 : Int32)), .val (.int (-1 : Int32))] d16_103 rfl rfl rfl ?_
              refine X.baload (pc' := 107) V_t ⟨by decide, by decide⟩ (v := (32 : Int32)) rfl d16_106 rfl ?_
              refine X.sipush (pc' := 110) (255 : Int32) d16_107 rfl rfl ?_
              refine X.iand (pc' := 111) d16_110 rfl ?_
              rw [show (((32 : Int32) &&& (255 : Int32)) : Int32) = (32 : Int32) from by decide]
              by_cases g0 : ds.getD 6 0 = 32
              · refine X.icY (pc' := 82) d16_111 ((teq g0).1) (by decide) (by decide) ?_
                refine X.iload (pc' := 84) d16_82 rfl rfl ?_
                refine X.iload (pc' := 86) d16_84 rfl rfl ?_
                refine X.icY (pc' := 120) d16_86 (by decide) (by decide) (by decide) ?_
                refine X.iload (pc' := 122) d16_120 rfl rfl ?_
                refine X.iconst (pc' := 123) (1 : Int32) d16_122 rfl rfl ?_
                refine X.iadd (pc' := 124) d16_123 rfl ?_
                rw [show (((5 : Int32) + (1 : Int32)) : Int32) = (Int32.ofNat 6) from by decide]
                obtain rfl := HL.top (k := 6) (mk_of (by decide) g0 g1 g2 g3 g4 g5 hc)
                exact X.retIN (by simp) rfl d16_124 (by decide) (by decide) ⟨_, rfl, rfl, _, rfl, HL0⟩
              · refine X.icN (pc' := 114) d16_111 ((feq g0).1) rfl ?_
                refine X.iinc (pc' := 117) #[.val (.ref s1), .val (.int (16 : Int32)), .val (.ref t1), .val (.int (7 : Int32)), .val (.int (9 : Int32)), .val (.int (6 : Int32)), .val (.int (11 : Int32)), .val (.int (6 : Int32)), .val (.int (((58 : Int32) &&& (255 : Int32)).toUInt32.toUInt16.toUInt32.toInt32)), .val (.int (5 : Int32)), .val (.int (5 : Int32)), .val (.int (-1 : Int32))] d16_114 rfl rfl rfl ?_
                refine X.goto (pc' := 28) d16_117 (by decide) (by decide) ?_
                exact HB6 (5 : Int32) (5 : Int32) (-1 : Int32) (HL.down (k := 6) (fun q => g0 (q.2 0 (by decide))))
            · refine X.icN (pc' := 114) d16_111 ((feq g1).1) rfl ?_
              refine X.iinc (pc' := 117) #[.val (.ref s1), .val (.int (16 : Int32)), .val (.ref t1), .val (.int (7 : Int32)), .val (.int (9 : Int32)), .val (.int (6 : Int32)), .val (.int (11 : Int32)), .val (.int (6 : Int32)), .val (.int (((58 : Int32) &&& (255 : Int32)).toUInt32.toUInt16.toUInt32.toInt32)), .val (.int (6 : Int32)), .val (.int (5 : Int32)), .val (.int (0 : Int32))] d16_114 rfl rfl rfl ?_
              refine X.goto (pc' := 28) d16_117 (by decide) (by decide) ?_
              exact HB6 (6 : Int32) (5 : Int32) (0 : Int32) (HL.down (k := 6) (fun q => g1 (q.2 1 (by decide))))
          · refine X.icN (pc' := 114) d16_111 ((feq g2).1) rfl ?_
            refine X.iinc (pc' := 117) #[.val (.ref s1), .val (.int (16 : Int32)), .val (.ref t1), .val (.int (7 : Int32)), .val (.int (9 : Int32)), .val (.int (6 : Int32)), .val (.int (11 : Int32)), .val (.int (6 : Int32)), .val (.int (((58 : Int32) &&& (255 : Int32)).toUInt32.toUInt16.toUInt32.toInt32)), .val (.int (7 : Int32)), .val (.int (5 : Int32)), .val (.int (1 : Int32))] d16_114 rfl rfl rfl ?_
            refine X.goto (pc' := 28) d16_117 (by decide) (by decide) ?_
            exact HB6 (7 : Int32) (5 : Int32) (1 : Int32) (HL.down (k := 6) (fun q => g2 (q.2 2 (by decide))))
        · refine X.icN (pc' := 114) d16_111 ((feq g3).1) rfl ?_
          refine X.iinc (pc' := 117) #[.val (.ref s1), .val (.int (16 : Int32)), .val (.ref t1), .val (.int (7 : Int32)), .val (.int (9 : Int32)), .val (.int (6 : Int32)), .val (.int (11 : Int32)), .val (.int (6 : Int32)), .val (.int (((58 : Int32) &&& (255 : Int32)).toUInt32.toUInt16.toUInt32.toInt32)), .val (.int (8 : Int32)), .val (.int (5 : Int32)), .val (.int (2 : Int32))] d16_114 rfl rfl rfl ?_
          refine X.goto (pc' := 28) d16_117 (by decide) (by decide) ?_
          exact HB6 (8 : Int32) (5 : Int32) (2 : Int32) (HL.down (k := 6) (fun q => g3 (q.2 3 (by decide))))
      · refine X.icN (pc' := 114) d16_111 ((feq g4).1) rfl ?_
        refine X.iinc (pc' := 117) #[.val (.ref s1), .val (.int (16 : Int32)), .val (.ref t1), .val (.int (7 : Int32)), .val (.int (9 : Int32)), .val (.int (6 : Int32)), .val (.int (11 : Int32)), .val (.int (6 : Int32)), .val (.int (((58 : Int32) &&& (255 : Int32)).toUInt32.toUInt16.toUInt32.toInt32)), .val (.int (9 : Int32)), .val (.int (5 : Int32)), .val (.int (3 : Int32))] d16_114 rfl rfl rfl ?_
        refine X.goto (pc' := 28) d16_117 (by decide) (by decide) ?_
        exact HB6 (9 : Int32) (5 : Int32) (3 : Int32) (HL.down (k := 6) (fun q => g4 (q.2 4 (by decide))))
    · refine X.icN (pc' := 114) d16_111 ((feq g5).1) rfl ?_
      refine X.iinc (pc' := 117) #[.val (.ref s1), .val (.int (16 : Int32)), .val (.ref t1), .val (.int (7 : Int32)), .val (.int (9 : Int32)), .val (.int (6 : Int32)), .val (.int (11 : Int32)), .val (.int (6 : Int32)), .val (.int (((58 : Int32) &&& (255 : Int32)).toUInt32.toUInt16.toUInt32.toInt32)), .val (.int (10 : Int32)), .val (.int (5 : Int32)), .val (.int (4 : Int32))] d16_114 rfl rfl rfl ?_
      refine X.goto (pc' := 28) d16_117 (by decide) (by decide) ?_
      exact HB6 (10 : Int32) (5 : Int32) (4 : Int32) (HL.down (k := 6) (fun q => g5 (q.2 5 (by decide))))
  have HB7 : ∀ x9 x10 x11 : Int32, Last (MarkN ds 16) 7 R → Y.Ends pg ev below (GN Z [] (RP s.heap (fun w => ∃ Q : Int32, w = .int Q ∧ Last (MarkN ds 16) 10 Q)) ({ frames := 0, cells := 0, slots := 0, locals := 0 } : Room) s) (T.setTop (mkF m 28 #[.val (.ref s1), .val (.int (16 : Int32)), .val (.ref t1), .val (.int (7 : Int32)), .val (.int (9 : Int32)), .val (.int (6 : Int32)), .val (.int (12 : Int32)), .val (.int (6 : Int32)), .val (.int (((58 : Int32) &&& (255 : Int32)).toUInt32.toUInt16.toUInt32.toInt32)), .val (.int x9), .val (.int x10), .val (.int x11)] [])) := by
    intro x9 x10 x11 HL
    refine X.iload (pc' := 30) d16_28 rfl rfl ?_
    refine X.iload (pc' := 32) d16_30 rfl rfl ?_
    refine X.icN (pc' := 35) d16_32 (by decide) rfl ?_
    refine X.aloadN (pc' := 36) d16_35 rfl rfl rfl ?_
    refine X.iload (pc' := 38) d16_36 rfl rfl ?_
    refine X.baload (pc' := 39) V_s ⟨by decide, by decide⟩ (v := ((ds.getD 12 0).toInt8.toInt32)) (at_map (i := 12) (by omega)) d16_38 rfl ?_
    refine X.sipush (pc' := 42) (255 : Int32) d16_39 rfl rfl ?_
    refine X.iand (pc' := 43) d16_42 rfl ?_
    rw [byte_in (lat_at hlat 12)]
    refine X.iload (pc' := 45) d16_43 rfl rfl ?_
    by_cases hc : ds.getD 12 0 = 58
    · refine X.icY (pc' := 54) d16_45 ((teq (by rw [e58]; exact hc)).1) (by decide) (by decide) ?_
      refine X.iload (pc' := 56) d16_54 rfl rfl ?_
      refine X.iload (pc' := 58) d16_56 rfl rfl ?_
      refine X.icY (pc' := 63) d16_58 (by decide) (by decide) (by decide) ?_
      refine X.iload (pc' := 65) d16_63 rfl rfl ?_
      refine X.iconst (pc' := 66) (1 : Int32) d16_65 rfl rfl ?_
      refine X.isub (pc' := 67) d16_66 rfl ?_
      rw [show (((12 : Int32) - (1 : Int32)) : Int32) = (11 : Int32) from by decide]
      refine X.istore (pc' := 69) #[.val (.ref s1), .val (.int (16 : Int32)), .val (.ref t1), .val (.int (7 : Int32)), .val (.int (9 : Int32)), .val (.int (6 : Int32)), .val (.int (12 : Int32)), .val (.int (6 : Int32)), .val (.int (((58 : Int32) &&& (255 : Int32)).toUInt32.toUInt16.toUInt32.toInt32)), .val (.int (11 : Int32)), .val (.int x10), .val (.int x11)] d16_67 rfl rfl ?_
      refine X.iload (pc' := 71) d16_69 rfl rfl ?_
      refine X.iload (pc' := 73) d16_71 rfl rfl ?_
      refine X.isub (pc' := 74) d16_73 rfl ?_
      rw [show (((11 : Int32) - (6 : Int32)) : Int32) = (5 : Int32) from by decide]
      refine X.istore (pc' := 76) #[.val (.ref s1), .val (.int (16 : Int32)), .val (.ref t1), .val (.int (7 : Int32)), .val (.int (9 : Int32)), .val (.int (6 : Int32)), .val (.int (12 : Int32)), .val (.int (6 : Int32)), .val (.int (((58 : Int32) &&& (255 : Int32)).toUInt32.toUInt16.toUInt32.toInt32)), .val (.int (11 : Int32)), .val (.int (5 : Int32)), .val (.int x11)] d16_74 rfl rfl ?_
      refine X.iload (pc' := 78) d16_76 rfl rfl ?_
      refine X.iconst (pc' := 79) (1 : Int32) d16_78 rfl rfl ?_
      refine X.isub (pc' := 80) d16_79 rfl ?_
      rw [show (((6 : Int32) - (1 : Int32)) : Int32) = (5 : Int32) from by decide]
      refine X.istore (pc' := 82) #[.val (.ref s1), .val (.int (16 : Int32)), .val (.ref t1), .val (.int (7 : Int32)), .val (.int (9 : Int32)), .val (.int (6 : Int32)), .val (.int (12 : Int32)), .val (.int (6 : Int32)), .val (.int (((58 : Int32) &&& (255 : Int32)).toUInt32.toUInt16.toUInt32.toInt32)), .val (.int (11 : Int32)), .val (.int (5 : Int32)), .val (.int (5 : Int32))] d16_80 rfl rfl ?_
      exact HI7 hc HL
    · refine X.icN (pc' := 48) d16_45 ((feq (by rw [e58]; exact hc)).1) rfl ?_
      refine X.iinc (pc' := 51) #[.val (.ref s1), .val (.int (16 : Int32)), .val (.ref t1), .val (.int (7 : Int32)), .val (.int (9 : Int32)), .val (.int (6 : Int32)), .val (.int (11 : Int32)), .val (.int (6 : Int32)), .val (.int (((58 : Int32) &&& (255 : Int32)).toUInt32.toUInt16.toUInt32.toInt32)), .val (.int x9), .val (.int x10), .val (.int x11)] d16_48 rfl rfl rfl ?_
      refine X.goto (pc' := 28) d16_51 (by decide) (by decide) ?_
      exact HB6 x9 x10 x11 (HL.down (k := 6) (fun q => hc (q.2 6 (by decide))))
  have HA7 : Last (MarkN ds 16) 7 R → Y.Ends pg ev below (GN Z [] (RP s.heap (fun w => ∃ Q : Int32, w = .int Q ∧ Last (MarkN ds 16) 10 Q)) ({ frames := 0, cells := 0, slots := 0, locals := 0 } : Room) s) (T.setTop (mkF m 28 #[.val (.ref s1), .val (.int (16 : Int32)), .val (.ref t1), .val (.int (7 : Int32)), .val (.int (9 : Int32)), .val (.int (6 : Int32)), .val (.int (12 : Int32)), .val (.int (6 : Int32)), .val (.int (((58 : Int32) &&& (255 : Int32)).toUInt32.toUInt16.toUInt32.toInt32)), .unset, .unset, .unset] [])) := by
    intro HL
    refine X.iload (pc' := 30) d16_28 rfl rfl ?_
    refine X.iload (pc' := 32) d16_30 rfl rfl ?_
    refine X.icN (pc' := 35) d16_32 (by decide) rfl ?_
    refine X.aloadN (pc' := 36) d16_35 rfl rfl rfl ?_
    refine X.iload (pc' := 38) d16_36 rfl rfl ?_
    refine X.baload (pc' := 39) V_s ⟨by decide, by decide⟩ (v := ((ds.getD 12 0).toInt8.toInt32)) (at_map (i := 12) (by omega)) d16_38 rfl ?_
    refine X.sipush (pc' := 42) (255 : Int32) d16_39 rfl rfl ?_
    refine X.iand (pc' := 43) d16_42 rfl ?_
    rw [byte_in (lat_at hlat 12)]
    refine X.iload (pc' := 45) d16_43 rfl rfl ?_
    by_cases hc : ds.getD 12 0 = 58
    · refine X.icY (pc' := 54) d16_45 ((teq (by rw [e58]; exact hc)).1) (by decide) (by decide) ?_
      refine X.iload (pc' := 56) d16_54 rfl rfl ?_
      refine X.iload (pc' := 58) d16_56 rfl rfl ?_
      refine X.icY (pc' := 63) d16_58 (by decide) (by decide) (by decide) ?_
      refine X.iload (pc' := 65) d16_63 rfl rfl ?_
      refine X.iconst (pc' := 66) (1 : Int32) d16_65 rfl rfl ?_
      refine X.isub (pc' := 67) d16_66 rfl ?_
      rw [show (((12 : Int32) - (1 : Int32)) : Int32) = (11 : Int32) from by decide]
      refine X.istore (pc' := 69) #[.val (.ref s1), .val (.int (16 : Int32)), .val (.ref t1), .val (.int (7 : Int32)), .val (.int (9 : Int32)), .val (.int (6 : Int32)), .val (.int (12 : Int32)), .val (.int (6 : Int32)), .val (.int (((58 : Int32) &&& (255 : Int32)).toUInt32.toUInt16.toUInt32.toInt32)), .val (.int (11 : Int32)), .unset, .unset] d16_67 rfl rfl ?_
      refine X.iload (pc' := 71) d16_69 rfl rfl ?_
      refine X.iload (pc' := 73) d16_71 rfl rfl ?_
      refine X.isub (pc' := 74) d16_73 rfl ?_
      rw [show (((11 : Int32) - (6 : Int32)) : Int32) = (5 : Int32) from by decide]
      refine X.istore (pc' := 76) #[.val (.ref s1), .val (.int (16 : Int32)), .val (.ref t1), .val (.int (7 : Int32)), .val (.int (9 : Int32)), .val (.int (6 : Int32)), .val (.int (12 : Int32)), .val (.int (6 : Int32)), .val (.int (((58 : Int32) &&& (255 : Int32)).toUInt32.toUInt16.toUInt32.toInt32)), .val (.int (11 : Int32)), .val (.int (5 : Int32)), .unset] d16_74 rfl rfl ?_
      refine X.iload (pc' := 78) d16_76 rfl rfl ?_
      refine X.iconst (pc' := 79) (1 : Int32) d16_78 rfl rfl ?_
      refine X.isub (pc' := 80) d16_79 rfl ?_
      rw [show (((6 : Int32) - (1 : Int32)) : Int32) = (5 : Int32) from by decide]
      refine X.istore (pc' := 82) #[.val (.ref s1), .val (.int (16 : Int32)), .val (.ref t1), .val (.int (7 : Int32)), .val (.int (9 : Int32)), .val (.int (6 : Int32)), .val (.int (12 : Int32)), .val (.int (6 : Int32)), .val (.int (((58 : Int32) &&& (255 : Int32)).toUInt32.toUInt16.toUInt32.toInt32)), .val (.int (11 : Int32)), .val (.int (5 : Int32)), .val (.int (5 : Int32))] d16_80 rfl rfl ?_
      exact HI7 hc HL
    · refine X.icN (pc' := 48) d16_45 ((feq (by rw [e58]; exact hc)).1) rfl ?_
      refine X.iinc (pc' := 51) #[.val (.ref s1), .val (.int (16 : Int32)), .val (.ref t1), .val (.int (7 : Int32)), .val (.int (9 : Int32)), .val (.int (6 : Int32)), .val (.int (11 : Int32)), .val (.int (6 : Int32)), .val (.int (((58 : Int32) &&& (255 : Int32)).toUInt32.toUInt16.toUInt32.toInt32)), .unset, .unset, .unset] d16_48 rfl rfl rfl ?_
      refine X.goto (pc' := 28) d16_51 (by decide) (by decide) ?_
      exact HA6  (HL.down (k := 6) (fun q => hc (q.2 6 (by decide))))
  have HI8 : ds.getD 13 0 = 58 → Last (MarkN ds 16) 8 R → Y.Ends pg ev below (GN Z [] (RP s.heap (fun w => ∃ Q : Int32, w = .int Q ∧ Last (MarkN ds 16) 10 Q)) ({ frames := 0, cells := 0, slots := 0, locals := 0 } : Room) s) (T.setTop (mkF m 82 #[.val (.ref s1), .val (.int (16 : Int32)), .val (.ref t1), .val (.int (7 : Int32)), .val (.int (9 : Int32)), .val (.int (6 : Int32)), .val (.int (13 : Int32)), .val (.int (6 : Int32)), .val (.int (((58 : Int32) &&& (255 : Int32)).toUInt32.toUInt16.toUInt32.toInt32)), .val (.int (12 : Int32)), .val (.int (6 : Int32)), .val (.int (5 : Int32))] [])) := by
    intro hc HL
    refine X.iload (pc' := 84) d16_82 rfl rfl ?_
    refine X.iload (pc' := 86) d16_84 rfl rfl ?_
    refine X.icN (pc' := 89) d16_86 (by decide) rfl ?_
    refine X.aloadN (pc' := 90) d16_89 rfl rfl rfl ?_
    refine X.iload (pc' := 92) d16_90 rfl rfl ?_
    refine X.iinc (pc' := 95) #[.val (.ref s1), .val (.int (16 : Int32)), .val (.ref t1), .val (.int (7 : Int32)), .val (.int (9 : Int32)), .val (.int (6 : Int32)), .val (.int (13 : Int32)), .val (.int (6 : Int32)), .val (.int (((58 : Int32) &&& (255 : Int32)).toUInt32.toUInt16.toUInt32.toInt32)), .val (.int (11 : Int32)), .val (.int (6 : Int32)), .val (.int (5 : Int32))] d16_92 rfl rfl rfl ?_
    refine X.baload (pc' := 96) V_s ⟨by decide, by decide⟩ (v := ((ds.getD 12 0).toInt8.toInt32)) (at_map (i := 12) (by omega)) d16_95 rfl ?_
    refine X.sipush (pc' := 99) (255 : Int32) d16_96 rfl rfl ?_
    refine X.iand (pc' := 100) d16_99 rfl ?_
    rw [byte_in (lat_at hlat 12)]
    refine X.aloadN (pc' := 101) d16_100 rfl rfl rfl ?_
    refine X.iload (pc' := 103) d16_101 rfl rfl ?_
    refine X.iinc (pc' := 106) #[.val (.ref s1), .val (.int (16 : Int32)), .val (.ref t1), .val (.int (7 : Int32)), .val (.int (9 : Int32)), .val (.int (6 : Int32)), .val (.int (13 : Int32)), .val (.int (6 : Int32)), .val (.int (((58 : Int32) &&& (255 : Int32)).toUInt32.toUInt16.toUInt32.toInt32)), .val (.int (11 : Int32)), .val (.int (6 : Int32)), .val (.int (4 : Int32))] d16_103 rfl rfl rfl ?_
    refine X.baload (pc' := 107) V_t ⟨by decide, by decide⟩ (v := (110 : Int32)) rfl d16_106 rfl ?_
    refine X.sipush (pc' := 110) (255 : Int32) d16_107 rfl rfl ?_
    refine X.iand (pc' := 111) d16_110 rfl ?_
    rw [show (((110 : Int32) &&& (255 : Int32)) : Int32) = (110 : Int32) from by decide]
    by_cases g5 : ds.getD 12 0 = 110
    · refine X.icY (pc' := 82) d16_111 ((teq g5).1) (by decide) (by decide) ?_
      refine X.iload (pc' := 84) d16_82 rfl rfl ?_
      refine X.iload (pc' := 86) d16_84 rfl rfl ?_
      refine X.icN (pc' := 89) d16_86 (by decide) rfl ?_
      refine X.aloadN (pc' := 90) d16_89 rfl rfl rfl ?_
      refine X.iload (pc' := 92) d16_90 rfl rfl ?_
      refine X.iinc (pc' := 95) #[.val (.ref s1), .val (.int (16 : Int32)), .val (.ref t1), .val (.int (7 : Int32)), .val (.int (9 : Int32)), .val (.int (6 : Int32)), .val (.int (13 : Int32)), .val (.int (6 : Int32)), .val (.int (((58 : Int32) &&& (255 : Int32)).toUInt32.toUInt16.toUInt32.toInt32)), .val (.int (10 : Int32)), .val (.int (6 : Int32)), .val (.int (4 : Int32))] d16_92 rfl rfl rfl ?_
      refine X.baload (pc' := 96) V_s ⟨by decide, by decide⟩ (v := ((ds.getD 11 0).toInt8.toInt32)) (at_map (i := 11) (by omega)) d16_95 rfl ?_
      refine X.sipush (pc' := 99) (255 : Int32) d16_96 rfl rfl ?_
      refine X.iand (pc' := 100) d16_99 rfl ?_
      rw [byte_in (lat_at hlat 11)]
      refine X.aloadN (pc' := 101) d16_100 rfl rfl rfl ?_
      refine X.iload (pc' := 103) d16_101 rfl rfl ?_
      refine X.iinc (pc' := 106) #[.val (.ref s1), .val (.int (16 : Int32)), .val (.ref t1), .val (.int (7 : Int32)), .val (.int (9 : Int32)), .val (.int (6 : Int32)), .val (.int (13 : Int32)), .val (.int (6 : Int32)), .val (.int (((58 : Int32) &&& (255 : Int32)).toUInt32.toUInt16.toUInt32.toInt32)), .val (.int (10 : Int32)), .val (.int (6 : Int32)), .val (.int (3 : Int32))] d16_103 rfl rfl rfl ?_
      refine X.baload (pc' := 107) V_t ⟨by decide, by decide⟩ (v := (101 : Int32)) rfl d16_106 rfl ?_
      refine X.sipush (pc' := 110) (255 : Int32) d16_107 rfl rfl ?_
      refine X.iand (pc' := 111) d16_110 rfl ?_
      rw [show (((101 : Int32) &&& (255 : Int32)) : Int32) = (101 : Int32) from by decide]
      by_cases g4 : ds.getD 11 0 = 101
      · refine X.icY (pc' := 82) d16_111 ((teq g4).1) (by decide) (by decide) ?_
        refine X.iload (pc' := 84) d16_82 rfl rfl ?_
        refine X.iload (pc' := 86) d16_84 rfl rfl ?_
        refine X.icN (pc' := 89) d16_86 (by decide) rfl ?_
        refine X.aloadN (pc' := 90) d16_89 rfl rfl rfl ?_
        refine X.iload (pc' := 92) d16_90 rfl rfl ?_
        refine X.iinc (pc' := 95) #[.val (.ref s1), .val (.int (16 : Int32)), .val (.ref t1), .val (.int (7 : Int32)), .val (.int (9 : Int32)), .val (.int (6 : Int32)), .val (.int (13 : Int32)), .val (.int (6 : Int32)), .val (.int (((58 : Int32) &&& (255 : Int32)).toUInt32.toUInt16.toUInt32.toInt32)), .val (.int (9 : Int32)), .val (.int (6 : Int32)), .val (.int (3 : Int32))] d16_92 rfl rfl rfl ?_
        refine X.baload (pc' := 96) V_s ⟨by decide, by decide⟩ (v := ((ds.getD 10 0).toInt8.toInt32)) (at_map (i := 10) (by omega)) d16_95 rfl ?_
        refine X.sipush (pc' := 99) (255 : Int32) d16_96 rfl rfl ?_
        refine X.iand (pc' := 100) d16_99 rfl ?_
        rw [byte_in (lat_at hlat 10)]
        refine X.aloadN (pc' := 101) d16_100 rfl rfl rfl ?_
        refine X.iload (pc' := 103) d16_101 rfl rfl ?_
        refine X.iinc (pc' := 106) #[.val (.ref s1), .val (.int (16 : Int32)), .val (.ref t1), .val (.int (7 : Int32)), .val (.int (9 : Int32)), .val (.int (6 : Int32)), .val (.int (13 : Int32)), .val (.int (6 : Int32)), .val (.int (((58 : Int32) &&& (255 : Int32)).toUInt32.toUInt16.toUInt32.toInt32)), .val (.int (9 : Int32)), .val (.int (6 : Int32)), .val (.int (2 : Int32))] d16_103 rfl rfl rfl ?_
        refine X.baload (pc' := 107) V_t ⟨by decide, by decide⟩ (v := (107 : Int32)) rfl d16_106 rfl ?_
        refine X.sipush (pc' := 110) (255 : Int32) d16_107 rfl rfl ?_
        refine X.iand (pc' := 111) d16_110 rfl ?_
        rw [show (((107 : Int32) &&& (255 : Int32)) : Int32) = (107 : Int32) from by decide]
        by_cases g3 : ds.getD 10 0 = 107
        · refine X.icY (pc' := 82) d16_111 ((teq g3).1) (by decide) (by decide) ?_
          refine X.iload (pc' := 84) d16_82 rfl rfl ?_
          refine X.iload (pc' := 86) d16_84 rfl rfl ?_
          refine X.icN (pc' := 89) d16_86 (by decide) rfl ?_
          refine X.aloadN (pc' := 90) d16_89 rfl rfl rfl ?_
          refine X.iload (pc' := 92) d16_90 rfl rfl ?_
          refine X.iinc (pc' := 95) #[.val (.ref s1), .val (.int (16 : Int32)), .val (.ref t1), .val (.int (7 : Int32)), .val (.int (9 : Int32)), .val (.int (6 : Int32)), .val (.int (13 : Int32)), .val (.int (6 : Int32)), .val (.int (((58 : Int32) &&& (255 : Int32)).toUInt32.toUInt16.toUInt32.toInt32)), .val (.int (8 : Int32)), .val (.int (6 : Int32)), .val (.int (2 : Int32))] d16_92 rfl rfl rfl ?_
          refine X.baload (pc' := 96) V_s ⟨by decide, by decide⟩ (v := ((ds.getD 9 0).toInt8.toInt32)) (at_map (i := 9) (by omega)) d16_95 rfl ?_
          refine X.sipush (pc' := 99) (255 : Int32) d16_96 rfl rfl ?_
          refine X.iand (pc' := 100) d16_99 rfl ?_
          rw [byte_in (lat_at hlat 9)]
          refine X.aloadN (pc' := 101) d16_100 rfl rfl rfl ?_
          refine X.iload (pc' := 103) d16_101 rfl rfl ?_
          refine X.iinc (pc' := 106) #[.val (.ref s1), .val (.int (16 : Int32)), .val (.ref t1), .val (.int (7 : Int32)), .val (.int (9 : Int32)), .val (.int (6 : Int32)), .val (.int (13 : Int32)), .val (.int (6 : Int32)), .val (.int (((58 : Int32) &&& (255 : Int32)).toUInt32.toUInt16.toUInt32.toInt32)), .val (.int (8 : Int32)), .val (.int (6 : Int32)), .val (.int (1 : Int32))] d16_103 rfl rfl rfl ?_
          refine X.baload (pc' := 107) V_t ⟨by decide, by decide⟩ (v := (111 : Int32)) rfl d16_106 rfl ?_
          refine X.sipush (pc' := 110) (255 : Int32) d16_107 rfl rfl ?_
          refine X.iand (pc' := 111) d16_110 rfl ?_
          rw [show (((111 : Int32) &&& (255 : Int32)) : Int32) = (111 : Int32) from by decide]
          by_cases g2 : ds.getD 9 0 = 111
          · refine X.icY (pc' := 82) d16_111 ((teq g2).1) (by decide) (by decide) ?_
            refine X.iload (pc' := 84) d16_82 rfl rfl ?_
            refine X.iload (pc' := 86) d16_84 rfl rfl ?_
            refine X.icN (pc' := 89) d16_86 (by decide) rfl ?_
            refine X.aloadN (pc' := 90) d16_89 rfl rfl rfl ?_
            refine X.iload (pc' := 92) d16_90 rfl rfl ?_
            refine X.iinc (pc' := 95) #[.val (.ref s1), .val (.int (16 : Int32)), .val (.ref t1), .val (.int (7 : Int32)), .val (.int (9 : Int32)), .val (.int (6 : Int32)), .val (.int (13 : Int32)), .val (.int (6 : Int32)), .val (.int (((58 : Int32) &&& (255 : Int32)).toUInt32.toUInt16.toUInt32.toInt32)), .val (.int (7 : Int32)), .val (.int (6 : Int32)), .val (.int (1 : Int32))] d16_92 rfl rfl rfl ?_
            refine X.baload (pc' := 96) V_s ⟨by decide, by decide⟩ (v := ((ds.getD 8 0).toInt8.toInt32)) (at_map (i := 8) (by omega)) d16_95 rfl ?_
            refine X.sipush (pc' := 99) (255 : Int32) d16_96 rfl rfl ?_
            refine X.iand (pc' := 100) d16_99 rfl ?_
            rw [byte_in (lat_at hlat 8)]
            refine X.aloadN (pc' := 101) d16_100 rfl rfl rfl ?_
            refine X.iload (pc' := 103) d16_101 rfl rfl ?_
            refine X.iinc (pc' := 106) #[.val (.ref s1), .val (.int (16 : Int32)), .val (.ref t1), .val (.int (7 : Int32)), .val (.int (9 : Int32)), .val (.int (6 : Int32)), .val (.int (13 : Int32)), .val (.int (6 : Int32)), .val (.int (((58 : Int32) &&& (255 : Int32)).toUInt32.toUInt16.toUInt32.toInt32)), .val (.int (7 : Int32)), .val (.int (6 : Int32)), .val (.int (0 : Int32))] d16_103 rfl rfl rfl ?_
            refine X.baload (pc' := 107) V_t ⟨by decide, by decide⟩ (v := (119 : Int32)) rfl d16_106 rfl ?_
            refine X.sipush (pc' := 110) (255 : Int32) d16_107 rfl rfl ?_
            refine X.iand (pc' := 111) d16_110 rfl ?_
            rw [show (((119 : Int32) &&& (255 : Int32)) : Int32) = (119 : Int32) from by decide]
            by_cases g1 : ds.getD 8 0 = 119
            · refine X.icY (pc' := 82) d16_111 ((teq g1).1) (by decide) (by decide) ?_
              refine X.iload (pc' := 84) d16_82 rfl rfl ?_
              refine X.iload (pc' := 86) d16_84 rfl rfl ?_
              refine X.icN (pc' := 89) d16_86 (by decide) rfl ?_
              refine X.aloadN (pc' := 90) d16_89 rfl rfl rfl ?_
              refine X.iload (pc' := 92) d16_90 rfl rfl ?_
              refine X.iinc (pc' := 95) #[.val (.ref s1), .val (.int (16 : Int32)), .val (.ref t1), .val (.int (7 : Int32)), .val (.int (9 : Int32)), .val (.int (6 : Int32)), .val (.int (13 : Int32)), .val (.int (6 : Int32)), .val (.int (((58 : Int32) &&& (255 : Int32)).toUInt32.toUInt16.toUInt32.toInt32)), .val (.int (6 : Int32)), .val (.int (6 : Int32)), .val (.int (0 : Int32))] d16_92 rfl rfl rfl ?_
              refine X.baload (pc' := 96) V_s ⟨by decide, by decide⟩ (v := ((ds.getD 7 0).toInt8.toInt32)) (at_map (i := 7) (by omega)) d16_95 rfl ?_
              refine X.sipush (pc' := 99) (255 : Int32) d16_96 rfl rfl ?_
              refine X.iand (pc' := 100) d16_99 rfl ?_
              rw [byte_in (lat_at hlat 7)]
              refine X.aloadN (pc' := 101) d16_100 rfl rfl rfl ?_
              refine X.iload (pc' := 103) d16_101 rfl rfl ?_
              refine X.iinc (pc' := 106) #[.val (.ref s1), .val (.int (16 : Int32)), .val (.ref t1), .val (.int (7 : Int32)), .val (.int (9 : Int32)), .val (.int (6 : Int32)), .val (.int (13 : Int32)), .val (.int (6 : Int32)), .val (.int (((58 : Int32) &&& (255 : Int32)).toUInt32.toUInt16.toUInt32.toInt32)), .val (.int (6 : Int32)), .val (.int (6 : Int32)), .val (.int (-1 : Int32))] d16_103 rfl rfl rfl ?_
              refine X.baload (pc' := 107) V_t ⟨by decide, by decide⟩ (v := (32 : Int32)) rfl d16_106 rfl ?_
              refine X.sipush (pc' := 110) (255 : Int32) d16_107 rfl rfl ?_
              refine X.iand (pc' := 111) d16_110 rfl ?_
              rw [show (((32 : Int32) &&& (255 : Int32)) : Int32) = (32 : Int32) from by decide]
              by_cases g0 : ds.getD 7 0 = 32
              · refine X.icY (pc' := 82) d16_111 ((teq g0).1) (by decide) (by decide) ?_
                refine X.iload (pc' := 84) d16_82 rfl rfl ?_
                refine X.iload (pc' := 86) d16_84 rfl rfl ?_
                refine X.icY (pc' := 120) d16_86 (by decide) (by decide) (by decide) ?_
                refine X.iload (pc' := 122) d16_120 rfl rfl ?_
                refine X.iconst (pc' := 123) (1 : Int32) d16_122 rfl rfl ?_
                refine X.iadd (pc' := 124) d16_123 rfl ?_
                rw [show (((6 : Int32) + (1 : Int32)) : Int32) = (Int32.ofNat 7) from by decide]
                obtain rfl := HL.top (k := 7) (mk_of (by decide) g0 g1 g2 g3 g4 g5 hc)
                exact X.retIN (by simp) rfl d16_124 (by decide) (by decide) ⟨_, rfl, rfl, _, rfl, HL0⟩
              · refine X.icN (pc' := 114) d16_111 ((feq g0).1) rfl ?_
                refine X.iinc (pc' := 117) #[.val (.ref s1), .val (.int (16 : Int32)), .val (.ref t1), .val (.int (7 : Int32)), .val (.int (9 : Int32)), .val (.int (6 : Int32)), .val (.int (12 : Int32)), .val (.int (6 : Int32)), .val (.int (((58 : Int32) &&& (255 : Int32)).toUInt32.toUInt16.toUInt32.toInt32)), .val (.int (6 : Int32)), .val (.int (6 : Int32)), .val (.int (-1 : Int32))] d16_114 rfl rfl rfl ?_
                refine X.goto (pc' := 28) d16_117 (by decide) (by decide) ?_
                exact HB7 (6 : Int32) (6 : Int32) (-1 : Int32) (HL.down (k := 7) (fun q => g0 (q.2 0 (by decide))))
            · refine X.icN (pc' := 114) d16_111 ((feq g1).1) rfl ?_
              refine X.iinc (pc' := 117) #[.val (.ref s1), .val (.int (16 : Int32)), .val (.ref t1), .val (.int (7 : Int32)), .val (.int (9 : Int32)), .val (.int (6 : Int32)), .val (.int (12 : Int32)), .val (.int (6 : Int32)), .val (.int (((58 : Int32) &&& (255 : Int32)).toUInt32.toUInt16.toUInt32.toInt32)), .val (.int (7 : Int32)), .val (.int (6 : Int32)), .val (.int (0 : Int32))] d16_114 rfl rfl rfl ?_
              refine X.goto (pc' := 28) d16_117 (by decide) (by decide) ?_
              exact HB7 (7 : Int32) (6 : Int32) (0 : Int32) (HL.down (k := 7) (fun q => g1 (q.2 1 (by decide))))
          · refine X.icN (pc' := 114) d16_111 ((feq g2).1) rfl ?_
            refine X.iinc (pc' := 117) #[.val (.ref s1), .val (.int (16 : Int32)), .val (.ref t1), .val (.int (7 : Int32)), .val (.int (9 : Int32)), .val (.int (6 : Int32)), .val (.int (12 : Int32)), .val (.int (6 : Int32)), .val (.int (((58 : Int32) &&& (255 : Int32)).toUInt32.toUInt16.toUInt32.toInt32)), .val (.int (8 : Int32)), .val (.int (6 : Int32)), .val (.int (1 : Int32))] d16_114 rfl rfl rfl ?_
            refine X.goto (pc' := 28) d16_117 (by decide) (by decide) ?_
            exact HB7 (8 : Int32) (6 : Int32) (1 : Int32) (HL.down (k := 7) (fun q => g2 (q.2 2 (by decide))))
        · refine X.icN (pc' := 114) d16_111 ((feq g3).1) rfl ?_
          refine X.iinc (pc' := 117) #[.val (.ref s1), .val (.int (16 : Int32)), .val (.ref t1), .val (.int (7 : Int32)), .val (.int (9 : Int32)), .val (.int (6 : Int32)), .val (.int (12 : Int32)), .val (.int (6 : Int32)), .val (.int (((58 : Int32) &&& (255 : Int32)).toUInt32.toUInt16.toUInt32.toInt32)), .val (.int (9 : Int32)), .val (.int (6 : Int32)), .val (.int (2 : Int32))] d16_114 rfl rfl rfl ?_
          refine X.goto (pc' := 28) d16_117 (by decide) (by decide) ?_
          exact HB7 (9 : Int32) (6 : Int32) (2 : Int32) (HL.down (k := 7) (fun q => g3 (q.2 3 (by decide))))
      · refine X.icN (pc' := 114) d16_111 ((feq g4).1) rfl ?_
        refine X.iinc (pc' := 117) #[.val (.ref s1), .val (.int (16 : Int32)), .val (.ref t1), .val (.int (7 : Int32)), .val (.int (9 : Int32)), .val (.int (6 : Int32)), .val (.int (12 : Int32)), .val (.int (6 : Int32)), .val (.int (((58 : Int32) &&& (255 : Int32)).toUInt32.toUInt16.toUInt32.toInt32)), .val (.int (10 : Int32)), .val (.int (6 : Int32)), .val (.int (3 : Int32))] d16_114 rfl rfl rfl ?_
        refine X.goto (pc' := 28) d16_117 (by decide) (by decide) ?_
        exact HB7 (10 : Int32) (6 : Int32) (3 : Int32) (HL.down (k := 7) (fun q => g4 (q.2 4 (by decide))))
    · refine X.icN (pc' := 114) d16_111 ((feq g5).1) rfl ?_
      refine X.iinc (pc' := 117) #[.val (.ref s1), .val (.int (16 : Int32)), .val (.ref t1), .val (.int (7 : Int32)), .val (.int (9 : Int32)), .val (.int (6 : Int32)), .val (.int (12 : Int32)), .val (.int (6 : Int32)), .val (.int (((58 : Int32) &&& (255 : Int32)).toUInt32.toUInt16.toUInt32.toInt32)), .val (.int (11 : Int32)), .val (.int (6 : Int32)), .val (.int (4 : Int32))] d16_114 rfl rfl rfl ?_
      refine X.goto (pc' := 28) d16_117 (by decide) (by decide) ?_
      exact HB7 (11 : Int32) (6 : Int32) (4 : Int32) (HL.down (k := 7) (fun q => g5 (q.2 5 (by decide))))
  have HB8 : ∀ x9 x10 x11 : Int32, Last (MarkN ds 16) 8 R → Y.Ends pg ev below (GN Z [] (RP s.heap (fun w => ∃ Q : Int32, w = .int Q ∧ Last (MarkN ds 16) 10 Q)) ({ frames := 0, cells := 0, slots := 0, locals := 0 } : Room) s) (T.setTop (mkF m 28 #[.val (.ref s1), .val (.int (16 : Int32)), .val (.ref t1), .val (.int (7 : Int32)), .val (.int (9 : Int32)), .val (.int (6 : Int32)), .val (.int (13 : Int32)), .val (.int (6 : Int32)), .val (.int (((58 : Int32) &&& (255 : Int32)).toUInt32.toUInt16.toUInt32.toInt32)), .val (.int x9), .val (.int x10), .val (.int x11)] [])) := by
    intro x9 x10 x11 HL
    refine X.iload (pc' := 30) d16_28 rfl rfl ?_
    refine X.iload (pc' := 32) d16_30 rfl rfl ?_
    refine X.icN (pc' := 35) d16_32 (by decide) rfl ?_
    refine X.aloadN (pc' := 36) d16_35 rfl rfl rfl ?_
    refine X.iload (pc' := 38) d16_36 rfl rfl ?_
    refine X.baload (pc' := 39) V_s ⟨by decide, by decide⟩ (v := ((ds.getD 13 0).toInt8.toInt32)) (at_map (i := 13) (by omega)) d16_38 rfl ?_
    refine X.sipush (pc' := 42) (255 : Int32) d16_39 rfl rfl ?_
    refine X.iand (pc' := 43) d16_42 rfl ?_
    rw [byte_in (lat_at hlat 13)]
    refine X.iload (pc' := 45) d16_43 rfl rfl ?_
    by_cases hc : ds.getD 13 0 = 58
    · refine X.icY (pc' := 54) d16_45 ((teq (by rw [e58]; exact hc)).1) (by decide) (by decide) ?_
      refine X.iload (pc' := 56) d16_54 rfl rfl ?_
      refine X.iload (pc' := 58) d16_56 rfl rfl ?_
      refine X.icY (pc' := 63) d16_58 (by decide) (by decide) (by decide) ?_
      refine X.iload (pc' := 65) d16_63 rfl rfl ?_
      refine X.iconst (pc' := 66) (1 : Int32) d16_65 rfl rfl ?_
      refine X.isub (pc' := 67) d16_66 rfl ?_
      rw [show (((13 : Int32) - (1 : Int32)) : Int32) = (12 : Int32) from by decide]
      refine X.istore (pc' := 69) #[.val (.ref s1), .val (.int (16 : Int32)), .val (.ref t1), .val (.int (7 : Int32)), .val (.int (9 : Int32)), .val (.int (6 : Int32)), .val (.int (13 : Int32)), .val (.int (6 : Int32)), .val (.int (((58 : Int32) &&& (255 : Int32)).toUInt32.toUInt16.toUInt32.toInt32)), .val (.int (12 : Int32)), .val (.int x10), .val (.int x11)] d16_67 rfl rfl ?_
      refine X.iload (pc' := 71) d16_69 rfl rfl ?_
      refine X.iload (pc' := 73) d16_71 rfl rfl ?_
      refine X.isub (pc' := 74) d16_73 rfl ?_
      rw [show (((12 : Int32) - (6 : Int32)) : Int32) = (6 : Int32) from by decide]
      refine X.istore (pc' := 76) #[.val (.ref s1), .val (.int (16 : Int32)), .val (.ref t1), .val (.int (7 : Int32)), .val (.int (9 : Int32)), .val (.int (6 : Int32)), .val (.int (13 : Int32)), .val (.int (6 : Int32)), .val (.int (((58 : Int32) &&& (255 : Int32)).toUInt32.toUInt16.toUInt32.toInt32)), .val (.int (12 : Int32)), .val (.int (6 : Int32)), .val (.int x11)] d16_74 rfl rfl ?_
      refine X.iload (pc' := 78) d16_76 rfl rfl ?_
      refine X.iconst (pc' := 79) (1 : Int32) d16_78 rfl rfl ?_
      refine X.isub (pc' := 80) d16_79 rfl ?_
      rw [show (((6 : Int32) - (1 : Int32)) : Int32) = (5 : Int32) from by decide]
      refine X.istore (pc' := 82) #[.val (.ref s1), .val (.int (16 : Int32)), .val (.ref t1), .val (.int (7 : Int32)), .val (.int (9 : Int32)), .val (.int (6 : Int32)), .val (.int (13 : Int32)), .val (.int (6 : Int32)), .val (.int (((58 : Int32) &&& (255 : Int32)).toUInt32.toUInt16.toUInt32.toInt32)), .val (.int (12 : Int32)), .val (.int (6 : Int32)), .val (.int (5 : Int32))] d16_80 rfl rfl ?_
      exact HI8 hc HL
    · refine X.icN (pc' := 48) d16_45 ((feq (by rw [e58]; exact hc)).1) rfl ?_
      refine X.iinc (pc' := 51) #[.val (.ref s1), .val (.int (16 : Int32)), .val (.ref t1), .val (.int (7 : Int32)), .val (.int (9 : Int32)), .val (.int (6 : Int32)), .val (.int (12 : Int32)), .val (.int (6 : Int32)), .val (.int (((58 : Int32) &&& (255 : Int32)).toUInt32.toUInt16.toUInt32.toInt32)), .val (.int x9), .val (.int x10), .val (.int x11)] d16_48 rfl rfl rfl ?_
      refine X.goto (pc' := 28) d16_51 (by decide) (by decide) ?_
      exact HB7 x9 x10 x11 (HL.down (k := 7) (fun q => hc (q.2 6 (by decide))))
  have HA8 : Last (MarkN ds 16) 8 R → Y.Ends pg ev below (GN Z [] (RP s.heap (fun w => ∃ Q : Int32, w = .int Q ∧ Last (MarkN ds 16) 10 Q)) ({ frames := 0, cells := 0, slots := 0, locals := 0 } : Room) s) (T.setTop (mkF m 28 #[.val (.ref s1), .val (.int (16 : Int32)), .val (.ref t1), .val (.int (7 : Int32)), .val (.int (9 : Int32)), .val (.int (6 : Int32)), .val (.int (13 : Int32)), .val (.int (6 : Int32)), .val (.int (((58 : Int32) &&& (255 : Int32)).toUInt32.toUInt16.toUInt32.toInt32)), .unset, .unset, .unset] [])) := by
    intro HL
    refine X.iload (pc' := 30) d16_28 rfl rfl ?_
    refine X.iload (pc' := 32) d16_30 rfl rfl ?_
    refine X.icN (pc' := 35) d16_32 (by decide) rfl ?_
    refine X.aloadN (pc' := 36) d16_35 rfl rfl rfl ?_
    refine X.iload (pc' := 38) d16_36 rfl rfl ?_
    refine X.baload (pc' := 39) V_s ⟨by decide, by decide⟩ (v := ((ds.getD 13 0).toInt8.toInt32)) (at_map (i := 13) (by omega)) d16_38 rfl ?_
    refine X.sipush (pc' := 42) (255 : Int32) d16_39 rfl rfl ?_
    refine X.iand (pc' := 43) d16_42 rfl ?_
    rw [byte_in (lat_at hlat 13)]
    refine X.iload (pc' := 45) d16_43 rfl rfl ?_
    by_cases hc : ds.getD 13 0 = 58
    · refine X.icY (pc' := 54) d16_45 ((teq (by rw [e58]; exact hc)).1) (by decide) (by decide) ?_
      refine X.iload (pc' := 56) d16_54 rfl rfl ?_
      refine X.iload (pc' := 58) d16_56 rfl rfl ?_
      refine X.icY (pc' := 63) d16_58 (by decide) (by decide) (by decide) ?_
      refine X.iload (pc' := 65) d16_63 rfl rfl ?_
      refine X.iconst (pc' := 66) (1 : Int32) d16_65 rfl rfl ?_
      refine X.isub (pc' := 67) d16_66 rfl ?_
      rw [show (((13 : Int32) - (1 : Int32)) : Int32) = (12 : Int32) from by decide]
      refine X.istore (pc' := 69) #[.val (.ref s1), .val (.int (16 : Int32)), .val (.ref t1), .val (.int (7 : Int32)), .val (.int (9 : Int32)), .val (.int (6 : Int32)), .val (.int (13 : Int32)), .val (.int (6 : Int32)), .val (.int (((58 : Int32) &&& (255 : Int32)).toUInt32.toUInt16.toUInt32.toInt32)), .val (.int (12 : Int32)), .unset, .unset] d16_67 rfl rfl ?_
      refine X.iload (pc' := 71) d16_69 rfl rfl ?_
      refine X.iload (pc' := 73) d16_71 rfl rfl ?_
      refine X.isub (pc' := 74) d16_73 rfl ?_
      rw [show (((12 : Int32) - (6 : Int32)) : Int32) = (6 : Int32) from by decide]
      refine X.istore (pc' := 76) #[.val (.ref s1), .val (.int (16 : Int32)), .val (.ref t1), .val (.int (7 : Int32)), .val (.int (9 : Int32)), .val (.int (6 : Int32)), .val (.int (13 : Int32)), .val (.int (6 : Int32)), .val (.int (((58 : Int32) &&& (255 : Int32)).toUInt32.toUInt16.toUInt32.toInt32)), .val (.int (12 : Int32)), .val (.int (6 : Int32)), .unset] d16_74 rfl rfl ?_
      refine X.iload (pc' := 78) d16_76 rfl rfl ?_
      refine X.iconst (pc' := 79) (1 : Int32) d16_78 rfl rfl ?_
      refine X.isub (pc' := 80) d16_79 rfl ?_
      rw [show (((6 : Int32) - (1 : Int32)) : Int32) = (5 : Int32) from by decide]
      refine X.istore (pc' := 82) #[.val (.ref s1), .val (.int (16 : Int32)), .val (.ref t1), .val (.int (7 : Int32)), .val (.int (9 : Int32)), .val (.int (6 : Int32)), .val (.int (13 : Int32)), .val (.int (6 : Int32)), .val (.int (((58 : Int32) &&& (255 : Int32)).toUInt32.toUInt16.toUInt32.toInt32)), .val (.int (12 : Int32)), .val (.int (6 : Int32)), .val (.int (5 : Int32))] d16_80 rfl rfl ?_
      exact HI8 hc HL
    · refine X.icN (pc' := 48) d16_45 ((feq (by rw [e58]; exact hc)).1) rfl ?_
      refine X.iinc (pc' := 51) #[.val (.ref s1), .val (.int (16 : Int32)), .val (.ref t1), .val (.int (7 : Int32)), .val (.int (9 : Int32)), .val (.int (6 : Int32)), .val (.int (12 : Int32)), .val (.int (6 : Int32)), .val (.int (((58 : Int32) &&& (255 : Int32)).toUInt32.toUInt16.toUInt32.toInt32)), .unset, .unset, .unset] d16_48 rfl rfl rfl ?_
      refine X.goto (pc' := 28) d16_51 (by decide) (by decide) ?_
      exact HA7  (HL.down (k := 7) (fun q => hc (q.2 6 (by decide))))
  have HI9 : ds.getD 14 0 = 58 → Last (MarkN ds 16) 9 R → Y.Ends pg ev below (GN Z [] (RP s.heap (fun w => ∃ Q : Int32, w = .int Q ∧ Last (MarkN ds 16) 10 Q)) ({ frames := 0, cells := 0, slots := 0, locals := 0 } : Room) s) (T.setTop (mkF m 82 #[.val (.ref s1), .val (.int (16 : Int32)), .val (.ref t1), .val (.int (7 : Int32)), .val (.int (9 : Int32)), .val (.int (6 : Int32)), .val (.int (14 : Int32)), .val (.int (6 : Int32)), .val (.int (((58 : Int32) &&& (255 : Int32)).toUInt32.toUInt16.toUInt32.toInt32)), .val (.int (13 : Int32)), .val (.int (7 : Int32)), .val (.int (5 : Int32))] [])) := by
    intro hc HL
    refine X.iload (pc' := 84) d16_82 rfl rfl ?_
    refine X.iload (pc' := 86) d16_84 rfl rfl ?_
    refine X.icN (pc' := 89) d16_86 (by decide) rfl ?_
    refine X.aloadN (pc' := 90) d16_89 rfl rfl rfl ?_
    refine X.iload (pc' := 92) d16_90 rfl rfl ?_
    refine X.iinc (pc' := 95) #[.val (.ref s1), .val (.int (16 : Int32)), .val (.ref t1), .val (.int (7 : Int32)), .val (.int (9 : Int32)), .val (.int (6 : Int32)), .val (.int (14 : Int32)), .val (.int (6 : Int32)), .val (.int (((58 : Int32) &&& (255 : Int32)).toUInt32.toUInt16.toUInt32.toInt32)), .val (.int (12 : Int32)), .val (.int (7 : Int32)), .val (.int (5 : Int32))] d16_92 rfl rfl rfl ?_
    refine X.baload (pc' := 96) V_s ⟨by decide, by decide⟩ (v := ((ds.getD 13 0).toInt8.toInt32)) (at_map (i := 13) (by omega)) d16_95 rfl ?_
    refine X.sipush (pc' := 99) (255 : Int32) d16_96 rfl rfl ?_
    refine X.iand (pc' := 100) d16_99 rfl ?_
    rw [byte_in (lat_at hlat 13)]
    refine X.aloadN (pc' := 101) d16_100 rfl rfl rfl ?_
    refine X.iload (pc' := 103) d16_101 rfl rfl ?_
    refine X.iinc (pc' := 106) #[.val (.ref s1), .val (.int (16 : Int32)), .val (.ref t1), .val (.int (7 : Int32)), .val (.int (9 : Int32)), .val (.int (6 : Int32)), .val (.int (14 : Int32)), .val (.int (6 : Int32)), .val (.int (((58 : Int32) &&& (255 : Int32)).toUInt32.toUInt16.toUInt32.toInt32)), .val (.int (12 : Int32)), .val (.int (7 : Int32)), .val (.int (4 : Int32))] d16_103 rfl rfl rfl ?_
    refine X.baload (pc' := 107) V_t ⟨by decide, by decide⟩ (v := (110 : Int32)) rfl d16_106 rfl ?_
    refine X.sipush (pc' := 110) (255 : Int32) d16_107 rfl rfl ?_
    refine X.iand (pc' := 111) d16_110 rfl ?_
    rw [show (((110 : Int32) &&& (255 : Int32)) : Int32) = (110 : Int32) from by decide]
    by_cases g5 : ds.getD 13 0 = 110
    · refine X.icY (pc' := 82) d16_111 ((teq g5).1) (by decide) (by decide) ?_
      refine X.iload (pc' := 84) d16_82 rfl rfl ?_
      refine X.iload (pc' := 86) d16_84 rfl rfl ?_
      refine X.icN (pc' := 89) d16_86 (by decide) rfl ?_
      refine X.aloadN (pc' := 90) d16_89 rfl rfl rfl ?_
      refine X.iload (pc' := 92) d16_90 rfl rfl ?_
      refine X.iinc (pc' := 95) #[.val (.ref s1), .val (.int (16 : Int32)), .val (.ref t1), .val (.int (7 : Int32)), .val (.int (9 : Int32)), .val (.int (6 : Int32)), .val (.int (14 : Int32)), .val (.int (6 : Int32)), .val (.int (((58 : Int32) &&& (255 : Int32)).toUInt32.toUInt16.toUInt32.toInt32)), .val (.int (11 : Int32)), .val (.int (7 : Int32)), .val (.int (4 : Int32))] d16_92 rfl rfl rfl ?_
      refine X.baload (pc' := 96) V_s ⟨by decide, by decide⟩ (v := ((ds.getD 12 0).toInt8.toInt32)) (at_map (i := 12) (by omega)) d16_95 rfl ?_
      refine X.sipush (pc' := 99) (255 : Int32) d16_96 rfl rfl ?_
      refine X.iand (pc' := 100) d16_99 rfl ?_
      rw [byte_in (lat_at hlat 12)]
      refine X.aloadN (pc' := 101) d16_100 rfl rfl rfl ?_
      refine X.iload (pc' := 103) d16_101 rfl rfl ?_
      refine X.iinc (pc' := 106) #[.val (.ref s1), .val (.int (16 : Int32)), .val (.ref t1), .val (.int (7 : Int32)), .val (.int (9 : Int32)), .val (.int (6 : Int32)), .val (.int (14 : Int32)), .val (.int (6 : Int32)), .val (.int (((58 : Int32) &&& (255 : Int32)).toUInt32.toUInt16.toUInt32.toInt32)), .val (.int (11 : Int32)), .val (.int (7 : Int32)), .val (.int (3 : Int32))] d16_103 rfl rfl rfl ?_
      refine X.baload (pc' := 107) V_t ⟨by decide, by decide⟩ (v := (101 : Int32)) rfl d16_106 rfl ?_
      refine X.sipush (pc' := 110) (255 : Int32) d16_107 rfl rfl ?_
      refine X.iand (pc' := 111) d16_110 rfl ?_
      rw [show (((101 : Int32) &&& (255 : Int32)) : Int32) = (101 : Int32) from by decide]
      by_cases g4 : ds.getD 12 0 = 101
      · refine X.icY (pc' := 82) d16_111 ((teq g4).1) (by decide) (by decide) ?_
        refine X.iload (pc' := 84) d16_82 rfl rfl ?_
        refine X.iload (pc' := 86) d16_84 rfl rfl ?_
        refine X.icN (pc' := 89) d16_86 (by decide) rfl ?_
        refine X.aloadN (pc' := 90) d16_89 rfl rfl rfl ?_
        refine X.iload (pc' := 92) d16_90 rfl rfl ?_
        refine X.iinc (pc' := 95) #[.val (.ref s1), .val (.int (16 : Int32)), .val (.ref t1), .val (.int (7 : Int32)), .val (.int (9 : Int32)), .val (.int (6 : Int32)), .val (.int (14 : Int32)), .val (.int (6 : Int32)), .val (.int (((58 : Int32) &&& (255 : Int32)).toUInt32.toUInt16.toUInt32.toInt32)), .val (.int (10 : Int32)), .val (.int (7 : Int32)), .val (.int (3 : Int32))] d16_92 rfl rfl rfl ?_
        refine X.baload (pc' := 96) V_s ⟨by decide, by decide⟩ (v := ((ds.getD 11 0).toInt8.toInt32)) (at_map (i := 11) (by omega)) d16_95 rfl ?_
        refine X.sipush (pc' := 99) (255 : Int32) d16_96 rfl rfl ?_
        refine X.iand (pc' := 100) d16_99 rfl ?_
        rw [byte_in (lat_at hlat 11)]
        refine X.aloadN (pc' := 101) d16_100 rfl rfl rfl ?_
        refine X.iload (pc' := 103) d16_101 rfl rfl ?_
        refine X.iinc (pc' := 106) #[.val (.ref s1), .val (.int (16 : Int32)), .val (.ref t1), .val (.int (7 : Int32)), .val (.int (9 : Int32)), .val (.int (6 : Int32)), .val (.int (14 : Int32)), .val (.int (6 : Int32)), .val (.int (((58 : Int32) &&& (255 : Int32)).toUInt32.toUInt16.toUInt32.toInt32)), .val (.int (10 : Int32)), .val (.int (7 : Int32)), .val (.int (2 : Int32))] d16_103 rfl rfl rfl ?_
        refine X.baload (pc' := 107) V_t ⟨by decide, by decide⟩ (v := (107 : Int32)) rfl d16_106 rfl ?_
        refine X.sipush (pc' := 110) (255 : Int32) d16_107 rfl rfl ?_
        refine X.iand (pc' := 111) d16_110 rfl ?_
        rw [show (((107 : Int32) &&& (255 : Int32)) : Int32) = (107 : Int32) from by decide]
        by_cases g3 : ds.getD 11 0 = 107
        · refine X.icY (pc' := 82) d16_111 ((teq g3).1) (by decide) (by decide) ?_
          refine X.iload (pc' := 84) d16_82 rfl rfl ?_
          refine X.iload (pc' := 86) d16_84 rfl rfl ?_
          refine X.icN (pc' := 89) d16_86 (by decide) rfl ?_
          refine X.aloadN (pc' := 90) d16_89 rfl rfl rfl ?_
          refine X.iload (pc' := 92) d16_90 rfl rfl ?_
          refine X.iinc (pc' := 95) #[.val (.ref s1), .val (.int (16 : Int32)), .val (.ref t1), .val (.int (7 : Int32)), .val (.int (9 : Int32)), .val (.int (6 : Int32)), .val (.int (14 : Int32)), .val (.int (6 : Int32)), .val (.int (((58 : Int32) &&& (255 : Int32)).toUInt32.toUInt16.toUInt32.toInt32)), .val (.int (9 : Int32)), .val (.int (7 : Int32)), .val (.int (2 : Int32))] d16_92 rfl rfl rfl ?_
          refine X.baload (pc' := 96) V_s ⟨by decide, by decide⟩ (v := ((ds.getD 10 0).toInt8.toInt32)) (at_map (i := 10) (by omega)) d16_95 rfl ?_
          refine X.sipush (pc' := 99) (255 : Int32) d16_96 rfl rfl ?_
          refine X.iand (pc' := 100) d16_99 rfl ?_
          rw [byte_in (lat_at hlat 10)]
          refine X.aloadN (pc' := 101) d16_100 rfl rfl rfl ?_
          refine X.iload (pc' := 103) d16_101 rfl rfl ?_
          refine X.iinc (pc' := 106) #[.val (.ref s1), .val (.int (16 : Int32)), .val (.ref t1), .val (.int (7 : Int32)), .val (.int (9 : Int32)), .val (.int (6 : Int32)), .val (.int (14 : Int32)), .val (.int (6 : Int32)), .val (.int (((58 : Int32) &&& (255 : Int32)).toUInt32.toUInt16.toUInt32.toInt32)), .val (.int (9 : Int32)), .val (.int (7 : Int32)), .val (.int (1 : Int32))] d16_103 rfl rfl rfl ?_
          refine X.baload (pc' := 107) V_t ⟨by decide, by decide⟩ (v := (111 : Int32)) rfl d16_106 rfl ?_
          refine X.sipush (pc' := 110) (255 : Int32) d16_107 rfl rfl ?_
          refine X.iand (pc' := 111) d16_110 rfl ?_
          rw [show (((111 : Int32) &&& (255 : Int32)) : Int32) = (111 : Int32) from by decide]
          by_cases g2 : ds.getD 10 0 = 111
          · refine X.icY (pc' := 82) d16_111 ((teq g2).1) (by decide) (by decide) ?_
            refine X.iload (pc' := 84) d16_82 rfl rfl ?_
            refine X.iload (pc' := 86) d16_84 rfl rfl ?_
            refine X.icN (pc' := 89) d16_86 (by decide) rfl ?_
            refine X.aloadN (pc' := 90) d16_89 rfl rfl rfl ?_
            refine X.iload (pc' := 92) d16_90 rfl rfl ?_
            refine X.iinc (pc' := 95) #[.val (.ref s1), .val (.int (16 : Int32)), .val (.ref t1), .val (.int (7 : Int32)), .val (.int (9 : Int32)), .val (.int (6 : Int32)), .val (.int (14 : Int32)), .val (.int (6 : Int32)), .val (.int (((58 : Int32) &&& (255 : Int32)).toUInt32.toUInt16.toUInt32.toInt32)), .val (.int (8 : Int32)), .val (.int (7 : Int32)), .val (.int (1 : Int32))] d16_92 rfl rfl rfl ?_
            refine X.baload (pc' := 96) V_s ⟨by decide, by decide⟩ (v := ((ds.getD 9 0).toInt8.toInt32)) (at_map (i := 9) (by omega)) d16_95 rfl ?_
            refine X.sipush (pc' := 99) (255 : Int32) d16_96 rfl rfl ?_
            refine X.iand (pc' := 100) d16_99 rfl ?_
            rw [byte_in (lat_at hlat 9)]
            refine X.aloadN (pc' := 101) d16_100 rfl rfl rfl ?_
            refine X.iload (pc' := 103) d16_101 rfl rfl ?_
            refine X.iinc (pc' := 106) #[.val (.ref s1), .val (.int (16 : Int32)), .val (.ref t1), .val (.int (7 : Int32)), .val (.int (9 : Int32)), .val (.int (6 : Int32)), .val (.int (14 : Int32)), .val (.int (6 : Int32)), .val (.int (((58 : Int32) &&& (255 : Int32)).toUInt32.toUInt16.toUInt32.toInt32)), .val (.int (8 : Int32)), .val (.int (7 : Int32)), .val (.int (0 : Int32))] d16_103 rfl rfl rfl ?_
            refine X.baload (pc' := 107) V_t ⟨by decide, by decide⟩ (v := (119 : Int32)) rfl d16_106 rfl ?_
            refine X.sipush (pc' := 110) (255 : Int32) d16_107 rfl rfl ?_
            refine X.iand (pc' := 111) d16_110 rfl ?_
            rw [show (((119 : Int32) &&& (255 : Int32)) : Int32) = (119 : Int32) from by decide]
            by_cases g1 : ds.getD 9 0 = 119
            · refine X.icY (pc' := 82) d16_111 ((teq g1).1) (by decide) (by decide) ?_
              refine X.iload (pc' := 84) d16_82 rfl rfl ?_
              refine X.iload (pc' := 86) d16_84 rfl rfl ?_
              refine X.icN (pc' := 89) d16_86 (by decide) rfl ?_
              refine X.aloadN (pc' := 90) d16_89 rfl rfl rfl ?_
              refine X.iload (pc' := 92) d16_90 rfl rfl ?_
              refine X.iinc (pc' := 95) #[.val (.ref s1), .val (.int (16 : Int32)), .val (.ref t1), .val (.int (7 : Int32)), .val (.int (9 : Int32)), .val (.int (6 : Int32)), .val (.int (14 : Int32)), .val (.int (6 : Int32)), .val (.int (((58 : Int32) &&& (255 : Int32)).toUInt32.toUInt16.toUInt32.toInt32)), .val (.int (7 : Int32)), .val (.int (7 : Int32)), .val (.int (0 : Int32))] d16_92 rfl rfl rfl ?_
              refine X.baload (pc' := 96) V_s ⟨by decide, by decide⟩ (v := ((ds.getD 8 0).toInt8.toInt32)) (at_map (i := 8) (by omega)) d16_95 rfl ?_
              refine X.sipush (pc' := 99) (255 : Int32) d16_96 rfl rfl ?_
              refine X.iand (pc' := 100) d16_99 rfl ?_
              rw [byte_in (lat_at hlat 8)]
              refine X.aloadN (pc' := 101) d16_100 rfl rfl rfl ?_
              refine X.iload (pc' := 103) d16_101 rfl rfl ?_
              refine X.iinc (pc' := 106) #[.val (.ref s1), .val (.int (16 : Int32)), .val (.ref t1), .val (.int (7 : Int32)), .val (.int (9 : Int32)), .val (.int (6 : Int32)), .val (.int (14 : Int32)), .val (.int (6 : Int32)), .val (.int (((58 : Int32) &&& (255 : Int32)).toUInt32.toUInt16.toUInt32.toInt32)), .val (.int (7 : Int32)), .val (.int (7 : Int32)), .val (.int (-1 : Int32))] d16_103 rfl rfl rfl ?_
              refine X.baload (pc' := 107) V_t ⟨by decide, by decide⟩ (v := (32 : Int32)) rfl d16_106 rfl ?_
              refine X.sipush (pc' := 110) (255 : Int32) d16_107 rfl rfl ?_
              refine X.iand (pc' := 111) d16_110 rfl ?_
              rw [show (((32 : Int32) &&& (255 : Int32)) : Int32) = (32 : Int32) from by decide]
              by_cases g0 : ds.getD 8 0 = 32
              · refine X.icY (pc' := 82) d16_111 ((teq g0).1) (by decide) (by decide) ?_
                refine X.iload (pc' := 84) d16_82 rfl rfl ?_
                refine X.iload (pc' := 86) d16_84 rfl rfl ?_
                refine X.icY (pc' := 120) d16_86 (by decide) (by decide) (by decide) ?_
                refine X.iload (pc' := 122) d16_120 rfl rfl ?_
                refine X.iconst (pc' := 123) (1 : Int32) d16_122 rfl rfl ?_
                refine X.iadd (pc' := 124) d16_123 rfl ?_
                rw [show (((7 : Int32) + (1 : Int32)) : Int32) = (Int32.ofNat 8) from by decide]
                obtain rfl := HL.top (k := 8) (mk_of (by decide) g0 g1 g2 g3 g4 g5 hc)
                exact X.retIN (by simp) rfl d16_124 (by decide) (by decide) ⟨_, rfl, rfl, _, rfl, HL0⟩
              · refine X.icN (pc' := 114) d16_111 ((feq g0).1) rfl ?_
                refine X.iinc (pc' := 117) #[.val (.ref s1), .val (.int (16 : Int32)), .val (.ref t1), .val (.int (7 : Int32)), .val (.int (9 : Int32)), .val (.int (6 : Int32)), .val (.int (13 : Int32)), .val (.int (6 : Int32)), .val (.int (((58 : Int32) &&& (255 : Int32)).toUInt32.toUInt16.toUInt32.toInt32)), .val (.int (7 : Int32)), .val (.int (7 : Int32)), .val (.int (-1 : Int32))] d16_114 rfl rfl rfl ?_
                refine X.goto (pc' := 28) d16_117 (by decide) (by decide) ?_
                exact HB8 (7 : Int32) (7 : Int32) (-1 : Int32) (HL.down (k := 8) (fun q => g0 (q.2 0 (by decide))))
            · refine X.icN (pc' := 114) d16_111 ((feq g1).1) rfl ?_
              refine X.iinc (pc' := 117) #[.val (.ref s1), .val (.int (16 : Int32)), .val (.ref t1), .val (.int (7 : Int32)), .val (.int (9 : Int32)), .val (.int (6 : Int32)), .val (.int (13 : Int32)), .val (.int (6 : Int32)), .val (.int (((58 : Int32) &&& (255 : Int32)).toUInt32.toUInt16.toUInt32.toInt32)), .val (.int (8 : Int32)), .val (.int (7 : Int32)), .val (.int (0 : Int32))] d16_114 rfl rfl rfl ?_
              refine X.goto (pc' := 28) d16_117 (by decide) (by decide) ?_
              exact HB8 (8 : Int32) (7 : Int32) (0 : Int32) (HL.down (k := 8) (fun q => g1 (q.2 1 (by decide))))
          · refine X.icN (pc' := 114) d16_111 ((feq g2).1) rfl ?_
            refine X.iinc (pc' := 117) #[.val (.ref s1), .val (.int (16 : Int32)), .val (.ref t1), .val (.int (7 : Int32)), .val (.int (9 : Int32)), .val (.int (6 : Int32)), .val (.int (13 : Int32)), .val (.int (6 : Int32)), .val (.int (((58 : Int32) &&& (255 : Int32)).toUInt32.toUInt16.toUInt32.toInt32)), .val (.int (9 : Int32)), .val (.int (7 : Int32)), .val (.int (1 : Int32))] d16_114 rfl rfl rfl ?_
            refine X.goto (pc' := 28) d16_117 (by decide) (by decide) ?_
            exact HB8 (9 : Int32) (7 : Int32) (1 : Int32) (HL.down (k := 8) (fun q => g2 (q.2 2 (by decide))))
        · refine X.icN (pc' := 114) d16_111 ((feq g3).1) rfl ?_
          refine X.iinc (pc' := 117) #[.val (.ref s1), .val (.int (16 : Int32)), .val (.ref t1), .val (.int (7 : Int32)), .val (.int (9 : Int32)), .val (.int (6 : Int32)), .val (.int (13 : Int32)), .val (.int (6 : Int32)), .val (.int (((58 : Int32) &&& (255 : Int32)).toUInt32.toUInt16.toUInt32.toInt32)), .val (.int (10 : Int32)), .val (.int (7 : Int32)), .val (.int (2 : Int32))] d16_114 rfl rfl rfl ?_
          refine X.goto (pc' := 28) d16_117 (by decide) (by decide) ?_
          exact HB8 (10 : Int32) (7 : Int32) (2 : Int32) (HL.down (k := 8) (fun q => g3 (q.2 3 (by decide))))
      · refine X.icN (pc' := 114) d16_111 ((feq g4).1) rfl ?_
        refine X.iinc (pc' := 117) #[.val (.ref s1), .val (.int (16 : Int32)), .val (.ref t1), .val (.int (7 : Int32)), .val (.int (9 : Int32)), .val (.int (6 : Int32)), .val (.int (13 : Int32)), .val (.int (6 : Int32)), .val (.int (((58 : Int32) &&& (255 : Int32)).toUInt32.toUInt16.toUInt32.toInt32)), .val (.int (11 : Int32)), .val (.int (7 : Int32)), .val (.int (3 : Int32))] d16_114 rfl rfl rfl ?_
        refine X.goto (pc' := 28) d16_117 (by decide) (by decide) ?_
        exact HB8 (11 : Int32) (7 : Int32) (3 : Int32) (HL.down (k := 8) (fun q => g4 (q.2 4 (by decide))))
    · refine X.icN (pc' := 114) d16_111 ((feq g5).1) rfl ?_
      refine X.iinc (pc' := 117) #[.val (.ref s1), .val (.int (16 : Int32)), .val (.ref t1), .val (.int (7 : Int32)), .val (.int (9 : Int32)), .val (.int (6 : Int32)), .val (.int (13 : Int32)), .val (.int (6 : Int32)), .val (.int (((58 : Int32) &&& (255 : Int32)).toUInt32.toUInt16.toUInt32.toInt32)), .val (.int (12 : Int32)), .val (.int (7 : Int32)), .val (.int (4 : Int32))] d16_114 rfl rfl rfl ?_
      refine X.goto (pc' := 28) d16_117 (by decide) (by decide) ?_
      exact HB8 (12 : Int32) (7 : Int32) (4 : Int32) (HL.down (k := 8) (fun q => g5 (q.2 5 (by decide))))
  have HB9 : ∀ x9 x10 x11 : Int32, Last (MarkN ds 16) 9 R → Y.Ends pg ev below (GN Z [] (RP s.heap (fun w => ∃ Q : Int32, w = .int Q ∧ Last (MarkN ds 16) 10 Q)) ({ frames := 0, cells := 0, slots := 0, locals := 0 } : Room) s) (T.setTop (mkF m 28 #[.val (.ref s1), .val (.int (16 : Int32)), .val (.ref t1), .val (.int (7 : Int32)), .val (.int (9 : Int32)), .val (.int (6 : Int32)), .val (.int (14 : Int32)), .val (.int (6 : Int32)), .val (.int (((58 : Int32) &&& (255 : Int32)).toUInt32.toUInt16.toUInt32.toInt32)), .val (.int x9), .val (.int x10), .val (.int x11)] [])) := by
    intro x9 x10 x11 HL
    refine X.iload (pc' := 30) d16_28 rfl rfl ?_
    refine X.iload (pc' := 32) d16_30 rfl rfl ?_
    refine X.icN (pc' := 35) d16_32 (by decide) rfl ?_
    refine X.aloadN (pc' := 36) d16_35 rfl rfl rfl ?_
    refine X.iload (pc' := 38) d16_36 rfl rfl ?_
    refine X.baload (pc' := 39) V_s ⟨by decide, by decide⟩ (v := ((ds.getD 14 0).toInt8.toInt32)) (at_map (i := 14) (by omega)) d16_38 rfl ?_
    refine X.sipush (pc' := 42) (255 : Int32) d16_39 rfl rfl ?_
    refine X.iand (pc' := 43) d16_42 rfl ?_
    rw [byte_in (lat_at hlat 14)]
    refine X.iload (pc' := 45) d16_43 rfl rfl ?_
    by_cases hc : ds.getD 14 0 = 58
    · refine X.icY (pc' := 54) d16_45 ((teq (by rw [e58]; exact hc)).1) (by decide) (by decide) ?_
      refine X.iload (pc' := 56) d16_54 rfl rfl ?_
      refine X.iload (pc' := 58) d16_56 rfl rfl ?_
      refine X.icY (pc' := 63) d16_58 (by decide) (by decide) (by decide) ?_
      refine X.iload (pc' := 65) d16_63 rfl rfl ?_
      refine X.iconst (pc' := 66) (1 : Int32) d16_65 rfl rfl ?_
      refine X.isub (pc' := 67) d16_66 rfl ?_
      rw [show (((14 : Int32) - (1 : Int32)) : Int32) = (13 : Int32) from by decide]
      refine X.istore (pc' := 69) #[.val (.ref s1), .val (.int (16 : Int32)), .val (.ref t1), .val (.int (7 : Int32)), .val (.int (9 : Int32)), .val (.int (6 : Int32)), .val (.int (14 : Int32)), .val (.int (6 : Int32)), .val (.int (((58 : Int32) &&& (255 : Int32)).toUInt32.toUInt16.toUInt32.toInt32)), .val (.int (13 : Int32)), .val (.int x10), .val (.int x11)] d16_67 rfl rfl ?_
      refine X.iload (pc' := 71) d16_69 rfl rfl ?_
      refine X.iload (pc' := 73) d16_71 rfl rfl ?_
      refine X.isub (pc' := 74) d16_73 rfl ?_
      rw [show (((13 : Int32) - (6 : Int32)) : Int32) = (7 : Int32) from by decide]
      refine X.istore (pc' := 76) #[.val (.ref s1), .val (.int (16 : Int32)), .val (.ref t1), .val (.int (7 : Int32)), .val (.int (9 : Int32)), .val (.int (6 : Int32)), .val (.int (14 : Int32)), .val (.int (6 : Int32)), .val (.int (((58 : Int32) &&& (255 : Int32)).toUInt32.toUInt16.toUInt32.toInt32)), .val (.int (13 : Int32)), .val (.int (7 : Int32)), .val (.int x11)] d16_74 rfl rfl ?_
      refine X.iload (pc' := 78) d16_76 rfl rfl ?_
      refine X.iconst (pc' := 79) (1 : Int32) d16_78 rfl rfl ?_
      refine X.isub (pc' := 80) d16_79 rfl ?_
      rw [show (((6 : Int32) - (1 : Int32)) : Int32) = (5 : Int32) from by decide]
      refine X.istore (pc' := 82) #[.val (.ref s1), .val (.int (16 : Int32)), .val (.ref t1), .val (.int (7 : Int32)), .val (.int (9 : Int32)), .val (.int (6 : Int32)), .val (.int (14 : Int32)), .val (.int (6 : Int32)), .val (.int (((58 : Int32) &&& (255 : Int32)).toUInt32.toUInt16.toUInt32.toInt32)), .val (.int (13 : Int32)), .val (.int (7 : Int32)), .val (.int (5 : Int32))] d16_80 rfl rfl ?_
      exact HI9 hc HL
    · refine X.icN (pc' := 48) d16_45 ((feq (by rw [e58]; exact hc)).1) rfl ?_
      refine X.iinc (pc' := 51) #[.val (.ref s1), .val (.int (16 : Int32)), .val (.ref t1), .val (.int (7 : Int32)), .val (.int (9 : Int32)), .val (.int (6 : Int32)), .val (.int (13 : Int32)), .val (.int (6 : Int32)), .val (.int (((58 : Int32) &&& (255 : Int32)).toUInt32.toUInt16.toUInt32.toInt32)), .val (.int x9), .val (.int x10), .val (.int x11)] d16_48 rfl rfl rfl ?_
      refine X.goto (pc' := 28) d16_51 (by decide) (by decide) ?_
      exact HB8 x9 x10 x11 (HL.down (k := 8) (fun q => hc (q.2 6 (by decide))))
  have HA9 : Last (MarkN ds 16) 9 R → Y.Ends pg ev below (GN Z [] (RP s.heap (fun w => ∃ Q : Int32, w = .int Q ∧ Last (MarkN ds 16) 10 Q)) ({ frames := 0, cells := 0, slots := 0, locals := 0 } : Room) s) (T.setTop (mkF m 28 #[.val (.ref s1), .val (.int (16 : Int32)), .val (.ref t1), .val (.int (7 : Int32)), .val (.int (9 : Int32)), .val (.int (6 : Int32)), .val (.int (14 : Int32)), .val (.int (6 : Int32)), .val (.int (((58 : Int32) &&& (255 : Int32)).toUInt32.toUInt16.toUInt32.toInt32)), .unset, .unset, .unset] [])) := by
    intro HL
    refine X.iload (pc' := 30) d16_28 rfl rfl ?_
    refine X.iload (pc' := 32) d16_30 rfl rfl ?_
    refine X.icN (pc' := 35) d16_32 (by decide) rfl ?_
    refine X.aloadN (pc' := 36) d16_35 rfl rfl rfl ?_
    refine X.iload (pc' := 38) d16_36 rfl rfl ?_
    refine X.baload (pc' := 39) V_s ⟨by decide, by decide⟩ (v := ((ds.getD 14 0).toInt8.toInt32)) (at_map (i := 14) (by omega)) d16_38 rfl ?_
    refine X.sipush (pc' := 42) (255 : Int32) d16_39 rfl rfl ?_
    refine X.iand (pc' := 43) d16_42 rfl ?_
    rw [byte_in (lat_at hlat 14)]
    refine X.iload (pc' := 45) d16_43 rfl rfl ?_
    by_cases hc : ds.getD 14 0 = 58
    · refine X.icY (pc' := 54) d16_45 ((teq (by rw [e58]; exact hc)).1) (by decide) (by decide) ?_
      refine X.iload (pc' := 56) d16_54 rfl rfl ?_
      refine X.iload (pc' := 58) d16_56 rfl rfl ?_
      refine X.icY (pc' := 63) d16_58 (by decide) (by decide) (by decide) ?_
      refine X.iload (pc' := 65) d16_63 rfl rfl ?_
      refine X.iconst (pc' := 66) (1 : Int32) d16_65 rfl rfl ?_
      refine X.isub (pc' := 67) d16_66 rfl ?_
      rw [show (((14 : Int32) - (1 : Int32)) : Int32) = (13 : Int32) from by decide]
      refine X.istore (pc' := 69) #[.val (.ref s1), .val (.int (16 : Int32)), .val (.ref t1), .val (.int (7 : Int32)), .val (.int (9 : Int32)), .val (.int (6 : Int32)), .val (.int (14 : Int32)), .val (.int (6 : Int32)), .val (.int (((58 : Int32) &&& (255 : Int32)).toUInt32.toUInt16.toUInt32.toInt32)), .val (.int (13 : Int32)), .unset, .unset] d16_67 rfl rfl ?_
      refine X.iload (pc' := 71) d16_69 rfl rfl ?_
      refine X.iload (pc' := 73) d16_71 rfl rfl ?_
      refine X.isub (pc' := 74) d16_73 rfl ?_
      rw [show (((13 : Int32) - (6 : Int32)) : Int32) = (7 : Int32) from by decide]
      refine X.istore (pc' := 76) #[.val (.ref s1), .val (.int (16 : Int32)), .val (.ref t1), .val (.int (7 : Int32)), .val (.int (9 : Int32)), .val (.int (6 : Int32)), .val (.int (14 : Int32)), .val (.int (6 : Int32)), .val (.int (((58 : Int32) &&& (255 : Int32)).toUInt32.toUInt16.toUInt32.toInt32)), .val (.int (13 : Int32)), .val (.int (7 : Int32)), .unset] d16_74 rfl rfl ?_
      refine X.iload (pc' := 78) d16_76 rfl rfl ?_
      refine X.iconst (pc' := 79) (1 : Int32) d16_78 rfl rfl ?_
      refine X.isub (pc' := 80) d16_79 rfl ?_
      rw [show (((6 : Int32) - (1 : Int32)) : Int32) = (5 : Int32) from by decide]
      refine X.istore (pc' := 82) #[.val (.ref s1), .val (.int (16 : Int32)), .val (.ref t1), .val (.int (7 : Int32)), .val (.int (9 : Int32)), .val (.int (6 : Int32)), .val (.int (14 : Int32)), .val (.int (6 : Int32)), .val (.int (((58 : Int32) &&& (255 : Int32)).toUInt32.toUInt16.toUInt32.toInt32)), .val (.int (13 : Int32)), .val (.int (7 : Int32)), .val (.int (5 : Int32))] d16_80 rfl rfl ?_
      exact HI9 hc HL
    · refine X.icN (pc' := 48) d16_45 ((feq (by rw [e58]; exact hc)).1) rfl ?_
      refine X.iinc (pc' := 51) #[.val (.ref s1), .val (.int (16 : Int32)), .val (.ref t1), .val (.int (7 : Int32)), .val (.int (9 : Int32)), .val (.int (6 : Int32)), .val (.int (13 : Int32)), .val (.int (6 : Int32)), .val (.int (((58 : Int32) &&& (255 : Int32)).toUInt32.toUInt16.toUInt32.toInt32)), .unset, .unset, .unset] d16_48 rfl rfl rfl ?_
      refine X.goto (pc' := 28) d16_51 (by decide) (by decide) ?_
      exact HA8  (HL.down (k := 8) (fun q => hc (q.2 6 (by decide))))
  have HI10 : ds.getD 15 0 = 58 → Last (MarkN ds 16) 10 R → Y.Ends pg ev below (GN Z [] (RP s.heap (fun w => ∃ Q : Int32, w = .int Q ∧ Last (MarkN ds 16) 10 Q)) ({ frames := 0, cells := 0, slots := 0, locals := 0 } : Room) s) (T.setTop (mkF m 82 #[.val (.ref s1), .val (.int (16 : Int32)), .val (.ref t1), .val (.int (7 : Int32)), .val (.int (9 : Int32)), .val (.int (6 : Int32)), .val (.int (15 : Int32)), .val (.int (6 : Int32)), .val (.int (((58 : Int32) &&& (255 : Int32)).toUInt32.toUInt16.toUInt32.toInt32)), .val (.int (14 : Int32)), .val (.int (8 : Int32)), .val (.int (5 : Int32))] [])) := by
    intro hc HL
    refine X.iload (pc' := 84) d16_82 rfl rfl ?_
    refine X.iload (pc' := 86) d16_84 rfl rfl ?_
    refine X.icN (pc' := 89) d16_86 (by decide) rfl ?_
    refine X.aloadN (pc' := 90) d16_89 rfl rfl rfl ?_
    refine X.iload (pc' := 92) d16_90 rfl rfl ?_
    refine X.iinc (pc' := 95) #[.val (.ref s1), .val (.int (16 : Int32)), .val (.ref t1), .val (.int (7 : Int32)), .val (.int (9 : Int32)), .val (.int (6 : Int32)), .val (.int (15 : Int32)), .val (.int (6 : Int32)), .val (.int (((58 : Int32) &&& (255 : Int32)).toUInt32.toUInt16.toUInt32.toInt32)), .val (.int (13 : Int32)), .val (.int (8 : Int32)), .val (.int (5 : Int32))] d16_92 rfl rfl rfl ?_
    refine X.baload (pc' := 96) V_s ⟨by decide, by decide⟩ (v := ((ds.getD 14 0).toInt8.toInt32)) (at_map (i := 14) (by omega)) d16_95 rfl ?_
    refine X.sipush (pc' := 99) (255 : Int32) d16_96 rfl rfl ?_
    refine X.iand (pc' := 100) d16_99 rfl ?_
    rw [byte_in (lat_at hlat 14)]
    refine X.aloadN (pc' := 101) d16_100 rfl rfl rfl ?_
    refine X.iload (pc' := 103) d16_101 rfl rfl ?_
    refine X.iinc (pc' := 106) #[.val (.ref s1), .val (.int (16 : Int32)), .val (.ref t1), .val (.int (7 : Int32)), .val (.int (9 : Int32)), .val (.int (6 : Int32)), .val (.int (15 : Int32)), .val (.int (6 : Int32)), .val (.int (((58 : Int32) &&& (255 : Int32)).toUInt32.toUInt16.toUInt32.toInt32)), .val (.int (13 : Int32)), .val (.int (8 : Int32)), .val (.int (4 : Int32))] d16_103 rfl rfl rfl ?_
    refine X.baload (pc' := 107) V_t ⟨by decide, by decide⟩ (v := (110 : Int32)) rfl d16_106 rfl ?_
    refine X.sipush (pc' := 110) (255 : Int32) d16_107 rfl rfl ?_
    refine X.iand (pc' := 111) d16_110 rfl ?_
    rw [show (((110 : Int32) &&& (255 : Int32)) : Int32) = (110 : Int32) from by decide]
    by_cases g5 : ds.getD 14 0 = 110
    · refine X.icY (pc' := 82) d16_111 ((teq g5).1) (by decide) (by decide) ?_
      refine X.iload (pc' := 84) d16_82 rfl rfl ?_
      refine X.iload (pc' := 86) d16_84 rfl rfl ?_
      refine X.icN (pc' := 89) d16_86 (by decide) rfl ?_
      refine X.aloadN (pc' := 90) d16_89 rfl rfl rfl ?_
      refine X.iload (pc' := 92) d16_90 rfl rfl ?_
      refine X.iinc (pc' := 95) #[.val (.ref s1), .val (.int (16 : Int32)), .val (.ref t1), .val (.int (7 : Int32)), .val (.int (9 : Int32)), .val (.int (6 : Int32)), .val (.int (15 : Int32)), .val (.int (6 : Int32)), .val (.int (((58 : Int32) &&& (255 : Int32)).toUInt32.toUInt16.toUInt32.toInt32)), .val (.int (12 : Int32)), .val (.int (8 : Int32)), .val (.int (4 : Int32))] d16_92 rfl rfl rfl ?_
      refine X.baload (pc' := 96) V_s ⟨by decide, by decide⟩ (v := ((ds.getD 13 0).toInt8.toInt32)) (at_map (i := 13) (by omega)) d16_95 rfl ?_
      refine X.sipush (pc' := 99) (255 : Int32) d16_96 rfl rfl ?_
      refine X.iand (pc' := 100) d16_99 rfl ?_
      rw [byte_in (lat_at hlat 13)]
      refine X.aloadN (pc' := 101) d16_100 rfl rfl rfl ?_
      refine X.iload (pc' := 103) d16_101 rfl rfl ?_
      refine X.iinc (pc' := 106) #[.val (.ref s1), .val (.int (16 : Int32)), .val (.ref t1), .val (.int (7 : Int32)), .val (.int (9 : Int32)), .val (.int (6 : Int32)), .val (.int (15 : Int32)), .val (.int (6 : Int32)), .val (.int (((58 : Int32) &&& (255 : Int32)).toUInt32.toUInt16.toUInt32.toInt32)), .val (.int (12 : Int32)), .val (.int (8 : Int32)), .val (.int (3 : Int32))] d16_103 rfl rfl rfl ?_
      refine X.baload (pc' := 107) V_t ⟨by decide, by decide⟩ (v := (101 : Int32)) rfl d16_106 rfl ?_
      refine X.sipush (pc' := 110) (255 : Int32) d16_107 rfl rfl ?_
      refine X.iand (pc' := 111) d16_110 rfl ?_
      rw [show (((101 : Int32) &&& (255 : Int32)) : Int32) = (101 : Int32) from by decide]
      by_cases g4 : ds.getD 13 0 = 101
      · refine X.icY (pc' := 82) d16_111 ((teq g4).1) (by decide) (by decide) ?_
        refine X.iload (pc' := 84) d16_82 rfl rfl ?_
        refine X.iload (pc' := 86) d16_84 rfl rfl ?_
        refine X.icN (pc' := 89) d16_86 (by decide) rfl ?_
        refine X.aloadN (pc' := 90) d16_89 rfl rfl rfl ?_
        refine X.iload (pc' := 92) d16_90 rfl rfl ?_
        refine X.iinc (pc' := 95) #[.val (.ref s1), .val (.int (16 : Int32)), .val (.ref t1), .val (.int (7 : Int32)), .val (.int (9 : Int32)), .val (.int (6 : Int32)), .val (.int (15 : Int32)), .val (.int (6 : Int32)), .val (.int (((58 : Int32) &&& (255 : Int32)).toUInt32.toUInt16.toUInt32.toInt32)), .val (.int (11 : Int32)), .val (.int (8 : Int32)), .val (.int (3 : Int32))] d16_92 rfl rfl rfl ?_
        refine X.baload (pc' := 96) V_s ⟨by decide, by decide⟩ (v := ((ds.getD 12 0).toInt8.toInt32)) (at_map (i := 12) (by omega)) d16_95 rfl ?_
        refine X.sipush (pc' := 99) (255 : Int32) d16_96 rfl rfl ?_
        refine X.iand (pc' := 100) d16_99 rfl ?_
        rw [byte_in (lat_at hlat 12)]
        refine X.aloadN (pc' := 101) d16_100 rfl rfl rfl ?_
        refine X.iload (pc' := 103) d16_101 rfl rfl ?_
        refine X.iinc (pc' := 106) #[.val (.ref s1), .val (.int (16 : Int32)), .val (.ref t1), .val (.int (7 : Int32)), .val (.int (9 : Int32)), .val (.int (6 : Int32)), .val (.int (15 : Int32)), .val (.int (6 : Int32)), .val (.int (((58 : Int32) &&& (255 : Int32)).toUInt32.toUInt16.toUInt32.toInt32)), .val (.int (11 : Int32)), .val (.int (8 : Int32)), .val (.int (2 : Int32))] d16_103 rfl rfl rfl ?_
        refine X.baload (pc' := 107) V_t ⟨by decide, by decide⟩ (v := (107 : Int32)) rfl d16_106 rfl ?_
        refine X.sipush (pc' := 110) (255 : Int32) d16_107 rfl rfl ?_
        refine X.iand (pc' := 111) d16_110 rfl ?_
        rw [show (((107 : Int32) &&& (255 : Int32)) : Int32) = (107 : Int32) from by decide]
        by_cases g3 : ds.getD 12 0 = 107
        · refine X.icY (pc' := 82) d16_111 ((teq g3).1) (by decide) (by decide) ?_
          refine X.iload (pc' := 84) d16_82 rfl rfl ?_
          refine X.iload (pc' := 86) d16_84 rfl rfl ?_
          refine X.icN (pc' := 89) d16_86 (by decide) rfl ?_
          refine X.aloadN (pc' := 90) d16_89 rfl rfl rfl ?_
          refine X.iload (pc' := 92) d16_90 rfl rfl ?_
          refine X.iinc (pc' := 95) #[.val (.ref s1), .val (.int (16 : Int32)), .val (.ref t1), .val (.int (7 : Int32)), .val (.int (9 : Int32)), .val (.int (6 : Int32)), .val (.int (15 : Int32)), .val (.int (6 : Int32)), .val (.int (((58 : Int32) &&& (255 : Int32)).toUInt32.toUInt16.toUInt32.toInt32)), .val (.int (10 : Int32)), .val (.int (8 : Int32)), .val (.int (2 : Int32))] d16_92 rfl rfl rfl ?_
          refine X.baload (pc' := 96) V_s ⟨by decide, by decide⟩ (v := ((ds.getD 11 0).toInt8.toInt32)) (at_map (i := 11) (by omega)) d16_95 rfl ?_
          refine X.sipush (pc' := 99) (255 : Int32) d16_96 rfl rfl ?_
          refine X.iand (pc' := 100) d16_99 rfl ?_
          rw [byte_in (lat_at hlat 11)]
          refine X.aloadN (pc' := 101) d16_100 rfl rfl rfl ?_
          refine X.iload (pc' := 103) d16_101 rfl rfl ?_
          refine X.iinc (pc' := 106) #[.val (.ref s1), .val (.int (16 : Int32)), .val (.ref t1), .val (.int (7 : Int32)), .val (.int (9 : Int32)), .val (.int (6 : Int32)), .val (.int (15 : Int32)), .val (.int (6 : Int32)), .val (.int (((58 : Int32) &&& (255 : Int32)).toUInt32.toUInt16.toUInt32.toInt32)), .val (.int (10 : Int32)), .val (.int (8 : Int32)), .val (.int (1 : Int32))] d16_103 rfl rfl rfl ?_
          refine X.baload (pc' := 107) V_t ⟨by decide, by decide⟩ (v := (111 : Int32)) rfl d16_106 rfl ?_
          refine X.sipush (pc' := 110) (255 : Int32) d16_107 rfl rfl ?_
          refine X.iand (pc' := 111) d16_110 rfl ?_
          rw [show (((111 : Int32) &&& (255 : Int32)) : Int32) = (111 : Int32) from by decide]
          by_cases g2 : ds.getD 11 0 = 111
          · refine X.icY (pc' := 82) d16_111 ((teq g2).1) (by decide) (by decide) ?_
            refine X.iload (pc' := 84) d16_82 rfl rfl ?_
            refine X.iload (pc' := 86) d16_84 rfl rfl ?_
            refine X.icN (pc' := 89) d16_86 (by decide) rfl ?_
            refine X.aloadN (pc' := 90) d16_89 rfl rfl rfl ?_
            refine X.iload (pc' := 92) d16_90 rfl rfl ?_
            refine X.iinc (pc' := 95) #[.val (.ref s1), .val (.int (16 : Int32)), .val (.ref t1), .val (.int (7 : Int32)), .val (.int (9 : Int32)), .val (.int (6 : Int32)), .val (.int (15 : Int32)), .val (.int (6 : Int32)), .val (.int (((58 : Int32) &&& (255 : Int32)).toUInt32.toUInt16.toUInt32.toInt32)), .val (.int (9 : Int32)), .val (.int (8 : Int32)), .val (.int (1 : Int32))] d16_92 rfl rfl rfl ?_
            refine X.baload (pc' := 96) V_s ⟨by decide, by decide⟩ (v := ((ds.getD 10 0).toInt8.toInt32)) (at_map (i := 10) (by omega)) d16_95 rfl ?_
            refine X.sipush (pc' := 99) (255 : Int32) d16_96 rfl rfl ?_
            refine X.iand (pc' := 100) d16_99 rfl ?_
            rw [byte_in (lat_at hlat 10)]
            refine X.aloadN (pc' := 101) d16_100 rfl rfl rfl ?_
            refine X.iload (pc' := 103) d16_101 rfl rfl ?_
            refine X.iinc (pc' := 106) #[.val (.ref s1), .val (.int (16 : Int32)), .val (.ref t1), .val (.int (7 : Int32)), .val (.int (9 : Int32)), .val (.int (6 : Int32)), .val (.int (15 : Int32)), .val (.int (6 : Int32)), .val (.int (((58 : Int32) &&& (255 : Int32)).toUInt32.toUInt16.toUInt32.toInt32)), .val (.int (9 : Int32)), .val (.int (8 : Int32)), .val (.int (0 : Int32))] d16_103 rfl rfl rfl ?_
            refine X.baload (pc' := 107) V_t ⟨by decide, by decide⟩ (v := (119 : Int32)) rfl d16_106 rfl ?_
            refine X.sipush (pc' := 110) (255 : Int32) d16_107 rfl rfl ?_
            refine X.iand (pc' := 111) d16_110 rfl ?_
            rw [show (((119 : Int32) &&& (255 : Int32)) : Int32) = (119 : Int32) from by decide]
            by_cases g1 : ds.getD 10 0 = 119
            · refine X.icY (pc' := 82) d16_111 ((teq g1).1) (by decide) (by decide) ?_
              refine X.iload (pc' := 84) d16_82 rfl rfl ?_
              refine X.iload (pc' := 86) d16_84 rfl rfl ?_
              refine X.icN (pc' := 89) d16_86 (by decide) rfl ?_
              refine X.aloadN (pc' := 90) d16_89 rfl rfl rfl ?_
              refine X.iload (pc' := 92) d16_90 rfl rfl ?_
              refine X.iinc (pc' := 95) #[.val (.ref s1), .val (.int (16 : Int32)), .val (.ref t1), .val (.int (7 : Int32)), .val (.int (9 : Int32)), .val (.int (6 : Int32)), .val (.int (15 : Int32)), .val (.int (6 : Int32)), .val (.int (((58 : Int32) &&& (255 : Int32)).toUInt32.toUInt16.toUInt32.toInt32)), .val (.int (8 : Int32)), .val (.int (8 : Int32)), .val (.int (0 : Int32))] d16_92 rfl rfl rfl ?_
              refine X.baload (pc' := 96) V_s ⟨by decide, by decide⟩ (v := ((ds.getD 9 0).toInt8.toInt32)) (at_map (i := 9) (by omega)) d16_95 rfl ?_
              refine X.sipush (pc' := 99) (255 : Int32) d16_96 rfl rfl ?_
              refine X.iand (pc' := 100) d16_99 rfl ?_
              rw [byte_in (lat_at hlat 9)]
              refine X.aloadN (pc' := 101) d16_100 rfl rfl rfl ?_
              refine X.iload (pc' := 103) d16_101 rfl rfl ?_
              refine X.iinc (pc' := 106) #[.val (.ref s1), .val (.int (16 : Int32)), .val (.ref t1), .val (.int (7 : Int32)), .val (.int (9 : Int32)), .val (.int (6 : Int32)), .val (.int (15 : Int32)), .val (.int (6 : Int32)), .val (.int (((58 : Int32) &&& (255 : Int32)).toUInt32.toUInt16.toUInt32.toInt32)), .val (.int (8 : Int32)), .val (.int (8 : Int32)), .val (.int (-1 : Int32))] d16_103 rfl rfl rfl ?_
              refine X.baload (pc' := 107) V_t ⟨by decide, by decide⟩ (v := (32 : Int32)) rfl d16_106 rfl ?_
              refine X.sipush (pc' := 110) (255 : Int32) d16_107 rfl rfl ?_
              refine X.iand (pc' := 111) d16_110 rfl ?_
              rw [show (((32 : Int32) &&& (255 : Int32)) : Int32) = (32 : Int32) from by decide]
              by_cases g0 : ds.getD 9 0 = 32
              · refine X.icY (pc' := 82) d16_111 ((teq g0).1) (by decide) (by decide) ?_
                refine X.iload (pc' := 84) d16_82 rfl rfl ?_
                refine X.iload (pc' := 86) d16_84 rfl rfl ?_
                refine X.icY (pc' := 120) d16_86 (by decide) (by decide) (by decide) ?_
                refine X.iload (pc' := 122) d16_120 rfl rfl ?_
                refine X.iconst (pc' := 123) (1 : Int32) d16_122 rfl rfl ?_
                refine X.iadd (pc' := 124) d16_123 rfl ?_
                rw [show (((8 : Int32) + (1 : Int32)) : Int32) = (Int32.ofNat 9) from by decide]
                obtain rfl := HL.top (k := 9) (mk_of (by decide) g0 g1 g2 g3 g4 g5 hc)
                exact X.retIN (by simp) rfl d16_124 (by decide) (by decide) ⟨_, rfl, rfl, _, rfl, HL0⟩
              · refine X.icN (pc' := 114) d16_111 ((feq g0).1) rfl ?_
                refine X.iinc (pc' := 117) #[.val (.ref s1), .val (.int (16 : Int32)), .val (.ref t1), .val (.int (7 : Int32)), .val (.int (9 : Int32)), .val (.int (6 : Int32)), .val (.int (14 : Int32)), .val (.int (6 : Int32)), .val (.int (((58 : Int32) &&& (255 : Int32)).toUInt32.toUInt16.toUInt32.toInt32)), .val (.int (8 : Int32)), .val (.int (8 : Int32)), .val (.int (-1 : Int32))] d16_114 rfl rfl rfl ?_
                refine X.goto (pc' := 28) d16_117 (by decide) (by decide) ?_
                exact HB9 (8 : Int32) (8 : Int32) (-1 : Int32) (HL.down (k := 9) (fun q => g0 (q.2 0 (by decide))))
            · refine X.icN (pc' := 114) d16_111 ((feq g1).1) rfl ?_
              refine X.iinc (pc' := 117) #[.val (.ref s1), .val (.int (16 : Int32)), .val (.ref t1), .val (.int (7 : Int32)), .val (.int (9 : Int32)), .val (.int (6 : Int32)), .val (.int (14 : Int32)), .val (.int (6 : Int32)), .val (.int (((58 : Int32) &&& (255 : Int32)).toUInt32.toUInt16.toUInt32.toInt32)), .val (.int (9 : Int32)), .val (.int (8 : Int32)), .val (.int (0 : Int32))] d16_114 rfl rfl rfl ?_
              refine X.goto (pc' := 28) d16_117 (by decide) (by decide) ?_
              exact HB9 (9 : Int32) (8 : Int32) (0 : Int32) (HL.down (k := 9) (fun q => g1 (q.2 1 (by decide))))
          · refine X.icN (pc' := 114) d16_111 ((feq g2).1) rfl ?_
            refine X.iinc (pc' := 117) #[.val (.ref s1), .val (.int (16 : Int32)), .val (.ref t1), .val (.int (7 : Int32)), .val (.int (9 : Int32)), .val (.int (6 : Int32)), .val (.int (14 : Int32)), .val (.int (6 : Int32)), .val (.int (((58 : Int32) &&& (255 : Int32)).toUInt32.toUInt16.toUInt32.toInt32)), .val (.int (10 : Int32)), .val (.int (8 : Int32)), .val (.int (1 : Int32))] d16_114 rfl rfl rfl ?_
            refine X.goto (pc' := 28) d16_117 (by decide) (by decide) ?_
            exact HB9 (10 : Int32) (8 : Int32) (1 : Int32) (HL.down (k := 9) (fun q => g2 (q.2 2 (by decide))))
        · refine X.icN (pc' := 114) d16_111 ((feq g3).1) rfl ?_
          refine X.iinc (pc' := 117) #[.val (.ref s1), .val (.int (16 : Int32)), .val (.ref t1), .val (.int (7 : Int32)), .val (.int (9 : Int32)), .val (.int (6 : Int32)), .val (.int (14 : Int32)), .val (.int (6 : Int32)), .val (.int (((58 : Int32) &&& (255 : Int32)).toUInt32.toUInt16.toUInt32.toInt32)), .val (.int (11 : Int32)), .val (.int (8 : Int32)), .val (.int (2 : Int32))] d16_114 rfl rfl rfl ?_
          refine X.goto (pc' := 28) d16_117 (by decide) (by decide) ?_
          exact HB9 (11 : Int32) (8 : Int32) (2 : Int32) (HL.down (k := 9) (fun q => g3 (q.2 3 (by decide))))
      · refine X.icN (pc' := 114) d16_111 ((feq g4).1) rfl ?_
        refine X.iinc (pc' := 117) #[.val (.ref s1), .val (.int (16 : Int32)), .val (.ref t1), .val (.int (7 : Int32)), .val (.int (9 : Int32)), .val (.int (6 : Int32)), .val (.int (14 : Int32)), .val (.int (6 : Int32)), .val (.int (((58 : Int32) &&& (255 : Int32)).toUInt32.toUInt16.toUInt32.toInt32)), .val (.int (12 : Int32)), .val (.int (8 : Int32)), .val (.int (3 : Int32))] d16_114 rfl rfl rfl ?_
        refine X.goto (pc' := 28) d16_117 (by decide) (by decide) ?_
        exact HB9 (12 : Int32) (8 : Int32) (3 : Int32) (HL.down (k := 9) (fun q => g4 (q.2 4 (by decide))))
    · refine X.icN (pc' := 114) d16_111 ((feq g5).1) rfl ?_
      refine X.iinc (pc' := 117) #[.val (.ref s1), .val (.int (16 : Int32)), .val (.ref t1), .val (.int (7 : Int32)), .val (.int (9 : Int32)), .val (.int (6 : Int32)), .val (.int (14 : Int32)), .val (.int (6 : Int32)), .val (.int (((58 : Int32) &&& (255 : Int32)).toUInt32.toUInt16.toUInt32.toInt32)), .val (.int (13 : Int32)), .val (.int (8 : Int32)), .val (.int (4 : Int32))] d16_114 rfl rfl rfl ?_
      refine X.goto (pc' := 28) d16_117 (by decide) (by decide) ?_
      exact HB9 (13 : Int32) (8 : Int32) (4 : Int32) (HL.down (k := 9) (fun q => g5 (q.2 5 (by decide))))
  have HB10 : ∀ x9 x10 x11 : Int32, Last (MarkN ds 16) 10 R → Y.Ends pg ev below (GN Z [] (RP s.heap (fun w => ∃ Q : Int32, w = .int Q ∧ Last (MarkN ds 16) 10 Q)) ({ frames := 0, cells := 0, slots := 0, locals := 0 } : Room) s) (T.setTop (mkF m 28 #[.val (.ref s1), .val (.int (16 : Int32)), .val (.ref t1), .val (.int (7 : Int32)), .val (.int (9 : Int32)), .val (.int (6 : Int32)), .val (.int (15 : Int32)), .val (.int (6 : Int32)), .val (.int (((58 : Int32) &&& (255 : Int32)).toUInt32.toUInt16.toUInt32.toInt32)), .val (.int x9), .val (.int x10), .val (.int x11)] [])) := by
    intro x9 x10 x11 HL
    refine X.iload (pc' := 30) d16_28 rfl rfl ?_
    refine X.iload (pc' := 32) d16_30 rfl rfl ?_
    refine X.icN (pc' := 35) d16_32 (by decide) rfl ?_
    refine X.aloadN (pc' := 36) d16_35 rfl rfl rfl ?_
    refine X.iload (pc' := 38) d16_36 rfl rfl ?_
    refine X.baload (pc' := 39) V_s ⟨by decide, by decide⟩ (v := ((ds.getD 15 0).toInt8.toInt32)) (at_map (i := 15) (by omega)) d16_38 rfl ?_
    refine X.sipush (pc' := 42) (255 : Int32) d16_39 rfl rfl ?_
    refine X.iand (pc' := 43) d16_42 rfl ?_
    rw [byte_in (lat_at hlat 15)]
    refine X.iload (pc' := 45) d16_43 rfl rfl ?_
    by_cases hc : ds.getD 15 0 = 58
    · refine X.icY (pc' := 54) d16_45 ((teq (by rw [e58]; exact hc)).1) (by decide) (by decide) ?_
      refine X.iload (pc' := 56) d16_54 rfl rfl ?_
      refine X.iload (pc' := 58) d16_56 rfl rfl ?_
      refine X.icY (pc' := 63) d16_58 (by decide) (by decide) (by decide) ?_
      refine X.iload (pc' := 65) d16_63 rfl rfl ?_
      refine X.iconst (pc' := 66) (1 : Int32) d16_65 rfl rfl ?_
      refine X.isub (pc' := 67) d16_66 rfl ?_
      rw [show (((15 : Int32) - (1 : Int32)) : Int32) = (14 : Int32) from by decide]
      refine X.istore (pc' := 69) #[.val (.ref s1), .val (.int (16 : Int32)), .val (.ref t1), .val (.int (7 : Int32)), .val (.int (9 : Int32)), .val (.int (6 : Int32)), .val (.int (15 : Int32)), .val (.int (6 : Int32)), .val (.int (((58 : Int32) &&& (255 : Int32)).toUInt32.toUInt16.toUInt32.toInt32)), .val (.int (14 : Int32)), .val (.int x10), .val (.int x11)] d16_67 rfl rfl ?_
      refine X.iload (pc' := 71) d16_69 rfl rfl ?_
      refine X.iload (pc' := 73) d16_71 rfl rfl ?_
      refine X.isub (pc' := 74) d16_73 rfl ?_
      rw [show (((14 : Int32) - (6 : Int32)) : Int32) = (8 : Int32) from by decide]
      refine X.istore (pc' := 76) #[.val (.ref s1), .val (.int (16 : Int32)), .val (.ref t1), .val (.int (7 : Int32)), .val (.int (9 : Int32)), .val (.int (6 : Int32)), .val (.int (15 : Int32)), .val (.int (6 : Int32)), .val (.int (((58 : Int32) &&& (255 : Int32)).toUInt32.toUInt16.toUInt32.toInt32)), .val (.int (14 : Int32)), .val (.int (8 : Int32)), .val (.int x11)] d16_74 rfl rfl ?_
      refine X.iload (pc' := 78) d16_76 rfl rfl ?_
      refine X.iconst (pc' := 79) (1 : Int32) d16_78 rfl rfl ?_
      refine X.isub (pc' := 80) d16_79 rfl ?_
      rw [show (((6 : Int32) - (1 : Int32)) : Int32) = (5 : Int32) from by decide]
      refine X.istore (pc' := 82) #[.val (.ref s1), .val (.int (16 : Int32)), .val (.ref t1), .val (.int (7 : Int32)), .val (.int (9 : Int32)), .val (.int (6 : Int32)), .val (.int (15 : Int32)), .val (.int (6 : Int32)), .val (.int (((58 : Int32) &&& (255 : Int32)).toUInt32.toUInt16.toUInt32.toInt32)), .val (.int (14 : Int32)), .val (.int (8 : Int32)), .val (.int (5 : Int32))] d16_80 rfl rfl ?_
      exact HI10 hc HL
    · refine X.icN (pc' := 48) d16_45 ((feq (by rw [e58]; exact hc)).1) rfl ?_
      refine X.iinc (pc' := 51) #[.val (.ref s1), .val (.int (16 : Int32)), .val (.ref t1), .val (.int (7 : Int32)), .val (.int (9 : Int32)), .val (.int (6 : Int32)), .val (.int (14 : Int32)), .val (.int (6 : Int32)), .val (.int (((58 : Int32) &&& (255 : Int32)).toUInt32.toUInt16.toUInt32.toInt32)), .val (.int x9), .val (.int x10), .val (.int x11)] d16_48 rfl rfl rfl ?_
      refine X.goto (pc' := 28) d16_51 (by decide) (by decide) ?_
      exact HB9 x9 x10 x11 (HL.down (k := 9) (fun q => hc (q.2 6 (by decide))))
  have HA10 : Last (MarkN ds 16) 10 R → Y.Ends pg ev below (GN Z [] (RP s.heap (fun w => ∃ Q : Int32, w = .int Q ∧ Last (MarkN ds 16) 10 Q)) ({ frames := 0, cells := 0, slots := 0, locals := 0 } : Room) s) (T.setTop (mkF m 28 #[.val (.ref s1), .val (.int (16 : Int32)), .val (.ref t1), .val (.int (7 : Int32)), .val (.int (9 : Int32)), .val (.int (6 : Int32)), .val (.int (15 : Int32)), .val (.int (6 : Int32)), .val (.int (((58 : Int32) &&& (255 : Int32)).toUInt32.toUInt16.toUInt32.toInt32)), .unset, .unset, .unset] [])) := by
    intro HL
    refine X.iload (pc' := 30) d16_28 rfl rfl ?_
    refine X.iload (pc' := 32) d16_30 rfl rfl ?_
    refine X.icN (pc' := 35) d16_32 (by decide) rfl ?_
    refine X.aloadN (pc' := 36) d16_35 rfl rfl rfl ?_
    refine X.iload (pc' := 38) d16_36 rfl rfl ?_
    refine X.baload (pc' := 39) V_s ⟨by decide, by decide⟩ (v := ((ds.getD 15 0).toInt8.toInt32)) (at_map (i := 15) (by omega)) d16_38 rfl ?_
    refine X.sipush (pc' := 42) (255 : Int32) d16_39 rfl rfl ?_
    refine X.iand (pc' := 43) d16_42 rfl ?_
    rw [byte_in (lat_at hlat 15)]
    refine X.iload (pc' := 45) d16_43 rfl rfl ?_
    by_cases hc : ds.getD 15 0 = 58
    · refine X.icY (pc' := 54) d16_45 ((teq (by rw [e58]; exact hc)).1) (by decide) (by decide) ?_
      refine X.iload (pc' := 56) d16_54 rfl rfl ?_
      refine X.iload (pc' := 58) d16_56 rfl rfl ?_
      refine X.icY (pc' := 63) d16_58 (by decide) (by decide) (by decide) ?_
      refine X.iload (pc' := 65) d16_63 rfl rfl ?_
      refine X.iconst (pc' := 66) (1 : Int32) d16_65 rfl rfl ?_
      refine X.isub (pc' := 67) d16_66 rfl ?_
      rw [show (((15 : Int32) - (1 : Int32)) : Int32) = (14 : Int32) from by decide]
      refine X.istore (pc' := 69) #[.val (.ref s1), .val (.int (16 : Int32)), .val (.ref t1), .val (.int (7 : Int32)), .val (.int (9 : Int32)), .val (.int (6 : Int32)), .val (.int (15 : Int32)), .val (.int (6 : Int32)), .val (.int (((58 : Int32) &&& (255 : Int32)).toUInt32.toUInt16.toUInt32.toInt32)), .val (.int (14 : Int32)), .unset, .unset] d16_67 rfl rfl ?_
      refine X.iload (pc' := 71) d16_69 rfl rfl ?_
      refine X.iload (pc' := 73) d16_71 rfl rfl ?_
      refine X.isub (pc' := 74) d16_73 rfl ?_
      rw [show (((14 : Int32) - (6 : Int32)) : Int32) = (8 : Int32) from by decide]
      refine X.istore (pc' := 76) #[.val (.ref s1), .val (.int (16 : Int32)), .val (.ref t1), .val (.int (7 : Int32)), .val (.int (9 : Int32)), .val (.int (6 : Int32)), .val (.int (15 : Int32)), .val (.int (6 : Int32)), .val (.int (((58 : Int32) &&& (255 : Int32)).toUInt32.toUInt16.toUInt32.toInt32)), .val (.int (14 : Int32)), .val (.int (8 : Int32)), .unset] d16_74 rfl rfl ?_
      refine X.iload (pc' := 78) d16_76 rfl rfl ?_
      refine X.iconst (pc' := 79) (1 : Int32) d16_78 rfl rfl ?_
      refine X.isub (pc' := 80) d16_79 rfl ?_
      rw [show (((6 : Int32) - (1 : Int32)) : Int32) = (5 : Int32) from by decide]
      refine X.istore (pc' := 82) #[.val (.ref s1), .val (.int (16 : Int32)), .val (.ref t1), .val (.int (7 : Int32)), .val (.int (9 : Int32)), .val (.int (6 : Int32)), .val (.int (15 : Int32)), .val (.int (6 : Int32)), .val (.int (((58 : Int32) &&& (255 : Int32)).toUInt32.toUInt16.toUInt32.toInt32)), .val (.int (14 : Int32)), .val (.int (8 : Int32)), .val (.int (5 : Int32))] d16_80 rfl rfl ?_
      exact HI10 hc HL
    · refine X.icN (pc' := 48) d16_45 ((feq (by rw [e58]; exact hc)).1) rfl ?_
      refine X.iinc (pc' := 51) #[.val (.ref s1), .val (.int (16 : Int32)), .val (.ref t1), .val (.int (7 : Int32)), .val (.int (9 : Int32)), .val (.int (6 : Int32)), .val (.int (14 : Int32)), .val (.int (6 : Int32)), .val (.int (((58 : Int32) &&& (255 : Int32)).toUInt32.toUInt16.toUInt32.toInt32)), .unset, .unset, .unset] d16_48 rfl rfl rfl ?_
      refine X.goto (pc' := 28) d16_51 (by decide) (by decide) ?_
      exact HA9  (HL.down (k := 9) (fun q => hc (q.2 6 (by decide))))
  exact HA10 HL0
/-- begin and length of a substring -/
def Sp (n : Int32) (nn : Nat) (b k : Int32) (bb kk : Nat) : Prop := (n - b = k ∧ b + k = n ∧ ¬ b = 0 ∧ ¬ b < 0 ∧ ¬ k < 0) ∧ (¬ n < b ∧ b.toNatClampNeg = bb ∧ k.toNatClampNeg = kk ∧ bb + kk = nn ∧ k = Int32.ofNat kk)
theorem sp16 {i : Nat} (h : i + 7 ≤ 16) : Sp 16 16 (Int32.ofNat i + 7) (Int32.ofNat (9 - i)) (i + 7) (9 - i) := (by unfold Sp; decide +kernel : ∀ j : Fin 10, Sp 16 16 (Int32.ofNat j.val + 7) (Int32.ofNat (9 - j.val)) (j.val + 7) (9 - j.val)) ⟨i, by omega⟩
theorem sp7 {i : Nat} (h : i + 7 ≤ 7) : Sp 7 7 (Int32.ofNat i + 7) (Int32.ofNat (0 - i)) (i + 7) (0 - i) := (by unfold Sp; decide +kernel : ∀ j : Fin 1, Sp 7 7 (Int32.ofNat j.val + 7) (Int32.ofNat (0 - j.val)) (j.val + 7) (0 - j.val)) ⟨i, by omega⟩
theorem cutD {ds : List Int32} {us zs : List Value} {bb kk : Nat} (hus : us = (List.range kk).map fun i => (ds.map fun c => Value.int (c.toInt8.toInt32)).getD (bb + i) (.int 0)) (hz : zs.length = kk) (hl : bb + kk = ds.length) : List.take 0 zs ++ us ++ List.drop (0 + kk) zs = (ds.drop bb).map fun c => Value.int (c.toInt8.toInt32) := by
  subst hus
  have e1 : List.drop (0 + kk) zs = [] := by rw [Nat.zero_add, ← hz]; exact List.drop_length
  rw [e1, List.append_nil, List.take_zero, List.nil_append]
  apply List.ext_getElem
  · simp; omega
  · intro i h1 h2
    simp at h1
    have h3 : bb + i < ds.length := by omega
    simp [List.getD_eq_getElem?_getD, h3]
theorem put_r {p : Int32} (h : ¬ p < 0 ∧ p < 10) : ∃ q : Fin 10, p = Int32.ofNat q.val := by
  obtain ⟨h1, h2⟩ := h
  rw [Int32.lt_iff_toInt_lt] at h1 h2
  have e0 : (0 : Int32).toInt = 0 := rfl
  have e1 : (10 : Int32).toInt = 10 := rfl
  refine ⟨⟨p.toInt.toNat, by omega⟩, Int32.toInt_inj.mp ?_⟩
  rw [ofn (by show p.toInt.toNat < _; omega)]; show p.toInt = ((p.toInt.toNat : Nat) : Int); omega
theorem rem10 {x i : Int32} (h : (x &&& (15 : Int32)) % 10 = i) : ¬ i < 0 ∧ i < 10 := by
  have q := c_and x 15 (by decide)
  subst h
  have e0 : (0 : Int32).toInt = 0 := rfl
  have e1 : (10 : Int32).toInt = 10 := rfl
  rw [Int32.lt_iff_toInt_lt, Int32.lt_iff_toInt_lt, Int32.toInt_mod, e0, e1]
  have a1 := Int.tmod_nonneg 10 q.1
  have a2 := Int.tmod_lt_of_pos (x &&& 15).toInt (show (0 : Int) < 10 by decide)
  omega
/-- a is a char[16] that holds cs -/
def Chs (Z : State) (h : Heap) (a : Addr) (cs : List Int32) : Prop := ∃ ka, Arv Z h a ka .char 16 (cs.map Value.int) (.int 0) ∧ cs.length = 16 ∧ ∀ c ∈ cs, ¬ c < 0 ∧ ¬ (255 : Int32) < c
theorem Chs.keep {Z : State} {h h' : Heap} {a : Addr} {cs : List Int32} {ws : List Addr} (A : Chs Z h a cs) (K : Keep h h' ws) (q : a ∉ ws) : Chs Z h' a cs := by obtain ⟨k, b, c⟩ := A; exact ⟨k, b.keep K q, c⟩
theorem Chs.ext {Z : State} {h h' : Heap} {a : Addr} {cs : List Int32} (A : Chs Z h a cs) (E : Ext h h') : Chs Z h' a cs := by obtain ⟨k, b, c⟩ := A; exact ⟨k, b.ext E, c⟩
theorem Chs.other {Z : State} {h h' : Heap} {a b : Addr} {sl : Nat} {v : Value} {cs : List Int32} (A : Chs Z h a cs) (W : Wr h h' b sl v) (q : a ≠ b) : Chs Z h' a cs := by obtain ⟨k, d, c⟩ := A; exact ⟨k, d.other W q, c⟩
theorem Chs.lt {Z : State} {h : Heap} {a : Addr} {cs : List Int32} (A : Chs Z h a cs) : a < h.size := by obtain ⟨k, d, c⟩ := A; exact d.lt
theorem lat_set {cs : List Int32} {i : Nat} {x : Int32} (h : ∀ c ∈ cs, ¬ c < 0 ∧ ¬ (255 : Int32) < c) (hx : ¬ x < 0 ∧ ¬ (255 : Int32) < x) : ∀ c ∈ cs.set i x, ¬ c < 0 ∧ ¬ (255 : Int32) < c := fun c hc => by
  rcases List.mem_or_eq_of_mem_set hc with q | rfl
  · exact h c q
  · exact hx
theorem lat_take {cs : List Int32} {n : Nat} (h : ∀ c ∈ cs, ¬ c < 0 ∧ ¬ (255 : Int32) < c) : ∀ c ∈ cs.take n, ¬ c < 0 ∧ ¬ (255 : Int32) < c := fun c hc => h c (List.mem_of_mem_take hc)
theorem lat_drop {cs : List Int32} {n : Nat} (h : ∀ c ∈ cs, ¬ c < 0 ∧ ¬ (255 : Int32) < c) : ∀ c ∈ cs.drop n, ¬ c < 0 ∧ ¬ (255 : Int32) < c := fun c hc => h c (List.mem_of_mem_drop hc)
theorem drop_at {cs : List Int32} {n b j : Nat} (h : b + j < n) : ((cs.take n).drop b).getD j 0 = cs.getD (b + j) 0 := by
  simp only [List.getD_eq_getElem?_getD, List.getElem?_drop, List.getElem?_take]; rw [if_pos h]
theorem drop_len {cs : List Int32} {n b : Nat} (h : n ≤ cs.length) : ((cs.take n).drop b).length = n - b := by simp; omega
set_option maxRecDepth 65536 in
set_option maxHeartbeats 40000000 in
theorem ef_rmSLS_7 (m : MethodId) (t1 : Addr) (x : Addr) : entryFrame m #[(.ref t1), (.int (0 : Int32)), (.int (7 : Int32)), (.ref x), (.int (7 : Int32))] 9 = mkF m 0 #[.val (.ref t1), .val (.int (0 : Int32)), .val (.int (7 : Int32)), .val (.ref x), .val (.int (7 : Int32)), .unset, .unset, .unset, .unset] [] := by first | (simp [entryFrame, mkF, argsToLocals, Value.category]; done) | (rfl)
set_option maxRecDepth 65536 in
set_option maxHeartbeats 40000000 in
theorem rmSLS_7 (l : Launch) (Z : State) (a0 : Array Value) (hw : ∀ d ∈ tables_1, d.before a0 Z = true) (t1 : Addr) (x : Addr) (h0 : Heap) (O : Ext Z.heap h0) (z : Int32) (O2 : Sta Z Z.heap "java/lang/String" "COMPACT_STRINGS" "Z" (.int z)) (hz : ¬ z = 0) (ks : ClassId) (ds : List Int32) (hl : ds.length = 7) (hlat9 : ∀ c ∈ ds, ¬ c < 0 ∧ ¬ (255 : Int32) < c) (V_s : Arv Z h0 t1 ks .byte (7 : Int32) (ds.map fun c => Value.int (c.toInt8.toInt32)) (.int 0)) (M : Lat Z h0 x mkw) (R : Int32) (HL0 : Last (MarkN ds 7) 1 R) :
    MN l Z (⟨"java/lang/String", "lastIndexOf", "([BBILjava/lang/String;I)I"⟩ : MethodName) jdk_42_method_90_code 9 (some .int) [] ({ frames := 3, cells := 0, slots := 0, locals := 70 } : Room) #[(.ref t1), (.int (0 : Int32)), (.int (7 : Int32)), (.ref x), (.int (7 : Int32))] h0 [] (RP h0 (fun w => ∃ Q : Int32, w = .int Q ∧ Last (MarkN ds 7) 1 Q)) := by
  refine MN.mk (a0 := a0) rfl rfl (plainFor_of_name pn0) O (fun m => ef_rmSLS_7 m t1 x) ?_
  intro pg ev s m below meth cd T hh X
  subst hh
  have hwl : ∀ d ∈ StrChars.Road.wordsLen, d.before a0 Z = true := fun d hd => hw d ((by decide +kernel : ∀ d ∈ StrChars.Road.wordsLen, d ∈ tables_1) d hd)
  have M0 := M.str
  obtain ⟨tx, kx, E_x, F_x_value, F_x_coder, V_x, hlat, hl4⟩ := M
  refine X.aloadN (pc' := 1) d15_0 rfl rfl rfl ?_
  refine X.getF (pc' := 4) (wd33 hw) Via.refl F_x_value d15_1 rfl ?_
  intro T X
  refine X.astore (pc' := 6) #[.val (.ref t1), .val (.int (0 : Int32)), .val (.int (7 : Int32)), .val (.ref x), .val (.int (7 : Int32)), .val (.ref tx), .unset, .unset, .unset] d15_4 rfl rfl rfl ?_
  refine X.aloadN (pc' := 7) d15_6 rfl rfl rfl ?_
  refine X.callP (pc' := 10) (X.sVirtual (wd58 hw) (wd59 hw) (wd61 hw) (wd60 hw) (by decide) rfl pd1 E_x [] rfl rfl d15_7 (X.nf (wd51 hw) rfl)) (rmCoder l Z a0 hw x _ X.old z O2 hz F_x_coder) (wd62 hw) (wd8 hw) (leB rfl) (leB rfl) (leB rfl) (leB rfl) rfl ?_
  intro T L v X q
  subst q
  refine X.istore (pc' := 12) #[.val (.ref t1), .val (.int (0 : Int32)), .val (.int (7 : Int32)), .val (.ref x), .val (.int (7 : Int32)), .val (.ref tx), .val (.int (0 : Int32)), .unset, .unset] d15_10 rfl rfl ?_
  refine X.aloadN (pc' := 13) d15_12 rfl rfl rfl ?_
  refine X.lenStr (pc' := 16) (X.sVirtual (wd53 hw) (wd54 hw) (wd56 hw) (wd55 hw) (by decide) rfl pd2 M0.exa [] rfl rfl d15_13 (X.nf (wd51 hw) rfl)) hwl (wd7 hw) M0 O2 hz (leB rfl) (leB rfl) (leB rfl) (leB rfl) rfl ?_
  intro T X
  rw [show mkw.length = 7 from rfl, show Int32.ofNat 7 = (7 : Int32) from by decide]
  refine X.istore (pc' := 18) #[.val (.ref t1), .val (.int (0 : Int32)), .val (.int (7 : Int32)), .val (.ref x), .val (.int (7 : Int32)), .val (.ref tx), .val (.int (0 : Int32)), .val (.int (7 : Int32)), .unset] d15_16 rfl rfl ?_
  refine X.iloadN (pc' := 19) d15_18 rfl rfl ?_
  refine X.iload (pc' := 21) d15_19 rfl rfl ?_
  refine X.isub (pc' := 22) d15_21 rfl ?_
  rw [show (((7 : Int32) - (7 : Int32)) : Int32) = (0 : Int32) from by decide]
  refine X.istore (pc' := 24) #[.val (.ref t1), .val (.int (0 : Int32)), .val (.int (7 : Int32)), .val (.ref x), .val (.int (7 : Int32)), .val (.ref tx), .val (.int (0 : Int32)), .val (.int (7 : Int32)), .val (.int (0 : Int32))] d15_22 rfl rfl ?_
  refine X.iload (pc' := 26) d15_24 rfl rfl ?_
  refine X.iload (pc' := 28) d15_26 rfl rfl ?_
  refine X.icN (pc' := 31) d15_28 (by decide) rfl ?_
  refine X.iload (pc' := 33) d15_31 rfl rfl ?_
  refine X.istore (pc' := 35) #[.val (.ref t1), .val (.int (0 : Int32)), .val (.int (7 : Int32)), .val (.ref x), .val (.int (0 : Int32)), .val (.ref tx), .val (.int (0 : Int32)), .val (.int (7 : Int32)), .val (.int (0 : Int32))] d15_33 rfl rfl ?_
  refine X.iload (pc' := 37) d15_35 rfl rfl ?_
  refine X.ifY (pc' := 42) d15_37 (by decide) (by decide) (by decide) ?_
  refine X.iload (pc' := 44) d15_42 rfl rfl ?_
  refine X.ifY (pc' := 50) d15_44 (by decide) (by decide) (by decide) ?_
  refine X.iloadN (pc' := 51) d15_50 rfl rfl ?_
  refine X.iload (pc' := 53) d15_51 rfl rfl ?_
  refine X.icN (pc' := 56) d15_53 (by decide) rfl ?_
  refine X.iloadN (pc' := 57) d15_56 rfl rfl ?_
  refine X.ifN (pc' := 60) d15_57 (by decide) rfl ?_
  refine X.aloadN (pc' := 61) d15_60 rfl rfl rfl ?_
  refine X.iloadN (pc' := 62) d15_61 rfl rfl ?_
  refine X.aload (pc' := 64) d15_62 rfl rfl rfl ?_
  refine X.iload (pc' := 66) d15_64 rfl rfl ?_
  refine X.iload (pc' := 68) d15_66 rfl rfl ?_
  rw [mkw_v] at V_x
  refine X.callP (pc' := 71) (X.sStatic (wd71 hw) (wd72 hw) (wd73 hw) (wd74 hw) (by decide) rfl pd3 [(.ref t1), (.int (7 : Int32)), (.ref tx), (.int (7 : Int32)), (.int (0 : Int32))] rfl rfl d15_68) (rmSLI_7 l Z a0 hw t1 tx _ X.old ks kx ds hl hlat9 V_s V_x R HL0) (wd74 hw) (wd73 hw) (leB rfl) (leB rfl) (leB rfl) (leB rfl) rfl ?_
  intro T L v X q
  obtain ⟨Q, rfl, HQ⟩ := q
  refine X.goto (pc' := 85) d15_71 (by decide) (by decide) ?_
  exact X.retIN (by simp) rfl d15_85 (by decide) (by decide) ⟨_, rfl, rfl, Q, rfl, HQ⟩
set_option maxRecDepth 65536 in
set_option maxHeartbeats 40000000 in
theorem ef_rmSL2_7 (m : MethodId) (s1 : Addr) (x : Addr) : entryFrame m #[(.ref s1), (.ref x), (.int (7 : Int32))] 3 = mkF m 0 #[.val (.ref s1), .val (.ref x), .val (.int (7 : Int32))] [] := by first | (simp [entryFrame, mkF, argsToLocals, Value.category]; done) | (rfl)
set_option maxRecDepth 65536 in
set_option maxHeartbeats 40000000 in
theorem rmSL2_7 (l : Launch) (Z : State) (a0 : Array Value) (hw : ∀ d ∈ tables_1, d.before a0 Z = true) (s1 : Addr) (x : Addr) (h0 : Heap) (O : Ext Z.heap h0) (z : Int32) (O2 : Sta Z Z.heap "java/lang/String" "COMPACT_STRINGS" "Z" (.int z)) (hz : ¬ z = 0) (ds : List Int32) (hl : ds.length = 7) (S : Lat Z h0 s1 ds) (M : Lat Z h0 x mkw) (R : Int32) (HL0 : Last (MarkN ds 7) 1 R) :
    MN l Z (⟨"java/lang/String", "lastIndexOf", "(Ljava/lang/String;I)I"⟩ : MethodName) jdk_42_method_89_code 3 (some .int) [] ({ frames := 4, cells := 0, slots := 0, locals := 100 } : Room) #[(.ref s1), (.ref x), (.int (7 : Int32))] h0 [] (RP h0 (fun w => ∃ Q : Int32, w = .int Q ∧ Last (MarkN ds 7) 1 Q)) := by
  refine MN.mk (a0 := a0) rfl rfl (plainFor_of_name pn0) O (fun m => ef_rmSL2_7 m s1 x) ?_
  intro pg ev s m below meth cd T hh X
  subst hh
  have hwl : ∀ d ∈ StrChars.Road.wordsLen, d.before a0 Z = true := fun d hd => hw d ((by decide +kernel : ∀ d ∈ StrChars.Road.wordsLen, d ∈ tables_1) d hd)
  have S0 := S.str
  obtain ⟨t1, ks, E_s1, F_s1_value, F_s1_coder, V_s, hlat, hl4⟩ := S
  refine X.aloadN (pc' := 1) d14_0 rfl rfl rfl ?_
  refine X.getF (pc' := 4) (wd33 hw) Via.refl F_s1_value d14_1 rfl ?_
  intro T X
  refine X.aloadN (pc' := 5) d14_4 rfl rfl rfl ?_
  refine X.callP (pc' := 8) (X.sVirtual (wd58 hw) (wd59 hw) (wd61 hw) (wd60 hw) (by decide) rfl pd1 E_s1 [] rfl rfl d14_5 (X.nf (wd51 hw) rfl)) (rmCoder l Z a0 hw s1 _ X.old z O2 hz F_s1_coder) (wd62 hw) (wd8 hw) (leB rfl) (leB rfl) (leB rfl) (leB rfl) rfl ?_
  intro T L v X q
  subst q
  refine X.aloadN (pc' := 9) d14_8 rfl rfl rfl ?_
  refine X.lenStr (pc' := 12) (X.sVirtual (wd53 hw) (wd54 hw) (wd56 hw) (wd55 hw) (by decide) rfl pd2 S0.exa [] rfl rfl d14_9 (X.nf (wd51 hw) rfl)) hwl (wd7 hw) S0 O2 hz (leB rfl) (leB rfl) (leB rfl) (leB rfl) rfl ?_
  intro T X
  rw [hl, show Int32.ofNat 7 = (7 : Int32) from by decide]
  refine X.aloadN (pc' := 13) d14_12 rfl rfl rfl ?_
  refine X.iloadN (pc' := 14) d14_13 rfl rfl ?_
  rw [hl, show Int32.ofNat 7 = (7 : Int32) from by decide] at V_s
  refine X.callP (pc' := 17) (X.sStatic (wd68 hw) (wd69 hw) (wd8 hw) (wd70 hw) (by decide) rfl pd4 [(.ref t1), (.int (0 : Int32)), (.int (7 : Int32)), (.ref x), (.int (7 : Int32))] rfl rfl d14_14) (rmSLS_7 l Z a0 hw t1 x _ X.old z O2 hz ks ds hl hlat V_s M R HL0) (wd70 hw) (wd8 hw) (leB rfl) (leB rfl) (leB rfl) (leB rfl) rfl ?_
  intro T L v X q
  obtain ⟨Q, rfl, HQ⟩ := q
  exact X.retIN (by simp) rfl d14_17 (by decide) (by decide) ⟨_, rfl, rfl, Q, rfl, HQ⟩
set_option maxRecDepth 65536 in
set_option maxHeartbeats 40000000 in
theorem ef_rmSL1_7 (m : MethodId) (s1 : Addr) (x : Addr) : entryFrame m #[(.ref s1), (.ref x)] 2 = mkF m 0 #[.val (.ref s1), .val (.ref x)] [] := by first | (simp [entryFrame, mkF, argsToLocals, Value.category]; done) | (rfl)
set_option maxRecDepth 65536 in
set_option maxHeartbeats 40000000 in
theorem rmSL1_7 (l : Launch) (Z : State) (a0 : Array Value) (hw : ∀ d ∈ tables_1, d.before a0 Z = true) (s1 : Addr) (x : Addr) (h0 : Heap) (O : Ext Z.heap h0) (z : Int32) (O2 : Sta Z Z.heap "java/lang/String" "COMPACT_STRINGS" "Z" (.int z)) (hz : ¬ z = 0) (ds : List Int32) (hl : ds.length = 7) (S : Lat Z h0 s1 ds) (M : Lat Z h0 x mkw) (R : Int32) (HL0 : Last (MarkN ds 7) 1 R) :
    MN l Z (⟨"java/lang/String", "lastIndexOf", "(Ljava/lang/String;)I"⟩ : MethodName) jdk_42_method_88_code 2 (some .int) [] ({ frames := 5, cells := 0, slots := 0, locals := 130 } : Room) #[(.ref s1), (.ref x)] h0 [] (RP h0 (fun w => ∃ Q : Int32, w = .int Q ∧ Last (MarkN ds 7) 1 Q)) := by
  refine MN.mk (a0 := a0) rfl rfl (plainFor_of_name pn0) O (fun m => ef_rmSL1_7 m s1 x) ?_
  intro pg ev s m below meth cd T hh X
  subst hh
  have hwl : ∀ d ∈ StrChars.Road.wordsLen, d.before a0 Z = true := fun d hd => hw d ((by decide +kernel : ∀ d ∈ StrChars.Road.wordsLen, d ∈ tables_1) d hd)
  have S0 := S.str
  refine X.aloadN (pc' := 1) d11_0 rfl rfl rfl ?_
  refine X.aloadN (pc' := 2) d11_1 rfl rfl rfl ?_
  refine X.aloadN (pc' := 3) d11_2 rfl rfl rfl ?_
  refine X.lenStr (pc' := 6) (X.sVirtual (wd53 hw) (wd54 hw) (wd56 hw) (wd55 hw) (by decide) rfl pd2 S0.exa [] rfl rfl d11_3 (X.nf (wd51 hw) rfl)) hwl (wd7 hw) S0 O2 hz (leB rfl) (leB rfl) (leB rfl) (leB rfl) rfl ?_
  intro T X
  rw [hl, show Int32.ofNat 7 = (7 : Int32) from by decide]
  refine X.callP (pc' := 9) (X.sVirtual (wd63 hw) (wd64 hw) (wd66 hw) (wd65 hw) (by decide) rfl pd5 S0.exa [(.ref x), (.int (7 : Int32))] rfl rfl d11_6 (X.nf (wd51 hw) rfl)) (rmSL2_7 l Z a0 hw s1 x _ X.old z O2 hz ds hl S M R HL0) (wd67 hw) (wd8 hw) (leB rfl) (leB rfl) (leB rfl) (leB rfl) rfl ?_
  intro T L v X q
  obtain ⟨Q, rfl, HQ⟩ := q
  exact X.retIN (by simp) rfl d11_9 (by decide) (by decide) ⟨_, rfl, rfl, Q, rfl, HQ⟩
set_option maxRecDepth 65536 in
set_option maxHeartbeats 40000000 in
theorem ef_rmSLS_16 (m : MethodId) (t1 : Addr) (x : Addr) : entryFrame m #[(.ref t1), (.int (0 : Int32)), (.int (16 : Int32)), (.ref x), (.int (16 : Int32))] 9 = mkF m 0 #[.val (.ref t1), .val (.int (0 : Int32)), .val (.int (16 : Int32)), .val (.ref x), .val (.int (16 : Int32)), .unset, .unset, .unset, .unset] [] := by first | (simp [entryFrame, mkF, argsToLocals, Value.category]; done) | (rfl)
set_option maxRecDepth 65536 in
set_option maxHeartbeats 40000000 in
theorem rmSLS_16 (l : Launch) (Z : State) (a0 : Array Value) (hw : ∀ d ∈ tables_1, d.before a0 Z = true) (t1 : Addr) (x : Addr) (h0 : Heap) (O : Ext Z.heap h0) (z : Int32) (O2 : Sta Z Z.heap "java/lang/String" "COMPACT_STRINGS" "Z" (.int z)) (hz : ¬ z = 0) (ks : ClassId) (ds : List Int32) (hl : ds.length = 16) (hlat9 : ∀ c ∈ ds, ¬ c < 0 ∧ ¬ (255 : Int32) < c) (V_s : Arv Z h0 t1 ks .byte (16 : Int32) (ds.map fun c => Value.int (c.toInt8.toInt32)) (.int 0)) (M : Lat Z h0 x mkw) (R : Int32) (HL0 : Last (MarkN ds 16) 10 R) :
    MN l Z (⟨"java/lang/String", "lastIndexOf", "([BBILjava/lang/String;I)I"⟩ : MethodName) jdk_42_method_90_code 9 (some .int) [] ({ frames := 3, cells := 0, slots := 0, locals := 70 } : Room) #[(.ref t1), (.int (0 : Int32)), (.int (16 : Int32)), (.ref x), (.int (16 : Int32))] h0 [] (RP h0 (fun w => ∃ Q : Int32, w = .int Q ∧ Last (MarkN ds 16) 10 Q)) := by
  refine MN.mk (a0 := a0) rfl rfl (plainFor_of_name pn0) O (fun m => ef_rmSLS_16 m t1 x) ?_
  intro pg ev s m below meth cd T hh X
  subst hh
  have hwl : ∀ d ∈ StrChars.Road.wordsLen, d.before a0 Z = true := fun d hd => hw d ((by decide +kernel : ∀ d ∈ StrChars.Road.wordsLen, d ∈ tables_1) d hd)
  have M0 := M.str
  obtain ⟨tx, kx, E_x, F_x_value, F_x_coder, V_x, hlat, hl4⟩ := M
  refine X.aloadN (pc' := 1) d15_0 rfl rfl rfl ?_
  refine X.getF (pc' := 4) (wd33 hw) Via.refl F_x_value d15_1 rfl ?_
  intro T X
  refine X.astore (pc' := 6) #[.val (.ref t1), .val (.int (0 : Int32)), .val (.int (16 : Int32)), .val (.ref x), .val (.int (16 : Int32)), .val (.ref tx), .unset, .unset, .unset] d15_4 rfl rfl rfl ?_
  refine X.aloadN (pc' := 7) d15_6 rfl rfl rfl ?_
  refine X.callP (pc' := 10) (X.sVirtual (wd58 hw) (wd59 hw) (wd61 hw) (wd60 hw) (by decide) rfl pd1 E_x [] rfl rfl d15_7 (X.nf (wd51 hw) rfl)) (rmCoder l Z a0 hw x _ X.old z O2 hz F_x_coder) (wd62 hw) (wd8 hw) (leB rfl) (leB rfl) (leB rfl) (leB rfl) rfl ?_
  intro T L v X q
  subst q
  refine X.istore (pc' := 12) #[.val (.ref t1), .val (.int (0 : Int32)), .val (.int (16 : Int32)), .val (.ref x), .val (.int (16 : Int32)), .val (.ref tx), .val (.int (0 : Int32)), .unset, .unset] d15_10 rfl rfl ?_
  refine X.aloadN (pc' := 13) d15_12 rfl rfl rfl ?_
  refine X.lenStr (pc' := 16) (X.sVirtual (wd53 hw) (wd54 hw) (wd56 hw) (wd55 hw) (by decide) rfl pd2 M0.exa [] rfl rfl d15_13 (X.nf (wd51 hw) rfl)) hwl (wd7 hw) M0 O2 hz (leB rfl) (leB rfl) (leB rfl) (leB rfl) rfl ?_
  intro T X
  rw [show mkw.length = 7 from rfl, show Int32.ofNat 7 = (7 : Int32) from by decide]
  refine X.istore (pc' := 18) #[.val (.ref t1), .val (.int (0 : Int32)), .val (.int (16 : Int32)), .val (.ref x), .val (.int (16 : Int32)), .val (.ref tx), .val (.int (0 : Int32)), .val (.int (7 : Int32)), .unset] d15_16 rfl rfl ?_
  refine X.iloadN (pc' := 19) d15_18 rfl rfl ?_
  refine X.iload (pc' := 21) d15_19 rfl rfl ?_
  refine X.isub (pc' := 22) d15_21 rfl ?_
  rw [show (((16 : Int32) - (7 : Int32)) : Int32) = (9 : Int32) from by decide]
  refine X.istore (pc' := 24) #[.val (.ref t1), .val (.int (0 : Int32)), .val (.int (16 : Int32)), .val (.ref x), .val (.int (16 : Int32)), .val (.ref tx), .val (.int (0 : Int32)), .val (.int (7 : Int32)), .val (.int (9 : Int32))] d15_22 rfl rfl ?_
  refine X.iload (pc' := 26) d15_24 rfl rfl ?_
  refine X.iload (pc' := 28) d15_26 rfl rfl ?_
  refine X.icN (pc' := 31) d15_28 (by decide) rfl ?_
  refine X.iload (pc' := 33) d15_31 rfl rfl ?_
  refine X.istore (pc' := 35) #[.val (.ref t1), .val (.int (0 : Int32)), .val (.int (16 : Int32)), .val (.ref x), .val (.int (9 : Int32)), .val (.ref tx), .val (.int (0 : Int32)), .val (.int (7 : Int32)), .val (.int (9 : Int32))] d15_33 rfl rfl ?_
  refine X.iload (pc' := 37) d15_35 rfl rfl ?_
  refine X.ifY (pc' := 42) d15_37 (by decide) (by decide) (by decide) ?_
  refine X.iload (pc' := 44) d15_42 rfl rfl ?_
  refine X.ifY (pc' := 50) d15_44 (by decide) (by decide) (by decide) ?_
  refine X.iloadN (pc' := 51) d15_50 rfl rfl ?_
  refine X.iload (pc' := 53) d15_51 rfl rfl ?_
  refine X.icN (pc' := 56) d15_53 (by decide) rfl ?_
  refine X.iloadN (pc' := 57) d15_56 rfl rfl ?_
  refine X.ifN (pc' := 60) d15_57 (by decide) rfl ?_
  refine X.aloadN (pc' := 61) d15_60 rfl rfl rfl ?_
  refine X.iloadN (pc' := 62) d15_61 rfl rfl ?_
  refine X.aload (pc' := 64) d15_62 rfl rfl rfl ?_
  refine X.iload (pc' := 66) d15_64 rfl rfl ?_
  refine X.iload (pc' := 68) d15_66 rfl rfl ?_
  rw [mkw_v] at V_x
  refine X.callP (pc' := 71) (X.sStatic (wd71 hw) (wd72 hw) (wd73 hw) (wd74 hw) (by decide) rfl pd3 [(.ref t1), (.int (16 : Int32)), (.ref tx), (.int (7 : Int32)), (.int (9 : Int32))] rfl rfl d15_68) (rmSLI_16 l Z a0 hw t1 tx _ X.old ks kx ds hl hlat9 V_s V_x R HL0) (wd74 hw) (wd73 hw) (leB rfl) (leB rfl) (leB rfl) (leB rfl) rfl ?_
  intro T L v X q
  obtain ⟨Q, rfl, HQ⟩ := q
  refine X.goto (pc' := 85) d15_71 (by decide) (by decide) ?_
  exact X.retIN (by simp) rfl d15_85 (by decide) (by decide) ⟨_, rfl, rfl, Q, rfl, HQ⟩
set_option maxRecDepth 65536 in
set_option maxHeartbeats 40000000 in
theorem ef_rmSL2_16 (m : MethodId) (s1 : Addr) (x : Addr) : entryFrame m #[(.ref s1), (.ref x), (.int (16 : Int32))] 3 = mkF m 0 #[.val (.ref s1), .val (.ref x), .val (.int (16 : Int32))] [] := by first | (simp [entryFrame, mkF, argsToLocals, Value.category]; done) | (rfl)
set_option maxRecDepth 65536 in
set_option maxHeartbeats 40000000 in
theorem rmSL2_16 (l : Launch) (Z : State) (a0 : Array Value) (hw : ∀ d ∈ tables_1, d.before a0 Z = true) (s1 : Addr) (x : Addr) (h0 : Heap) (O : Ext Z.heap h0) (z : Int32) (O2 : Sta Z Z.heap "java/lang/String" "COMPACT_STRINGS" "Z" (.int z)) (hz : ¬ z = 0) (ds : List Int32) (hl : ds.length = 16) (S : Lat Z h0 s1 ds) (M : Lat Z h0 x mkw) (R : Int32) (HL0 : Last (MarkN ds 16) 10 R) :
    MN l Z (⟨"java/lang/String", "lastIndexOf", "(Ljava/lang/String;I)I"⟩ : MethodName) jdk_42_method_89_code 3 (some .int) [] ({ frames := 4, cells := 0, slots := 0, locals := 100 } : Room) #[(.ref s1), (.ref x), (.int (16 : Int32))] h0 [] (RP h0 (fun w => ∃ Q : Int32, w = .int Q ∧ Last (MarkN ds 16) 10 Q)) := by
  refine MN.mk (a0 := a0) rfl rfl (plainFor_of_name pn0) O (fun m => ef_rmSL2_16 m s1 x) ?_
  intro pg ev s m below meth cd T hh X
  subst hh
  have hwl : ∀ d ∈ StrChars.Road.wordsLen, d.before a0 Z = true := fun d hd => hw d ((by decide +kernel : ∀ d ∈ StrChars.Road.wordsLen, d ∈ tables_1) d hd)
  have S0 := S.str
  obtain ⟨t1, ks, E_s1, F_s1_value, F_s1_coder, V_s, hlat, hl4⟩ := S
  refine X.aloadN (pc' := 1) d14_0 rfl rfl rfl ?_
  refine X.getF (pc' := 4) (wd33 hw) Via.refl F_s1_value d14_1 rfl ?_
  intro T X
  refine X.aloadN (pc' := 5) d14_4 rfl rfl rfl ?_
  refine X.callP (pc' := 8) (X.sVirtual (wd58 hw) (wd59 hw) (wd61 hw) (wd60 hw) (by decide) rfl pd1 E_s1 [] rfl rfl d14_5 (X.nf (wd51 hw) rfl)) (rmCoder l Z a0 hw s1 _ X.old z O2 hz F_s1_coder) (wd62 hw) (wd8 hw) (leB rfl) (leB rfl) (leB rfl) (leB rfl) rfl ?_
  intro T L v X q
  subst q
  refine X.aloadN (pc' := 9) d14_8 rfl rfl rfl ?_
  refine X.lenStr (pc' := 12) (X.sVirtual (wd53 hw) (wd54 hw) (wd56 hw) (wd55 hw) (by decide) rfl pd2 S0.exa [] rfl rfl d14_9 (X.nf (wd51 hw) rfl)) hwl (wd7 hw) S0 O2 hz (leB rfl) (leB rfl) (leB rfl) (leB rfl) rfl ?_
  intro T X
  rw [hl, show Int32.ofNat 16 = (16 : Int32) from by decide]
  refine X.aloadN (pc' := 13) d14_12 rfl rfl rfl ?_
  refine X.iloadN (pc' := 14) d14_13 rfl rfl ?_
  rw [hl, show Int32.ofNat 16 = (16 : Int32) from by decide] at V_s
  refine X.callP (pc' := 17) (X.sStatic (wd68 hw) (wd69 hw) (wd8 hw) (wd70 hw) (by decide) rfl pd4 [(.ref t1), (.int (0 : Int32)), (.int (16 : Int32)), (.ref x), (.int (16 : Int32))] rfl rfl d14_14) (rmSLS_16 l Z a0 hw t1 x _ X.old z O2 hz ks ds hl hlat V_s M R HL0) (wd70 hw) (wd8 hw) (leB rfl) (leB rfl) (leB rfl) (leB rfl) rfl ?_
  intro T L v X q
  obtain ⟨Q, rfl, HQ⟩ := q
  exact X.retIN (by simp) rfl d14_17 (by decide) (by decide) ⟨_, rfl, rfl, Q, rfl, HQ⟩
set_option maxRecDepth 65536 in
set_option maxHeartbeats 40000000 in
theorem ef_rmSL1_16 (m : MethodId) (s1 : Addr) (x : Addr) : entryFrame m #[(.ref s1), (.ref x)] 2 = mkF m 0 #[.val (.ref s1), .val (.ref x)] [] := by first | (simp [entryFrame, mkF, argsToLocals, Value.category]; done) | (rfl)
set_option maxRecDepth 65536 in
set_option maxHeartbeats 40000000 in
theorem rmSL1_16 (l : Launch) (Z : State) (a0 : Array Value) (hw : ∀ d ∈ tables_1, d.before a0 Z = true) (s1 : Addr) (x : Addr) (h0 : Heap) (O : Ext Z.heap h0) (z : Int32) (O2 : Sta Z Z.heap "java/lang/String" "COMPACT_STRINGS" "Z" (.int z)) (hz : ¬ z = 0) (ds : List Int32) (hl : ds.length = 16) (S : Lat Z h0 s1 ds) (M : Lat Z h0 x mkw) (R : Int32) (HL0 : Last (MarkN ds 16) 10 R) :
    MN l Z (⟨"java/lang/String", "lastIndexOf", "(Ljava/lang/String;)I"⟩ : MethodName) jdk_42_method_88_code 2 (some .int) [] ({ frames := 5, cells := 0, slots := 0, locals := 130 } : Room) #[(.ref s1), (.ref x)] h0 [] (RP h0 (fun w => ∃ Q : Int32, w = .int Q ∧ Last (MarkN ds 16) 10 Q)) := by
  refine MN.mk (a0 := a0) rfl rfl (plainFor_of_name pn0) O (fun m => ef_rmSL1_16 m s1 x) ?_
  intro pg ev s m below meth cd T hh X
  subst hh
  have hwl : ∀ d ∈ StrChars.Road.wordsLen, d.before a0 Z = true := fun d hd => hw d ((by decide +kernel : ∀ d ∈ StrChars.Road.wordsLen, d ∈ tables_1) d hd)
  have S0 := S.str
  refine X.aloadN (pc' := 1) d11_0 rfl rfl rfl ?_
  refine X.aloadN (pc' := 2) d11_1 rfl rfl rfl ?_
  refine X.aloadN (pc' := 3) d11_2 rfl rfl rfl ?_
  refine X.lenStr (pc' := 6) (X.sVirtual (wd53 hw) (wd54 hw) (wd56 hw) (wd55 hw) (by decide) rfl pd2 S0.exa [] rfl rfl d11_3 (X.nf (wd51 hw) rfl)) hwl (wd7 hw) S0 O2 hz (leB rfl) (leB rfl) (leB rfl) (leB rfl) rfl ?_
  intro T X
  rw [hl, show Int32.ofNat 16 = (16 : Int32) from by decide]
  refine X.callP (pc' := 9) (X.sVirtual (wd63 hw) (wd64 hw) (wd66 hw) (wd65 hw) (by decide) rfl pd5 S0.exa [(.ref x), (.int (16 : Int32))] rfl rfl d11_6 (X.nf (wd51 hw) rfl)) (rmSL2_16 l Z a0 hw s1 x _ X.old z O2 hz ds hl S M R HL0) (wd67 hw) (wd8 hw) (leB rfl) (leB rfl) (leB rfl) (leB rfl) rfl ?_
  intro T L v X q
  obtain ⟨Q, rfl, HQ⟩ := q
  exact X.retIN (by simp) rfl d11_9 (by decide) (by decide) ⟨_, rfl, rfl, Q, rfl, HQ⟩
set_option maxRecDepth 65536 in
set_option maxHeartbeats 40000000 in
theorem ef_rmChkL (m : MethodId) (b : Int32) (n : Int32) : entryFrame m #[(.int b), (.int n)] 2 = mkF m 0 #[.val (.int b), .val (.int n)] [] := by first | (simp [entryFrame, mkF, argsToLocals, Value.category]; done) | (rfl)
set_option maxRecDepth 65536 in
set_option maxHeartbeats 40000000 in
theorem rmChkL (l : Launch) (Z : State) (a0 : Array Value) (hw : ∀ d ∈ tables_1, d.before a0 Z = true) (b : Int32) (n : Int32) (h0 : Heap) (O : Ext Z.heap h0) (hbn : ¬ n < b) :
    MN l Z (⟨"java/util/Arrays", "checkLength", "(II)V"⟩ : MethodName) jdk_65_method_131_code 2 none [] ({ frames := 0, cells := 0, slots := 0, locals := 0 } : Room) #[(.int b), (.int n)] h0 [] (RO h0) := by
  refine MN.mk (a0 := a0) rfl rfl (plainFor_of_name pn3) O (fun m => ef_rmChkL m b n) ?_
  intro pg ev s m below meth cd T hh X
  subst hh
  refine X.iloadN (pc' := 1) d27_0 rfl rfl ?_
  refine X.iloadN (pc' := 2) d27_1 rfl rfl ?_
  refine X.icY (pc' := 37) d27_2 ((flt hbn).2.1) (by decide) (by decide) ?_
  exact X.retUN d27_37 (by decide) (by decide) ⟨rfl, rfl⟩
set_option maxRecDepth 65536 in
set_option maxHeartbeats 40000000 in
theorem ef_rmMinK (m : MethodId) (k : Int32) : entryFrame m #[(.int k), (.int k)] 2 = mkF m 0 #[.val (.int k), .val (.int k)] [] := by first | (simp [entryFrame, mkF, argsToLocals, Value.category]; done) | (rfl)
set_option maxRecDepth 65536 in
set_option maxHeartbeats 40000000 in
theorem rmMinK (l : Launch) (Z : State) (a0 : Array Value) (hw : ∀ d ∈ tables_1, d.before a0 Z = true) (k : Int32) (h0 : Heap) (O : Ext Z.heap h0)  :
    MN l Z (⟨"java/lang/Math", "min", "(II)I"⟩ : MethodName) jdk_29_method_69_code 2 (some .int) [] ({ frames := 0, cells := 0, slots := 0, locals := 0 } : Room) #[(.int k), (.int k)] h0 [] (RP h0 (fun w => w = .int k)) := by
  refine MN.mk (a0 := a0) rfl rfl pf28 O (fun m => ef_rmMinK m k) ?_
  intro pg ev s m below meth cd T hh X
  subst hh
  refine X.iloadN (pc' := 1) d28_0 rfl rfl ?_
  refine X.iloadN (pc' := 2) d28_1 rfl rfl ?_
  refine X.icN (pc' := 5) d28_2 ((flt (fun q => by rw [Int32.lt_iff_toInt_lt] at q; omega)).2.2.1) rfl ?_
  refine X.iloadN (pc' := 6) d28_5 rfl rfl ?_
  refine X.goto (pc' := 10) d28_6 (by decide) (by decide) ?_
  exact X.retIN (by simp) rfl d28_10 (by decide) (by decide) ⟨_, rfl, rfl, rfl⟩
set_option maxRecDepth 65536 in
set_option maxHeartbeats 40000000 in
theorem ef_rmCFT (m : MethodId) (b : Int32) (n : Int32) (fm : Value) (rf : fm.isRef = true) : entryFrame m #[(.int b), (.int n), (.int n), fm] 4 = mkF m 0 #[.val (.int b), .val (.int n), .val (.int n), .val fm] [] := by first | (simp [entryFrame, mkF, argsToLocals, Value.category, catR rf]; done) | (rcases ref_cases rf with rfl | ⟨_, rfl⟩ <;> rfl)
set_option maxRecDepth 65536 in
set_option maxHeartbeats 40000000 in
theorem rmCFT (l : Launch) (Z : State) (a0 : Array Value) (hw : ∀ d ∈ tables_1, d.before a0 Z = true) (b : Int32) (n : Int32) (fm : Value) (rf : fm.isRef = true) (h0 : Heap) (O : Ext Z.heap h0) (hb : ¬ b < 0 ∧ ¬ n < b) :
    MN l Z (⟨"jdk/internal/util/Preconditions", "checkFromToIndex", "(IIILjava/util/function/BiFunction;)I"⟩ : MethodName) jdk_41_method_12_code 4 (some .int) [] ({ frames := 0, cells := 0, slots := 0, locals := 0 } : Room) #[(.int b), (.int n), (.int n), fm] h0 [] (RP h0 (fun w => w = .int b)) := by
  refine MN.mk (a0 := a0) rfl rfl (plainFor_of_name pn5) O (fun m => ef_rmCFT m b n fm rf) ?_
  intro pg ev s m below meth cd T hh X
  subst hh
  refine X.iloadN (pc' := 1) d21_0 rfl rfl ?_
  refine X.ifN (pc' := 4) d21_1 ((if0 _ _).trans (flt hb.1).1) rfl ?_
  refine X.iloadN (pc' := 5) d21_4 rfl rfl ?_
  refine X.iloadN (pc' := 6) d21_5 rfl rfl ?_
  refine X.icN (pc' := 9) d21_6 ((flt hb.2).2.2.1) rfl ?_
  refine X.iloadN (pc' := 10) d21_9 rfl rfl ?_
  refine X.iloadN (pc' := 11) d21_10 rfl rfl ?_
  refine X.icY (pc' := 22) d21_11 ((flt (fun q => by rw [Int32.lt_iff_toInt_lt] at q; omega)).2.2.2) (by decide) (by decide) ?_
  refine X.iloadN (pc' := 23) d21_22 rfl rfl ?_
  exact X.retIN (by simp) rfl d21_23 (by decide) (by decide) ⟨_, rfl, rfl, rfl⟩
set_option maxRecDepth 65536 in
set_option maxHeartbeats 40000000 in
theorem ef_rmCBE (m : MethodId) (b : Int32) (n : Int32) : entryFrame m #[(.int b), (.int n), (.int n)] 3 = mkF m 0 #[.val (.int b), .val (.int n), .val (.int n)] [] := by first | (simp [entryFrame, mkF, argsToLocals, Value.category]; done) | (rfl)
set_option maxRecDepth 65536 in
set_option maxHeartbeats 40000000 in
theorem rmCBE (l : Launch) (Z : State) (a0 : Array Value) (hw : ∀ d ∈ tables_1, d.before a0 Z = true) (b : Int32) (n : Int32) (h0 : Heap) (O : Ext Z.heap h0) (fm : Value) (SF : Sta Z Z.heap "jdk/internal/util/Preconditions" "SIOOBE_FORMATTER" "Ljava/util/function/BiFunction;" fm) (rf : fm.isRef = true) (hb : ¬ b < 0 ∧ ¬ n < b) :
    MN l Z (⟨"java/lang/String", "checkBoundsBeginEnd", "(III)V"⟩ : MethodName) jdk_42_method_158_code 3 none [] ({ frames := 1, cells := 0, slots := 0, locals := 30 } : Room) #[(.int b), (.int n), (.int n)] h0 [] (RO h0) := by
  refine MN.mk (a0 := a0) rfl rfl (plainFor_of_name pn0) O (fun m => ef_rmCBE m b n) ?_
  intro pg ev s m below meth cd T hh X
  subst hh
  refine X.iloadN (pc' := 1) d20_0 rfl rfl ?_
  refine X.iloadN (pc' := 2) d20_1 rfl rfl ?_
  refine X.iloadN (pc' := 3) d20_2 rfl rfl ?_
  refine X.getS (pc' := 6) (wd92 hw) Via.refl SF d20_3 rfl ?_
  intro T X
  refine X.callP (pc' := 9) (X.sStatic (wd94 hw) (wd95 hw) (wd93 hw) (wd96 hw) (by decide) rfl pd6 [(.int b), (.int n), (.int n), fm] rfl rfl d20_6) (rmCFT l Z a0 hw b n fm rf _ X.old hb) (wd96 hw) (wd93 hw) (leB rfl) (leB rfl) (leB rfl) (leB rfl) rfl ?_
  intro T L v X q
  subst q
  refine X.pop (pc' := 10) d20_9 rfl rfl ?_
  exact X.retUN d20_10 (by decide) (by decide) ⟨rfl, rfl⟩
set_option maxRecDepth 65536 in
set_option maxHeartbeats 40000000 in
theorem ef_rmCRB (m : MethodId) (t : Addr) (b : Int32) (n : Int32) : entryFrame m #[(.ref t), (.int b), (.int n)] 5 = mkF m 0 #[.val (.ref t), .val (.int b), .val (.int n), .unset, .unset] [] := by first | (simp [entryFrame, mkF, argsToLocals, Value.category]; done) | (rfl)
set_option maxRecDepth 65536 in
set_option maxHeartbeats 40000000 in
theorem rmCRB (l : Launch) (Z : State) (a0 : Array Value) (hw : ∀ d ∈ tables_1, d.before a0 Z = true) (t : Addr) (b : Int32) (n : Int32) (h0 : Heap) (O : Ext Z.heap h0) (nn bb kk : Nat) (ds : List Int32) (hl : ds.length = nn) (hn9 : nn ≤ 16) (k : Int32) (SP : Sp n nn b k bb kk) (ks : ClassId) (Vt : Arv Z h0 t ks .byte n (ds.map fun c => Value.int (c.toInt8.toInt32)) (.int 0)) (hnn : n.toNatClampNeg = nn) :
    MN l Z (⟨"java/util/Arrays", "copyOfRangeByte", "([BII)[B"⟩ : MethodName) jdk_65_method_133_code 5 (some (.array .byte)) [] ({ frames := 1, cells := 1, slots := 16, locals := 40 } : Room) #[(.ref t), (.int b), (.int n)] h0 [] (RV (fun w h => ∃ r kr, w = .ref r ∧ h0.size ≤ r ∧ Arv Z h r kr .byte k ((ds.drop bb).map fun c => Value.int (c.toInt8.toInt32)) (.int 0))) := by
  refine MN.mk (a0 := a0) rfl rfl (plainFor_of_name pn3) O (fun m => ef_rmCRB m t b n) ?_
  intro pg ev s m below meth cd T hh X
  subst hh
  obtain ⟨⟨p1, p2, p3, p4, p5⟩, p6, p7, p8, p9, p10⟩ := SP
  have lt_t := Vt.lt
  refine X.iloadN (pc' := 1) d26_0 rfl rfl ?_
  refine X.iloadN (pc' := 2) d26_1 rfl rfl ?_
  refine X.callO (pc' := 5) (X.sStatic (wd118 hw) (wd119 hw) (wd113 hw) (wd120 hw) (by decide) rfl pd7 [(.int b), (.int n)] rfl rfl d26_2) (rmChkL l Z a0 hw b n _ X.old p6) (wd120 hw) (wd113 hw) (leB rfl) (leB rfl) (leB rfl) (leB rfl) rfl ?_
  intro T L X
  refine X.iloadN (pc' := 6) d26_5 rfl rfl ?_
  refine X.iloadN (pc' := 7) d26_6 rfl rfl ?_
  refine X.isub (pc' := 8) d26_7 rfl ?_
  rw [p1]
  refine X.istoreN (pc' := 9) #[.val (.ref t), .val (.int b), .val (.int n), .val (.int k), .unset] d26_8 rfl rfl ?_
  refine X.iloadN (pc' := 10) d26_9 rfl rfl ?_
  refine X.newP (pc' := 12) (aty := .byte) (wd24 hw) d26_10 p5 16 (by rw [p8]; omega) (by decide) (by decide) (by decide) rfl ?_
  intro T h r ka_r g_r Ex lt_r V_r X1
  have z_r : Z.heap.size ≤ r := by rw [g_r]; exact X.old.1
  have s_r : s.heap.size ≤ r := by rw [g_r]; exact X.kp.1
  have ne_t_r : t ≠ r := Nat.ne_of_lt (by rw [g_r]; exact lt_t)
  replace lt_t := Nat.lt_of_lt_of_le lt_t Ex.1
  replace Vt := Vt.ext Ex
  replace X := X1
  have Vr := Arv.pad V_r (pad_rep [] (.int 0) kk)
  refine X.astore (pc' := 14) #[.val (.ref t), .val (.int b), .val (.int n), .val (.int k), .val (.ref r)] d26_12 rfl rfl rfl ?_
  refine X.aloadN (pc' := 15) d26_14 rfl rfl rfl ?_
  refine X.iloadN (pc' := 16) d26_15 rfl rfl ?_
  refine X.aload (pc' := 18) d26_16 rfl rfl rfl ?_
  refine X.iconst (pc' := 19) (0 : Int32) d26_18 rfl rfl ?_
  refine X.aloadN (pc' := 20) d26_19 rfl rfl rfl ?_
  refine X.alen (pc' := 21) Vt d26_20 rfl ?_
  refine X.iloadN (pc' := 22) d26_21 rfl rfl ?_
  refine X.isub (pc' := 23) d26_22 rfl ?_
  rw [p1]
  refine X.iloadN (pc' := 24) d26_23 rfl rfl ?_
  refine X.callP (pc' := 27) (X.sStatic (wd121 hw) (wd122 hw) (wd123 hw) (wd124 hw) (by decide) rfl pd8 [(.int k), (.int k)] rfl rfl d26_24) (rmMinK l Z a0 hw k _ X.old) (wd124 hw) (wd123 hw) (leB rfl) (leB rfl) (leB rfl) (leB rfl) rfl ?_
  intro T L v X q
  subst q
  refine X.acopy (pc' := 30) (wd125 hw) (wd128 hw) (wd126 hw) (wd127 hw) Vt Vr (Or.inl ⟨rfl, rfl⟩) p4 (by decide) p5 (by rw [p7, p8, hnn]; omega) (by rw [p8]; exact Nat.le_of_eq (Nat.zero_add _)) rfl (by rw [p8]; simp) safeE z_r (Or.inr s_r) rfl d26_27 (leB rfl) (by first | exact leB rfl | decide +kernel) rfl ?_
  intro T h L X K V1
  refine X.aload (pc' := 32) d26_30 rfl rfl rfl ?_
  rw [p7, p8, show (0 : Int32).toNatClampNeg = 0 from rfl, cutD (ds := ds) rfl (by simp) (by omega)] at V1
  exact X.retAN rfl rfl d26_32 (by decide) (by decide) ⟨_, rfl, r, ka_r, rfl, s_r, V1⟩
set_option maxRecDepth 65536 in
set_option maxHeartbeats 40000000 in
theorem ef_rmCR (m : MethodId) (t : Addr) (b : Int32) (n : Int32) : entryFrame m #[(.ref t), (.int b), (.int n)] 3 = mkF m 0 #[.val (.ref t), .val (.int b), .val (.int n)] [] := by first | (simp [entryFrame, mkF, argsToLocals, Value.category]; done) | (rfl)
set_option maxRecDepth 65536 in
set_option maxHeartbeats 40000000 in
theorem rmCR (l : Launch) (Z : State) (a0 : Array Value) (hw : ∀ d ∈ tables_1, d.before a0 Z = true) (t : Addr) (b : Int32) (n : Int32) (h0 : Heap) (O : Ext Z.heap h0) (nn bb kk : Nat) (ds : List Int32) (hl : ds.length = nn) (hn9 : nn ≤ 16) (k : Int32) (SP : Sp n nn b k bb kk) (ks : ClassId) (Vt : Arv Z h0 t ks .byte n (ds.map fun c => Value.int (c.toInt8.toInt32)) (.int 0)) (hnn : n.toNatClampNeg = nn) :
    MN l Z (⟨"java/util/Arrays", "copyOfRange", "([BII)[B"⟩ : MethodName) jdk_65_method_132_code 3 (some (.array .byte)) [] ({ frames := 2, cells := 1, slots := 16, locals := 60 } : Room) #[(.ref t), (.int b), (.int n)] h0 [] (RV (fun w h => ∃ r kr, w = .ref r ∧ h0.size ≤ r ∧ Arv Z h r kr .byte k ((ds.drop bb).map fun c => Value.int (c.toInt8.toInt32)) (.int 0))) := by
  refine MN.mk (a0 := a0) rfl rfl (plainFor_of_name pn3) O (fun m => ef_rmCR m t b n) ?_
  intro pg ev s m below meth cd T hh X
  subst hh
  refine X.iloadN (pc' := 1) d25_0 rfl rfl ?_
  refine X.ifY (pc' := 10) d25_1 ((if0 _ _).trans (feq SP.1.2.2.1).2) (by decide) (by decide) ?_
  refine X.aloadN (pc' := 11) d25_10 rfl rfl rfl ?_
  refine X.iloadN (pc' := 12) d25_11 rfl rfl ?_
  refine X.iloadN (pc' := 13) d25_12 rfl rfl ?_
  refine X.callV (pc' := 16) (X.sStatic (wd115 hw) (wd116 hw) (wd113 hw) (wd117 hw) (by decide) rfl pd9 [(.ref t), (.int b), (.int n)] rfl rfl d25_13) (rmCRB l Z a0 hw t b n _ X.old nn bb kk ds hl hn9 k SP ks Vt hnn) (wd117 hw) (wd113 hw) (leB rfl) (leB rfl) (leB rfl) (leB rfl) sf0 all0 all0 rfl ?_
  intro T h L v X K q
  obtain ⟨r, kr, rfl, le_r, V_r⟩ := q
  exact X.retAN rfl rfl d25_16 (by decide) (by decide) ⟨_, rfl, r, kr, rfl, le_r, V_r⟩
set_option maxRecDepth 65536 in
set_option maxHeartbeats 40000000 in
theorem ef_rmBB (m : MethodId) (a1 : Addr) (a2 : Addr) : entryFrame m #[(.ref a1), (.ref a2), (.int (0 : Int32))] 3 = mkF m 0 #[.val (.ref a1), .val (.ref a2), .val (.int (0 : Int32))] [] := by first | (simp [entryFrame, mkF, argsToLocals, Value.category]; done) | (rfl)
set_option maxRecDepth 65536 in
set_option maxHeartbeats 40000000 in
theorem rmBB (l : Launch) (Z : State) (a0 : Array Value) (hw : ∀ d ∈ tables_1, d.before a0 Z = true) (a1 : Addr) (a2 : Addr) (h0 : Heap) (O : Ext Z.heap h0) (za : Z.heap.size ≤ a1) (E_a1 : Exa Z h0 a1 "java/lang/String") (F_a1_value : Fld Z h0 a1 "java/lang/String" "value" "[B" .null) (F_a1_coder : Fld Z h0 a1 "java/lang/String" "coder" "B" (.int 0)) :
    MN l Z (⟨"java/lang/String", "<init>", "([BB)V"⟩ : MethodName) jdk_42_method_151_code 3 none [] ({ frames := 1, cells := 0, slots := 0, locals := 20 } : Room) #[(.ref a1), (.ref a2), (.int (0 : Int32))] h0 [a1] (RU (fun h => Exa Z h a1 "java/lang/String" ∧ Fld Z h a1 "java/lang/String" "value" "[B" (.ref a2) ∧ Fld Z h a1 "java/lang/String" "coder" "B" (.int 0))) := by
  refine MN.mk (a0 := a0) rfl rfl (plainFor_of_name pn0) O (fun m => ef_rmBB m a1 a2) ?_
  intro pg ev s m below meth cd T hh X
  subst hh
  refine X.aloadN (pc' := 1) d29_0 rfl rfl rfl ?_
  refine X.initO (pc' := 4) (wd16 hw) (wd17 hw) (wd18 hw) rfl d29_1 (leB rfl) (leB rfl) rfl ?_
  intro T X
  refine X.aloadN (pc' := 5) d29_4 rfl rfl rfl ?_
  refine X.aloadN (pc' := 6) d29_5 rfl rfl rfl ?_
  refine X.putF (pc' := 9) (wd33 hw) Via.refl F_a1_value E_a1 (Or.inr ⟨(wd34 hw), rfl, rfl⟩) (wd7 hw) (.array .byte) (by decide) rfl rfl safeE za (Or.inl (List.mem_of_getElem? (i := 0) rfl)) d29_6 rfl ?_
  intro T h L X W
  replace F_a1_coder := F_a1_coder.other W (Or.inr (slot_ne (Or.inr (wd32 hw)) (Or.inr (wd34 hw)) (by decide) (t := .byte) (t' := (.array .byte)) (by decide) (by decide)))
  replace E_a1 := E_a1.wr W
  replace F_a1_value := F_a1_value.same W
  refine X.aloadN (pc' := 10) d29_9 rfl rfl rfl ?_
  refine X.iloadN (pc' := 11) d29_10 rfl rfl ?_
  refine X.putF (pc' := 14) (wd31 hw) Via.refl F_a1_coder E_a1 (Or.inr ⟨(wd32 hw), rfl, rfl⟩) (wd7 hw) .byte (by decide) rfl rfl safeE za (Or.inl (List.mem_of_getElem? (i := 0) rfl)) d29_11 rfl ?_
  intro T h L X W
  replace F_a1_value := F_a1_value.other W (Or.inr (slot_ne (Or.inr (wd34 hw)) (Or.inr (wd32 hw)) (by decide) (t := (.array .byte)) (t' := .byte) (by decide) (by decide)))
  replace E_a1 := E_a1.wr W
  replace F_a1_coder := F_a1_coder.same W
  exact X.retUN d29_14 (by decide) (by decide) ⟨rfl, E_a1, F_a1_value, F_a1_coder⟩
set_option maxRecDepth 65536 in
set_option maxHeartbeats 40000000 in
theorem ef_rmNS (m : MethodId) (t : Addr) (b : Int32) (k : Int32) : entryFrame m #[(.ref t), (.int b), (.int k)] 3 = mkF m 0 #[.val (.ref t), .val (.int b), .val (.int k)] [] := by first | (simp [entryFrame, mkF, argsToLocals, Value.category]; done) | (rfl)
set_option maxRecDepth 65536 in
set_option maxHeartbeats 40000000 in
theorem rmNS (l : Launch) (Z : State) (a0 : Array Value) (hw : ∀ d ∈ tables_1, d.before a0 Z = true) (ew : EW Z a0 consts_1) (t : Addr) (b : Int32) (k : Int32) (h0 : Heap) (O : Ext Z.heap h0) (n : Int32) (nn bb kk : Nat) (ds : List Int32) (hl : ds.length = nn) (hn9 : nn ≤ 16) (SP : Sp n nn b k bb kk) (hlat : ∀ c ∈ ds, ¬ c < 0 ∧ ¬ (255 : Int32) < c) (ks : ClassId) (Vt : Arv Z h0 t ks .byte n (ds.map fun c => Value.int (c.toInt8.toInt32)) (.int 0)) (hnn : n.toNatClampNeg = nn) :
    MCc l Z consts_1 (⟨"java/lang/StringLatin1", "newString", "([BII)Ljava/lang/String;"⟩ : MethodName) jdk_43_method_47_code 3 (some (.object "java/lang/String")) [] ({ frames := 4, cells := 4, slots := 60, locals := 90 } : Room) #[(.ref t), (.int b), (.int k)] h0 [] (RV (fun w h => ∃ r, w = .ref r ∧ Lat Z h r (ds.drop bb))) := by
  refine MCc.mk (a0 := a0) rfl rfl (plainFor_of_name pn2) O ew (fun m => ef_rmNS m t b k) ?_
  intro pg ev s m below meth cd T hh X
  subst hh
  have SP0 := SP
  obtain ⟨⟨p1, p2, p3, p4, p5⟩, p6, p7, p8, p9, p10⟩ := SP0
  have lt_t := Vt.lt
  refine X.iloadN (pc' := 1) d23_0 rfl rfl ?_
  by_cases hk0 : k = 0
  · refine X.ifN (pc' := 4) d23_1 ((if0 _ _).trans (teq hk0).2) rfl ?_
    refine X.ldcS (pc' := 6) (vs := []) (z := (0 : Int32)) (wd105 hw) (sa1 hw) (by simp [consts_1, Jvm.Pilot.@@N@@.x]) (by decide) (by decide) rfl d23_4 0 (by decide) (by decide) (leB rfl) (leB rfl) rfl ?_
    intro T vm h l1 q1 ka_q1 Ex hC E_l1 F_l1_coder F_l1_value V_q1 lt_l1 lt_q1 sf X
    replace Vt := Vt.ext Ex
    replace lt_t := Nat.lt_of_lt_of_le lt_t Ex.1
    have hkk : kk = 0 := by rw [← p8, hk0]; rfl
    have hd : ds.drop bb = [] := List.drop_eq_nil_of_le (by omega)
    have S_l1 : Lat Z h l1 (ds.drop bb) := by rw [hd]; exact ⟨q1, ka_q1, E_l1, F_l1_value, F_l1_coder, V_q1, (fun _ q => nomatch q), by decide⟩
    exact X.retAC rfl rfl d23_6 (by decide) (by decide) ⟨_, rfl, l1, rfl, S_l1⟩
  · refine X.ifY (pc' := 7) d23_1 ((if0 _ _).trans (feq hk0).2) (by decide) (by decide) ?_
    refine X.newO (pc' := 10) (wd110 hw) (wd7 hw) (wd8 hw) d23_7 (by decide) (by decide) rfl ?_
    intro T h x g_x Ex lt_x E_x D_x X1
    have z_x : Z.heap.size ≤ x := by rw [g_x]; exact X.old.1
    have s_x : s.heap.size ≤ x := by rw [g_x]; exact X.kp.1
    have ne_t_x : t ≠ x := Nat.ne_of_lt (by rw [g_x]; exact lt_t)
    replace Vt := Vt.ext Ex
    replace lt_t := Nat.lt_of_lt_of_le lt_t Ex.1
    replace X := X1
    have F_x_value : Fld Z h x "java/lang/String" "value" "[B" .null := D_x (Or.inr (wd34 hw)) (ty := (.array .byte)) (by decide)
    have F_x_coder : Fld Z h x "java/lang/String" "coder" "B" (.int (0 : Int32)) := D_x (Or.inr (wd32 hw)) (ty := .byte) (by decide)
    refine X.dup (pc' := 11) d23_10 rfl rfl ?_
    refine X.aloadN (pc' := 12) d23_11 rfl rfl rfl ?_
    refine X.iloadN (pc' := 13) d23_12 rfl rfl ?_
    refine X.iloadN (pc' := 14) d23_13 rfl rfl ?_
    refine X.iloadN (pc' := 15) d23_14 rfl rfl ?_
    refine X.iadd (pc' := 16) d23_15 rfl ?_
    rw [p2]
    refine X.callV (pc' := 19) (X.sStatic (wd111 hw) (wd112 hw) (wd113 hw) (wd114 hw) (by decide) rfl pd9 [(.ref t), (.int b), (.int n)] rfl rfl d23_16) (rmCR l Z a0 hw t b n _ X.old nn bb kk ds hl hn9 k SP ks Vt hnn) (wd114 hw) (wd113 hw) (leB rfl) (leB rfl) (leB rfl) (leB rfl) sf0 all0 all0 rfl ?_
    intro T h L v X K q
    obtain ⟨r, kr, rfl, le_r, V_r⟩ := q
    have ne_t_r : t ≠ r := Nat.ne_of_lt (Nat.lt_of_lt_of_le lt_t le_r)
    have ne_x_r : x ≠ r := Nat.ne_of_lt (Nat.lt_of_lt_of_le lt_x le_r)
    replace lt_t := Nat.lt_of_lt_of_le lt_t K.1
    replace E_x := E_x.keep K
    replace lt_x := Nat.lt_of_lt_of_le lt_x K.1
    replace F_x_value := F_x_value.keep K nin0
    replace F_x_coder := F_x_coder.keep K nin0
    refine X.iconst (pc' := 20) (0 : Int32) d23_19 rfl rfl ?_
    refine X.callU (pc' := 23) (X.sSpecial rfl (wd129 hw) (wd130 hw) (wd131 hw) (by decide) rfl pd10 [(.ref r), (.int (0 : Int32))] rfl rfl d23_20) (rmBB l Z a0 hw x r _ X.old z_x E_x F_x_value F_x_coder) (wd131 hw) (wd8 hw) (leB rfl) (leB rfl) (leB rfl) (leB rfl) (sfS (Safe.blank X.al E_x (wd7 hw) F_x_value) sf0) (allS z_x all0) (allS (Or.inr s_x) all0) rfl ?_
    intro T h L X K q
    replace lt_t := Nat.lt_of_lt_of_le lt_t K.1
    replace E_x := E_x.keep K
    replace lt_x := Nat.lt_of_lt_of_le lt_x K.1
    replace V_r := V_r.keep K (ninS (Ne.symm ne_x_r) nin0)
    have hd : (ds.drop bb).length = kk := by rw [List.length_drop]; omega
    rw [p10, ← hd] at V_r
    exact X.retAC rfl rfl d23_23 (by decide) (by decide) ⟨_, rfl, x, rfl, r, kr, q.1, q.2.1, q.2.2, V_r, lat_drop hlat, by omega⟩
set_option maxRecDepth 65536 in
set_option maxHeartbeats 40000000 in
theorem ef_rmIsL (m : MethodId) (x : Addr) : entryFrame m #[(.ref x)] 1 = mkF m 0 #[.val (.ref x)] [] := by first | (simp [entryFrame, mkF, argsToLocals, Value.category]; done) | (rfl)
set_option maxRecDepth 65536 in
set_option maxHeartbeats 40000000 in
theorem rmIsL (l : Launch) (Z : State) (a0 : Array Value) (hw : ∀ d ∈ tables_1, d.before a0 Z = true) (x : Addr) (h0 : Heap) (O : Ext Z.heap h0) (z : Int32) (O2 : Sta Z Z.heap "java/lang/String" "COMPACT_STRINGS" "Z" (.int z)) (hz : ¬ z = 0) (F : Fld Z h0 x "java/lang/String" "coder" "B" (.int 0)) :
    MN l Z (⟨"java/lang/String", "isLatin1", "()Z"⟩ : MethodName) jdk_42_method_154_code 1 (some .boolean) [] ({ frames := 0, cells := 0, slots := 0, locals := 0 } : Room) #[(.ref x)] h0 [] (RP h0 (fun w => w = .int 1)) := by
  refine MN.mk (a0 := a0) rfl rfl (plainFor_of_name pn0) O (fun m => ef_rmIsL m x) ?_
  intro pg ev s m below meth cd T hh X
  subst hh
  refine X.getS (pc' := 3) (wd19 hw) Via.refl O2 d22_0 rfl ?_
  intro T X
  refine X.ifN (pc' := 6) d22_3 ((if0 _ _).trans (feq hz).1) rfl ?_
  refine X.aloadN (pc' := 7) d22_6 rfl rfl rfl ?_
  refine X.getF (pc' := 10) (wd31 hw) Via.refl F d22_7 rfl ?_
  intro T X
  refine X.ifN (pc' := 13) d22_10 (by decide) rfl ?_
  refine X.iconst (pc' := 14) (1 : Int32) d22_13 rfl rfl ?_
  refine X.goto (pc' := 18) d22_14 (by decide) (by decide) ?_
  exact X.retIN (by simp) rfl d22_18 (by decide) (by decide) ⟨_, rfl, rfl, rfl⟩
set_option maxRecDepth 65536 in
set_option maxHeartbeats 40000000 in
theorem ef_rmSub2_7 (m : MethodId) (s1 : Addr) (b : Int32) : entryFrame m #[(.ref s1), (.int b), (.int (7 : Int32))] 5 = mkF m 0 #[.val (.ref s1), .val (.int b), .val (.int (7 : Int32)), .unset, .unset] [] := by first | (simp [entryFrame, mkF, argsToLocals, Value.category]; done) | (rfl)
set_option maxRecDepth 65536 in
set_option maxHeartbeats 40000000 in
theorem rmSub2_7 (l : Launch) (Z : State) (a0 : Array Value) (hw : ∀ d ∈ tables_1, d.before a0 Z = true) (ew : EW Z a0 consts_1) (s1 : Addr) (b : Int32) (h0 : Heap) (O : Ext Z.heap h0) (z : Int32) (O2 : Sta Z Z.heap "java/lang/String" "COMPACT_STRINGS" "Z" (.int z)) (hz : ¬ z = 0) (fm : Value) (SF : Sta Z Z.heap "jdk/internal/util/Preconditions" "SIOOBE_FORMATTER" "Ljava/util/function/BiFunction;" fm) (rf : fm.isRef = true) (bb kk : Nat) (ds : List Int32) (hl : ds.length = 7) (k : Int32) (SP : Sp (7 : Int32) 7 b k bb kk) (S : Lat Z h0 s1 ds) :
    MCc l Z consts_1 (⟨"java/lang/String", "substring", "(II)Ljava/lang/String;"⟩ : MethodName) jdk_42_method_92_code 5 (some (.object "java/lang/String")) [] ({ frames := 6, cells := 4, slots := 60, locals := 130 } : Room) #[(.ref s1), (.int b), (.int (7 : Int32))] h0 [] (RV (fun w h => ∃ r, w = .ref r ∧ Lat Z h r (ds.drop bb))) := by
  refine MCc.mk (a0 := a0) rfl rfl (plainFor_of_name pn0) O ew (fun m => ef_rmSub2_7 m s1 b) ?_
  intro pg ev s m below meth cd T hh X
  subst hh
  have hwl : ∀ d ∈ StrChars.Road.wordsLen, d.before a0 Z = true := fun d hd => hw d ((by decide +kernel : ∀ d ∈ StrChars.Road.wordsLen, d ∈ tables_1) d hd)
  have S0 := S.str
  obtain ⟨t1, ks, E_s1, F_s1_value, F_s1_coder, V_s, hlat, hl4⟩ := S
  have SP0 := SP
  obtain ⟨⟨p1, p2, p3, p4, p5⟩, p6, p7, p8, p9, p10⟩ := SP0
  refine X.aloadN (pc' := 1) d19_0 rfl rfl rfl ?_
  refine X.lenStr (pc' := 4) (X.sVirtual (wd53 hw) (wd54 hw) (wd56 hw) (wd55 hw) (by decide) rfl pd2 S0.exa [] rfl rfl d19_1 (X.nf (wd51 hw) rfl)) hwl (wd7 hw) S0 O2 hz (leB rfl) (leB rfl) (leB rfl) (leB rfl) rfl ?_
  intro T X
  rw [hl, show Int32.ofNat 7 = (7 : Int32) from by decide]
  refine X.istoreN (pc' := 5) #[.val (.ref s1), .val (.int b), .val (.int (7 : Int32)), .val (.int (7 : Int32)), .unset] d19_4 rfl rfl ?_
  refine X.iloadN (pc' := 6) d19_5 rfl rfl ?_
  refine X.iloadN (pc' := 7) d19_6 rfl rfl ?_
  refine X.iloadN (pc' := 8) d19_7 rfl rfl ?_
  refine X.callO (pc' := 11) (X.sStatic (wd89 hw) (wd90 hw) (wd8 hw) (wd91 hw) (by decide) rfl pd11 [(.int b), (.int (7 : Int32)), (.int (7 : Int32))] rfl rfl d19_8) (rmCBE l Z a0 hw b (7 : Int32) _ X.old fm SF rf ⟨p4, p6⟩) (wd91 hw) (wd8 hw) (leB rfl) (leB rfl) (leB rfl) (leB rfl) rfl ?_
  intro T L X
  refine X.iloadN (pc' := 12) d19_11 rfl rfl ?_
  refine X.ifY (pc' := 22) d19_12 ((if0 _ _).trans (feq p3).2) (by decide) (by decide) ?_
  refine X.iloadN (pc' := 23) d19_22 rfl rfl ?_
  refine X.iloadN (pc' := 24) d19_23 rfl rfl ?_
  refine X.isub (pc' := 25) d19_24 rfl ?_
  rw [p1]
  refine X.istore (pc' := 27) #[.val (.ref s1), .val (.int b), .val (.int (7 : Int32)), .val (.int (7 : Int32)), .val (.int k)] d19_25 rfl rfl ?_
  refine X.aloadN (pc' := 28) d19_27 rfl rfl rfl ?_
  refine X.callP (pc' := 31) (X.sVirtual (wd97 hw) (wd98 hw) (wd100 hw) (wd99 hw) (by decide) rfl pd12 E_s1 [] rfl rfl d19_28 (X.nf (wd51 hw) rfl)) (rmIsL l Z a0 hw s1 _ X.old z O2 hz F_s1_coder) (wd101 hw) (wd8 hw) (leB rfl) (leB rfl) (leB rfl) (leB rfl) rfl ?_
  intro T L v X q
  subst q
  refine X.ifN (pc' := 34) d19_31 (by decide) rfl ?_
  refine X.aloadN (pc' := 35) d19_34 rfl rfl rfl ?_
  refine X.getF (pc' := 38) (wd33 hw) Via.refl F_s1_value d19_35 rfl ?_
  intro T X
  refine X.iloadN (pc' := 39) d19_38 rfl rfl ?_
  refine X.iload (pc' := 41) d19_39 rfl rfl ?_
  rw [hl, show Int32.ofNat 7 = (7 : Int32) from by decide] at V_s
  refine X.coldV (pc' := 44) (X.sStatic (wd102 hw) (wd103 hw) (wd73 hw) (wd104 hw) (by decide) rfl pd13 [(.ref t1), (.int b), (.int k)] rfl rfl d19_41) (rmNS l Z a0 hw ew t1 b k _ X.old (7 : Int32) 7 bb kk ds hl (by decide) SP hlat ks V_s rfl) (wd104 hw) (wd73 hw) (leB rfl) (leB rfl) (leB rfl) (leB rfl) all0 rfl ?_
  intro T vm h L v X K hC q
  obtain ⟨r, rfl, S_r⟩ := q
  refine X.goto (pc' := 57) d19_44 (by decide) (by decide) ?_
  exact X.retAC rfl rfl d19_57 (by decide) (by decide) ⟨_, rfl, r, rfl, S_r⟩
set_option maxRecDepth 65536 in
set_option maxHeartbeats 40000000 in
theorem ef_rmSub1_7 (m : MethodId) (s1 : Addr) (b : Int32) : entryFrame m #[(.ref s1), (.int b)] 2 = mkF m 0 #[.val (.ref s1), .val (.int b)] [] := by first | (simp [entryFrame, mkF, argsToLocals, Value.category]; done) | (rfl)
set_option maxRecDepth 65536 in
set_option maxHeartbeats 40000000 in
theorem rmSub1_7 (l : Launch) (Z : State) (a0 : Array Value) (hw : ∀ d ∈ tables_1, d.before a0 Z = true) (ew : EW Z a0 consts_1) (s1 : Addr) (b : Int32) (h0 : Heap) (O : Ext Z.heap h0) (z : Int32) (O2 : Sta Z Z.heap "java/lang/String" "COMPACT_STRINGS" "Z" (.int z)) (hz : ¬ z = 0) (fm : Value) (SF : Sta Z Z.heap "jdk/internal/util/Preconditions" "SIOOBE_FORMATTER" "Ljava/util/function/BiFunction;" fm) (rf : fm.isRef = true) (bb kk : Nat) (ds : List Int32) (hl : ds.length = 7) (k : Int32) (SP : Sp (7 : Int32) 7 b k bb kk) (S : Lat Z h0 s1 ds) :
    MCc l Z consts_1 (⟨"java/lang/String", "substring", "(I)Ljava/lang/String;"⟩ : MethodName) jdk_42_method_91_code 2 (some (.object "java/lang/String")) [] ({ frames := 7, cells := 4, slots := 60, locals := 150 } : Room) #[(.ref s1), (.int b)] h0 [] (RV (fun w h => ∃ r, w = .ref r ∧ Lat Z h r (ds.drop bb))) := by
  refine MCc.mk (a0 := a0) rfl rfl (plainFor_of_name pn0) O ew (fun m => ef_rmSub1_7 m s1 b) ?_
  intro pg ev s m below meth cd T hh X
  subst hh
  have hwl : ∀ d ∈ StrChars.Road.wordsLen, d.before a0 Z = true := fun d hd => hw d ((by decide +kernel : ∀ d ∈ StrChars.Road.wordsLen, d ∈ tables_1) d hd)
  have S0 := S.str
  refine X.aloadN (pc' := 1) d18_0 rfl rfl rfl ?_
  refine X.iloadN (pc' := 2) d18_1 rfl rfl ?_
  refine X.aloadN (pc' := 3) d18_2 rfl rfl rfl ?_
  refine X.lenStr (pc' := 6) (X.sVirtual (wd53 hw) (wd54 hw) (wd56 hw) (wd55 hw) (by decide) rfl pd2 S0.exa [] rfl rfl d18_3 (X.nf (wd51 hw) rfl)) hwl (wd7 hw) S0 O2 hz (leB rfl) (leB rfl) (leB rfl) (leB rfl) rfl ?_
  intro T X
  rw [hl, show Int32.ofNat 7 = (7 : Int32) from by decide]
  refine X.coldV (pc' := 9) (X.sVirtual (wd84 hw) (wd85 hw) (wd87 hw) (wd86 hw) (by decide) rfl pd14 S0.exa [(.int b), (.int (7 : Int32))] rfl rfl d18_6 (X.nf (wd51 hw) rfl)) (rmSub2_7 l Z a0 hw ew s1 b _ X.old z O2 hz fm SF rf bb kk ds hl k SP S) (wd88 hw) (wd8 hw) (leB rfl) (leB rfl) (leB rfl) (leB rfl) all0 rfl ?_
  intro T vm h L v X K hC q
  obtain ⟨r, rfl, S_r⟩ := q
  exact X.retAC rfl rfl d18_9 (by decide) (by decide) ⟨_, rfl, r, rfl, S_r⟩
set_option maxRecDepth 65536 in
set_option maxHeartbeats 40000000 in
theorem ef_rmWok_7 (m : MethodId) (s1 : Addr) : entryFrame m #[(.ref s1)] 2 = mkF m 0 #[.val (.ref s1), .unset] [] := by first | (simp [entryFrame, mkF, argsToLocals, Value.category]; done) | (rfl)
set_option maxRecDepth 65536 in
set_option maxHeartbeats 40000000 in
theorem rmWok_7 (l : Launch) (Z : State) (a0 : Array Value) (hw : ∀ d ∈ tables_1, d.before a0 Z = true) (ew : EW Z a0 consts_1) (s1 : Addr) (h0 : Heap) (O : Ext Z.heap h0) (z : Int32) (O2 : Sta Z Z.heap "java/lang/String" "COMPACT_STRINGS" "Z" (.int z)) (hz : ¬ z = 0) (fm : Value) (SF : Sta Z Z.heap "jdk/internal/util/Preconditions" "SIOOBE_FORMATTER" "Ljava/util/function/BiFunction;" fm) (rf : fm.isRef = true) (ds : List Int32) (hl : ds.length = 7) (S : Lat Z h0 s1 ds) :
    MCc l Z consts_1 (⟨"com/example/bounded_lock/boundedlock/LockLayout", "wokenInstanceOf", "(Ljava/lang/String;)Ljava/lang/String;"⟩ : MethodName) prog_7_method_7_code 2 (some (.object "java/lang/String")) [] ({ frames := 8, cells := 8, slots := 160, locals := 180 } : Room) #[(.ref s1)] h0 [] (RV (fun w h => (w = .null ∧ ∀ j, j < 1 → ¬ MarkN ds 7 j) ∨ ∃ i r, i < 1 ∧ MarkN ds 7 i ∧ (∀ j, i < j → j < 1 → ¬ MarkN ds 7 j) ∧ w = .ref r ∧ Lat Z h r (ds.drop (i + 7)))) := by
  refine MCc.mk (a0 := a0) rfl rfl (plainFor_of_name pn6) O ew (fun m => ef_rmWok_7 m s1) ?_
  intro pg ev s m below meth cd T hh X
  subst hh
  have hwl : ∀ d ∈ StrChars.Road.wordsLen, d.before a0 Z = true := fun d hd => hw d ((by decide +kernel : ∀ d ∈ StrChars.Road.wordsLen, d ∈ tables_1) d hd)
  obtain ⟨R, HL0⟩ := Last.exists (MarkN ds 7) 1
  refine X.aloadN (pc' := 1) d10_0 rfl rfl rfl ?_
  refine X.ldcS (pc' := 3) (vs := [(.int (32 : Int32)), (.int (119 : Int32)), (.int (111 : Int32)), (.int (107 : Int32)), (.int (101 : Int32)), (.int (110 : Int32)), (.int (58 : Int32))]) (z := (7 : Int32)) (wd45 hw) (sa1 hw) (by simp [consts_1, Jvm.Pilot.@@N@@.x]) (by decide) (by decide) rfl d10_1 28 (by decide) (by decide) (leB rfl) (leB rfl) rfl ?_
  intro T vm h l1 q1 ka_q1 Ex hC E_l1 F_l1_coder F_l1_value V_q1 lt_l1 lt_q1 sf X
  replace S := S.ext Ex
  have M : Lat Z h l1 mkw := ⟨q1, ka_q1, E_l1, F_l1_value, F_l1_coder, by rw [mkw_v]; exact V_q1, mkw_l, by decide⟩
  refine X.callP (pc' := 6) (X.sVirtual (wd48 hw) (wd49 hw) (wd51 hw) (wd50 hw) (by decide) rfl pd15 S.str.exa [(.ref l1)] rfl rfl d10_3 (X.nf (wd51 hw) rfl)) (rmSL1_7 l Z a0 hw s1 l1 _ X.old z O2 hz ds hl S M R HL0) (wd52 hw) (wd8 hw) (leB rfl) (leB rfl) (leB rfl) (leB rfl) rfl ?_
  intro T L v X q
  obtain ⟨Q, rfl, HQ⟩ := q
  refine X.istoreN (pc' := 7) #[.val (.ref s1), .val (.int Q)] d10_6 rfl rfl ?_
  refine X.iloadN (pc' := 8) d10_7 rfl rfl ?_
  have hm := Or.symm HQ
  rcases hm with hm | hm
  · obtain ⟨HN, rfl⟩ := hm
    refine X.ifN (pc' := 11) d10_8 (by decide) rfl ?_
    refine X.aconstNull (pc' := 12) d10_11 rfl ?_
    exact X.retAC rfl rfl d10_12 (by decide) (by decide) ⟨_, rfl, Or.inl ⟨rfl, HN⟩⟩
  · obtain ⟨i, i1, i2, i3, rfl⟩ := hm
    refine X.ifY (pc' := 13) d10_8 ((if0 _ _).trans (flt (ofn0 (by omega))).2.1) (by decide) (by decide) ?_
    refine X.aloadN (pc' := 14) d10_13 rfl rfl rfl ?_
    refine X.iloadN (pc' := 15) d10_14 rfl rfl ?_
    refine X.ldcS (pc' := 17) (vs := [(.int (32 : Int32)), (.int (119 : Int32)), (.int (111 : Int32)), (.int (107 : Int32)), (.int (101 : Int32)), (.int (110 : Int32)), (.int (58 : Int32))]) (z := (7 : Int32)) (wd45 hw) (sa1 hw) (by simp [consts_1, Jvm.Pilot.@@N@@.x]) (by decide) (by decide) rfl d10_15 28 (by decide) (by decide) (leB rfl) (leB rfl) rfl ?_
    intro T vm h l2 q2 ka_q2 Ex hC E_l2 F_l2_coder F_l2_value V_q2 lt_l2 lt_q2 sf X
    replace S := S.ext Ex
    have M : Lat Z h l2 mkw := ⟨q2, ka_q2, E_l2, F_l2_value, F_l2_coder, by rw [mkw_v]; exact V_q2, mkw_l, by decide⟩
    have M0 := M.str
    refine X.lenStr (pc' := 20) (X.sVirtual (wd78 hw) (wd54 hw) (wd56 hw) (wd55 hw) (by decide) rfl pd2 M0.exa [] rfl rfl d10_17 (X.nf (wd51 hw) rfl)) hwl (wd7 hw) M0 O2 hz (leB rfl) (leB rfl) (leB rfl) (leB rfl) rfl ?_
    intro T X
    rw [show mkw.length = 7 from rfl, show Int32.ofNat 7 = (7 : Int32) from by decide]
    refine X.iadd (pc' := 21) d10_20 rfl ?_
    refine X.coldV (pc' := 24) (X.sVirtual (wd79 hw) (wd80 hw) (wd82 hw) (wd81 hw) (by decide) rfl pd16 S.str.exa [(.int ((Int32.ofNat i) + (7 : Int32)))] rfl rfl d10_21 (X.nf (wd51 hw) rfl)) (rmSub1_7 l Z a0 hw ew s1 _ _ X.old z O2 hz fm SF rf _ _ ds hl _ (sp7 i2.1) S) (wd83 hw) (wd8 hw) (leB rfl) (leB rfl) (leB rfl) (leB rfl) all0 rfl ?_
    intro T vm h L v X K hC q
    obtain ⟨r, rfl, S_r⟩ := q
    exact X.retAC rfl rfl d10_24 (by decide) (by decide) ⟨_, rfl, Or.inr ⟨i, r, i1, i2, i3, rfl, S_r⟩⟩
set_option maxRecDepth 65536 in
set_option maxHeartbeats 40000000 in
theorem ef_rmSub2_16 (m : MethodId) (s1 : Addr) (b : Int32) : entryFrame m #[(.ref s1), (.int b), (.int (16 : Int32))] 5 = mkF m 0 #[.val (.ref s1), .val (.int b), .val (.int (16 : Int32)), .unset, .unset] [] := by first | (simp [entryFrame, mkF, argsToLocals, Value.category]; done) | (rfl)
set_option maxRecDepth 65536 in
set_option maxHeartbeats 40000000 in
theorem rmSub2_16 (l : Launch) (Z : State) (a0 : Array Value) (hw : ∀ d ∈ tables_1, d.before a0 Z = true) (ew : EW Z a0 consts_1) (s1 : Addr) (b : Int32) (h0 : Heap) (O : Ext Z.heap h0) (z : Int32) (O2 : Sta Z Z.heap "java/lang/String" "COMPACT_STRINGS" "Z" (.int z)) (hz : ¬ z = 0) (fm : Value) (SF : Sta Z Z.heap "jdk/internal/util/Preconditions" "SIOOBE_FORMATTER" "Ljava/util/function/BiFunction;" fm) (rf : fm.isRef = true) (bb kk : Nat) (ds : List Int32) (hl : ds.length = 16) (k : Int32) (SP : Sp (16 : Int32) 16 b k bb kk) (S : Lat Z h0 s1 ds) :
    MCc l Z consts_1 (⟨"java/lang/String", "substring", "(II)Ljava/lang/String;"⟩ : MethodName) jdk_42_method_92_code 5 (some (.object "java/lang/String")) [] ({ frames := 6, cells := 4, slots := 60, locals := 130 } : Room) #[(.ref s1), (.int b), (.int (16 : Int32))] h0 [] (RV (fun w h => ∃ r, w = .ref r ∧ Lat Z h r (ds.drop bb))) := by
  refine MCc.mk (a0 := a0) rfl rfl (plainFor_of_name pn0) O ew (fun m => ef_rmSub2_16 m s1 b) ?_
  intro pg ev s m below meth cd T hh X
  subst hh
  have hwl : ∀ d ∈ StrChars.Road.wordsLen, d.before a0 Z = true := fun d hd => hw d ((by decide +kernel : ∀ d ∈ StrChars.Road.wordsLen, d ∈ tables_1) d hd)
  have S0 := S.str
  obtain ⟨t1, ks, E_s1, F_s1_value, F_s1_coder, V_s, hlat, hl4⟩ := S
  have SP0 := SP
  obtain ⟨⟨p1, p2, p3, p4, p5⟩, p6, p7, p8, p9, p10⟩ := SP0
  refine X.aloadN (pc' := 1) d19_0 rfl rfl rfl ?_
  refine X.lenStr (pc' := 4) (X.sVirtual (wd53 hw) (wd54 hw) (wd56 hw) (wd55 hw) (by decide) rfl pd2 S0.exa [] rfl rfl d19_1 (X.nf (wd51 hw) rfl)) hwl (wd7 hw) S0 O2 hz (leB rfl) (leB rfl) (leB rfl) (leB rfl) rfl ?_
  intro T X
  rw [hl, show Int32.ofNat 16 = (16 : Int32) from by decide]
  refine X.istoreN (pc' := 5) #[.val (.ref s1), .val (.int b), .val (.int (16 : Int32)), .val (.int (16 : Int32)), .unset] d19_4 rfl rfl ?_
  refine X.iloadN (pc' := 6) d19_5 rfl rfl ?_
  refine X.iloadN (pc' := 7) d19_6 rfl rfl ?_
  refine X.iloadN (pc' := 8) d19_7 rfl rfl ?_
  refine X.callO (pc' := 11) (X.sStatic (wd89 hw) (wd90 hw) (wd8 hw) (wd91 hw) (by decide) rfl pd11 [(.int b), (.int (16 : Int32)), (.int (16 : Int32))] rfl rfl d19_8) (rmCBE l Z a0 hw b (16 : Int32) _ X.old fm SF rf ⟨p4, p6⟩) (wd91 hw) (wd8 hw) (leB rfl) (leB rfl) (leB rfl) (leB rfl) rfl ?_
  intro T L X
  refine X.iloadN (pc' := 12) d19_11 rfl rfl ?_
  refine X.ifY (pc' := 22) d19_12 ((if0 _ _).trans (feq p3).2) (by decide) (by decide) ?_
  refine X.iloadN (pc' := 23) d19_22 rfl rfl ?_
  refine X.iloadN (pc' := 24) d19_23 rfl rfl ?_
  refine X.isub (pc' := 25) d19_24 rfl ?_
  rw [p1]
  refine X.istore (pc' := 27) #[.val (.ref s1), .val (.int b), .val (.int (16 : Int32)), .val (.int (16 : Int32)), .val (.int k)] d19_25 rfl rfl ?_
  refine X.aloadN (pc' := 28) d19_27 rfl rfl rfl ?_
  refine X.callP (pc' := 31) (X.sVirtual (wd97 hw) (wd98 hw) (wd100 hw) (wd99 hw) (by decide) rfl pd12 E_s1 [] rfl rfl d19_28 (X.nf (wd51 hw) rfl)) (rmIsL l Z a0 hw s1 _ X.old z O2 hz F_s1_coder) (wd101 hw) (wd8 hw) (leB rfl) (leB rfl) (leB rfl) (leB rfl) rfl ?_
  intro T L v X q
  subst q
  refine X.ifN (pc' := 34) d19_31 (by decide) rfl ?_
  refine X.aloadN (pc' := 35) d19_34 rfl rfl rfl ?_
  refine X.getF (pc' := 38) (wd33 hw) Via.refl F_s1_value d19_35 rfl ?_
  intro T X
  refine X.iloadN (pc' := 39) d19_38 rfl rfl ?_
  refine X.iload (pc' := 41) d19_39 rfl rfl ?_
  rw [hl, show Int32.ofNat 16 = (16 : Int32) from by decide] at V_s
  refine X.coldV (pc' := 44) (X.sStatic (wd102 hw) (wd103 hw) (wd73 hw) (wd104 hw) (by decide) rfl pd13 [(.ref t1), (.int b), (.int k)] rfl rfl d19_41) (rmNS l Z a0 hw ew t1 b k _ X.old (16 : Int32) 16 bb kk ds hl (by decide) SP hlat ks V_s rfl) (wd104 hw) (wd73 hw) (leB rfl) (leB rfl) (leB rfl) (leB rfl) all0 rfl ?_
  intro T vm h L v X K hC q
  obtain ⟨r, rfl, S_r⟩ := q
  refine X.goto (pc' := 57) d19_44 (by decide) (by decide) ?_
  exact X.retAC rfl rfl d19_57 (by decide) (by decide) ⟨_, rfl, r, rfl, S_r⟩
set_option maxRecDepth 65536 in
set_option maxHeartbeats 40000000 in
theorem ef_rmSub1_16 (m : MethodId) (s1 : Addr) (b : Int32) : entryFrame m #[(.ref s1), (.int b)] 2 = mkF m 0 #[.val (.ref s1), .val (.int b)] [] := by first | (simp [entryFrame, mkF, argsToLocals, Value.category]; done) | (rfl)
set_option maxRecDepth 65536 in
set_option maxHeartbeats 40000000 in
theorem rmSub1_16 (l : Launch) (Z : State) (a0 : Array Value) (hw : ∀ d ∈ tables_1, d.before a0 Z = true) (ew : EW Z a0 consts_1) (s1 : Addr) (b : Int32) (h0 : Heap) (O : Ext Z.heap h0) (z : Int32) (O2 : Sta Z Z.heap "java/lang/String" "COMPACT_STRINGS" "Z" (.int z)) (hz : ¬ z = 0) (fm : Value) (SF : Sta Z Z.heap "jdk/internal/util/Preconditions" "SIOOBE_FORMATTER" "Ljava/util/function/BiFunction;" fm) (rf : fm.isRef = true) (bb kk : Nat) (ds : List Int32) (hl : ds.length = 16) (k : Int32) (SP : Sp (16 : Int32) 16 b k bb kk) (S : Lat Z h0 s1 ds) :
    MCc l Z consts_1 (⟨"java/lang/String", "substring", "(I)Ljava/lang/String;"⟩ : MethodName) jdk_42_method_91_code 2 (some (.object "java/lang/String")) [] ({ frames := 7, cells := 4, slots := 60, locals := 150 } : Room) #[(.ref s1), (.int b)] h0 [] (RV (fun w h => ∃ r, w = .ref r ∧ Lat Z h r (ds.drop bb))) := by
  refine MCc.mk (a0 := a0) rfl rfl (plainFor_of_name pn0) O ew (fun m => ef_rmSub1_16 m s1 b) ?_
  intro pg ev s m below meth cd T hh X
  subst hh
  have hwl : ∀ d ∈ StrChars.Road.wordsLen, d.before a0 Z = true := fun d hd => hw d ((by decide +kernel : ∀ d ∈ StrChars.Road.wordsLen, d ∈ tables_1) d hd)
  have S0 := S.str
  refine X.aloadN (pc' := 1) d18_0 rfl rfl rfl ?_
  refine X.iloadN (pc' := 2) d18_1 rfl rfl ?_
  refine X.aloadN (pc' := 3) d18_2 rfl rfl rfl ?_
  refine X.lenStr (pc' := 6) (X.sVirtual (wd53 hw) (wd54 hw) (wd56 hw) (wd55 hw) (by decide) rfl pd2 S0.exa [] rfl rfl d18_3 (X.nf (wd51 hw) rfl)) hwl (wd7 hw) S0 O2 hz (leB rfl) (leB rfl) (leB rfl) (leB rfl) rfl ?_
  intro T X
  rw [hl, show Int32.ofNat 16 = (16 : Int32) from by decide]
  refine X.coldV (pc' := 9) (X.sVirtual (wd84 hw) (wd85 hw) (wd87 hw) (wd86 hw) (by decide) rfl pd14 S0.exa [(.int b), (.int (16 : Int32))] rfl rfl d18_6 (X.nf (wd51 hw) rfl)) (rmSub2_16 l Z a0 hw ew s1 b _ X.old z O2 hz fm SF rf bb kk ds hl k SP S) (wd88 hw) (wd8 hw) (leB rfl) (leB rfl) (leB rfl) (leB rfl) all0 rfl ?_
  intro T vm h L v X K hC q
  obtain ⟨r, rfl, S_r⟩ := q
  exact X.retAC rfl rfl d18_9 (by decide) (by decide) ⟨_, rfl, r, rfl, S_r⟩
set_option maxRecDepth 65536 in
set_option maxHeartbeats 40000000 in
theorem ef_rmWok_16 (m : MethodId) (s1 : Addr) : entryFrame m #[(.ref s1)] 2 = mkF m 0 #[.val (.ref s1), .unset] [] := by first | (simp [entryFrame, mkF, argsToLocals, Value.category]; done) | (rfl)
set_option maxRecDepth 65536 in
set_option maxHeartbeats 40000000 in
theorem rmWok_16 (l : Launch) (Z : State) (a0 : Array Value) (hw : ∀ d ∈ tables_1, d.before a0 Z = true) (ew : EW Z a0 consts_1) (s1 : Addr) (h0 : Heap) (O : Ext Z.heap h0) (z : Int32) (O2 : Sta Z Z.heap "java/lang/String" "COMPACT_STRINGS" "Z" (.int z)) (hz : ¬ z = 0) (fm : Value) (SF : Sta Z Z.heap "jdk/internal/util/Preconditions" "SIOOBE_FORMATTER" "Ljava/util/function/BiFunction;" fm) (rf : fm.isRef = true) (ds : List Int32) (hl : ds.length = 16) (S : Lat Z h0 s1 ds) :
    MCc l Z consts_1 (⟨"com/example/bounded_lock/boundedlock/LockLayout", "wokenInstanceOf", "(Ljava/lang/String;)Ljava/lang/String;"⟩ : MethodName) prog_7_method_7_code 2 (some (.object "java/lang/String")) [] ({ frames := 8, cells := 8, slots := 160, locals := 180 } : Room) #[(.ref s1)] h0 [] (RV (fun w h => (w = .null ∧ ∀ j, j < 10 → ¬ MarkN ds 16 j) ∨ ∃ i r, i < 10 ∧ MarkN ds 16 i ∧ (∀ j, i < j → j < 10 → ¬ MarkN ds 16 j) ∧ w = .ref r ∧ Lat Z h r (ds.drop (i + 7)))) := by
  refine MCc.mk (a0 := a0) rfl rfl (plainFor_of_name pn6) O ew (fun m => ef_rmWok_16 m s1) ?_
  intro pg ev s m below meth cd T hh X
  subst hh
  have hwl : ∀ d ∈ StrChars.Road.wordsLen, d.before a0 Z = true := fun d hd => hw d ((by decide +kernel : ∀ d ∈ StrChars.Road.wordsLen, d ∈ tables_1) d hd)
  obtain ⟨R, HL0⟩ := Last.exists (MarkN ds 16) 10
  refine X.aloadN (pc' := 1) d10_0 rfl rfl rfl ?_
  refine X.ldcS (pc' := 3) (vs := [(.int (32 : Int32)), (.int (119 : Int32)), (.int (111 : Int32)), (.int (107 : Int32)), (.int (101 : Int32)), (.int (110 : Int32)), (.int (58 : Int32))]) (z := (7 : Int32)) (wd45 hw) (sa1 hw) (by simp [consts_1, Jvm.Pilot.@@N@@.x]) (by decide) (by decide) rfl d10_1 28 (by decide) (by decide) (leB rfl) (leB rfl) rfl ?_
  intro T vm h l1 q1 ka_q1 Ex hC E_l1 F_l1_coder F_l1_value V_q1 lt_l1 lt_q1 sf X
  replace S := S.ext Ex
  have M : Lat Z h l1 mkw := ⟨q1, ka_q1, E_l1, F_l1_value, F_l1_coder, by rw [mkw_v]; exact V_q1, mkw_l, by decide⟩
  refine X.callP (pc' := 6) (X.sVirtual (wd48 hw) (wd49 hw) (wd51 hw) (wd50 hw) (by decide) rfl pd15 S.str.exa [(.ref l1)] rfl rfl d10_3 (X.nf (wd51 hw) rfl)) (rmSL1_16 l Z a0 hw s1 l1 _ X.old z O2 hz ds hl S M R HL0) (wd52 hw) (wd8 hw) (leB rfl) (leB rfl) (leB rfl) (leB rfl) rfl ?_
  intro T L v X q
  obtain ⟨Q, rfl, HQ⟩ := q
  refine X.istoreN (pc' := 7) #[.val (.ref s1), .val (.int Q)] d10_6 rfl rfl ?_
  refine X.iloadN (pc' := 8) d10_7 rfl rfl ?_
  have hm := Or.symm HQ
  rcases hm with hm | hm
  · obtain ⟨HN, rfl⟩ := hm
    refine X.ifN (pc' := 11) d10_8 (by decide) rfl ?_
    refine X.aconstNull (pc' := 12) d10_11 rfl ?_
    exact X.retAC rfl rfl d10_12 (by decide) (by decide) ⟨_, rfl, Or.inl ⟨rfl, HN⟩⟩
  · obtain ⟨i, i1, i2, i3, rfl⟩ := hm
    refine X.ifY (pc' := 13) d10_8 ((if0 _ _).trans (flt (ofn0 (by omega))).2.1) (by decide) (by decide) ?_
    refine X.aloadN (pc' := 14) d10_13 rfl rfl rfl ?_
    refine X.iloadN (pc' := 15) d10_14 rfl rfl ?_
    refine X.ldcS (pc' := 17) (vs := [(.int (32 : Int32)), (.int (119 : Int32)), (.int (111 : Int32)), (.int (107 : Int32)), (.int (101 : Int32)), (.int (110 : Int32)), (.int (58 : Int32))]) (z := (7 : Int32)) (wd45 hw) (sa1 hw) (by simp [consts_1, Jvm.Pilot.@@N@@.x]) (by decide) (by decide) rfl d10_15 28 (by decide) (by decide) (leB rfl) (leB rfl) rfl ?_
    intro T vm h l2 q2 ka_q2 Ex hC E_l2 F_l2_coder F_l2_value V_q2 lt_l2 lt_q2 sf X
    replace S := S.ext Ex
    have M : Lat Z h l2 mkw := ⟨q2, ka_q2, E_l2, F_l2_value, F_l2_coder, by rw [mkw_v]; exact V_q2, mkw_l, by decide⟩
    have M0 := M.str
    refine X.lenStr (pc' := 20) (X.sVirtual (wd78 hw) (wd54 hw) (wd56 hw) (wd55 hw) (by decide) rfl pd2 M0.exa [] rfl rfl d10_17 (X.nf (wd51 hw) rfl)) hwl (wd7 hw) M0 O2 hz (leB rfl) (leB rfl) (leB rfl) (leB rfl) rfl ?_
    intro T X
    rw [show mkw.length = 7 from rfl, show Int32.ofNat 7 = (7 : Int32) from by decide]
    refine X.iadd (pc' := 21) d10_20 rfl ?_
    refine X.coldV (pc' := 24) (X.sVirtual (wd79 hw) (wd80 hw) (wd82 hw) (wd81 hw) (by decide) rfl pd16 S.str.exa [(.int ((Int32.ofNat i) + (7 : Int32)))] rfl rfl d10_21 (X.nf (wd51 hw) rfl)) (rmSub1_16 l Z a0 hw ew s1 _ _ X.old z O2 hz fm SF rf _ _ ds hl _ (sp16 i2.1) S) (wd83 hw) (wd8 hw) (leB rfl) (leB rfl) (leB rfl) (leB rfl) all0 rfl ?_
    intro T vm h L v X K hC q
    obtain ⟨r, rfl, S_r⟩ := q
    exact X.retAC rfl rfl d10_24 (by decide) (by decide) ⟨_, rfl, Or.inr ⟨i, r, i1, i2, i3, rfl, S_r⟩⟩
theorem chl {x : Int64} {y : Int32} (h : (x &&& (255 : Int64)).toInt32.toUInt32.toUInt16.toUInt32.toInt32 = y) : ((¬ y < 0 ∧ ¬ (255 : Int32) < y) ∧ nar .char y = y) := by
  have h1 := c_maskL x 255 8 (by decide) (by decide)
  generalize hw : (x &&& (255 : Int64)) = w at h h1
  have h2 := c_l2i w
  have h3 := rng32 w.toInt32
  have e : (w.toInt32 &&& (255 : Int32)) = w.toInt32 := by
    have q := c_and w.toInt32 255 (by decide)
    have h5 : 0 ≤ w.toInt32.toInt ∧ w.toInt32.toInt ≤ 255 := by omega
    have hx : w.toInt32 = Int32.ofNat w.toInt32.toInt.toNat := by
      apply Int32.toInt_inj.mp
      rw [ofn (by omega)]; omega
    rw [hx]
    exact (by decide +kernel : ∀ j : Fin 256, (Int32.ofNat j.val &&& (255 : Int32)) = Int32.ofNat j.val) ⟨w.toInt32.toInt.toNat, by omega⟩
  exact chr255 (x := w.toInt32) (by rw [e]; exact h)
set_option maxRecDepth 65536 in
set_option maxHeartbeats 40000000 in
theorem ef_rmCh (m : MethodId) (p : Int64) (k : Int32) : entryFrame m #[(.long p), (.int k)] 3 = mkF m 0 #[.val (.long p), .second, .val (.int k)] [] := by first | (simp [entryFrame, mkF, argsToLocals, Value.category]; done) | (rfl)
set_option maxRecDepth 65536 in
set_option maxHeartbeats 40000000 in
theorem rmCh (l : Launch) (Z : State) (a0 : Array Value) (hw : ∀ d ∈ tables_1, d.before a0 Z = true) (p : Int64) (k : Int32) (h0 : Heap) (O : Ext Z.heap h0)  :
    MN l Z (⟨"com/example/bounded_lock/boundedlock/LockLayoutWokenInstanceOfPinLaw", "ch", "(JI)C"⟩ : MethodName) method_3_code 3 (some .char) [] ({ frames := 0, cells := 0, slots := 0, locals := 0 } : Room) #[(.long p), (.int k)] h0 [] (RP h0 (fun w => ∃ y : Int32, w = .int y ∧ ((¬ y < 0 ∧ ¬ (255 : Int32) < y) ∧ nar .char y = y))) := by
  refine MN.mk (a0 := a0) rfl rfl (plainFor_of_name pn1) O (fun m => ef_rmCh m p k) ?_
  intro pg ev s m below meth cd T hh X
  subst hh
  refine X.lloadN (pc' := 1) d1_0 rfl rfl ?_
  refine X.bipush (pc' := 3) (8 : Int32) d1_1 rfl rfl ?_
  refine X.iloadN (pc' := 4) d1_3 rfl rfl ?_
  refine X.imul (pc' := 5) d1_4 rfl ?_
  refine X.lushr (pc' := 6) d1_5 rfl ?_
  refine X.ldcJ (pc' := 9) (wd5 hw) d1_6 rfl ?_
  refine X.land (pc' := 10) d1_9 rfl ?_
  refine X.l2i (pc' := 11) d1_10 rfl ?_
  refine X.i2c (pc' := 12) d1_11 rfl ?_
  generalize hg_y : ((((XT.ushrL p ((8 : Int32) * k)) &&& (255 : Int64)).toInt32).toUInt32.toUInt16.toUInt32.toInt32) = y
  have r_y := chl hg_y
  exact X.retIN (by simp) (congrArg Value.int r_y.2) d1_12 (by decide) (by decide) ⟨_, rfl, rfl, y, rfl, r_y⟩
set_option maxRecDepth 65536 in
set_option maxHeartbeats 40000000 in
theorem ef_rmPut (m : MethodId) (a : Addr) (p : Int32) : entryFrame m #[(.ref a), (.int p)] 2 = mkF m 0 #[.val (.ref a), .val (.int p)] [] := by first | (simp [entryFrame, mkF, argsToLocals, Value.category]; done) | (rfl)
set_option maxRecDepth 65536 in
set_option maxHeartbeats 40000000 in
theorem rmPut (l : Launch) (Z : State) (a0 : Array Value) (hw : ∀ d ∈ tables_1, d.before a0 Z = true) (a : Addr) (p : Int32) (h0 : Heap) (O : Ext Z.heap h0) (za : Z.heap.size ≤ a) (hp : ¬ p < 0 ∧ p < 10) (cs : List Int32) (C : Chs Z h0 a cs) :
    MN l Z (⟨"com/example/bounded_lock/boundedlock/LockLayoutWokenInstanceOfPinLaw", "put", "([CI)V"⟩ : MethodName) method_4_code 2 none [] ({ frames := 0, cells := 0, slots := 0, locals := 0 } : Room) #[(.ref a), (.int p)] h0 [a] (RU (fun h => ∃ cs', Chs Z h a cs')) := by
  refine MN.mk (a0 := a0) rfl rfl (plainFor_of_name pn1) O (fun m => ef_rmPut m a p) ?_
  intro pg ev s m below meth cd T hh X
  subst hh
  obtain ⟨q, rfl⟩ := put_r hp
  obtain ⟨ka, V0, l0, g0⟩ := C
  refine X.aloadN (pc' := 1) d17_0 rfl rfl rfl ?_
  refine X.iloadN (pc' := 2) d17_1 rfl rfl ?_
  refine X.bipush (pc' := 4) (32 : Int32) d17_2 rfl rfl ?_
  have b0 := (by decide : ∀ q : Fin 10, ¬ ((Int32.ofNat q.val) : Int32) < 0 ∧ ((Int32.ofNat q.val) : Int32) < 16 ∧ ((Int32.ofNat q.val) : Int32).toNatClampNeg < 16) q
  refine X.castore (pc' := 5) V0 ⟨b0.1, b0.2.1⟩ _ rfl (by rw [List.length_map, l0]; exact b0.2.2) za (Or.inl (List.mem_of_getElem? (i := 0) rfl)) d17_4 rfl ?_
  intro T h L X W V1
  obtain ⟨cs1, e0⟩ : ∃ q9, q9 = cs.set (Int32.ofNat q.val).toNatClampNeg (32 : Int32) := ⟨_, rfl⟩
  have V1 : Arv Z h a ka .char 16 (cs1.map Value.int) (.int 0) := by rw [e0, List.map_set]; exact V1
  have l1 : cs1.length = 16 := by rw [e0, List.length_set]; exact l0
  have g1 : ∀ c ∈ cs1, ¬ c < 0 ∧ ¬ (255 : Int32) < c := by rw [e0]; exact lat_set g0 (by decide)
  refine X.aloadN (pc' := 6) d17_5 rfl rfl rfl ?_
  refine X.iloadN (pc' := 7) d17_6 rfl rfl ?_
  refine X.iconst (pc' := 8) (1 : Int32) d17_7 rfl rfl ?_
  refine X.iadd (pc' := 9) d17_8 rfl ?_
  refine X.bipush (pc' := 11) (119 : Int32) d17_9 rfl rfl ?_
  have b1 := (by decide : ∀ q : Fin 10, ¬ ((Int32.ofNat q.val + (1 : Int32)) : Int32) < 0 ∧ ((Int32.ofNat q.val + (1 : Int32)) : Int32) < 16 ∧ ((Int32.ofNat q.val + (1 : Int32)) : Int32).toNatClampNeg < 16) q
  refine X.castore (pc' := 12) V1 ⟨b1.1, b1.2.1⟩ _ rfl (by rw [List.length_map, l1]; exact b1.2.2) za (Or.inl (List.mem_of_getElem? (i := 0) rfl)) d17_11 rfl ?_
  intro T h L X W V1
  obtain ⟨cs2, e1⟩ : ∃ q9, q9 = cs1.set (Int32.ofNat q.val + (1 : Int32)).toNatClampNeg (119 : Int32) := ⟨_, rfl⟩
  have V2 : Arv Z h a ka .char 16 (cs2.map Value.int) (.int 0) := by rw [e1, List.map_set]; exact V1
  have l2 : cs2.length = 16 := by rw [e1, List.length_set]; exact l1
  have g2 : ∀ c ∈ cs2, ¬ c < 0 ∧ ¬ (255 : Int32) < c := by rw [e1]; exact lat_set g1 (by decide)
  refine X.aloadN (pc' := 13) d17_12 rfl rfl rfl ?_
  refine X.iloadN (pc' := 14) d17_13 rfl rfl ?_
  refine X.iconst (pc' := 15) (2 : Int32) d17_14 rfl rfl ?_
  refine X.iadd (pc' := 16) d17_15 rfl ?_
  refine X.bipush (pc' := 18) (111 : Int32) d17_16 rfl rfl ?_
  have b2 := (by decide : ∀ q : Fin 10, ¬ ((Int32.ofNat q.val + (2 : Int32)) : Int32) < 0 ∧ ((Int32.ofNat q.val + (2 : Int32)) : Int32) < 16 ∧ ((Int32.ofNat q.val + (2 : Int32)) : Int32).toNatClampNeg < 16) q
  refine X.castore (pc' := 19) V2 ⟨b2.1, b2.2.1⟩ _ rfl (by rw [List.length_map, l2]; exact b2.2.2) za (Or.inl (List.mem_of_getElem? (i := 0) rfl)) d17_18 rfl ?_
  intro T h L X W V1
  obtain ⟨cs3, e2⟩ : ∃ q9, q9 = cs2.set (Int32.ofNat q.val + (2 : Int32)).toNatClampNeg (111 : Int32) := ⟨_, rfl⟩
  have V3 : Arv Z h a ka .char 16 (cs3.map Value.int) (.int 0) := by rw [e2, List.map_set]; exact V1
  have l3 : cs3.length = 16 := by rw [e2, List.length_set]; exact l2
  have g3 : ∀ c ∈ cs3, ¬ c < 0 ∧ ¬ (255 : Int32) < c := by rw [e2]; exact lat_set g2 (by decide)
  refine X.aloadN (pc' := 20) d17_19 rfl rfl rfl ?_
  refine X.iloadN (pc' := 21) d17_20 rfl rfl ?_
  refine X.iconst (pc' := 22) (3 : Int32) d17_21 rfl rfl ?_
  refine X.iadd (pc' := 23) d17_22 rfl ?_
  refine X.bipush (pc' := 25) (107 : Int32) d17_23 rfl rfl ?_
  have b3 := (by decide : ∀ q : Fin 10, ¬ ((Int32.ofNat q.val + (3 : Int32)) : Int32) < 0 ∧ ((Int32.ofNat q.val + (3 : Int32)) : Int32) < 16 ∧ ((Int32.ofNat q.val + (3 : Int32)) : Int32).toNatClampNeg < 16) q
  refine X.castore (pc' := 26) V3 ⟨b3.1, b3.2.1⟩ _ rfl (by rw [List.length_map, l3]; exact b3.2.2) za (Or.inl (List.mem_of_getElem? (i := 0) rfl)) d17_25 rfl ?_
  intro T h L X W V1
  obtain ⟨cs4, e3⟩ : ∃ q9, q9 = cs3.set (Int32.ofNat q.val + (3 : Int32)).toNatClampNeg (107 : Int32) := ⟨_, rfl⟩
  have V4 : Arv Z h a ka .char 16 (cs4.map Value.int) (.int 0) := by rw [e3, List.map_set]; exact V1
  have l4 : cs4.length = 16 := by rw [e3, List.length_set]; exact l3
  have g4 : ∀ c ∈ cs4, ¬ c < 0 ∧ ¬ (255 : Int32) < c := by rw [e3]; exact lat_set g3 (by decide)
  refine X.aloadN (pc' := 27) d17_26 rfl rfl rfl ?_
  refine X.iloadN (pc' := 28) d17_27 rfl rfl ?_
  refine X.iconst (pc' := 29) (4 : Int32) d17_28 rfl rfl ?_
  refine X.iadd (pc' := 30) d17_29 rfl ?_
  refine X.bipush (pc' := 32) (101 : Int32) d17_30 rfl rfl ?_
  have b4 := (by decide : ∀ q : Fin 10, ¬ ((Int32.ofNat q.val + (4 : Int32)) : Int32) < 0 ∧ ((Int32.ofNat q.val + (4 : Int32)) : Int32) < 16 ∧ ((Int32.ofNat q.val + (4 : Int32)) : Int32).toNatClampNeg < 16) q
  refine X.castore (pc' := 33) V4 ⟨b4.1, b4.2.1⟩ _ rfl (by rw [List.length_map, l4]; exact b4.2.2) za (Or.inl (List.mem_of_getElem? (i := 0) rfl)) d17_32 rfl ?_
  intro T h L X W V1
  obtain ⟨cs5, e4⟩ : ∃ q9, q9 = cs4.set (Int32.ofNat q.val + (4 : Int32)).toNatClampNeg (101 : Int32) := ⟨_, rfl⟩
  have V5 : Arv Z h a ka .char 16 (cs5.map Value.int) (.int 0) := by rw [e4, List.map_set]; exact V1
  have l5 : cs5.length = 16 := by rw [e4, List.length_set]; exact l4
  have g5 : ∀ c ∈ cs5, ¬ c < 0 ∧ ¬ (255 : Int32) < c := by rw [e4]; exact lat_set g4 (by decide)
  refine X.aloadN (pc' := 34) d17_33 rfl rfl rfl ?_
  refine X.iloadN (pc' := 35) d17_34 rfl rfl ?_
  refine X.iconst (pc' := 36) (5 : Int32) d17_35 rfl rfl ?_
  refine X.iadd (pc' := 37) d17_36 rfl ?_
  refine X.bipush (pc' := 39) (110 : Int32) d17_37 rfl rfl ?_
  have b5 := (by decide : ∀ q : Fin 10, ¬ ((Int32.ofNat q.val + (5 : Int32)) : Int32) < 0 ∧ ((Int32.ofNat q.val + (5 : Int32)) : Int32) < 16 ∧ ((Int32.ofNat q.val + (5 : Int32)) : Int32).toNatClampNeg < 16) q
  refine X.castore (pc' := 40) V5 ⟨b5.1, b5.2.1⟩ _ rfl (by rw [List.length_map, l5]; exact b5.2.2) za (Or.inl (List.mem_of_getElem? (i := 0) rfl)) d17_39 rfl ?_
  intro T h L X W V1
  obtain ⟨cs6, e5⟩ : ∃ q9, q9 = cs5.set (Int32.ofNat q.val + (5 : Int32)).toNatClampNeg (110 : Int32) := ⟨_, rfl⟩
  have V6 : Arv Z h a ka .char 16 (cs6.map Value.int) (.int 0) := by rw [e5, List.map_set]; exact V1
  have l6 : cs6.length = 16 := by rw [e5, List.length_set]; exact l5
  have g6 : ∀ c ∈ cs6, ¬ c < 0 ∧ ¬ (255 : Int32) < c := by rw [e5]; exact lat_set g5 (by decide)
  refine X.aloadN (pc' := 41) d17_40 rfl rfl rfl ?_
  refine X.iloadN (pc' := 42) d17_41 rfl rfl ?_
  refine X.bipush (pc' := 44) (6 : Int32) d17_42 rfl rfl ?_
  refine X.iadd (pc' := 45) d17_44 rfl ?_
  refine X.bipush (pc' := 47) (58 : Int32) d17_45 rfl rfl ?_
  have b6 := (by decide : ∀ q : Fin 10, ¬ ((Int32.ofNat q.val + (6 : Int32)) : Int32) < 0 ∧ ((Int32.ofNat q.val + (6 : Int32)) : Int32) < 16 ∧ ((Int32.ofNat q.val + (6 : Int32)) : Int32).toNatClampNeg < 16) q
  refine X.castore (pc' := 48) V6 ⟨b6.1, b6.2.1⟩ _ rfl (by rw [List.length_map, l6]; exact b6.2.2) za (Or.inl (List.mem_of_getElem? (i := 0) rfl)) d17_47 rfl ?_
  intro T h L X W V1
  obtain ⟨cs7, e6⟩ : ∃ q9, q9 = cs6.set (Int32.ofNat q.val + (6 : Int32)).toNatClampNeg (58 : Int32) := ⟨_, rfl⟩
  have V7 : Arv Z h a ka .char 16 (cs7.map Value.int) (.int 0) := by rw [e6, List.map_set]; exact V1
  have l7 : cs7.length = 16 := by rw [e6, List.length_set]; exact l6
  have g7 : ∀ c ∈ cs7, ¬ c < 0 ∧ ¬ (255 : Int32) < c := by rw [e6]; exact lat_set g6 (by decide)
  exact X.retUN d17_48 (by decide) (by decide) ⟨rfl, cs7, ka, V7, l7, g7⟩
set_option maxRecDepth 65536 in
set_option maxHeartbeats 40000000 in
theorem ef_rmSame (m : MethodId) (r : Addr) (a : Addr) (f : Int32) (j : Int32) : entryFrame m #[(.ref r), (.ref a), (.int f), (.int j)] 4 = mkF m 0 #[.val (.ref r), .val (.ref a), .val (.int f), .val (.int j)] [] := by first | (simp [entryFrame, mkF, argsToLocals, Value.category]; done) | (rfl)
set_option maxRecDepth 65536 in
set_option maxHeartbeats 40000000 in
theorem rmSame (l : Launch) (Z : State) (a0 : Array Value) (hw : ∀ d ∈ tables_1, d.before a0 Z = true) (r : Addr) (a : Addr) (f : Int32) (j : Int32) (h0 : Heap) (O : Ext Z.heap h0) (z : Int32) (O2 : Sta Z Z.heap "java/lang/String" "COMPACT_STRINGS" "Z" (.int z)) (hz : ¬ z = 0) (fm : Value) (SF : Sta Z Z.heap "jdk/internal/util/Preconditions" "SIOOBE_FORMATTER" "Ljava/util/function/BiFunction;" fm) (rf : fm.isRef = true) (es cs : List Int32) (S : Lat Z h0 r es) (C : Chs Z h0 a cs) (ff jj : Nat) (hf : f = Int32.ofNat ff) (hj : j = Int32.ofNat jj) (hjj : jj ≤ 20) (hfe : ff + es.length ≤ 16) (he : ∀ q, q < es.length → es.getD q 0 = cs.getD (ff + q) 0) :
    MN l Z (⟨"com/example/bounded_lock/boundedlock/LockLayoutWokenInstanceOfPinLaw", "same", "(Ljava/lang/String;[CII)Z"⟩ : MethodName) method_7_code 4 (some .boolean) [] ({ frames := 5, cells := 0, slots := 0, locals := 90 } : Room) #[(.ref r), (.ref a), (.int f), (.int j)] h0 [] (RP h0 (fun w => w = .int 1)) := by
  refine MN.mk (a0 := a0) rfl rfl (plainFor_of_name pn1) O (fun m => ef_rmSame m r a f j) ?_
  intro pg ev s m below meth cd T hh X
  subst hh
  have hwl : ∀ d ∈ StrChars.Road.wordsLen, d.before a0 Z = true := fun d hd => hw d ((by decide +kernel : ∀ d ∈ StrChars.Road.wordsLen, d ∈ tables_1) d hd)
  have hwc : ∀ d ∈ StrChars.Road.wordsChN, d.before a0 Z = true := fun d hd => hw d ((by decide +kernel : ∀ d ∈ StrChars.Road.wordsChN, d ∈ tables_1) d hd)
  have S0 := S.str
  have ld : ∀ c ∈ es, ¬ (255 : Int32) < c := by obtain ⟨_, _, _, _, _, _, q, -⟩ := S; exact fun c hc => (q c hc).2
  obtain ⟨ka, V_a, hl, -⟩ := C
  refine X.iloadN (pc' := 1) d24_0 rfl rfl ?_
  refine X.aloadN (pc' := 2) d24_1 rfl rfl rfl ?_
  refine X.lenStr (pc' := 5) (X.sVirtual (wd106 hw) (wd54 hw) (wd56 hw) (wd55 hw) (by decide) rfl pd2 S0.exa [] rfl rfl d24_2 (X.nf (wd51 hw) rfl)) hwl (wd7 hw) S0 O2 hz (leB rfl) (leB rfl) (leB rfl) (leB rfl) rfl ?_
  intro T X
  have ej : (Int32.ofNat jj).toInt = jj := ofn (by omega)
  have el : (Int32.ofNat es.length).toInt = es.length := ofn (by omega)
  have ef : (Int32.ofNat (ff + jj)).toNatClampNeg = ff + jj := ofnC (by omega)
  by_cases hlt : jj < es.length
  · refine X.icN (pc' := 8) d24_5 ((tlt (by rw [hj, Int32.lt_iff_toInt_lt, ej, el]; omega)).2.1) rfl ?_
    refine X.aloadN (pc' := 9) d24_8 rfl rfl rfl ?_
    refine X.iloadN (pc' := 10) d24_9 rfl rfl ?_
    refine X.chStr (pc' := 13) (i := jj) (X.sVirtual (wd132 hw) (wd133 hw) (wd135 hw) (wd134 hw) (by decide) rfl pd17 S0.exa [(.int j)] rfl rfl d24_10 (X.nf (wd51 hw) rfl)) hwc (wd7 hw) S0 ld O2 hz SF rf hlt hj (leB rfl) (leB rfl) (leB rfl) (leB rfl) rfl ?_
    intro T X
    refine X.aloadN (pc' := 14) d24_13 rfl rfl rfl ?_
    refine X.iloadN (pc' := 15) d24_14 rfl rfl ?_
    refine X.iloadN (pc' := 16) d24_15 rfl rfl ?_
    refine X.iadd (pc' := 17) d24_16 rfl ?_
    rw [hf, hj, ← Int32.ofNat_add]
    have h16 : Int32.ofNat (ff + jj) < 16 := by rw [Int32.lt_iff_toInt_lt, ofn (by omega), show (16 : Int32).toInt = 16 from rfl]; omega
    refine X.caload (pc' := 18) V_a ⟨ofn0 (by omega), h16⟩ (v := (cs.getD (ff + jj) 0)) (by rw [ef]; exact at_int (by omega)) d24_17 rfl ?_
    refine X.icN (pc' := 21) d24_18 ((teq (he jj hlt)).2) rfl ?_
    refine X.iconst (pc' := 22) (1 : Int32) d24_21 rfl rfl ?_
    refine X.goto (pc' := 26) d24_22 (by decide) (by decide) ?_
    exact X.retIN (by simp) rfl d24_26 (by decide) (by decide) ⟨_, rfl, rfl, rfl⟩
  · refine X.icY (pc' := 21) d24_5 ((flt (by rw [hj, Int32.lt_iff_toInt_lt, ej, el]; omega)).2.1) (by decide) (by decide) ?_
    refine X.iconst (pc' := 22) (1 : Int32) d24_21 rfl rfl ?_
    refine X.goto (pc' := 26) d24_22 (by decide) (by decide) ?_
    exact X.retIN (by simp) rfl d24_26 (by decide) (by decide) ⟨_, rfl, rfl, rfl⟩
theorem nar_lat {x : Int32} (h : ¬ x < 0 ∧ ¬ (255 : Int32) < x) : nar .char x = x := by
  have e : (x &&& (255 : Int32)) = x := by
    obtain ⟨h1, h2⟩ := h
    rw [Int32.lt_iff_toInt_lt] at h1 h2
    have e0 : (0 : Int32).toInt = 0 := rfl
    have e1 : (255 : Int32).toInt = 255 := rfl
    have hx : x = Int32.ofNat x.toInt.toNat := by
      apply Int32.toInt_inj.mp
      rw [ofn (by omega)]; omega
    rw [hx]
    exact (by decide +kernel : ∀ j : Fin 256, (Int32.ofNat j.val &&& (255 : Int32)) = Int32.ofNat j.val) ⟨x.toInt.toNat, by omega⟩
  have q := i2c_mask x
  rw [e] at q
  exact q
theorem take7 {cs : List Int32} (h : cs.length = 16) : [cs.getD 0 0, cs.getD 1 0, cs.getD 2 0, cs.getD 3 0, cs.getD 4 0, cs.getD 5 0, cs.getD 6 0] = cs.take 7 := by
  match cs, h with
  | [a0, a1, a2, a3, a4, a5, a6, a7, a8, a9, a10, a11, a12, a13, a14, a15], _ => rfl
set_option maxRecDepth 65536 in
set_option maxHeartbeats 40000000 in
theorem ef_rm0 (m : MethodId) (p1 : Int64) (p2 : Int64) (p3 : Int32) : entryFrame m #[(.long p1), (.long p2), (.int p3)] maxLocals = mkF m 0 #[.val (.long p1), .second, .val (.long p2), .second, .val (.int p3), .unset, .unset, .unset, .unset, .unset, .unset, .unset] [] := by first | (simp [entryFrame, mkF, argsToLocals, Value.category, maxLocals]; done) | (rfl)
set_option maxRecDepth 65536 in
set_option maxHeartbeats 40000000 in
theorem rm0 (l : Launch) (Z : State) (a0 : Array Value) (hw : ∀ d ∈ tables_1, d.before a0 Z = true) (ew : EW Z a0 consts_1) (p1 : Int64) (p2 : Int64) (p3 : Int32) (h0 : Heap) (O : Ext Z.heap h0) (z : Int32) (O2 : Sta Z Z.heap "java/lang/String" "COMPACT_STRINGS" "Z" (.int z)) (hz : ¬ z = 0) (fm : Value) (SF : Sta Z Z.heap "jdk/internal/util/Preconditions" "SIOOBE_FORMATTER" "Ljava/util/function/BiFunction;" fm) (rf : fm.isRef = true) :
    MCc l Z consts_1 x code maxLocals ret tables_1 room_1 #[(.long p1), (.long p2), (.int p3)] h0 [] (RV (fun w h => w = .int 1)) := by
  refine MCc.mk (a0 := a0) rfl rfl (plainFor_of_name pn1) O ew (fun m => ef_rm0 m p1 p2 p3) ?_
  intro pg ev s m below meth cd T hh X
  subst hh
  have hws : ∀ d ∈ StrChars.Road.words, d.before a0 Z = true := fun d hd => hw d ((by decide +kernel : ∀ d ∈ StrChars.Road.words, d ∈ tables_1) d hd)
  have hwl : ∀ d ∈ StrChars.Road.wordsLen, d.before a0 Z = true := fun d hd => hw d ((by decide +kernel : ∀ d ∈ StrChars.Road.wordsLen, d ∈ tables_1) d hd)
  refine X.bipush (pc' := 2) (16 : Int32) at_0 rfl rfl ?_
  refine X.newP (pc' := 4) (aty := .char) (wd0 hw) at_2 (by decide) 16 (by decide) (by decide) (by decide) (by decide) rfl ?_
  intro T h a ka_a g_a Ex lt_a V_a X1
  have z_a : Z.heap.size ≤ a := by rw [g_a]; exact X.old.1
  have s_a : s.heap.size ≤ a := by rw [g_a]; exact X.kp.1
  replace X := X1
  replace V_a : Arv Z h a ka_a .char (16 : Int32) [(.int (0 : Int32)), (.int (0 : Int32)), (.int (0 : Int32)), (.int (0 : Int32)), (.int (0 : Int32)), (.int (0 : Int32)), (.int (0 : Int32)), (.int (0 : Int32)), (.int (0 : Int32)), (.int (0 : Int32)), (.int (0 : Int32)), (.int (0 : Int32)), (.int (0 : Int32)), (.int (0 : Int32)), (.int (0 : Int32)), (.int (0 : Int32))] (.int (0 : Int32)) := (Arv.pad V_a (pad_rep [] (.int (0 : Int32)) 16))
  refine X.astore (pc' := 6) #[.val (.long p1), .second, .val (.long p2), .second, .val (.int p3), .val (.ref a), .unset, .unset, .unset, .unset, .unset, .unset] at_4 rfl rfl rfl ?_
  refine X.aload (pc' := 8) at_6 rfl rfl rfl ?_
  refine X.iconst (pc' := 9) (0 : Int32) at_8 rfl rfl ?_
  refine X.lloadN (pc' := 10) at_9 rfl rfl ?_
  refine X.iconst (pc' := 11) (0 : Int32) at_10 rfl rfl ?_
  refine X.callP (pc' := 14) (X.sStatic (wd1 hw) (wd2 hw) (wd3 hw) (wd4 hw) (by decide) rfl pd18 [(.long p1), (.int (0 : Int32))] rfl rfl at_11) (rmCh l Z a0 hw p1 (0 : Int32) _ X.old) (wd4 hw) (wd3 hw) (leB rfl) (leB rfl) (leB rfl) (leB rfl) rfl ?_
  intro T L v X q
  obtain ⟨k0, rfl, r_k0⟩ := q
  refine X.castore (pc' := 15) V_a ⟨by decide, by decide⟩ 0 rfl (Nat.le_of_ble_eq_true rfl) z_a (Or.inr s_a) at_14 rfl ?_
  intro T h L X W V1
  rw [r_k0.2] at V1
  replace lt_a := Nat.lt_of_lt_of_le lt_a (Keep.of_wr W).1
  replace V_a : Arv Z h a ka_a .char (16 : Int32) [(.int k0), (.int (0 : Int32)), (.int (0 : Int32)), (.int (0 : Int32)), (.int (0 : Int32)), (.int (0 : Int32)), (.int (0 : Int32)), (.int (0 : Int32)), (.int (0 : Int32)), (.int (0 : Int32)), (.int (0 : Int32)), (.int (0 : Int32)), (.int (0 : Int32)), (.int (0 : Int32)), (.int (0 : Int32)), (.int (0 : Int32))] (.int (0 : Int32)) := V1
  refine X.aload (pc' := 17) at_15 rfl rfl rfl ?_
  refine X.iconst (pc' := 18) (1 : Int32) at_17 rfl rfl ?_
  refine X.lloadN (pc' := 19) at_18 rfl rfl ?_
  refine X.iconst (pc' := 20) (1 : Int32) at_19 rfl rfl ?_
  refine X.callP (pc' := 23) (X.sStatic (wd1 hw) (wd2 hw) (wd3 hw) (wd4 hw) (by decide) rfl pd18 [(.long p1), (.int (1 : Int32))] rfl rfl at_20) (rmCh l Z a0 hw p1 (1 : Int32) _ X.old) (wd4 hw) (wd3 hw) (leB rfl) (leB rfl) (leB rfl) (leB rfl) rfl ?_
  intro T L v X q
  obtain ⟨k1, rfl, r_k1⟩ := q
  refine X.castore (pc' := 24) V_a ⟨by decide, by decide⟩ 1 rfl (Nat.le_of_ble_eq_true rfl) z_a (Or.inr s_a) at_23 rfl ?_
  intro T h L X W V1
  rw [r_k1.2] at V1
  replace lt_a := Nat.lt_of_lt_of_le lt_a (Keep.of_wr W).1
  replace V_a : Arv Z h a ka_a .char (16 : Int32) [(.int k0), (.int k1), (.int (0 : Int32)), (.int (0 : Int32)), (.int (0 : Int32)), (.int (0 : Int32)), (.int (0 : Int32)), (.int (0 : Int32)), (.int (0 : Int32)), (.int (0 : Int32)), (.int (0 : Int32)), (.int (0 : Int32)), (.int (0 : Int32)), (.int (0 : Int32)), (.int (0 : Int32)), (.int (0 : Int32))] (.int (0 : Int32)) := V1
  refine X.aload (pc' := 26) at_24 rfl rfl rfl ?_
  refine X.iconst (pc' := 27) (2 : Int32) at_26 rfl rfl ?_
  refine X.lloadN (pc' := 28) at_27 rfl rfl ?_
  refine X.iconst (pc' := 29) (2 : Int32) at_28 rfl rfl ?_
  refine X.callP (pc' := 32) (X.sStatic (wd1 hw) (wd2 hw) (wd3 hw) (wd4 hw) (by decide) rfl pd18 [(.long p1), (.int (2 : Int32))] rfl rfl at_29) (rmCh l Z a0 hw p1 (2 : Int32) _ X.old) (wd4 hw) (wd3 hw) (leB rfl) (leB rfl) (leB rfl) (leB rfl) rfl ?_
  intro T L v X q
  obtain ⟨k2, rfl, r_k2⟩ := q
  refine X.castore (pc' := 33) V_a ⟨by decide, by decide⟩ 2 rfl (Nat.le_of_ble_eq_true rfl) z_a (Or.inr s_a) at_32 rfl ?_
  intro T h L X W V1
  rw [r_k2.2] at V1
  replace lt_a := Nat.lt_of_lt_of_le lt_a (Keep.of_wr W).1
  replace V_a : Arv Z h a ka_a .char (16 : Int32) [(.int k0), (.int k1), (.int k2), (.int (0 : Int32)), (.int (0 : Int32)), (.int (0 : Int32)), (.int (0 : Int32)), (.int (0 : Int32)), (.int (0 : Int32)), (.int (0 : Int32)), (.int (0 : Int32)), (.int (0 : Int32)), (.int (0 : Int32)), (.int (0 : Int32)), (.int (0 : Int32)), (.int (0 : Int32))] (.int (0 : Int32)) := V1
  refine X.aload (pc' := 35) at_33 rfl rfl rfl ?_
  refine X.iconst (pc' := 36) (3 : Int32) at_35 rfl rfl ?_
  refine X.lloadN (pc' := 37) at_36 rfl rfl ?_
  refine X.iconst (pc' := 38) (3 : Int32) at_37 rfl rfl ?_
  refine X.callP (pc' := 41) (X.sStatic (wd1 hw) (wd2 hw) (wd3 hw) (wd4 hw) (by decide) rfl pd18 [(.long p1), (.int (3 : Int32))] rfl rfl at_38) (rmCh l Z a0 hw p1 (3 : Int32) _ X.old) (wd4 hw) (wd3 hw) (leB rfl) (leB rfl) (leB rfl) (leB rfl) rfl ?_
  intro T L v X q
  obtain ⟨k3, rfl, r_k3⟩ := q
  refine X.castore (pc' := 42) V_a ⟨by decide, by decide⟩ 3 rfl (Nat.le_of_ble_eq_true rfl) z_a (Or.inr s_a) at_41 rfl ?_
  intro T h L X W V1
  rw [r_k3.2] at V1
  replace lt_a := Nat.lt_of_lt_of_le lt_a (Keep.of_wr W).1
  replace V_a : Arv Z h a ka_a .char (16 : Int32) [(.int k0), (.int k1), (.int k2), (.int k3), (.int (0 : Int32)), (.int (0 : Int32)), (.int (0 : Int32)), (.int (0 : Int32)), (.int (0 : Int32)), (.int (0 : Int32)), (.int (0 : Int32)), (.int (0 : Int32)), (.int (0 : Int32)), (.int (0 : Int32)), (.int (0 : Int32)), (.int (0 : Int32))] (.int (0 : Int32)) := V1
  refine X.aload (pc' := 44) at_42 rfl rfl rfl ?_
  refine X.iconst (pc' := 45) (4 : Int32) at_44 rfl rfl ?_
  refine X.lloadN (pc' := 46) at_45 rfl rfl ?_
  refine X.iconst (pc' := 47) (4 : Int32) at_46 rfl rfl ?_
  refine X.callP (pc' := 50) (X.sStatic (wd1 hw) (wd2 hw) (wd3 hw) (wd4 hw) (by decide) rfl pd18 [(.long p1), (.int (4 : Int32))] rfl rfl at_47) (rmCh l Z a0 hw p1 (4 : Int32) _ X.old) (wd4 hw) (wd3 hw) (leB rfl) (leB rfl) (leB rfl) (leB rfl) rfl ?_
  intro T L v X q
  obtain ⟨k4, rfl, r_k4⟩ := q
  refine X.castore (pc' := 51) V_a ⟨by decide, by decide⟩ 4 rfl (Nat.le_of_ble_eq_true rfl) z_a (Or.inr s_a) at_50 rfl ?_
  intro T h L X W V1
  rw [r_k4.2] at V1
  replace lt_a := Nat.lt_of_lt_of_le lt_a (Keep.of_wr W).1
  replace V_a : Arv Z h a ka_a .char (16 : Int32) [(.int k0), (.int k1), (.int k2), (.int k3), (.int k4), (.int (0 : Int32)), (.int (0 : Int32)), (.int (0 : Int32)), (.int (0 : Int32)), (.int (0 : Int32)), (.int (0 : Int32)), (.int (0 : Int32)), (.int (0 : Int32)), (.int (0 : Int32)), (.int (0 : Int32)), (.int (0 : Int32))] (.int (0 : Int32)) := V1
  refine X.aload (pc' := 53) at_51 rfl rfl rfl ?_
  refine X.iconst (pc' := 54) (5 : Int32) at_53 rfl rfl ?_
  refine X.lloadN (pc' := 55) at_54 rfl rfl ?_
  refine X.iconst (pc' := 56) (5 : Int32) at_55 rfl rfl ?_
  refine X.callP (pc' := 59) (X.sStatic (wd1 hw) (wd2 hw) (wd3 hw) (wd4 hw) (by decide) rfl pd18 [(.long p1), (.int (5 : Int32))] rfl rfl at_56) (rmCh l Z a0 hw p1 (5 : Int32) _ X.old) (wd4 hw) (wd3 hw) (leB rfl) (leB rfl) (leB rfl) (leB rfl) rfl ?_
  intro T L v X q
  obtain ⟨k5, rfl, r_k5⟩ := q
  refine X.castore (pc' := 60) V_a ⟨by decide, by decide⟩ 5 rfl (Nat.le_of_ble_eq_true rfl) z_a (Or.inr s_a) at_59 rfl ?_
  intro T h L X W V1
  rw [r_k5.2] at V1
  replace lt_a := Nat.lt_of_lt_of_le lt_a (Keep.of_wr W).1
  replace V_a : Arv Z h a ka_a .char (16 : Int32) [(.int k0), (.int k1), (.int k2), (.int k3), (.int k4), (.int k5), (.int (0 : Int32)), (.int (0 : Int32)), (.int (0 : Int32)), (.int (0 : Int32)), (.int (0 : Int32)), (.int (0 : Int32)), (.int (0 : Int32)), (.int (0 : Int32)), (.int (0 : Int32)), (.int (0 : Int32))] (.int (0 : Int32)) := V1
  refine X.aload (pc' := 62) at_60 rfl rfl rfl ?_
  refine X.bipush (pc' := 64) (6 : Int32) at_62 rfl rfl ?_
  refine X.lloadN (pc' := 65) at_64 rfl rfl ?_
  refine X.bipush (pc' := 67) (6 : Int32) at_65 rfl rfl ?_
  refine X.callP (pc' := 70) (X.sStatic (wd1 hw) (wd2 hw) (wd3 hw) (wd4 hw) (by decide) rfl pd18 [(.long p1), (.int (6 : Int32))] rfl rfl at_67) (rmCh l Z a0 hw p1 (6 : Int32) _ X.old) (wd4 hw) (wd3 hw) (leB rfl) (leB rfl) (leB rfl) (leB rfl) rfl ?_
  intro T L v X q
  obtain ⟨k6, rfl, r_k6⟩ := q
  refine X.castore (pc' := 71) V_a ⟨by decide, by decide⟩ 6 rfl (Nat.le_of_ble_eq_true rfl) z_a (Or.inr s_a) at_70 rfl ?_
  intro T h L X W V1
  rw [r_k6.2] at V1
  replace lt_a := Nat.lt_of_lt_of_le lt_a (Keep.of_wr W).1
  replace V_a : Arv Z h a ka_a .char (16 : Int32) [(.int k0), (.int k1), (.int k2), (.int k3), (.int k4), (.int k5), (.int k6), (.int (0 : Int32)), (.int (0 : Int32)), (.int (0 : Int32)), (.int (0 : Int32)), (.int (0 : Int32)), (.int (0 : Int32)), (.int (0 : Int32)), (.int (0 : Int32)), (.int (0 : Int32))] (.int (0 : Int32)) := V1
  refine X.aload (pc' := 73) at_71 rfl rfl rfl ?_
  refine X.bipush (pc' := 75) (7 : Int32) at_73 rfl rfl ?_
  refine X.lloadN (pc' := 76) at_75 rfl rfl ?_
  refine X.bipush (pc' := 78) (7 : Int32) at_76 rfl rfl ?_
  refine X.callP (pc' := 81) (X.sStatic (wd1 hw) (wd2 hw) (wd3 hw) (wd4 hw) (by decide) rfl pd18 [(.long p1), (.int (7 : Int32))] rfl rfl at_78) (rmCh l Z a0 hw p1 (7 : Int32) _ X.old) (wd4 hw) (wd3 hw) (leB rfl) (leB rfl) (leB rfl) (leB rfl) rfl ?_
  intro T L v X q
  obtain ⟨k7, rfl, r_k7⟩ := q
  refine X.castore (pc' := 82) V_a ⟨by decide, by decide⟩ 7 rfl (Nat.le_of_ble_eq_true rfl) z_a (Or.inr s_a) at_81 rfl ?_
  intro T h L X W V1
  rw [r_k7.2] at V1
  replace lt_a := Nat.lt_of_lt_of_le lt_a (Keep.of_wr W).1
  replace V_a : Arv Z h a ka_a .char (16 : Int32) [(.int k0), (.int k1), (.int k2), (.int k3), (.int k4), (.int k5), (.int k6), (.int k7), (.int (0 : Int32)), (.int (0 : Int32)), (.int (0 : Int32)), (.int (0 : Int32)), (.int (0 : Int32)), (.int (0 : Int32)), (.int (0 : Int32)), (.int (0 : Int32))] (.int (0 : Int32)) := V1
  refine X.aload (pc' := 84) at_82 rfl rfl rfl ?_
  refine X.bipush (pc' := 86) (8 : Int32) at_84 rfl rfl ?_
  refine X.lloadN (pc' := 87) at_86 rfl rfl ?_
  refine X.iconst (pc' := 88) (0 : Int32) at_87 rfl rfl ?_
  refine X.callP (pc' := 91) (X.sStatic (wd1 hw) (wd2 hw) (wd3 hw) (wd4 hw) (by decide) rfl pd18 [(.long p2), (.int (0 : Int32))] rfl rfl at_88) (rmCh l Z a0 hw p2 (0 : Int32) _ X.old) (wd4 hw) (wd3 hw) (leB rfl) (leB rfl) (leB rfl) (leB rfl) rfl ?_
  intro T L v X q
  obtain ⟨k8, rfl, r_k8⟩ := q
  refine X.castore (pc' := 92) V_a ⟨by decide, by decide⟩ 8 rfl (Nat.le_of_ble_eq_true rfl) z_a (Or.inr s_a) at_91 rfl ?_
  intro T h L X W V1
  rw [r_k8.2] at V1
  replace lt_a := Nat.lt_of_lt_of_le lt_a (Keep.of_wr W).1
  replace V_a : Arv Z h a ka_a .char (16 : Int32) [(.int k0), (.int k1), (.int k2), (.int k3), (.int k4), (.int k5), (.int k6), (.int k7), (.int k8), (.int (0 : Int32)), (.int (0 : Int32)), (.int (0 : Int32)), (.int (0 : Int32)), (.int (0 : Int32)), (.int (0 : Int32)), (.int (0 : Int32))] (.int (0 : Int32)) := V1
  refine X.aload (pc' := 94) at_92 rfl rfl rfl ?_
  refine X.bipush (pc' := 96) (9 : Int32) at_94 rfl rfl ?_
  refine X.lloadN (pc' := 97) at_96 rfl rfl ?_
  refine X.iconst (pc' := 98) (1 : Int32) at_97 rfl rfl ?_
  refine X.callP (pc' := 101) (X.sStatic (wd1 hw) (wd2 hw) (wd3 hw) (wd4 hw) (by decide) rfl pd18 [(.long p2), (.int (1 : Int32))] rfl rfl at_98) (rmCh l Z a0 hw p2 (1 : Int32) _ X.old) (wd4 hw) (wd3 hw) (leB rfl) (leB rfl) (leB rfl) (leB rfl) rfl ?_
  intro T L v X q
  obtain ⟨k9, rfl, r_k9⟩ := q
  refine X.castore (pc' := 102) V_a ⟨by decide, by decide⟩ 9 rfl (Nat.le_of_ble_eq_true rfl) z_a (Or.inr s_a) at_101 rfl ?_
  intro T h L X W V1
  rw [r_k9.2] at V1
  replace lt_a := Nat.lt_of_lt_of_le lt_a (Keep.of_wr W).1
  replace V_a : Arv Z h a ka_a .char (16 : Int32) [(.int k0), (.int k1), (.int k2), (.int k3), (.int k4), (.int k5), (.int k6), (.int k7), (.int k8), (.int k9), (.int (0 : Int32)), (.int (0 : Int32)), (.int (0 : Int32)), (.int (0 : Int32)), (.int (0 : Int32)), (.int (0 : Int32))] (.int (0 : Int32)) := V1
  refine X.aload (pc' := 104) at_102 rfl rfl rfl ?_
  refine X.bipush (pc' := 106) (10 : Int32) at_104 rfl rfl ?_
  refine X.lloadN (pc' := 107) at_106 rfl rfl ?_
  refine X.iconst (pc' := 108) (2 : Int32) at_107 rfl rfl ?_
  refine X.callP (pc' := 111) (X.sStatic (wd1 hw) (wd2 hw) (wd3 hw) (wd4 hw) (by decide) rfl pd18 [(.long p2), (.int (2 : Int32))] rfl rfl at_108) (rmCh l Z a0 hw p2 (2 : Int32) _ X.old) (wd4 hw) (wd3 hw) (leB rfl) (leB rfl) (leB rfl) (leB rfl) rfl ?_
  intro T L v X q
  obtain ⟨k10, rfl, r_k10⟩ := q
  refine X.castore (pc' := 112) V_a ⟨by decide, by decide⟩ 10 rfl (Nat.le_of_ble_eq_true rfl) z_a (Or.inr s_a) at_111 rfl ?_
  intro T h L X W V1
  rw [r_k10.2] at V1
  replace lt_a := Nat.lt_of_lt_of_le lt_a (Keep.of_wr W).1
  replace V_a : Arv Z h a ka_a .char (16 : Int32) [(.int k0), (.int k1), (.int k2), (.int k3), (.int k4), (.int k5), (.int k6), (.int k7), (.int k8), (.int k9), (.int k10), (.int (0 : Int32)), (.int (0 : Int32)), (.int (0 : Int32)), (.int (0 : Int32)), (.int (0 : Int32))] (.int (0 : Int32)) := V1
  refine X.aload (pc' := 114) at_112 rfl rfl rfl ?_
  refine X.bipush (pc' := 116) (11 : Int32) at_114 rfl rfl ?_
  refine X.lloadN (pc' := 117) at_116 rfl rfl ?_
  refine X.iconst (pc' := 118) (3 : Int32) at_117 rfl rfl ?_
  refine X.callP (pc' := 121) (X.sStatic (wd1 hw) (wd2 hw) (wd3 hw) (wd4 hw) (by decide) rfl pd18 [(.long p2), (.int (3 : Int32))] rfl rfl at_118) (rmCh l Z a0 hw p2 (3 : Int32) _ X.old) (wd4 hw) (wd3 hw) (leB rfl) (leB rfl) (leB rfl) (leB rfl) rfl ?_
  intro T L v X q
  obtain ⟨k11, rfl, r_k11⟩ := q
  refine X.castore (pc' := 122) V_a ⟨by decide, by decide⟩ 11 rfl (Nat.le_of_ble_eq_true rfl) z_a (Or.inr s_a) at_121 rfl ?_
  intro T h L X W V1
  rw [r_k11.2] at V1
  replace lt_a := Nat.lt_of_lt_of_le lt_a (Keep.of_wr W).1
  replace V_a : Arv Z h a ka_a .char (16 : Int32) [(.int k0), (.int k1), (.int k2), (.int k3), (.int k4), (.int k5), (.int k6), (.int k7), (.int k8), (.int k9), (.int k10), (.int k11), (.int (0 : Int32)), (.int (0 : Int32)), (.int (0 : Int32)), (.int (0 : Int32))] (.int (0 : Int32)) := V1
  refine X.aload (pc' := 124) at_122 rfl rfl rfl ?_
  refine X.bipush (pc' := 126) (12 : Int32) at_124 rfl rfl ?_
  refine X.lloadN (pc' := 127) at_126 rfl rfl ?_
  refine X.iconst (pc' := 128) (4 : Int32) at_127 rfl rfl ?_
  refine X.callP (pc' := 131) (X.sStatic (wd1 hw) (wd2 hw) (wd3 hw) (wd4 hw) (by decide) rfl pd18 [(.long p2), (.int (4 : Int32))] rfl rfl at_128) (rmCh l Z a0 hw p2 (4 : Int32) _ X.old) (wd4 hw) (wd3 hw) (leB rfl) (leB rfl) (leB rfl) (leB rfl) rfl ?_
  intro T L v X q
  obtain ⟨k12, rfl, r_k12⟩ := q
  refine X.castore (pc' := 132) V_a ⟨by decide, by decide⟩ 12 rfl (Nat.le_of_ble_eq_true rfl) z_a (Or.inr s_a) at_131 rfl ?_
  intro T h L X W V1
  rw [r_k12.2] at V1
  replace lt_a := Nat.lt_of_lt_of_le lt_a (Keep.of_wr W).1
  replace V_a : Arv Z h a ka_a .char (16 : Int32) [(.int k0), (.int k1), (.int k2), (.int k3), (.int k4), (.int k5), (.int k6), (.int k7), (.int k8), (.int k9), (.int k10), (.int k11), (.int k12), (.int (0 : Int32)), (.int (0 : Int32)), (.int (0 : Int32))] (.int (0 : Int32)) := V1
  refine X.aload (pc' := 134) at_132 rfl rfl rfl ?_
  refine X.bipush (pc' := 136) (13 : Int32) at_134 rfl rfl ?_
  refine X.lloadN (pc' := 137) at_136 rfl rfl ?_
  refine X.iconst (pc' := 138) (5 : Int32) at_137 rfl rfl ?_
  refine X.callP (pc' := 141) (X.sStatic (wd1 hw) (wd2 hw) (wd3 hw) (wd4 hw) (by decide) rfl pd18 [(.long p2), (.int (5 : Int32))] rfl rfl at_138) (rmCh l Z a0 hw p2 (5 : Int32) _ X.old) (wd4 hw) (wd3 hw) (leB rfl) (leB rfl) (leB rfl) (leB rfl) rfl ?_
  intro T L v X q
  obtain ⟨k13, rfl, r_k13⟩ := q
  refine X.castore (pc' := 142) V_a ⟨by decide, by decide⟩ 13 rfl (Nat.le_of_ble_eq_true rfl) z_a (Or.inr s_a) at_141 rfl ?_
  intro T h L X W V1
  rw [r_k13.2] at V1
  replace lt_a := Nat.lt_of_lt_of_le lt_a (Keep.of_wr W).1
  replace V_a : Arv Z h a ka_a .char (16 : Int32) [(.int k0), (.int k1), (.int k2), (.int k3), (.int k4), (.int k5), (.int k6), (.int k7), (.int k8), (.int k9), (.int k10), (.int k11), (.int k12), (.int k13), (.int (0 : Int32)), (.int (0 : Int32))] (.int (0 : Int32)) := V1
  refine X.aload (pc' := 144) at_142 rfl rfl rfl ?_
  refine X.bipush (pc' := 146) (14 : Int32) at_144 rfl rfl ?_
  refine X.lloadN (pc' := 147) at_146 rfl rfl ?_
  refine X.bipush (pc' := 149) (6 : Int32) at_147 rfl rfl ?_
  refine X.callP (pc' := 152) (X.sStatic (wd1 hw) (wd2 hw) (wd3 hw) (wd4 hw) (by decide) rfl pd18 [(.long p2), (.int (6 : Int32))] rfl rfl at_149) (rmCh l Z a0 hw p2 (6 : Int32) _ X.old) (wd4 hw) (wd3 hw) (leB rfl) (leB rfl) (leB rfl) (leB rfl) rfl ?_
  intro T L v X q
  obtain ⟨k14, rfl, r_k14⟩ := q
  refine X.castore (pc' := 153) V_a ⟨by decide, by decide⟩ 14 rfl (Nat.le_of_ble_eq_true rfl) z_a (Or.inr s_a) at_152 rfl ?_
  intro T h L X W V1
  rw [r_k14.2] at V1
  replace lt_a := Nat.lt_of_lt_of_le lt_a (Keep.of_wr W).1
  replace V_a : Arv Z h a ka_a .char (16 : Int32) [(.int k0), (.int k1), (.int k2), (.int k3), (.int k4), (.int k5), (.int k6), (.int k7), (.int k8), (.int k9), (.int k10), (.int k11), (.int k12), (.int k13), (.int k14), (.int (0 : Int32))] (.int (0 : Int32)) := V1
  refine X.aload (pc' := 155) at_153 rfl rfl rfl ?_
  refine X.bipush (pc' := 157) (15 : Int32) at_155 rfl rfl ?_
  refine X.lloadN (pc' := 158) at_157 rfl rfl ?_
  refine X.bipush (pc' := 160) (7 : Int32) at_158 rfl rfl ?_
  refine X.callP (pc' := 163) (X.sStatic (wd1 hw) (wd2 hw) (wd3 hw) (wd4 hw) (by decide) rfl pd18 [(.long p2), (.int (7 : Int32))] rfl rfl at_160) (rmCh l Z a0 hw p2 (7 : Int32) _ X.old) (wd4 hw) (wd3 hw) (leB rfl) (leB rfl) (leB rfl) (leB rfl) rfl ?_
  intro T L v X q
  obtain ⟨k15, rfl, r_k15⟩ := q
  refine X.castore (pc' := 164) V_a ⟨by decide, by decide⟩ 15 rfl (Nat.le_of_ble_eq_true rfl) z_a (Or.inr s_a) at_163 rfl ?_
  intro T h L X W V1
  rw [r_k15.2] at V1
  replace lt_a := Nat.lt_of_lt_of_le lt_a (Keep.of_wr W).1
  replace V_a : Arv Z h a ka_a .char (16 : Int32) [(.int k0), (.int k1), (.int k2), (.int k3), (.int k4), (.int k5), (.int k6), (.int k7), (.int k8), (.int k9), (.int k10), (.int k11), (.int k12), (.int k13), (.int k14), (.int k15)] (.int (0 : Int32)) := V1
  obtain ⟨cs, C⟩ : ∃ cs : List Int32, Chs Z h a cs := ⟨[k0, k1, k2, k3, k4, k5, k6, k7, k8, k9, k10, k11, k12, k13, k14, k15], ka_a, V_a, rfl, (allC r_k0.1 (allC r_k1.1 (allC r_k2.1 (allC r_k3.1 (allC r_k4.1 (allC r_k5.1 (allC r_k6.1 (allC r_k7.1 (allC r_k8.1 (allC r_k9.1 (allC r_k10.1 (allC r_k11.1 (allC r_k12.1 (allC r_k13.1 (allC r_k14.1 (allC r_k15.1 allN))))))))))))))))⟩
  refine X.iload (pc' := 166) at_164 rfl rfl ?_
  refine X.iconst (pc' := 167) (1 : Int32) at_166 rfl rfl ?_
  refine X.iand (pc' := 168) at_167 rfl ?_
  have k209 : ∀ (T : State) (h : Heap) (L : List Loc) (cs : List Int32), Wk true Z a0 consts_1 "com/example/bounded_lock/boundedlock/LockLayoutWokenInstanceOfPinLaw" code maxLocals ret "law" [] pg l ev room_1 s m #[(.long p1), (.long p2), (.int p3)] below meth cd s.vm T h L 1 16 → Chs Z h a cs → a < h.size → Y.Ends pg ev below (GC Z consts_1 [] (RV (fun w h => w = .int 1)) room_1 s) (T.setTop (mkF m 209 #[.val (.long p1), .second, .val (.long p2), .second, .val (.int p3), .val (.ref a), .unset, .unset, .unset, .unset, .unset, .unset] [])) := by
    intro T h L cs X C lt_a
    refine X.iload (pc' := 211) at_209 rfl rfl ?_
    refine X.bipush (pc' := 213) (10 : Int32) at_211 rfl rfl ?_
    refine X.iushr (pc' := 214) at_213 rfl ?_
    refine X.iconst (pc' := 215) (3 : Int32) at_214 rfl rfl ?_
    refine X.iand (pc' := 216) at_215 rfl ?_
    generalize hg_md : (((p3.toUInt32 >>> ((10 : Int32) &&& 31).toUInt32).toInt32) &&& (3 : Int32)) = md
    by_cases b3 : md = 0
    · refine X.ifN (pc' := 219) at_216 ((if0 _ _).trans (teq b3).2) rfl ?_
      refine X.iconst (pc' := 220) (1 : Int32) at_219 rfl rfl ?_
      refine X.goto (pc' := 224) at_220 (by decide) (by decide) ?_
      refine X.istore (pc' := 226) #[.val (.long p1), .second, .val (.long p2), .second, .val (.int p3), .val (.ref a), .val (.int (1 : Int32)), .unset, .unset, .unset, .unset, .unset] at_224 rfl rfl ?_
      refine X.iload (pc' := 228) at_226 rfl rfl ?_
      refine X.ifN (pc' := 231) at_228 (by decide) rfl ?_
      refine X.bipush (pc' := 233) (7 : Int32) at_231 rfl rfl ?_
      refine X.goto (pc' := 238) at_233 (by decide) (by decide) ?_
      refine X.istore (pc' := 240) #[.val (.long p1), .second, .val (.long p2), .second, .val (.int p3), .val (.ref a), .val (.int (1 : Int32)), .val (.int (7 : Int32)), .unset, .unset, .unset, .unset] at_238 rfl rfl ?_
      refine X.iload (pc' := 242) at_240 rfl rfl ?_
      refine X.ifN (pc' := 245) at_242 (by decide) rfl ?_
      refine X.newO (pc' := 248) (wd6 hw) (wd7 hw) (wd8 hw) at_245 (by decide) (by decide) rfl ?_
      intro T h x g_x Ex lt_x E_x D_x X1
      have z_x : Z.heap.size ≤ x := by rw [g_x]; exact X.old.1
      have s_x : s.heap.size ≤ x := by rw [g_x]; exact X.kp.1
      have ne_a_x : a ≠ x := Nat.ne_of_lt (by rw [g_x]; exact lt_a)
      replace lt_a := Nat.lt_of_lt_of_le lt_a Ex.1
      replace C := C.ext Ex
      replace X := X1
      have F_x_value : Fld Z h x "java/lang/String" "value" "[B" .null := D_x (Or.inr (wd34 hw)) (ty := (.array .byte)) (by decide)
      have F_x_coder : Fld Z h x "java/lang/String" "coder" "B" (.int (0 : Int32)) := D_x (Or.inr (wd32 hw)) (ty := .byte) (by decide)
      refine X.dup (pc' := 249) at_248 rfl rfl ?_
      refine X.bipush (pc' := 251) (7 : Int32) at_249 rfl rfl ?_
      refine X.newP (pc' := 253) (aty := .char) (wd0 hw) at_251 (by decide) 7 (by decide) (by decide) (by decide) (by decide) rfl ?_
      intro T h e ka_e g_e Ex lt_e V_e X1
      have z_e : Z.heap.size ≤ e := by rw [g_e]; exact X.old.1
      have s_e : s.heap.size ≤ e := by rw [g_e]; exact X.kp.1
      have ne_a_e : a ≠ e := Nat.ne_of_lt (by rw [g_e]; exact lt_a)
      have ne_x_e : x ≠ e := Nat.ne_of_lt (by rw [g_e]; exact lt_x)
      replace lt_a := Nat.lt_of_lt_of_le lt_a Ex.1
      replace C := C.ext Ex
      replace E_x := E_x.ext Ex
      replace lt_x := Nat.lt_of_lt_of_le lt_x Ex.1
      replace F_x_value := F_x_value.ext Ex
      replace F_x_coder := F_x_coder.ext Ex
      replace X := X1
      replace V_e : Arv Z h e ka_e .char (7 : Int32) [(.int (0 : Int32)), (.int (0 : Int32)), (.int (0 : Int32)), (.int (0 : Int32)), (.int (0 : Int32)), (.int (0 : Int32)), (.int (0 : Int32))] (.int (0 : Int32)) := (Arv.pad V_e (pad_rep [] (.int (0 : Int32)) 7))
      refine X.dup (pc' := 254) at_253 rfl rfl ?_
      refine X.iconst (pc' := 255) (0 : Int32) at_254 rfl rfl ?_
      refine X.aload (pc' := 257) at_255 rfl rfl rfl ?_
      refine X.iconst (pc' := 258) (0 : Int32) at_257 rfl rfl ?_
      obtain ⟨ka9, va9, l9, g9⟩ := id C
      refine X.caload (pc' := 259) va9 ⟨by decide, by decide⟩ (v := (cs.getD 0 0)) (at_int (i := 0) (by omega)) at_258 rfl ?_
      have n0 := nar_lat (lat_at g9 0)
      clear va9 l9 g9
      refine X.castore (pc' := 260) V_e ⟨by decide, by decide⟩ 0 rfl (Nat.le_of_ble_eq_true rfl) z_e (Or.inr s_e) at_259 rfl ?_
      intro T h L X W V1
      rw [n0] at V1
      replace lt_a := Nat.lt_of_lt_of_le lt_a (Keep.of_wr W).1
      replace C := C.other W ne_a_e
      replace E_x := E_x.wr W
      replace lt_x := Nat.lt_of_lt_of_le lt_x (Keep.of_wr W).1
      replace F_x_value := F_x_value.other W (Or.inl ne_x_e)
      replace F_x_coder := F_x_coder.other W (Or.inl ne_x_e)
      replace lt_e := Nat.lt_of_lt_of_le lt_e (Keep.of_wr W).1
      replace V_e : Arv Z h e ka_e .char (7 : Int32) [(.int (cs.getD 0 0)), (.int (0 : Int32)), (.int (0 : Int32)), (.int (0 : Int32)), (.int (0 : Int32)), (.int (0 : Int32)), (.int (0 : Int32))] (.int (0 : Int32)) := V1
      refine X.dup (pc' := 261) at_260 rfl rfl ?_
      refine X.iconst (pc' := 262) (1 : Int32) at_261 rfl rfl ?_
      refine X.aload (pc' := 264) at_262 rfl rfl rfl ?_
      refine X.iconst (pc' := 265) (1 : Int32) at_264 rfl rfl ?_
      obtain ⟨ka9, va9, l9, g9⟩ := id C
      refine X.caload (pc' := 266) va9 ⟨by decide, by decide⟩ (v := (cs.getD 1 0)) (at_int (i := 1) (by omega)) at_265 rfl ?_
      have n1 := nar_lat (lat_at g9 1)
      clear va9 l9 g9
      refine X.castore (pc' := 267) V_e ⟨by decide, by decide⟩ 1 rfl (Nat.le_of_ble_eq_true rfl) z_e (Or.inr s_e) at_266 rfl ?_
      intro T h L X W V1
      rw [n1] at V1
      replace lt_a := Nat.lt_of_lt_of_le lt_a (Keep.of_wr W).1
      replace C := C.other W ne_a_e
      replace E_x := E_x.wr W
      replace lt_x := Nat.lt_of_lt_of_le lt_x (Keep.of_wr W).1
      replace F_x_value := F_x_value.other W (Or.inl ne_x_e)
      replace F_x_coder := F_x_coder.other W (Or.inl ne_x_e)
      replace lt_e := Nat.lt_of_lt_of_le lt_e (Keep.of_wr W).1
      replace V_e : Arv Z h e ka_e .char (7 : Int32) [(.int (cs.getD 0 0)), (.int (cs.getD 1 0)), (.int (0 : Int32)), (.int (0 : Int32)), (.int (0 : Int32)), (.int (0 : Int32)), (.int (0 : Int32))] (.int (0 : Int32)) := V1
      refine X.dup (pc' := 268) at_267 rfl rfl ?_
      refine X.iconst (pc' := 269) (2 : Int32) at_268 rfl rfl ?_
      refine X.aload (pc' := 271) at_269 rfl rfl rfl ?_
      refine X.iconst (pc' := 272) (2 : Int32) at_271 rfl rfl ?_
      obtain ⟨ka9, va9, l9, g9⟩ := id C
      refine X.caload (pc' := 273) va9 ⟨by decide, by decide⟩ (v := (cs.getD 2 0)) (at_int (i := 2) (by omega)) at_272 rfl ?_
      have n2 := nar_lat (lat_at g9 2)
      clear va9 l9 g9
      refine X.castore (pc' := 274) V_e ⟨by decide, by decide⟩ 2 rfl (Nat.le_of_ble_eq_true rfl) z_e (Or.inr s_e) at_273 rfl ?_
      intro T h L X W V1
      rw [n2] at V1
      replace lt_a := Nat.lt_of_lt_of_le lt_a (Keep.of_wr W).1
      replace C := C.other W ne_a_e
      replace E_x := E_x.wr W
      replace lt_x := Nat.lt_of_lt_of_le lt_x (Keep.of_wr W).1
      replace F_x_value := F_x_value.other W (Or.inl ne_x_e)
      replace F_x_coder := F_x_coder.other W (Or.inl ne_x_e)
      replace lt_e := Nat.lt_of_lt_of_le lt_e (Keep.of_wr W).1
      replace V_e : Arv Z h e ka_e .char (7 : Int32) [(.int (cs.getD 0 0)), (.int (cs.getD 1 0)), (.int (cs.getD 2 0)), (.int (0 : Int32)), (.int (0 : Int32)), (.int (0 : Int32)), (.int (0 : Int32))] (.int (0 : Int32)) := V1
      refine X.dup (pc' := 275) at_274 rfl rfl ?_
      refine X.iconst (pc' := 276) (3 : Int32) at_275 rfl rfl ?_
      refine X.aload (pc' := 278) at_276 rfl rfl rfl ?_
      refine X.iconst (pc' := 279) (3 : Int32) at_278 rfl rfl ?_
      obtain ⟨ka9, va9, l9, g9⟩ := id C
      refine X.caload (pc' := 280) va9 ⟨by decide, by decide⟩ (v := (cs.getD 3 0)) (at_int (i := 3) (by omega)) at_279 rfl ?_
      have n3 := nar_lat (lat_at g9 3)
      clear va9 l9 g9
      refine X.castore (pc' := 281) V_e ⟨by decide, by decide⟩ 3 rfl (Nat.le_of_ble_eq_true rfl) z_e (Or.inr s_e) at_280 rfl ?_
      intro T h L X W V1
      rw [n3] at V1
      replace lt_a := Nat.lt_of_lt_of_le lt_a (Keep.of_wr W).1
      replace C := C.other W ne_a_e
      replace E_x := E_x.wr W
      replace lt_x := Nat.lt_of_lt_of_le lt_x (Keep.of_wr W).1
      replace F_x_value := F_x_value.other W (Or.inl ne_x_e)
      replace F_x_coder := F_x_coder.other W (Or.inl ne_x_e)
      replace lt_e := Nat.lt_of_lt_of_le lt_e (Keep.of_wr W).1
      replace V_e : Arv Z h e ka_e .char (7 : Int32) [(.int (cs.getD 0 0)), (.int (cs.getD 1 0)), (.int (cs.getD 2 0)), (.int (cs.getD 3 0)), (.int (0 : Int32)), (.int (0 : Int32)), (.int (0 : Int32))] (.int (0 : Int32)) := V1
      refine X.dup (pc' := 282) at_281 rfl rfl ?_
      refine X.iconst (pc' := 283) (4 : Int32) at_282 rfl rfl ?_
      refine X.aload (pc' := 285) at_283 rfl rfl rfl ?_
      refine X.iconst (pc' := 286) (4 : Int32) at_285 rfl rfl ?_
      obtain ⟨ka9, va9, l9, g9⟩ := id C
      refine X.caload (pc' := 287) va9 ⟨by decide, by decide⟩ (v := (cs.getD 4 0)) (at_int (i := 4) (by omega)) at_286 rfl ?_
      have n4 := nar_lat (lat_at g9 4)
      clear va9 l9 g9
      refine X.castore (pc' := 288) V_e ⟨by decide, by decide⟩ 4 rfl (Nat.le_of_ble_eq_true rfl) z_e (Or.inr s_e) at_287 rfl ?_
      intro T h L X W V1
      rw [n4] at V1
      replace lt_a := Nat.lt_of_lt_of_le lt_a (Keep.of_wr W).1
      replace C := C.other W ne_a_e
      replace E_x := E_x.wr W
      replace lt_x := Nat.lt_of_lt_of_le lt_x (Keep.of_wr W).1
      replace F_x_value := F_x_value.other W (Or.inl ne_x_e)
      replace F_x_coder := F_x_coder.other W (Or.inl ne_x_e)
      replace lt_e := Nat.lt_of_lt_of_le lt_e (Keep.of_wr W).1
      replace V_e : Arv Z h e ka_e .char (7 : Int32) [(.int (cs.getD 0 0)), (.int (cs.getD 1 0)), (.int (cs.getD 2 0)), (.int (cs.getD 3 0)), (.int (cs.getD 4 0)), (.int (0 : Int32)), (.int (0 : Int32))] (.int (0 : Int32)) := V1
      refine X.dup (pc' := 289) at_288 rfl rfl ?_
      refine X.iconst (pc' := 290) (5 : Int32) at_289 rfl rfl ?_
      refine X.aload (pc' := 292) at_290 rfl rfl rfl ?_
      refine X.iconst (pc' := 293) (5 : Int32) at_292 rfl rfl ?_
      obtain ⟨ka9, va9, l9, g9⟩ := id C
      refine X.caload (pc' := 294) va9 ⟨by decide, by decide⟩ (v := (cs.getD 5 0)) (at_int (i := 5) (by omega)) at_293 rfl ?_
      have n5 := nar_lat (lat_at g9 5)
      clear va9 l9 g9
      refine X.castore (pc' := 295) V_e ⟨by decide, by decide⟩ 5 rfl (Nat.le_of_ble_eq_true rfl) z_e (Or.inr s_e) at_294 rfl ?_
      intro T h L X W V1
      rw [n5] at V1
      replace lt_a := Nat.lt_of_lt_of_le lt_a (Keep.of_wr W).1
      replace C := C.other W ne_a_e
      replace E_x := E_x.wr W
      replace lt_x := Nat.lt_of_lt_of_le lt_x (Keep.of_wr W).1
      replace F_x_value := F_x_value.other W (Or.inl ne_x_e)
      replace F_x_coder := F_x_coder.other W (Or.inl ne_x_e)
      replace lt_e := Nat.lt_of_lt_of_le lt_e (Keep.of_wr W).1
      replace V_e : Arv Z h e ka_e .char (7 : Int32) [(.int (cs.getD 0 0)), (.int (cs.getD 1 0)), (.int (cs.getD 2 0)), (.int (cs.getD 3 0)), (.int (cs.getD 4 0)), (.int (cs.getD 5 0)), (.int (0 : Int32))] (.int (0 : Int32)) := V1
      refine X.dup (pc' := 296) at_295 rfl rfl ?_
      refine X.bipush (pc' := 298) (6 : Int32) at_296 rfl rfl ?_
      refine X.aload (pc' := 300) at_298 rfl rfl rfl ?_
      refine X.bipush (pc' := 302) (6 : Int32) at_300 rfl rfl ?_
      obtain ⟨ka9, va9, l9, g9⟩ := id C
      refine X.caload (pc' := 303) va9 ⟨by decide, by decide⟩ (v := (cs.getD 6 0)) (at_int (i := 6) (by omega)) at_302 rfl ?_
      have n6 := nar_lat (lat_at g9 6)
      clear va9 l9 g9
      refine X.castore (pc' := 304) V_e ⟨by decide, by decide⟩ 6 rfl (Nat.le_of_ble_eq_true rfl) z_e (Or.inr s_e) at_303 rfl ?_
      intro T h L X W V1
      rw [n6] at V1
      replace lt_a := Nat.lt_of_lt_of_le lt_a (Keep.of_wr W).1
      replace C := C.other W ne_a_e
      replace E_x := E_x.wr W
      replace lt_x := Nat.lt_of_lt_of_le lt_x (Keep.of_wr W).1
      replace F_x_value := F_x_value.other W (Or.inl ne_x_e)
      replace F_x_coder := F_x_coder.other W (Or.inl ne_x_e)
      replace lt_e := Nat.lt_of_lt_of_le lt_e (Keep.of_wr W).1
      replace V_e : Arv Z h e ka_e .char (7 : Int32) [(.int (cs.getD 0 0)), (.int (cs.getD 1 0)), (.int (cs.getD 2 0)), (.int (cs.getD 3 0)), (.int (cs.getD 4 0)), (.int (cs.getD 5 0)), (.int (cs.getD 6 0))] (.int (0 : Int32)) := V1
      obtain ⟨ka9, va9, l9, g9⟩ := id C
      have e7 : [cs.getD 0 0, cs.getD 1 0, cs.getD 2 0, cs.getD 3 0, cs.getD 4 0, cs.getD 5 0, cs.getD 6 0] = cs.take 7 := take7 l9
      have V_e2 : Arv Z h e ka_e .char (7 : Int32) ((cs.take 7).map Value.int) (.int 0) := by rw [← e7]; exact V_e
      refine X.newStr (pc' := 307) (cs := cs.take 7) (n := 7) (X.sSpecial rfl (wd9 hw) (wd10 hw) (wd11 hw) (by decide) rfl pd19 [(.ref e)] rfl rfl at_304) hws (wd7 hw) E_x F_x_value F_x_coder V_e2 O2 hz (by rw [List.length_take]; omega) rfl (by decide) (by decide) (lat_take g9) (leB rfl) (leB rfl) (leB rfl) (leB rfl) z_x (Or.inr s_x) rfl ?_
      intro T h L X K S_x
      replace lt_a := Nat.lt_of_lt_of_le lt_a K.1
      replace C := C.keep K (ninS ne_a_x nin0)
      replace E_x := E_x.keep K
      replace lt_x := Nat.lt_of_lt_of_le lt_x K.1
      replace lt_e := Nat.lt_of_lt_of_le lt_e K.1
      refine X.goto (pc' := 319) at_307 (by decide) (by decide) ?_
      refine X.astore (pc' := 321) #[.val (.long p1), .second, .val (.long p2), .second, .val (.int p3), .val (.ref a), .val (.int (1 : Int32)), .val (.int (7 : Int32)), .val (.ref x), .unset, .unset, .unset] at_319 rfl rfl rfl ?_
      refine X.aload (pc' := 323) at_321 rfl rfl rfl ?_
      refine X.iload (pc' := 325) at_323 rfl rfl ?_
      have S_xl : Lat Z h x (cs.take 7) := Lat.of S_x (fun c hc => (lat_take g9 c hc).2)
      have l7 : (cs.take 7).length = 7 := by rw [List.length_take]; omega
      obtain ⟨ka8, va8, -⟩ := id C
      refine X.callP (pc' := 328) (X.sStatic (wd35 hw) (wd36 hw) (wd3 hw) (wd37 hw) (by decide) rfl pd20 [(.ref a), (.int (7 : Int32))] rfl rfl at_325) (rmLM_7 l Z a0 hw a _ X.old ka8 cs l9 va8) (wd37 hw) (wd3 hw) (leB rfl) (leB rfl) (leB rfl) (leB rfl) rfl ?_
      intro T L v X q
      obtain ⟨R, rfl, HR⟩ := q
      refine X.istore (pc' := 330) #[.val (.long p1), .second, .val (.long p2), .second, .val (.int p3), .val (.ref a), .val (.int (1 : Int32)), .val (.int (7 : Int32)), .val (.ref x), .val (.int R), .unset, .unset] at_328 rfl rfl ?_
      refine X.aload (pc' := 332) at_330 rfl rfl rfl ?_
      refine X.coldV (pc' := 335) (X.sStatic (wd41 hw) (wd42 hw) (wd43 hw) (wd44 hw) (by decide) rfl pd21 [(.ref x)] rfl rfl at_332) (rmWok_7 l Z a0 hw ew x _ X.old z O2 hz fm SF rf _ l7 S_xl) (wd44 hw) (wd43 hw) (leB rfl) (leB rfl) (leB rfl) (leB rfl) all0 rfl ?_
      intro T vm h L v X K hC q
      replace lt_a := Nat.lt_of_lt_of_le lt_a K.1
      replace C := C.keep K nin0
      replace lt_x := Nat.lt_of_lt_of_le lt_x K.1
      replace lt_e := Nat.lt_of_lt_of_le lt_e K.1
      rcases q with ⟨rfl, HN⟩ | ⟨i, r, i1, i2, i3, rfl, S_r⟩
      · have HR2 : Last (MarkN cs 7) 10 (-1) := Or.inr ⟨fun j _ hj => by by_cases q : j < 1; exact HN j q (mk_take.mpr hj); exact absurd hj.1 (by omega), rfl⟩
        obtain rfl := HR.uniq HR2
        refine X.astore (pc' := 337) #[.val (.long p1), .second, .val (.long p2), .second, .val (.int p3), .val (.ref a), .val (.int (1 : Int32)), .val (.int (7 : Int32)), .val (.ref x), .val (.int (-1 : Int32)), .val .null, .unset] at_335 rfl rfl rfl ?_
        refine X.iload (pc' := 339) at_337 rfl rfl ?_
        refine X.ifN (pc' := 342) at_339 (by decide) rfl ?_
        refine X.aload (pc' := 344) at_342 rfl rfl rfl ?_
        refine X.nonN (pc' := 347) at_344 rfl ?_
        refine X.iconst (pc' := 348) (1 : Int32) at_347 rfl rfl ?_
        refine X.goto (pc' := 352) at_348 (by decide) (by decide) ?_
        exact X.retIC (by simp) rfl at_352 (by decide) (by decide) ⟨_, rfl, rfl⟩
      · have HR2 : Last (MarkN cs 7) 10 (Int32.ofNat i) := Or.inl ⟨i, by omega, mk_take.mp i2, fun j a1 a2 hj => by by_cases q : j < 1; exact i3 j a1 q (mk_take.mpr hj); exact absurd hj.1 (by omega), rfl⟩
        obtain rfl := HR.uniq HR2
        refine X.astore (pc' := 337) #[.val (.long p1), .second, .val (.long p2), .second, .val (.int p3), .val (.ref a), .val (.int (1 : Int32)), .val (.int (7 : Int32)), .val (.ref x), .val (.int (Int32.ofNat i)), .val (.ref r), .unset] at_335 rfl rfl rfl ?_
        refine X.iload (pc' := 339) at_337 rfl rfl ?_
        refine X.ifY (pc' := 353) at_339 ((if0 _ _).trans (flt (ofn0 (by omega))).2.1) (by decide) (by decide) ?_
        refine X.aload (pc' := 355) at_353 rfl rfl rfl ?_
        refine X.nonY (pc' := 360) at_355 (by decide) (by decide) ?_
        refine X.iload (pc' := 362) at_360 rfl rfl ?_
        refine X.bipush (pc' := 364) (7 : Int32) at_362 rfl rfl ?_
        refine X.iadd (pc' := 365) at_364 rfl ?_
        have eb : Int32.ofNat i + 7 = Int32.ofNat (i + 7) := by rw [Int32.ofNat_add]; rfl
        rw [eb]
        refine X.istore (pc' := 367) #[.val (.long p1), .second, .val (.long p2), .second, .val (.int p3), .val (.ref a), .val (.int (1 : Int32)), .val (.int (7 : Int32)), .val (.ref x), .val (.int (Int32.ofNat i)), .val (.ref r), .val (.int (Int32.ofNat (i + 7)))] at_365 rfl rfl ?_
        refine X.aload (pc' := 369) at_367 rfl rfl rfl ?_
        have S_rs := S_r.str
        refine X.lenStr (pc' := 372) (X.sVirtual (wd106 hw) (wd54 hw) (wd56 hw) (wd55 hw) (by decide) rfl pd2 S_rs.exa [] rfl rfl at_369 (X.nf (wd51 hw) rfl)) hwl (wd7 hw) S_rs O2 hz (leB rfl) (leB rfl) (leB rfl) (leB rfl) rfl ?_
        intro T X
        refine X.iload (pc' := 374) at_372 rfl rfl ?_
        refine X.iload (pc' := 376) at_374 rfl rfl ?_
        refine X.isub (pc' := 377) at_376 rfl ?_
        have nd : ((cs.take 7).drop (i + 7)).length = 7 - (i + 7) := drop_len (by omega)
        have sb : (7 : Int32) - Int32.ofNat (i + 7) = Int32.ofNat (7 - (i + 7)) := (by decide : ∀ j : Fin 1, (7 : Int32) - Int32.ofNat (j.val + 7) = Int32.ofNat (7 - (j.val + 7))) ⟨i, by omega⟩
        refine X.icY (pc' := 382) at_377 ((teq (by rw [nd, sb])).1) (by decide) (by decide) ?_
        refine X.aload (pc' := 384) at_382 rfl rfl rfl ?_
        refine X.aload (pc' := 386) at_384 rfl rfl rfl ?_
        refine X.iload (pc' := 388) at_386 rfl rfl ?_
        refine X.iconst (pc' := 389) (0 : Int32) at_388 rfl rfl ?_
        refine X.callP (pc' := 392) (X.sStatic (wd107 hw) (wd108 hw) (wd3 hw) (wd109 hw) (by decide) rfl pd22 [(.ref r), (.ref a), (.int (Int32.ofNat (i + 7))), (.int (0 : Int32))] rfl rfl at_389) (rmSame l Z a0 hw r a _ _ _ X.old z O2 hz fm SF rf _ cs S_r C (i + 7) 0 rfl rfl (by decide) (by rw [nd]; have := i2.1; omega) (fun q hq => drop_at (by rw [nd] at hq; omega))) (wd109 hw) (wd3 hw) (leB rfl) (leB rfl) (leB rfl) (leB rfl) rfl ?_
        intro T L v X q
        subst q
        refine X.ifN (pc' := 395) at_392 (by decide) rfl ?_
        refine X.aload (pc' := 397) at_395 rfl rfl rfl ?_
        refine X.aload (pc' := 399) at_397 rfl rfl rfl ?_
        refine X.iload (pc' := 401) at_399 rfl rfl ?_
        refine X.iconst (pc' := 402) (1 : Int32) at_401 rfl rfl ?_
        refine X.callP (pc' := 405) (X.sStatic (wd107 hw) (wd108 hw) (wd3 hw) (wd109 hw) (by decide) rfl pd22 [(.ref r), (.ref a), (.int (Int32.ofNat (i + 7))), (.int (1 : Int32))] rfl rfl at_402) (rmSame l Z a0 hw r a _ _ _ X.old z O2 hz fm SF rf _ cs S_r C (i + 7) 1 rfl rfl (by decide) (by rw [nd]; have := i2.1; omega) (fun q hq => drop_at (by rw [nd] at hq; omega))) (wd109 hw) (wd3 hw) (leB rfl) (leB rfl) (leB rfl) (leB rfl) rfl ?_
        intro T L v X q
        subst q
        refine X.ifN (pc' := 408) at_405 (by decide) rfl ?_
        refine X.aload (pc' := 410) at_408 rfl rfl rfl ?_
        refine X.aload (pc' := 412) at_410 rfl rfl rfl ?_
        refine X.iload (pc' := 414) at_412 rfl rfl ?_
        refine X.iconst (pc' := 415) (2 : Int32) at_414 rfl rfl ?_
        refine X.callP (pc' := 418) (X.sStatic (wd107 hw) (wd108 hw) (wd3 hw) (wd109 hw) (by decide) rfl pd22 [(.ref r), (.ref a), (.int (Int32.ofNat (i + 7))), (.int (2 : Int32))] rfl rfl at_415) (rmSame l Z a0 hw r a _ _ _ X.old z O2 hz fm SF rf _ cs S_r C (i + 7) 2 rfl rfl (by decide) (by rw [nd]; have := i2.1; omega) (fun q hq => drop_at (by rw [nd] at hq; omega))) (wd109 hw) (wd3 hw) (leB rfl) (leB rfl) (leB rfl) (leB rfl) rfl ?_
        intro T L v X q
        subst q
        refine X.ifN (pc' := 421) at_418 (by decide) rfl ?_
        refine X.aload (pc' := 423) at_421 rfl rfl rfl ?_
        refine X.aload (pc' := 425) at_423 rfl rfl rfl ?_
        refine X.iload (pc' := 427) at_425 rfl rfl ?_
        refine X.iconst (pc' := 428) (3 : Int32) at_427 rfl rfl ?_
        refine X.callP (pc' := 431) (X.sStatic (wd107 hw) (wd108 hw) (wd3 hw) (wd109 hw) (by decide) rfl pd22 [(.ref r), (.ref a), (.int (Int32.ofNat (i + 7))), (.int (3 : Int32))] rfl rfl at_428) (rmSame l Z a0 hw r a _ _ _ X.old z O2 hz fm SF rf _ cs S_r C (i + 7) 3 rfl rfl (by decide) (by rw [nd]; have := i2.1; omega) (fun q hq => drop_at (by rw [nd] at hq; omega))) (wd109 hw) (wd3 hw) (leB rfl) (leB rfl) (leB rfl) (leB rfl) rfl ?_
        intro T L v X q
        subst q
        refine X.ifN (pc' := 434) at_431 (by decide) rfl ?_
        refine X.aload (pc' := 436) at_434 rfl rfl rfl ?_
        refine X.aload (pc' := 438) at_436 rfl rfl rfl ?_
        refine X.iload (pc' := 440) at_438 rfl rfl ?_
        refine X.iconst (pc' := 441) (4 : Int32) at_440 rfl rfl ?_
        refine X.callP (pc' := 444) (X.sStatic (wd107 hw) (wd108 hw) (wd3 hw) (wd109 hw) (by decide) rfl pd22 [(.ref r), (.ref a), (.int (Int32.ofNat (i + 7))), (.int (4 : Int32))] rfl rfl at_441) (rmSame l Z a0 hw r a _ _ _ X.old z O2 hz fm SF rf _ cs S_r C (i + 7) 4 rfl rfl (by decide) (by rw [nd]; have := i2.1; omega) (fun q hq => drop_at (by rw [nd] at hq; omega))) (wd109 hw) (wd3 hw) (leB rfl) (leB rfl) (leB rfl) (leB rfl) rfl ?_
        intro T L v X q
        subst q
        refine X.ifN (pc' := 447) at_444 (by decide) rfl ?_
        refine X.aload (pc' := 449) at_447 rfl rfl rfl ?_
        refine X.aload (pc' := 451) at_449 rfl rfl rfl ?_
        refine X.iload (pc' := 453) at_451 rfl rfl ?_
        refine X.iconst (pc' := 454) (5 : Int32) at_453 rfl rfl ?_
        refine X.callP (pc' := 457) (X.sStatic (wd107 hw) (wd108 hw) (wd3 hw) (wd109 hw) (by decide) rfl pd22 [(.ref r), (.ref a), (.int (Int32.ofNat (i + 7))), (.int (5 : Int32))] rfl rfl at_454) (rmSame l Z a0 hw r a _ _ _ X.old z O2 hz fm SF rf _ cs S_r C (i + 7) 5 rfl rfl (by decide) (by rw [nd]; have := i2.1; omega) (fun q hq => drop_at (by rw [nd] at hq; omega))) (wd109 hw) (wd3 hw) (leB rfl) (leB rfl) (leB rfl) (leB rfl) rfl ?_
        intro T L v X q
        subst q
        refine X.ifN (pc' := 460) at_457 (by decide) rfl ?_
        refine X.aload (pc' := 462) at_460 rfl rfl rfl ?_
        refine X.aload (pc' := 464) at_462 rfl rfl rfl ?_
        refine X.iload (pc' := 466) at_464 rfl rfl ?_
        refine X.bipush (pc' := 468) (6 : Int32) at_466 rfl rfl ?_
        refine X.callP (pc' := 471) (X.sStatic (wd107 hw) (wd108 hw) (wd3 hw) (wd109 hw) (by decide) rfl pd22 [(.ref r), (.ref a), (.int (Int32.ofNat (i + 7))), (.int (6 : Int32))] rfl rfl at_468) (rmSame l Z a0 hw r a _ _ _ X.old z O2 hz fm SF rf _ cs S_r C (i + 7) 6 rfl rfl (by decide) (by rw [nd]; have := i2.1; omega) (fun q hq => drop_at (by rw [nd] at hq; omega))) (wd109 hw) (wd3 hw) (leB rfl) (leB rfl) (leB rfl) (leB rfl) rfl ?_
        intro T L v X q
        subst q
        refine X.ifN (pc' := 474) at_471 (by decide) rfl ?_
        refine X.aload (pc' := 476) at_474 rfl rfl rfl ?_
        refine X.aload (pc' := 478) at_476 rfl rfl rfl ?_
        refine X.iload (pc' := 480) at_478 rfl rfl ?_
        refine X.bipush (pc' := 482) (7 : Int32) at_480 rfl rfl ?_
        refine X.callP (pc' := 485) (X.sStatic (wd107 hw) (wd108 hw) (wd3 hw) (wd109 hw) (by decide) rfl pd22 [(.ref r), (.ref a), (.int (Int32.ofNat (i + 7))), (.int (7 : Int32))] rfl rfl at_482) (rmSame l Z a0 hw r a _ _ _ X.old z O2 hz fm SF rf _ cs S_r C (i + 7) 7 rfl rfl (by decide) (by rw [nd]; have := i2.1; omega) (fun q hq => drop_at (by rw [nd] at hq; omega))) (wd109 hw) (wd3 hw) (leB rfl) (leB rfl) (leB rfl) (leB rfl) rfl ?_
        intro T L v X q
        subst q
        refine X.ifN (pc' := 488) at_485 (by decide) rfl ?_
        refine X.aload (pc' := 490) at_488 rfl rfl rfl ?_
        refine X.aload (pc' := 492) at_490 rfl rfl rfl ?_
        refine X.iload (pc' := 494) at_492 rfl rfl ?_
        refine X.bipush (pc' := 496) (8 : Int32) at_494 rfl rfl ?_
        refine X.callP (pc' := 499) (X.sStatic (wd107 hw) (wd108 hw) (wd3 hw) (wd109 hw) (by decide) rfl pd22 [(.ref r), (.ref a), (.int (Int32.ofNat (i + 7))), (.int (8 : Int32))] rfl rfl at_496) (rmSame l Z a0 hw r a _ _ _ X.old z O2 hz fm SF rf _ cs S_r C (i + 7) 8 rfl rfl (by decide) (by rw [nd]; have := i2.1; omega) (fun q hq => drop_at (by rw [nd] at hq; omega))) (wd109 hw) (wd3 hw) (leB rfl) (leB rfl) (leB rfl) (leB rfl) rfl ?_
        intro T L v X q
        subst q
        refine X.ifN (pc' := 502) at_499 (by decide) rfl ?_
        refine X.iconst (pc' := 503) (1 : Int32) at_502 rfl rfl ?_
        refine X.goto (pc' := 507) at_503 (by decide) (by decide) ?_
        exact X.retIC (by simp) rfl at_507 (by decide) (by decide) ⟨_, rfl, rfl⟩
    · refine X.ifY (pc' := 223) at_216 ((if0 _ _).trans (feq b3).2) (by decide) (by decide) ?_
      refine X.iconst (pc' := 224) (0 : Int32) at_223 rfl rfl ?_
      refine X.istore (pc' := 226) #[.val (.long p1), .second, .val (.long p2), .second, .val (.int p3), .val (.ref a), .val (.int (0 : Int32)), .unset, .unset, .unset, .unset, .unset] at_224 rfl rfl ?_
      refine X.iload (pc' := 228) at_226 rfl rfl ?_
      refine X.ifY (pc' := 236) at_228 (by decide) (by decide) (by decide) ?_
      refine X.bipush (pc' := 238) (16 : Int32) at_236 rfl rfl ?_
      refine X.istore (pc' := 240) #[.val (.long p1), .second, .val (.long p2), .second, .val (.int p3), .val (.ref a), .val (.int (0 : Int32)), .val (.int (16 : Int32)), .unset, .unset, .unset, .unset] at_238 rfl rfl ?_
      refine X.iload (pc' := 242) at_240 rfl rfl ?_
      refine X.ifY (pc' := 310) at_242 (by decide) (by decide) (by decide) ?_
      refine X.newO (pc' := 313) (wd6 hw) (wd7 hw) (wd8 hw) at_310 (by decide) (by decide) rfl ?_
      intro T h x g_x Ex lt_x E_x D_x X1
      have z_x : Z.heap.size ≤ x := by rw [g_x]; exact X.old.1
      have s_x : s.heap.size ≤ x := by rw [g_x]; exact X.kp.1
      have ne_a_x : a ≠ x := Nat.ne_of_lt (by rw [g_x]; exact lt_a)
      replace lt_a := Nat.lt_of_lt_of_le lt_a Ex.1
      replace C := C.ext Ex
      replace X := X1
      have F_x_value : Fld Z h x "java/lang/String" "value" "[B" .null := D_x (Or.inr (wd34 hw)) (ty := (.array .byte)) (by decide)
      have F_x_coder : Fld Z h x "java/lang/String" "coder" "B" (.int (0 : Int32)) := D_x (Or.inr (wd32 hw)) (ty := .byte) (by decide)
      refine X.dup (pc' := 314) at_313 rfl rfl ?_
      refine X.aload (pc' := 316) at_314 rfl rfl rfl ?_
      obtain ⟨ka9, va9, l9, g9⟩ := id C
      have t16 : cs.take 16 = cs := List.take_of_length_le (by omega)
      refine X.newStr (pc' := 319) (cs := cs) (n := 16) (X.sSpecial rfl (wd9 hw) (wd10 hw) (wd11 hw) (by decide) rfl pd19 [(.ref a)] rfl rfl at_316) hws (wd7 hw) E_x F_x_value F_x_coder va9 O2 hz l9 rfl (by decide) (by decide) g9 (leB rfl) (leB rfl) (leB rfl) (leB rfl) z_x (Or.inr s_x) rfl ?_
      intro T h L X K S_x
      rw [← t16] at S_x
      replace lt_a := Nat.lt_of_lt_of_le lt_a K.1
      replace C := C.keep K (ninS ne_a_x nin0)
      replace E_x := E_x.keep K
      replace lt_x := Nat.lt_of_lt_of_le lt_x K.1
      refine X.astore (pc' := 321) #[.val (.long p1), .second, .val (.long p2), .second, .val (.int p3), .val (.ref a), .val (.int (0 : Int32)), .val (.int (16 : Int32)), .val (.ref x), .unset, .unset, .unset] at_319 rfl rfl rfl ?_
      refine X.aload (pc' := 323) at_321 rfl rfl rfl ?_
      refine X.iload (pc' := 325) at_323 rfl rfl ?_
      have S_xl : Lat Z h x (cs.take 16) := Lat.of S_x (fun c hc => (lat_take g9 c hc).2)
      have l7 : (cs.take 16).length = 16 := by rw [List.length_take]; omega
      obtain ⟨ka8, va8, -⟩ := id C
      refine X.callP (pc' := 328) (X.sStatic (wd35 hw) (wd36 hw) (wd3 hw) (wd37 hw) (by decide) rfl pd20 [(.ref a), (.int (16 : Int32))] rfl rfl at_325) (rmLM_16 l Z a0 hw a _ X.old ka8 cs l9 va8) (wd37 hw) (wd3 hw) (leB rfl) (leB rfl) (leB rfl) (leB rfl) rfl ?_
      intro T L v X q
      obtain ⟨R, rfl, HR⟩ := q
      refine X.istore (pc' := 330) #[.val (.long p1), .second, .val (.long p2), .second, .val (.int p3), .val (.ref a), .val (.int (0 : Int32)), .val (.int (16 : Int32)), .val (.ref x), .val (.int R), .unset, .unset] at_328 rfl rfl ?_
      refine X.aload (pc' := 332) at_330 rfl rfl rfl ?_
      refine X.coldV (pc' := 335) (X.sStatic (wd41 hw) (wd42 hw) (wd43 hw) (wd44 hw) (by decide) rfl pd21 [(.ref x)] rfl rfl at_332) (rmWok_16 l Z a0 hw ew x _ X.old z O2 hz fm SF rf _ l7 S_xl) (wd44 hw) (wd43 hw) (leB rfl) (leB rfl) (leB rfl) (leB rfl) all0 rfl ?_
      intro T vm h L v X K hC q
      replace lt_a := Nat.lt_of_lt_of_le lt_a K.1
      replace C := C.keep K nin0
      replace lt_x := Nat.lt_of_lt_of_le lt_x K.1
      rcases q with ⟨rfl, HN⟩ | ⟨i, r, i1, i2, i3, rfl, S_r⟩
      · have HR2 : Last (MarkN cs 16) 10 (-1) := Or.inr ⟨fun j _ hj => by by_cases q : j < 10; exact HN j q (mk_take.mpr hj); exact absurd hj.1 (by omega), rfl⟩
        obtain rfl := HR.uniq HR2
        refine X.astore (pc' := 337) #[.val (.long p1), .second, .val (.long p2), .second, .val (.int p3), .val (.ref a), .val (.int (0 : Int32)), .val (.int (16 : Int32)), .val (.ref x), .val (.int (-1 : Int32)), .val .null, .unset] at_335 rfl rfl rfl ?_
        refine X.iload (pc' := 339) at_337 rfl rfl ?_
        refine X.ifN (pc' := 342) at_339 (by decide) rfl ?_
        refine X.aload (pc' := 344) at_342 rfl rfl rfl ?_
        refine X.nonN (pc' := 347) at_344 rfl ?_
        refine X.iconst (pc' := 348) (1 : Int32) at_347 rfl rfl ?_
        refine X.goto (pc' := 352) at_348 (by decide) (by decide) ?_
        exact X.retIC (by simp) rfl at_352 (by decide) (by decide) ⟨_, rfl, rfl⟩
      · have HR2 : Last (MarkN cs 16) 10 (Int32.ofNat i) := Or.inl ⟨i, by omega, mk_take.mp i2, fun j a1 a2 hj => by by_cases q : j < 10; exact i3 j a1 q (mk_take.mpr hj); exact absurd hj.1 (by omega), rfl⟩
        obtain rfl := HR.uniq HR2
        refine X.astore (pc' := 337) #[.val (.long p1), .second, .val (.long p2), .second, .val (.int p3), .val (.ref a), .val (.int (0 : Int32)), .val (.int (16 : Int32)), .val (.ref x), .val (.int (Int32.ofNat i)), .val (.ref r), .unset] at_335 rfl rfl rfl ?_
        refine X.iload (pc' := 339) at_337 rfl rfl ?_
        refine X.ifY (pc' := 353) at_339 ((if0 _ _).trans (flt (ofn0 (by omega))).2.1) (by decide) (by decide) ?_
        refine X.aload (pc' := 355) at_353 rfl rfl rfl ?_
        refine X.nonY (pc' := 360) at_355 (by decide) (by decide) ?_
        refine X.iload (pc' := 362) at_360 rfl rfl ?_
        refine X.bipush (pc' := 364) (7 : Int32) at_362 rfl rfl ?_
        refine X.iadd (pc' := 365) at_364 rfl ?_
        have eb : Int32.ofNat i + 7 = Int32.ofNat (i + 7) := by rw [Int32.ofNat_add]; rfl
        rw [eb]
        refine X.istore (pc' := 367) #[.val (.long p1), .second, .val (.long p2), .second, .val (.int p3), .val (.ref a), .val (.int (0 : Int32)), .val (.int (16 : Int32)), .val (.ref x), .val (.int (Int32.ofNat i)), .val (.ref r), .val (.int (Int32.ofNat (i + 7)))] at_365 rfl rfl ?_
        refine X.aload (pc' := 369) at_367 rfl rfl rfl ?_
        have S_rs := S_r.str
        refine X.lenStr (pc' := 372) (X.sVirtual (wd106 hw) (wd54 hw) (wd56 hw) (wd55 hw) (by decide) rfl pd2 S_rs.exa [] rfl rfl at_369 (X.nf (wd51 hw) rfl)) hwl (wd7 hw) S_rs O2 hz (leB rfl) (leB rfl) (leB rfl) (leB rfl) rfl ?_
        intro T X
        refine X.iload (pc' := 374) at_372 rfl rfl ?_
        refine X.iload (pc' := 376) at_374 rfl rfl ?_
        refine X.isub (pc' := 377) at_376 rfl ?_
        have nd : ((cs.take 16).drop (i + 7)).length = 16 - (i + 7) := drop_len (by omega)
        have sb : (16 : Int32) - Int32.ofNat (i + 7) = Int32.ofNat (16 - (i + 7)) := (by decide : ∀ j : Fin 10, (16 : Int32) - Int32.ofNat (j.val + 7) = Int32.ofNat (16 - (j.val + 7))) ⟨i, by omega⟩
        refine X.icY (pc' := 382) at_377 ((teq (by rw [nd, sb])).1) (by decide) (by decide) ?_
        refine X.aload (pc' := 384) at_382 rfl rfl rfl ?_
        refine X.aload (pc' := 386) at_384 rfl rfl rfl ?_
        refine X.iload (pc' := 388) at_386 rfl rfl ?_
        refine X.iconst (pc' := 389) (0 : Int32) at_388 rfl rfl ?_
        refine X.callP (pc' := 392) (X.sStatic (wd107 hw) (wd108 hw) (wd3 hw) (wd109 hw) (by decide) rfl pd22 [(.ref r), (.ref a), (.int (Int32.ofNat (i + 7))), (.int (0 : Int32))] rfl rfl at_389) (rmSame l Z a0 hw r a _ _ _ X.old z O2 hz fm SF rf _ cs S_r C (i + 7) 0 rfl rfl (by decide) (by rw [nd]; have := i2.1; omega) (fun q hq => drop_at (by rw [nd] at hq; omega))) (wd109 hw) (wd3 hw) (leB rfl) (leB rfl) (leB rfl) (leB rfl) rfl ?_
        intro T L v X q
        subst q
        refine X.ifN (pc' := 395) at_392 (by decide) rfl ?_
        refine X.aload (pc' := 397) at_395 rfl rfl rfl ?_
        refine X.aload (pc' := 399) at_397 rfl rfl rfl ?_
        refine X.iload (pc' := 401) at_399 rfl rfl ?_
        refine X.iconst (pc' := 402) (1 : Int32) at_401 rfl rfl ?_
        refine X.callP (pc' := 405) (X.sStatic (wd107 hw) (wd108 hw) (wd3 hw) (wd109 hw) (by decide) rfl pd22 [(.ref r), (.ref a), (.int (Int32.ofNat (i + 7))), (.int (1 : Int32))] rfl rfl at_402) (rmSame l Z a0 hw r a _ _ _ X.old z O2 hz fm SF rf _ cs S_r C (i + 7) 1 rfl rfl (by decide) (by rw [nd]; have := i2.1; omega) (fun q hq => drop_at (by rw [nd] at hq; omega))) (wd109 hw) (wd3 hw) (leB rfl) (leB rfl) (leB rfl) (leB rfl) rfl ?_
        intro T L v X q
        subst q
        refine X.ifN (pc' := 408) at_405 (by decide) rfl ?_
        refine X.aload (pc' := 410) at_408 rfl rfl rfl ?_
        refine X.aload (pc' := 412) at_410 rfl rfl rfl ?_
        refine X.iload (pc' := 414) at_412 rfl rfl ?_
        refine X.iconst (pc' := 415) (2 : Int32) at_414 rfl rfl ?_
        refine X.callP (pc' := 418) (X.sStatic (wd107 hw) (wd108 hw) (wd3 hw) (wd109 hw) (by decide) rfl pd22 [(.ref r), (.ref a), (.int (Int32.ofNat (i + 7))), (.int (2 : Int32))] rfl rfl at_415) (rmSame l Z a0 hw r a _ _ _ X.old z O2 hz fm SF rf _ cs S_r C (i + 7) 2 rfl rfl (by decide) (by rw [nd]; have := i2.1; omega) (fun q hq => drop_at (by rw [nd] at hq; omega))) (wd109 hw) (wd3 hw) (leB rfl) (leB rfl) (leB rfl) (leB rfl) rfl ?_
        intro T L v X q
        subst q
        refine X.ifN (pc' := 421) at_418 (by decide) rfl ?_
        refine X.aload (pc' := 423) at_421 rfl rfl rfl ?_
        refine X.aload (pc' := 425) at_423 rfl rfl rfl ?_
        refine X.iload (pc' := 427) at_425 rfl rfl ?_
        refine X.iconst (pc' := 428) (3 : Int32) at_427 rfl rfl ?_
        refine X.callP (pc' := 431) (X.sStatic (wd107 hw) (wd108 hw) (wd3 hw) (wd109 hw) (by decide) rfl pd22 [(.ref r), (.ref a), (.int (Int32.ofNat (i + 7))), (.int (3 : Int32))] rfl rfl at_428) (rmSame l Z a0 hw r a _ _ _ X.old z O2 hz fm SF rf _ cs S_r C (i + 7) 3 rfl rfl (by decide) (by rw [nd]; have := i2.1; omega) (fun q hq => drop_at (by rw [nd] at hq; omega))) (wd109 hw) (wd3 hw) (leB rfl) (leB rfl) (leB rfl) (leB rfl) rfl ?_
        intro T L v X q
        subst q
        refine X.ifN (pc' := 434) at_431 (by decide) rfl ?_
        refine X.aload (pc' := 436) at_434 rfl rfl rfl ?_
        refine X.aload (pc' := 438) at_436 rfl rfl rfl ?_
        refine X.iload (pc' := 440) at_438 rfl rfl ?_
        refine X.iconst (pc' := 441) (4 : Int32) at_440 rfl rfl ?_
        refine X.callP (pc' := 444) (X.sStatic (wd107 hw) (wd108 hw) (wd3 hw) (wd109 hw) (by decide) rfl pd22 [(.ref r), (.ref a), (.int (Int32.ofNat (i + 7))), (.int (4 : Int32))] rfl rfl at_441) (rmSame l Z a0 hw r a _ _ _ X.old z O2 hz fm SF rf _ cs S_r C (i + 7) 4 rfl rfl (by decide) (by rw [nd]; have := i2.1; omega) (fun q hq => drop_at (by rw [nd] at hq; omega))) (wd109 hw) (wd3 hw) (leB rfl) (leB rfl) (leB rfl) (leB rfl) rfl ?_
        intro T L v X q
        subst q
        refine X.ifN (pc' := 447) at_444 (by decide) rfl ?_
        refine X.aload (pc' := 449) at_447 rfl rfl rfl ?_
        refine X.aload (pc' := 451) at_449 rfl rfl rfl ?_
        refine X.iload (pc' := 453) at_451 rfl rfl ?_
        refine X.iconst (pc' := 454) (5 : Int32) at_453 rfl rfl ?_
        refine X.callP (pc' := 457) (X.sStatic (wd107 hw) (wd108 hw) (wd3 hw) (wd109 hw) (by decide) rfl pd22 [(.ref r), (.ref a), (.int (Int32.ofNat (i + 7))), (.int (5 : Int32))] rfl rfl at_454) (rmSame l Z a0 hw r a _ _ _ X.old z O2 hz fm SF rf _ cs S_r C (i + 7) 5 rfl rfl (by decide) (by rw [nd]; have := i2.1; omega) (fun q hq => drop_at (by rw [nd] at hq; omega))) (wd109 hw) (wd3 hw) (leB rfl) (leB rfl) (leB rfl) (leB rfl) rfl ?_
        intro T L v X q
        subst q
        refine X.ifN (pc' := 460) at_457 (by decide) rfl ?_
        refine X.aload (pc' := 462) at_460 rfl rfl rfl ?_
        refine X.aload (pc' := 464) at_462 rfl rfl rfl ?_
        refine X.iload (pc' := 466) at_464 rfl rfl ?_
        refine X.bipush (pc' := 468) (6 : Int32) at_466 rfl rfl ?_
        refine X.callP (pc' := 471) (X.sStatic (wd107 hw) (wd108 hw) (wd3 hw) (wd109 hw) (by decide) rfl pd22 [(.ref r), (.ref a), (.int (Int32.ofNat (i + 7))), (.int (6 : Int32))] rfl rfl at_468) (rmSame l Z a0 hw r a _ _ _ X.old z O2 hz fm SF rf _ cs S_r C (i + 7) 6 rfl rfl (by decide) (by rw [nd]; have := i2.1; omega) (fun q hq => drop_at (by rw [nd] at hq; omega))) (wd109 hw) (wd3 hw) (leB rfl) (leB rfl) (leB rfl) (leB rfl) rfl ?_
        intro T L v X q
        subst q
        refine X.ifN (pc' := 474) at_471 (by decide) rfl ?_
        refine X.aload (pc' := 476) at_474 rfl rfl rfl ?_
        refine X.aload (pc' := 478) at_476 rfl rfl rfl ?_
        refine X.iload (pc' := 480) at_478 rfl rfl ?_
        refine X.bipush (pc' := 482) (7 : Int32) at_480 rfl rfl ?_
        refine X.callP (pc' := 485) (X.sStatic (wd107 hw) (wd108 hw) (wd3 hw) (wd109 hw) (by decide) rfl pd22 [(.ref r), (.ref a), (.int (Int32.ofNat (i + 7))), (.int (7 : Int32))] rfl rfl at_482) (rmSame l Z a0 hw r a _ _ _ X.old z O2 hz fm SF rf _ cs S_r C (i + 7) 7 rfl rfl (by decide) (by rw [nd]; have := i2.1; omega) (fun q hq => drop_at (by rw [nd] at hq; omega))) (wd109 hw) (wd3 hw) (leB rfl) (leB rfl) (leB rfl) (leB rfl) rfl ?_
        intro T L v X q
        subst q
        refine X.ifN (pc' := 488) at_485 (by decide) rfl ?_
        refine X.aload (pc' := 490) at_488 rfl rfl rfl ?_
        refine X.aload (pc' := 492) at_490 rfl rfl rfl ?_
        refine X.iload (pc' := 494) at_492 rfl rfl ?_
        refine X.bipush (pc' := 496) (8 : Int32) at_494 rfl rfl ?_
        refine X.callP (pc' := 499) (X.sStatic (wd107 hw) (wd108 hw) (wd3 hw) (wd109 hw) (by decide) rfl pd22 [(.ref r), (.ref a), (.int (Int32.ofNat (i + 7))), (.int (8 : Int32))] rfl rfl at_496) (rmSame l Z a0 hw r a _ _ _ X.old z O2 hz fm SF rf _ cs S_r C (i + 7) 8 rfl rfl (by decide) (by rw [nd]; have := i2.1; omega) (fun q hq => drop_at (by rw [nd] at hq; omega))) (wd109 hw) (wd3 hw) (leB rfl) (leB rfl) (leB rfl) (leB rfl) rfl ?_
        intro T L v X q
        subst q
        refine X.ifN (pc' := 502) at_499 (by decide) rfl ?_
        refine X.iconst (pc' := 503) (1 : Int32) at_502 rfl rfl ?_
        refine X.goto (pc' := 507) at_503 (by decide) (by decide) ?_
        exact X.retIC (by simp) rfl at_507 (by decide) (by decide) ⟨_, rfl, rfl⟩
  by_cases b1 : (p3 &&& (1 : Int32)) = 0
  · refine X.ifY (pc' := 186) at_168 ((if0 _ _).trans (teq b1).1) (by decide) (by decide) ?_
    refine X.iload (pc' := 188) at_186 rfl rfl ?_
    refine X.iconst (pc' := 189) (2 : Int32) at_188 rfl rfl ?_
    refine X.iand (pc' := 190) at_189 rfl ?_
    by_cases b2 : (p3 &&& (2 : Int32)) = 0
    · refine X.ifY (pc' := 209) at_190 ((if0 _ _).trans (teq b2).1) (by decide) (by decide) ?_
      exact k209 _ _ _ _ X C lt_a
    · refine X.ifN (pc' := 193) at_190 ((if0 _ _).trans (feq b2).1) rfl ?_
      refine X.aload (pc' := 195) at_193 rfl rfl rfl ?_
      refine X.iload (pc' := 197) at_195 rfl rfl ?_
      refine X.bipush (pc' := 199) (6 : Int32) at_197 rfl rfl ?_
      refine X.iushr (pc' := 200) at_199 rfl ?_
      refine X.bipush (pc' := 202) (15 : Int32) at_200 rfl rfl ?_
      refine X.iand (pc' := 203) at_202 rfl ?_
      refine X.bipush (pc' := 205) (10 : Int32) at_203 rfl rfl ?_
      refine X.irem (pc' := 206) at_205 (by decide) rfl ?_
      generalize hg_pp : ((((p3.toUInt32 >>> ((6 : Int32) &&& 31).toUInt32).toInt32) &&& (15 : Int32)) % (10 : Int32)) = pp
      have hpp := rem10 hg_pp
      refine X.callU (pc' := 209) (X.sStatic (wd75 hw) (wd76 hw) (wd3 hw) (wd77 hw) (by decide) rfl pd23 [(.ref a), (.int pp)] rfl rfl at_206) (rmPut l Z a0 hw a pp _ X.old z_a hpp cs C) (wd77 hw) (wd3 hw) (leB rfl) (leB rfl) (leB rfl) (leB rfl) (sfS (by obtain ⟨k9, v9, -⟩ := C; exact Safe.arv X.al v9 (by decide)) sf0) (allS z_a all0) (allS (Or.inr s_a) all0) rfl ?_
      intro T h L X K q
      replace lt_a := Nat.lt_of_lt_of_le lt_a K.1
      clear C
      obtain ⟨cs, C⟩ := q
      exact k209 _ _ _ _ X C lt_a
  · refine X.ifN (pc' := 171) at_168 ((if0 _ _).trans (feq b1).1) rfl ?_
    refine X.aload (pc' := 173) at_171 rfl rfl rfl ?_
    refine X.iload (pc' := 175) at_173 rfl rfl ?_
    refine X.iconst (pc' := 176) (2 : Int32) at_175 rfl rfl ?_
    refine X.iushr (pc' := 177) at_176 rfl ?_
    refine X.bipush (pc' := 179) (15 : Int32) at_177 rfl rfl ?_
    refine X.iand (pc' := 180) at_179 rfl ?_
    refine X.bipush (pc' := 182) (10 : Int32) at_180 rfl rfl ?_
    refine X.irem (pc' := 183) at_182 (by decide) rfl ?_
    generalize hg_pp : ((((p3.toUInt32 >>> ((2 : Int32) &&& 31).toUInt32).toInt32) &&& (15 : Int32)) % (10 : Int32)) = pp
    have hpp := rem10 hg_pp
    refine X.callU (pc' := 186) (X.sStatic (wd75 hw) (wd76 hw) (wd3 hw) (wd77 hw) (by decide) rfl pd23 [(.ref a), (.int pp)] rfl rfl at_183) (rmPut l Z a0 hw a pp _ X.old z_a hpp cs C) (wd77 hw) (wd3 hw) (leB rfl) (leB rfl) (leB rfl) (leB rfl) (sfS (by obtain ⟨k9, v9, -⟩ := C; exact Safe.arv X.al v9 (by decide)) sf0) (allS z_a all0) (allS (Or.inr s_a) all0) rfl ?_
    intro T h L X K q
    replace lt_a := Nat.lt_of_lt_of_le lt_a K.1
    clear C
    obtain ⟨cs, C⟩ := q
    refine X.iload (pc' := 188) at_186 rfl rfl ?_
    refine X.iconst (pc' := 189) (2 : Int32) at_188 rfl rfl ?_
    refine X.iand (pc' := 190) at_189 rfl ?_
    by_cases b2 : (p3 &&& (2 : Int32)) = 0
    · refine X.ifY (pc' := 209) at_190 ((if0 _ _).trans (teq b2).1) (by decide) (by decide) ?_
      exact k209 _ _ _ _ X C lt_a
    · refine X.ifN (pc' := 193) at_190 ((if0 _ _).trans (feq b2).1) rfl ?_
      refine X.aload (pc' := 195) at_193 rfl rfl rfl ?_
      refine X.iload (pc' := 197) at_195 rfl rfl ?_
      refine X.bipush (pc' := 199) (6 : Int32) at_197 rfl rfl ?_
      refine X.iushr (pc' := 200) at_199 rfl ?_
      refine X.bipush (pc' := 202) (15 : Int32) at_200 rfl rfl ?_
      refine X.iand (pc' := 203) at_202 rfl ?_
      refine X.bipush (pc' := 205) (10 : Int32) at_203 rfl rfl ?_
      refine X.irem (pc' := 206) at_205 (by decide) rfl ?_
      generalize hg_pp : ((((p3.toUInt32 >>> ((6 : Int32) &&& 31).toUInt32).toInt32) &&& (15 : Int32)) % (10 : Int32)) = pp
      have hpp := rem10 hg_pp
      refine X.callU (pc' := 209) (X.sStatic (wd75 hw) (wd76 hw) (wd3 hw) (wd77 hw) (by decide) rfl pd23 [(.ref a), (.int pp)] rfl rfl at_206) (rmPut l Z a0 hw a pp _ X.old z_a hpp cs C) (wd77 hw) (wd3 hw) (leB rfl) (leB rfl) (leB rfl) (leB rfl) (sfS (by obtain ⟨k9, v9, -⟩ := C; exact Safe.arv X.al v9 (by decide)) sf0) (allS z_a all0) (allS (Or.inr s_a) all0) rfl ?_
      intro T h L X K q
      replace lt_a := Nat.lt_of_lt_of_le lt_a K.1
      clear C
      obtain ⟨cs, C⟩ := q
      exact k209 _ _ _ _ X C lt_a
set_option maxRecDepth 65536 in
set_option maxHeartbeats 40000000 in
theorem comes_1 {Post : Tables → Env → Array Value → State → Outcome → State → Prop} (hpost : ∀ tb e args s v u, (limb_1_1.after args s (.returned v) u = true ∧ limb_1_2.after args s (.returned v) u = true ∧ True) → ReturnedEndW s (.returned v) u (Jvm.fieldLocs frame_1_writes args s ++ Jvm.arrayLocs frame_1_arrays args s ++ Jvm.staticLocs frame_1_statics s) 24 2240 → Post tb e args s (.returned v) u) :
    ArmFor flags0 classFile x code maxLocals ret World_1 tables_1 room_1 Calls_1 rest_1 Pre_1 Post := by
  intro l hfl _ _ p e ha hc hk s m args below hf hA hF happ hP
  obtain ⟨hcalls, hrest, hpre⟩ := hP
  obtain ⟨-, -, -, hnamed, -, -, -, hat⟩ := (Spec.applies_iff hf).mp happ
  obtain ⟨hg, hn⟩ := and_e (Cond.before_iff.mp (show (Jvm.Cond.and given_1 narrow_1).before args s = true from hpre))
  obtain ⟨h1, g0⟩ := and_e hg
  obtain ⟨k0, g1⟩ := and_e g0
  obtain ⟨k1, g2⟩ := and_e g1
  have k2 := g2
  obtain ⟨w0, w1, w2, rfl⟩ : ∃ w0 w1 w2 : Value, args = #[w0, w1, w2] := by
    have hs : args.size = 3 := by simpa [Cond.value, given_1] using h1
    obtain ⟨L⟩ := args
    match L, hs with
    | [w0, w1, w2], _ => exact ⟨w0, w1, w2, rfl⟩
  have hw := fun d (hd : d ∈ tables_1) => atoms_spec (ws := Jvm.Cond.code x code maxLocals ret :: tables_1) hat d (List.mem_cons_of_mem _ hd)
  obtain ⟨hsets, hown0⟩ := atoms_of _ (rest_1_c_eq ▸ (show rest_1_c.before _ s = true from hrest))
  obtain ⟨i0, e0⟩ := isL_v k0
  obtain rfl : w0 = (.long i0) := Option.some.inj e0
  obtain ⟨i1, e1⟩ := isL_v k1
  obtain rfl : w1 = (.long i1) := Option.some.inj e1
  obtain ⟨i2, e2⟩ := is_v k2
  obtain rfl : w2 = (.int i2) := Option.some.inj e2
  have hcw := hsets _ (List.mem_of_getElem? (i := 2) rfl)
  have ncs := not_v (Cond.before_iff.mp hcw)
  obtain ⟨zcs, ecs⟩ := is_v (Cond.before_iff.mp (hsets _ (List.mem_of_getElem? (i := 1) rfl)))
  have O2 : Sta s s.heap "java/lang/String" "COMPACT_STRINGS" "Z" (.int zcs) := Sta.start ecs (Or.inl (hsets _ (List.mem_of_getElem? (i := 0) rfl)))
  have hcs : ¬ (zcs = (0 : Int32)) := gotF (Cond.eq_ints ecs (Term.int_eval (0))) ncs
  obtain ⟨fm, efm, rf⟩ := isR_v (Cond.before_iff.mp (hsets _ (List.mem_of_getElem? (i := 8) rfl)))
  have SF : Sta s s.heap "jdk/internal/util/Preconditions" "SIOOBE_FORMATTER" "Ljava/util/function/BiFunction;" fm := Sta.start efm (Or.inl (hsets _ (List.mem_of_getElem? (i := 7) rfl)))
  have HC : CHv s consts_1 s.vm s.heap := CHv.start (a0 := _) (ew1 hw) (fun q hq => hcalls.1 q hq) hcw (wd24 hw) (wd7 hw)
  obtain ⟨n, o, h1, h2, h3, v, L, rfl, ⟨⟨w, rfl, rfl⟩, N, -, -⟩, -, hq⟩ := rm0 l s _ hw (ew1 hw) i0 i1 i2 s.heap ⟨Nat.le_refl _, fun _ _ q => q⟩ zcs O2 hcs fm SF rf p e ha hc hk s m _ below hf ((Spec.applies_iff_loose hf).mp happ).1 ⟨rfl, State.Warmed39.refl s, rfl, HC⟩ trivial
  refine ⟨n, _, h1, h2, h3, hpost _ _ _ _ _ _ ⟨Cond.after_iff.mpr rfl, Cond.after_iff.mpr (eq_i res_at (Term.int_eval (1)) rfl), trivial⟩ ⟨hq.1, hq.2.1, hq.2.2.1, (hq.2.2.2.sift fun y hy => Or.inr (N y hy)).mono (by decide) (by decide)⟩⟩
theorem main_1_1 : Claimed_1_1 := comes_1 fun _ _ _ _ _ _ h hF => ⟨h.1, hF⟩
theorem main_1_2 : Claimed_1_2 := comes_1 fun _ _ _ _ _ _ h hF => ⟨h.2.1, hF⟩
end Jvm.Pilot.@@N@@
namespace Jvm.Pilot.@@N@@
open Jvm Jvm.ClassFile Sem Op Lib Jvm.Free Jvm.Stand Jvm.Pilot.@@N@@.Jvm.D
/-! MADE BY PROGRAM (witnessworld.py) out of the Statement's table words and the real class files: 23 classes; the members and pool entries that the words name. The judged class is class 1, her method 1. -/
namespace start1
open Jvm.ClassFile
def u (s : String) : CpInfo := .utf8 (stringToUtf16 s)
/-- a pool by its gaps: so many unusable entries, then the entry; so many at the end -/
def gap : Nat → List CpInfo → List CpInfo
  | 0, r => r
  | n + 1, r => .unusable :: gap n r
def poolList (es : List (Nat × CpInfo)) (last : Nat) : List CpInfo := es.foldr (fun e r => gap e.1 (e.2 :: r)) (gap last [])
def pool (es : List (Nat × CpInfo)) (last : Nat) : Array CpInfo := ⟨poolList es last⟩
def fileOf (pool : Array CpInfo) (this : Nat) (attrs : Array Attribute := #[]) (ms : Array MethodInfo := #[]) (fl : Nat := 33) (sup : Nat := 0) (ifs : Array Nat := #[]) (fds : Array FieldInfo := #[]) : ClassFile where
  minorVersion := 0
  majorVersion := 65
  constantPool := pool
  accessFlags := fl
  thisClass := this
  superClass := sup
  interfaces := ifs
  fields := fds
  methods := ms
  attributes := attrs
def plain (name : String) (sup : Option ClassId) : Class where
  name := name
  kind := .ordinary
  loader := none
  accessFlags := 33
  super := sup
  interfaces := #[]
  cf := none
  fields := #[]
  methods := #[]
  instanceTypes := #[]
  staticTypes := #[]
  resolved := #[]
  callSites := []
  init := .initialized
  statics := none
  mirror := none

def pool0 : Array CpInfo := pool [(5, u "<init>"), (0, u "()V"), (1, .class_ 10), (1, u "java/lang/Object")] 113

def k0c0 : Code := { maxStack := 0, maxLocals := 1, code := object_method_1_code, exceptionTable := #[], attributes := #[] }
def k0m0 : Method := { name := "<init>", desc := "()V", sig := { parameters := [], returnType := none }, accessFlags := 1, code := some k0c0 }
/-- java/lang/Object -/
def k0 : Class := { plain "java/lang/Object" none with
  accessFlags := 33
  interfaces := #[]
  cf := some (fileOf pool0 8 #[] #[{ accessFlags := 1, nameIndex := 5, descriptorIndex := 6, attributes := #[] }] 33 0 #[] #[])
  fields := #[]
  methods := #[k0m0]
  instanceTypes := #[]
  staticTypes := #[]
  resolved := Array.replicate 124 none
  statics := none }

def pool1 : Array CpInfo := pool [(2, .class_ 4), (1, u "java/lang/Object"), (0, u "<init>"), (0, u "()V"), (0, .methodref 8 9), (0, .class_ 10), (0, .nameAndType 11 12), (0, u "com/example/bounded_lock/boundedlock/LockLayoutWokenInstanceOfPinLaw"), (0, u "ch"), (0, u "(JI)C"), (0, .methodref 8 14), (0, .nameAndType 15 16), (0, u "put"), (0, u "([CI)V"), (0, .class_ 18), (0, u "java/lang/String"), (0, .methodref 17 20), (0, .nameAndType 5 21), (0, u "([C)V"), (0, .methodref 8 23), (0, .nameAndType 24 25), (0, u "lastMark"), (0, u "([CI)I"), (0, .methodref 27 28), (0, .class_ 29), (0, .nameAndType 30 31), (0, u "com/example/bounded_lock/boundedlock/LockLayout"), (0, u "wokenInstanceOf"), (0, u "(Ljava/lang/String;)Ljava/lang/String;"), (0, .methodref 17 33), (0, .nameAndType 34 35), (0, u "length"), (0, u "()I"), (0, .methodref 8 37), (0, .nameAndType 38 39), (0, u "same"), (0, u "(Ljava/lang/String;[CII)Z"), (0, .long 255), (1, .methodref 8 43), (0, .nameAndType 44 45), (0, u "at"), (0, u "([CII)Z"), (0, .methodref 17 47), (0, .nameAndType 48 49), (0, u "charAt"), (0, u "(I)C"), (2, u "law"), (0, u "(JJI)Z")] 5

def k1m0 : Method := { name := "<init>", desc := "()V", sig := { parameters := [], returnType := none }, accessFlags := 1, code := none }
def k1c1 : Code := { maxStack := 7, maxLocals := 12, code := code, exceptionTable := #[], attributes := #[] }
def k1m1 : Method := { name := "law", desc := "(JJI)Z", sig := { parameters := [.long, .long, .int], returnType := some .boolean }, accessFlags := 9, code := some k1c1 }
def k1c2 : Code := { maxStack := 4, maxLocals := 3, code := method_3_code, exceptionTable := #[], attributes := #[] }
def k1m2 : Method := { name := "ch", desc := "(JI)C", sig := { parameters := [.long, .int], returnType := some .char }, accessFlags := 10, code := some k1c2 }
def k1c3 : Code := { maxStack := 3, maxLocals := 2, code := method_4_code, exceptionTable := #[], attributes := #[] }
def k1m3 : Method := { name := "put", desc := "([CI)V", sig := { parameters := [(.array .char), .int], returnType := none }, accessFlags := 10, code := some k1c3 }
def k1c4 : Code := { maxStack := 3, maxLocals := 3, code := method_5_code, exceptionTable := #[], attributes := #[] }
def k1m4 : Method := { name := "at", desc := "([CII)Z", sig := { parameters := [(.array .char), .int, .int], returnType := some .boolean }, accessFlags := 10, code := some k1c4 }
def k1c5 : Code := { maxStack := 3, maxLocals := 2, code := method_6_code, exceptionTable := #[], attributes := #[] }
def k1m5 : Method := { name := "lastMark", desc := "([CI)I", sig := { parameters := [(.array .char), .int], returnType := some .int }, accessFlags := 10, code := some k1c5 }
def k1c6 : Code := { maxStack := 4, maxLocals := 4, code := method_7_code, exceptionTable := #[], attributes := #[] }
def k1m6 : Method := { name := "same", desc := "(Ljava/lang/String;[CII)Z", sig := { parameters := [(.object "java/lang/String"), (.array .char), .int, .int], returnType := some .boolean }, accessFlags := 10, code := some k1c6 }
/-- com/example/bounded_lock/boundedlock/LockLayoutWokenInstanceOfPinLaw -/
def k1 : Class := { plain "com/example/bounded_lock/boundedlock/LockLayoutWokenInstanceOfPinLaw" (some 0) with
  accessFlags := 49
  interfaces := #[]
  cf := some (fileOf pool1 8 #[] #[{ accessFlags := 1, nameIndex := 5, descriptorIndex := 6, attributes := #[] }, { accessFlags := 9, nameIndex := 52, descriptorIndex := 53, attributes := #[] }, { accessFlags := 10, nameIndex := 11, descriptorIndex := 12, attributes := #[] }, { accessFlags := 10, nameIndex := 15, descriptorIndex := 16, attributes := #[] }, { accessFlags := 10, nameIndex := 44, descriptorIndex := 45, attributes := #[] }, { accessFlags := 10, nameIndex := 24, descriptorIndex := 25, attributes := #[] }, { accessFlags := 10, nameIndex := 38, descriptorIndex := 39, attributes := #[] }] 49 2 #[] #[])
  fields := #[]
  methods := #[k1m0, k1m1, k1m2, k1m3, k1m4, k1m5, k1m6]
  instanceTypes := #[]
  staticTypes := #[]
  resolved := Array.replicate 59 none
  statics := none }

def pool2 : Array CpInfo := pool [(1, .class_ 2), (0, u "java/io/Serializable"), (0, .class_ 4), (0, u "java/lang/Object")] 2

/-- java/io/Serializable -/
def k2 : Class := { plain "java/io/Serializable" (some 0) with
  accessFlags := 1537
  interfaces := #[]
  cf := some (fileOf pool2 1 #[] #[] 1537 3 #[] #[])
  fields := #[]
  methods := #[]
  instanceTypes := #[]
  staticTypes := #[]
  resolved := Array.replicate 7 none
  statics := none }

def pool3 : Array CpInfo := pool [(1, .class_ 2), (0, u "java/lang/Comparable"), (0, .class_ 4), (0, u "java/lang/Object")] 7

/-- java/lang/Comparable -/
def k3 : Class := { plain "java/lang/Comparable" (some 0) with
  accessFlags := 1537
  interfaces := #[]
  cf := some (fileOf pool3 1 #[] #[] 1537 3 #[] #[])
  fields := #[]
  methods := #[]
  instanceTypes := #[]
  staticTypes := #[]
  resolved := Array.replicate 12 none
  statics := none }

def pool4 : Array CpInfo := pool [(2, .class_ 4), (1, u "java/lang/CharSequence"), (42, .class_ 48), (0, u "java/lang/CharSequence$1CodePointIterator"), (10, .class_ 60), (0, u "java/lang/CharSequence$1CharIterator"), (5, .class_ 67), (0, u "java/lang/Object")] 63

/-- java/lang/CharSequence -/
def k4 : Class := { plain "java/lang/CharSequence" (some 0) with
  accessFlags := 1537
  interfaces := #[]
  cf := some (fileOf pool4 2 #[.nestMembers #[47, 59]] #[] 1537 66 #[] #[])
  fields := #[]
  methods := #[]
  instanceTypes := #[]
  staticTypes := #[]
  resolved := Array.replicate 131 none
  statics := none }

def pool5 : Array CpInfo := pool [(1, .class_ 2), (0, u "java/lang/constant/Constable"), (0, .class_ 4), (0, u "java/lang/Object")] 6

/-- java/lang/constant/Constable -/
def k5 : Class := { plain "java/lang/constant/Constable" (some 0) with
  accessFlags := 1537
  interfaces := #[]
  cf := some (fileOf pool5 1 #[] #[] 1537 3 #[] #[])
  fields := #[]
  methods := #[]
  instanceTypes := #[]
  staticTypes := #[]
  resolved := Array.replicate 11 none
  statics := none }

def pool6 : Array CpInfo := pool [(1, .class_ 2), (0, u "java/lang/constant/ConstantDesc"), (0, .class_ 4), (0, u "java/lang/Object")] 32

/-- java/lang/constant/ConstantDesc -/
def k6 : Class := { plain "java/lang/constant/ConstantDesc" (some 0) with
  accessFlags := 1537
  interfaces := #[]
  cf := some (fileOf pool6 1 #[] #[] 1537 3 #[] #[])
  fields := #[]
  methods := #[]
  instanceTypes := #[]
  staticTypes := #[]
  resolved := Array.replicate 37 none
  statics := none }

def pool7 : Array CpInfo := pool [(1, .methodref 2 3), (0, .class_ 4), (0, .nameAndType 5 6), (0, u "java/lang/Object"), (0, u "<init>"), (0, u "()V"), (2, .fieldref 10 11), (0, .class_ 12), (0, .nameAndType 13 14), (0, u "java/lang/String"), (0, u "value"), (0, u "[B"), (0, .fieldref 10 16), (0, .nameAndType 17 18), (0, u "coder"), (0, u "B"), (2, u "hash"), (0, u "I"), (2, u "hashIsZero"), (0, u "Z"), (0, .methodref 10 28), (0, .nameAndType 5 29), (0, u "([CIILjava/lang/Void;)V"), (8, .fieldref 10 39), (0, .nameAndType 40 26), (0, u "COMPACT_STRINGS"), (1, .class_ 44), (1, u "java/lang/StringUTF16"), (0, u "compress"), (1, .methodref 42 48), (0, .nameAndType 49 50), (0, u "coderFromArrayLen"), (0, u "([BI)B"), (56, .class_ 109), (1, u "java/lang/StringLatin1"), (32, u "()Z"), (34, .methodref 42 178), (0, .nameAndType 45 179), (0, u "([CII)[B"), (31, u "([BB)V"), (122, u "()I"), (0, .methodref 10 336), (0, .nameAndType 17 337), (0, u "()B"), (25, u "([BI)C"), (12, u "([BI[BII)I"), (14, u "(II)V"), (35, u "(I)C"), (64, .methodref 10 493), (0, .nameAndType 494 142), (0, u "isLatin1"), (0, .methodref 107 496), (0, .nameAndType 497 363), (0, u "charAt"), (3, u "checkIndex"), (3, .methodref 10 506), (0, .nameAndType 507 334), (0, u "length"), (5, u "checkFromToIndex"), (7, .methodref 10 522), (0, .nameAndType 523 524), (0, u "checkBoundsBeginEnd"), (0, u "(III)V"), (50, .class_ 576), (0, u "java/lang/CharSequence"), (22, u "CASE_INSENSITIVE_ORDER"), (0, u "Ljava/util/Comparator;"), (42, u "lastIndexOf"), (11, u "([BBILjava/lang/String;I)I"), (14, .methodref 10 671), (0, .nameAndType 643 672), (0, u "(Ljava/lang/String;I)I"), (0, .methodref 10 674), (0, .nameAndType 643 655), (0, .methodref 107 676), (0, .nameAndType 643 376), (4, .methodref 10 682), (0, .nameAndType 683 684), (0, u "substring"), (0, u "(II)Ljava/lang/String;"), (0, .methodref 107 686), (0, .nameAndType 687 688), (0, u "newString"), (0, u "([BII)Ljava/lang/String;"), (24, u "(Ljava/lang/String;)I"), (178, u "(I)Ljava/lang/String;"), (117, u "([C)V"), (42, .fieldref 1054 1055), (0, .class_ 1056), (0, .nameAndType 1057 1058), (0, u "jdk/internal/util/Preconditions"), (0, u "SIOOBE_FORMATTER"), (0, u "Ljava/util/function/BiFunction;"), (0, .methodref 1054 1060), (0, .nameAndType 501 1061), (0, u "(IILjava/util/function/BiFunction;)I"), (0, .methodref 1054 1063), (0, .nameAndType 513 1064), (0, u "(IIILjava/util/function/BiFunction;)I"), (36, u "serialPersistentFields"), (0, u "[Ljava/io/ObjectStreamField;"), (0, .class_ 1104), (0, u "java/lang/String$CaseInsensitiveComparator"), (1, .class_ 1107), (0, u "java/io/Serializable"), (0, .class_ 1109), (0, u "java/lang/Comparable"), (0, .class_ 1111), (0, u "java/lang/constant/Constable"), (0, .class_ 1113), (0, u "java/lang/constant/ConstantDesc"), (2, u "serialVersionUID"), (0, u "J"), (3, u "REPL"), (0, u "C"), (2, u "LATIN1"), (1, u "UTF16")] 323

def k7m0 : Method := { name := "<init>", desc := "()V", sig := { parameters := [], returnType := none }, accessFlags := 1, code := none }
def k7c1 : Code := { maxStack := 5, maxLocals := 2, code := jdk_42_method_3_code, exceptionTable := #[], attributes := #[] }
def k7m1 : Method := { name := "<init>", desc := "([C)V", sig := { parameters := [(.array .char)], returnType := none }, accessFlags := 1, code := some k7c1 }
def k7c2 : Code := { maxStack := 2, maxLocals := 1, code := jdk_42_method_54_code, exceptionTable := #[], attributes := #[] }
def k7m2 : Method := { name := "length", desc := "()I", sig := { parameters := [], returnType := some .int }, accessFlags := 1, code := some k7c2 }
def k7c3 : Code := { maxStack := 2, maxLocals := 2, code := jdk_42_method_56_code, exceptionTable := #[], attributes := #[] }
def k7m3 : Method := { name := "charAt", desc := "(I)C", sig := { parameters := [.int], returnType := some .char }, accessFlags := 1, code := some k7c3 }
def k7c4 : Code := { maxStack := 3, maxLocals := 2, code := jdk_42_method_88_code, exceptionTable := #[], attributes := #[] }
def k7m4 : Method := { name := "lastIndexOf", desc := "(Ljava/lang/String;)I", sig := { parameters := [(.object "java/lang/String")], returnType := some .int }, accessFlags := 1, code := some k7c4 }
def k7c5 : Code := { maxStack := 5, maxLocals := 3, code := jdk_42_method_89_code, exceptionTable := #[], attributes := #[] }
def k7m5 : Method := { name := "lastIndexOf", desc := "(Ljava/lang/String;I)I", sig := { parameters := [(.object "java/lang/String"), .int], returnType := some .int }, accessFlags := 1, code := some k7c5 }
def k7c6 : Code := { maxStack := 5, maxLocals := 9, code := jdk_42_method_90_code, exceptionTable := #[], attributes := #[] }
def k7m6 : Method := { name := "lastIndexOf", desc := "([BBILjava/lang/String;I)I", sig := { parameters := [(.array .byte), .byte, .int, (.object "java/lang/String"), .int], returnType := some .int }, accessFlags := 8, code := some k7c6 }
def k7c7 : Code := { maxStack := 3, maxLocals := 2, code := jdk_42_method_91_code, exceptionTable := #[], attributes := #[] }
def k7m7 : Method := { name := "substring", desc := "(I)Ljava/lang/String;", sig := { parameters := [.int], returnType := some (.object "java/lang/String") }, accessFlags := 1, code := some k7c7 }
def k7c8 : Code := { maxStack := 3, maxLocals := 5, code := jdk_42_method_92_code, exceptionTable := #[], attributes := #[] }
def k7m8 : Method := { name := "substring", desc := "(II)Ljava/lang/String;", sig := { parameters := [.int, .int], returnType := some (.object "java/lang/String") }, accessFlags := 1, code := some k7c8 }
def k7c9 : Code := { maxStack := 4, maxLocals := 6, code := jdk_42_method_149_code, exceptionTable := #[], attributes := #[] }
def k7m9 : Method := { name := "<init>", desc := "([CIILjava/lang/Void;)V", sig := { parameters := [(.array .char), .int, .int, (.object "java/lang/Void")], returnType := none }, accessFlags := 2, code := some k7c9 }
def k7c10 : Code := { maxStack := 2, maxLocals := 3, code := jdk_42_method_151_code, exceptionTable := #[], attributes := #[] }
def k7m10 : Method := { name := "<init>", desc := "([BB)V", sig := { parameters := [(.array .byte), .byte], returnType := none }, accessFlags := 0, code := some k7c10 }
def k7c11 : Code := { maxStack := 1, maxLocals := 1, code := jdk_42_method_152_code, exceptionTable := #[], attributes := #[] }
def k7m11 : Method := { name := "coder", desc := "()B", sig := { parameters := [], returnType := some .byte }, accessFlags := 0, code := some k7c11 }
def k7c12 : Code := { maxStack := 1, maxLocals := 1, code := jdk_42_method_154_code, exceptionTable := #[], attributes := #[] }
def k7m12 : Method := { name := "isLatin1", desc := "()Z", sig := { parameters := [], returnType := some .boolean }, accessFlags := 0, code := some k7c12 }
def k7c13 : Code := { maxStack := 3, maxLocals := 2, code := jdk_42_method_155_code, exceptionTable := #[], attributes := #[] }
def k7m13 : Method := { name := "checkIndex", desc := "(II)V", sig := { parameters := [.int, .int], returnType := none }, accessFlags := 8, code := some k7c13 }
def k7c14 : Code := { maxStack := 4, maxLocals := 3, code := jdk_42_method_158_code, exceptionTable := #[], attributes := #[] }
def k7m14 : Method := { name := "checkBoundsBeginEnd", desc := "(III)V", sig := { parameters := [.int, .int, .int], returnType := none }, accessFlags := 8, code := some k7c14 }
/-- java/lang/String -/
def k7 : Class := { plain "java/lang/String" (some 0) with
  accessFlags := 49
  interfaces := #[2, 3, 4, 5, 6]
  cf := some (fileOf pool7 10 #[.nestMembers #[1103]] #[{ accessFlags := 1, nameIndex := 5, descriptorIndex := 6, attributes := #[] }, { accessFlags := 1, nameIndex := 5, descriptorIndex := 1010, attributes := #[] }, { accessFlags := 1, nameIndex := 507, descriptorIndex := 334, attributes := #[] }, { accessFlags := 1, nameIndex := 497, descriptorIndex := 427, attributes := #[] }, { accessFlags := 1, nameIndex := 643, descriptorIndex := 713, attributes := #[] }, { accessFlags := 1, nameIndex := 643, descriptorIndex := 672, attributes := #[] }, { accessFlags := 8, nameIndex := 643, descriptorIndex := 655, attributes := #[] }, { accessFlags := 1, nameIndex := 683, descriptorIndex := 892, attributes := #[] }, { accessFlags := 1, nameIndex := 683, descriptorIndex := 684, attributes := #[] }, { accessFlags := 2, nameIndex := 5, descriptorIndex := 29, attributes := #[] }, { accessFlags := 0, nameIndex := 5, descriptorIndex := 211, attributes := #[] }, { accessFlags := 0, nameIndex := 17, descriptorIndex := 337, attributes := #[] }, { accessFlags := 0, nameIndex := 494, descriptorIndex := 142, attributes := #[] }, { accessFlags := 8, nameIndex := 501, descriptorIndex := 391, attributes := #[] }, { accessFlags := 8, nameIndex := 523, descriptorIndex := 524, attributes := #[] }] 49 2 #[1106, 1108, 575, 1110, 1112] #[{ accessFlags := 18, nameIndex := 13, descriptorIndex := 14, attributes := #[] }, { accessFlags := 18, nameIndex := 17, descriptorIndex := 18, attributes := #[] }, { accessFlags := 2, nameIndex := 21, descriptorIndex := 22, attributes := #[] }, { accessFlags := 2, nameIndex := 25, descriptorIndex := 26, attributes := #[] }, { accessFlags := 26, nameIndex := 1116, descriptorIndex := 1117, attributes := #[] }, { accessFlags := 24, nameIndex := 40, descriptorIndex := 26, attributes := #[] }, { accessFlags := 26, nameIndex := 1101, descriptorIndex := 1102, attributes := #[] }, { accessFlags := 26, nameIndex := 1121, descriptorIndex := 1122, attributes := #[] }, { accessFlags := 25, nameIndex := 599, descriptorIndex := 600, attributes := #[] }, { accessFlags := 24, nameIndex := 1125, descriptorIndex := 18, attributes := #[] }, { accessFlags := 24, nameIndex := 1127, descriptorIndex := 18, attributes := #[] }])
  fields := #[{ name := "value", type := (.array .byte), accessFlags := 18, slot := 0, constantValue := 0 }, { name := "coder", type := .byte, accessFlags := 18, slot := 1, constantValue := 0 }, { name := "hash", type := .int, accessFlags := 2, slot := 2, constantValue := 0 }, { name := "hashIsZero", type := .boolean, accessFlags := 2, slot := 3, constantValue := 0 }, { name := "serialVersionUID", type := .long, accessFlags := 26, slot := 0, constantValue := 0 }, { name := "COMPACT_STRINGS", type := .boolean, accessFlags := 24, slot := 1, constantValue := 0 }, { name := "serialPersistentFields", type := (.array (.object "java/io/ObjectStreamField")), accessFlags := 26, slot := 2, constantValue := 0 }, { name := "REPL", type := .char, accessFlags := 26, slot := 3, constantValue := 0 }, { name := "CASE_INSENSITIVE_ORDER", type := (.object "java/util/Comparator"), accessFlags := 25, slot := 4, constantValue := 0 }, { name := "LATIN1", type := .byte, accessFlags := 24, slot := 5, constantValue := 0 }, { name := "UTF16", type := .byte, accessFlags := 24, slot := 6, constantValue := 0 }]
  methods := #[k7m0, k7m1, k7m2, k7m3, k7m4, k7m5, k7m6, k7m7, k7m8, k7m9, k7m10, k7m11, k7m12, k7m13, k7m14]
  instanceTypes := #[(.array .byte), .byte, .int, .boolean]
  staticTypes := #[.long, .boolean, (.array (.object "java/io/ObjectStreamField")), .char, (.object "java/util/Comparator"), .byte, .byte]
  resolved := Array.replicate 1451 none
  statics := some 0 }

def pool8 : Array CpInfo := pool [(6, .class_ 8), (1, u "java/lang/Object"), (0, u "<init>"), (0, u "()V"), (1, .class_ 14), (1, u "java/lang/StringUTF16"), (31, u "$assertionsDisabled"), (0, u "Z"), (13, u "HI_BYTE_SHIFT"), (0, u "I"), (2, u "LO_BYTE_SHIFT"), (49, .methodref 12 116), (0, .nameAndType 117 118), (0, u "compress"), (0, u "([CI[BII)I"), (3, u "([CII)[B"), (138, u "coderFromArrayLen"), (0, u "([BI)B"), (106, .class_ 371), (1, u "java/lang/StringUTF16$LinesSpliterator"), (58, u "MAX_LENGTH"), (196, .class_ 628), (0, u "java/lang/StringUTF16$CodePointsSpliterator"), (0, .class_ 630), (0, u "java/lang/StringUTF16$CharsSpliterator")] 4

def k8m0 : Method := { name := "<init>", desc := "()V", sig := { parameters := [], returnType := none }, accessFlags := 0, code := none }
def k8c1 : Code := { maxStack := 2, maxLocals := 2, code := jdk_52_method_15_code, exceptionTable := #[], attributes := #[] }
def k8m1 : Method := { name := "coderFromArrayLen", desc := "([BI)B", sig := { parameters := [(.array .byte), .int], returnType := some .byte }, accessFlags := 8, code := some k8c1 }
def k8c2 : Code := { maxStack := 5, maxLocals := 6, code := jdk_52_method_16_code, exceptionTable := #[], attributes := #[] }
def k8m2 : Method := { name := "compress", desc := "([CII)[B", sig := { parameters := [(.array .char), .int, .int], returnType := some (.array .byte) }, accessFlags := 9, code := some k8c2 }
def k8c3 : Code := { maxStack := 3, maxLocals := 7, code := jdk_52_method_21_code, exceptionTable := #[], attributes := #[] }
def k8m3 : Method := { name := "compress", desc := "([CI[BII)I", sig := { parameters := [(.array .char), .int, (.array .byte), .int, .int], returnType := some .int }, accessFlags := 9, code := some k8c3 }
/-- java/lang/StringUTF16 -/
def k8 : Class := { plain "java/lang/StringUTF16" (some 0) with
  accessFlags := 48
  interfaces := #[]
  cf := some (fileOf pool8 12 #[.nestMembers #[627, 629, 369]] #[{ accessFlags := 0, nameIndex := 9, descriptorIndex := 10, attributes := #[] }, { accessFlags := 8, nameIndex := 261, descriptorIndex := 262, attributes := #[] }, { accessFlags := 9, nameIndex := 117, descriptorIndex := 122, attributes := #[] }, { accessFlags := 9, nameIndex := 117, descriptorIndex := 118, attributes := #[] }] 48 6 #[] #[{ accessFlags := 26, nameIndex := 61, descriptorIndex := 62, attributes := #[] }, { accessFlags := 26, nameIndex := 65, descriptorIndex := 62, attributes := #[] }, { accessFlags := 24, nameIndex := 430, descriptorIndex := 62, attributes := #[] }, { accessFlags := 4120, nameIndex := 46, descriptorIndex := 47, attributes := #[] }])
  fields := #[{ name := "HI_BYTE_SHIFT", type := .int, accessFlags := 26, slot := 0, constantValue := 0 }, { name := "LO_BYTE_SHIFT", type := .int, accessFlags := 26, slot := 1, constantValue := 0 }, { name := "MAX_LENGTH", type := .int, accessFlags := 24, slot := 2, constantValue := 0 }, { name := "$assertionsDisabled", type := .boolean, accessFlags := 4120, slot := 3, constantValue := 0 }]
  methods := #[k8m0, k8m1, k8m2, k8m3]
  instanceTypes := #[]
  staticTypes := #[.int, .int, .int, .boolean]
  resolved := Array.replicate 635 none
  statics := none }

def pool9 : Array CpInfo := pool [(2, .class_ 4), (1, u "java/lang/Object"), (10, .class_ 16), (0, u "java/lang/String"), (1, .class_ 20), (1, u "com/example/bounded_lock/boundedlock/LockLayout"), (0, u "name"), (0, u "Ljava/lang/String;"), (3, u "(Ljava/lang/String;)Ljava/lang/String;"), (10, .methodref 15 38), (0, .nameAndType 39 40), (0, u "length"), (0, u "()I"), (0, .methodref 15 42), (0, .nameAndType 43 44), (0, u "substring"), (0, u "(I)Ljava/lang/String;"), (6, .string 52), (0, u " woken:"), (0, .methodref 15 54), (0, .nameAndType 55 56), (0, u "lastIndexOf"), (0, u "(Ljava/lang/String;)I"), (36, u "MODE_FIELD"), (3, u "READ_MODE"), (2, u "WRITE_MODE"), (2, u "READ_TIMEOUT_SEPARATOR"), (2, u "TURN_NOTICE_PREFIX"), (0, u "WRITERS_ONLY_NOTICE_PREFIX"), (0, u "RENEW_PLACES_NOTICE_PREFIX"), (0, u "TRY_AGAIN_NOTICE_PREFIX"), (0, u "WOKEN_INSTANCE_MARK"), (0, u "OWN_PREFIX"), (11, u "wokenInstanceOf")] 57

def k9c0 : Code := { maxStack := 3, maxLocals := 2, code := prog_7_method_7_code, exceptionTable := #[], attributes := #[] }
def k9m0 : Method := { name := "wokenInstanceOf", desc := "(Ljava/lang/String;)Ljava/lang/String;", sig := { parameters := [(.object "java/lang/String")], returnType := some (.object "java/lang/String") }, accessFlags := 8, code := some k9c0 }
/-- com/example/bounded_lock/boundedlock/LockLayout -/
def k9 : Class := { plain "com/example/bounded_lock/boundedlock/LockLayout" (some 0) with
  accessFlags := 32
  interfaces := #[]
  cf := some (fileOf pool9 18 #[] #[{ accessFlags := 8, nameIndex := 123, descriptorIndex := 26, attributes := #[] }] 32 2 #[] #[{ accessFlags := 24, nameIndex := 93, descriptorIndex := 22, attributes := #[] }, { accessFlags := 24, nameIndex := 97, descriptorIndex := 22, attributes := #[] }, { accessFlags := 24, nameIndex := 100, descriptorIndex := 22, attributes := #[] }, { accessFlags := 24, nameIndex := 103, descriptorIndex := 22, attributes := #[] }, { accessFlags := 24, nameIndex := 106, descriptorIndex := 22, attributes := #[] }, { accessFlags := 24, nameIndex := 107, descriptorIndex := 22, attributes := #[] }, { accessFlags := 24, nameIndex := 108, descriptorIndex := 22, attributes := #[] }, { accessFlags := 24, nameIndex := 109, descriptorIndex := 22, attributes := #[] }, { accessFlags := 24, nameIndex := 110, descriptorIndex := 22, attributes := #[] }, { accessFlags := 26, nameIndex := 111, descriptorIndex := 22, attributes := #[] }, { accessFlags := 18, nameIndex := 21, descriptorIndex := 22, attributes := #[] }])
  fields := #[{ name := "MODE_FIELD", type := (.object "java/lang/String"), accessFlags := 24, slot := 0, constantValue := 0 }, { name := "READ_MODE", type := (.object "java/lang/String"), accessFlags := 24, slot := 1, constantValue := 0 }, { name := "WRITE_MODE", type := (.object "java/lang/String"), accessFlags := 24, slot := 2, constantValue := 0 }, { name := "READ_TIMEOUT_SEPARATOR", type := (.object "java/lang/String"), accessFlags := 24, slot := 3, constantValue := 0 }, { name := "TURN_NOTICE_PREFIX", type := (.object "java/lang/String"), accessFlags := 24, slot := 4, constantValue := 0 }, { name := "WRITERS_ONLY_NOTICE_PREFIX", type := (.object "java/lang/String"), accessFlags := 24, slot := 5, constantValue := 0 }, { name := "RENEW_PLACES_NOTICE_PREFIX", type := (.object "java/lang/String"), accessFlags := 24, slot := 6, constantValue := 0 }, { name := "TRY_AGAIN_NOTICE_PREFIX", type := (.object "java/lang/String"), accessFlags := 24, slot := 7, constantValue := 0 }, { name := "WOKEN_INSTANCE_MARK", type := (.object "java/lang/String"), accessFlags := 24, slot := 8, constantValue := 0 }, { name := "OWN_PREFIX", type := (.object "java/lang/String"), accessFlags := 26, slot := 9, constantValue := 0 }, { name := "name", type := (.object "java/lang/String"), accessFlags := 18, slot := 0, constantValue := 0 }]
  methods := #[k9m0]
  instanceTypes := #[(.object "java/lang/String")]
  staticTypes := #[(.object "java/lang/String"), (.object "java/lang/String"), (.object "java/lang/String"), (.object "java/lang/String"), (.object "java/lang/String"), (.object "java/lang/String"), (.object "java/lang/String"), (.object "java/lang/String"), (.object "java/lang/String"), (.object "java/lang/String")]
  resolved := Array.replicate 181 none
  statics := none }

def pool10 : Array CpInfo := pool [(1, .class_ 2), (0, u "java/lang/String"), (1, .class_ 6), (1, u "java/lang/Object"), (0, u "<init>"), (0, u "()V"), (0, .methodref 1 10), (0, .nameAndType 11 12), (0, u "checkIndex"), (0, u "(II)V"), (1, .class_ 16), (1, u "java/lang/StringLatin1"), (36, u "([BI)C"), (48, u "([BI[BII)I"), (9, .methodref 1 113), (0, .nameAndType 7 114), (0, u "([BB)V"), (6, u "$assertionsDisabled"), (0, u "Z"), (8, .class_ 133), (1, u "java/util/Arrays"), (17, .string 152), (0, u ""), (43, u "newString"), (0, u "([BII)Ljava/lang/String;"), (23, .class_ 223), (1, u "java/lang/StringLatin1$LinesSpliterator"), (8, .methodref 131 233), (0, .nameAndType 234 235), (0, u "copyOfRange"), (0, u "([BII)[B"), (16, u "charAt"), (56, u "lastIndexOf"), (80, .class_ 391), (0, u "java/lang/StringLatin1$CharsSpliterator")] 3

def k10m0 : Method := { name := "<init>", desc := "()V", sig := { parameters := [], returnType := none }, accessFlags := 0, code := none }
def k10c1 : Code := { maxStack := 2, maxLocals := 2, code := jdk_43_method_2_code, exceptionTable := #[], attributes := #[] }
def k10m1 : Method := { name := "charAt", desc := "([BI)C", sig := { parameters := [(.array .byte), .int], returnType := some .char }, accessFlags := 9, code := some k10c1 }
def k10c2 : Code := { maxStack := 3, maxLocals := 12, code := jdk_43_method_26_code, exceptionTable := #[], attributes := #[] }
def k10m2 : Method := { name := "lastIndexOf", desc := "([BI[BII)I", sig := { parameters := [(.array .byte), .int, (.array .byte), .int, .int], returnType := some .int }, accessFlags := 9, code := some k10c2 }
def k10c3 : Code := { maxStack := 6, maxLocals := 3, code := jdk_43_method_47_code, exceptionTable := #[], attributes := #[] }
def k10m3 : Method := { name := "newString", desc := "([BII)Ljava/lang/String;", sig := { parameters := [(.array .byte), .int, .int], returnType := some (.object "java/lang/String") }, accessFlags := 9, code := some k10c3 }
/-- java/lang/StringLatin1 -/
def k10 : Class := { plain "java/lang/StringLatin1" (some 0) with
  accessFlags := 48
  interfaces := #[]
  cf := some (fileOf pool10 14 #[.nestMembers #[390, 221]] #[{ accessFlags := 0, nameIndex := 7, descriptorIndex := 8, attributes := #[] }, { accessFlags := 9, nameIndex := 252, descriptorIndex := 53, attributes := #[] }, { accessFlags := 9, nameIndex := 309, descriptorIndex := 102, attributes := #[] }, { accessFlags := 9, nameIndex := 196, descriptorIndex := 197, attributes := #[] }] 48 4 #[] #[{ accessFlags := 4120, nameIndex := 121, descriptorIndex := 122, attributes := #[] }])
  fields := #[{ name := "$assertionsDisabled", type := .boolean, accessFlags := 4120, slot := 0, constantValue := 0 }]
  methods := #[k10m0, k10m1, k10m2, k10m3]
  instanceTypes := #[]
  staticTypes := #[.boolean]
  resolved := Array.replicate 395 none
  statics := none }

def pool11 : Array CpInfo := pool [(2, .class_ 4), (1, u "java/lang/Object"), (0, u "<init>"), (0, u "()V"), (17, .class_ 26), (1, u "jdk/internal/util/Preconditions"), (6, u "checkIndex"), (13, u "checkFromToIndex"), (7, .class_ 56), (0, u "jdk/internal/util/Preconditions$4"), (57, .class_ 115), (0, u "jdk/internal/util/Preconditions$1"), (7, u "SIOOBE_FORMATTER"), (0, u "Ljava/util/function/BiFunction;"), (0, .class_ 126), (0, u "jdk/internal/util/Preconditions$2"), (3, u "AIOOBE_FORMATTER"), (0, .class_ 132), (0, u "jdk/internal/util/Preconditions$3"), (3, u "IOOBE_FORMATTER"), (41, u "(IILjava/util/function/BiFunction;)I"), (4, u "(IIILjava/util/function/BiFunction;)I")] 10

def k11m0 : Method := { name := "<init>", desc := "()V", sig := { parameters := [], returnType := none }, accessFlags := 1, code := none }
def k11c1 : Code := { maxStack := 3, maxLocals := 3, code := jdk_41_method_11_code, exceptionTable := #[], attributes := #[] }
def k11m1 : Method := { name := "checkIndex", desc := "(IILjava/util/function/BiFunction;)I", sig := { parameters := [.int, .int, (.object "java/util/function/BiFunction")], returnType := some .int }, accessFlags := 9, code := some k11c1 }
def k11c2 : Code := { maxStack := 4, maxLocals := 4, code := jdk_41_method_12_code, exceptionTable := #[], attributes := #[] }
def k11m2 : Method := { name := "checkFromToIndex", desc := "(IIILjava/util/function/BiFunction;)I", sig := { parameters := [.int, .int, .int, (.object "java/util/function/BiFunction")], returnType := some .int }, accessFlags := 9, code := some k11c2 }
/-- jdk/internal/util/Preconditions -/
def k11 : Class := { plain "jdk/internal/util/Preconditions" (some 0) with
  accessFlags := 33
  interfaces := #[]
  cf := some (fileOf pool11 24 #[.nestMembers #[55, 131, 125, 114]] #[{ accessFlags := 1, nameIndex := 5, descriptorIndex := 6, attributes := #[] }, { accessFlags := 9, nameIndex := 33, descriptorIndex := 178, attributes := #[] }, { accessFlags := 9, nameIndex := 47, descriptorIndex := 183, attributes := #[] }] 33 2 #[] #[{ accessFlags := 25, nameIndex := 123, descriptorIndex := 124, attributes := #[] }, { accessFlags := 25, nameIndex := 130, descriptorIndex := 124, attributes := #[] }, { accessFlags := 25, nameIndex := 136, descriptorIndex := 124, attributes := #[] }])
  fields := #[{ name := "SIOOBE_FORMATTER", type := (.object "java/util/function/BiFunction"), accessFlags := 25, slot := 0, constantValue := 0 }, { name := "AIOOBE_FORMATTER", type := (.object "java/util/function/BiFunction"), accessFlags := 25, slot := 1, constantValue := 0 }, { name := "IOOBE_FORMATTER", type := (.object "java/util/function/BiFunction"), accessFlags := 25, slot := 2, constantValue := 0 }]
  methods := #[k11m0, k11m1, k11m2]
  instanceTypes := #[]
  staticTypes := #[(.object "java/util/function/BiFunction"), (.object "java/util/function/BiFunction"), (.object "java/util/function/BiFunction")]
  resolved := Array.replicate 194 none
  statics := some 1 }

def pool12 : Array CpInfo := pool [(2, .class_ 4), (1, u "java/lang/Object"), (0, u "<init>"), (0, u "()V"), (7, .class_ 16), (1, u "java/util/Arrays"), (57, .class_ 76), (1, u "java/util/Arrays$NaturalOrder"), (36, .class_ 115), (1, u "java/util/Arrays$LegacyMergeSort"), (1, u "Z"), (21, u "copyOfRange"), (10, .methodref 151 152), (0, .class_ 153), (0, .nameAndType 154 155), (0, u "java/lang/System"), (0, u "arraycopy"), (0, u "(Ljava/lang/Object;ILjava/lang/Object;II)V"), (148, .methodref 305 306), (0, .class_ 307), (0, .nameAndType 308 309), (0, u "java/lang/Math"), (0, u "min"), (0, u "(II)I"), (29, .methodref 14 340), (0, .nameAndType 341 342), (0, u "copyOfRangeByte"), (0, u "([BII)[B"), (0, .methodref 14 344), (0, .nameAndType 345 346), (0, u "checkLength"), (0, u "(II)V"), (28, .class_ 376), (0, u "java/util/Arrays$ArrayList"), (68, u "$assertionsDisabled"), (269, u "MIN_ARRAY_SORT_GRAN"), (0, u "I"), (2, u "INSERTIONSORT_THRESHOLD"), (255, .class_ 976), (0, u "java/util/Arrays$ArrayItr")] 52

def k12m0 : Method := { name := "<init>", desc := "()V", sig := { parameters := [], returnType := none }, accessFlags := 2, code := none }
def k12c1 : Code := { maxStack := 4, maxLocals := 2, code := jdk_65_method_131_code, exceptionTable := #[], attributes := #[] }
def k12m1 : Method := { name := "checkLength", desc := "(II)V", sig := { parameters := [.int, .int], returnType := none }, accessFlags := 10, code := some k12c1 }
def k12c2 : Code := { maxStack := 3, maxLocals := 3, code := jdk_65_method_132_code, exceptionTable := #[], attributes := #[] }
def k12m2 : Method := { name := "copyOfRange", desc := "([BII)[B", sig := { parameters := [(.array .byte), .int, .int], returnType := some (.array .byte) }, accessFlags := 9, code := some k12c2 }
def k12c3 : Code := { maxStack := 6, maxLocals := 5, code := jdk_65_method_133_code, exceptionTable := #[], attributes := #[] }
def k12m3 : Method := { name := "copyOfRangeByte", desc := "([BII)[B", sig := { parameters := [(.array .byte), .int, .int], returnType := some (.array .byte) }, accessFlags := 10, code := some k12c3 }
/-- java/util/Arrays -/
def k12 : Class := { plain "java/util/Arrays" (some 0) with
  accessFlags := 49
  interfaces := #[]
  cf := some (fileOf pool12 14 #[.nestMembers #[975, 375, 113, 74]] #[{ accessFlags := 2, nameIndex := 5, descriptorIndex := 6, attributes := #[] }, { accessFlags := 10, nameIndex := 345, descriptorIndex := 346, attributes := #[] }, { accessFlags := 9, nameIndex := 139, descriptorIndex := 342, attributes := #[] }, { accessFlags := 10, nameIndex := 341, descriptorIndex := 342, attributes := #[] }] 49 2 #[] #[{ accessFlags := 26, nameIndex := 715, descriptorIndex := 716, attributes := #[] }, { accessFlags := 26, nameIndex := 719, descriptorIndex := 716, attributes := #[] }, { accessFlags := 4120, nameIndex := 445, descriptorIndex := 117, attributes := #[] }])
  fields := #[{ name := "MIN_ARRAY_SORT_GRAN", type := .int, accessFlags := 26, slot := 0, constantValue := 0 }, { name := "INSERTIONSORT_THRESHOLD", type := .int, accessFlags := 26, slot := 1, constantValue := 0 }, { name := "$assertionsDisabled", type := .boolean, accessFlags := 4120, slot := 2, constantValue := 0 }]
  methods := #[k12m0, k12m1, k12m2, k12m3]
  instanceTypes := #[]
  staticTypes := #[.int, .int, .boolean]
  resolved := Array.replicate 1029 none
  statics := none }

def pool13 : Array CpInfo := pool [(1, .class_ 2), (0, u "java/lang/Math"), (1, .class_ 6), (1, u "java/lang/Object"), (0, u "<init>"), (0, u "()V"), (89, .class_ 100), (1, u "java/lang/Math$RandomNumberGeneratorHolder"), (71, u "negativeZeroFloatBits"), (0, u "J"), (2, u "negativeZeroDoubleBits"), (24, u "min"), (43, u "$assertionsDisabled"), (0, u "Z"), (88, u "(II)I"), (2, u "twoToTheDoubleScaleDown"), (0, u "D"), (4, u "twoToTheDoubleScaleUp"), (9, u "E"), (3, u "PI"), (2, u "TAU"), (2, u "DEGREES_TO_RADIANS"), (0, u "RADIANS_TO_DEGREES")] 94

def k13m0 : Method := { name := "<init>", desc := "()V", sig := { parameters := [], returnType := none }, accessFlags := 2, code := none }
def k13c1 : Code := { maxStack := 2, maxLocals := 2, code := jdk_29_method_69_code, exceptionTable := #[], attributes := #[] }
def k13m1 : Method := { name := "min", desc := "(II)I", sig := { parameters := [.int, .int], returnType := some .int }, accessFlags := 9, code := some k13c1 }
/-- java/lang/Math -/
def k13 : Class := { plain "java/lang/Math" (some 0) with
  accessFlags := 49
  interfaces := #[]
  cf := some (fileOf pool13 1 #[.nestMembers #[98]] #[{ accessFlags := 2, nameIndex := 7, descriptorIndex := 8, attributes := #[] }, { accessFlags := 9, nameIndex := 201, descriptorIndex := 335, attributes := #[] }] 49 4 #[] #[{ accessFlags := 25, nameIndex := 354, descriptorIndex := 339, attributes := #[] }, { accessFlags := 25, nameIndex := 358, descriptorIndex := 339, attributes := #[] }, { accessFlags := 25, nameIndex := 361, descriptorIndex := 339, attributes := #[] }, { accessFlags := 26, nameIndex := 364, descriptorIndex := 339, attributes := #[] }, { accessFlags := 26, nameIndex := 365, descriptorIndex := 339, attributes := #[] }, { accessFlags := 26, nameIndex := 172, descriptorIndex := 173, attributes := #[] }, { accessFlags := 26, nameIndex := 176, descriptorIndex := 173, attributes := #[] }, { accessFlags := 8, nameIndex := 344, descriptorIndex := 339, attributes := #[] }, { accessFlags := 8, nameIndex := 338, descriptorIndex := 339, attributes := #[] }, { accessFlags := 4120, nameIndex := 245, descriptorIndex := 246, attributes := #[] }])
  fields := #[{ name := "E", type := .double, accessFlags := 25, slot := 0, constantValue := 0 }, { name := "PI", type := .double, accessFlags := 25, slot := 1, constantValue := 0 }, { name := "TAU", type := .double, accessFlags := 25, slot := 2, constantValue := 0 }, { name := "DEGREES_TO_RADIANS", type := .double, accessFlags := 26, slot := 3, constantValue := 0 }, { name := "RADIANS_TO_DEGREES", type := .double, accessFlags := 26, slot := 4, constantValue := 0 }, { name := "negativeZeroFloatBits", type := .long, accessFlags := 26, slot := 5, constantValue := 0 }, { name := "negativeZeroDoubleBits", type := .long, accessFlags := 26, slot := 6, constantValue := 0 }, { name := "twoToTheDoubleScaleUp", type := .double, accessFlags := 8, slot := 7, constantValue := 0 }, { name := "twoToTheDoubleScaleDown", type := .double, accessFlags := 8, slot := 8, constantValue := 0 }, { name := "$assertionsDisabled", type := .boolean, accessFlags := 4120, slot := 9, constantValue := 0 }]
  methods := #[k13m0, k13m1]
  instanceTypes := #[]
  staticTypes := #[.double, .double, .double, .double, .double, .long, .long, .double, .double, .boolean]
  resolved := Array.replicate 460 none
  statics := none }

def pool14 : Array CpInfo := pool [(2, .class_ 4), (1, u "java/lang/Object"), (0, u "<init>"), (0, u "()V"), (1, .class_ 10), (1, u "java/lang/System"), (0, u "allowSecurityManager"), (0, u "I"), (16, u "cons"), (0, u "Ljava/io/Console;"), (77, .class_ 110), (1, u "java/lang/System$CallersHolder"), (43, u "initialErrStream"), (0, u "Ljava/io/PrintStream;"), (19, u "security"), (0, u "Ljava/lang/SecurityManager;"), (31, .class_ 209), (0, u "java/lang/System$1"), (7, u "props"), (0, u "Ljava/util/Properties;"), (2, u "lineSeparator"), (0, u "Ljava/lang/String;"), (96, .class_ 321), (1, u "java/lang/System$LoggerFinder"), (5, .class_ 328), (0, u "java/lang/System$Logger"), (67, u "err"), (2, u "out"), (91, u "notSupportedJnuEncoding"), (15, u "in"), (17, u "initialIn"), (0, u "Ljava/io/InputStream;"), (35, u "bootLayer"), (0, u "Ljava/lang/ModuleLayer;"), (99, .class_ 664), (0, u "java/lang/System$2"), (9, u "NEVER"), (2, u "MAYBE"), (49, u "arraycopy"), (0, u "(Ljava/lang/Object;ILjava/lang/Object;II)V"), (72, .class_ 802), (0, u "java/lang/System$Logger$Level")] 31

def k14m0 : Method := { name := "<init>", desc := "()V", sig := { parameters := [], returnType := none }, accessFlags := 2, code := none }
def k14m1 : Method := { name := "arraycopy", desc := "(Ljava/lang/Object;ILjava/lang/Object;II)V", sig := { parameters := [(.object "java/lang/Object"), .int, (.object "java/lang/Object"), .int, .int], returnType := none }, accessFlags := 265, code := none }
/-- java/lang/System -/
def k14 : Class := { plain "java/lang/System" (some 0) with
  accessFlags := 49
  interfaces := #[]
  cf := some (fileOf pool14 8 #[.nestMembers #[319, 327, 801, 108, 663, 208]] #[{ accessFlags := 2, nameIndex := 5, descriptorIndex := 6, attributes := #[] }, { accessFlags := 265, nameIndex := 727, descriptorIndex := 728, attributes := #[] }] 49 2 #[] #[{ accessFlags := 25, nameIndex := 507, descriptorIndex := 526, attributes := #[] }, { accessFlags := 25, nameIndex := 399, descriptorIndex := 155, attributes := #[] }, { accessFlags := 25, nameIndex := 396, descriptorIndex := 155, attributes := #[] }, { accessFlags := 10, nameIndex := 525, descriptorIndex := 526, attributes := #[] }, { accessFlags := 26, nameIndex := 674, descriptorIndex := 12, attributes := #[] }, { accessFlags := 26, nameIndex := 677, descriptorIndex := 12, attributes := #[] }, { accessFlags := 10, nameIndex := 11, descriptorIndex := 12, attributes := #[] }, { accessFlags := 74, nameIndex := 175, descriptorIndex := 176, attributes := #[] }, { accessFlags := 10, nameIndex := 491, descriptorIndex := 222, attributes := #[] }, { accessFlags := 74, nameIndex := 29, descriptorIndex := 30, attributes := #[] }, { accessFlags := 74, nameIndex := 154, descriptorIndex := 155, attributes := #[] }, { accessFlags := 10, nameIndex := 217, descriptorIndex := 218, attributes := #[] }, { accessFlags := 10, nameIndex := 221, descriptorIndex := 222, attributes := #[] }, { accessFlags := 8, nameIndex := 562, descriptorIndex := 563, attributes := #[] }])
  fields := #[{ name := "in", type := (.object "java/io/InputStream"), accessFlags := 25, slot := 0, constantValue := 0 }, { name := "out", type := (.object "java/io/PrintStream"), accessFlags := 25, slot := 1, constantValue := 0 }, { name := "err", type := (.object "java/io/PrintStream"), accessFlags := 25, slot := 2, constantValue := 0 }, { name := "initialIn", type := (.object "java/io/InputStream"), accessFlags := 10, slot := 3, constantValue := 0 }, { name := "NEVER", type := .int, accessFlags := 26, slot := 4, constantValue := 0 }, { name := "MAYBE", type := .int, accessFlags := 26, slot := 5, constantValue := 0 }, { name := "allowSecurityManager", type := .int, accessFlags := 10, slot := 6, constantValue := 0 }, { name := "security", type := (.object "java/lang/SecurityManager"), accessFlags := 74, slot := 7, constantValue := 0 }, { name := "notSupportedJnuEncoding", type := (.object "java/lang/String"), accessFlags := 10, slot := 8, constantValue := 0 }, { name := "cons", type := (.object "java/io/Console"), accessFlags := 74, slot := 9, constantValue := 0 }, { name := "initialErrStream", type := (.object "java/io/PrintStream"), accessFlags := 74, slot := 10, constantValue := 0 }, { name := "props", type := (.object "java/util/Properties"), accessFlags := 10, slot := 11, constantValue := 0 }, { name := "lineSeparator", type := (.object "java/lang/String"), accessFlags := 10, slot := 12, constantValue := 0 }, { name := "bootLayer", type := (.object "java/lang/ModuleLayer"), accessFlags := 8, slot := 13, constantValue := 0 }]
  methods := #[k14m0, k14m1]
  instanceTypes := #[]
  staticTypes := #[(.object "java/io/InputStream"), (.object "java/io/PrintStream"), (.object "java/io/PrintStream"), (.object "java/io/InputStream"), .int, .int, .int, (.object "java/lang/SecurityManager"), (.object "java/lang/String"), (.object "java/io/Console"), (.object "java/io/PrintStream"), (.object "java/util/Properties"), (.object "java/lang/String"), (.object "java/lang/ModuleLayer")]
  resolved := Array.replicate 834 none
  statics := none }

def pool15 : Array CpInfo := pool [(9, u "<init>"), (6, .class_ 18), (1, u "java/lang/Object"), (0, u "()V"), (1, .class_ 23), (1, u "jdk/internal/util/ArraysSupport"), (0, u "LOG2_ARRAY_LONG_INDEX_SCALE"), (0, u "I"), (2, u "U"), (0, u "Ljdk/internal/misc/Unsafe;"), (8, u "BIG_ENDIAN"), (0, u "Z"), (8, u "LOG2_BYTE_BIT_SIZE"), (4, u "LOG2_ARRAY_INT_INDEX_SCALE"), (54, u "JLA"), (0, u "Ljdk/internal/access/JavaLangAccess;"), (11, u "LOG2_ARRAY_BOOLEAN_INDEX_SCALE"), (9, u "LOG2_ARRAY_BYTE_INDEX_SCALE"), (5, u "LOG2_ARRAY_CHAR_INDEX_SCALE"), (5, u "LOG2_ARRAY_SHORT_INDEX_SCALE"), (18, u "LOG2_ARRAY_FLOAT_INDEX_SCALE"), (24, u "LOG2_ARRAY_DOUBLE_INDEX_SCALE"), (89, u "T_BOOLEAN"), (2, u "T_CHAR"), (1, u "T_FLOAT"), (1, u "T_DOUBLE"), (1, u "T_BYTE"), (1, u "T_SHORT"), (1, u "T_INT"), (1, u "T_LONG"), (1, u "SOFT_MAX_ARRAY_LENGTH")] 83

def k15m0 : Method := { name := "<init>", desc := "()V", sig := { parameters := [], returnType := none }, accessFlags := 2, code := none }
/-- jdk/internal/util/ArraysSupport -/
def k15 : Class := { plain "jdk/internal/util/ArraysSupport" (some 0) with
  accessFlags := 33
  interfaces := #[]
  cf := some (fileOf pool15 21 #[] #[{ accessFlags := 2, nameIndex := 9, descriptorIndex := 19, attributes := #[] }] 33 16 #[] #[{ accessFlags := 24, nameIndex := 28, descriptorIndex := 29, attributes := #[] }, { accessFlags := 26, nameIndex := 38, descriptorIndex := 39, attributes := #[] }, { accessFlags := 25, nameIndex := 121, descriptorIndex := 25, attributes := #[] }, { accessFlags := 25, nameIndex := 131, descriptorIndex := 25, attributes := #[] }, { accessFlags := 25, nameIndex := 137, descriptorIndex := 25, attributes := #[] }, { accessFlags := 25, nameIndex := 143, descriptorIndex := 25, attributes := #[] }, { accessFlags := 25, nameIndex := 53, descriptorIndex := 25, attributes := #[] }, { accessFlags := 25, nameIndex := 24, descriptorIndex := 25, attributes := #[] }, { accessFlags := 25, nameIndex := 162, descriptorIndex := 25, attributes := #[] }, { accessFlags := 25, nameIndex := 187, descriptorIndex := 25, attributes := #[] }, { accessFlags := 26, nameIndex := 48, descriptorIndex := 25, attributes := #[] }, { accessFlags := 25, nameIndex := 277, descriptorIndex := 25, attributes := #[] }, { accessFlags := 25, nameIndex := 280, descriptorIndex := 25, attributes := #[] }, { accessFlags := 25, nameIndex := 282, descriptorIndex := 25, attributes := #[] }, { accessFlags := 25, nameIndex := 284, descriptorIndex := 25, attributes := #[] }, { accessFlags := 25, nameIndex := 286, descriptorIndex := 25, attributes := #[] }, { accessFlags := 25, nameIndex := 288, descriptorIndex := 25, attributes := #[] }, { accessFlags := 25, nameIndex := 290, descriptorIndex := 25, attributes := #[] }, { accessFlags := 25, nameIndex := 292, descriptorIndex := 25, attributes := #[] }, { accessFlags := 26, nameIndex := 108, descriptorIndex := 109, attributes := #[] }, { accessFlags := 25, nameIndex := 294, descriptorIndex := 25, attributes := #[] }])
  fields := #[{ name := "U", type := (.object "jdk/internal/misc/Unsafe"), accessFlags := 24, slot := 0, constantValue := 0 }, { name := "BIG_ENDIAN", type := .boolean, accessFlags := 26, slot := 1, constantValue := 0 }, { name := "LOG2_ARRAY_BOOLEAN_INDEX_SCALE", type := .int, accessFlags := 25, slot := 2, constantValue := 0 }, { name := "LOG2_ARRAY_BYTE_INDEX_SCALE", type := .int, accessFlags := 25, slot := 3, constantValue := 0 }, { name := "LOG2_ARRAY_CHAR_INDEX_SCALE", type := .int, accessFlags := 25, slot := 4, constantValue := 0 }, { name := "LOG2_ARRAY_SHORT_INDEX_SCALE", type := .int, accessFlags := 25, slot := 5, constantValue := 0 }, { name := "LOG2_ARRAY_INT_INDEX_SCALE", type := .int, accessFlags := 25, slot := 6, constantValue := 0 }, { name := "LOG2_ARRAY_LONG_INDEX_SCALE", type := .int, accessFlags := 25, slot := 7, constantValue := 0 }, { name := "LOG2_ARRAY_FLOAT_INDEX_SCALE", type := .int, accessFlags := 25, slot := 8, constantValue := 0 }, { name := "LOG2_ARRAY_DOUBLE_INDEX_SCALE", type := .int, accessFlags := 25, slot := 9, constantValue := 0 }, { name := "LOG2_BYTE_BIT_SIZE", type := .int, accessFlags := 26, slot := 10, constantValue := 0 }, { name := "T_BOOLEAN", type := .int, accessFlags := 25, slot := 11, constantValue := 0 }, { name := "T_CHAR", type := .int, accessFlags := 25, slot := 12, constantValue := 0 }, { name := "T_FLOAT", type := .int, accessFlags := 25, slot := 13, constantValue := 0 }, { name := "T_DOUBLE", type := .int, accessFlags := 25, slot := 14, constantValue := 0 }, { name := "T_BYTE", type := .int, accessFlags := 25, slot := 15, constantValue := 0 }, { name := "T_SHORT", type := .int, accessFlags := 25, slot := 16, constantValue := 0 }, { name := "T_INT", type := .int, accessFlags := 25, slot := 17, constantValue := 0 }, { name := "T_LONG", type := .int, accessFlags := 25, slot := 18, constantValue := 0 }, { name := "JLA", type := (.object "jdk/internal/access/JavaLangAccess"), accessFlags := 26, slot := 19, constantValue := 0 }, { name := "SOFT_MAX_ARRAY_LENGTH", type := .int, accessFlags := 25, slot := 20, constantValue := 0 }]
  methods := #[k15m0]
  instanceTypes := #[]
  staticTypes := #[(.object "jdk/internal/misc/Unsafe"), .boolean, .int, .int, .int, .int, .int, .int, .int, .int, .int, .int, .int, .int, .int, .int, .int, .int, .int, (.object "jdk/internal/access/JavaLangAccess"), .int]
  resolved := Array.replicate 378 none
  statics := none }

def pool16 : Array CpInfo := pool [(1, u "java/lang/Cloneable"), (0, .class_ 1), (0, u "java/lang/Object"), (0, .class_ 3)] 3

/-- java/lang/Cloneable -/
def k16 : Class := { plain "java/lang/Cloneable" (some 0) with
  accessFlags := 1537
  interfaces := #[]
  cf := some (fileOf pool16 2 #[] #[] 1537 4 #[] #[])
  fields := #[]
  methods := #[]
  instanceTypes := #[]
  staticTypes := #[]
  resolved := Array.replicate 8 none
  statics := none }

/-- the primitive byte -/
def k17 : Class := { plain "byte" none with kind := .primitive 'B', accessFlags := 0x411 }
/-- [B -/
def k18 : Class := { plain "[B" (some 0) with kind := .array 17 .byte, interfaces := #[16, 2], accessFlags := 1041 }

/-- the primitive char -/
def k19 : Class := { plain "char" none with kind := .primitive 'C', accessFlags := 0x411 }
/-- [C -/
def k20 : Class := { plain "[C" (some 0) with kind := .array 19 .char, interfaces := #[16, 2], accessFlags := 1041 }

/-- the primitive int -/
def k21 : Class := { plain "int" none with kind := .primitive 'I', accessFlags := 0x411 }
/-- [I -/
def k22 : Class := { plain "[I" (some 0) with kind := .array 21 .int, interfaces := #[16, 2], accessFlags := 1041 }

def heap : Heap := #[{ cls := 7, slots := #[.long 0, .int 1, .null, .int 0, .null, .int 0, .int 0], vm := .statics 7 },
  { cls := 11, slots := #[.null, .null, .null], vm := .statics 11 }]
def classes : Array Class := #[k0, k1, k2, k3, k4, k5, k6, k7, k8, k9, k10, k11, k12, k13, k14, k15, k16, k17, k18, k19, k20, k21, k22]
def interned : List (Array UInt16 × Addr) := []
def slotsUsed : Nat := 10
def theMethod : MethodId := ⟨1, 1⟩
def args0 : Array Value := #[.long 5, .long 5, .int 5]
def aboutOver (below : List Frame) : State where
  vm := { classes := classes, interned := interned.toArray }
  heap := heap
  slotsUsed := slotsUsed
  threads := #[{ frames := .invoking theMethod args0 :: below }]
def below0 : List Frame := [.native { method := ⟨0, 0⟩, args := #[] }]
def about1 : State := aboutOver below0
def p0 : Program := .bare "" "" ""
def e0 : Env := launch0.env 0 0 0
theorem w_frames : about1.frames = Frame.invoking theMethod args0 :: below0 := rfl
set_option maxRecDepth 65536 in
theorem w_args : argsFit about1.vm theMethod args0 = true := by decide +kernel
set_option maxRecDepth 65536 in
theorem w_heap : heapFits about1 = true := by decide +kernel
set_option maxRecDepth 65536 in
theorem w_runnable : about1.curStatus? = some .runnable := by decide +kernel
set_option maxRecDepth 65536 in
theorem w_alone : about1.alone = true := by decide +kernel
set_option maxRecDepth 65536 in
theorem w_named : about1.methodNamed? x = some theMethod := by decide +kernel
set_option maxRecDepth 65536 in
theorem w_hears : about1.hears theMethod below0 = true := by decide +kernel
set_option maxRecDepth 65536 in
theorem w_ripe : about1.ripe theMethod args0 below0 = true := by decide +kernel
theorem w_running : about1.status = .running := rfl
set_option maxRecDepth 65536 in
theorem w_room : about1.hasRoom e0.platform room_1 = true :=
  launch0.hasRoom_least _ room_1 (by decide +kernel) (by decide +kernel) (by decide +kernel) (by decide +kernel) (by decide +kernel) (by decide +kernel)
theorem allAtoms_all (ts : List Jvm.Cond) (a : Array Jvm.Value) (st : Jvm.State) : (allAtoms ts).before a st = ts.all (fun c => c.before a st) := by
  induction ts with
  | nil => rfl
  | cons c t ih =>
    show (Jvm.Cond.and c (allAtoms t)).before a st = _
    rw [Jvm.Cond.before_and, ih, List.all_cons]
def words1 : List Jvm.Cond := Jvm.Cond.code x code maxLocals ret :: tables_1
/-- a 'code' word, met by the world's own term for the bytes: nothing is compared byte by byte -/
theorem code_word {y : MethodName} {bytes : ByteArray} {mx : Nat} {rt : Option FieldType} {a : Array Value} {s : State} {m : MethodId} {meth : Method} {c : Code} (h1 : s.methodNamed? y = some m) (h2 : s.vm.method? m = some meth) (h3 : meth.code = some c) (h4 : c.code = bytes)
    (h5 : (c.maxLocals == mx && c.exceptionTable.isEmpty && decide (c.maxStack ≤ mostOperands) && decide (meth.sig.returnType = rt) && !meth.locks && decide (parseMethodDescriptor y.desc = some meth.sig)) = true) : (Jvm.Cond.code y bytes mx rt).before a s = true := by
  simp only [Bool.and_eq_true, beq_iff_eq, Bool.not_eq_true', decide_eq_true_eq] at h5
  obtain ⟨⟨⟨⟨⟨g1, g2⟩, g3⟩, g4⟩, g5⟩, g6⟩ := h5
  simp [Cond.before, Cond.holds, Cond.value, h1, h2, h3, h4, g1, g2, g3, g4, g5, g6]
def isCode : Jvm.Cond → Bool
  | .code _ _ _ _ => true
  | _ => false
theorem all_split {L : List Jvm.Cond} {P : Jvm.Cond → Bool} (h1 : L.all (fun c => isCode c || P c) = true) (h2 : ∀ c ∈ L.filter isCode, P c = true) : L.all P = true := by
  refine List.all_eq_true.mpr fun c hc => ?_
  have h := List.all_eq_true.mp h1 c hc
  rcases Bool.eq_false_or_eq_true (isCode c) with hi | hi
  · exact h2 c (List.mem_filter.mpr ⟨hc, hi⟩)
  · simpa [hi] using h
set_option maxRecDepth 65536 in
theorem w_c0 : (Jvm.Cond.code x code maxLocals ret).before args0 about1 = true := code_word (m := ⟨1, 1⟩) (meth := k1m1) (c := k1c1) (by decide +kernel) rfl rfl rfl (by decide +kernel)
set_option maxRecDepth 65536 in
theorem w_c1 : (Jvm.Cond.code ({ cls := "com/example/bounded_lock/boundedlock/LockLayoutWokenInstanceOfPinLaw", name := "ch", desc := "(JI)C" } : Jvm.MethodName) method_3_code (3 : Nat) (Option.some Jvm.ClassFile.FieldType.char)).before args0 about1 = true := code_word (m := ⟨1, 2⟩) (meth := k1m2) (c := k1c2) (by decide +kernel) rfl rfl rfl (by decide +kernel)
set_option maxRecDepth 65536 in
theorem w_c2 : (Jvm.Cond.code ({ cls := "java/lang/String", name := "<init>", desc := "([C)V" } : Jvm.MethodName) jdk_42_method_3_code (2 : Nat) (Option.none : Option Jvm.ClassFile.FieldType)).before args0 about1 = true := code_word (m := ⟨7, 1⟩) (meth := k7m1) (c := k7c1) (by decide +kernel) rfl rfl rfl (by decide +kernel)
set_option maxRecDepth 65536 in
theorem w_c3 : (Jvm.Cond.code ({ cls := "java/lang/String", name := "<init>", desc := "([CIILjava/lang/Void;)V" } : Jvm.MethodName) jdk_42_method_149_code (6 : Nat) (Option.none : Option Jvm.ClassFile.FieldType)).before args0 about1 = true := code_word (m := ⟨7, 9⟩) (meth := k7m9) (c := k7c9) (by decide +kernel) rfl rfl rfl (by decide +kernel)
set_option maxRecDepth 65536 in
theorem w_c4 : (Jvm.Cond.code ({ cls := "java/lang/Object", name := "<init>", desc := "()V" } : Jvm.MethodName) object_method_1_code (1 : Nat) (Option.none : Option Jvm.ClassFile.FieldType)).before args0 about1 = true := code_word (m := ⟨0, 0⟩) (meth := k0m0) (c := k0c0) (by decide +kernel) rfl rfl rfl (by decide +kernel)
set_option maxRecDepth 65536 in
theorem w_c5 : (Jvm.Cond.code ({ cls := "java/lang/StringUTF16", name := "compress", desc := "([CII)[B" } : Jvm.MethodName) jdk_52_method_16_code (6 : Nat) (Option.some (Jvm.ClassFile.FieldType.array Jvm.ClassFile.FieldType.byte))).before args0 about1 = true := code_word (m := ⟨8, 2⟩) (meth := k8m2) (c := k8c2) (by decide +kernel) rfl rfl rfl (by decide +kernel)
set_option maxRecDepth 65536 in
theorem w_c6 : (Jvm.Cond.code ({ cls := "java/lang/StringUTF16", name := "compress", desc := "([CI[BII)I" } : Jvm.MethodName) jdk_52_method_21_code (7 : Nat) (Option.some Jvm.ClassFile.FieldType.int)).before args0 about1 = true := code_word (m := ⟨8, 3⟩) (meth := k8m3) (c := k8c3) (by decide +kernel) rfl rfl rfl (by decide +kernel)
set_option maxRecDepth 65536 in
theorem w_c7 : (Jvm.Cond.code ({ cls := "java/lang/StringUTF16", name := "coderFromArrayLen", desc := "([BI)B" } : Jvm.MethodName) jdk_52_method_15_code (2 : Nat) (Option.some Jvm.ClassFile.FieldType.byte)).before args0 about1 = true := code_word (m := ⟨8, 1⟩) (meth := k8m1) (c := k8c1) (by decide +kernel) rfl rfl rfl (by decide +kernel)
set_option maxRecDepth 65536 in
theorem w_c8 : (Jvm.Cond.code ({ cls := "com/example/bounded_lock/boundedlock/LockLayoutWokenInstanceOfPinLaw", name := "lastMark", desc := "([CI)I" } : Jvm.MethodName) method_6_code (2 : Nat) (Option.some Jvm.ClassFile.FieldType.int)).before args0 about1 = true := code_word (m := ⟨1, 5⟩) (meth := k1m5) (c := k1c5) (by decide +kernel) rfl rfl rfl (by decide +kernel)
set_option maxRecDepth 65536 in
theorem w_c9 : (Jvm.Cond.code ({ cls := "com/example/bounded_lock/boundedlock/LockLayoutWokenInstanceOfPinLaw", name := "at", desc := "([CII)Z" } : Jvm.MethodName) method_5_code (3 : Nat) (Option.some Jvm.ClassFile.FieldType.boolean)).before args0 about1 = true := code_word (m := ⟨1, 4⟩) (meth := k1m4) (c := k1c4) (by decide +kernel) rfl rfl rfl (by decide +kernel)
set_option maxRecDepth 65536 in
theorem w_c10 : (Jvm.Cond.code ({ cls := "com/example/bounded_lock/boundedlock/LockLayout", name := "wokenInstanceOf", desc := "(Ljava/lang/String;)Ljava/lang/String;" } : Jvm.MethodName) prog_7_method_7_code (2 : Nat) (Option.some (Jvm.ClassFile.FieldType.object "java/lang/String"))).before args0 about1 = true := code_word (m := ⟨9, 0⟩) (meth := k9m0) (c := k9c0) (by decide +kernel) rfl rfl rfl (by decide +kernel)
set_option maxRecDepth 65536 in
theorem w_c11 : (Jvm.Cond.code ({ cls := "java/lang/String", name := "lastIndexOf", desc := "(Ljava/lang/String;)I" } : Jvm.MethodName) jdk_42_method_88_code (2 : Nat) (Option.some Jvm.ClassFile.FieldType.int)).before args0 about1 = true := code_word (m := ⟨7, 4⟩) (meth := k7m4) (c := k7c4) (by decide +kernel) rfl rfl rfl (by decide +kernel)
set_option maxRecDepth 65536 in
theorem w_c12 : (Jvm.Cond.code ({ cls := "java/lang/String", name := "length", desc := "()I" } : Jvm.MethodName) jdk_42_method_54_code (1 : Nat) (Option.some Jvm.ClassFile.FieldType.int)).before args0 about1 = true := code_word (m := ⟨7, 2⟩) (meth := k7m2) (c := k7c2) (by decide +kernel) rfl rfl rfl (by decide +kernel)
set_option maxRecDepth 65536 in
theorem w_c13 : (Jvm.Cond.code ({ cls := "java/lang/String", name := "coder", desc := "()B" } : Jvm.MethodName) jdk_42_method_152_code (1 : Nat) (Option.some Jvm.ClassFile.FieldType.byte)).before args0 about1 = true := code_word (m := ⟨7, 11⟩) (meth := k7m11) (c := k7c11) (by decide +kernel) rfl rfl rfl (by decide +kernel)
set_option maxRecDepth 65536 in
theorem w_c14 : (Jvm.Cond.code ({ cls := "java/lang/String", name := "lastIndexOf", desc := "(Ljava/lang/String;I)I" } : Jvm.MethodName) jdk_42_method_89_code (3 : Nat) (Option.some Jvm.ClassFile.FieldType.int)).before args0 about1 = true := code_word (m := ⟨7, 5⟩) (meth := k7m5) (c := k7c5) (by decide +kernel) rfl rfl rfl (by decide +kernel)
set_option maxRecDepth 65536 in
theorem w_c15 : (Jvm.Cond.code ({ cls := "java/lang/String", name := "lastIndexOf", desc := "([BBILjava/lang/String;I)I" } : Jvm.MethodName) jdk_42_method_90_code (9 : Nat) (Option.some Jvm.ClassFile.FieldType.int)).before args0 about1 = true := code_word (m := ⟨7, 6⟩) (meth := k7m6) (c := k7c6) (by decide +kernel) rfl rfl rfl (by decide +kernel)
set_option maxRecDepth 65536 in
theorem w_c16 : (Jvm.Cond.code ({ cls := "java/lang/StringLatin1", name := "lastIndexOf", desc := "([BI[BII)I" } : Jvm.MethodName) jdk_43_method_26_code (12 : Nat) (Option.some Jvm.ClassFile.FieldType.int)).before args0 about1 = true := code_word (m := ⟨10, 2⟩) (meth := k10m2) (c := k10c2) (by decide +kernel) rfl rfl rfl (by decide +kernel)
set_option maxRecDepth 65536 in
theorem w_c17 : (Jvm.Cond.code ({ cls := "com/example/bounded_lock/boundedlock/LockLayoutWokenInstanceOfPinLaw", name := "put", desc := "([CI)V" } : Jvm.MethodName) method_4_code (2 : Nat) (Option.none : Option Jvm.ClassFile.FieldType)).before args0 about1 = true := code_word (m := ⟨1, 3⟩) (meth := k1m3) (c := k1c3) (by decide +kernel) rfl rfl rfl (by decide +kernel)
set_option maxRecDepth 65536 in
theorem w_c18 : (Jvm.Cond.code ({ cls := "java/lang/String", name := "substring", desc := "(I)Ljava/lang/String;" } : Jvm.MethodName) jdk_42_method_91_code (2 : Nat) (Option.some (Jvm.ClassFile.FieldType.object "java/lang/String"))).before args0 about1 = true := code_word (m := ⟨7, 7⟩) (meth := k7m7) (c := k7c7) (by decide +kernel) rfl rfl rfl (by decide +kernel)
set_option maxRecDepth 65536 in
theorem w_c19 : (Jvm.Cond.code ({ cls := "java/lang/String", name := "substring", desc := "(II)Ljava/lang/String;" } : Jvm.MethodName) jdk_42_method_92_code (5 : Nat) (Option.some (Jvm.ClassFile.FieldType.object "java/lang/String"))).before args0 about1 = true := code_word (m := ⟨7, 8⟩) (meth := k7m8) (c := k7c8) (by decide +kernel) rfl rfl rfl (by decide +kernel)
set_option maxRecDepth 65536 in
theorem w_c20 : (Jvm.Cond.code ({ cls := "java/lang/String", name := "checkBoundsBeginEnd", desc := "(III)V" } : Jvm.MethodName) jdk_42_method_158_code (3 : Nat) (Option.none : Option Jvm.ClassFile.FieldType)).before args0 about1 = true := code_word (m := ⟨7, 14⟩) (meth := k7m14) (c := k7c14) (by decide +kernel) rfl rfl rfl (by decide +kernel)
set_option maxRecDepth 65536 in
theorem w_c21 : (Jvm.Cond.code ({ cls := "jdk/internal/util/Preconditions", name := "checkFromToIndex", desc := "(IIILjava/util/function/BiFunction;)I" } : Jvm.MethodName) jdk_41_method_12_code (4 : Nat) (Option.some Jvm.ClassFile.FieldType.int)).before args0 about1 = true := code_word (m := ⟨11, 2⟩) (meth := k11m2) (c := k11c2) (by decide +kernel) rfl rfl rfl (by decide +kernel)
set_option maxRecDepth 65536 in
theorem w_c22 : (Jvm.Cond.code ({ cls := "java/lang/String", name := "isLatin1", desc := "()Z" } : Jvm.MethodName) jdk_42_method_154_code (1 : Nat) (Option.some Jvm.ClassFile.FieldType.boolean)).before args0 about1 = true := code_word (m := ⟨7, 12⟩) (meth := k7m12) (c := k7c12) (by decide +kernel) rfl rfl rfl (by decide +kernel)
set_option maxRecDepth 65536 in
theorem w_c23 : (Jvm.Cond.code ({ cls := "java/lang/StringLatin1", name := "newString", desc := "([BII)Ljava/lang/String;" } : Jvm.MethodName) jdk_43_method_47_code (3 : Nat) (Option.some (Jvm.ClassFile.FieldType.object "java/lang/String"))).before args0 about1 = true := code_word (m := ⟨10, 3⟩) (meth := k10m3) (c := k10c3) (by decide +kernel) rfl rfl rfl (by decide +kernel)
set_option maxRecDepth 65536 in
theorem w_c24 : (Jvm.Cond.code ({ cls := "com/example/bounded_lock/boundedlock/LockLayoutWokenInstanceOfPinLaw", name := "same", desc := "(Ljava/lang/String;[CII)Z" } : Jvm.MethodName) method_7_code (4 : Nat) (Option.some Jvm.ClassFile.FieldType.boolean)).before args0 about1 = true := code_word (m := ⟨1, 6⟩) (meth := k1m6) (c := k1c6) (by decide +kernel) rfl rfl rfl (by decide +kernel)
set_option maxRecDepth 65536 in
theorem w_c25 : (Jvm.Cond.code ({ cls := "java/util/Arrays", name := "copyOfRange", desc := "([BII)[B" } : Jvm.MethodName) jdk_65_method_132_code (3 : Nat) (Option.some (Jvm.ClassFile.FieldType.array Jvm.ClassFile.FieldType.byte))).before args0 about1 = true := code_word (m := ⟨12, 2⟩) (meth := k12m2) (c := k12c2) (by decide +kernel) rfl rfl rfl (by decide +kernel)
set_option maxRecDepth 65536 in
theorem w_c26 : (Jvm.Cond.code ({ cls := "java/util/Arrays", name := "copyOfRangeByte", desc := "([BII)[B" } : Jvm.MethodName) jdk_65_method_133_code (5 : Nat) (Option.some (Jvm.ClassFile.FieldType.array Jvm.ClassFile.FieldType.byte))).before args0 about1 = true := code_word (m := ⟨12, 3⟩) (meth := k12m3) (c := k12c3) (by decide +kernel) rfl rfl rfl (by decide +kernel)
set_option maxRecDepth 65536 in
theorem w_c27 : (Jvm.Cond.code ({ cls := "java/util/Arrays", name := "checkLength", desc := "(II)V" } : Jvm.MethodName) jdk_65_method_131_code (2 : Nat) (Option.none : Option Jvm.ClassFile.FieldType)).before args0 about1 = true := code_word (m := ⟨12, 1⟩) (meth := k12m1) (c := k12c1) (by decide +kernel) rfl rfl rfl (by decide +kernel)
set_option maxRecDepth 65536 in
theorem w_c28 : (Jvm.Cond.code ({ cls := "java/lang/Math", name := "min", desc := "(II)I" } : Jvm.MethodName) jdk_29_method_69_code (2 : Nat) (Option.some Jvm.ClassFile.FieldType.int)).before args0 about1 = true := code_word (m := ⟨13, 1⟩) (meth := k13m1) (c := k13c1) (by decide +kernel) rfl rfl rfl (by decide +kernel)
set_option maxRecDepth 65536 in
theorem w_c29 : (Jvm.Cond.code ({ cls := "java/lang/String", name := "<init>", desc := "([BB)V" } : Jvm.MethodName) jdk_42_method_151_code (3 : Nat) (Option.none : Option Jvm.ClassFile.FieldType)).before args0 about1 = true := code_word (m := ⟨7, 10⟩) (meth := k7m10) (c := k7c10) (by decide +kernel) rfl rfl rfl (by decide +kernel)
set_option maxRecDepth 65536 in
theorem w_c30 : (Jvm.Cond.code ({ cls := "java/lang/String", name := "charAt", desc := "(I)C" } : Jvm.MethodName) jdk_42_method_56_code (2 : Nat) (Option.some Jvm.ClassFile.FieldType.char)).before args0 about1 = true := code_word (m := ⟨7, 3⟩) (meth := k7m3) (c := k7c3) (by decide +kernel) rfl rfl rfl (by decide +kernel)
set_option maxRecDepth 65536 in
theorem w_c31 : (Jvm.Cond.code ({ cls := "java/lang/StringLatin1", name := "charAt", desc := "([BI)C" } : Jvm.MethodName) jdk_43_method_2_code (2 : Nat) (Option.some Jvm.ClassFile.FieldType.char)).before args0 about1 = true := code_word (m := ⟨10, 1⟩) (meth := k10m1) (c := k10c1) (by decide +kernel) rfl rfl rfl (by decide +kernel)
set_option maxRecDepth 65536 in
theorem w_c32 : (Jvm.Cond.code ({ cls := "java/lang/String", name := "checkIndex", desc := "(II)V" } : Jvm.MethodName) jdk_42_method_155_code (2 : Nat) (Option.none : Option Jvm.ClassFile.FieldType)).before args0 about1 = true := code_word (m := ⟨7, 13⟩) (meth := k7m13) (c := k7c13) (by decide +kernel) rfl rfl rfl (by decide +kernel)
set_option maxRecDepth 65536 in
theorem w_c33 : (Jvm.Cond.code ({ cls := "jdk/internal/util/Preconditions", name := "checkIndex", desc := "(IILjava/util/function/BiFunction;)I" } : Jvm.MethodName) jdk_41_method_11_code (3 : Nat) (Option.some Jvm.ClassFile.FieldType.int)).before args0 about1 = true := code_word (m := ⟨11, 1⟩) (meth := k11m1) (c := k11c1) (by decide +kernel) rfl rfl rfl (by decide +kernel)
def codes1 : List Jvm.Cond := [Jvm.Cond.code x code maxLocals ret, Jvm.Cond.code ({ cls := "com/example/bounded_lock/boundedlock/LockLayoutWokenInstanceOfPinLaw", name := "ch", desc := "(JI)C" } : Jvm.MethodName) method_3_code (3 : Nat) (Option.some Jvm.ClassFile.FieldType.char), Jvm.Cond.code ({ cls := "java/lang/String", name := "<init>", desc := "([C)V" } : Jvm.MethodName) jdk_42_method_3_code (2 : Nat) (Option.none : Option Jvm.ClassFile.FieldType), Jvm.Cond.code ({ cls := "java/lang/String", name := "<init>", desc := "([CIILjava/lang/Void;)V" } : Jvm.MethodName) jdk_42_method_149_code (6 : Nat) (Option.none : Option Jvm.ClassFile.FieldType), Jvm.Cond.code ({ cls := "java/lang/Object", name := "<init>", desc := "()V" } : Jvm.MethodName) object_method_1_code (1 : Nat) (Option.none : Option Jvm.ClassFile.FieldType), Jvm.Cond.code ({ cls := "java/lang/StringUTF16", name := "compress", desc := "([CII)[B" } : Jvm.MethodName) jdk_52_method_16_code (6 : Nat) (Option.some (Jvm.ClassFile.FieldType.array Jvm.ClassFile.FieldType.byte)), Jvm.Cond.code ({ cls := "java/lang/StringUTF16", name := "compress", desc := "([CI[BII)I" } : Jvm.MethodName) jdk_52_method_21_code (7 : Nat) (Option.some Jvm.ClassFile.FieldType.int), Jvm.Cond.code ({ cls := "java/lang/StringUTF16", name := "coderFromArrayLen", desc := "([BI)B" } : Jvm.MethodName) jdk_52_method_15_code (2 : Nat) (Option.some Jvm.ClassFile.FieldType.byte), Jvm.Cond.code ({ cls := "com/example/bounded_lock/boundedlock/LockLayoutWokenInstanceOfPinLaw", name := "lastMark", desc := "([CI)I" } : Jvm.MethodName) method_6_code (2 : Nat) (Option.some Jvm.ClassFile.FieldType.int), Jvm.Cond.code ({ cls := "com/example/bounded_lock/boundedlock/LockLayoutWokenInstanceOfPinLaw", name := "at", desc := "([CII)Z" } : Jvm.MethodName) method_5_code (3 : Nat) (Option.some Jvm.ClassFile.FieldType.boolean), Jvm.Cond.code ({ cls := "com/example/bounded_lock/boundedlock/LockLayout", name := "wokenInstanceOf", desc := "(Ljava/lang/String;)Ljava/lang/String;" } : Jvm.MethodName) prog_7_method_7_code (2 : Nat) (Option.some (Jvm.ClassFile.FieldType.object "java/lang/String")), Jvm.Cond.code ({ cls := "java/lang/String", name := "lastIndexOf", desc := "(Ljava/lang/String;)I" } : Jvm.MethodName) jdk_42_method_88_code (2 : Nat) (Option.some Jvm.ClassFile.FieldType.int), Jvm.Cond.code ({ cls := "java/lang/String", name := "length", desc := "()I" } : Jvm.MethodName) jdk_42_method_54_code (1 : Nat) (Option.some Jvm.ClassFile.FieldType.int), Jvm.Cond.code ({ cls := "java/lang/String", name := "coder", desc := "()B" } : Jvm.MethodName) jdk_42_method_152_code (1 : Nat) (Option.some Jvm.ClassFile.FieldType.byte), Jvm.Cond.code ({ cls := "java/lang/String", name := "lastIndexOf", desc := "(Ljava/lang/String;I)I" } : Jvm.MethodName) jdk_42_method_89_code (3 : Nat) (Option.some Jvm.ClassFile.FieldType.int), Jvm.Cond.code ({ cls := "java/lang/String", name := "lastIndexOf", desc := "([BBILjava/lang/String;I)I" } : Jvm.MethodName) jdk_42_method_90_code (9 : Nat) (Option.some Jvm.ClassFile.FieldType.int), Jvm.Cond.code ({ cls := "java/lang/StringLatin1", name := "lastIndexOf", desc := "([BI[BII)I" } : Jvm.MethodName) jdk_43_method_26_code (12 : Nat) (Option.some Jvm.ClassFile.FieldType.int), Jvm.Cond.code ({ cls := "com/example/bounded_lock/boundedlock/LockLayoutWokenInstanceOfPinLaw", name := "put", desc := "([CI)V" } : Jvm.MethodName) method_4_code (2 : Nat) (Option.none : Option Jvm.ClassFile.FieldType), Jvm.Cond.code ({ cls := "java/lang/String", name := "substring", desc := "(I)Ljava/lang/String;" } : Jvm.MethodName) jdk_42_method_91_code (2 : Nat) (Option.some (Jvm.ClassFile.FieldType.object "java/lang/String")), Jvm.Cond.code ({ cls := "java/lang/String", name := "substring", desc := "(II)Ljava/lang/String;" } : Jvm.MethodName) jdk_42_method_92_code (5 : Nat) (Option.some (Jvm.ClassFile.FieldType.object "java/lang/String")), Jvm.Cond.code ({ cls := "java/lang/String", name := "checkBoundsBeginEnd", desc := "(III)V" } : Jvm.MethodName) jdk_42_method_158_code (3 : Nat) (Option.none : Option Jvm.ClassFile.FieldType), Jvm.Cond.code ({ cls := "jdk/internal/util/Preconditions", name := "checkFromToIndex", desc := "(IIILjava/util/function/BiFunction;)I" } : Jvm.MethodName) jdk_41_method_12_code (4 : Nat) (Option.some Jvm.ClassFile.FieldType.int), Jvm.Cond.code ({ cls := "java/lang/String", name := "isLatin1", desc := "()Z" } : Jvm.MethodName) jdk_42_method_154_code (1 : Nat) (Option.some Jvm.ClassFile.FieldType.boolean), Jvm.Cond.code ({ cls := "java/lang/StringLatin1", name := "newString", desc := "([BII)Ljava/lang/String;" } : Jvm.MethodName) jdk_43_method_47_code (3 : Nat) (Option.some (Jvm.ClassFile.FieldType.object "java/lang/String")), Jvm.Cond.code ({ cls := "com/example/bounded_lock/boundedlock/LockLayoutWokenInstanceOfPinLaw", name := "same", desc := "(Ljava/lang/String;[CII)Z" } : Jvm.MethodName) method_7_code (4 : Nat) (Option.some Jvm.ClassFile.FieldType.boolean), Jvm.Cond.code ({ cls := "java/util/Arrays", name := "copyOfRange", desc := "([BII)[B" } : Jvm.MethodName) jdk_65_method_132_code (3 : Nat) (Option.some (Jvm.ClassFile.FieldType.array Jvm.ClassFile.FieldType.byte)), Jvm.Cond.code ({ cls := "java/util/Arrays", name := "copyOfRangeByte", desc := "([BII)[B" } : Jvm.MethodName) jdk_65_method_133_code (5 : Nat) (Option.some (Jvm.ClassFile.FieldType.array Jvm.ClassFile.FieldType.byte)), Jvm.Cond.code ({ cls := "java/util/Arrays", name := "checkLength", desc := "(II)V" } : Jvm.MethodName) jdk_65_method_131_code (2 : Nat) (Option.none : Option Jvm.ClassFile.FieldType), Jvm.Cond.code ({ cls := "java/lang/Math", name := "min", desc := "(II)I" } : Jvm.MethodName) jdk_29_method_69_code (2 : Nat) (Option.some Jvm.ClassFile.FieldType.int), Jvm.Cond.code ({ cls := "java/lang/String", name := "<init>", desc := "([BB)V" } : Jvm.MethodName) jdk_42_method_151_code (3 : Nat) (Option.none : Option Jvm.ClassFile.FieldType), Jvm.Cond.code ({ cls := "java/lang/String", name := "charAt", desc := "(I)C" } : Jvm.MethodName) jdk_42_method_56_code (2 : Nat) (Option.some Jvm.ClassFile.FieldType.char), Jvm.Cond.code ({ cls := "java/lang/StringLatin1", name := "charAt", desc := "([BI)C" } : Jvm.MethodName) jdk_43_method_2_code (2 : Nat) (Option.some Jvm.ClassFile.FieldType.char), Jvm.Cond.code ({ cls := "java/lang/String", name := "checkIndex", desc := "(II)V" } : Jvm.MethodName) jdk_42_method_155_code (2 : Nat) (Option.none : Option Jvm.ClassFile.FieldType), Jvm.Cond.code ({ cls := "jdk/internal/util/Preconditions", name := "checkIndex", desc := "(IILjava/util/function/BiFunction;)I" } : Jvm.MethodName) jdk_41_method_11_code (3 : Nat) (Option.some Jvm.ClassFile.FieldType.int)]
set_option maxRecDepth 65536 in
theorem codes_eq : words1.filter isCode = codes1 := rfl
theorem w_codes : ∀ c ∈ words1.filter isCode, c.before args0 about1 = true := by
  rw [codes_eq]
  intro c hc
  simp only [codes1, List.mem_cons, List.not_mem_nil, or_false] at hc
  rcases hc with rfl | rfl | rfl | rfl | rfl | rfl | rfl | rfl | rfl | rfl | rfl | rfl | rfl | rfl | rfl | rfl | rfl | rfl | rfl | rfl | rfl | rfl | rfl | rfl | rfl | rfl | rfl | rfl | rfl | rfl | rfl | rfl | rfl | rfl
  · exact w_c0
  · exact w_c1
  · exact w_c2
  · exact w_c3
  · exact w_c4
  · exact w_c5
  · exact w_c6
  · exact w_c7
  · exact w_c8
  · exact w_c9
  · exact w_c10
  · exact w_c11
  · exact w_c12
  · exact w_c13
  · exact w_c14
  · exact w_c15
  · exact w_c16
  · exact w_c17
  · exact w_c18
  · exact w_c19
  · exact w_c20
  · exact w_c21
  · exact w_c22
  · exact w_c23
  · exact w_c24
  · exact w_c25
  · exact w_c26
  · exact w_c27
  · exact w_c28
  · exact w_c29
  · exact w_c30
  · exact w_c31
  · exact w_c32
  · exact w_c33
set_option maxRecDepth 65536 in
theorem w_t1 : (words1.take 24).all (fun c => isCode c || c.before args0 about1) = true := by decide +kernel
set_option maxRecDepth 65536 in
theorem w_t2 : ((words1.drop 24).take 24).all (fun c => isCode c || c.before args0 about1) = true := by decide +kernel
set_option maxRecDepth 65536 in
theorem w_t3 : (((words1.drop 24).drop 24).take 24).all (fun c => isCode c || c.before args0 about1) = true := by decide +kernel
set_option maxRecDepth 65536 in
theorem w_t4 : ((((words1.drop 24).drop 24).drop 24).take 24).all (fun c => isCode c || c.before args0 about1) = true := by decide +kernel
set_option maxRecDepth 65536 in
theorem w_t5 : (((((words1.drop 24).drop 24).drop 24).drop 24).take 24).all (fun c => isCode c || c.before args0 about1) = true := by decide +kernel
set_option maxRecDepth 65536 in
theorem w_t6 : ((((((words1.drop 24).drop 24).drop 24).drop 24).drop 24).take 24).all (fun c => isCode c || c.before args0 about1) = true := by decide +kernel
set_option maxRecDepth 65536 in
theorem w_t7 : ((((((words1.drop 24).drop 24).drop 24).drop 24).drop 24).drop 24).all (fun c => isCode c || c.before args0 about1) = true := by decide +kernel
theorem w_tables : (allAtoms (Jvm.Cond.code x code maxLocals ret :: tables_1)).before args0 about1 = true := by
  rw [allAtoms_all]
  show words1.all (fun c => c.before args0 about1) = true
  refine all_split ?_ w_codes
  rw [← List.take_append_drop 24 words1, List.all_append, w_t1, ← List.take_append_drop 24 (words1.drop 24), List.all_append, w_t2, ← List.take_append_drop 24 ((words1.drop 24).drop 24), List.all_append, w_t3, ← List.take_append_drop 24 (((words1.drop 24).drop 24).drop 24), List.all_append, w_t4, ← List.take_append_drop 24 ((((words1.drop 24).drop 24).drop 24).drop 24), List.all_append, w_t5, ← List.take_append_drop 24 (((((words1.drop 24).drop 24).drop 24).drop 24).drop 24), List.all_append, w_t6, w_t7]
  rfl
set_option maxRecDepth 65536 in
theorem w_rest : rest_1_c.before args0 about1 = true := by decide +kernel
set_option maxRecDepth 65536 in
theorem w_case : (Jvm.Cond.and given_1 narrow_1).before args0 about1 = true := by decide +kernel
set_option maxRecDepth 65536 in
theorem w_consts : constsHeld consts_1 about1 := Jvm.Lit.constsHeldB_iff.mp (by decide +kernel)
theorem w_applies : (headSpec (Jvm.Cond.code x code maxLocals ret :: tables_1) room_1).applies x e0.platform about1 = true :=
  (Spec.applies_iff w_frames).mpr ⟨w_running, w_runnable, w_alone, w_named, w_hears, w_ripe, w_room, w_tables⟩
theorem atStart : AtStart classFile x code maxLocals ret World_1 tables_1 room_1 Calls_1 rest_1 Pre_1 launch0 p0 e0 about1 theMethod args0 below0 :=
  ⟨lists_1, trivial, launch0.admits_env _ _ _, launch0.least_env, fairChoices_fair.cas, fairChoices_fair.clock, w_frames, w_args, w_heap, w_applies, ⟨w_consts, trivial⟩, w_rest, w_case⟩
end start1
theorem witness_1 : WitnessClaimed_1 := ⟨start1.p0, start1.e0, start1.about1, start1.theMethod, start1.args0, start1.below0, start1.atStart⟩
end Jvm.Pilot.@@N@@
