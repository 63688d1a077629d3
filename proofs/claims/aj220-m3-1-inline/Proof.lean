import JvmDerived
import JvmDerived.Pilot.@@N@@Statement
import JvmDerived.Pilot.@@N@@Code
set_option linter.unusedVariables false
set_option linter.unusedSimpArgs false
/- laws to paste: Road.backV, Road.codOf, Road.lenW, Road.chN (cut by pick.py; bodies as the Statement names them) -/
namespace Jvm.Pilot.@@N@@
namespace StrChars
open Jvm Sem ClassFile Op Lib Jvm.Stand Jvm.Free.XT Jvm.Free.ALB Jvm.Free.JM Jvm.Free
open Jvm.Lib.Cold (StaticIs)
/-- a char array whose places are chars -/
def Ch (a : Addr) (A : Cell) (U : State) : Prop := Arr .char a A U ∧ Typed .char A
theorem Ch.mv {a : Addr} {A : Cell} {U U' : State} (h : Ch a A U) (hal : U.vm.Alike U'.vm) (hh : U'.heap = U.heap) : Ch a A U' := ⟨h.1.mv hal hh, h.2⟩
theorem Ch.keep {a : Addr} {A : Cell} {U U' : State} (h : Ch a A U) (hal : U.vm.Alike U'.vm) (hk : U'.heap[a]? = some A) : Ch a A U' := ⟨h.1.keep hal hk, h.2⟩
/-- what place i of a char[]'s cell holds -/
def cv (A : Cell) (i : Nat) : Int32 := match A.slots[i]? with | some (.int x) => x | _ => 0
theorem Ch.get {a : Addr} {A : Cell} {U : State} (h : Ch a A U) {i : Nat} (hi : i < A.slots.size) : A.slots[i]? = some (.int (cv A i)) := by
  have e := Array.getElem?_eq_getElem hi
  have f := h.2 i _ e
  unfold cv; rw [e]
  generalize A.slots[i] = v at f
  cases v <;> simp [fits] at f ⊢
/-- the byte that i2b leaves of a char -/
def lo8 (x : Int32) : Int32 := x.toInt8.toInt32
theorem fits_lo8 (y : Int32) : fits .byte (.int (lo8 y)) = true := by
  have h1 := y.toInt8.le_toInt
  have h2 := y.toInt8.toInt_lt
  simp only [lo8, fits, Bool.and_eq_true, decide_eq_true_eq, Int32.le_iff_toInt_le, Int8.toInt_toInt32, show (-128 : Int32).toInt = -128 from by decide, show (127 : Int32).toInt = 127 from by decide]
  omega
/-- A' is A but that each place j of lo .. hi - 1 holds f j -/
def Laid (A A' : Cell) (lo hi : Nat) (f : Nat → Value) : Prop := A'.cls = A.cls ∧ A'.vm = A.vm ∧ A'.slots.size = A.slots.size ∧ ∀ i, A'.slots[i]? = if lo ≤ i ∧ i < hi then some (f i) else A.slots[i]?
theorem Laid.zero (A : Cell) (lo : Nat) (f : Nat → Value) : Laid A A lo (lo + 0) f := ⟨rfl, rfl, rfl, fun i => by rw [if_neg (by omega)]⟩
theorem Laid.step {A Ak : Cell} {lo k : Nat} {f : Nat → Value} {v : Value} (h : Laid A Ak lo k f) (hlo : lo ≤ k) (hk : k < Ak.slots.size) (hv : v = f k) : Laid A (Ak.setSlot k v) lo (k + 1) f := by
  refine ⟨h.1, h.2.1, by simpa [Cell.setSlot] using h.2.2.1, fun i => ?_⟩
  by_cases e : k = i
  · subst e; rw [Cell.slots_setSlot_self v hk, if_pos (by omega), hv]
  · rw [Cell.slots_setSlot_ne v e, h.2.2.2 i]
    by_cases q : lo ≤ i ∧ i < k
    · rw [if_pos q, if_pos (by omega)]
    · rw [if_neg q, if_neg (by omega)]
def U16 : String := "java/lang/StringUTF16"
namespace Cmp5
def yN : MethodName := ⟨"java/lang/StringUTF16", "compress", "([CI[BII)I"⟩
abbrev yB : ByteArray := jdk_52_method_21_code
theorem d0 : decode yB 0 = .ok (.iconst 0, 1) := by decide +kernel
theorem d1 : decode yB 1 = .ok (.istore 5, 2) := by decide +kernel
theorem d3 : decode yB 3 = .ok (.iload 5, 2) := by decide +kernel
theorem d5 : decode yB 5 = .ok (.iload 4, 2) := by decide +kernel
theorem d7 : decode yB 7 = .ok (.if_icmp (.ge) 37, 3) := by decide +kernel
theorem d10 : decode yB 10 = .ok (.aload_n 0, 1) := by decide +kernel
theorem d11 : decode yB 11 = .ok (.iload_n 1, 1) := by decide +kernel
theorem d12 : decode yB 12 = .ok (.caload, 1) := by decide +kernel
theorem d13 : decode yB 13 = .ok (.istore 6, 2) := by decide +kernel
theorem d15 : decode yB 15 = .ok (.iload 6, 2) := by decide +kernel
theorem d17 : decode yB 17 = .ok (.sipush 255, 3) := by decide +kernel
theorem d20 : decode yB 20 = .ok (.if_icmp (.le) 6, 3) := by decide +kernel
theorem d26 : decode yB 26 = .ok (.aload_n 2, 1) := by decide +kernel
theorem d27 : decode yB 27 = .ok (.iload_n 3, 1) := by decide +kernel
theorem d28 : decode yB 28 = .ok (.iload 6, 2) := by decide +kernel
theorem d30 : decode yB 30 = .ok (.i2b, 1) := by decide +kernel
theorem d31 : decode yB 31 = .ok (.bastore, 1) := by decide +kernel
theorem d32 : decode yB 32 = .ok (.iinc 1 1, 3) := by decide +kernel
theorem d35 : decode yB 35 = .ok (.iinc 3 1, 3) := by decide +kernel
theorem d38 : decode yB 38 = .ok (.iinc 5 1, 3) := by decide +kernel
theorem d41 : decode yB 41 = .ok (.goto (-38), 3) := by decide +kernel
theorem d44 : decode yB 44 = .ok (.iload 4, 2) := by decide +kernel
theorem d46 : decode yB 46 = .ok (.ireturn, 1) := by decide +kernel
def site : List Cond := []
def tab : Cond := tabOf yN yB 7 (some .int) site
def P (b : Addr) (A : Cell) (d : Addr) (B : Cell) (o q len : Nat) (args : Array Value) (s : State) : Prop := args = #[.ref b, .int (Int32.ofNat o), .ref d, .int (Int32.ofNat q), .int (Int32.ofNat len)] ∧ Ch b A s ∧ Arr .byte d B s ∧ b ≠ d ∧ o + len ≤ A.slots.size ∧ q + len ≤ B.slots.size ∧ ∀ i, i < len → ¬ 255 < cv A (o + i)
def E (b : Addr) (A : Cell) (d : Addr) (B : Cell) (o q len : Nat) (r : Option Value) (s u : State) : Prop := r = some (.int (Int32.ofNat len)) ∧ ∃ B', Put d B' s u ∧ Laid B B' q (q + len) (fun j => Value.int (lo8 (cv A (o + (j - q)))))
/-- no char of the range above 255: len; the places written hold each char's low byte -/
theorem law (l : Launch) (b : Addr) (A : Cell) (d : Addr) (B : Cell) (o q len : Nat) : Law l yN 5 5 0 0 yB 7 (some .int) site (P b A d B o q len) (E b A d B o q len) (copyLocs d q len) 0 0 := by
  refine Law.of_walk (plainFor_of_name (by decide +kernel)) (by decide +kernel) (by decide +kernel) (by decide) (fun _ _ h => by rw [h.1]; rfl) (fun _ U U' hal hh h => ⟨h.1, h.2.1.mv hal hh, h.2.2.1.mv hal hh, h.2.2.2⟩) (fun r U U' V V' h1 hal h2 h => ⟨h.1, h.2.elim fun B' q => ⟨B', q.1.mv h1 h2, q.2⟩⟩) ?_
  intro p e s m args below meth c s₁ X0 hexec hbytes hml hret hlk hnm hown hh0 W hP
  obtain ⟨rfl, hA, hB, hne, l1, l2, hp⟩ := hP
  have c1 : Steps p.tables e below (s₁.setTop (entryFrame m #[.ref b, .int (Int32.ofNat o), .ref d, .int (Int32.ofNat q), .int (Int32.ofNat len)] 7)) (s₁.setTop (mkF m 0 #[.val (.ref b), .val (.int (Int32.ofNat o)), .val (.ref d), .val (.int (Int32.ofNat q)), .val (.int (Int32.ofNat len)), .unset, .unset] [])) := entry rfl
  have hA0 := hA.1.mv X0.warmed.alike hh0
  have hB0 := hB.mv X0.warmed.alike hh0
  have a31 := hA.1.2.2.2
  have c2 : Steps p.tables e below (s₁.setTop (entryFrame m #[.ref b, .int (Int32.ofNat o), .ref d, .int (Int32.ofNat q), .int (Int32.ofNat len)] 7)) (s₁.setTop (mkF m 3 #[.val (.ref b), .val (.int (Int32.ofNat o)), .val (.ref d), .val (.int (Int32.ofNat q)), .val (.int (Int32.ofNat len)), .val (.int 0), .unset] [])) := c1.trans (by
    refine iconstV X0.here hexec rfl 0 (hb hbytes d0) (by decide) ?_
    refine XS.istore X0.here hexec rfl (hb hbytes d1) rfl rfl ?_
    exact Steps.refl _)
  have loop : ∀ (r i : Nat), i + r = len → ∀ (z : Slot), (z = .unset ∨ ∃ w, z = .val w ∧ w.category = 1) → ∀ (Tl : State) (Bk : Cell), Stand p l e { frames := 0, locals := 0, cells := 0, slots := 0 } s m #[.ref b, .int (Int32.ofNat o), .ref d, .int (Int32.ofNat q), .int (Int32.ofNat len)] below meth c Tl ([] ++ copyLocs d q i) 0 0 → Put d Bk s₁ Tl → Laid B Bk q (q + i) (fun j => Value.int (lo8 (cv A (o + (j - q))))) →
      Steps p.tables e below (s₁.setTop (entryFrame m #[.ref b, .int (Int32.ofNat o), .ref d, .int (Int32.ofNat q), .int (Int32.ofNat len)] 7)) (Tl.setTop (mkF m 3 #[.val (.ref b), .val (.int (Int32.ofNat (o + i))), .val (.ref d), .val (.int (Int32.ofNat (q + i))), .val (.int (Int32.ofNat len)), .val (.int (Int32.ofNat i)), z] [])) → ∃ (T' : State) (B' : Cell) (z' : Slot), Stand p l e { frames := 0, locals := 0, cells := 0, slots := 0 } s m #[.ref b, .int (Int32.ofNat o), .ref d, .int (Int32.ofNat q), .int (Int32.ofNat len)] below meth c T' ([] ++ copyLocs d q len) 0 0 ∧ Put d B' s₁ T' ∧ Laid B B' q (q + len) (fun j => Value.int (lo8 (cv A (o + (j - q))))) ∧
      Steps p.tables e below (s₁.setTop (entryFrame m #[.ref b, .int (Int32.ofNat o), .ref d, .int (Int32.ofNat q), .int (Int32.ofNat len)] 7)) (T'.setTop (mkF m 3 #[.val (.ref b), .val (.int (Int32.ofNat (o + len))), .val (.ref d), .val (.int (Int32.ofNat (q + len))), .val (.int (Int32.ofNat len)), .val (.int (Int32.ofNat len)), z'] [])) := by
    intro r
    induction r with
    | zero =>
      intro i hi z hz Tl Bk Xl pl fl cl
      have hil : i = len := by omega
      rw [hil] at Xl fl cl
      exact ⟨Tl, Bk, z, Xl, pl, fl, cl⟩
    | succ r ih =>
      intro i hi z hz Tl Bk Xl pl fl cl
      have all := X0.warmed.alike.symm.trans Xl.warmed.alike
      have hAl := hA0.keep all (pl.other hne hA0.1)
      have hBk := hB0.like all pl.1 fl.1 fl.2.1 fl.2.2.1
      have hlt : q + i < Bk.slots.size := by rw [fl.2.2.1]; omega
      have c3 : Steps p.tables e below (s₁.setTop (entryFrame m #[.ref b, .int (Int32.ofNat o), .ref d, .int (Int32.ofNat q), .int (Int32.ofNat len)] 7)) (Tl.setTop (mkF m 12 #[.val (.ref b), .val (.int (Int32.ofNat (o + i))), .val (.ref d), .val (.int (Int32.ofNat (q + i))), .val (.int (Int32.ofNat len)), .val (.int (Int32.ofNat i)), z] [.int (Int32.ofNat (o + i)), .ref b])) := cl.trans (by
        refine XS.iload Xl.here hexec rfl (hb hbytes d3) rfl ?_
        refine XS.iload Xl.here hexec rfl (hb hbytes d5) rfl ?_
        refine XS.icmpNo Xl.here hexec rfl (hb hbytes d7) rfl (ii_ge_f (lt32 (by omega) (by omega))) ?_
        refine XS.aloadN Xl.here hexec rfl (hb hbytes d10) rfl rfl ?_
        refine XS.iloadN Xl.here hexec rfl (hb hbytes d11) rfl ?_
        exact Steps.refl _)
      have c4 : Steps p.tables e below (s₁.setTop (entryFrame m #[.ref b, .int (Int32.ofNat o), .ref d, .int (Int32.ofNat q), .int (Int32.ofNat len)] 7)) (Tl.setTop (mkF m 13 #[.val (.ref b), .val (.int (Int32.ofNat (o + i))), .val (.ref d), .val (.int (Int32.ofNat (q + i))), .val (.int (Int32.ofNat len)), .val (.int (Int32.ofNat i)), z] [.int (cv A (o + i))])) := c3.trans (by
        refine Xl.aget hexec hAl rfl (hA.get (i := o + i) (by omega)) rfl rfl (hb hbytes d12) ?_
        exact Steps.refl _)
      have c5 : Steps p.tables e below (s₁.setTop (entryFrame m #[.ref b, .int (Int32.ofNat o), .ref d, .int (Int32.ofNat q), .int (Int32.ofNat len)] 7)) (Tl.setTop (mkF m 15 #[.val (.ref b), .val (.int (Int32.ofNat (o + i))), .val (.ref d), .val (.int (Int32.ofNat (q + i))), .val (.int (Int32.ofNat len)), .val (.int (Int32.ofNat i)), .val (.int (cv A (o + i)))] [])) := c4.trans (by
        refine XS.istoreS Xl.here hexec rfl (hb hbytes d13) rfl rfl hz ?_
        exact Steps.refl _)
      have c6 : Steps p.tables e below (s₁.setTop (entryFrame m #[.ref b, .int (Int32.ofNat o), .ref d, .int (Int32.ofNat q), .int (Int32.ofNat len)] 7)) (Tl.setTop (mkF m 31 #[.val (.ref b), .val (.int (Int32.ofNat (o + i))), .val (.ref d), .val (.int (Int32.ofNat (q + i))), .val (.int (Int32.ofNat len)), .val (.int (Int32.ofNat i)), .val (.int (cv A (o + i)))] [.int (lo8 (cv A (o + i))), .int (Int32.ofNat (q + i)), .ref d])) := c5.trans (by
        refine XS.iload Xl.here hexec rfl (hb hbytes d15) rfl ?_
        refine sipushV Xl.here hexec rfl 255 (hb hbytes d17) (by decide) ?_
        refine XS.icmpYes Xl.here hexec rfl (pc0 := 20) rfl (hb hbytes d20) rfl (ii_le_t (hp i (by omega))) (by decide) rfl ?_
        refine XS.aloadN Xl.here hexec rfl (hb hbytes d26) rfl rfl ?_
        refine XS.iloadN Xl.here hexec rfl (hb hbytes d27) rfl ?_
        refine XS.iload Xl.here hexec rfl (hb hbytes d28) rfl ?_
        refine i2b Xl.here hexec rfl (hb hbytes d30) rfl ?_
        exact Steps.refl _)
      obtain ⟨T7, X7, p7, st7⟩ := Xl.aput hexec hBk rfl hlt rfl (fits_lo8 (cv A (o + i))) (g := (mkF m 31 #[.val (.ref b), .val (.int (Int32.ofNat (o + i))), .val (.ref d), .val (.int (Int32.ofNat (q + i))), .val (.int (Int32.ofNat len)), .val (.int (Int32.ofNat i)), .val (.int (cv A (o + i)))] [.int (lo8 (cv A (o + i))), .int (Int32.ofNat (q + i)), .ref d])) rfl (rest := []) rfl (hb hbytes d31)
      have c8 : Steps p.tables e below (s₁.setTop (entryFrame m #[.ref b, .int (Int32.ofNat o), .ref d, .int (Int32.ofNat q), .int (Int32.ofNat len)] 7)) (T7.setTop (mkF m 32 #[.val (.ref b), .val (.int (Int32.ofNat (o + i))), .val (.ref d), .val (.int (Int32.ofNat (q + i))), .val (.int (Int32.ofNat len)), .val (.int (Int32.ofNat i)), .val (.int (cv A (o + i)))] [])) := c6.trans (st7 _ (Steps.refl _))
      have c9 : Steps p.tables e below (s₁.setTop (entryFrame m #[.ref b, .int (Int32.ofNat o), .ref d, .int (Int32.ofNat q), .int (Int32.ofNat len)] 7)) (T7.setTop (mkF m 3 #[.val (.ref b), .val (.int (Int32.ofNat (o + i) + 1)), .val (.ref d), .val (.int (Int32.ofNat (q + i) + 1)), .val (.int (Int32.ofNat len)), .val (.int (Int32.ofNat i + 1)), .val (.int (cv A (o + i)))] [])) := c8.trans (by
        refine iincV X7.here hexec rfl 1 (hb hbytes d32) (by decide) rfl rfl ?_
        refine iincV X7.here hexec rfl 1 (hb hbytes d35) (by decide) rfl rfl ?_
        refine iincV X7.here hexec rfl 1 (hb hbytes d38) (by decide) rfl rfl ?_
        refine XS.goto X7.here hexec rfl (pc0 := 41) rfl (hb hbytes d41) (by decide) rfl ?_
        exact Steps.refl _)
      have c10 : Steps p.tables e below (s₁.setTop (entryFrame m #[.ref b, .int (Int32.ofNat o), .ref d, .int (Int32.ofNat q), .int (Int32.ofNat len)] 7)) (T7.setTop (mkF m 3 #[.val (.ref b), .val (.int (Int32.ofNat (o + (i + 1)))), .val (.ref d), .val (.int (Int32.ofNat (q + (i + 1)))), .val (.int (Int32.ofNat len)), .val (.int (Int32.ofNat (i + 1))), .val (.int (cv A (o + i)))] [])) := by
        have := c9
        rw [succ32, succ32, succ32] at this
        exact this
      exact ih (i + 1) (by omega) _ (Or.inr ⟨_, rfl, rfl⟩) T7 _ (by rw [copyLocs_step, ← List.append_assoc]; exact X7) (pl.trans p7) (fl.step (by omega) hlt (by simp)) c10
  obtain ⟨T9, B9, z9, X9, p9, f9, g9⟩ := loop len 0 (by omega) .unset (Or.inl rfl) s₁ B (by simpa [copyLocs] using X0) ⟨hB0.1, fun _ _ => rfl, rfl⟩ (Laid.zero _ _ _) c2
  have c11 : Steps p.tables e below (s₁.setTop (entryFrame m #[.ref b, .int (Int32.ofNat o), .ref d, .int (Int32.ofNat q), .int (Int32.ofNat len)] 7)) (T9.setTop (mkF m 46 #[.val (.ref b), .val (.int (Int32.ofNat (o + len))), .val (.ref d), .val (.int (Int32.ofNat (q + len))), .val (.int (Int32.ofNat len)), .val (.int (Int32.ofNat len)), z9] [.int (Int32.ofNat len)])) := g9.trans (by
    refine XS.iload X9.here hexec rfl (hb hbytes d3) rfl ?_
    refine XS.iload X9.here hexec rfl (hb hbytes d5) rfl ?_
    refine XS.icmpYes X9.here hexec rfl (pc0 := 7) rfl (hb hbytes d7) rfl (ii_ge_t (nlt32 (by omega) (Nat.le_refl _))) (by decide) rfl ?_
    refine XS.iload X9.here hexec rfl (hb hbytes d44) rfl ?_
    exact Steps.refl _)
  exact ⟨T9, some (.int (Int32.ofNat len)), _, _, _, X9, by simp, rfl, rfl, (fun h => by cases h), ⟨rfl, B9, p9.from hh0, f9⟩, fun fs hl => c11.trans (X9.ireturnOut hexec hret rfl (Or.inl rfl) (hb hbytes d46) hl)⟩
end Cmp5
namespace Cmp3
def yN : MethodName := ⟨"java/lang/StringUTF16", "compress", "([CII)[B"⟩
abbrev yB : ByteArray := jdk_52_method_16_code
theorem d0 : decode yB 0 = .ok (.iload_n 2, 1) := by decide +kernel
theorem d1 : decode yB 1 = .ok (.newarray .byte, 2) := by decide +kernel
theorem d3 : decode yB 3 = .ok (.astore_n 3, 1) := by decide +kernel
theorem d4 : decode yB 4 = .ok (.aload_n 0, 1) := by decide +kernel
theorem d5 : decode yB 5 = .ok (.iload_n 1, 1) := by decide +kernel
theorem d6 : decode yB 6 = .ok (.aload_n 3, 1) := by decide +kernel
theorem d7 : decode yB 7 = .ok (.iconst 0, 1) := by decide +kernel
theorem d8 : decode yB 8 = .ok (.iload_n 2, 1) := by decide +kernel
theorem d9 : decode yB 9 = .ok (.invokestatic 115, 3) := by decide +kernel
theorem d12 : decode yB 12 = .ok (.istore 4, 2) := by decide +kernel
theorem d14 : decode yB 14 = .ok (.iload 4, 2) := by decide +kernel
theorem d16 : decode yB 16 = .ok (.iload_n 2, 1) := by decide +kernel
theorem d17 : decode yB 17 = .ok (.if_icmp (.eq) 40, 3) := by decide +kernel
theorem d57 : decode yB 57 = .ok (.aload_n 3, 1) := by decide +kernel
theorem d58 : decode yB 58 = .ok (.areturn, 1) := by decide +kernel
def site : List Cond := [.arrayClass .byte, Cmp5.tab] ++ staticW U16 115 Cmp5.yN
def tab : Cond := tabOf yN yB 6 (some (.array .byte)) site
def P (b : Addr) (A : Cell) (o len : Nat) (args : Array Value) (s : State) : Prop := args = #[.ref b, .int (Int32.ofNat o), .int (Int32.ofNat len)] ∧ Ch b A s ∧ o + len ≤ A.slots.size ∧ len ≤ 536870912 ∧ ∀ i, i < len → ¬ 255 < cv A (o + i)
def E (b : Addr) (A : Cell) (o len : Nat) (r : Option Value) (s u : State) : Prop := NewArr .byte "[B" len (fun j => .int (lo8 (cv A (o + j)))) r s u ∧ u.heap.size = s.heap.size + 1
/-- no char of the range above 255: a new byte[] of their low bytes -/
theorem law (l : Launch) (b : Addr) (A : Cell) (o len : Nat) : Law l yN 3 3 1 18 yB 6 (some (.array .byte)) site (P b A o len) (E b A o len) [] 1 len := by
  refine Law.of_walk (plainFor_of_name (by decide +kernel)) (by decide +kernel) (by decide +kernel) (by decide) (fun _ _ h => by rw [h.1]; rfl) (fun _ U U' hal hh h => ⟨h.1, h.2.1.mv hal hh, h.2.2⟩) (fun r U U' V V' h1 hal h2 h => ⟨NewArr.mv r U U' V V' h1 hal h2 h.1, by rw [h1, h2]; exact h.2⟩) ?_
  intro p e s m args below meth c s₁ X0 hexec hbytes hml hret hlk hnm hown hh0 W hP
  obtain ⟨rfl, hA, l1, l2, hp⟩ := hP
  have a31 := hA.1.2.2.2
  have c1 : Steps p.tables e below (s₁.setTop (entryFrame m #[.ref b, .int (Int32.ofNat o), .int (Int32.ofNat len)] 6)) (s₁.setTop (mkF m 0 #[.val (.ref b), .val (.int (Int32.ofNat o)), .val (.int (Int32.ofNat len)), .unset, .unset, .unset] [])) := entry rfl
  have c2 : Steps p.tables e below (s₁.setTop (entryFrame m #[.ref b, .int (Int32.ofNat o), .int (Int32.ofNat len)] 6)) (s₁.setTop (mkF m 1 #[.val (.ref b), .val (.int (Int32.ofNat o)), .val (.int (Int32.ofNat len)), .unset, .unset, .unset] [.int (Int32.ofNat len)])) := c1.trans (by
    refine XS.iloadN X0.here hexec rfl (hb hbytes d0) rfl ?_
    exact Steps.refl _)
  obtain ⟨T3, B3, X3, ba3, bs3, bv3, bh3, bf3, st3⟩ := X0.anew hexec (atype := .byte) (wk W (.arrayClass .byte)) rfl (by show len * 1 ≤ _; omega) (by omega) (g := (mkF m 1 #[.val (.ref b), .val (.int (Int32.ofNat o)), .val (.int (Int32.ofNat len)), .unset, .unset, .unset] [.int (Int32.ofNat len)])) rfl (hb hbytes d1) (rest := []) rfl (Nat.le_refl _) (by show 0 + len ≤ len; omega)
  rw [hh0] at ba3 st3
  have kp3 : XT.Kept s T3 := (XT.Kept.of_eq hh0).push bh3
  have hA3 := hA.keep X3.warmed.alike (kp3 _ _ hA.1.1)
  have hne : b ≠ s.heap.size := hA.1.ne
  have c4 : Steps p.tables e below (s₁.setTop (entryFrame m #[.ref b, .int (Int32.ofNat o), .int (Int32.ofNat len)] 6)) (T3.setTop (mkF m 3 #[.val (.ref b), .val (.int (Int32.ofNat o)), .val (.int (Int32.ofNat len)), .unset, .unset, .unset] [.ref s.heap.size])) := c2.trans (st3 _ (Steps.refl _))
  have c5 : Steps p.tables e below (s₁.setTop (entryFrame m #[.ref b, .int (Int32.ofNat o), .int (Int32.ofNat len)] 6)) (T3.setTop (mkF m 9 #[.val (.ref b), .val (.int (Int32.ofNat o)), .val (.int (Int32.ofNat len)), .val (.ref s.heap.size), .unset, .unset] [.int (Int32.ofNat len), .int 0, .ref s.heap.size, .int (Int32.ofNat o), .ref b])) := c4.trans (by
    refine XS.astoreN X3.here hexec rfl (hb hbytes d3) rfl rfl rfl ?_
    refine XS.aloadN X3.here hexec rfl (hb hbytes d4) rfl rfl ?_
    refine XS.iloadN X3.here hexec rfl (hb hbytes d5) rfl ?_
    refine XS.aloadN X3.here hexec rfl (hb hbytes d6) rfl rfl ?_
    refine iconstV X3.here hexec rfl 0 (hb hbytes d7) (by decide) ?_
    refine XS.iloadN X3.here hexec rfl (hb hbytes d8) rfl ?_
    exact Steps.refl _)
  obtain ⟨v6, T6, X6, E6, g6⟩ := X3.callS hexec (Cmp5.law l b A s.heap.size B3 o 0 len) hown (wks W (staticW U16 115 Cmp5.yN)) (wk W Cmp5.tab) (W := 0) (Nat.le_of_ble_eq_true rfl) (Nat.le_of_ble_eq_true rfl) (Nat.le_refl _) (by show 0 + len + 0 ≤ len; omega) (g := (mkF m 9 #[.val (.ref b), .val (.int (Int32.ofNat o)), .val (.int (Int32.ofNat len)), .val (.ref s.heap.size), .unset, .unset] [.int (Int32.ofNat len), .int (Int32.ofNat 0), .ref s.heap.size, .int (Int32.ofNat o), .ref b])) rfl (by rw [hml]; rfl) c5 (argsL := [.ref b, .int (Int32.ofNat o), .ref s.heap.size, .int (Int32.ofNat 0), .int (Int32.ofNat len)]) (rest := []) rfl rfl (by show 2 * 0 + 0 ≤ _; decide) (hb hbytes d9) (⟨rfl, hA3, ba3, hne, l1, by rw [bs3]; simp, hp⟩)
  obtain ⟨rfl, B6, p6, f6⟩ := E6
  have c7 : Steps p.tables e below (s₁.setTop (entryFrame m #[.ref b, .int (Int32.ofNat o), .int (Int32.ofNat len)] 6)) (T6.setTop (mkF m 12 #[.val (.ref b), .val (.int (Int32.ofNat o)), .val (.int (Int32.ofNat len)), .val (.ref s.heap.size), .unset, .unset] [.int (Int32.ofNat len)])) := g6
  have c8 : Steps p.tables e below (s₁.setTop (entryFrame m #[.ref b, .int (Int32.ofNat o), .int (Int32.ofNat len)] 6)) (T6.setTop (mkF m 58 #[.val (.ref b), .val (.int (Int32.ofNat o)), .val (.int (Int32.ofNat len)), .val (.ref s.heap.size), .val (.int (Int32.ofNat len)), .unset] [.ref s.heap.size])) := c7.trans (by
    refine XS.istore X6.here hexec rfl (hb hbytes d12) rfl rfl ?_
    refine XS.iload X6.here hexec rfl (hb hbytes d14) rfl ?_
    refine XS.iloadN X6.here hexec rfl (hb hbytes d16) rfl ?_
    refine XS.icmpYes X6.here hexec rfl (pc0 := 17) rfl (hb hbytes d17) rfl (ii_eq_t rfl) (by decide) rfl ?_
    refine XS.aloadN X6.here hexec rfl (hb hbytes d57) rfl rfl ?_
    exact Steps.refl _)
  have X8 := X6.wide (L' := []) (cells' := 1) (slots' := len) (fun x hx hlt => by
    simp only [List.nil_append, copyLocs, List.mem_map, List.mem_range] at hx
    obtain ⟨i, -, rfl⟩ := hx
    exact absurd hlt (Nat.lt_irrefl _)) (Nat.le_refl _) (by omega)
  exact ⟨T6, some (.ref s.heap.size), _, _, _, X8, rfl, rfl, rfl, (fun h => by cases h), ⟨⟨rfl, B6, ba3.like (X3.warmed.alike.symm.trans X6.warmed.alike) p6.1 f6.1 f6.2.1 f6.2.2.1, f6.2.1.trans bv3, by rw [X6.warmed.alike.findClass, f6.1]; exact bf3, by rw [f6.2.2.1, bs3]; simp, fun j hj => by rw [f6.2.2.2 j, if_pos (by omega)]; rfl, kp3.put p6 (Nat.le_refl _)⟩, by rw [p6.2.2, bh3, hh0]; simp⟩, fun fs hl => c8.trans (X8.areturnOut hexec rfl hret rfl (hb hbytes d58) hl)⟩
end Cmp3
namespace CodL
def yN : MethodName := ⟨"java/lang/StringUTF16", "coderFromArrayLen", "([BI)B"⟩
abbrev yB : ByteArray := jdk_52_method_15_code
theorem d0 : decode yB 0 = .ok (.iload_n 1, 1) := by decide +kernel
theorem d1 : decode yB 1 = .ok (.aload_n 0, 1) := by decide +kernel
theorem d2 : decode yB 2 = .ok (.arraylength, 1) := by decide +kernel
theorem d3 : decode yB 3 = .ok (.isub, 1) := by decide +kernel
theorem d4 : decode yB 4 = .ok (.bipush 31, 2) := by decide +kernel
theorem d6 : decode yB 6 = .ok (.iushr, 1) := by decide +kernel
theorem d7 : decode yB 7 = .ok (.i2b, 1) := by decide +kernel
theorem d8 : decode yB 8 = .ok (.ireturn, 1) := by decide +kernel
def site : List Cond := []
def tab : Cond := tabOf yN yB 2 (some .byte) site
def P (d : Addr) (B : Cell) (args : Array Value) (s : State) : Prop := args = #[.ref d, .int (Int32.ofNat B.slots.size)] ∧ Arr .byte d B s
def E (r : Option Value) (s u : State) : Prop := XT.PureE (some (.int 0)) r s u
/-- an array as long as the number of chars: LATIN1 -/
theorem law (l : Launch) (d : Addr) (B : Cell) : Law l yN 2 2 0 0 yB 2 (some .byte) site (P d B) E [] 0 0 := by
  refine Law.of_walk (plainFor_of_name (by decide +kernel)) (by decide +kernel) (by decide +kernel) (by decide) (fun _ _ h => by rw [h.1]; rfl) (fun _ U U' hal hh h => ⟨h.1, h.2.mv hal hh⟩) (fun r U U' V V' h1 hal h2 h => XT.PureE.mv r U U' V V' h1 hal h2 h) ?_
  intro p e s m args below meth c s₁ X0 hexec hbytes hml hret hlk hnm hown hh0 W hP
  obtain ⟨rfl, hB⟩ := hP
  have hB0 := hB.mv X0.warmed.alike hh0
  have c1 : Steps p.tables e below (s₁.setTop (entryFrame m #[.ref d, .int (Int32.ofNat B.slots.size)] 2)) (s₁.setTop (mkF m 0 #[.val (.ref d), .val (.int (Int32.ofNat B.slots.size))] [])) := entry rfl
  have c2 : Steps p.tables e below (s₁.setTop (entryFrame m #[.ref d, .int (Int32.ofNat B.slots.size)] 2)) (s₁.setTop (mkF m 2 #[.val (.ref d), .val (.int (Int32.ofNat B.slots.size))] [.ref d, .int (Int32.ofNat B.slots.size)])) := c1.trans (by
    refine XS.iloadN X0.here hexec rfl (hb hbytes d0) rfl ?_
    refine XS.aloadN X0.here hexec rfl (hb hbytes d1) rfl rfl ?_
    exact Steps.refl _)
  have c3 : Steps p.tables e below (s₁.setTop (entryFrame m #[.ref d, .int (Int32.ofNat B.slots.size)] 2)) (s₁.setTop (mkF m 8 #[.val (.ref d), .val (.int (Int32.ofNat B.slots.size))] [.int (lo8 (ushr (Int32.ofNat B.slots.size - Int32.ofNat B.slots.size) 31))])) := c2.trans (by
    refine X0.alen hexec hB0 rfl rfl (hb hbytes d2) ?_
    refine XS.isub X0.here hexec rfl (hb hbytes d3) rfl ?_
    refine bipushV X0.here hexec rfl 31 (hb hbytes d4) (by decide) ?_
    refine iushr X0.here hexec rfl (hb hbytes d6) rfl ?_
    refine i2b X0.here hexec rfl (hb hbytes d7) rfl ?_
    exact Steps.refl _)
  have e0 : lo8 (ushr (Int32.ofNat B.slots.size - Int32.ofNat B.slots.size) 31) = 0 := by rw [Int32.sub_self]; decide
  rw [e0] at c3
  exact ⟨s₁, some (.int 0), _, _, _, X0, rfl, rfl, rfl, (fun h => by cases h), ⟨rfl, hh0⟩, fun fs hl => c3.trans (X0.ireturnOut hexec hret rfl (Or.inr (Or.inr (Or.inl rfl))) (hb hbytes d8) hl)⟩
end CodL
/-- the String at a is Latin-1 over a new byte[] (the heap's one new cell): the low bytes of the len chars of A from o on; every cell but a is kept -/
def Got (a : Addr) (D : Cell) (fV fC : Field) (A : Cell) (o len : Nat) (r : Option Value) (s u : State) : Prop := r = none ∧ ∃ D' V : Cell, Blank "java/lang/String" a D' u ∧ Same D D' [fV.slot, fC.slot] ∧ D'.slots[fV.slot]? = some (.ref s.heap.size) ∧ D'.slots[fC.slot]? = some (.int 0) ∧ Arr .byte s.heap.size V u ∧ V.vm = .none ∧ u.vm.findClass "[B" = some V.cls ∧ V.slots.size = len ∧ (∀ j, j < len → V.slots[j]? = some (.int (lo8 (cv A (o + j))))) ∧ (∀ (y : Addr) (c : Cell), y ≠ a → s.heap[y]? = some c → u.heap[y]? = some c) ∧ u.heap.size = s.heap.size + 1
theorem Got.mv {a : Addr} {D A : Cell} {fV fC : Field} {o len : Nat} : ∀ r (U U' V V' : State), U'.heap = U.heap → V.vm.Alike V'.vm → V'.heap = V.heap → Got a D fV fC A o len r U V → Got a D fV fC A o len r U' V' :=
  fun r U U' V V' h1 hal h2 ⟨e0, D', X, a1, a2, a3, a4, a5, a6, a7, a8, a9, a10, a11⟩ => ⟨e0, D', X, a1.mv hal h2, a2, by rw [h1]; exact a3, a4, by rw [h1]; exact a5.mv hal h2, a6, by rw [hal.findClass]; exact a7, a8, a9, by rw [h1, h2]; exact a10, by rw [h1, h2]; exact a11⟩
namespace New4
def yN : MethodName := ⟨"java/lang/String", "<init>", "([CIILjava/lang/Void;)V"⟩
abbrev yB : ByteArray := jdk_42_method_149_code
theorem d0 : decode yB 0 = .ok (.aload_n 0, 1) := by decide +kernel
theorem d1 : decode yB 1 = .ok (.invokespecial 1, 3) := by decide +kernel
theorem d4 : decode yB 4 = .ok (.iload_n 3, 1) := by decide +kernel
theorem d5 : decode yB 5 = .ok (.ifCond (.ne) 22, 3) := by decide +kernel
theorem d27 : decode yB 27 = .ok (.getstatic 38, 3) := by decide +kernel
theorem d30 : decode yB 30 = .ok (.ifCond (.eq) 28, 3) := by decide +kernel
theorem d33 : decode yB 33 = .ok (.aload_n 1, 1) := by decide +kernel
theorem d34 : decode yB 34 = .ok (.iload_n 2, 1) := by decide +kernel
theorem d35 : decode yB 35 = .ok (.iload_n 3, 1) := by decide +kernel
theorem d36 : decode yB 36 = .ok (.invokestatic 177, 3) := by decide +kernel
theorem d39 : decode yB 39 = .ok (.astore 5, 2) := by decide +kernel
theorem d41 : decode yB 41 = .ok (.aload_n 0, 1) := by decide +kernel
theorem d42 : decode yB 42 = .ok (.aload 5, 2) := by decide +kernel
theorem d44 : decode yB 44 = .ok (.iload_n 3, 1) := by decide +kernel
theorem d45 : decode yB 45 = .ok (.invokestatic 47, 3) := by decide +kernel
theorem d48 : decode yB 48 = .ok (.putfield 15, 3) := by decide +kernel
theorem d51 : decode yB 51 = .ok (.aload_n 0, 1) := by decide +kernel
theorem d52 : decode yB 52 = .ok (.aload 5, 2) := by decide +kernel
theorem d54 : decode yB 54 = .ok (.putfield 9, 3) := by decide +kernel
theorem d57 : decode yB 57 = .ok (.return_, 1) := by decide +kernel
def site : List Cond := [.fieldLink "java/lang/String" 38 "java/lang/String" "COMPACT_STRINGS" "Z", Cmp3.tab, CodL.tab, .laysFinal "java/lang/String" "java/lang/String" "value" "[B", .fieldLink "java/lang/String" 9 "java/lang/String" "value" "[B", .laysFinal "java/lang/String" "java/lang/String" "coder" "B", .fieldLink "java/lang/String" 15 "java/lang/String" "coder" "B"] ++ objW "java/lang/String" 1 ++ staticW "java/lang/String" 177 Cmp3.yN ++ staticW "java/lang/String" 47 CodL.yN
def tab : Cond := tabOf yN yB 6 none site
def P (a : Addr) (D : Cell) (fV fC : Field) (b : Addr) (A : Cell) (z : Int32) (o len : Nat) (args : Array Value) (s : State) : Prop := args = #[.ref a, .ref b, .int (Int32.ofNat o), .int (Int32.ofNat len), .null] ∧ Blank "java/lang/String" a D s ∧ Found "java/lang/String" "value" "[B" fV s ∧ Found "java/lang/String" "coder" "B" fC s ∧ Ch b A s ∧ StaticIs s "java/lang/String" "COMPACT_STRINGS" "Z" (.int z) ∧ ¬ z = 0 ∧ 0 < len ∧ o + len ≤ A.slots.size ∧ len ≤ 536870912 ∧ ∀ i, i < len → ¬ 255 < cv A (o + i)
def E (a : Addr) (D : Cell) (fV fC : Field) (A : Cell) (o len : Nat) (r : Option Value) (s u : State) : Prop := Got a D fV fC A o len r s u
/-- len > 0, no char of the range above 255: a Latin-1 String of their low bytes -/
theorem law (l : Launch) (a : Addr) (D : Cell) (fV fC : Field) (b : Addr) (A : Cell) (z : Int32) (o len : Nat) : Law l yN 5 4 2 35 yB 6 none site (P a D fV fC b A z o len) (E a D fV fC A o len) [⟨a, fC.slot⟩, ⟨a, fV.slot⟩] 1 len := by
  refine Law.of_walk (plainFor_of_name (by decide +kernel)) (by decide +kernel) (by decide +kernel) (by decide) (fun _ _ h => by rw [h.1]; rfl) (fun _ U U' hal hh h => ⟨h.1, h.2.1.mv hal hh, h.2.2.1.al hal, h.2.2.2.1.al hal, h.2.2.2.2.1.mv hal hh, h.2.2.2.2.2.1.there hal hh, h.2.2.2.2.2.2⟩) (fun r U U' V V' h1 hal h2 h => Got.mv r U U' V V' h1 hal h2 h) ?_
  intro p e s m args below meth c s₁ X0 hexec hbytes hml hret hlk hnm hown hh0 W hP
  obtain ⟨rfl, hB, f1, f2, hA, s1, hz, l0, l1, l2, hp⟩ := hP
  have a31 := hA.1.2.2.2
  have c1 : Steps p.tables e below (s₁.setTop (entryFrame m #[.ref a, .ref b, .int (Int32.ofNat o), .int (Int32.ofNat len), .null] 6)) (s₁.setTop (mkF m 0 #[.val (.ref a), .val (.ref b), .val (.int (Int32.ofNat o)), .val (.int (Int32.ofNat len)), .val .null, .unset] [])) := entry rfl
  have c2 : Steps p.tables e below (s₁.setTop (entryFrame m #[.ref a, .ref b, .int (Int32.ofNat o), .int (Int32.ofNat len), .null] 6)) (s₁.setTop (mkF m 1 #[.val (.ref a), .val (.ref b), .val (.int (Int32.ofNat o)), .val (.int (Int32.ofNat len)), .val .null, .unset] [.ref a])) := c1.trans (by
    refine XS.aloadN X0.here hexec rfl (hb hbytes d0) rfl rfl ?_
    exact Steps.refl _)
  obtain ⟨T3, X3, q3, st3⟩ := X0.oinit hexec hown (wks W (objW "java/lang/String" 1)) (g := (mkF m 1 #[.val (.ref a), .val (.ref b), .val (.int (Int32.ofNat o)), .val (.int (Int32.ofNat len)), .val .null, .unset] [.ref a])) rfl (by rw [hml]; rfl) (rest := []) rfl (hb hbytes d1) (W := 0) (by show 2 * 0 + 0 ≤ _; decide) (Nat.le_of_ble_eq_true rfl) (Nat.le_of_ble_eq_true rfl)
  have hh3 := q3.trans hh0
  have c4 : Steps p.tables e below (s₁.setTop (entryFrame m #[.ref a, .ref b, .int (Int32.ofNat o), .int (Int32.ofNat len), .null] 6)) (T3.setTop (mkF m 27 #[.val (.ref a), .val (.ref b), .val (.int (Int32.ofNat o)), .val (.int (Int32.ofNat len)), .val .null, .unset] [])) := (c2.trans (st3 _ (Steps.refl _))).trans (by
    refine XS.iloadN X3.here hexec rfl (hb hbytes d4) rfl ?_
    refine XS.ifYes X3.here hexec rfl (pc0 := 5) rfl (hb hbytes d5) rfl (i0_ne_t (nz32 (by omega) l0)) (by decide) rfl ?_
    exact Steps.refl _)
  obtain ⟨T5, X5, q5, st5⟩ := X3.sget hexec hown (wk W (.fieldLink "java/lang/String" 38 "java/lang/String" "COMPACT_STRINGS" "Z")) s1 (fun _ _ h => by rw [hh3]; exact h) (g := (mkF m 27 #[.val (.ref a), .val (.ref b), .val (.int (Int32.ofNat o)), .val (.int (Int32.ofNat len)), .val .null, .unset] [])) rfl (hb hbytes d27)
  have hh5 := q5.trans hh3
  have c6 : Steps p.tables e below (s₁.setTop (entryFrame m #[.ref a, .ref b, .int (Int32.ofNat o), .int (Int32.ofNat len), .null] 6)) (T5.setTop (mkF m 30 #[.val (.ref a), .val (.ref b), .val (.int (Int32.ofNat o)), .val (.int (Int32.ofNat len)), .val .null, .unset] [.int z])) := c4.trans (st5 _ (Steps.refl _))
  have c7 : Steps p.tables e below (s₁.setTop (entryFrame m #[.ref a, .ref b, .int (Int32.ofNat o), .int (Int32.ofNat len), .null] 6)) (T5.setTop (mkF m 36 #[.val (.ref a), .val (.ref b), .val (.int (Int32.ofNat o)), .val (.int (Int32.ofNat len)), .val .null, .unset] [.int (Int32.ofNat len), .int (Int32.ofNat o), .ref b])) := c6.trans (by
    refine XS.ifNo X5.here hexec rfl (hb hbytes d30) rfl (i0_eq_f hz) ?_
    refine XS.aloadN X5.here hexec rfl (hb hbytes d33) rfl rfl ?_
    refine XS.iloadN X5.here hexec rfl (hb hbytes d34) rfl ?_
    refine XS.iloadN X5.here hexec rfl (hb hbytes d35) rfl ?_
    exact Steps.refl _)
  obtain ⟨v8, T8, X8, E8, g8⟩ := X5.callS hexec (Cmp3.law l b A o len) hown (wks W (staticW "java/lang/String" 177 Cmp3.yN)) (wk W Cmp3.tab) (W := 0) (Nat.le_of_ble_eq_true rfl) (Nat.le_of_ble_eq_true rfl) (Nat.le_refl _) (by show 0 + len ≤ len; omega) (g := (mkF m 36 #[.val (.ref a), .val (.ref b), .val (.int (Int32.ofNat o)), .val (.int (Int32.ofNat len)), .val .null, .unset] [.int (Int32.ofNat len), .int (Int32.ofNat o), .ref b])) rfl (by rw [hml]; rfl) c7 (argsL := [.ref b, .int (Int32.ofNat o), .int (Int32.ofNat len)]) (rest := []) rfl rfl (by show 2 * 0 + 0 ≤ _; decide) (hb hbytes d36) (⟨rfl, hA.mv X5.warmed.alike hh5, l1, l2, hp⟩)
  obtain ⟨e8, z8⟩ := E8
  obtain ⟨rfl, N, n1, n2, n3, n4, n5, n6⟩ := NewArr.mv _ T5 s _ _ hh5.symm (Vm.Alike.refl _) rfl e8
  rw [hh5] at z8
  have hB1 := hB.keep X8.warmed.alike (n6 _ _ hB.1)
  have hne : s.heap.size ≠ a := (Nat.ne_of_lt (Array.getElem?_eq_some_iff.mp hB.1).1).symm
  have c9 : Steps p.tables e below (s₁.setTop (entryFrame m #[.ref a, .ref b, .int (Int32.ofNat o), .int (Int32.ofNat len), .null] 6)) (T8.setTop (mkF m 39 #[.val (.ref a), .val (.ref b), .val (.int (Int32.ofNat o)), .val (.int (Int32.ofNat len)), .val .null, .unset] [.ref s.heap.size])) := g8
  have c10 : Steps p.tables e below (s₁.setTop (entryFrame m #[.ref a, .ref b, .int (Int32.ofNat o), .int (Int32.ofNat len), .null] 6)) (T8.setTop (mkF m 45 #[.val (.ref a), .val (.ref b), .val (.int (Int32.ofNat o)), .val (.int (Int32.ofNat len)), .val .null, .val (.ref s.heap.size)] [.int (Int32.ofNat N.slots.size), .ref s.heap.size, .ref a])) := by
    have hc : Steps p.tables e below (s₁.setTop (entryFrame m #[.ref a, .ref b, .int (Int32.ofNat o), .int (Int32.ofNat len), .null] 6)) (T8.setTop (mkF m 45 #[.val (.ref a), .val (.ref b), .val (.int (Int32.ofNat o)), .val (.int (Int32.ofNat len)), .val .null, .val (.ref s.heap.size)] [.int (Int32.ofNat len), .ref s.heap.size, .ref a])) := c9.trans (by
      refine XS.astore X8.here hexec rfl (hb hbytes d39) rfl rfl rfl ?_
      refine XS.aloadN X8.here hexec rfl (hb hbytes d41) rfl rfl ?_
      refine XS.aload X8.here hexec rfl (hb hbytes d42) rfl rfl ?_
      refine XS.iloadN X8.here hexec rfl (hb hbytes d44) rfl ?_
      exact Steps.refl _)
    rw [n4]; exact hc
  obtain ⟨v11, T11, X11, E11, g11⟩ := X8.callS hexec (CodL.law l s.heap.size N) hown (wks W (staticW "java/lang/String" 47 CodL.yN)) (wk W CodL.tab) (W := 1) (Nat.le_of_ble_eq_true rfl) (Nat.le_of_ble_eq_true rfl) (Nat.le_refl _) (by show 0 + len + 0 ≤ len; omega) (g := (mkF m 45 #[.val (.ref a), .val (.ref b), .val (.int (Int32.ofNat o)), .val (.int (Int32.ofNat len)), .val .null, .val (.ref s.heap.size)] [.int (Int32.ofNat N.slots.size), .ref s.heap.size, .ref a])) rfl (by rw [hml]; rfl) c10 (argsL := [.ref s.heap.size, .int (Int32.ofNat N.slots.size)]) (rest := [.ref a]) rfl rfl (by show 2 * 0 + (1 + 0) ≤ _; decide) (hb hbytes d45) (⟨rfl, n1⟩)
  obtain ⟨rfl, q11⟩ := E11
  have hB11 := hB1.mv (X8.warmed.alike.symm.trans X11.warmed.alike) q11
  have c12 : Steps p.tables e below (s₁.setTop (entryFrame m #[.ref a, .ref b, .int (Int32.ofNat o), .int (Int32.ofNat len), .null] 6)) (T11.setTop (mkF m 48 #[.val (.ref a), .val (.ref b), .val (.int (Int32.ofNat o)), .val (.int (Int32.ofNat len)), .val .null, .val (.ref s.heap.size)] [.int 0, .ref a])) := g11
  obtain ⟨T13, X13, p13, bl13, sl13, st13⟩ := X11.finit hexec hown (wk W (.fieldLink "java/lang/String" 15 "java/lang/String" "coder" "B")) (Or.inr ⟨_, (wk W (.laysFinal "java/lang/String" "java/lang/String" "coder" "B"))⟩) (Or.inl ⟨rfl, hnm⟩) f2 (Or.inl rfl) hB11 (t := .byte) (by decide +kernel) rfl (g := (mkF m 48 #[.val (.ref a), .val (.ref b), .val (.int (Int32.ofNat o)), .val (.int (Int32.ofNat len)), .val .null, .val (.ref s.heap.size)] [.int 0, .ref a])) rfl (rest := []) rfl (hb hbytes d48)
  have c14 : Steps p.tables e below (s₁.setTop (entryFrame m #[.ref a, .ref b, .int (Int32.ofNat o), .int (Int32.ofNat len), .null] 6)) (T13.setTop (mkF m 54 #[.val (.ref a), .val (.ref b), .val (.int (Int32.ofNat o)), .val (.int (Int32.ofNat len)), .val .null, .val (.ref s.heap.size)] [.ref s.heap.size, .ref a])) := (c12.trans (st13 _ (Steps.refl _))).trans (by
    refine XS.aloadN X13.here hexec rfl (hb hbytes d51) rfl rfl ?_
    refine XS.aload X13.here hexec rfl (hb hbytes d52) rfl rfl ?_
    exact Steps.refl _)
  obtain ⟨T15, X15, p15, bl15, sl15, st15⟩ := X13.finit hexec hown (wk W (.fieldLink "java/lang/String" 9 "java/lang/String" "value" "[B")) (Or.inr ⟨_, (wk W (.laysFinal "java/lang/String" "java/lang/String" "value" "[B"))⟩) (Or.inl ⟨rfl, hnm⟩) f1 (Or.inl rfl) bl13 (t := (.array .byte)) (by decide +kernel) rfl (g := (mkF m 54 #[.val (.ref a), .val (.ref b), .val (.int (Int32.ofNat o)), .val (.int (Int32.ofNat len)), .val .null, .val (.ref s.heap.size)] [.ref s.heap.size, .ref a])) rfl (rest := []) rfl (hb hbytes d54)
  have c16 : Steps p.tables e below (s₁.setTop (entryFrame m #[.ref a, .ref b, .int (Int32.ofNat o), .int (Int32.ofNat len), .null] 6)) (T15.setTop (mkF m 57 #[.val (.ref a), .val (.ref b), .val (.int (Int32.ofNat o)), .val (.int (Int32.ofNat len)), .val .null, .val (.ref s.heap.size)] [])) := c14.trans (st15 _ (Steps.refl _))
  have ap := apart (Or.inr ⟨_, (wk W (.laysFinal "java/lang/String" "java/lang/String" "value" "[B"))⟩) (Or.inr ⟨_, (wk W (.laysFinal "java/lang/String" "java/lang/String" "coder" "B"))⟩) f1 f2 (t₁ := .array .byte) (t₂ := .byte) (by decide +kernel) (by decide +kernel) (by decide)
  have al := X8.warmed.alike.symm.trans X15.warmed.alike
  have n7 : T11.heap[s.heap.size]? = some N := by rw [q11]; exact n1.1
  exact ⟨T15, none, _, _, _, X15, by simp, rfl, by omega, (fun _ => rfl), ⟨rfl, _, N, bl15, ((Same.refl D _).set _ (by simp)).set _ (by simp), sl15, (Cell.slots_setSlot_ne _ ap).trans sl13, n1.keep al (p15.other hne (p13.other hne n7)), n2, by rw [al.findClass]; exact n3, n4, n5, fun y c h1 h2 => p15.other h1 (p13.other h1 (by rw [q11]; exact n6 y c h2)), by rw [p15.2.2, p13.2.2, q11]; exact z8⟩, fun fs hl => c16.trans (X15.returnOut hexec hret (hb hbytes d57) hl)⟩
end New4
namespace New1
def yN : MethodName := ⟨"java/lang/String", "<init>", "([C)V"⟩
abbrev yB : ByteArray := jdk_42_method_3_code
theorem d0 : decode yB 0 = .ok (.aload_n 0, 1) := by decide +kernel
theorem d1 : decode yB 1 = .ok (.aload_n 1, 1) := by decide +kernel
theorem d2 : decode yB 2 = .ok (.iconst 0, 1) := by decide +kernel
theorem d3 : decode yB 3 = .ok (.aload_n 1, 1) := by decide +kernel
theorem d4 : decode yB 4 = .ok (.arraylength, 1) := by decide +kernel
theorem d5 : decode yB 5 = .ok (.aconst_null, 1) := by decide +kernel
theorem d6 : decode yB 6 = .ok (.invokespecial 27, 3) := by decide +kernel
theorem d9 : decode yB 9 = .ok (.return_, 1) := by decide +kernel
def site : List Cond := [New4.tab] ++ initW "java/lang/String" 27 New4.yN
def tab : Cond := tabOf yN yB 2 none site
def P (a : Addr) (D : Cell) (fV fC : Field) (b : Addr) (A : Cell) (z : Int32) (args : Array Value) (s : State) : Prop := args = #[.ref a, .ref b] ∧ Blank "java/lang/String" a D s ∧ Found "java/lang/String" "value" "[B" fV s ∧ Found "java/lang/String" "coder" "B" fC s ∧ Ch b A s ∧ StaticIs s "java/lang/String" "COMPACT_STRINGS" "Z" (.int z) ∧ ¬ z = 0 ∧ 0 < A.slots.size ∧ A.slots.size ≤ 536870912 ∧ ∀ i, i < A.slots.size → ¬ 255 < cv A i
def E (a : Addr) (D : Cell) (fV fC : Field) (A : Cell) (r : Option Value) (s u : State) : Prop := Got a D fV fC A 0 A.slots.size r s u
/-- new String(chars), not empty, no char above 255: a Latin-1 String of their low bytes -/
theorem law (l : Launch) (a : Addr) (D : Cell) (fV fC : Field) (b : Addr) (A : Cell) (z : Int32) : Law l yN 2 1 3 52 yB 2 none site (P a D fV fC b A z) (E a D fV fC A) [⟨a, fC.slot⟩, ⟨a, fV.slot⟩] 1 A.slots.size := by
  refine Law.of_walk (plainFor_of_name (by decide +kernel)) (by decide +kernel) (by decide +kernel) (by decide) (fun _ _ h => by rw [h.1]; rfl) (fun _ U U' hal hh h => ⟨h.1, h.2.1.mv hal hh, h.2.2.1.al hal, h.2.2.2.1.al hal, h.2.2.2.2.1.mv hal hh, h.2.2.2.2.2.1.there hal hh, h.2.2.2.2.2.2⟩) (fun r U U' V V' h1 hal h2 h => Got.mv r U U' V V' h1 hal h2 h) ?_
  intro p e s m args below meth c s₁ X0 hexec hbytes hml hret hlk hnm hown hh0 W hP
  obtain ⟨rfl, hB, f1, f2, hA, s1, hz, l0, l2, hp⟩ := hP
  have c1 : Steps p.tables e below (s₁.setTop (entryFrame m #[.ref a, .ref b] 2)) (s₁.setTop (mkF m 0 #[.val (.ref a), .val (.ref b)] [])) := entry rfl
  have c2 : Steps p.tables e below (s₁.setTop (entryFrame m #[.ref a, .ref b] 2)) (s₁.setTop (mkF m 6 #[.val (.ref a), .val (.ref b)] [.null, .int (Int32.ofNat A.slots.size), .int 0, .ref b, .ref a])) := c1.trans (by
    refine XS.aloadN X0.here hexec rfl (hb hbytes d0) rfl rfl ?_
    refine XS.aloadN X0.here hexec rfl (hb hbytes d1) rfl rfl ?_
    refine iconstV X0.here hexec rfl 0 (hb hbytes d2) (by decide) ?_
    refine XS.aloadN X0.here hexec rfl (hb hbytes d3) rfl rfl ?_
    refine X0.alen hexec (hA.1.mv X0.warmed.alike hh0) rfl rfl (hb hbytes d4) ?_
    refine XS.aconstNull X0.here hexec rfl (hb hbytes d5) ?_
    exact Steps.refl _)
  obtain ⟨v3, T3, X3, E3, g3⟩ := X0.callN hexec (New4.law l a D fV fC b A z 0 A.slots.size) rfl hown (wks W (initW "java/lang/String" 27 New4.yN)) (W New4.tab (by simp only [site, List.mem_cons, List.mem_append, true_or, or_true])) (W := 0) (Nat.le_of_ble_eq_true rfl) (Nat.le_of_ble_eq_true rfl) (Nat.le_refl _) (by show 0 + A.slots.size ≤ A.slots.size; omega) (g := (mkF m 6 #[.val (.ref a), .val (.ref b)] [.null, .int (Int32.ofNat A.slots.size), .int (Int32.ofNat 0), .ref b, .ref a])) rfl (by rw [hml]; rfl) c2 (argsL := [.ref b, .int (Int32.ofNat 0), .int (Int32.ofNat A.slots.size), .null]) (rest := []) rfl rfl (by show 2 * 0 + 0 ≤ _; decide) (hb hbytes d6) (⟨rfl, hB.mv X0.warmed.alike hh0, f1.al X0.warmed.alike, f2.al X0.warmed.alike, hA.mv X0.warmed.alike hh0, s1.there X0.warmed.alike hh0, hz, l0, by omega, l2, fun i hi => by rw [Nat.zero_add]; exact hp i hi⟩)
  have e0 := Got.mv _ s₁ s _ _ hh0.symm (Vm.Alike.refl _) rfl E3
  obtain rfl := e0.1
  have c4 : Steps p.tables e below (s₁.setTop (entryFrame m #[.ref a, .ref b] 2)) (T3.setTop (mkF m 9 #[.val (.ref a), .val (.ref b)] [])) := g3
  exact ⟨T3, none, _, _, _, X3, by simp, rfl, by omega, (fun _ => rfl), e0, fun fs hl => c4.trans (X3.returnOut hexec hret (hb hbytes d9) hl)⟩
theorem pays {l : Launch} {R : Room} {p : Program} {e : Env} {below : List Frame} {s : State} {sargs : Array Value} {len W : Nat} (a : Addr) (D : Cell) (fV fC : Field) (b : Addr) (A : Cell) (z : Int32) (htab : tab.before sargs s = true) (hfr : 4 ≤ R.frames) (hlo : W + 65 ≤ R.locals) :
    Back l R p e below s sargs yN len W (fun A₁ a₁ => A₁.cells + 1 ≤ R.cells ∧ A₁.slots + A.slots.size ≤ R.slots ∧ P a D fV fC b A z a₁ A₁.U) (fun A₁ _ v₁ B₁ => E a D fV fC A v₁ A₁.U B₁.U ∧ B₁.locs = A₁.locs ++ [⟨a, fC.slot⟩, ⟨a, fV.slot⟩] ∧ B₁.cells = A₁.cells + 1 ∧ B₁.slots = A₁.slots + A.slots.size) :=
  (law l a D fV fC b A z).pays htab hfr (by omega)
end New1
/-- the byte, read back as charAt reads it, is the char -/
theorem lo8_mask {x : Int32} (h0 : ¬ x < 0) (h1 : ¬ 255 < x) : lo8 x &&& 255 = x := by
  have t : ∀ k : Fin 256, lo8 (Int32.ofNat k.val) &&& 255 = Int32.ofNat k.val := by decide +kernel
  rw [Int32.lt_iff_toInt_lt] at h0 h1
  have e0 : (0 : Int32).toInt = 0 := rfl
  have e1 : (255 : Int32).toInt = 255 := rfl
  obtain ⟨k, hk⟩ : ∃ k : Nat, x.toInt = k := ⟨x.toInt.toNat, by omega⟩
  have hx : x = Int32.ofNat k := Int32.toInt_inj.mp (by rw [hk, Int32.toInt_ofNat_small (by omega)])
  rw [hx]
  exact t ⟨k, by omega⟩
end StrChars
namespace StrChars.Road
open Jvm Sem ClassFile Op Lib Jvm.Stand Jvm.Free Jvm.Free.XT
open Jvm.Lib.Cold (StaticIs)
abbrev ST : String := "java/lang/String"
/-- every table word that New1's law asks, flat -/
abbrev words : List Jvm.Cond := [.code New1.yN New1.yB 2 none, .initialized ST, .methodLink ST 27 New4.yN, .instanceMethod New4.yN,
  .code New4.yN New4.yB 6 none, .fieldLink ST 38 ST "COMPACT_STRINGS" "Z", .laysFinal ST ST "value" "[B", .fieldLink ST 9 ST "value" "[B", .laysFinal ST ST "coder" "B", .fieldLink ST 15 ST "coder" "B",
  .methodLink ST 1 Lib.objectInit, .instanceMethod Lib.objectInit, .code Lib.objectInit ⟨#[0xb1]⟩ 1 none, .methodLink ST 177 Cmp3.yN, .static Cmp3.yN, .methodLink ST 47 CodL.yN, .static CodL.yN,
  .code Cmp3.yN Cmp3.yB 6 (some (.array .byte)), .initialized U16, .arrayClass .byte, .methodLink U16 115 Cmp5.yN, .static Cmp5.yN, .code Cmp5.yN Cmp5.yB 7 (some .int), .code CodL.yN CodL.yB 2 (some .byte)]
theorem tab_of {a : Array Value} {s : State} (h : ∀ w ∈ words, w.before a s = true) : New1.tab.before a s = true := by
  have h5 : Cmp5.tab.before a s = true := unparts (wk h (.code Cmp5.yN Cmp5.yB 7 (some .int))) (wks h (.initialized Cmp5.yN.cls :: Cmp5.site))
  have hc : CodL.tab.before a s = true := unparts (wk h (.code CodL.yN CodL.yB 2 (some .byte))) (wks h (.initialized CodL.yN.cls :: CodL.site))
  have q5 : ∀ w ∈ Cmp5.tab :: words, w.before a s = true := fun w hw => (List.mem_cons.mp hw).elim (fun e => e ▸ h5) (h w)
  have h3 : Cmp3.tab.before a s = true := unparts (wk q5 (.code Cmp3.yN Cmp3.yB 6 (some (.array .byte)))) (wks q5 (.initialized Cmp3.yN.cls :: Cmp3.site))
  have q3 : ∀ w ∈ Cmp3.tab :: CodL.tab :: words, w.before a s = true := fun w hw => (List.mem_cons.mp hw).elim (fun e => e ▸ h3) fun hw => (List.mem_cons.mp hw).elim (fun e => e ▸ hc) (h w)
  have h4 : New4.tab.before a s = true := unparts (wk q3 (.code New4.yN New4.yB 6 none)) (wks q3 (.initialized New4.yN.cls :: New4.site))
  have q4 : ∀ w ∈ New4.tab :: words, w.before a s = true := fun w hw => (List.mem_cons.mp hw).elim (fun e => e ▸ h4) (h w)
  exact unparts (wk q4 (.code New1.yN New1.yB 2 none)) (wks q4 (.initialized New1.yN.cls :: New1.site))
/-- the words ride from the start Z to the walk's own state -/
theorem moved {Z s : State} {a0 args : Array Value} (hZ : Z.Warmed39 s.vm) (hw : ∀ d ∈ words, d.before a0 Z = true) : ∀ d ∈ words, d.before args s = true := fun d hd => by
  have q := hw d hd
  have t : ∀ d ∈ words, d = .arrayClass .byte ∨ (d.onTables && d.keepsFace) = true := by decide +kernel
  rcases t d hd with rfl | t
  · exact RoadKit.mvA hZ q
  · exact RoadKit.mv hZ q t
/-- WHAT COMES BACK, over the tables of the start Z: h the heap at the call, h' behind it -/
def Q (Z : State) (x : Addr) (A : Cell) (h : Heap) (v : Option Value) (h' : Heap) (L : List Loc) : Prop := v = none ∧ (∀ y ∈ L, y.base = x) ∧ RoadKit.Keep h h' [x] ∧ h'.size = h.size + 1 ∧ RoadKit.Exa Z h' x ST ∧ RoadKit.Fld Z h' x ST "value" "[B" (.ref h.size) ∧ RoadKit.Fld Z h' x ST "coder" "B" (.int 0) ∧
  (∃ V : Cell, RoadKit.Arr Z h' h.size V .byte ∧ V.vm = .none ∧ Z.vm.findClass "[B" = some V.cls ∧ V.slots.size = A.slots.size ∧ ∀ j, j < A.slots.size → V.slots[j]? = some (.int (lo8 (cv A j)))) ∧
  ∀ (O n d : String) (w : Value), RoadKit.Fld Z h x O n d w → RoadKit.slotOf Z O n d ≠ RoadKit.slotOf Z ST "value" "[B" → RoadKit.slotOf Z O n d ≠ RoadKit.slotOf Z ST "coder" "B" → RoadKit.Fld Z h' x O n d w
/-- **new String(chars) AT A CALL, IN THE ROAD'S FORM**: for specialBack behind newO: x the fresh String, b the char[] with the cell A -/
theorem back {p : Program} {l : Launch} {e : Env} {R : Room} {s : State} {args : Array Value} {below : List Frame} {len W : Nat} {Z : State} {a0 : Array Value} {h : Heap} (hZ : Z.Warmed39 s.vm) (hw : ∀ d ∈ words, d.before a0 Z = true) {kI : Nat} (wi : (Jvm.Cond.instantiable ST kI).before a0 Z = true)
    {x b : Addr} {A : Cell} {z : Int32} {v0 c0 : Value} (E : RoadKit.Exa Z h x ST) (V : RoadKit.Fld Z h x ST "value" "[B" v0) (C : RoadKit.Fld Z h x ST "coder" "B" c0) (K : RoadKit.Arr Z h b A .char) (hty : Typed .char A) (S : RoadKit.Sta Z h ST "COMPACT_STRINGS" "Z" (.int z)) (hz : ¬ z = 0)
    (l0 : 0 < A.slots.size) (l2 : A.slots.size ≤ 536870912) (hp : ∀ i, i < A.slots.size → ¬ 255 < cv A i) (hfr : 4 ≤ R.frames) (hlo : W + 65 ≤ R.locals) :
    Back l R p e below s args New1.yN len W (fun P a => a = #[.ref x, .ref b] ∧ P.U.heap = h ∧ P.cells + 1 ≤ R.cells ∧ P.slots + A.slots.size ≤ R.slots)
      (fun P _ v B => ∃ L, Q Z x A h v B.U.heap L ∧ B.locs = P.locs ++ L ∧ B.cells = P.cells + 1 ∧ B.slots = P.slots + A.slots.size) := by
  intro m meth c P g ig mk a X hg hsize hdg hW hn hp'
  obtain ⟨rfl, rfl, r1, r2⟩ := hp'
  have al : Z.vm.Alike P.U.vm := hZ.alike.trans X.warmed.alike
  obtain ⟨D, cfV, kV, iV, fV, hD, gV, stV, knV, obV, asV, slV⟩ := id V
  obtain ⟨D', cfC, kC, iC, fC, hD', gC, stC, -, -, asC, slC⟩ := id C
  cases hD.symm.trans hD'
  obtain ⟨D2, kD, e1, e2, e3, e4, e5⟩ := id E
  cases hD.symm.trans e1
  obtain ⟨c2, k2, i1, i2, i3, -⟩ := Cond.instantiable_spec wi
  cases e2.symm.trans i1
  cases e3.symm.trans i2
  obtain ⟨kU, u1, u2⟩ := al.2.2 _ _ e3
  have hB : Blank ST x D P.U := ⟨hD, ⟨knV, fun q hq => by rw [hq] at obV; cases obV⟩, by rw [al.findClass]; exact e2, kU, u1, by rw [u2]; exact i3, by rw [u2]; exact e5 i3⟩
  have F1 : Found ST "value" "[B" fV P.U := ⟨SBG.found_only al ⟨cfV, kV, iV, gV⟩, stV⟩
  have F2 : Found ST "coder" "B" fC P.U := ⟨SBG.found_only al ⟨cfC, kC, iC, gC⟩, stC⟩
  have hA : Ch b A P.U := ⟨⟨K.1, State.isArrayOf_alike al K.2.1, K.2.2, by omega⟩, hty⟩
  have hS : StaticIs P.U ST "COMPACT_STRINGS" "Z" (.int z) := by
    obtain ⟨cfS, iS, kS, fS, st, cS, t1, t2, t3, t4, t5, t6, t7⟩ := S
    exact StaticIs.there (s := { Z with heap := P.U.heap }) ⟨cfS, iS, kS, fS, st, cS, t1, t2, t3, t4, t5, (fun q => by rw [q] at t6; cases t6), t7⟩ al rfl
  obtain ⟨v, B, X', ⟨⟨hv, E', V', q1, q2, q3, q4, q5, q6, q7, q8, q9, q10, q11⟩, hl, hc, hs⟩, st⟩ := New1.pays x D fV fC b A z (tab_of (moved hZ hw)) hfr hlo m meth c P g ig mk _ X hg hsize hdg hW hn ⟨r1, r2, rfl, hB, F1, F2, hA, hS, hz, l0, l2, hp⟩
  have al' : Z.vm.Alike B.U.vm := hZ.alike.trans X'.warmed.alike
  have hsz : E'.slots.size = D.slots.size := by
    obtain ⟨-, -, -, kB, w1, w2, w3⟩ := q1
    obtain ⟨kB', y1, y2⟩ := al'.2.2 _ _ e3
    rw [q2.2.1] at w1
    cases w1.symm.trans y1
    rw [w3, e5 i3, y2]
  refine ⟨v, B, X', ⟨_, ⟨hv, ?_, ⟨by omega, fun y cy hy hn' => q10 y cy (by simpa using hn') hy, fun y cy hy => ?_⟩, q11, ⟨E', _, q1.1, by rw [q2.2.1]; exact e2, by rw [q2.2.1]; exact e3, by rw [q2.1]; exact obV, fun _ => by rw [hsz]; exact e5 i3⟩,
    ⟨E', cfV, kV, iV, fV, q1.1, gV, stV, by rw [q2.1]; exact knV, by rw [q2.1]; exact obV, by rw [q2.2.1]; exact asV, q3⟩, ⟨E', cfC, kC, iC, fC, q1.1, gC, stC, by rw [q2.1]; exact knV, by rw [q2.1]; exact obV, by rw [q2.2.1]; exact asC, q4⟩,
    ⟨V', ⟨q5.1, State.isArrayOf_alike al'.symm q5.2.1, q5.2.2.1⟩, q6, by rw [← al'.findClass]; exact q7, q8, fun j hj => by have := q9 j hj; rwa [Nat.zero_add] at this⟩, fun O n d w F n1 n2 => ?_⟩, hl, hc, hs⟩, st⟩
  · intro y hy
    simp only [List.mem_cons, List.not_mem_nil, or_false] at hy
    rcases hy with rfl | rfl <;> rfl
  · by_cases q : y = x
    · subst q
      cases hD.symm.trans hy
      exact ⟨E', q1.1, q2.2.1, q2.1, hsz⟩
    · exact ⟨cy, q10 y cy q hy, rfl, rfl, rfl⟩
  · obtain ⟨D3, cf, k, i, f, g1, g2, g3, g4, g5, g6, g7⟩ := F
    cases hD.symm.trans g1
    simp only [RoadKit.slotOf, g2, gV, gC, Option.map_some, Option.getD_some] at n1 n2
    exact ⟨E', cf, k, i, f, q1.1, g2, g3, by rw [q2.1]; exact g4, by rw [q2.1]; exact g5, by rw [q2.2.1]; exact g6, by rw [q2.2.2 f.slot (by simp [n1, n2])]; exact g7⟩
end StrChars.Road
namespace StrChars.Road
open Jvm Sem ClassFile Op Lib Jvm.Stand Jvm.Free Jvm.Free.XT
/-- WHAT COMES BACK, the byte[] as a list of values -/
def QA (Z : State) (x : Addr) (zn : Int32) (cs : List Int32) (h : Heap) (v : Option Value) (h' : Heap) (L : List Loc) : Prop := v = none ∧ (∀ y ∈ L, y.base = x) ∧ RoadKit.Keep h h' [x] ∧ h'.size = h.size + 1 ∧ RoadKit.Exa Z h' x ST ∧ RoadKit.Fld Z h' x ST "value" "[B" (.ref h.size) ∧ RoadKit.Fld Z h' x ST "coder" "B" (.int 0) ∧
  (∃ kb, Z.vm.findClass "[B" = some kb ∧ RoadKit.Arv Z h' h.size kb .byte zn (cs.map fun c => .int (lo8 c)) (.int 0)) ∧
  ∀ (O n d : String) (w : Value), RoadKit.Fld Z h x O n d w → RoadKit.slotOf Z O n d ≠ RoadKit.slotOf Z ST "value" "[B" → RoadKit.slotOf Z O n d ≠ RoadKit.slotOf Z ST "coder" "B" → RoadKit.Fld Z h' x O n d w
/-- **new String(chars) AT A CALL, THE ARRAYS AS LISTS**: the char[] at b holds cs, not empty, no char above 255 -/
theorem backArv {p : Program} {l : Launch} {e : Env} {R : Room} {s : State} {args : Array Value} {below : List Frame} {len W : Nat} {Z : State} {a0 : Array Value} {h : Heap} (hZ : Z.Warmed39 s.vm) (hw : ∀ d ∈ words, d.before a0 Z = true) {kI : Nat} (wi : (Jvm.Cond.instantiable ST kI).before a0 Z = true)
    {x b : Addr} {k : ClassId} {zn z : Int32} {cs : List Int32} {dv v0 c0 : Value} (E : RoadKit.Exa Z h x ST) (V : RoadKit.Fld Z h x ST "value" "[B" v0) (C : RoadKit.Fld Z h x ST "coder" "B" c0) (K : RoadKit.Arv Z h b k .char zn (cs.map Value.int) dv) (S : RoadKit.Sta Z h ST "COMPACT_STRINGS" "Z" (.int z)) (hz : ¬ z = 0)
    (hlen : zn.toNatClampNeg = cs.length) (h0 : 0 < cs.length) (hbig : cs.length ≤ 536870912) (hall : ∀ c ∈ cs, ¬ 255 < c) (hfr : 4 ≤ R.frames) (hlo : W + 65 ≤ R.locals) :
    Back l R p e below s args New1.yN len W (fun P a => a = #[.ref x, .ref b] ∧ P.U.heap = h ∧ P.cells + 1 ≤ R.cells ∧ P.slots + cs.length ≤ R.slots)
      (fun P _ v B => ∃ L, QA Z x zn cs h v B.U.heap L ∧ B.locs = P.locs ++ L ∧ B.cells = P.cells + 1 ∧ B.slots = P.slots + cs.length) := by
  obtain ⟨A, K1, K2, K3, K4, K5, K6⟩ := K
  have e : A.slots.size = cs.length := K3.trans hlen
  have hat : ∀ (i : Nat) (hi : i < cs.length), A.slots[i]? = some (.int cs[i]) := fun i hi => by rw [K5 i (by omega)]; simp [List.getD_eq_getElem?_getD, hi]
  have hcv : ∀ (i : Nat) (hi : i < cs.length), cv A i = cs[i] := fun i hi => by unfold cv; rw [hat i hi]
  have hty : Typed .char A := fun i v hv => by
    have hi : i < A.slots.size := (Array.getElem?_eq_some_iff.mp hv).1
    have q := K5 i hi
    rw [hv] at q
    rw [Option.some.inj q]
    exact K6 i hi
  refine Back.mono (back hZ hw wi E V C K1 hty S hz (by omega) (by omega) (fun i hi => by rw [hcv i (by omega)]; exact hall _ (List.getElem_mem _)) hfr hlo) (fun P a hp => ⟨hp.1, hp.2.1, hp.2.2.1, by rw [e]; exact hp.2.2.2⟩) (fun P a v B hp hq => ?_)
  obtain ⟨L, ⟨q1, q2, q3, q4, q5, q6, q7, ⟨V', v1, v2, v3, v4, v5⟩, q9⟩, hl, hc, hs⟩ := hq
  refine ⟨L, ⟨q1, q2, q3, q4, q5, q6, q7, ⟨V'.cls, v3, V', v1, rfl, by rw [v4, e, hlen], K4, fun i hi => ?_, fun i hi => ?_⟩, q9⟩, hl, hc, by rw [hs, e]⟩
  · have hi' : i < cs.length := by omega
    rw [v5 i (by omega), hcv i hi']; simp [List.getD_eq_getElem?_getD, hi']
  · have hi' : i < cs.length := by omega
    simp only [List.getD_eq_getElem?_getD, List.getElem?_map, List.getElem?_eq_getElem hi', Option.map_some, Option.getD_some]
    exact fits_lo8 _
end StrChars.Road
namespace StrChars.Road
open Jvm Sem ClassFile Op Lib Jvm.Stand Jvm.Free Jvm.Free.XT
/-- WHAT COMES BACK, in the writer's own shape -/
def QV (Z : State) (x : Addr) (N : Int32) (bs : List Int32) (h : Heap) (n0 : Nat) (v : Option Value) (h' : Heap) (L : List Loc) : Prop := v = none ∧ RoadKit.Fr n0 L ∧ RoadKit.Keep h h' [x] ∧ RoadKit.Exa Z h' x ST ∧ RoadKit.Fld Z h' x ST "coder" "B" (.int 0) ∧
  ∃ (t : Addr) (kb : ClassId), n0 ≤ t ∧ h.size ≤ t ∧ ¬ t = x ∧ RoadKit.Fld Z h' x ST "value" "[B" (.ref t) ∧ RoadKit.Arv Z h' t kb .byte N (bs.map Value.int) (.int 0)
/-- **new String(chars) AT A CALL, FOR THE WRITER**: a char[] of n known ints, each 0 to 255 -/
theorem backV {p : Program} {l : Launch} {e : Env} {R : Room} {s : State} {args : Array Value} {below : List Frame} {len W : Nat} {Z : State} {a0 : Array Value} {h : Heap} (hZ : Z.Warmed39 s.vm) (hw : ∀ d ∈ words, d.before a0 Z = true) {kI : Nat} (wi : (Jvm.Cond.instantiable ST kI).before a0 Z = true)
    {x b : Addr} {kC : ClassId} {cs bs : List Int32} {d v0 c0 : Value} {z N : Int32} {n n0 : Nat} (hx0 : n0 ≤ x) (hh0 : n0 ≤ h.size) (E : RoadKit.Exa Z h x ST) (V : RoadKit.Fld Z h x ST "value" "[B" v0) (C : RoadKit.Fld Z h x ST "coder" "B" c0) (K : RoadKit.Arv Z h b kC .char N (cs.map Value.int) d) (S : RoadKit.Sta Z h ST "COMPACT_STRINGS" "Z" (.int z)) (hz : ¬ z = 0)
    (hn : cs.length = n) (hN : N = Int32.ofNat n) (l0 : 0 < n) (l2 : n ≤ 4000) (hp : ∀ c ∈ cs, ¬ c < 0 ∧ ¬ (255 : Int32) < c) (hb : bs = cs.map (fun c => c.toInt8.toInt32)) (hfr : 4 ≤ R.frames) (hlo : W + 65 ≤ R.locals) :
    Back l R p e below s args (⟨"java/lang/String", "<init>", "([C)V"⟩ : MethodName) len W (fun P a => a = #[.ref x, .ref b] ∧ P.U.heap = h ∧ P.cells + 1 ≤ R.cells ∧ P.slots + n ≤ R.slots)
      (fun P _ v B => ∃ L, QV Z x N bs h n0 v B.U.heap L ∧ B.locs = P.locs ++ L ∧ B.cells = P.cells + 1 ∧ B.slots = P.slots + n) := by
  subst hn hN hb
  refine Back.mono (backArv hZ hw wi E V C K S hz (n32 (by omega)) l0 (by omega) (fun c hc => (hp c hc).2) hfr hlo) (fun P a hp => hp) (fun P a v B hp hq => ?_)
  obtain ⟨L, ⟨q1, q2, q3, q4, q5, q6, q7, ⟨kb, v1, v2⟩, q9⟩, hl, hc, hs⟩ := hq
  exact ⟨L, ⟨q1, fun y hy => by rw [q2 y hy]; exact hx0, q3, q5, q7, h.size, kb, hh0, Nat.le_refl _, Nat.ne_of_gt E.lt, q6, by rw [List.map_map]; exact v2⟩, hl, hc, hs⟩
end StrChars.Road
namespace StrChars
open Jvm Sem ClassFile Op Lib Jvm.Stand Jvm.Free.XT Jvm.Free.ALB Jvm.Free.JM Jvm.Free
open Jvm.Lib.Cold (StaticIs)
def hi8 (x : Int32) : Int32 := lo8 (x >>> ((8 : Int32) &&& 31))
/-- what StringUTF16.getChar makes of two bytes -/
def pairCh (u v : Int32) : Int32 := (((u &&& 255) <<< ((0 : Int32) &&& 31)) ||| ((v &&& 255) <<< ((8 : Int32) &&& 31))).toUInt32.toUInt16.toUInt32.toInt32
theorem shr0 (c : Int32) : c >>> ((0 : Int32) &&& 31) = c := by
  have e : ((0 : Int32) &&& 31) = 0 := by decide
  rw [e]
  apply Int32.toBitVec_inj.mp
  rw [Int32.toBitVec_shiftRight]
  have e1 : ((0 : Int32).toBitVec.smod 32) = 0#32 := by decide
  rw [e1, BitVec.sshiftRight_eq']
  exact BitVec.sshiftRight_zero
theorem lo8_and (x : Int32) : (lo8 x &&& 255).toBitVec.toNat = x.toBitVec.toNat % 256 := by
  have h : (lo8 x).toBitVec = (x.toBitVec.signExtend 8).signExtend 32 := by rw [lo8, Int8.toBitVec_toInt32, Int32.toBitVec_toInt8]
  rw [Int32.toBitVec_and, BitVec.toNat_and, h]
  have e : ((x.toBitVec.signExtend 8).signExtend 32).toNat % 256 = x.toBitVec.toNat % 256 := by
    rw [BitVec.toNat_signExtend]
    have hlt := x.toBitVec.isLt
    simp only [BitVec.toNat_setWidth, BitVec.toNat_signExtend]
    split <;> split <;> omega
  rw [← e]
  exact Nat.and_two_pow_sub_one_eq_mod _ 8
theorem pair_says {c : Int32} (h0 : ¬ c < 0) (h1 : ¬ 65535 < c) : pairCh (lo8 c) (hi8 c) = c := by
  rw [Int32.lt_iff_toInt_lt] at h0 h1
  have e0 : (0 : Int32).toInt = 0 := rfl
  have e1 : (65535 : Int32).toInt = 65535 := rfl
  have hc : c.toInt = c.toBitVec.toNat := by
    have := c.toBitVec.isLt
    have e : c.toInt = c.toBitVec.toInt := rfl
    rw [e] at h0 h1
    rw [e]
    rw [BitVec.toInt_eq_toNat_cond] at h0 h1 ⊢
    split at h0 <;> split <;> omega
  have hn : c.toBitVec.toNat < 65536 := by omega
  have a1 := lo8_and c
  have a2 : (hi8 c &&& 255).toBitVec.toNat = c.toBitVec.toNat / 256 := by
    rw [hi8, lo8_and]
    have e : ((8 : Int32) &&& 31) = 8 := by decide
    rw [e, Int32.toBitVec_shiftRight]
    have e2 : ((8 : Int32).toBitVec.smod 32) = 8#32 := by decide
    rw [e2, BitVec.sshiftRight_eq', BitVec.toNat_sshiftRight_of_msb_false (by rw [BitVec.msb_eq_false_iff_two_mul_lt]; omega)]
    show c.toBitVec.toNat >>> 8 % 256 = _
    rw [Nat.shiftRight_eq_div_pow]
    omega
  unfold pairCh
  apply Int32.toBitVec_inj.mp
  apply BitVec.eq_of_toNat_eq
  have f0 : ((0 : Int32) &&& 31) = 0 := by decide
  have f8 : ((8 : Int32) &&& 31) = 8 := by decide
  rw [f0, f8]
  have g : (((lo8 c &&& 255) <<< (0 : Int32)) ||| ((hi8 c &&& 255) <<< (8 : Int32))).toBitVec.toNat = c.toBitVec.toNat := by
    rw [Int32.toBitVec_or, Int32.toBitVec_shiftLeft, Int32.toBitVec_shiftLeft]
    have s0 : ((0 : Int32).toBitVec.smod 32) = 0#32 := by decide
    have s8 : ((8 : Int32).toBitVec.smod 32) = 8#32 := by decide
    rw [s0, s8, BitVec.toNat_or]
    simp only [BitVec.shiftLeft_eq', BitVec.toNat_shiftLeft, a1, a2]
    show (c.toBitVec.toNat % 256) <<< 0 % 2 ^ 32 ||| (c.toBitVec.toNat / 256) <<< 8 % 2 ^ 32 = _
    rw [Nat.shiftLeft_zero, Nat.mod_eq_of_lt (show c.toBitVec.toNat % 256 < 2 ^ 32 by omega), Nat.mod_eq_of_lt (show (c.toBitVec.toNat / 256) <<< 8 < 2 ^ 32 by rw [Nat.shiftLeft_eq]; omega), Nat.or_comm, ← Nat.shiftLeft_add_eq_or_of_lt (by omega), Nat.shiftLeft_eq]
    omega
  show BitVec.toNat (((((lo8 c &&& 255) <<< (0 : Int32)) ||| ((hi8 c &&& 255) <<< (8 : Int32))).toBitVec.setWidth 16).setWidth 32) = _
  rw [BitVec.toNat_setWidth, BitVec.toNat_setWidth, g]
  omega
end StrChars
namespace StrChars
open Jvm Sem ClassFile Op Lib Jvm.Stand Jvm.Free.XT Jvm.Free.ALB Jvm.Free.JM Jvm.Free
open Jvm.Lib.Cold (StaticIs)
theorem shr1 {n : Nat} (h : 2 * n < 2 ^ 31) : Int32.ofNat (2 * n) >>> ((1 : Int32) &&& 31) = Int32.ofNat n := by
  have e : ((1 : Int32) &&& 31) = 1 := by decide
  rw [e]
  apply Int32.toBitVec_inj.mp
  rw [Int32.toBitVec_shiftRight]
  have e1 : ((1 : Int32).toBitVec.smod 32) = 1#32 := by decide
  have hm : (BitVec.ofNat 32 (2 * n)).toNat = 2 * n := by rw [BitVec.toNat_ofNat, Nat.mod_eq_of_lt (by omega)]
  rw [e1, BitVec.sshiftRight_eq']
  apply BitVec.eq_of_toNat_eq
  show ((BitVec.ofNat 32 (2 * n)).sshiftRight 1).toNat = (BitVec.ofNat 32 n).toNat
  rw [BitVec.toNat_sshiftRight_of_msb_false (by rw [BitVec.msb_eq_false_iff_two_mul_lt, hm]; omega), hm, BitVec.toNat_ofNat, Nat.shiftRight_eq_div_pow]
  omega
/-- charAt's cast of a byte read back -/
def chr8 (u : Int32) : Int32 := (u &&& 255).toUInt32.toUInt16.toUInt32.toInt32
theorem chr8_lo8 {c : Int32} (h0 : ¬ c < 0) (h1 : ¬ 255 < c) : chr8 (lo8 c) = c := by
  have t : ∀ k : Fin 256, (Int32.ofNat k.val).toUInt32.toUInt16.toUInt32.toInt32 = Int32.ofNat k.val := by decide +kernel
  unfold chr8
  rw [lo8_mask h0 h1]
  rw [Int32.lt_iff_toInt_lt] at h0 h1
  have e0 : (0 : Int32).toInt = 0 := rfl
  have e1 : (255 : Int32).toInt = 255 := rfl
  obtain ⟨k, hk⟩ : ∃ k : Nat, c.toInt = k := ⟨c.toInt.toNat, by omega⟩
  have hx : c = Int32.ofNat k := Int32.toInt_inj.mp (by rw [hk, Int32.toInt_ofNat_small (by omega)])
  rw [hx]
  exact t ⟨k, by omega⟩
theorem narrow_ch {c : Int32} (h0 : ¬ c < 0) (h1 : ¬ 65535 < c) : narrow .char (.int c) = .int c := by
  have q : narrow .char (.int (pairCh (lo8 c) (hi8 c))) = .int (pairCh (lo8 c) (hi8 c)) := narrow_c _
  rwa [pair_says h0 h1] at q
/-- the array's cell V codes the n chars f 0 .. f (n - 1) by the coder cd, as the JDK does: coder 1 just where some char is above 255 -/
def Cod (cd : Int32) (n : Nat) (f : Nat → Int32) (V : Cell) : Prop := (cd = 0 ∧ V.slots.size = n ∧ ∀ j, j < n → V.slots[j]? = some (.int (lo8 (f j))) ∧ ¬ 255 < f j) ∨ (cd = 1 ∧ V.slots.size = 2 * n ∧ (∀ j, j < n → V.slots[2 * j]? = some (.int (lo8 (f j))) ∧ V.slots[2 * j + 1]? = some (.int (hi8 (f j)))) ∧ ∃ j, j < n ∧ 255 < f j)
theorem Cod.cd {cd : Int32} {n : Nat} {f : Nat → Int32} {V : Cell} (h : Cod cd n f V) : cd = 0 ∨ cd = 1 := h.imp (fun q => q.1) fun q => q.1
theorem Cod.len {cd : Int32} {n : Nat} {f : Nat → Int32} {V : Cell} (h : Cod cd n f V) (hs : V.slots.size < 2 ^ 31) : Int32.ofNat V.slots.size >>> (cd &&& 31) = Int32.ofNat n := by
  rcases h with ⟨rfl, h, -⟩ | ⟨rfl, h, -⟩
  · rw [shr0, h]
  · rw [h, shr1 (by omega)]
/-- **x is a String of the n chars f 0 .. f (n - 1)**, Latin-1 or UTF-16; its array at t has the cell V -/
def Txt (x t : Addr) (V : Cell) (cd : Int32) (n : Nat) (f : Nat → Int32) (U : State) : Prop := Exact "java/lang/String" x U ∧ Has x "java/lang/String" "value" "[B" (.ref t) U ∧ Has x "java/lang/String" "coder" "B" (.int cd) U ∧ XT.Arr .byte t V U ∧ Cod cd n f V ∧ ∀ j, j < n → ¬ f j < 0 ∧ ¬ 65535 < f j
theorem Txt.mv {x t : Addr} {V : Cell} {cd : Int32} {n : Nat} {f : Nat → Int32} {U U' : State} (h : Txt x t V cd n f U) (hal : U.vm.Alike U'.vm) (hh : U'.heap = U.heap) : Txt x t V cd n f U' := ⟨h.1.mv hal hh, h.2.1.mv hal hh, h.2.2.1.mv hal hh, h.2.2.2.1.mv hal hh, h.2.2.2.2⟩
namespace Cdr
def yN : MethodName := ⟨"java/lang/String", "coder", "()B"⟩
abbrev yB : ByteArray := jdk_42_method_152_code
theorem d0 : decode yB 0 = .ok (.getstatic 38, 3) := by decide +kernel
theorem d3 : decode yB 3 = .ok (.ifCond (.eq) 10, 3) := by decide +kernel
theorem d6 : decode yB 6 = .ok (.aload_n 0, 1) := by decide +kernel
theorem d7 : decode yB 7 = .ok (.getfield 15, 3) := by decide +kernel
theorem d10 : decode yB 10 = .ok (.goto 4, 3) := by decide +kernel
theorem d14 : decode yB 14 = .ok (.ireturn, 1) := by decide +kernel
def site : List Cond := [.fieldLink "java/lang/String" 38 "java/lang/String" "COMPACT_STRINGS" "Z", .fieldLink "java/lang/String" 15 "java/lang/String" "coder" "B"]
def tab : Cond := tabOf yN yB 1 (some .byte) site
def P (x : Addr) (cd z : Int32) (args : Array Value) (s : State) : Prop := args = #[.ref x] ∧ Has x "java/lang/String" "coder" "B" (.int cd) s ∧ (cd = 0 ∨ cd = 1) ∧ StaticIs s "java/lang/String" "COMPACT_STRINGS" "Z" (.int z) ∧ ¬ z = 0
def E (cd : Int32) (r : Option Value) (s u : State) : Prop := XT.PureE (some (.int cd)) r s u
theorem law (l : Launch) (x : Addr) (cd z : Int32) : Law l yN 1 0 0 0 yB 1 (some .byte) site (P x cd z) (E cd) [] 0 0 := by
  refine Law.of_walk (plainFor_of_name (by decide +kernel)) (by decide +kernel) (by decide +kernel) (by decide) (fun _ _ h => by rw [h.1]; rfl) (fun _ U U' hal hh h => ⟨h.1, h.2.1.mv hal hh, h.2.2.1, h.2.2.2.1.there hal hh, h.2.2.2.2⟩) (fun r U U' V V' h1 hal h2 h => XT.PureE.mv r U U' V V' h1 hal h2 h) ?_
  intro p e s m args below meth c s₁ X0 hexec hbytes hml hret hlk hnm hown hh0 W hP
  obtain ⟨rfl, hx, hc, s1, hz⟩ := hP
  have c1 : Steps p.tables e below (s₁.setTop (entryFrame m #[.ref x] 1)) (s₁.setTop (mkF m 0 #[.val (.ref x)] [])) := entry rfl
  obtain ⟨T2, X2, q2, st2⟩ := X0.sget hexec hown (wk W (.fieldLink "java/lang/String" 38 "java/lang/String" "COMPACT_STRINGS" "Z")) s1 (fun _ _ h => by rw [hh0]; exact h) (g := (mkF m 0 #[.val (.ref x)] [])) rfl (hb hbytes d0)
  have hh2 := q2.trans hh0
  have c3 : Steps p.tables e below (s₁.setTop (entryFrame m #[.ref x] 1)) (T2.setTop (mkF m 7 #[.val (.ref x)] [.ref x])) := (c1.trans (st2 _ (Steps.refl _))).trans (by
    refine XS.ifNo X2.here hexec rfl (hb hbytes d3) rfl (i0_eq_f hz) ?_
    refine XS.aloadN X2.here hexec rfl (hb hbytes d6) rfl rfl ?_
    exact Steps.refl _)
  obtain ⟨T4, X4, q4, st4⟩ := X2.hget hexec hown (wk W (.fieldLink "java/lang/String" 15 "java/lang/String" "coder" "B")) (hx.mv X2.warmed.alike hh2) (g := (mkF m 7 #[.val (.ref x)] [.ref x])) rfl (rest := []) rfl (hb hbytes d7)
  have c5 : Steps p.tables e below (s₁.setTop (entryFrame m #[.ref x] 1)) (T4.setTop (mkF m 14 #[.val (.ref x)] [.int cd])) := (c3.trans (st4 _ (Steps.refl _))).trans (by
    refine XS.goto X4.here hexec rfl (pc0 := 10) rfl (hb hbytes d10) (by decide) rfl ?_
    exact Steps.refl _)
  exact ⟨T4, some (.int cd), _, _, _, X4, rfl, rfl, rfl, (fun h => by cases h), ⟨rfl, q4.trans hh2⟩, fun fs hl => c5.trans (X4.ireturnOut hexec hret (by rcases hc with rfl | rfl <;> rfl) (Or.inr (Or.inr (Or.inl rfl))) (hb hbytes d14) hl)⟩
end Cdr
namespace Len
def yN : MethodName := ⟨"java/lang/String", "length", "()I"⟩
abbrev yB : ByteArray := jdk_42_method_54_code
theorem d0 : decode yB 0 = .ok (.aload_n 0, 1) := by decide +kernel
theorem d1 : decode yB 1 = .ok (.getfield 9, 3) := by decide +kernel
theorem d4 : decode yB 4 = .ok (.arraylength, 1) := by decide +kernel
theorem d5 : decode yB 5 = .ok (.aload_n 0, 1) := by decide +kernel
theorem d6 : decode yB 6 = .ok (.invokevirtual 335, 3) := by decide +kernel
theorem d9 : decode yB 9 = .ok (.ishr, 1) := by decide +kernel
theorem d10 : decode yB 10 = .ok (.ireturn, 1) := by decide +kernel
def site : List Cond := [.fieldLink "java/lang/String" 9 "java/lang/String" "value" "[B", Cdr.tab] ++ virtW "java/lang/String" 335 "java/lang/String" Cdr.yN Cdr.yN
def tab : Cond := tabOf yN yB 1 (some .int) site
def P (x t : Addr) (V : Cell) (cd : Int32) (n : Nat) (f : Nat → Int32) (z : Int32) (args : Array Value) (s : State) : Prop := args = #[.ref x] ∧ Txt x t V cd n f s ∧ StaticIs s "java/lang/String" "COMPACT_STRINGS" "Z" (.int z) ∧ ¬ z = 0
def E (n : Nat) (r : Option Value) (s u : State) : Prop := XT.PureE (some (.int (Int32.ofNat n))) r s u
/-- length() of a String of n chars, in either coding -/
theorem law (l : Launch) (x t : Addr) (V : Cell) (cd : Int32) (n : Nat) (f : Nat → Int32) (z : Int32) : Law l yN 1 0 1 13 yB 1 (some .int) site (P x t V cd n f z) (E n) [] 0 0 := by
  refine Law.of_walk (plainFor_of_name (by decide +kernel)) (by decide +kernel) (by decide +kernel) (by decide) (fun _ _ h => by rw [h.1]; rfl) (fun _ U U' hal hh h => ⟨h.1, h.2.1.mv hal hh, h.2.2.1.there hal hh, h.2.2.2⟩) (fun r U U' V V' h1 hal h2 h => XT.PureE.mv r U U' V V' h1 hal h2 h) ?_
  intro p e s m args below meth c s₁ X0 hexec hbytes hml hret hlk hnm hown hh0 W hP
  obtain ⟨rfl, hx, s1, hz⟩ := hP
  have v31 := hx.2.2.2.1.2.2.2
  have c1 : Steps p.tables e below (s₁.setTop (entryFrame m #[.ref x] 1)) (s₁.setTop (mkF m 1 #[.val (.ref x)] [.ref x])) := Steps.trans (entry rfl) (by
    show Steps p.tables e below (s₁.setTop (mkF m 0 #[.val (.ref x)] [])) _
    refine XS.aloadN X0.here hexec rfl (hb hbytes d0) rfl rfl ?_
    exact Steps.refl _)
  obtain ⟨T2, X2, q2, st2⟩ := X0.hget hexec hown (wk W (.fieldLink "java/lang/String" 9 "java/lang/String" "value" "[B")) (hx.mv X0.warmed.alike hh0).2.1 (g := (mkF m 1 #[.val (.ref x)] [.ref x])) rfl (rest := []) rfl (hb hbytes d1)
  have hh2 := q2.trans hh0
  have hx2 := hx.mv X2.warmed.alike hh2
  have c3 : Steps p.tables e below (s₁.setTop (entryFrame m #[.ref x] 1)) (T2.setTop (mkF m 6 #[.val (.ref x)] [.ref x, .int (Int32.ofNat V.slots.size)])) := (c1.trans (st2 _ (Steps.refl _))).trans (by
    refine X2.alen hexec hx2.2.2.2.1 rfl rfl (hb hbytes d4) ?_
    refine XS.aloadN X2.here hexec rfl (hb hbytes d5) rfl rfl ?_
    exact Steps.refl _)
  obtain ⟨v4, T4, X4, E4, g4⟩ := X2.callV hexec (Cdr.law l x cd z) hown (wks W (virtW "java/lang/String" 335 "java/lang/String" Cdr.yN Cdr.yN)) rfl (by decide) (wk W Cdr.tab) (W := 1) (Nat.le_of_ble_eq_true rfl) (Nat.le_of_ble_eq_true rfl) (Nat.le_refl _) (Nat.le_refl _) (hx2.1.fc X2.warmed.alike) hx2.1.is (g := (mkF m 6 #[.val (.ref x)] [.ref x, .int (Int32.ofNat V.slots.size)])) rfl (by rw [hml]; rfl) c3 (argsL := []) (rest := [.int (Int32.ofNat V.slots.size)]) rfl rfl (by show 2 * 0 + (1 + 0) ≤ _; decide) (hb hbytes d6) (⟨rfl, hx2.2.2.1, hx.2.2.2.2.1.cd, s1.there X2.warmed.alike hh2, hz⟩)
  obtain ⟨rfl, q4⟩ := E4
  have c5 : Steps p.tables e below (s₁.setTop (entryFrame m #[.ref x] 1)) (T4.setTop (mkF m 10 #[.val (.ref x)] [.int (Int32.ofNat V.slots.size >>> (cd &&& 31))])) := Steps.trans g4 (by
    refine ishr X4.here hexec rfl (hb hbytes d9) rfl ?_
    exact Steps.refl _)
  rw [hx.2.2.2.2.1.len v31] at c5
  exact ⟨T4, some (.int (Int32.ofNat n)), _, _, _, X4, rfl, rfl, rfl, (fun h => by cases h), ⟨rfl, q4.trans hh2⟩, fun fs hl => c5.trans (X4.ireturnOut hexec hret rfl (Or.inl rfl) (hb hbytes d10) hl)⟩
theorem pays {l : Launch} {R : Room} {p : Program} {e : Env} {below : List Frame} {s : State} {sargs : Array Value} {len W : Nat} (x t : Addr) (V : Cell) (cd : Int32) (n : Nat) (f : Nat → Int32) (z : Int32) (htab : tab.before sargs s = true) (hfr : 2 ≤ R.frames) (hlo : W + 25 ≤ R.locals) :
    Back l R p e below s sargs yN len W (fun A₁ a₁ => A₁.cells + 0 ≤ R.cells ∧ A₁.slots + 0 ≤ R.slots ∧ P x t V cd n f z a₁ A₁.U) (fun A₁ _ v₁ B₁ => E n v₁ A₁.U B₁.U ∧ B₁.locs = A₁.locs ++ [] ∧ B₁.cells = A₁.cells + 0 ∧ B₁.slots = A₁.slots + 0) :=
  (law l x t V cd n f z).pays htab hfr (by omega)
end Len
namespace IsL
def yN : MethodName := ⟨"java/lang/String", "isLatin1", "()Z"⟩
abbrev yB : ByteArray := jdk_42_method_154_code
theorem d0 : decode yB 0 = .ok (.getstatic 38, 3) := by decide +kernel
theorem d3 : decode yB 3 = .ok (.ifCond (.eq) 14, 3) := by decide +kernel
theorem d6 : decode yB 6 = .ok (.aload_n 0, 1) := by decide +kernel
theorem d7 : decode yB 7 = .ok (.getfield 15, 3) := by decide +kernel
theorem d10 : decode yB 10 = .ok (.ifCond (.ne) 7, 3) := by decide +kernel
theorem d13 : decode yB 13 = .ok (.iconst 1, 1) := by decide +kernel
theorem d14 : decode yB 14 = .ok (.goto 4, 3) := by decide +kernel
theorem d17 : decode yB 17 = .ok (.iconst 0, 1) := by decide +kernel
theorem d18 : decode yB 18 = .ok (.ireturn, 1) := by decide +kernel
def site : List Cond := [.fieldLink "java/lang/String" 38 "java/lang/String" "COMPACT_STRINGS" "Z", .fieldLink "java/lang/String" 15 "java/lang/String" "coder" "B"]
def tab : Cond := tabOf yN yB 1 (some .boolean) site
def P (x : Addr) (cd z : Int32) (args : Array Value) (s : State) : Prop := args = #[.ref x] ∧ Has x "java/lang/String" "coder" "B" (.int cd) s ∧ (cd = 0 ∨ cd = 1) ∧ StaticIs s "java/lang/String" "COMPACT_STRINGS" "Z" (.int z) ∧ ¬ z = 0
def E (cd : Int32) (r : Option Value) (s u : State) : Prop := XT.PureE (some (.int (1 - cd))) r s u
theorem law (l : Launch) (x : Addr) (cd z : Int32) : Law l yN 1 0 0 0 yB 1 (some .boolean) site (P x cd z) (E cd) [] 0 0 := by
  refine Law.of_walk (plainFor_of_name (by decide +kernel)) (by decide +kernel) (by decide +kernel) (by decide) (fun _ _ h => by rw [h.1]; rfl) (fun _ U U' hal hh h => ⟨h.1, h.2.1.mv hal hh, h.2.2.1, h.2.2.2.1.there hal hh, h.2.2.2.2⟩) (fun r U U' V V' h1 hal h2 h => XT.PureE.mv r U U' V V' h1 hal h2 h) ?_
  intro p e s m args below meth c s₁ X0 hexec hbytes hml hret hlk hnm hown hh0 W hP
  obtain ⟨rfl, hx, hc, s1, hz⟩ := hP
  have c1 : Steps p.tables e below (s₁.setTop (entryFrame m #[.ref x] 1)) (s₁.setTop (mkF m 0 #[.val (.ref x)] [])) := entry rfl
  obtain ⟨T2, X2, q2, st2⟩ := X0.sget hexec hown (wk W (.fieldLink "java/lang/String" 38 "java/lang/String" "COMPACT_STRINGS" "Z")) s1 (fun _ _ h => by rw [hh0]; exact h) (g := (mkF m 0 #[.val (.ref x)] [])) rfl (hb hbytes d0)
  have hh2 := q2.trans hh0
  have c3 : Steps p.tables e below (s₁.setTop (entryFrame m #[.ref x] 1)) (T2.setTop (mkF m 7 #[.val (.ref x)] [.ref x])) := (c1.trans (st2 _ (Steps.refl _))).trans (by
    refine XS.ifNo X2.here hexec rfl (hb hbytes d3) rfl (i0_eq_f hz) ?_
    refine XS.aloadN X2.here hexec rfl (hb hbytes d6) rfl rfl ?_
    exact Steps.refl _)
  obtain ⟨T4, X4, q4, st4⟩ := X2.hget hexec hown (wk W (.fieldLink "java/lang/String" 15 "java/lang/String" "coder" "B")) (hx.mv X2.warmed.alike hh2) (g := (mkF m 7 #[.val (.ref x)] [.ref x])) rfl (rest := []) rfl (hb hbytes d7)
  have c5 : Steps p.tables e below (s₁.setTop (entryFrame m #[.ref x] 1)) (T4.setTop (mkF m 10 #[.val (.ref x)] [.int cd])) := c3.trans (st4 _ (Steps.refl _))
  have c6 : Steps p.tables e below (s₁.setTop (entryFrame m #[.ref x] 1)) (T4.setTop (mkF m 18 #[.val (.ref x)] [.int (1 - cd)])) := by
    rcases hc with rfl | rfl
    · exact c5.trans (by
        refine XS.ifNo X4.here hexec rfl (hb hbytes d10) rfl (i0_ne_f rfl) ?_
        refine iconstV X4.here hexec rfl 1 (hb hbytes d13) (by decide) ?_
        refine XS.goto X4.here hexec rfl (pc0 := 14) rfl (hb hbytes d14) (by decide) rfl ?_
        exact Steps.refl _)
    · exact c5.trans (by
        refine XS.ifYes X4.here hexec rfl (pc0 := 10) rfl (hb hbytes d10) rfl (i0_ne_t (by decide)) (by decide) rfl ?_
        refine iconstV X4.here hexec rfl 0 (hb hbytes d17) (by decide) ?_
        exact Steps.refl _)
  exact ⟨T4, some (.int (1 - cd)), _, _, _, X4, rfl, rfl, rfl, (fun h => by cases h), ⟨rfl, q4.trans hh2⟩, fun fs hl => c6.trans (X4.ireturnOut hexec hret (by rcases hc with rfl | rfl <;> rfl) (Or.inr (Or.inl rfl)) (hb hbytes d18) hl)⟩
end IsL
namespace LChA
def yN : MethodName := ⟨"java/lang/StringLatin1", "charAt", "([BI)C"⟩
abbrev yB : ByteArray := jdk_43_method_2_code
theorem d0 : decode yB 0 = .ok (.iload_n 1, 1) := by decide +kernel
theorem d1 : decode yB 1 = .ok (.aload_n 0, 1) := by decide +kernel
theorem d2 : decode yB 2 = .ok (.arraylength, 1) := by decide +kernel
theorem d3 : decode yB 3 = .ok (.invokestatic 9, 3) := by decide +kernel
theorem d6 : decode yB 6 = .ok (.aload_n 0, 1) := by decide +kernel
theorem d7 : decode yB 7 = .ok (.iload_n 1, 1) := by decide +kernel
theorem d8 : decode yB 8 = .ok (.baload, 1) := by decide +kernel
theorem d9 : decode yB 9 = .ok (.sipush 255, 3) := by decide +kernel
theorem d12 : decode yB 12 = .ok (.iand, 1) := by decide +kernel
theorem d13 : decode yB 13 = .ok (.i2c, 1) := by decide +kernel
theorem d14 : decode yB 14 = .ok (.ireturn, 1) := by decide +kernel
def site : List Cond := [JO.Str_checkIndex.tab] ++ staticW "java/lang/StringLatin1" 9 JO.Str_checkIndex.yN
def tab : Cond := tabOf yN yB 2 (some .char) site
def P (t : Addr) (V : Cell) (i : Nat) (u : Int32) (fm : Value) (args : Array Value) (s : State) : Prop := args = #[.ref t, .int (Int32.ofNat i)] ∧ XT.Arr .byte t V s ∧ V.slots[i]? = some (.int u) ∧ (StaticIs s "jdk/internal/util/Preconditions" "SIOOBE_FORMATTER" "Ljava/util/function/BiFunction;" fm ∧ fm.isRef = true)
def E (u : Int32) (r : Option Value) (s w : State) : Prop := XT.PureE (some (.int (chr8 u))) r s w
theorem law (l : Launch) (t : Addr) (V : Cell) (i : Nat) (u : Int32) (fm : Value) : Law l yN 2 2 2 27 yB 2 (some .char) site (P t V i u fm) (E u) [] 0 0 := by
  refine Law.of_walk (plainFor_of_name (by decide +kernel)) (by decide +kernel) (by decide +kernel) (by decide) (fun _ _ h => by rw [h.1]; rfl) (fun _ U U' hal hh h => ⟨h.1, h.2.1.mv hal hh, h.2.2.1, h.2.2.2.1.there hal hh, h.2.2.2.2⟩) (fun r U U' V V' h1 hal h2 h => XT.PureE.mv r U U' V V' h1 hal h2 h) ?_
  intro p e s m args below meth c s₁ X0 hexec hbytes hml hret hlk hnm hown hh0 W hP
  obtain ⟨rfl, hV, hu, s1, rf⟩ := hP
  have v31 := hV.2.2.2
  have hi : i < V.slots.size := (Array.getElem?_eq_some_iff.mp hu).1
  have c1 : Steps p.tables e below (s₁.setTop (entryFrame m #[.ref t, .int (Int32.ofNat i)] 2)) (s₁.setTop (mkF m 0 #[.val (.ref t), .val (.int (Int32.ofNat i))] [])) := entry rfl
  have c2 : Steps p.tables e below (s₁.setTop (entryFrame m #[.ref t, .int (Int32.ofNat i)] 2)) (s₁.setTop (mkF m 3 #[.val (.ref t), .val (.int (Int32.ofNat i))] [.int (Int32.ofNat V.slots.size), .int (Int32.ofNat i)])) := c1.trans (by
    refine XS.iloadN X0.here hexec rfl (hb hbytes d0) rfl ?_
    refine XS.aloadN X0.here hexec rfl (hb hbytes d1) rfl rfl ?_
    refine X0.alen hexec (hV.mv X0.warmed.alike hh0) rfl rfl (hb hbytes d2) ?_
    exact Steps.refl _)
  obtain ⟨v3, T3, X3, E3, g3⟩ := X0.callS hexec (JO.Str_checkIndex.law l (Int32.ofNat i) (Int32.ofNat V.slots.size) fm) hown (wks W (staticW "java/lang/StringLatin1" 9 JO.Str_checkIndex.yN)) (wk W JO.Str_checkIndex.tab) (W := 0) (Nat.le_of_ble_eq_true rfl) (Nat.le_of_ble_eq_true rfl) (Nat.le_refl _) (Nat.le_refl _) (g := (mkF m 3 #[.val (.ref t), .val (.int (Int32.ofNat i))] [.int (Int32.ofNat V.slots.size), .int (Int32.ofNat i)])) rfl (by rw [hml]; rfl) c2 (argsL := [.int (Int32.ofNat i), .int (Int32.ofNat V.slots.size)]) (rest := []) rfl rfl (by show 2 * 0 + 0 ≤ _; decide) (hb hbytes d3) (⟨rfl, rf, s1.there X0.warmed.alike hh0, Int32.ofNat_not_neg (by omega), lt32 v31 hi⟩)
  obtain ⟨rfl, q3⟩ := E3
  have hh3 := q3.trans hh0
  have c4 : Steps p.tables e below (s₁.setTop (entryFrame m #[.ref t, .int (Int32.ofNat i)] 2)) (T3.setTop (mkF m 14 #[.val (.ref t), .val (.int (Int32.ofNat i))] [.int (chr8 u)])) := Steps.trans g3 (by
    refine XS.aloadN X3.here hexec rfl (hb hbytes d6) rfl rfl ?_
    refine XS.iloadN X3.here hexec rfl (hb hbytes d7) rfl ?_
    refine X3.aget hexec (hV.mv X3.warmed.alike hh3) rfl hu rfl rfl (hb hbytes d8) ?_
    refine sipushV X3.here hexec rfl 255 (hb hbytes d9) (by decide) ?_
    refine XS.iand X3.here hexec rfl (hb hbytes d12) rfl ?_
    refine i2c X3.here hexec rfl (hb hbytes d13) rfl ?_
    exact Steps.refl _)
  exact ⟨T3, some (.int (chr8 u)), _, _, _, X3, rfl, rfl, rfl, (fun h => by cases h), ⟨rfl, hh3⟩, fun fs hl => c4.trans (X3.ireturnOut hexec hret (narrow_c _) (Or.inr (Or.inr (Or.inr (Or.inl rfl)))) (hb hbytes d14) hl)⟩
end LChA
end StrChars
namespace StrChars.Road
open Jvm Sem ClassFile Op Lib Jvm.Stand Jvm.Free Jvm.Free.XT
open Jvm.Lib.Cold (StaticIs)
theorem consq {a : Array Value} {s : State} {c : Jvm.Cond} {L : List Jvm.Cond} (h0 : c.before a s = true) (h : ∀ w ∈ L, w.before a s = true) : ∀ w ∈ c :: L, w.before a s = true := fun w hw => (List.mem_cons.mp hw).elim (fun e => e ▸ h0) (h w)
/-- the words of String.length(), either coding -/
abbrev wordsLen : List Jvm.Cond := [.code Len.yN Len.yB 1 (some .int), .initialized ST, .fieldLink ST 9 ST "value" "[B", .fieldLink ST 38 ST "COMPACT_STRINGS" "Z", .fieldLink ST 15 ST "coder" "B", .code Cdr.yN Cdr.yB 1 (some .byte), .methodLink ST 335 Cdr.yN, .declares Cdr.yN, .selects ST Cdr.yN Cdr.yN, .instanceMethod Cdr.yN]
theorem tabLen_of {a : Array Value} {s : State} (h : ∀ w ∈ wordsLen, w.before a s = true) : Len.tab.before a s = true := by
  have hc : Cdr.tab.before a s = true := unparts (wk h (.code Cdr.yN Cdr.yB 1 (some .byte))) (wks h (.initialized Cdr.yN.cls :: Cdr.site))
  have q := consq hc h
  exact unparts (wk q (.code Len.yN Len.yB 1 (some .int))) (wks q (.initialized Len.yN.cls :: Len.site))
theorem movedLen {Z s : State} {a0 args : Array Value} (hZ : Z.Warmed39 s.vm) (hw : ∀ d ∈ wordsLen, d.before a0 Z = true) : ∀ d ∈ wordsLen, d.before args s = true := fun d hd => by
  have q := hw d hd
  have t : ∀ d ∈ wordsLen, d = .arrayClass .byte ∨ (d.onTables && d.keepsFace) = true := by decide +kernel
  rcases t d hd with rfl | t
  · exact RoadKit.mvA hZ q
  · exact RoadKit.mv hZ q t
/-- the bytes of the chars cs, low before high -/
def wideBytes : List Int32 → List Value
  | [] => []
  | c :: cs => .int (lo8 c) :: .int (hi8 c) :: wideBytes cs
theorem wide_lo (d : Value) : ∀ (cs : List Int32) (j : Nat), j < cs.length → (wideBytes cs).getD (2 * j) d = .int (lo8 (cs.getD j 0))
  | [], j, h => absurd h (Nat.not_lt_zero j)
  | c :: cs, 0, _ => rfl
  | c :: cs, j + 1, h => by
    have q := wide_lo d cs j (by simpa using h)
    rw [show 2 * (j + 1) = 2 * j + 1 + 1 from by omega]
    simpa [wideBytes] using q
theorem wide_hi (d : Value) : ∀ (cs : List Int32) (j : Nat), j < cs.length → (wideBytes cs).getD (2 * j + 1) d = .int (hi8 (cs.getD j 0))
  | [], j, h => absurd h (Nat.not_lt_zero j)
  | c :: cs, 0, _ => rfl
  | c :: cs, j + 1, h => by
    have q := wide_hi d cs j (by simpa using h)
    rw [show 2 * (j + 1) + 1 = 2 * j + 1 + 1 + 1 from by omega]
    simpa [wideBytes] using q
theorem low_at (d : Value) (cs : List Int32) (j : Nat) (h : j < cs.length) : (cs.map fun c => Value.int (lo8 c)).getD j d = .int (lo8 (cs.getD j 0)) := by
  simp [List.getD_eq_getElem?_getD, h]
/-- an array of N2 bytes vs codes the chars cs by the coder cd -/
def CodA (cs : List Int32) (cd N2 : Int32) (vs : List Value) : Prop := (cd = 0 ∧ N2 = Int32.ofNat cs.length ∧ vs = (cs.map fun c => Value.int (lo8 c)) ∧ ∀ c ∈ cs, ¬ 255 < c) ∨ (cd = 1 ∧ N2 = Int32.ofNat (2 * cs.length) ∧ vs = wideBytes cs ∧ ∃ c ∈ cs, 255 < c)
theorem CodA.cod {cs : List Int32} {cd N2 : Int32} {vs : List Value} {V : Cell} (h : CodA cs cd N2 vs) (hn : 2 * cs.length < 2 ^ 31) (hs : V.slots.size = N2.toNatClampNeg) (hv : RoadKit.Has V vs (.int 0)) : Cod cd cs.length (fun j => cs.getD j 0) V := by
  rcases h with ⟨rfl, rfl, rfl, h⟩ | ⟨rfl, rfl, rfl, c, hc, hw⟩
  · rw [n32 (by omega)] at hs
    exact Or.inl ⟨rfl, hs, fun j hj => ⟨by rw [hv j (by omega), low_at _ _ _ hj], by
      have e : cs.getD j 0 = cs[j] := by simp [List.getD_eq_getElem?_getD, hj]
      show ¬ 255 < cs.getD j 0
      rw [e]; exact h _ (List.getElem_mem _)⟩⟩
  · rw [n32 (by omega)] at hs
    obtain ⟨j, hj, rfl⟩ := List.getElem_of_mem hc
    exact Or.inr ⟨rfl, hs, fun j hj => ⟨by rw [hv _ (by omega), wide_lo _ _ _ hj], by rw [hv _ (by omega), wide_hi _ _ _ hj]⟩, j, hj, by
      have e : cs.getD j 0 = cs[j] := by simp [List.getD_eq_getElem?_getD, hj]
      show 255 < cs.getD j 0
      rw [e]; exact hw⟩
/-- an object of exactly java/lang/String, its two fields found: as the laws ask it -/
theorem strObj {Z U : State} {a0 : Array Value} {kI : Nat} (wi : (Jvm.Cond.instantiable ST kI).before a0 Z = true) (al : Z.vm.Alike U.vm) {x : Addr} {v0 c0 : Value} (E : RoadKit.Exa Z U.heap x ST) (V : RoadKit.Fld Z U.heap x ST "value" "[B" v0) (C : RoadKit.Fld Z U.heap x ST "coder" "B" c0) :
    ∃ (D : Cell) (fV fC : Field), Blank ST x D U ∧ Found ST "value" "[B" fV U ∧ Found ST "coder" "B" fC U ∧ D.slots[fV.slot]? = some v0 ∧ D.slots[fC.slot]? = some c0 ∧ RoadKit.slotOf Z ST "value" "[B" = fV.slot ∧ RoadKit.slotOf Z ST "coder" "B" = fC.slot := by
  obtain ⟨D, cfV, kV, iV, fV, hD, gV, stV, knV, obV, asV, slV⟩ := V
  obtain ⟨D', cfC, kC, iC, fC, hD', gC, stC, -, -, asC, slC⟩ := C
  cases hD.symm.trans hD'
  obtain ⟨D2, kD, e1, e2, e3, e4, e5⟩ := E
  cases hD.symm.trans e1
  obtain ⟨c2, k2, i1, i2, i3, -⟩ := Cond.instantiable_spec wi
  cases e2.symm.trans i1
  cases e3.symm.trans i2
  obtain ⟨kU, u1, u2⟩ := al.2.2 _ _ e3
  exact ⟨D, fV, fC, ⟨hD, ⟨knV, fun q hq => by rw [hq] at obV; cases obV⟩, by rw [al.findClass]; exact e2, kU, u1, by rw [u2]; exact i3, by rw [u2]; exact e5 i3⟩, ⟨SBG.found_only al ⟨cfV, kV, iV, gV⟩, stV⟩, ⟨SBG.found_only al ⟨cfC, kC, iC, gC⟩, stC⟩, slV, slC, by simp [RoadKit.slotOf, gV], by simp [RoadKit.slotOf, gC]⟩
theorem sta_is {Z U : State} (al : Z.vm.Alike U.vm) {C n d : String} {v : Value} (S : RoadKit.Sta Z U.heap C n d v) : StaticIs U C n d v := by
  obtain ⟨cfS, iS, kS, fS, st, cS, t1, t2, t3, t4, t5, t6, t7⟩ := S
  exact StaticIs.there (s := { Z with heap := U.heap }) ⟨cfS, iS, kS, fS, st, cS, t1, t2, t3, t4, t5, (fun q => by rw [q] at t6; cases t6), t7⟩ al rfl
/-- **length() OF SUCH A STRING** -/
theorem lenW {p : Program} {l : Launch} {e : Env} {R : Room} {s : State} {args : Array Value} {below : List Frame} {len W : Nat} {Z : State} {a0 : Array Value} {h : Heap} (hZ : Z.Warmed39 s.vm) (hw : ∀ d ∈ wordsLen, d.before a0 Z = true) {kI : Nat} (wi : (Jvm.Cond.instantiable ST kI).before a0 Z = true)
    {x t : Addr} {kb : ClassId} {cs : List Int32} {cd N2 z : Int32} {vs : List Value} (E : RoadKit.Exa Z h x ST) (V : RoadKit.Fld Z h x ST "value" "[B" (.ref t)) (C : RoadKit.Fld Z h x ST "coder" "B" (.int cd)) (K : RoadKit.Arv Z h t kb .byte N2 vs (.int 0)) (hc : CodA cs cd N2 vs) (hb : ∀ c ∈ cs, ¬ c < 0 ∧ ¬ (65535 : Int32) < c)
    (S : RoadKit.Sta Z h ST "COMPACT_STRINGS" "Z" (.int z)) (hz : ¬ z = 0) (l2 : cs.length ≤ 4000) (hfr : 2 ≤ R.frames) (hlo : W + 25 ≤ R.locals) :
    Back l R p e below s args (⟨"java/lang/String", "length", "()I"⟩ : MethodName) len W (fun P a => a = #[.ref x] ∧ P.U.heap = h ∧ P.cells + 0 ≤ R.cells ∧ P.slots + 0 ≤ R.slots)
      (fun P _ v B => ∃ L, (v = some (.int (Int32.ofNat cs.length)) ∧ L = [] ∧ B.U.heap = h) ∧ B.locs = P.locs ++ L ∧ B.cells = P.cells + 0 ∧ B.slots = P.slots + 0) := by
  obtain ⟨A, K1, K2, K3, K4, K5, K6⟩ := K
  have hcod := hc.cod (by omega) K3 K5
  intro m meth c P g ig mk a X hg hsize hdg hW hn hp'
  obtain ⟨rfl, rfl, r1, r2⟩ := hp'
  have al : Z.vm.Alike P.U.vm := hZ.alike.trans X.warmed.alike
  obtain ⟨D, fV, fC, hB, F1, F2, g1, g2, -, -⟩ := strObj wi al E V C
  have hx : Txt x t A cd cs.length (fun j => cs.getD j 0) P.U := ⟨⟨_, hB.2.2.1, D, hB.1, rfl, by cases q : D.vm <;> first | rfl | exact absurd q (hB.2.1.2 _)⟩, Has.of hB F1 g1, Has.of hB F2 g2, ⟨K1.1, State.isArrayOf_alike al K1.2.1, K1.2.2, by rcases hcod with ⟨-, q, -⟩ | ⟨-, q, -⟩ <;> omega⟩, hcod, fun j hj => by
    have e : cs.getD j 0 = cs[j] := by simp [List.getD_eq_getElem?_getD, hj]
    show ¬ cs.getD j 0 < 0 ∧ ¬ 65535 < cs.getD j 0
    rw [e]; exact hb _ (List.getElem_mem _)⟩
  obtain ⟨v, B, X', ⟨⟨hv, hh⟩, hl, hk, hs⟩, st⟩ := Len.pays x t A cd cs.length (fun j => cs.getD j 0) z (tabLen_of (movedLen hZ hw)) hfr hlo m meth c P g ig mk _ X hg hsize hdg hW hn ⟨r1, r2, rfl, hx, sta_is al S, hz⟩
  exact ⟨v, B, X', ⟨[], ⟨hv, rfl, hh⟩, hl, hk, hs⟩, st⟩
end StrChars.Road
namespace StrChars.Road
open Jvm Sem ClassFile Op Lib Jvm.Stand Jvm.Free Jvm.Free.XT
open Jvm.Lib.Cold (StaticIs)
/-- the road's facts of a String, as the laws ask it -/
theorem txt_of {Z U : State} {a0 : Array Value} {kI : Nat} (wi : (Jvm.Cond.instantiable ST kI).before a0 Z = true) (al : Z.vm.Alike U.vm) {x t : Addr} {kb : ClassId} {cs : List Int32} {cd N2 : Int32} {vs : List Value} (E : RoadKit.Exa Z U.heap x ST) (V : RoadKit.Fld Z U.heap x ST "value" "[B" (.ref t)) (C : RoadKit.Fld Z U.heap x ST "coder" "B" (.int cd)) (K : RoadKit.Arv Z U.heap t kb .byte N2 vs (.int 0)) (hc : CodA cs cd N2 vs) (hb : ∀ c ∈ cs, ¬ c < 0 ∧ ¬ (65535 : Int32) < c) (l2 : cs.length ≤ 4000) :
    ∃ A, Txt x t A cd cs.length (fun j => cs.getD j 0) U := by
  obtain ⟨A, K1, K2, K3, K4, K5, K6⟩ := K
  have hcod := hc.cod (by omega) K3 K5
  obtain ⟨D, fV, fC, hB, F1, F2, g1, g2, -, -⟩ := strObj wi al E V C
  exact ⟨A, ⟨_, hB.2.2.1, D, hB.1, rfl, by cases q : D.vm <;> first | rfl | exact absurd q (hB.2.1.2 _)⟩, Has.of hB F1 g1, Has.of hB F2 g2, ⟨K1.1, State.isArrayOf_alike al K1.2.1, K1.2.2, by rcases hcod with ⟨-, q, -⟩ | ⟨-, q, -⟩ <;> omega⟩, hcod, fun j hj => by
    have e : cs.getD j 0 = cs[j] := by simp [List.getD_eq_getElem?_getD, hj]
    show ¬ cs.getD j 0 < 0 ∧ ¬ 65535 < cs.getD j 0
    rw [e]; exact hb _ (List.getElem_mem _)⟩
end StrChars.Road
namespace StrChars
open Jvm Sem ClassFile Op Lib Jvm.Stand Jvm.Free.XT Jvm.Free.ALB Jvm.Free.JM Jvm.Free
open Jvm.Lib.Cold (StaticIs)
namespace ChN
def yN : MethodName := ⟨"java/lang/String", "charAt", "(I)C"⟩
abbrev yB : ByteArray := jdk_42_method_56_code
theorem d0 : decode yB 0 = .ok (.aload_n 0, 1) := by decide +kernel
theorem d1 : decode yB 1 = .ok (.invokevirtual 492, 3) := by decide +kernel
theorem d4 : decode yB 4 = .ok (.ifCond (.eq) 12, 3) := by decide +kernel
theorem d7 : decode yB 7 = .ok (.aload_n 0, 1) := by decide +kernel
theorem d8 : decode yB 8 = .ok (.getfield 9, 3) := by decide +kernel
theorem d11 : decode yB 11 = .ok (.iload_n 1, 1) := by decide +kernel
theorem d12 : decode yB 12 = .ok (.invokestatic 495, 3) := by decide +kernel
theorem d15 : decode yB 15 = .ok (.ireturn, 1) := by decide +kernel
def site : List Cond := [.fieldLink "java/lang/String" 9 "java/lang/String" "value" "[B", IsL.tab, LChA.tab] ++ virtW "java/lang/String" 492 "java/lang/String" IsL.yN IsL.yN ++ staticW "java/lang/String" 495 LChA.yN
def tab : Cond := tabOf yN yB 2 (some .char) site
def P (x t : Addr) (V : Cell) (n : Nat) (f : Nat → Int32) (z : Int32) (fm : Value) (i : Nat) (args : Array Value) (s : State) : Prop := args = #[.ref x, .int (Int32.ofNat i)] ∧ Txt x t V 0 n f s ∧ i < n ∧ StaticIs s "java/lang/String" "COMPACT_STRINGS" "Z" (.int z) ∧ ¬ z = 0 ∧ StaticIs s "jdk/internal/util/Preconditions" "SIOOBE_FORMATTER" "Ljava/util/function/BiFunction;" fm ∧ fm.isRef = true
def E (f : Nat → Int32) (i : Nat) (r : Option Value) (s u : State) : Prop := XT.PureE (some (.int (f i))) r s u
/-- charAt(i) of a Latin-1 String of n chars, i < n: f i -/
theorem law (l : Launch) (x t : Addr) (V : Cell) (n : Nat) (f : Nat → Int32) (z : Int32) (fm : Value) (i : Nat) : Law l yN 2 1 3 40 yB 2 (some .char) site (P x t V n f z fm i) (E f i) [] 0 0 := by
  refine Law.of_walk (plainFor_of_name (by decide +kernel)) (by decide +kernel) (by decide +kernel) (by decide) (fun _ _ h => by rw [h.1]; rfl) (fun _ U U' hal hh h => ⟨h.1, h.2.1.mv hal hh, h.2.2.1, h.2.2.2.1.there hal hh, h.2.2.2.2.1, h.2.2.2.2.2.1.there hal hh, h.2.2.2.2.2.2⟩) (fun r U U' V V' h1 hal h2 h => XT.PureE.mv r U U' V V' h1 hal h2 h) ?_
  intro p e s m args below meth c s₁ X0 hexec hbytes hml hret hlk hnm hown hh0 W hP
  obtain ⟨rfl, hx, hi, s1, hz, s3, rf⟩ := hP
  have v31 := hx.2.2.2.1.2.2.2
  have hr := hx.2.2.2.2.2 i hi
  have hx0 := hx.mv X0.warmed.alike hh0
  have c1 : Steps p.tables e below (s₁.setTop (entryFrame m #[.ref x, .int (Int32.ofNat i)] 2)) (s₁.setTop (mkF m 1 #[.val (.ref x), .val (.int (Int32.ofNat i))] [.ref x])) := Steps.trans (entry rfl) (by
    show Steps p.tables e below (s₁.setTop (mkF m 0 #[.val (.ref x), .val (.int (Int32.ofNat i))] [])) _
    refine XS.aloadN X0.here hexec rfl (hb hbytes d0) rfl rfl ?_
    exact Steps.refl _)
  obtain ⟨v2, T2, X2, E2, g2⟩ := X0.callV hexec (IsL.law l x 0 z) hown (wks W (virtW "java/lang/String" 492 "java/lang/String" IsL.yN IsL.yN)) rfl (by decide) (wk W IsL.tab) (W := 0) (Nat.le_of_ble_eq_true rfl) (Nat.le_of_ble_eq_true rfl) (Nat.le_refl _) (Nat.le_refl _) (hx0.1.fc X0.warmed.alike) hx0.1.is (g := (mkF m 1 #[.val (.ref x), .val (.int (Int32.ofNat i))] [.ref x])) rfl (by rw [hml]; rfl) c1 (argsL := []) (rest := []) rfl rfl (by show 2 * 0 + 0 ≤ _; decide) (hb hbytes d1) (⟨rfl, hx0.2.2.1, hx.2.2.2.2.1.cd, s1.there X0.warmed.alike hh0, hz⟩)
  obtain ⟨rfl, q2⟩ := E2
  have hh2 := q2.trans hh0
  have hx2 := hx.mv X2.warmed.alike hh2
  obtain ⟨-, k1, k2⟩ | ⟨k0, -⟩ := hx.2.2.2.2.1
  · have c3 : Steps p.tables e below (s₁.setTop (entryFrame m #[.ref x, .int (Int32.ofNat i)] 2)) (T2.setTop (mkF m 8 #[.val (.ref x), .val (.int (Int32.ofNat i))] [.ref x])) := Steps.trans g2 (by
      refine XS.ifNo X2.here hexec rfl (hb hbytes d4) rfl (i0_eq_f (by decide)) ?_
      refine XS.aloadN X2.here hexec rfl (hb hbytes d7) rfl rfl ?_
      exact Steps.refl _)
    obtain ⟨T4, X4, q4, st4⟩ := X2.hget hexec hown (wk W (.fieldLink "java/lang/String" 9 "java/lang/String" "value" "[B")) hx2.2.1 (g := (mkF m 8 #[.val (.ref x), .val (.int (Int32.ofNat i))] [.ref x])) rfl (rest := []) rfl (hb hbytes d8)
    have hh4 := q4.trans hh2
    have c5 : Steps p.tables e below (s₁.setTop (entryFrame m #[.ref x, .int (Int32.ofNat i)] 2)) (T4.setTop (mkF m 12 #[.val (.ref x), .val (.int (Int32.ofNat i))] [.int (Int32.ofNat i), .ref t])) := (c3.trans (st4 _ (Steps.refl _))).trans (by
      refine XS.iloadN X4.here hexec rfl (hb hbytes d11) rfl ?_
      exact Steps.refl _)
    obtain ⟨v6, T6, X6, E6, g6⟩ := X4.callS hexec (LChA.law l t V i (lo8 (f i)) fm) hown (wks W (staticW "java/lang/String" 495 LChA.yN)) (wk W LChA.tab) (W := 0) (Nat.le_of_ble_eq_true rfl) (Nat.le_of_ble_eq_true rfl) (Nat.le_refl _) (Nat.le_refl _) (g := (mkF m 12 #[.val (.ref x), .val (.int (Int32.ofNat i))] [.int (Int32.ofNat i), .ref t])) rfl (by rw [hml]; rfl) c5 (argsL := [.ref t, .int (Int32.ofNat i)]) (rest := []) rfl rfl (by show 2 * 0 + 0 ≤ _; decide) (hb hbytes d12) (⟨rfl, hx.2.2.2.1.mv X4.warmed.alike hh4, (k2 i hi).1, s3.there X4.warmed.alike hh4, rf⟩)
    obtain ⟨rfl, q6⟩ := E6
    rw [chr8_lo8 hr.1 (k2 i hi).2] at g6
    exact ⟨T6, some (.int (f i)), _, _, _, X6, rfl, rfl, rfl, (fun h => by cases h), ⟨rfl, q6.trans hh4⟩, fun fs hl => Steps.trans g6 (X6.ireturnOut hexec hret (narrow_ch hr.1 hr.2) (Or.inr (Or.inr (Or.inr (Or.inl rfl)))) (hb hbytes d15) hl)⟩
  · exact absurd k0 (by decide)
theorem pays {l : Launch} {R : Room} {p : Program} {e : Env} {below : List Frame} {s : State} {sargs : Array Value} {len W : Nat} (x t : Addr) (V : Cell) (n : Nat) (f : Nat → Int32) (z : Int32) (fm : Value) (i : Nat) (htab : tab.before sargs s = true) (hfr : 4 ≤ R.frames) (hlo : W + 53 ≤ R.locals) :
    Back l R p e below s sargs yN len W (fun A₁ a₁ => A₁.cells + 0 ≤ R.cells ∧ A₁.slots + 0 ≤ R.slots ∧ P x t V n f z fm i a₁ A₁.U) (fun A₁ _ v₁ B₁ => E f i v₁ A₁.U B₁.U ∧ B₁.locs = A₁.locs ++ [] ∧ B₁.cells = A₁.cells + 0 ∧ B₁.slots = A₁.slots + 0) :=
  (law l x t V n f z fm i).pays htab hfr (by omega)
end ChN
end StrChars
namespace StrChars.Road
open Jvm Sem ClassFile Op Lib Jvm.Stand Jvm.Free Jvm.Free.XT
open Jvm.Lib.Cold (StaticIs)
/-- the words of String.charAt(int), the Latin-1 road alone -/
abbrev wordsChN : List Jvm.Cond := [.code ChN.yN ChN.yB 2 (some .char), .initialized ST, .fieldLink ST 9 ST "value" "[B", .fieldLink ST 38 ST "COMPACT_STRINGS" "Z", .fieldLink ST 15 ST "coder" "B", .code IsL.yN IsL.yB 1 (some .boolean), .methodLink ST 492 IsL.yN, .declares IsL.yN, .selects ST IsL.yN IsL.yN, .instanceMethod IsL.yN,
  .methodLink ST 495 LChA.yN, .static LChA.yN, .code LChA.yN LChA.yB 2 (some .char), .initialized "java/lang/StringLatin1", .methodLink "java/lang/StringLatin1" 9 JO.Str_checkIndex.yN, .static JO.Str_checkIndex.yN, .code JO.Str_checkIndex.yN JO.Str_checkIndex.yB 2 none,
  .fieldLink ST 1053 "jdk/internal/util/Preconditions" "SIOOBE_FORMATTER" "Ljava/util/function/BiFunction;", .methodLink ST 1059 JC.PreCheck.yN, .static JC.PreCheck.yN, .code JC.PreCheck.yN JC.PreCheck.yB 3 (some .int), .initialized "jdk/internal/util/Preconditions"]
theorem tabChN_of {a : Array Value} {s : State} (h : ∀ w ∈ wordsChN, w.before a s = true) : ChN.tab.before a s = true := by
  have hp : JC.PreCheck.tab.before a s = true := unparts (wk h (.code JC.PreCheck.yN JC.PreCheck.yB 3 (some .int))) (wks h (.initialized JC.PreCheck.yN.cls :: JC.PreCheck.site))
  have qk := consq hp h
  have hk : JO.Str_checkIndex.tab.before a s = true := unparts (wk qk (.code JO.Str_checkIndex.yN JO.Str_checkIndex.yB 2 none)) (wks qk (.initialized JO.Str_checkIndex.yN.cls :: JO.Str_checkIndex.site))
  have ql := consq hk h
  have hl : LChA.tab.before a s = true := unparts (wk ql (.code LChA.yN LChA.yB 2 (some .char))) (wks ql (.initialized LChA.yN.cls :: LChA.site))
  have hi : IsL.tab.before a s = true := unparts (wk h (.code IsL.yN IsL.yB 1 (some .boolean))) (wks h (.initialized IsL.yN.cls :: IsL.site))
  have q := consq hi (consq hl h)
  exact unparts (wk q (.code ChN.yN ChN.yB 2 (some .char))) (wks q (.initialized ChN.yN.cls :: ChN.site))
theorem movedChN {Z s : State} {a0 args : Array Value} (hZ : Z.Warmed39 s.vm) (hw : ∀ d ∈ wordsChN, d.before a0 Z = true) : ∀ d ∈ wordsChN, d.before args s = true := fun d hd => by
  have t : ∀ d ∈ wordsChN, (d.onTables && d.keepsFace) = true := by decide +kernel
  exact RoadKit.mv hZ (hw d hd) (t d hd)
/-- **charAt(i) OF A LATIN-1 STRING**, i < n: the char -/
theorem chN {p : Program} {l : Launch} {e : Env} {R : Room} {s : State} {args : Array Value} {below : List Frame} {len W : Nat} {Z : State} {a0 : Array Value} {h : Heap} (hZ : Z.Warmed39 s.vm) (hw : ∀ d ∈ wordsChN, d.before a0 Z = true) {kI : Nat} (wi : (Jvm.Cond.instantiable ST kI).before a0 Z = true)
    {x t : Addr} {kb : ClassId} {cs : List Int32} {N2 z : Int32} {vs : List Value} {fm : Value} {i : Nat} {j : Int32} (E : RoadKit.Exa Z h x ST) (V : RoadKit.Fld Z h x ST "value" "[B" (.ref t)) (C : RoadKit.Fld Z h x ST "coder" "B" (.int 0)) (K : RoadKit.Arv Z h t kb .byte N2 vs (.int 0)) (hc : CodA cs 0 N2 vs) (hb : ∀ c ∈ cs, ¬ c < 0 ∧ ¬ (65535 : Int32) < c)
    (S : RoadKit.Sta Z h ST "COMPACT_STRINGS" "Z" (.int z)) (hz : ¬ z = 0) (F : RoadKit.Sta Z h "jdk/internal/util/Preconditions" "SIOOBE_FORMATTER" "Ljava/util/function/BiFunction;" fm) (rf : fm.isRef = true) (l2 : cs.length ≤ 4000) (hi : i < cs.length) (hj : j = Int32.ofNat i) (hfr : 4 ≤ R.frames) (hlo : W + 53 ≤ R.locals) :
    Back l R p e below s args (⟨"java/lang/String", "charAt", "(I)C"⟩ : MethodName) len W (fun P a => a = #[.ref x, .int j] ∧ P.U.heap = h ∧ P.cells + 0 ≤ R.cells ∧ P.slots + 0 ≤ R.slots)
      (fun P _ v B => ∃ L, (v = some (.int (cs.getD i 0)) ∧ L = [] ∧ B.U.heap = h) ∧ B.locs = P.locs ++ L ∧ B.cells = P.cells + 0 ∧ B.slots = P.slots + 0) := by
  subst hj
  intro m meth c P g ig mk a X hg hsize hdg hW hn hp'
  obtain ⟨rfl, rfl, r1, r2⟩ := hp'
  have al : Z.vm.Alike P.U.vm := hZ.alike.trans X.warmed.alike
  obtain ⟨A, hx⟩ := txt_of wi al E V C K hc hb l2
  obtain ⟨v, B, X', ⟨⟨hv, hh⟩, hl, hk, hs⟩, st⟩ := ChN.pays x t A cs.length (fun j => cs.getD j 0) z fm i (tabChN_of (movedChN hZ hw)) hfr hlo m meth c P g ig mk _ X hg hsize hdg hW hn ⟨r1, r2, rfl, hx, hi, sta_is al S, hz, sta_is al F, rf⟩
  exact ⟨v, B, X', ⟨[], ⟨hv, rfl, hh⟩, hl, hk, hs⟩, st⟩
/-- what backV says of its String, as the contracts of this text ask it: cs's low bytes, coder 0 -/
theorem codOf {cs : List Int32} {n : Nat} (hn : cs.length = n) (hb : ∀ c ∈ cs, ¬ 255 < c) : CodA cs 0 (Int32.ofNat n) ((cs.map lo8).map Value.int) := Or.inl ⟨rfl, by rw [hn], by simp [List.map_map, Function.comp_def], hb⟩
end StrChars.Road
end Jvm.Pilot.@@N@@
namespace Jvm.Pilot.@@N@@.Y
open Jvm Jvm.ClassFile Sem Op Lib Jvm.Free Jvm.Stand Jvm.LawKit Jvm.RoadKit Bundle
/-- from st the run comes to an end that G tells -/
def Ends (p : Program) (e : Env) (below : List Frame) (G : Outcome → State → Prop) (st : State) : Prop := ∃ s₂ o, Steps p.tables e below st s₂ ∧ s₂.status = .running ∧ Ended s₂ below o ∧ G o s₂
theorem Ends.go {p : Program} {e : Env} {below : List Frame} {G : Outcome → State → Prop} {A B : State} (k : ∀ t, Steps p.tables e below B t → Steps p.tables e below A t) (h : Ends p e below G B) : Ends p e below G A := by
  obtain ⟨s₂, o, h1, h2⟩ := h
  exact ⟨s₂, o, k _ h1, h2⟩
theorem leB {a b : Nat} (h : Nat.ble a b = true) : a ≤ b := Nat.le_of_ble_eq_true h
theorem catR {v : Value} (h : v.isRef = true) : v.category = 1 := by rcases ref_cases h with rfl | ⟨z, rfl⟩ <;> rfl
theorem narR {v : Value} {C : String} (h : v.isRef = true) : narrow (.object C) v = v := by rcases ref_cases h with rfl | ⟨z, rfl⟩ <;> rfl
theorem fitR {v : Value} {C : String} (h : v.isRef = true) : fits (.object C) v = true := by rcases ref_cases h with rfl | ⟨z, rfl⟩ <;> rfl
theorem b01 {q : Int32} (h : q = 0 ∨ q = 1) : narrow .boolean (.int q) = .int q ∧ fits .boolean (.int q) = true := by rcases h with rfl | rfl <;> exact ⟨rfl, rfl⟩
theorem or01 {q : Int32} {c : Prop} (h : (q = 0 ∧ c) ∨ (q = 1 ∧ ¬ c)) : q = 0 ∨ q = 1 := h.imp (·.1) (·.1)
theorem or10 {q : Int32} {c : Prop} (h : (q = 1 ∧ c) ∨ (q = 0 ∧ ¬ c)) : q = 0 ∨ q = 1 := (h.imp (·.1) (·.1)).symm
/-- where the walk stands: over the start s with the tables vm0; h the heap at hand; ws: the old places it may write -/
def Wk (co : Bool) (Z : State) (a0 : Array Value) (EL : List (String × Nat)) (own : String) (bytes : ByteArray) (maxL : Nat) (ret : Option FieldType) (nm : String) (ws : List Addr) (p : Program) (l : Launch) (e : Env) (R : Room) (s : State) (m : MethodId) (args : Array Value) (below : List Frame) (meth : Method) (c : Code) (vm0 : Vm) (T : State) (h : Heap) (locs : List Loc) (cells slots : Nat) : Prop :=
  Stand p l e R (s.setVm vm0) m args below meth c T locs cells slots ∧ T.heap = h ∧ (∃ k0, s.Since vm0 k0 ∧ k0 ≤ h.size) ∧ (co = false → vm0 = s.vm) ∧ Z.Warmed39 vm0 ∧ vm0.findClass own = some m.cls ∧ CHr Z EL s.vm s.heap vm0 h ∧ EW Z a0 EL ∧
  (p.tables.exec = Jvm.exec ∧ c.code = bytes ∧ c.maxLocals = maxL ∧ meth.sig.returnType = ret ∧ meth.name = nm ∧ meth.locks = false) ∧ Ext Z.heap h ∧ Fr Z.heap.size locs ∧ Keep s.heap h ws
section Walk
variable {co : Bool} {Z : State} {a0 : Array Value} {EL : List (String × Nat)} {own : String} {bytes : ByteArray} {maxL : Nat} {ret : Option FieldType} {nm : String} {ws : List Addr} {p : Program} {l : Launch} {e : Env} {R : Room} {s : State} {m : MethodId} {args : Array Value} {below : List Frame} {meth : Method} {c : Code} {vm0 : Vm} {T : State} {h : Heap} {locs : List Loc} {cells slots : Nat} {G : Outcome → State → Prop} {pc pc' : Nat} {ls ls' : Array Slot} {rest : List Value}
abbrev WkA (co : Bool) (Z : State) (a0 : Array Value) (EL : List (String × Nat)) (own : String) (bytes : ByteArray) (maxL : Nat) (ret : Option FieldType) (nm : String) (ws : List Addr) (p : Program) (l : Launch) (e : Env) (R : Room) (s : State) (m : MethodId) (args : Array Value) (below : List Frame) (meth : Method) (c : Code) (vm0 : Vm) (T : State) (h : Heap) (locs : List Loc) (cells slots : Nat) : Prop := Wk co Z a0 EL own bytes maxL ret nm ws p l e R s m args below meth c vm0 T h locs cells slots
theorem Wk.st (X : Wk co Z a0 EL own bytes maxL ret nm ws p l e R s m args below meth c vm0 T h locs cells slots) : Stand p l e R (s.setVm vm0) m args below meth c T locs cells slots := X.1
theorem Wk.eT (X : Wk co Z a0 EL own bytes maxL ret nm ws p l e R s m args below meth c vm0 T h locs cells slots) : T.heap = h := X.2.1
theorem Wk.hx (X : Wk co Z a0 EL own bytes maxL ret nm ws p l e R s m args below meth c vm0 T h locs cells slots) : p.tables.exec = Jvm.exec := X.2.2.2.2.2.2.2.2.1.1
theorem Wk.hd (X : Wk co Z a0 EL own bytes maxL ret nm ws p l e R s m args below meth c vm0 T h locs cells slots) {r : Except DecodeError (Instr × Nat)} (d : decode bytes pc = r) : decode c.code pc = r := by
  rw [X.2.2.2.2.2.2.2.2.1.2.1]; exact d
theorem Wk.hml (X : Wk co Z a0 EL own bytes maxL ret nm ws p l e R s m args below meth c vm0 T h locs cells slots) : c.maxLocals = maxL := X.2.2.2.2.2.2.2.2.1.2.2.1
theorem Wk.hret (X : Wk co Z a0 EL own bytes maxL ret nm ws p l e R s m args below meth c vm0 T h locs cells slots) : meth.sig.returnType = ret := X.2.2.2.2.2.2.2.2.1.2.2.2.1
theorem Wk.hnm (X : Wk co Z a0 EL own bytes maxL ret nm ws p l e R s m args below meth c vm0 T h locs cells slots) : meth.name = nm := X.2.2.2.2.2.2.2.2.1.2.2.2.2.1
theorem Wk.hlk (X : Wk co Z a0 EL own bytes maxL ret nm ws p l e R s m args below meth c vm0 T h locs cells slots) : meth.locks = false := X.2.2.2.2.2.2.2.2.1.2.2.2.2.2
theorem Wk.hZ (X : Wk co Z a0 EL own bytes maxL ret nm ws p l e R s m args below meth c vm0 T h locs cells slots) : Z.Warmed39 (s.setVm vm0).vm := X.2.2.2.2.1
theorem Wk.al (X : Wk co Z a0 EL own bytes maxL ret nm ws p l e R s m args below meth c vm0 T h locs cells slots) : Z.vm.Alike vm0 := X.2.2.2.2.1.alike
theorem Wk.hown (X : Wk co Z a0 EL own bytes maxL ret nm ws p l e R s m args below meth c vm0 T h locs cells slots) : (s.setVm vm0).vm.findClass own = some m.cls := X.2.2.2.2.2.1
theorem Wk.ch (X : Wk co Z a0 EL own bytes maxL ret nm ws p l e R s m args below meth c vm0 T h locs cells slots) : CHr Z EL s.vm s.heap vm0 h := X.2.2.2.2.2.2.1
theorem Wk.H (X : Wk co Z a0 EL own bytes maxL ret nm ws p l e R s m args below meth c vm0 T h locs cells slots) : CHv Z EL vm0 h := X.ch.1
theorem Wk.ew (X : Wk co Z a0 EL own bytes maxL ret nm ws p l e R s m args below meth c vm0 T h locs cells slots) : EW Z a0 EL := X.2.2.2.2.2.2.2.1
theorem Wk.old (X : Wk co Z a0 EL own bytes maxL ret nm ws p l e R s m args below meth c vm0 T h locs cells slots) : Ext Z.heap h := X.2.2.2.2.2.2.2.2.2.1
theorem Wk.fr (X : Wk co Z a0 EL own bytes maxL ret nm ws p l e R s m args below meth c vm0 T h locs cells slots) : Fr Z.heap.size locs := X.2.2.2.2.2.2.2.2.2.2.1
theorem Wk.kp (X : Wk co Z a0 EL own bytes maxL ret nm ws p l e R s m args below meth c vm0 T h locs cells slots) : Keep s.heap h ws := X.2.2.2.2.2.2.2.2.2.2.2
theorem Wk.since (X : Wk co Z a0 EL own bytes maxL ret nm ws p l e R s m args below meth c vm0 T h locs cells slots) : ∃ k0, s.Since vm0 k0 ∧ k0 ≤ h.size := X.2.2.1
theorem Wk.nr (X : Wk co Z a0 EL own bytes maxL ret nm ws p l e R s m args below meth c vm0 T h locs cells slots) : co = false → vm0 = s.vm := X.2.2.2.1
/-- a step that leaves the heap -/
theorem Wk.same (X : Wk co Z a0 EL own bytes maxL ret nm ws p l e R s m args below meth c vm0 T h locs cells slots) {T' : State} (Y : Stand p l e R (s.setVm vm0) m args below meth c T' locs cells slots) (e' : T'.heap = h) : Wk co Z a0 EL own bytes maxL ret nm ws p l e R s m args below meth c vm0 T' h locs cells slots :=
  ⟨Y, e', X.2.2⟩
theorem fr_app0 {k : Nat} {L : List Loc} (N : Fr k L) : Fr k (L ++ []) := by rw [List.append_nil]; exact N
/-- a step that makes new cells -/
theorem Wk.ext (X : Wk co Z a0 EL own bytes maxL ret nm ws p l e R s m args below meth c vm0 T h locs cells slots) {T' : State} {h' : Heap} {cells' slots' : Nat} (Y : Stand p l e R (s.setVm vm0) m args below meth c T' locs cells' slots') (e' : T'.heap = h') (E : Ext h h') : Wk co Z a0 EL own bytes maxL ret nm ws p l e R s m args below meth c vm0 T' h' locs cells' slots' := by
  obtain ⟨k0, k1, k2⟩ := X.since
  exact ⟨Y, e', ⟨k0, k1, Nat.le_trans k2 E.1⟩, X.nr, X.hZ, X.hown, X.ch.trans (CHr.ext E X.H), X.ew, X.2.2.2.2.2.2.2.2.1, ⟨Nat.le_trans X.old.1 E.1, fun a cl q => E.2 _ _ (X.old.2 _ _ q)⟩, X.fr, X.kp.ext E⟩
/-- a narrow call: L written, of old cells those at wc alone -/
theorem Wk.keep (X : Wk co Z a0 EL own bytes maxL ret nm ws p l e R s m args below meth c vm0 T h locs cells slots) {T' : State} {h' : Heap} {L : List Loc} {wc : List Addr} {cells' slots' : Nat} (Y : Stand p l e R (s.setVm vm0) m args below meth c T' (locs ++ L) cells' slots') (e' : T'.heap = h') (K : Keep h h' wc) (S : ∀ x ∈ wc, Safe Z EL vm0 h x) (N : Fr Z.heap.size L) (hn : ∀ x ∈ wc, Z.heap.size ≤ x) (hk : ∀ x ∈ wc, x ∈ ws ∨ s.heap.size ≤ x) : Wk co Z a0 EL own bytes maxL ret nm ws p l e R s m args below meth c vm0 T' h' (locs ++ L) cells' slots' := by
  obtain ⟨k0, k1, k2⟩ := X.since
  have O : Old Z Z.heap.size h' := Old.keep ⟨rfl, X.old⟩ K hn
  exact ⟨Y, e', ⟨k0, k1, Nat.le_trans k2 K.1⟩, X.nr, X.hZ, X.hown, X.ch.trans (CHr.keep K S X.H), X.ew, X.2.2.2.2.2.2.2.2.1, O.2, X.fr.app N, X.kp.trans K hk⟩
/-- one place of a new object written -/
theorem Wk.wr (X : Wk co Z a0 EL own bytes maxL ret nm ws p l e R s m args below meth c vm0 T h locs cells slots) {T' : State} {h' : Heap} {a : Addr} {sl : Nat} {v : Value} (Y : Stand p l e R (s.setVm vm0) m args below meth c T' (locs ++ [⟨a, sl⟩]) cells slots) (e' : T'.heap = h') (W : Wr h h' a sl v) (S : Safe Z EL vm0 h a) (hn : Z.heap.size ≤ a) (hk : a ∈ ws ∨ s.heap.size ≤ a) : Wk co Z a0 EL own bytes maxL ret nm ws p l e R s m args below meth c vm0 T' h' (locs ++ [⟨a, sl⟩]) cells slots :=
  X.keep Y e' (Keep.of_wr W) (sfS S sf0) (fun y hy => by cases List.mem_singleton.mp hy; exact hn) (allS hn all0) (allS hk all0)
/-- a callee that may intern -/
theorem Wk.cold (X : Wk true Z a0 EL own bytes maxL ret nm ws p l e R s m args below meth c vm0 T h locs cells slots) {T' : State} {L : List Loc} {wc : List Addr} {cells' slots' : Nat} (Y : Stand p l e R ((s.setVm vm0).setVm T'.vm) m args below meth c T' (locs ++ L) cells' slots') (hS : (s.setVm vm0).Since T'.vm T'.heap.size) (hC : CHr Z EL vm0 h T'.vm T'.heap) (K : Keep h T'.heap wc) (N : Fr Z.heap.size L) (O : Ext Z.heap T'.heap) (hk : ∀ x ∈ wc, x ∈ ws ∨ s.heap.size ≤ x) : Wk true Z a0 EL own bytes maxL ret nm ws p l e R s m args below meth c T'.vm T' T'.heap (locs ++ L) cells' slots' := by
  obtain ⟨k0, k1, k2⟩ := X.since
  exact ⟨Y, rfl, ⟨_, k1.trans hS (Nat.le_trans k2 K.1), Nat.le_refl _⟩, fun q => (by cases q), State.Warmed39.trans X.hZ hS.1, (by rw [hS.1.alike.findClass]; exact X.hown), X.ch.trans hC, X.ew, X.2.2.2.2.2.2.2.2.1, O, X.fr.app N, X.kp.trans K hk⟩
theorem safeE {vm : Vm} {x : Addr} : Safe Z [] vm h x := fun B => by obtain ⟨q, hq, -⟩ := B; cases hq
theorem chrE {vm vm' : Vm} {h' : Heap} (q : h.size ≤ h'.size) : CHr Z [] vm h vm' h' := ⟨(fun _ hq => by cases hq), q, fun y B => absurd B safeE⟩
/-- a String whose value is still null is no booked one -/
theorem Safe.blank {vm : Vm} {x : Addr} (hal : Z.vm.Alike vm) (E : Exa Z h x "java/lang/String") {k : Nat} (wi : (Cond.instantiable "java/lang/String" k).before a0 Z = true) (F : Fld Z h x "java/lang/String" "value" "[B" .null) : Safe Z EL vm h x := fun B => by
  obtain ⟨pr, -, u, a, -, q, hq, SB, hy⟩ := B
  have hd := SB.hd
  have ha := SB.ha
  rcases hy with rfl | rfl
  · obtain ⟨cS, ⟨⟨-, -, -, ⟨cv, kv, iv, s4, -⟩, -, -, -, v1, -⟩, -⟩, -⟩ := SB
    obtain ⟨cell, cf, k2, i, f, h1, h2, -, -, -, -, h7⟩ := F
    cases (show h[q.sa]? = some q.sC from ha).symm.trans h1
    obtain ⟨k3, e3, -⟩ := State.fieldFound?_setVm (s := ({ Z with heap := h } : State)) (vm' := vm) hal h2
    have e4 := (show (Wst Z vm h).fieldFound? _ _ _ = _ from e3).symm.trans s4
    simp only [Option.some.injEq, Prod.mk.injEq] at e4
    rw [← e4.2.2.2, h7] at v1
    cases v1
  · obtain ⟨cS, ⟨⟨-, -, -, -, -, -, -, -, -, -, ⟨-, kB, hkB, compB, hkindB⟩, -⟩, -, -⟩, -⟩ := SB
    obtain ⟨cell, kE, e1, e2, e3, -, -⟩ := E
    cases (show h[q.sd]? = some q.SA from hd).symm.trans e1
    obtain ⟨c2, k2, i1, i2, i3, -⟩ := Cond.instantiable_spec wi
    cases e2.symm.trans i1
    obtain ⟨kE', hk', ek⟩ := hal.2.2 _ _ i2
    cases (show vm.classes[q.SA.cls]? = some kB from hkB).symm.trans hk'
    rw [ek, i3] at hkindB
    cases hkindB
theorem Wk.iadd (X : Wk co Z a0 EL own bytes maxL ret nm ws p l e R s m args below meth c vm0 T h locs cells slots) {x y : Int32} (hd : decode bytes pc = .ok (.iadd, 1))  (hp : pc + 1 = pc') (k : Ends p e below G (T.setTop (mkF m pc' ls (.int (x + y) :: rest)))) : Ends p e below G (T.setTop (mkF m pc ls (.int y :: .int x :: rest))) := by
  subst hp; exact Ends.go (fun _ q => XS.iadd X.st.here X.hx rfl (X.hd hd) rfl q) k
theorem Wk.isub (X : Wk co Z a0 EL own bytes maxL ret nm ws p l e R s m args below meth c vm0 T h locs cells slots) {x y : Int32} (hd : decode bytes pc = .ok (.isub, 1))  (hp : pc + 1 = pc') (k : Ends p e below G (T.setTop (mkF m pc' ls (.int (x - y) :: rest)))) : Ends p e below G (T.setTop (mkF m pc ls (.int y :: .int x :: rest))) := by
  subst hp; exact Ends.go (fun _ q => XS.isub X.st.here X.hx rfl (X.hd hd) rfl q) k
theorem Wk.imul (X : Wk co Z a0 EL own bytes maxL ret nm ws p l e R s m args below meth c vm0 T h locs cells slots) {x y : Int32} (hd : decode bytes pc = .ok (.imul, 1))  (hp : pc + 1 = pc') (k : Ends p e below G (T.setTop (mkF m pc' ls (.int (x * y) :: rest)))) : Ends p e below G (T.setTop (mkF m pc ls (.int y :: .int x :: rest))) := by
  subst hp; exact Ends.go (fun _ q => XS.imul X.st.here X.hx rfl (X.hd hd) rfl q) k
theorem Wk.iand (X : Wk co Z a0 EL own bytes maxL ret nm ws p l e R s m args below meth c vm0 T h locs cells slots) {x y : Int32} (hd : decode bytes pc = .ok (.iand, 1))  (hp : pc + 1 = pc') (k : Ends p e below G (T.setTop (mkF m pc' ls (.int (x &&& y) :: rest)))) : Ends p e below G (T.setTop (mkF m pc ls (.int y :: .int x :: rest))) := by
  subst hp; exact Ends.go (fun _ q => XS.iand X.st.here X.hx rfl (X.hd hd) rfl q) k
theorem Wk.ior (X : Wk co Z a0 EL own bytes maxL ret nm ws p l e R s m args below meth c vm0 T h locs cells slots) {x y : Int32} (hd : decode bytes pc = .ok (.ior, 1))  (hp : pc + 1 = pc') (k : Ends p e below G (T.setTop (mkF m pc' ls (.int (x ||| y) :: rest)))) : Ends p e below G (T.setTop (mkF m pc ls (.int y :: .int x :: rest))) := by
  subst hp; exact Ends.go (fun _ q => XS.ior X.st.here X.hx rfl (X.hd hd) rfl q) k
theorem Wk.ixor (X : Wk co Z a0 EL own bytes maxL ret nm ws p l e R s m args below meth c vm0 T h locs cells slots) {x y : Int32} (hd : decode bytes pc = .ok (.ixor, 1))  (hp : pc + 1 = pc') (k : Ends p e below G (T.setTop (mkF m pc' ls (.int (x ^^^ y) :: rest)))) : Ends p e below G (T.setTop (mkF m pc ls (.int y :: .int x :: rest))) := by
  subst hp; exact Ends.go (fun _ q => XS.ixor X.st.here X.hx rfl (X.hd hd) rfl q) k
theorem Wk.ishl (X : Wk co Z a0 EL own bytes maxL ret nm ws p l e R s m args below meth c vm0 T h locs cells slots) {x y : Int32} (hd : decode bytes pc = .ok (.ishl, 1))  (hp : pc + 1 = pc') (k : Ends p e below G (T.setTop (mkF m pc' ls (.int (x <<< (y &&& 31)) :: rest)))) : Ends p e below G (T.setTop (mkF m pc ls (.int y :: .int x :: rest))) := by
  subst hp; exact Ends.go (fun _ q => XS.ishl X.st.here X.hx rfl (X.hd hd) rfl q) k
theorem Wk.ishr (X : Wk co Z a0 EL own bytes maxL ret nm ws p l e R s m args below meth c vm0 T h locs cells slots) {x y : Int32} (hd : decode bytes pc = .ok (.ishr, 1))  (hp : pc + 1 = pc') (k : Ends p e below G (T.setTop (mkF m pc' ls (.int (x >>> (y &&& 31)) :: rest)))) : Ends p e below G (T.setTop (mkF m pc ls (.int y :: .int x :: rest))) := by
  subst hp; exact Ends.go (fun _ q => XS.ishr X.st.here X.hx rfl (X.hd hd) rfl q) k
theorem Wk.iushr (X : Wk co Z a0 EL own bytes maxL ret nm ws p l e R s m args below meth c vm0 T h locs cells slots) {x y : Int32} (hd : decode bytes pc = .ok (.iushr, 1))  (hp : pc + 1 = pc') (k : Ends p e below G (T.setTop (mkF m pc' ls (.int ((x.toUInt32 >>> (y &&& 31).toUInt32).toInt32) :: rest)))) : Ends p e below G (T.setTop (mkF m pc ls (.int y :: .int x :: rest))) := by
  subst hp; exact Ends.go (fun _ q => XS.iushr X.st.here X.hx rfl (X.hd hd) rfl q) k
theorem Wk.ladd (X : Wk co Z a0 EL own bytes maxL ret nm ws p l e R s m args below meth c vm0 T h locs cells slots) {x y : Int64} (hd : decode bytes pc = .ok (.ladd, 1))  (hp : pc + 1 = pc') (k : Ends p e below G (T.setTop (mkF m pc' ls (.long (x + y) :: rest)))) : Ends p e below G (T.setTop (mkF m pc ls (.long y :: .long x :: rest))) := by
  subst hp; exact Ends.go (fun _ q => XS.ladd X.st.here X.hx rfl (X.hd hd) rfl q) k
theorem Wk.lsub (X : Wk co Z a0 EL own bytes maxL ret nm ws p l e R s m args below meth c vm0 T h locs cells slots) {x y : Int64} (hd : decode bytes pc = .ok (.lsub, 1))  (hp : pc + 1 = pc') (k : Ends p e below G (T.setTop (mkF m pc' ls (.long (x - y) :: rest)))) : Ends p e below G (T.setTop (mkF m pc ls (.long y :: .long x :: rest))) := by
  subst hp; exact Ends.go (fun _ q => XS.lsub X.st.here X.hx rfl (X.hd hd) rfl q) k
theorem Wk.land (X : Wk co Z a0 EL own bytes maxL ret nm ws p l e R s m args below meth c vm0 T h locs cells slots) {x y : Int64} (hd : decode bytes pc = .ok (.land, 1))  (hp : pc + 1 = pc') (k : Ends p e below G (T.setTop (mkF m pc' ls (.long (x &&& y) :: rest)))) : Ends p e below G (T.setTop (mkF m pc ls (.long y :: .long x :: rest))) := by
  subst hp; exact Ends.go (fun _ q => XS.land X.st.here X.hx rfl (X.hd hd) rfl q) k
theorem Wk.lxor (X : Wk co Z a0 EL own bytes maxL ret nm ws p l e R s m args below meth c vm0 T h locs cells slots) {x y : Int64} (hd : decode bytes pc = .ok (.lxor, 1))  (hp : pc + 1 = pc') (k : Ends p e below G (T.setTop (mkF m pc' ls (.long (x ^^^ y) :: rest)))) : Ends p e below G (T.setTop (mkF m pc ls (.long y :: .long x :: rest))) := by
  subst hp; exact Ends.go (fun _ q => XS.lxor X.st.here X.hx rfl (X.hd hd) rfl q) k
theorem Wk.lor (X : Wk co Z a0 EL own bytes maxL ret nm ws p l e R s m args below meth c vm0 T h locs cells slots) {x y : Int64} (hd : decode bytes pc = .ok (.lor, 1))  (hp : pc + 1 = pc') (k : Ends p e below G (T.setTop (mkF m pc' ls (.long (x ||| y) :: rest)))) : Ends p e below G (T.setTop (mkF m pc ls (.long y :: .long x :: rest))) := by
  subst hp; exact Ends.go (fun _ q => XS.lor X.st.here X.hx rfl (X.hd hd) rfl q) k
theorem Wk.lushr (X : Wk co Z a0 EL own bytes maxL ret nm ws p l e R s m args below meth c vm0 T h locs cells slots) {x : Int64} {y : Int32} (hd : decode bytes pc = .ok (.lushr, 1))  (hp : pc + 1 = pc') (k : Ends p e below G (T.setTop (mkF m pc' ls (.long (XT.ushrL x y) :: rest)))) : Ends p e below G (T.setTop (mkF m pc ls (.int y :: .long x :: rest))) := by
  subst hp; exact Ends.go (fun _ q => XT.lushr X.st.here X.hx rfl (X.hd hd) rfl q) k
theorem Wk.i2c (X : Wk co Z a0 EL own bytes maxL ret nm ws p l e R s m args below meth c vm0 T h locs cells slots) {x : Int32} (hd : decode bytes pc = .ok (.i2c, 1))  (hp : pc + 1 = pc') (k : Ends p e below G (T.setTop (mkF m pc' ls (.int (x.toUInt32.toUInt16.toUInt32.toInt32) :: rest)))) : Ends p e below G (T.setTop (mkF m pc ls (.int x :: rest))) := by
  subst hp; exact Ends.go (fun _ q => XS.i2c X.st.here X.hx rfl (X.hd hd) rfl q) k
theorem Wk.i2b (X : Wk co Z a0 EL own bytes maxL ret nm ws p l e R s m args below meth c vm0 T h locs cells slots) {x : Int32} (hd : decode bytes pc = .ok (.i2b, 1))  (hp : pc + 1 = pc') (k : Ends p e below G (T.setTop (mkF m pc' ls (.int (x.toInt8.toInt32) :: rest)))) : Ends p e below G (T.setTop (mkF m pc ls (.int x :: rest))) := by
  subst hp; exact Ends.go (fun _ q => XS.i2b X.st.here X.hx rfl (X.hd hd) rfl q) k
theorem Wk.i2l (X : Wk co Z a0 EL own bytes maxL ret nm ws p l e R s m args below meth c vm0 T h locs cells slots) {x : Int32} (hd : decode bytes pc = .ok (.i2l, 1))  (hp : pc + 1 = pc') (k : Ends p e below G (T.setTop (mkF m pc' ls (.long (x.toInt64) :: rest)))) : Ends p e below G (T.setTop (mkF m pc ls (.int x :: rest))) := by
  subst hp; exact Ends.go (fun _ q => XS.i2l X.st.here X.hx rfl (X.hd hd) rfl q) k
theorem Wk.l2i (X : Wk co Z a0 EL own bytes maxL ret nm ws p l e R s m args below meth c vm0 T h locs cells slots) {x : Int64} (hd : decode bytes pc = .ok (.l2i, 1))  (hp : pc + 1 = pc') (k : Ends p e below G (T.setTop (mkF m pc' ls (.int (x.toInt32) :: rest)))) : Ends p e below G (T.setTop (mkF m pc ls (.long x :: rest))) := by
  subst hp; exact Ends.go (fun _ q => XS.l2i X.st.here X.hx rfl (X.hd hd) rfl q) k
theorem Wk.ineg (X : Wk co Z a0 EL own bytes maxL ret nm ws p l e R s m args below meth c vm0 T h locs cells slots) {x : Int32} (hd : decode bytes pc = .ok (.ineg, 1))  (hp : pc + 1 = pc') (k : Ends p e below G (T.setTop (mkF m pc' ls (.int (-x) :: rest)))) : Ends p e below G (T.setTop (mkF m pc ls (.int x :: rest))) := by
  subst hp; exact Ends.go (fun _ q => XS.ineg X.st.here X.hx rfl (X.hd hd) rfl q) k
theorem Wk.iconst (X : Wk co Z a0 EL own bytes maxL ret nm ws p l e R s m args below meth c vm0 T h locs cells slots) {i : Int} (v : Int32) (hd : decode bytes pc = .ok (.iconst i, 1)) (hv : Int32.ofInt i = v) (hp : pc + 1 = pc') (k : Ends p e below G (T.setTop (mkF m pc' ls (.int v :: rest)))) : Ends p e below G (T.setTop (mkF m pc ls rest)) := by
  subst hp; subst hv; exact Ends.go (fun _ q => XS.iconst X.st.here X.hx rfl (X.hd hd)  q) k
theorem Wk.bipush (X : Wk co Z a0 EL own bytes maxL ret nm ws p l e R s m args below meth c vm0 T h locs cells slots) {i : Int} (v : Int32) (hd : decode bytes pc = .ok (.bipush i, 2)) (hv : (Int8.ofInt i).toInt32 = v) (hp : pc + 2 = pc') (k : Ends p e below G (T.setTop (mkF m pc' ls (.int v :: rest)))) : Ends p e below G (T.setTop (mkF m pc ls rest)) := by
  subst hp; subst hv; exact Ends.go (fun _ q => XS.bipush X.st.here X.hx rfl (X.hd hd)  q) k
theorem Wk.sipush (X : Wk co Z a0 EL own bytes maxL ret nm ws p l e R s m args below meth c vm0 T h locs cells slots) {i : Int} (v : Int32) (hd : decode bytes pc = .ok (.sipush i, 3)) (hv : (Int16.ofInt i).toInt32 = v) (hp : pc + 3 = pc') (k : Ends p e below G (T.setTop (mkF m pc' ls (.int v :: rest)))) : Ends p e below G (T.setTop (mkF m pc ls rest)) := by
  subst hp; subst hv; exact Ends.go (fun _ q => XS.sipush X.st.here X.hx rfl (X.hd hd)  q) k
theorem Wk.aconstNull (X : Wk co Z a0 EL own bytes maxL ret nm ws p l e R s m args below meth c vm0 T h locs cells slots)  (hd : decode bytes pc = .ok (.aconst_null, 1))  (hp : pc + 1 = pc') (k : Ends p e below G (T.setTop (mkF m pc' ls (.null :: rest)))) : Ends p e below G (T.setTop (mkF m pc ls rest)) := by
  subst hp; exact Ends.go (fun _ q => XS.aconstNull X.st.here X.hx rfl (X.hd hd)  q) k
theorem Wk.aloadN (X : Wk co Z a0 EL own bytes maxL ret nm ws p l e R s m args below meth c vm0 T h locs cells slots) {k : Fin 4} {v : Value} (hd : decode bytes pc = .ok (.aload_n k, 1)) (hl : ls[k.val]? = some (.val v)) (hv : v.isRef = true) (hp : pc + 1 = pc') (kk : Ends p e below G (T.setTop (mkF m pc' ls (v :: rest)))) : Ends p e below G (T.setTop (mkF m pc ls rest)) := by
  subst hp; exact Ends.go (fun _ q => XS.aloadN X.st.here X.hx rfl (X.hd hd) hl hv q) kk
theorem Wk.aload (X : Wk co Z a0 EL own bytes maxL ret nm ws p l e R s m args below meth c vm0 T h locs cells slots) {k : Nat} {v : Value} (hd : decode bytes pc = .ok (.aload k, 2)) (hl : ls[k]? = some (.val v)) (hv : v.isRef = true) (hp : pc + 2 = pc') (kk : Ends p e below G (T.setTop (mkF m pc' ls (v :: rest)))) : Ends p e below G (T.setTop (mkF m pc ls rest)) := by
  subst hp; exact Ends.go (fun _ q => XS.aload X.st.here X.hx rfl (X.hd hd) hl hv q) kk
theorem Wk.iloadN (X : Wk co Z a0 EL own bytes maxL ret nm ws p l e R s m args below meth c vm0 T h locs cells slots) {k : Fin 4} {v : Int32} (hd : decode bytes pc = .ok (.iload_n k, 1)) (hl : ls[k.val]? = some (.val (.int v))) (hp : pc + 1 = pc') (kk : Ends p e below G (T.setTop (mkF m pc' ls (.int v :: rest)))) : Ends p e below G (T.setTop (mkF m pc ls rest)) := by
  subst hp; exact Ends.go (fun _ q => XS.iloadN X.st.here X.hx rfl (X.hd hd) hl q) kk
theorem Wk.iload (X : Wk co Z a0 EL own bytes maxL ret nm ws p l e R s m args below meth c vm0 T h locs cells slots) {k : Nat} {v : Int32} (hd : decode bytes pc = .ok (.iload k, 2)) (hl : ls[k]? = some (.val (.int v))) (hp : pc + 2 = pc') (kk : Ends p e below G (T.setTop (mkF m pc' ls (.int v :: rest)))) : Ends p e below G (T.setTop (mkF m pc ls rest)) := by
  subst hp; exact Ends.go (fun _ q => XS.iload X.st.here X.hx rfl (X.hd hd) hl q) kk
theorem Wk.lloadN (X : Wk co Z a0 EL own bytes maxL ret nm ws p l e R s m args below meth c vm0 T h locs cells slots) {k : Fin 4} {v : Int64} (hd : decode bytes pc = .ok (.lload_n k, 1)) (hl : ls[k.val]? = some (.val (.long v))) (hp : pc + 1 = pc') (kk : Ends p e below G (T.setTop (mkF m pc' ls (.long v :: rest)))) : Ends p e below G (T.setTop (mkF m pc ls rest)) := by
  subst hp; exact Ends.go (fun _ q => XS.lloadN X.st.here X.hx rfl (X.hd hd) hl q) kk
theorem Wk.lload (X : Wk co Z a0 EL own bytes maxL ret nm ws p l e R s m args below meth c vm0 T h locs cells slots) {k : Nat} {v : Int64} (hd : decode bytes pc = .ok (.lload k, 2)) (hl : ls[k]? = some (.val (.long v))) (hp : pc + 2 = pc') (kk : Ends p e below G (T.setTop (mkF m pc' ls (.long v :: rest)))) : Ends p e below G (T.setTop (mkF m pc ls rest)) := by
  subst hp; exact Ends.go (fun _ q => XS.lload X.st.here X.hx rfl (X.hd hd) hl q) kk
theorem Wk.istoreN (X : Wk co Z a0 EL own bytes maxL ret nm ws p l e R s m args below meth c vm0 T h locs cells slots) {k : Fin 4} {x : Int32} (ls' : Array Slot) (hd : decode bytes pc = .ok (.istore_n k, 1)) (hl : storeLocals ls k.val (.int x) = some ls') (hp : pc + 1 = pc') (kk : Ends p e below G (T.setTop (mkF m pc' ls' rest))) : Ends p e below G (T.setTop (mkF m pc ls (.int x :: rest))) := by
  subst hp; exact Ends.go (fun _ q => XS.istoreN X.st.here X.hx rfl (X.hd hd) rfl hl q) kk
theorem Wk.istore (X : Wk co Z a0 EL own bytes maxL ret nm ws p l e R s m args below meth c vm0 T h locs cells slots) {k : Nat} {x : Int32} (ls' : Array Slot) (hd : decode bytes pc = .ok (.istore k, 2)) (hl : storeLocals ls k (.int x) = some ls') (hp : pc + 2 = pc') (kk : Ends p e below G (T.setTop (mkF m pc' ls' rest))) : Ends p e below G (T.setTop (mkF m pc ls (.int x :: rest))) := by
  subst hp; exact Ends.go (fun _ q => XS.istore X.st.here X.hx rfl (X.hd hd) rfl hl q) kk
theorem Wk.lstoreN (X : Wk co Z a0 EL own bytes maxL ret nm ws p l e R s m args below meth c vm0 T h locs cells slots) {k : Fin 4} {x : Int64} (ls' : Array Slot) (hd : decode bytes pc = .ok (.lstore_n k, 1)) (hl : storeLocals ls k.val (.long x) = some ls') (hp : pc + 1 = pc') (kk : Ends p e below G (T.setTop (mkF m pc' ls' rest))) : Ends p e below G (T.setTop (mkF m pc ls (.long x :: rest))) := by
  subst hp; exact Ends.go (fun _ q => XS.lstoreN X.st.here X.hx rfl (X.hd hd) rfl hl q) kk
theorem Wk.lstore (X : Wk co Z a0 EL own bytes maxL ret nm ws p l e R s m args below meth c vm0 T h locs cells slots) {k : Nat} {x : Int64} (ls' : Array Slot) (hd : decode bytes pc = .ok (.lstore k, 2)) (hl : storeLocals ls k (.long x) = some ls') (hp : pc + 2 = pc') (kk : Ends p e below G (T.setTop (mkF m pc' ls' rest))) : Ends p e below G (T.setTop (mkF m pc ls (.long x :: rest))) := by
  subst hp; exact Ends.go (fun _ q => XS.lstore X.st.here X.hx rfl (X.hd hd) rfl hl q) kk
theorem Wk.astoreN (X : Wk co Z a0 EL own bytes maxL ret nm ws p l e R s m args below meth c vm0 T h locs cells slots) {k : Fin 4} {x : Value} (ls' : Array Slot) (hd : decode bytes pc = .ok (.astore_n k, 1)) (hv : x.isRef = true) (hl : storeLocals ls k.val x = some ls') (hp : pc + 1 = pc') (kk : Ends p e below G (T.setTop (mkF m pc' ls' rest))) : Ends p e below G (T.setTop (mkF m pc ls (x :: rest))) := by
  subst hp; exact Ends.go (fun _ q => XS.astoreN X.st.here X.hx rfl (X.hd hd) rfl hv hl q) kk
theorem Wk.astore (X : Wk co Z a0 EL own bytes maxL ret nm ws p l e R s m args below meth c vm0 T h locs cells slots) {k : Nat} {x : Value} (ls' : Array Slot) (hd : decode bytes pc = .ok (.astore k, 2)) (hv : x.isRef = true) (hl : storeLocals ls k x = some ls') (hp : pc + 2 = pc') (kk : Ends p e below G (T.setTop (mkF m pc' ls' rest))) : Ends p e below G (T.setTop (mkF m pc ls (x :: rest))) := by
  subst hp; exact Ends.go (fun _ q => XS.astore X.st.here X.hx rfl (X.hd hd) rfl hv hl q) kk
theorem Wk.iinc (X : Wk co Z a0 EL own bytes maxL ret nm ws p l e R s m args below meth c vm0 T h locs cells slots) {k : Nat} {cst : Int} {x : Int32} (ls' : Array Slot) (hd : decode bytes pc = .ok (.iinc k cst, 3)) (hl : ls[k]? = some (.val (.int x))) (hl' : storeLocals ls k (.int (x + Int32.ofInt cst)) = some ls') (hp : pc + 3 = pc') (kk : Ends p e below G (T.setTop (mkF m pc' ls' rest))) : Ends p e below G (T.setTop (mkF m pc ls rest)) := by
  subst hp; exact Ends.go (fun _ q => XS.iinc X.st.here X.hx rfl (X.hd hd) hl hl' q) kk
theorem Wk.dup (X : Wk co Z a0 EL own bytes maxL ret nm ws p l e R s m args below meth c vm0 T h locs cells slots) {x : Value} (hd : decode bytes pc = .ok (.dup, 1)) (hc : x.category = 1) (hp : pc + 1 = pc') (k : Ends p e below G (T.setTop (mkF m pc' ls (x :: x :: rest)))) : Ends p e below G (T.setTop (mkF m pc ls (x :: rest))) := by
  subst hp; exact Ends.go (fun _ q => XS.dup X.st.here X.hx rfl (X.hd hd) rfl hc q) k
theorem Wk.pop (X : Wk co Z a0 EL own bytes maxL ret nm ws p l e R s m args below meth c vm0 T h locs cells slots) {x : Value} (hd : decode bytes pc = .ok (.pop, 1)) (hc : x.category = 1) (hp : pc + 1 = pc') (k : Ends p e below G (T.setTop (mkF m pc' ls rest))) : Ends p e below G (T.setTop (mkF m pc ls (x :: rest))) := by
  subst hp; exact Ends.go (fun _ q => XS.pop X.st.here X.hx rfl (X.hd hd) rfl hc q) k
theorem Wk.dupX1 (X : Wk co Z a0 EL own bytes maxL ret nm ws p l e R s m args below meth c vm0 T h locs cells slots) {x y : Value} (hd : decode bytes pc = .ok (.dup_x1, 1)) (hc : x.category = 1) (hc' : y.category = 1) (hp : pc + 1 = pc') (k : Ends p e below G (T.setTop (mkF m pc' ls (x :: y :: x :: rest)))) : Ends p e below G (T.setTop (mkF m pc ls (x :: y :: rest))) := by
  subst hp; exact Ends.go (fun _ q => XS.dupX1 X.st.here X.hx rfl (X.hd hd) rfl hc hc' q) k
theorem Wk.irem (X : Wk co Z a0 EL own bytes maxL ret nm ws p l e R s m args below meth c vm0 T h locs cells slots) {x y : Int32} (hd : decode bytes pc = .ok (.irem, 1)) (hy : y ≠ 0) (hp : pc + 1 = pc') (k : Ends p e below G (T.setTop (mkF m pc' ls (.int (x % y) :: rest)))) : Ends p e below G (T.setTop (mkF m pc ls (.int y :: .int x :: rest))) := by
  subst hp; exact Ends.go (fun _ q => iremM X.st X.hx rfl (X.hd hd) rfl hy q) k
theorem Wk.idiv (X : Wk co Z a0 EL own bytes maxL ret nm ws p l e R s m args below meth c vm0 T h locs cells slots) {x y : Int32} (hd : decode bytes pc = .ok (.idiv, 1)) (hy : y ≠ 0) (hp : pc + 1 = pc') (k : Ends p e below G (T.setTop (mkF m pc' ls (.int (x / y) :: rest)))) : Ends p e below G (T.setTop (mkF m pc ls (.int y :: .int x :: rest))) := by
  subst hp; exact Ends.go (fun _ q => XS.idiv X.st.here X.hx rfl (X.hd hd) rfl hy q) k
theorem Wk.goto (X : Wk co Z a0 EL own bytes maxL ret nm ws p l e R s m args below meth c vm0 T h locs cells slots)  {o : Int} (hd : decode bytes pc = .ok (.goto o, 3))  (ho : 0 ≤ (pc : Int) + o) (hp : ((pc : Int) + o).toNat = pc') (k : Ends p e below G (T.setTop (mkF m pc' ls rest))) : Ends p e below G (T.setTop (mkF m pc ls rest)) :=
  Ends.go (fun _ q => XS.goto X.st.here X.hx rfl (pc0 := pc) rfl (X.hd hd)  ho hp q) k
theorem Wk.ifY (X : Wk co Z a0 EL own bytes maxL ret nm ws p l e R s m args below meth c vm0 T h locs cells slots) {cd : ClassFile.Cond} {x : Int32} {o : Int} (hd : decode bytes pc = .ok (.ifCond cd o, 3)) (hc : ifCond.holds cd x = true) (ho : 0 ≤ (pc : Int) + o) (hp : ((pc : Int) + o).toNat = pc') (k : Ends p e below G (T.setTop (mkF m pc' ls rest))) : Ends p e below G (T.setTop (mkF m pc ls (.int x :: rest))) :=
  Ends.go (fun _ q => XS.ifYes X.st.here X.hx rfl (pc0 := pc) rfl (X.hd hd) rfl hc ho hp q) k
theorem Wk.ifN (X : Wk co Z a0 EL own bytes maxL ret nm ws p l e R s m args below meth c vm0 T h locs cells slots) {cd : ClassFile.Cond} {x : Int32} {o : Int} (hd : decode bytes pc = .ok (.ifCond cd o, 3)) (hc : ifCond.holds cd x = false) (hp : pc + 3 = pc') (k : Ends p e below G (T.setTop (mkF m pc' ls rest))) : Ends p e below G (T.setTop (mkF m pc ls (.int x :: rest))) := by
  subst hp; exact Ends.go (fun _ q => XS.ifNo X.st.here X.hx rfl (X.hd hd) rfl hc q) k
theorem Wk.icY (X : Wk co Z a0 EL own bytes maxL ret nm ws p l e R s m args below meth c vm0 T h locs cells slots) {cd : ClassFile.Cond} {x y : Int32} {o : Int} (hd : decode bytes pc = .ok (.if_icmp cd o, 3)) (hc : if_icmp.holds cd x y = true) (ho : 0 ≤ (pc : Int) + o) (hp : ((pc : Int) + o).toNat = pc') (k : Ends p e below G (T.setTop (mkF m pc' ls rest))) : Ends p e below G (T.setTop (mkF m pc ls (.int y :: .int x :: rest))) :=
  Ends.go (fun _ q => XS.icmpYes X.st.here X.hx rfl (pc0 := pc) rfl (X.hd hd) rfl hc ho hp q) k
theorem Wk.icN (X : Wk co Z a0 EL own bytes maxL ret nm ws p l e R s m args below meth c vm0 T h locs cells slots) {cd : ClassFile.Cond} {x y : Int32} {o : Int} (hd : decode bytes pc = .ok (.if_icmp cd o, 3)) (hc : if_icmp.holds cd x y = false) (hp : pc + 3 = pc') (k : Ends p e below G (T.setTop (mkF m pc' ls rest))) : Ends p e below G (T.setTop (mkF m pc ls (.int y :: .int x :: rest))) := by
  subst hp; exact Ends.go (fun _ q => XS.icmpNo X.st.here X.hx rfl (X.hd hd) rfl hc q) k
theorem Wk.nullY (X : Wk co Z a0 EL own bytes maxL ret nm ws p l e R s m args below meth c vm0 T h locs cells slots)  {o : Int} (hd : decode bytes pc = .ok (.ifnull o, 3))  (ho : 0 ≤ (pc : Int) + o) (hp : ((pc : Int) + o).toNat = pc') (k : Ends p e below G (T.setTop (mkF m pc' ls rest))) : Ends p e below G (T.setTop (mkF m pc ls (.null :: rest))) :=
  Ends.go (fun _ q => XS.ifnullYes X.st.here X.hx rfl (pc0 := pc) rfl (X.hd hd) rfl ho hp q) k
theorem Wk.nullN (X : Wk co Z a0 EL own bytes maxL ret nm ws p l e R s m args below meth c vm0 T h locs cells slots) {b : Addr} {o : Int} (hd : decode bytes pc = .ok (.ifnull o, 3))  (hp : pc + 3 = pc') (k : Ends p e below G (T.setTop (mkF m pc' ls rest))) : Ends p e below G (T.setTop (mkF m pc ls (.ref b :: rest))) := by
  subst hp; exact Ends.go (fun _ q => XS.ifnullNo X.st.here X.hx rfl (X.hd hd) rfl q) k
theorem Wk.nonY (X : Wk co Z a0 EL own bytes maxL ret nm ws p l e R s m args below meth c vm0 T h locs cells slots) {b : Addr} {o : Int} (hd : decode bytes pc = .ok (.ifnonnull o, 3))  (ho : 0 ≤ (pc : Int) + o) (hp : ((pc : Int) + o).toNat = pc') (k : Ends p e below G (T.setTop (mkF m pc' ls rest))) : Ends p e below G (T.setTop (mkF m pc ls (.ref b :: rest))) :=
  Ends.go (fun _ q => XS.ifnonnullYes X.st.here X.hx rfl (pc0 := pc) rfl (X.hd hd) rfl ho hp q) k
theorem Wk.nonN (X : Wk co Z a0 EL own bytes maxL ret nm ws p l e R s m args below meth c vm0 T h locs cells slots)  {o : Int} (hd : decode bytes pc = .ok (.ifnonnull o, 3))  (hp : pc + 3 = pc') (k : Ends p e below G (T.setTop (mkF m pc' ls rest))) : Ends p e below G (T.setTop (mkF m pc ls (.null :: rest))) := by
  subst hp; exact Ends.go (fun _ q => XS.ifnonnullNo X.st.here X.hx rfl (X.hd hd) rfl q) k
theorem Wk.acmp (X : Wk co Z a0 EL own bytes maxL ret nm ws p l e R s m args below meth c vm0 T h locs cells slots) {cd : ACond} {x y : Value} {o : Int} (hd : decode bytes pc = .ok (.if_acmp cd o, 3)) (h1 : x.isRef = true) (h2 : y.isRef = true) (same : Bool) (hq : decide (x = y) = same) (ho : 0 ≤ (pc : Int) + o) (hp : pc' = if acV cd same = true then ((pc : Int) + o).toNat else pc + 3) (k : Ends p e below G (T.setTop (mkF m pc' ls rest))) : Ends p e below G (T.setTop (mkF m pc ls (y :: x :: rest))) :=
  Ends.go (fun _ q => Jvm.RoadKit.acmp (g := mkF m pc ls (y :: x :: rest)) X.st X.hx rfl h1 h2 (pc0 := pc) rfl (X.hd hd) rfl hq ho hp q) k
theorem Wk.getF (X : Wk co Z a0 EL own bytes maxL ret nm ws p l e R s m args below meth c vm0 T h locs cells slots) {R0 O n d : String} {index : Nat} (w : (Cond.fieldLink own index R0 n d).before a0 Z = true) (via : Via Z R0 O n d) {a : Addr} {v : Value} (F : Fld Z h a O n d v) (hd : decode bytes pc = .ok (.getfield index, 3)) (hp : pc + 3 = pc') (k : ∀ T, Wk co Z a0 EL own bytes maxL ret nm ws p l e R s m args below meth c vm0 T h locs cells slots → Ends p e below G (T.setTop (mkF m pc' ls (v :: rest)))) : Ends p e below G (T.setTop (mkF m pc ls (.ref a :: rest))) := by
  subst hp
  obtain ⟨T', Y, e', st⟩ := RoadKit.getF X.st X.hx X.hZ X.hown (host := "") (Or.inl w) via X.eT F (g := mkF m pc ls (.ref a :: rest)) rfl rfl (X.hd hd)
  exact Ends.go (fun _ q => st _ q) (k _ (X.same Y e'))
theorem Wk.getS (X : Wk co Z a0 EL own bytes maxL ret nm ws p l e R s m args below meth c vm0 T h locs cells slots) {R0 O n d : String} {index : Nat} (w : (Cond.fieldLink own index R0 n d).before a0 Z = true) (via : Via Z R0 O n d) {v : Value} (F : Sta Z Z.heap O n d v) (hd : decode bytes pc = .ok (.getstatic index, 3)) (hp : pc + 3 = pc') (k : ∀ T, Wk co Z a0 EL own bytes maxL ret nm ws p l e R s m args below meth c vm0 T h locs cells slots → Ends p e below G (T.setTop (mkF m pc' ls (v :: rest)))) : Ends p e below G (T.setTop (mkF m pc ls rest)) := by
  subst hp
  obtain ⟨T', Y, e', st⟩ := RoadKit.getS (host := "") X.st X.hx X.hZ X.hown w via X.eT (F.ext X.old) (g := mkF m pc ls rest) rfl (X.hd hd)
  exact Ends.go (fun _ q => st _ q) (k _ (X.same Y e'))
theorem Wk.putF (X : Wk co Z a0 EL own bytes maxL ret nm ws p l e R s m args below meth c vm0 T h locs cells slots) {R0 O n d C : String} {index kk : Nat} (w : (Cond.fieldLink own index R0 n d).before a0 Z = true) (via : Via Z R0 O n d) {a : Addr} {v old : Value} (F : Fld Z h a O n d old) (E : Exa Z h a C) (L : (Cond.lays C O n d).before a0 Z = true ∨ ((Cond.laysFinal C O n d).before a0 Z = true ∧ own = O ∧ nm = "<init>")) (wi : (Cond.instantiable C kk).before a0 Z = true) (ty : FieldType) (hty : parseFieldDescriptor d = some ty) (hn : narrow ty v = v) (hf : fits ty v = true) (S : Safe Z EL vm0 h a) (hz : Z.heap.size ≤ a) (hk : a ∈ ws ∨ s.heap.size ≤ a) (hd : decode bytes pc = .ok (.putfield index, 3)) (hp : pc + 3 = pc') (k : ∀ T h' L, Wk co Z a0 EL own bytes maxL ret nm ws p l e R s m args below meth c vm0 T h' L cells slots → Wr h h' a (RoadKit.slotOf Z O n d) v → Ends p e below G (T.setTop (mkF m pc' ls rest))) : Ends p e below G (T.setTop (mkF m pc ls (v :: .ref a :: rest))) := by
  subst hp
  obtain ⟨T', h', Y, e', W, st⟩ := RoadKit.putF X.st X.hx X.hZ X.hown (host := "") (Or.inl w) via X.eT F E (L.imp id fun q => ⟨q.1, q.2.1, X.hnm.trans q.2.2⟩) wi hty hn hf (g := mkF m pc ls (v :: .ref a :: rest)) rfl rfl (X.hd hd)
  exact Ends.go (fun _ q => st _ q) (k _ _ _ (X.wr Y e' W S hz hk) W)
theorem Wk.newO (X : Wk co Z a0 EL own bytes maxL ret nm ws p l e R s m args below meth c vm0 T h locs cells slots) {C : String} {index n : Nat} (w : (Cond.classLink own index C).before a0 Z = true) (wi : (Cond.instantiable C n).before a0 Z = true) (wz : (Cond.initialized C).before a0 Z = true) (hd : decode bytes pc = .ok (.new index, 3)) (hc : cells + 1 ≤ R.cells) (hl : slots + n ≤ R.slots) (hp : pc + 3 = pc') (k : ∀ T h' b, b = h.size → Ext h h' → b < h'.size → Exa Z h' b C → (∀ {O nm d : String} {ty : FieldType}, Laid Z a0 C O nm d → parseFieldDescriptor d = some ty → Fld Z h' b O nm d (defaultValue ty)) → Wk co Z a0 EL own bytes maxL ret nm ws p l e R s m args below meth c vm0 T h' locs (cells + 1) (slots + n) → Ends p e below G (T.setTop (mkF m pc' ls (.ref b :: rest)))) : Ends p e below G (T.setTop (mkF m pc ls rest)) := by
  subst hp
  obtain ⟨T', h', Y, e', E, A, D, -, st⟩ := RoadKit.newO X.st X.hx X.hZ X.hown w wi wz X.eT (g := mkF m pc ls rest) rfl (X.hd hd) hc hl
  exact Ends.go (fun _ q => st _ q) (k _ _ _ rfl E A.lt A D (X.ext Y e' E))
theorem Wk.newP (X : Wk co Z a0 EL own bytes maxL ret nm ws p l e R s m args below meth c vm0 T h locs cells slots) {aty : ArrayType} (w : (Cond.arrayClass (newarray.typeOf aty)).before a0 Z = true) {n : Int32} (hd : decode bytes pc = .ok (.newarray aty, 2)) (hn : ¬ n < 0) (cap : Nat) (hcap : n.toNatClampNeg ≤ cap) (hb : cap * 8 ≤ 536870912) (hc : cells + 1 ≤ R.cells) (hl : slots + cap ≤ R.slots) (hp : pc + 2 = pc') (k : ∀ T h' b ka, b = h.size → Ext h h' → b < h'.size → Arv Z h' b ka (newarray.typeOf aty) n [] (defaultValue (newarray.typeOf aty)) → Wk co Z a0 EL own bytes maxL ret nm ws p l e R s m args below meth c vm0 T h' locs (cells + 1) (slots + cap) → Ends p e below G (T.setTop (mkF m pc' ls (.ref b :: rest)))) : Ends p e below G (T.setTop (mkF m pc ls (.int n :: rest))) := by
  subst hp
  obtain ⟨T', h', ka, Y, e', E, A, st⟩ := RoadKit.newP X.st X.hx X.hZ w X.eT (g := mkF m pc ls (.int n :: rest)) rfl (X.hd hd) rfl hn hcap hb hc hl
  exact Ends.go (fun _ q => st _ q) (k _ _ _ _ rfl E A.lt (Arv.new A hn) (X.ext Y e' E))
theorem Wk.castore (X : Wk co Z a0 EL own bytes maxL ret nm ws p l e R s m args below meth c vm0 T h locs cells slots) {a : Addr} {ka : ClassId} {z j x : Int32} {vs : List Value} {dv : Value} (A : Arv Z h a ka .char z vs dv) (hj : ¬ j < 0 ∧ j < z) (i : Nat) (hi : j.toNatClampNeg = i) (hl : i < vs.length) (hz : Z.heap.size ≤ a) (hk : a ∈ ws ∨ s.heap.size ≤ a) (hd : decode bytes pc = .ok (.castore, 1)) (hp : pc + 1 = pc') (k : ∀ T h' L, Wk co Z a0 EL own bytes maxL ret nm ws p l e R s m args below meth c vm0 T h' L cells slots → Wr h h' a j.toNatClampNeg (.int (nar .char x)) → Arv Z h' a ka .char z (vs.set i (.int (nar .char x))) dv → Ends p e below G (T.setTop (mkF m pc' ls rest))) : Ends p e below G (T.setTop (mkF m pc ls (.int x :: .int j :: .ref a :: rest))) := by
  subst hp
  have S0 := (Safe.arv (EL := EL) X.al A (by decide))
  obtain ⟨cl, Ar, q1, S1, N1, H1, G1⟩ := A
  obtain ⟨T', h', Y, e', W, st⟩ := RoadKit.stC X.st X.hx X.hZ X.eT Ar (j := j) (inb_of S1 hj) (g := mkF m pc ls (.int x :: .int j :: .ref a :: rest)) rfl rfl (X.hd hd)
  exact Ends.go (fun _ q => st _ q) (k _ _ _ (X.wr Y e' W S0 hz hk) W (Arv.set Ar q1 S1 N1 H1 G1 (fits_nar_char _) W i hi hl))
theorem Wk.bastore (X : Wk co Z a0 EL own bytes maxL ret nm ws p l e R s m args below meth c vm0 T h locs cells slots) {a : Addr} {ka : ClassId} {z j x : Int32} {vs : List Value} {dv : Value} (A : Arv Z h a ka .byte z vs dv) (hj : ¬ j < 0 ∧ j < z) (i : Nat) (hi : j.toNatClampNeg = i) (hl : i < vs.length) (S : Safe Z EL vm0 h a) (hz : Z.heap.size ≤ a) (hk : a ∈ ws ∨ s.heap.size ≤ a) (hd : decode bytes pc = .ok (.bastore, 1)) (hp : pc + 1 = pc') (k : ∀ T h' L, Wk co Z a0 EL own bytes maxL ret nm ws p l e R s m args below meth c vm0 T h' L cells slots → Wr h h' a j.toNatClampNeg (.int (nar .byte x)) → Arv Z h' a ka .byte z (vs.set i (.int (nar .byte x))) dv → Ends p e below G (T.setTop (mkF m pc' ls rest))) : Ends p e below G (T.setTop (mkF m pc ls (.int x :: .int j :: .ref a :: rest))) := by
  subst hp
  have S0 := S
  obtain ⟨cl, Ar, q1, S1, N1, H1, G1⟩ := A
  obtain ⟨T', h', Y, e', W, st⟩ := RoadKit.stB X.st X.hx X.hZ X.eT Ar (j := j) (inb_of S1 hj) (g := mkF m pc ls (.int x :: .int j :: .ref a :: rest)) rfl rfl (X.hd hd)
  exact Ends.go (fun _ q => st _ q) (k _ _ _ (X.wr Y e' W S0 hz hk) W (Arv.set Ar q1 S1 N1 H1 G1 (fits_nar_byte _) W i hi hl))
theorem Wk.caload (X : Wk co Z a0 EL own bytes maxL ret nm ws p l e R s m args below meth c vm0 T h locs cells slots) {a : Addr} {ka : ClassId} {z j v : Int32} {vs : List Value} {dv : Value} (A : Arv Z h a ka .char z vs dv) (hj : ¬ j < 0 ∧ j < z) (hv : vs.getD j.toNatClampNeg dv = .int v) (hd : decode bytes pc = .ok (.caload, 1)) (hp : pc + 1 = pc') (k : Ends p e below G (T.setTop (mkF m pc' ls (.int v :: rest)))) : Ends p e below G (T.setTop (mkF m pc ls (.int j :: .ref a :: rest))) := by
  subst hp
  obtain ⟨cl, Ar, q1, S1, N1, H1, G1⟩ := A
  have hin := inb_of S1 hj
  exact Ends.go (fun t q => X.st.caload X.hx (j := j) (v := .int v) (by rw [X.eT]; exact Ar.1) (State.isArrayOf_alike X.al Ar.2.1) Ar.2.2 hin (H1.at hin hv) (g := mkF m pc ls (.int j :: .ref a :: rest)) rfl rfl (X.hd hd) t q) k
theorem Wk.baload (X : Wk co Z a0 EL own bytes maxL ret nm ws p l e R s m args below meth c vm0 T h locs cells slots) {a : Addr} {ka : ClassId} {z j v : Int32} {vs : List Value} {dv : Value} (A : Arv Z h a ka .byte z vs dv) (hj : ¬ j < 0 ∧ j < z) (hv : vs.getD j.toNatClampNeg dv = .int v) (hd : decode bytes pc = .ok (.baload, 1)) (hp : pc + 1 = pc') (k : Ends p e below G (T.setTop (mkF m pc' ls (.int v :: rest)))) : Ends p e below G (T.setTop (mkF m pc ls (.int j :: .ref a :: rest))) := by
  subst hp
  obtain ⟨cl, Ar, q1, S1, N1, H1, G1⟩ := A
  have hin := inb_of S1 hj
  exact Ends.go (fun t q => X.st.baloadBytes X.hx (j := j) (v := .int v) (by rw [X.eT]; exact Ar.1) (State.isArrayOf_alike X.al Ar.2.1) Ar.2.2 hin (H1.at hin hv) (g := mkF m pc ls (.int j :: .ref a :: rest)) rfl rfl (X.hd hd) t q) k
theorem Wk.alen (X : Wk co Z a0 EL own bytes maxL ret nm ws p l e R s m args below meth c vm0 T h locs cells slots) {a : Addr} {ka : ClassId} {ty : FieldType} {z : Int32} {vs : List Value} {dv : Value} (A : Arv Z h a ka ty z vs dv) (hd : decode bytes pc = .ok (.arraylength, 1)) (hp : pc + 1 = pc') (k : Ends p e below G (T.setTop (mkF m pc' ls (.int z :: rest)))) : Ends p e below G (T.setTop (mkF m pc ls (.ref a :: rest))) := by
  subst hp
  obtain ⟨cl, Ar, q1, S1, N1, H1, G1⟩ := A
  refine Ends.go (fun t q => X.st.arraylength X.hx (by rw [X.eT]; exact Ar.1) (State.isArrayOf_alike X.al Ar.2.1) (g := mkF m pc ls (.ref a :: rest)) rfl rfl (X.hd hd) t ?_) k
  rw [len_of S1 N1]; exact q
theorem Wk.castY (X : Wk co Z a0 EL own bytes maxL ret nm ws p l e R s m args below meth c vm0 T h locs cells slots) {K : String} {index : Nat} (w : (Cond.classLink own index K).before a0 Z = true) {a : Addr} (F : Ins Z h a K true) (hd : decode bytes pc = .ok (.checkcast index, 3)) (hp : pc + 3 = pc') (k : ∀ T, Wk co Z a0 EL own bytes maxL ret nm ws p l e R s m args below meth c vm0 T h locs cells slots → Ends p e below G (T.setTop (mkF m pc' ls (.ref a :: rest)))) : Ends p e below G (T.setTop (mkF m pc ls (.ref a :: rest))) := by
  subst hp
  obtain ⟨T', Y, e', st⟩ := RoadKit.castY X.st X.hx X.hZ X.hown w X.eT F (g := mkF m pc ls (.ref a :: rest)) rfl rfl (X.hd hd)
  exact Ends.go (fun _ q => st _ q) (k _ (X.same Y e'))
theorem Wk.instY (X : Wk co Z a0 EL own bytes maxL ret nm ws p l e R s m args below meth c vm0 T h locs cells slots) {K : String} {index : Nat} (w : (Cond.classLink own index K).before a0 Z = true) {a : Addr} (F : Ins Z h a K true) (hd : decode bytes pc = .ok (.instanceof index, 3)) (hp : pc + 3 = pc') (k : ∀ T, Wk co Z a0 EL own bytes maxL ret nm ws p l e R s m args below meth c vm0 T h locs cells slots → Ends p e below G (T.setTop (mkF m pc' ls (.int 1 :: rest)))) : Ends p e below G (T.setTop (mkF m pc ls (.ref a :: rest))) := by
  subst hp
  obtain ⟨T', Y, e', st⟩ := RoadKit.instY X.st X.hx X.hZ X.hown w X.eT F (g := mkF m pc ls (.ref a :: rest)) rfl rfl (X.hd hd)
  exact Ends.go (fun _ q => st _ q) (k _ (X.same Y e'))
theorem Wk.instNo (X : Wk co Z a0 EL own bytes maxL ret nm ws p l e R s m args below meth c vm0 T h locs cells slots) {K C : String} {index : Nat} (w : (Cond.classLink own index K).before a0 Z = true) {a : Addr} (E : Exa Z h a C) (F : ∃ c t, Z.vm.findClass C = some c ∧ Z.vm.findClass K = some t ∧ Z.vm.assignable c t = false) (hd : decode bytes pc = .ok (.instanceof index, 3)) (hp : pc + 3 = pc') (k : ∀ T, Wk co Z a0 EL own bytes maxL ret nm ws p l e R s m args below meth c vm0 T h locs cells slots → Ends p e below G (T.setTop (mkF m pc' ls (.int 0 :: rest)))) : Ends p e below G (T.setTop (mkF m pc ls (.ref a :: rest))) := by
  subst hp
  obtain ⟨T', Y, e', st⟩ := RoadKit.instNo X.st X.hx X.hZ X.hown w X.eT E F (g := mkF m pc ls (.ref a :: rest)) rfl rfl (X.hd hd)
  exact Ends.go (fun _ q => st _ q) (k _ (X.same Y e'))
theorem Wk.instNull (X : Wk co Z a0 EL own bytes maxL ret nm ws p l e R s m args below meth c vm0 T h locs cells slots) {index : Nat} (hd : decode bytes pc = .ok (.instanceof index, 3)) (hp : pc + 3 = pc') (k : Ends p e below G (T.setTop (mkF m pc' ls (.int 0 :: rest)))) : Ends p e below G (T.setTop (mkF m pc ls (.null :: rest))) := by
  subst hp
  exact Ends.go (fun t q => X.st.instanceofNull X.hx (g := mkF m pc ls (.null :: rest)) rfl rfl (X.hd hd) t q) k
theorem Wk.ldcI (X : Wk co Z a0 EL own bytes maxL ret nm ws p l e R s m args below meth c vm0 T h locs cells slots) {index : Nat} {v : Int32} (w : (Cond.constant own index v).before a0 Z = true) (hd : decode bytes pc = .ok (.ldc index, 2)) (hp : pc + 2 = pc') (k : Ends p e below G (T.setTop (mkF m pc' ls (.int v :: rest)))) : Ends p e below G (T.setTop (mkF m pc ls rest)) := by
  subst hp
  exact Ends.go (fun t q => X.st.ldcInt X.hx X.hown (mvT X.hZ w) (g := mkF m pc ls rest) rfl (X.hd hd) t q) k
theorem Wk.ldcJ (X : Wk co Z a0 EL own bytes maxL ret nm ws p l e R s m args below meth c vm0 T h locs cells slots) {index : Nat} {v : Int64} (w : (Cond.constantLong own index v).before a0 Z = true) (hd : decode bytes pc = .ok (.ldc2_w index, 3)) (hp : pc + 3 = pc') (k : Ends p e below G (T.setTop (mkF m pc' ls (.long v :: rest)))) : Ends p e below G (T.setTop (mkF m pc ls rest)) := by
  subst hp
  exact Ends.go (fun t q => X.st.ldc2Long X.hx X.hown (mvT X.hZ w) (g := mkF m pc ls rest) rfl (X.hd hd) t q) k
theorem Wk.initO (X : Wk co Z a0 EL own bytes maxL ret nm ws p l e R s m args below meth c vm0 T h locs cells slots) {idx : Nat} (w1 : (Cond.methodLink own idx Lib.objectInit).before a0 Z = true) (w2 : (Cond.instanceMethod Lib.objectInit).before a0 Z = true) (w3 : (Cond.code Lib.objectInit ⟨#[0xb1]⟩ 1 none).before a0 Z = true) {a : Addr} (hls : ls.size = maxL) (hd : decode bytes pc = .ok (.invokespecial idx, 3)) (hfr : 1 ≤ R.frames) (hlo : (rest.map fun v => v.category).sum + 12 ≤ R.locals) (hp : pc + 3 = pc') (k : ∀ T, Wk co Z a0 EL own bytes maxL ret nm ws p l e R s m args below meth c vm0 T h locs cells slots → Ends p e below G (T.setTop (mkF m pc' ls rest))) : Ends p e below G (T.setTop (mkF m pc ls (.ref a :: rest))) := by
  subst hp
  obtain ⟨T', Y, e', st⟩ := RoadKit.initO X.st X.hx X.hZ X.hown w1 w2 w3 X.eT (g := mkF m pc ls (.ref a :: rest)) rfl (hls.trans X.hml.symm) rfl (X.hd hd) hfr (W := (rest.map fun v => v.category).sum) (by show 2 * 0 + _ ≤ _; rw [Nat.mul_zero, Nat.zero_add]; exact Nat.le_refl _) (by omega)
  exact Ends.go (fun _ q => st _ q) (k _ (X.same Y e'))
/-- ldc of a String constant of EL, read -/
theorem Wk.ldcS (X : Wk true Z a0 EL own bytes maxL ret nm ws p l e R s m args below meth c vm0 T h locs cells slots) {index : Nat} {text : String} (w : (Cond.stringLink own index text).before a0 Z = true) (wS : ∀ a ∈ Bundle.stringAtoms, a.before a0 Z = true) (hmem : (own, index) ∈ EL) {vs : List Value} {z : Int32} (ht : (∀ c ∈ text.toList, c.toNat < 256) ∧ text.toList.map (fun c => Value.int (Jvm.Lit.byteI c.toNat.toUInt16)) = vs) (hz : ¬ z < 0) (hl : z.toNatClampNeg = vs.length) (hd : decode bytes pc = .ok (.ldc index, 2)) (n : Nat) (hn : 4 * text.toList.length ≤ n) (hbig : n ≤ 536870912) (hc : cells + 2 ≤ R.cells) (hl' : slots + (n + 4) ≤ R.slots) (hp : pc + 2 = pc') (k : ∀ (T : State) (vm : Vm) (h' : Heap) (a b : Addr) (ka : ClassId), Ext h h' → CHr Z EL vm0 h vm h' → Exa Z h' a "java/lang/String" → Fld Z h' a "java/lang/String" "coder" "B" (.int 0) → Fld Z h' a "java/lang/String" "value" "[B" (.ref b) → Arv Z h' b ka .byte z vs (.int 0) → a < h'.size → b < h'.size → (∀ x, Safe Z EL vm h' x → x ≠ a ∧ x ≠ b) → Wk true Z a0 EL own bytes maxL ret nm ws p l e R s m args below meth c vm T h' locs (cells + 2) (slots + (n + 4)) → Ends p e below G (T.setTop (mkF m pc' ls (.ref a :: rest)))) : Ends p e below G (T.setTop (mkF m pc ls rest)) := by
  subst hp
  obtain ⟨k0, k1, k2⟩ := X.since
  obtain ⟨a, T', h', kk, b, ka, Y, rfl, E, hS, hk, hW, ho, x1, x2, x3, x4, x5, x6, hC, -, hsf, st⟩ := RoadKit.ldcCH X.st X.hx X.hZ X.hown w wS X.eT k1 k2 X.ew hmem X.H ht hz hl (g := mkF m pc ls rest) rfl (X.hd hd) hn hbig hc hl'
  exact Ends.go (fun _ q => st _ q) (k _ _ _ _ _ _ E hC x1 x2 x3 x4 x5 x6 hsf ⟨Y, rfl, ⟨_, hS, hk⟩, fun q => (by cases q), hW, ho, X.ch.trans hC, X.ew, X.2.2.2.2.2.2.2.2.1, ⟨Nat.le_trans X.old.1 E.1, fun a cl q => E.2 _ _ (X.old.2 _ _ q)⟩, X.fr, X.kp.ext E⟩)
/-- ldc of any String constant, opaque -/
theorem Wk.ldcO (X : Wk true Z a0 EL own bytes maxL ret nm ws p l e R s m args below meth c vm0 T h locs cells slots) {index : Nat} {text : String} (w : (Cond.stringLink own index text).before a0 Z = true) (wS : ∀ a ∈ Bundle.stringAtoms, a.before a0 Z = true) (hd : decode bytes pc = .ok (.ldc index, 2)) (n : Nat) (hn : 4 * text.toList.length ≤ n) (hbig : n ≤ 536870912) (hc : cells + 2 ≤ R.cells) (hl' : slots + (n + 4) ≤ R.slots) (hp : pc + 2 = pc') (k : ∀ (T : State) (vm : Vm) (h' : Heap) (a : Addr), Ext h h' → CHr Z EL vm0 h vm h' → Wk true Z a0 EL own bytes maxL ret nm ws p l e R s m args below meth c vm T h' locs (cells + 2) (slots + (n + 4)) → Ends p e below G (T.setTop (mkF m pc' ls (.ref a :: rest)))) : Ends p e below G (T.setTop (mkF m pc ls rest)) := by
  subst hp
  obtain ⟨k0, k1, k2⟩ := X.since
  obtain ⟨a, T', h', kk, Y, rfl, E, hS, hk, hW, ho, hC, -, st⟩ := RoadKit.ldcOH X.st X.hx X.hZ X.hown w wS X.eT k1 k2 X.ew X.H (g := mkF m pc ls rest) rfl (X.hd hd) hn hbig hc hl'
  exact Ends.go (fun _ q => st _ q) (k _ _ _ _ E hC ⟨Y, rfl, ⟨_, hS, hk⟩, fun q => (by cases q), hW, ho, X.ch.trans hC, X.ew, X.2.2.2.2.2.2.2.2.1, ⟨Nat.le_trans X.old.1 E.1, fun a cl q => E.2 _ _ (X.old.2 _ _ q)⟩, X.fr, X.kp.ext E⟩)
end Walk
/-- what a method's law says; narrow -/
def MN (l : Launch) (Z : State) (y : MethodName) (bytes : ByteArray) (maxL : Nat) (ret : Option FieldType) (xs : List Jvm.Cond) (rm : Room) (as' : Array Value) (h : Heap) (ws : List Addr) (Q : Option Value → Heap → Prop) : Prop :=
  MetFree l y (head1 (Cond.code y bytes maxL ret :: xs) rm) (fun a U => a = as' ∧ Z.Warmed39 U.vm ∧ U.heap = h) (fun _ _ _ _ _ => True) (fun _ U o U' => ∃ v L, o = .returned v ∧ (Q v U'.heap ∧ Fr Z.heap.size L ∧ Keep h U'.heap ws ∧ Ext Z.heap U'.heap) ∧ FrameEnd U o U' L rm.cells rm.slots)
/-- .. of one that may intern -/
def MCc (l : Launch) (Z : State) (EL : List (String × Nat)) (y : MethodName) (bytes : ByteArray) (maxL : Nat) (ret : Option FieldType) (xs : List Jvm.Cond) (rm : Room) (as' : Array Value) (h : Heap) (ws : List Addr) (Q : Option Value → Heap → Prop) : Prop :=
  MetFree l y (head1 (Cond.code y bytes maxL ret :: xs) rm) (fun a U => a = as' ∧ Z.Warmed39 U.vm ∧ U.heap = h ∧ CHv Z EL U.vm h) (fun _ _ _ _ _ => True) (fun _ U o U' => ∃ v L, o = .returned v ∧ (Q v U'.heap ∧ Fr Z.heap.size L ∧ Keep h U'.heap ws ∧ Ext Z.heap U'.heap) ∧ CHr Z EL U.vm U.heap U'.vm U'.heap ∧ ReturnedEndW U o U' L rm.cells rm.slots)
def GN (Z : State) (ws : List Addr) (Q : Option Value → Heap → Prop) (rm : Room) (s : State) (o : Outcome) (U' : State) : Prop :=
  ∃ v L, o = .returned v ∧ (Q v U'.heap ∧ Fr Z.heap.size L ∧ Keep s.heap U'.heap ws ∧ Ext Z.heap U'.heap) ∧ FrameEnd s o U' L rm.cells rm.slots
def GC (Z : State) (EL : List (String × Nat)) (ws : List Addr) (Q : Option Value → Heap → Prop) (rm : Room) (s : State) (o : Outcome) (U' : State) : Prop :=
  ∃ v L, o = .returned v ∧ (Q v U'.heap ∧ Fr Z.heap.size L ∧ Keep s.heap U'.heap ws ∧ Ext Z.heap U'.heap) ∧ CHr Z EL s.vm s.heap U'.vm U'.heap ∧ ReturnedEndW s o U' L rm.cells rm.slots
abbrev RV (Q : Value → Heap → Prop) : Option Value → Heap → Prop := fun v h => ∃ w, v = some w ∧ Q w h
abbrev RU (Q : Heap → Prop) : Option Value → Heap → Prop := fun v h => v = none ∧ Q h
abbrev RO (h0 : Heap) : Option Value → Heap → Prop := fun v h => v = none ∧ h = h0
abbrev RP (h0 : Heap) (Q : Value → Prop) : Option Value → Heap → Prop := fun v h => ∃ w, v = some w ∧ h = h0 ∧ Q w
theorem MN.mk {l : Launch} {Z : State} {a0 : Array Value} {y : MethodName} {bytes : ByteArray} {maxL : Nat} {ret : Option FieldType} {xs : List Jvm.Cond} {rm : Room} {as' : Array Value} {h : Heap} {ws : List Addr} {Q : Option Value → Heap → Prop} {ls0 : Array Slot} {own nm : String} (ho : y.cls = own) (hnm : y.name = nm) (pn : plainFor y = true) (O : Ext Z.heap h) (ef : ∀ m, entryFrame m as' maxL = mkF m 0 ls0 [])
    (body : ∀ (p : Program) (e : Env) (s : State) (m : MethodId) (below : List Frame) (meth : Method) (c : Code) (T : State), s.heap = h → Wk false Z a0 [] own bytes maxL ret nm ws p l e rm s m as' below meth c s.vm T h [] 0 0 → Ends p e below (GN Z ws Q rm s) (T.setTop (mkF m 0 ls0 []))) : MN l Z y bytes maxL ret xs rm as' h ws Q := by
  subst ho hnm
  refine MetFree.of_bodySF pn hisR ?_
  intro p e s m args below meth c s₁ Bd hml hP hK
  obtain ⟨rfl, hZ, rfl⟩ := hP
  have e0 : s₁.heap = s.heap := by rw [Bd.state]; rfl
  obtain ⟨s₂, o, h1, h2, h3, v, L, h4, h5, h6⟩ := body p e s m below meth c s₁ rfl ⟨Stand.of_body Bd, e0, ⟨0, (State.WarmedH.refl s).since _, Nat.zero_le _⟩, fun _ => rfl, hZ, findClass_of_methodNamed Bd.named, chrE (Nat.le_refl _), EW.nil, ⟨Bd.exec, Bd.bytes, hml, Bd.returns, (name_of_methodNamed Bd.named Bd.method).1, Bd.notSynchronized⟩, O, Fr.nil _, Keep.refl _ _⟩
  exact ⟨s₂, o, castTop (ef m) h1, h2, h3, v, L, h4, h5, h6⟩
theorem MCc.mk {l : Launch} {Z : State} {a0 : Array Value} {EL : List (String × Nat)} {y : MethodName} {bytes : ByteArray} {maxL : Nat} {ret : Option FieldType} {xs : List Jvm.Cond} {rm : Room} {as' : Array Value} {h : Heap} {ws : List Addr} {Q : Option Value → Heap → Prop} {ls0 : Array Slot} {own nm : String} (ho : y.cls = own) (hnm : y.name = nm) (pn : plainFor y = true) (O : Ext Z.heap h) (ew : EW Z a0 EL) (ef : ∀ m, entryFrame m as' maxL = mkF m 0 ls0 [])
    (body : ∀ (p : Program) (e : Env) (s : State) (m : MethodId) (below : List Frame) (meth : Method) (c : Code) (T : State), s.heap = h → Wk true Z a0 EL own bytes maxL ret nm ws p l e rm s m as' below meth c s.vm T h [] 0 0 → Ends p e below (GC Z EL ws Q rm s) (T.setTop (mkF m 0 ls0 []))) : MCc l Z EL y bytes maxL ret xs rm as' h ws Q := by
  subst ho hnm
  refine MetFree.of_bodySF pn hisR ?_
  intro p e s m args below meth c s₁ Bd hml hP hK
  obtain ⟨rfl, hZ, rfl, hC⟩ := hP
  have e0 : s₁.heap = s.heap := by rw [Bd.state]; rfl
  obtain ⟨s₂, o, h1, h2, h3, v, L, h4, h5, h6⟩ := body p e s m below meth c s₁ rfl ⟨Stand.of_body Bd, e0, ⟨0, (State.WarmedH.refl s).since _, Nat.zero_le _⟩, fun _ => rfl, hZ, findClass_of_methodNamed Bd.named, CHr.refl hC, ew, ⟨Bd.exec, Bd.bytes, hml, Bd.returns, (name_of_methodNamed Bd.named Bd.method).1, Bd.notSynchronized⟩, O, Fr.nil _, Keep.refl _ _⟩
  exact ⟨s₂, o, castTop (ef m) h1, h2, h3, v, L, h4, h5, h6⟩
section Ends2
variable {co : Bool} {Z : State} {a0 : Array Value} {EL : List (String × Nat)} {own : String} {bytes : ByteArray} {maxL : Nat} {ret : Option FieldType} {nm : String} {ws : List Addr} {p : Program} {l : Launch} {e : Env} {R : Room} {s : State} {m : MethodId} {args : Array Value} {below : List Frame} {meth : Method} {c : Code} {vm0 : Vm} {T : State} {h : Heap} {locs : List Loc} {cells slots : Nat} {G : Outcome → State → Prop} {pc pc' : Nat} {ls : Array Slot} {rest : List Value} {Q : Option Value → Heap → Prop}
theorem Wk.retN (X : Wk false Z a0 [] own bytes maxL ret nm ws p l e R s m args below meth c vm0 T h locs cells slots) {t : FieldType} {w : Value} {i : Instr} (hR : ret = some t) (hn : narrow t w = w) (hi : (i = .ireturn ∧ (t = .int ∨ t = .boolean ∨ t = .byte ∨ t = .char ∨ t = .short) ∧ ∃ z, w = .int z) ∨ (i = .lreturn ∧ t = .long ∧ ∃ z, w = .long z) ∨ (i = .dreturn ∧ t = .double ∧ ∃ z, w = .double z) ∨ (i = .freturn ∧ t = .float ∧ ∃ z, w = .float z) ∨ (i = .areturn ∧ t.isReference = true ∧ w.isRef = true)) (hd : decode bytes pc = .ok (i, 1)) (hc : cells ≤ R.cells) (hl : slots ≤ R.slots) (q : Q (some w) h) : Ends p e below (GN Z ws Q R s) (T.setTop (mkF m pc ls (w :: rest))) := by
  obtain ⟨fs, hr, hrun, hended, hW, hsame⟩ := X.st.leave (v := some w) (fun q => by rw [X.hret, hR] at q; cases q) X.hlk
  have hs : (s.setVm vm0) = s := by rw [X.nr rfl]; rfl
  rw [hs] at hW hsame
  exact ⟨_, _, retOut X.st X.hx (X.hret.trans hR) hn hi (X.hd hd) hr, hrun, hended, _, _, rfl, ⟨by rw [show (T.setFrames fs).heap = h from X.eT]; exact q, X.fr, by rw [show (T.setFrames fs).heap = h from X.eT]; exact X.kp, by rw [show (T.setFrames fs).heap = h from X.eT]; exact X.old⟩, ⟨_, rfl⟩, hW, hsame.mono hc hl⟩
theorem Wk.retAN {t : FieldType} (X : Wk false Z a0 [] own bytes maxL (some t) nm ws p l e R s m args below meth c vm0 T h locs cells slots) {w : Value} (ht : t.isReference = true) (hw : w.isRef = true) (hd : decode bytes pc = .ok (.areturn, 1)) (hc : cells ≤ R.cells) (hl : slots ≤ R.slots) (q : Q (some w) h) : Ends p e below (GN Z ws Q R s) (T.setTop (mkF m pc ls (w :: rest))) :=
  X.retN rfl (by cases t <;> first | (cases ht; done) | (rcases ref_cases hw with rfl | ⟨z, rfl⟩ <;> rfl)) (Or.inr (Or.inr (Or.inr (Or.inr ⟨rfl, ht, hw⟩)))) hd hc hl q
theorem Wk.retIN {t : FieldType} (X : Wk false Z a0 [] own bytes maxL (some t) nm ws p l e R s m args below meth c vm0 T h locs cells slots) {z : Int32} (ht : t = .int ∨ t = .boolean ∨ t = .byte ∨ t = .char ∨ t = .short) (hn : narrow t (.int z) = .int z) (hd : decode bytes pc = .ok (.ireturn, 1)) (hc : cells ≤ R.cells) (hl : slots ≤ R.slots) (q : Q (some (.int z)) h) : Ends p e below (GN Z ws Q R s) (T.setTop (mkF m pc ls (.int z :: rest))) :=
  X.retN rfl hn (Or.inl ⟨rfl, ht, z, rfl⟩) hd hc hl q
theorem Wk.retUN (X : Wk false Z a0 [] own bytes maxL none nm ws p l e R s m args below meth c vm0 T h locs cells slots) (hd : decode bytes pc = .ok (.return_, 1)) (hc : cells ≤ R.cells) (hl : slots ≤ R.slots) (q : Q none h) : Ends p e below (GN Z ws Q R s) (T.setTop (mkF m pc ls [])) := by
  obtain ⟨fs, hr, hrun, hended, hW, hsame⟩ := X.st.leave (v := none) (fun _ => rfl) X.hlk
  have hs : (s.setVm vm0) = s := by rw [X.nr rfl]; rfl
  rw [hs] at hW hsame
  exact ⟨_, _, X.st.returnOut X.hx X.hret (X.hd hd) hr, hrun, hended, _, _, rfl, ⟨by rw [show (T.setFrames fs).heap = h from X.eT]; exact q, X.fr, by rw [show (T.setFrames fs).heap = h from X.eT]; exact X.kp, by rw [show (T.setFrames fs).heap = h from X.eT]; exact X.old⟩, ⟨_, rfl⟩, hW, hsame.mono hc hl⟩
theorem Wk.retC (X : Wk true Z a0 EL own bytes maxL ret nm ws p l e R s m args below meth c vm0 T h locs cells slots) {t : FieldType} {w : Value} {i : Instr} (hR : ret = some t) (hn : narrow t w = w) (hi : (i = .ireturn ∧ (t = .int ∨ t = .boolean ∨ t = .byte ∨ t = .char ∨ t = .short) ∧ ∃ z, w = .int z) ∨ (i = .lreturn ∧ t = .long ∧ ∃ z, w = .long z) ∨ (i = .dreturn ∧ t = .double ∧ ∃ z, w = .double z) ∨ (i = .freturn ∧ t = .float ∧ ∃ z, w = .float z) ∨ (i = .areturn ∧ t.isReference = true ∧ w.isRef = true)) (hd : decode bytes pc = .ok (i, 1)) (hc : cells ≤ R.cells) (hl : slots ≤ R.slots) (q : Q (some w) h) : Ends p e below (GC Z EL ws Q R s) (T.setTop (mkF m pc ls (w :: rest))) := by
  obtain ⟨k0, k1, k2⟩ := X.since
  obtain ⟨fs, hr, hrun, hended, hE⟩ := X.st.leaveW k1 (by rw [X.eT]; exact k2) (v := some w) (fun q => by rw [X.hret, hR] at q; cases q) X.hlk
  obtain ⟨e1, e2, e3, e4⟩ := hE
  have c1 := CHv.at X.st X.hZ X.ew X.H
  exact ⟨_, _, retOut X.st X.hx (X.hret.trans hR) hn hi (X.hd hd) hr, hrun, hended, _, _, rfl, ⟨by rw [show (T.setFrames fs).heap = h from X.eT]; exact q, X.fr, by rw [show (T.setFrames fs).heap = h from X.eT]; exact X.kp, by rw [show (T.setFrames fs).heap = h from X.eT]; exact X.old⟩, by rw [show (T.setFrames fs).heap = h from X.eT]; exact X.ch.trans c1, e1, e2, e3, e4.mono hc hl⟩
theorem Wk.retAC {t : FieldType} (X : Wk true Z a0 EL own bytes maxL (some t) nm ws p l e R s m args below meth c vm0 T h locs cells slots) {w : Value} (ht : t.isReference = true) (hw : w.isRef = true) (hd : decode bytes pc = .ok (.areturn, 1)) (hc : cells ≤ R.cells) (hl : slots ≤ R.slots) (q : Q (some w) h) : Ends p e below (GC Z EL ws Q R s) (T.setTop (mkF m pc ls (w :: rest))) :=
  X.retC rfl (by cases t <;> first | (cases ht; done) | (rcases ref_cases hw with rfl | ⟨z, rfl⟩ <;> rfl)) (Or.inr (Or.inr (Or.inr (Or.inr ⟨rfl, ht, hw⟩)))) hd hc hl q
theorem Wk.retIC {t : FieldType} (X : Wk true Z a0 EL own bytes maxL (some t) nm ws p l e R s m args below meth c vm0 T h locs cells slots) {z : Int32} (ht : t = .int ∨ t = .boolean ∨ t = .byte ∨ t = .char ∨ t = .short) (hn : narrow t (.int z) = .int z) (hd : decode bytes pc = .ok (.ireturn, 1)) (hc : cells ≤ R.cells) (hl : slots ≤ R.slots) (q : Q (some (.int z)) h) : Ends p e below (GC Z EL ws Q R s) (T.setTop (mkF m pc ls (.int z :: rest))) :=
  X.retC rfl hn (Or.inl ⟨rfl, ht, z, rfl⟩) hd hc hl q
theorem Wk.retUC (X : Wk true Z a0 EL own bytes maxL none nm ws p l e R s m args below meth c vm0 T h locs cells slots) (hd : decode bytes pc = .ok (.return_, 1)) (hc : cells ≤ R.cells) (hl : slots ≤ R.slots) (q : Q none h) : Ends p e below (GC Z EL ws Q R s) (T.setTop (mkF m pc ls [])) := by
  obtain ⟨k0, k1, k2⟩ := X.since
  obtain ⟨fs, hr, hrun, hended, hE⟩ := X.st.leaveW k1 (by rw [X.eT]; exact k2) (v := none) (fun _ => rfl) X.hlk
  obtain ⟨e1, e2, e3, e4⟩ := hE
  have c1 := CHv.at X.st X.hZ X.ew X.H
  exact ⟨_, _, X.st.returnOut X.hx X.hret (X.hd hd) hr, hrun, hended, _, _, rfl, ⟨by rw [show (T.setFrames fs).heap = h from X.eT]; exact q, X.fr, by rw [show (T.setFrames fs).heap = h from X.eT]; exact X.kp, by rw [show (T.setFrames fs).heap = h from X.eT]; exact X.old⟩, by rw [show (T.setFrames fs).heap = h from X.eT]; exact X.ch.trans c1, e1, e2, e3, e4.mono hc hl⟩
/-- a place where y is called: the arguments a, rest what lies under them -/
def Site (p : Program) (l : Launch) (e : Env) (R : Room) (s : State) (m : MethodId) (args : Array Value) (below : List Frame) (meth : Method) (c : Code) (T : State) (locs : List Loc) (cells slots : Nat) (g : JFrame) (len : Nat) (y : MethodName) (a : Array Value) (rest : List Value) : Prop :=
  (∀ {W : Nat} {Pre : Pt → Array Value → Prop} {Post : Pt → Array Value → Option Value → Pt → Prop}, Back l R p e below s args y len W Pre Post → 2 * g.monitorRoom + (rest.map fun v => v.category).sum ≤ W → (∀ vm₁, s.WarmedH vm₁ → Pre ⟨T.setVm vm₁, locs, cells, slots⟩ a) →
    ∃ (v : Option Value) (vm₁ : Vm) (B : Pt), s.WarmedH vm₁ ∧ Stand p l e R s m args below meth c B.U B.locs B.cells B.slots ∧ Post ⟨T.setVm vm₁, locs, cells, slots⟩ a v B ∧ ∀ t, Steps p.tables e below (B.U.setTop { g with pc := g.pc + len, stack := v.toList ++ rest }) t → Steps p.tables e below (T.setTop g) t) ∧
  (∀ {W : Nat} {Pre : Pt → Array Value → Prop} {Post : Pt → Array Value → Option Value → Pt → Prop}, BackS l R p e below s args y len W Pre Post → 2 * g.monitorRoom + (rest.map fun v => v.category).sum ≤ W → (∀ vm₁, s.WarmedH vm₁ → Pre ⟨T.setVm vm₁, locs, cells, slots⟩ a) →
    ∃ (v : Option Value) (vm₁ : Vm) (B : Pt), s.WarmedH vm₁ ∧ Stand p l e R (s.setVm B.U.vm) m args below meth c B.U B.locs B.cells B.slots ∧ s.Since B.U.vm B.U.heap.size ∧ T.heap.size ≤ B.U.heap.size ∧ Post ⟨T.setVm vm₁, locs, cells, slots⟩ a v B ∧ ∀ t, Steps p.tables e below (B.U.setTop { g with pc := g.pc + len, stack := v.toList ++ rest }) t → Steps p.tables e below (T.setTop g) t)
theorem Wk.sStatic (X : Wk co Z a0 EL own bytes maxL ret nm ws p l e R s m args below meth c vm0 T h locs cells slots) {index : Nat} {y : MethodName} {ybytes : ByteArray} {ymaxL : Nat} {yret : Option FieldType} (w1 : (Cond.methodLink own index y).before a0 Z = true) (w2 : (Cond.static y).before a0 Z = true) (w3 : (Cond.initialized y.cls).before a0 Z = true) (w4 : (Cond.code y ybytes ymaxL yret).before a0 Z = true) (hy : y.cls ≠ "java/lang/invoke/MethodHandle" ∧ y.cls ≠ "java/lang/invoke/VarHandle") (hls : ls.size = maxL) {ps : List FieldType} {r : Option FieldType} (pd : parseMethodDescriptor y.desc = some ⟨ps, r⟩) (argsL : List Value) {st : List Value} (hlen : argsL.length = ps.length) (hst : st = argsL.reverse ++ rest) (hd : decode bytes pc = .ok (.invokestatic index, 3)) : Site p l e R (s.setVm vm0) m args below meth c T locs cells slots (mkF m pc ls st) 3 y argsL.toArray rest := by
  refine ⟨fun hK hW hpre => ?_, fun hK hW hpre => ?_⟩
  · exact Jvm.LawKit.callS X.st X.hx X.hown (mvT X.hZ w1) (mvT X.hZ w2) (mvT X.hZ w3) (mvT X.hZ w4) hy hK (g := mkF m pc ls st) rfl (hls.trans X.hml.symm) (lenOf pd hlen) hst hW (X.hd hd) hpre
  · obtain ⟨v, vm₁, B, h1, h2, h3, h4, h5, h6⟩ := callSS X.st X.hx X.hown (mvT X.hZ w1) (mvT X.hZ w2) (mvT X.hZ w3) (mvT X.hZ w4) hy hK (g := mkF m pc ls st) rfl (hls.trans X.hml.symm) (lenOf pd hlen) hst hW (X.hd hd) hpre
    exact ⟨v, vm₁, B, h1, h2, h3, h4, h5, fun t q => h6.trans q⟩
theorem Wk.sSpecial (X : Wk co Z a0 EL own bytes maxL ret nm ws p l e R s m args below meth c vm0 T h locs cells slots) {index : Nat} {y : MethodName} {ybytes : ByteArray} {ymaxL : Nat} (hy1 : y.name = "<init>") (w1 : (Cond.methodLink own index y).before a0 Z = true) (w2 : (Cond.instanceMethod y).before a0 Z = true) (w4 : (Cond.code y ybytes ymaxL none).before a0 Z = true) (hy : y.cls ≠ "java/lang/invoke/MethodHandle" ∧ y.cls ≠ "java/lang/invoke/VarHandle") (hls : ls.size = maxL) {ps : List FieldType} {r : Option FieldType} (pd : parseMethodDescriptor y.desc = some ⟨ps, r⟩) {a : Addr} (argsL : List Value) {st : List Value} (hlen : argsL.length = ps.length) (hst : st = argsL.reverse ++ .ref a :: rest) (hd : decode bytes pc = .ok (.invokespecial index, 3)) : Site p l e R (s.setVm vm0) m args below meth c T locs cells slots (mkF m pc ls st) 3 y (.ref a :: argsL).toArray rest := by
  refine ⟨fun hK hW hpre => ?_, fun hK hW hpre => ?_⟩
  · obtain ⟨v, vm₁, B, h1, h2, h5, h6⟩ := X.st.specialBack X.hx hy1 X.hown (mvT X.hZ w1) (mvT X.hZ w2) (mvT X.hZ w4) hy hK (g := mkF m pc ls st) rfl (hls.trans X.hml.symm) (Steps.refl _) (lenOf pd hlen) hst hW (X.hd hd) hpre
    exact ⟨v, vm₁, B, h1, h2, h5, fun t q => h6.trans q⟩
  · obtain ⟨v, vm₁, B, h1, h2, h3, h4, h5, h6⟩ := X.st.specialBackS X.hx hy1 X.hown (mvT X.hZ w1) (mvT X.hZ w2) (mvT X.hZ w4) hy hK (g := mkF m pc ls st) rfl (hls.trans X.hml.symm) (Steps.refl _) (lenOf pd hlen) hst hW (X.hd hd) hpre
    exact ⟨v, vm₁, B, h1, h2, h3, h4, h5, fun t q => h6.trans q⟩
theorem Wk.nf (X : Wk co Z a0 EL own bytes maxL ret nm ws p l e R s m args below meth c vm0 T h locs cells slots) {C : String} {y y' : MethodName} (w : (Cond.selects C y' y').before a0 Z = true) (hc : y'.cls = y.cls) : NotFace (s.setVm vm0) y := fun r0 h0 => by
  obtain ⟨c2, r2, m2, -, -, q3, -, kP, hkP, hkPi⟩ := Cond.selects_spec (mvT X.hZ w (args := #[]))
  have e1 := findClass_of_methodNamed h0
  have e2 := findClass_of_methodNamed q3
  rw [hc] at e2
  have e3 : m2.cls = r0.cls := Option.some.inj (e2.symm.trans e1)
  rw [e3] at hkP
  exact ⟨kP, hkP, hkPi⟩
theorem Wk.sVirtual (X : Wk co Z a0 EL own bytes maxL ret nm ws p l e R s m args below meth c vm0 T h locs cells slots) {index : Nat} {C : String} {y z : MethodName} (w1 : (Cond.methodLink own index y).before a0 Z = true) (w2 : (Cond.declares y).before a0 Z = true) (w3 : (Cond.selects C y z).before a0 Z = true) (w4 : (Cond.instanceMethod z).before a0 Z = true) (hy : y.cls ≠ "java/lang/invoke/MethodHandle" ∧ y.cls ≠ "java/lang/invoke/VarHandle") (hls : ls.size = maxL) {ps : List FieldType} {r : Option FieldType} (pd : parseMethodDescriptor y.desc = some ⟨ps, r⟩) {a : Addr} (E : Exa Z h a C) (argsL : List Value) {st : List Value} (hlen : argsL.length = ps.length) (hst : st = argsL.reverse ++ .ref a :: rest) (hd : decode bytes pc = .ok (.invokevirtual index, 3)) (nf : NotFace (s.setVm vm0) y) : Site p l e R (s.setVm vm0) m args below meth c T locs cells slots (mkF m pc ls st) 3 z (.ref a :: argsL).toArray rest := by
  obtain ⟨cq, kq, qa, qb, qc⟩ := isOf X.hZ X.eT E
  refine ⟨fun hK hW hpre => ?_, fun hK hW hpre => ?_⟩
  · obtain ⟨v, vm₁, B, h1, h2, h5, h6⟩ := X.st.virtualBack X.hx X.hown (mvT X.hZ w1) (mvT X.hZ w2) nf (mvT X.hZ w3) (mvT X.hZ w4) hy hK qa qc (g := mkF m pc ls st) rfl (hls.trans X.hml.symm) (Steps.refl _) (lenOf pd hlen) hst hW (X.hd hd) hpre
    exact ⟨v, vm₁, B, h1, h2, h5, fun t q => h6.trans q⟩
  · obtain ⟨v, vm₁, B, h1, h2, h3, h4, h5, h6⟩ := X.st.virtualBackS X.hx X.hown (mvT X.hZ w1) (mvT X.hZ w2) nf (mvT X.hZ w3) (mvT X.hZ w4) hy hK qa qc (g := mkF m pc ls st) rfl (hls.trans X.hml.symm) (Steps.refl _) (lenOf pd hlen) hst hW (X.hd hd) hpre
    exact ⟨v, vm₁, B, h1, h2, h3, h4, h5, fun t q => h6.trans q⟩
theorem Wk.callV (X : Wk co Z a0 EL own bytes maxL ret nm ws p l e R s m args below meth c vm0 T h locs cells slots) {len : Nat} {y : MethodName} {ybytes : ByteArray} {ymaxL : Nat} {yret : Option FieldType} {rm : Room} {a : Array Value} {wc : List Addr} {Q : Value → Heap → Prop} {st : List Value} (S : Site p l e R (s.setVm vm0) m args below meth c T locs cells slots (mkF m pc ls st) len y a rest) (M : MN l Z y ybytes ymaxL yret [] rm a h wc (RV Q)) (w4 : (Cond.code y ybytes ymaxL yret).before a0 Z = true) (w3 : (Cond.initialized y.cls).before a0 Z = true) (hf : rm.frames + 1 ≤ R.frames) (hl : (rest.map fun v => v.category).sum + (ymaxL + 11) + rm.locals ≤ R.locals) (hc : cells + rm.cells ≤ R.cells) (hs : slots + rm.slots ≤ R.slots) (Sf : ∀ x ∈ wc, Safe Z EL vm0 h x) (hz : ∀ x ∈ wc, Z.heap.size ≤ x) (hk : ∀ x ∈ wc, x ∈ ws ∨ s.heap.size ≤ x) (hp : pc + len = pc') (k : ∀ T h' L (v : Value), Wk co Z a0 EL own bytes maxL ret nm ws p l e R s m args below meth c vm0 T h' L (cells + rm.cells) (slots + rm.slots) → Keep h h' wc → Q v h' → Ends p e below G (T.setTop (mkF m pc' ls (v :: rest)))) : Ends p e below G (T.setTop (mkF m pc ls st)) := by
  subst hp
  obtain ⟨v, vm₁, ⟨T', L', k', n'⟩, h1, Y, ⟨Lc, ⟨⟨w, rfl, q1⟩, q2, q3, q4⟩, l1, l2, l3⟩, st1⟩ := S.1 (backOf (Q := fun v h' L => (RV Q) v h' ∧ Fr Z.heap.size L ∧ Keep h h' wc ∧ Ext Z.heap h') (W := (rest.map fun v => v.category).sum) M X.hZ w4 w3 hf hl) (by show 2 * 0 + _ ≤ _; rw [Nat.mul_zero, Nat.zero_add]; exact Nat.le_refl _) (fun vm₁ _ => ⟨rfl, X.eT, hc, hs⟩)
  dsimp only [Pt.U, Pt.locs, Pt.cells, Pt.slots] at Y l1 l2 l3 st1 q2 q3 q4 q1
  subst l1 l2 l3
  exact Ends.go st1 (k _ _ _ _ (X.keep Y rfl q3 Sf q2 hz hk) q3 q1)
theorem Wk.callU (X : Wk co Z a0 EL own bytes maxL ret nm ws p l e R s m args below meth c vm0 T h locs cells slots) {len : Nat} {y : MethodName} {ybytes : ByteArray} {ymaxL : Nat} {yret : Option FieldType} {rm : Room} {a : Array Value} {wc : List Addr} {Q : Heap → Prop} {st : List Value} (S : Site p l e R (s.setVm vm0) m args below meth c T locs cells slots (mkF m pc ls st) len y a rest) (M : MN l Z y ybytes ymaxL yret [] rm a h wc (RU Q)) (w4 : (Cond.code y ybytes ymaxL yret).before a0 Z = true) (w3 : (Cond.initialized y.cls).before a0 Z = true) (hf : rm.frames + 1 ≤ R.frames) (hl : (rest.map fun v => v.category).sum + (ymaxL + 11) + rm.locals ≤ R.locals) (hc : cells + rm.cells ≤ R.cells) (hs : slots + rm.slots ≤ R.slots) (Sf : ∀ x ∈ wc, Safe Z EL vm0 h x) (hz : ∀ x ∈ wc, Z.heap.size ≤ x) (hk : ∀ x ∈ wc, x ∈ ws ∨ s.heap.size ≤ x) (hp : pc + len = pc') (k : ∀ T h' L, Wk co Z a0 EL own bytes maxL ret nm ws p l e R s m args below meth c vm0 T h' L (cells + rm.cells) (slots + rm.slots) → Keep h h' wc → Q h' → Ends p e below G (T.setTop (mkF m pc' ls rest))) : Ends p e below G (T.setTop (mkF m pc ls st)) := by
  subst hp
  obtain ⟨v, vm₁, ⟨T', L', k', n'⟩, h1, Y, ⟨Lc, ⟨⟨rfl, q1⟩, q2, q3, q4⟩, l1, l2, l3⟩, st1⟩ := S.1 (backOf (Q := fun v h' L => (RU Q) v h' ∧ Fr Z.heap.size L ∧ Keep h h' wc ∧ Ext Z.heap h') (W := (rest.map fun v => v.category).sum) M X.hZ w4 w3 hf hl) (by show 2 * 0 + _ ≤ _; rw [Nat.mul_zero, Nat.zero_add]; exact Nat.le_refl _) (fun vm₁ _ => ⟨rfl, X.eT, hc, hs⟩)
  dsimp only [Pt.U, Pt.locs, Pt.cells, Pt.slots] at Y l1 l2 l3 st1 q2 q3 q4 q1
  subst l1 l2 l3
  exact Ends.go st1 (k _ _ _ (X.keep Y rfl q3 Sf q2 hz hk) q3 q1)
theorem Wk.callP (X : Wk co Z a0 EL own bytes maxL ret nm ws p l e R s m args below meth c vm0 T h locs cells slots) {len : Nat} {y : MethodName} {ybytes : ByteArray} {ymaxL : Nat} {yret : Option FieldType} {rm : Room} {a : Array Value} {Q : Value → Prop} {st : List Value} (S : Site p l e R (s.setVm vm0) m args below meth c T locs cells slots (mkF m pc ls st) len y a rest) (M : MN l Z y ybytes ymaxL yret [] rm a h [] (RP h Q)) (w4 : (Cond.code y ybytes ymaxL yret).before a0 Z = true) (w3 : (Cond.initialized y.cls).before a0 Z = true) (hf : rm.frames + 1 ≤ R.frames) (hl : (rest.map fun v => v.category).sum + (ymaxL + 11) + rm.locals ≤ R.locals) (hc : cells + rm.cells ≤ R.cells) (hs : slots + rm.slots ≤ R.slots) (hp : pc + len = pc') (k : ∀ T L (v : Value), Wk co Z a0 EL own bytes maxL ret nm ws p l e R s m args below meth c vm0 T h L (cells + rm.cells) (slots + rm.slots) → Q v → Ends p e below G (T.setTop (mkF m pc' ls (v :: rest)))) : Ends p e below G (T.setTop (mkF m pc ls st)) := by
  subst hp
  obtain ⟨v, vm₁, ⟨T', L', k', n'⟩, h1, Y, ⟨Lc, ⟨⟨w, rfl, e1, q1⟩, q2, q3, q4⟩, l1, l2, l3⟩, st1⟩ := S.1 (backOf (Q := fun v h' L => (RP h Q) v h' ∧ Fr Z.heap.size L ∧ Keep h h' [] ∧ Ext Z.heap h') (W := (rest.map fun v => v.category).sum) M X.hZ w4 w3 hf hl) (by show 2 * 0 + _ ≤ _; rw [Nat.mul_zero, Nat.zero_add]; exact Nat.le_refl _) (fun vm₁ _ => ⟨rfl, X.eT, hc, hs⟩)
  dsimp only [Pt.U, Pt.locs, Pt.cells, Pt.slots] at Y l1 l2 l3 st1 q2 q3 q4 e1
  subst l1 l2 l3
  exact Ends.go st1 (k _ _ _ (by have W := X.keep Y rfl q3 sf0 q2 all0 all0; rw [e1] at W; exact W) q1)
theorem Wk.callO (X : Wk co Z a0 EL own bytes maxL ret nm ws p l e R s m args below meth c vm0 T h locs cells slots) {len : Nat} {y : MethodName} {ybytes : ByteArray} {ymaxL : Nat} {yret : Option FieldType} {rm : Room} {a : Array Value}  {st : List Value} (S : Site p l e R (s.setVm vm0) m args below meth c T locs cells slots (mkF m pc ls st) len y a rest) (M : MN l Z y ybytes ymaxL yret [] rm a h [] (RO h)) (w4 : (Cond.code y ybytes ymaxL yret).before a0 Z = true) (w3 : (Cond.initialized y.cls).before a0 Z = true) (hf : rm.frames + 1 ≤ R.frames) (hl : (rest.map fun v => v.category).sum + (ymaxL + 11) + rm.locals ≤ R.locals) (hc : cells + rm.cells ≤ R.cells) (hs : slots + rm.slots ≤ R.slots) (hp : pc + len = pc') (k : ∀ T L, Wk co Z a0 EL own bytes maxL ret nm ws p l e R s m args below meth c vm0 T h L (cells + rm.cells) (slots + rm.slots) → Ends p e below G (T.setTop (mkF m pc' ls rest))) : Ends p e below G (T.setTop (mkF m pc ls st)) := by
  subst hp
  obtain ⟨v, vm₁, ⟨T', L', k', n'⟩, h1, Y, ⟨Lc, ⟨⟨rfl, e1⟩, q2, q3, q4⟩, l1, l2, l3⟩, st1⟩ := S.1 (backOf (Q := fun v h' L => (RO h) v h' ∧ Fr Z.heap.size L ∧ Keep h h' [] ∧ Ext Z.heap h') (W := (rest.map fun v => v.category).sum) M X.hZ w4 w3 hf hl) (by show 2 * 0 + _ ≤ _; rw [Nat.mul_zero, Nat.zero_add]; exact Nat.le_refl _) (fun vm₁ _ => ⟨rfl, X.eT, hc, hs⟩)
  dsimp only [Pt.U, Pt.locs, Pt.cells, Pt.slots] at Y l1 l2 l3 st1 q2 q3 q4 e1
  subst l1 l2 l3
  exact Ends.go st1 (k _ _ (by have W := X.keep Y rfl q3 sf0 q2 all0 all0; rw [e1] at W; exact W))
theorem Wk.coldV (X : Wk true Z a0 EL own bytes maxL ret nm ws p l e R s m args below meth c vm0 T h locs cells slots) {len : Nat} {y : MethodName} {ybytes : ByteArray} {ymaxL : Nat} {yret : Option FieldType} {rm : Room} {a : Array Value} {wc : List Addr} {Q : Value → Heap → Prop} {st : List Value} (S : Site p l e R (s.setVm vm0) m args below meth c T locs cells slots (mkF m pc ls st) len y a rest) (M : MCc l Z EL y ybytes ymaxL yret [] rm a h wc (RV Q)) (w4 : (Cond.code y ybytes ymaxL yret).before a0 Z = true) (w3 : (Cond.initialized y.cls).before a0 Z = true) (hf : rm.frames + 1 ≤ R.frames) (hl : (rest.map fun v => v.category).sum + (ymaxL + 11) + rm.locals ≤ R.locals) (hc : cells + rm.cells ≤ R.cells) (hs : slots + rm.slots ≤ R.slots) (hk : ∀ x ∈ wc, x ∈ ws ∨ s.heap.size ≤ x) (hp : pc + len = pc') (k : ∀ T vm h' L (v : Value), Wk true Z a0 EL own bytes maxL ret nm ws p l e R s m args below meth c vm T h' L (cells + rm.cells) (slots + rm.slots) → Keep h h' wc → CHr Z EL vm0 h vm h' → Q v h' → Ends p e below G (T.setTop (mkF m pc' ls (v :: rest)))) : Ends p e below G (T.setTop (mkF m pc ls st)) := by
  subst hp
  obtain ⟨v, vm₁, ⟨T', L', k', n'⟩, h1, Y, hS, hgr, ⟨Lc, ⟨⟨w, rfl, q1⟩, q2, q3, q4⟩, l1, l2, l3, hC⟩, st1⟩ := S.2 (backOfSH (s := s) (Q := fun v h' L => (RV Q) v h' ∧ Fr Z.heap.size L ∧ Keep h h' wc ∧ Ext Z.heap h') (W := (rest.map fun v => v.category).sum) M X.hZ w4 w3 hf hl X.ew X.H) (by show 2 * 0 + _ ≤ _; rw [Nat.mul_zero, Nat.zero_add]; exact Nat.le_refl _) (fun vm₁ _ => ⟨rfl, X.eT, hc, hs⟩)
  dsimp only [Pt.U, Pt.locs, Pt.cells, Pt.slots] at Y l1 l2 l3 st1 q1 q2 q3 q4 hS hC
  subst l1 l2 l3
  exact Ends.go st1 (k _ _ _ _ _ (X.cold Y hS hC q3 q2 q4 hk) q3 hC q1)
theorem Wk.coldU (X : Wk true Z a0 EL own bytes maxL ret nm ws p l e R s m args below meth c vm0 T h locs cells slots) {len : Nat} {y : MethodName} {ybytes : ByteArray} {ymaxL : Nat} {yret : Option FieldType} {rm : Room} {a : Array Value} {wc : List Addr} {Q : Heap → Prop} {st : List Value} (S : Site p l e R (s.setVm vm0) m args below meth c T locs cells slots (mkF m pc ls st) len y a rest) (M : MCc l Z EL y ybytes ymaxL yret [] rm a h wc (RU Q)) (w4 : (Cond.code y ybytes ymaxL yret).before a0 Z = true) (w3 : (Cond.initialized y.cls).before a0 Z = true) (hf : rm.frames + 1 ≤ R.frames) (hl : (rest.map fun v => v.category).sum + (ymaxL + 11) + rm.locals ≤ R.locals) (hc : cells + rm.cells ≤ R.cells) (hs : slots + rm.slots ≤ R.slots) (hk : ∀ x ∈ wc, x ∈ ws ∨ s.heap.size ≤ x) (hp : pc + len = pc') (k : ∀ T vm h' L, Wk true Z a0 EL own bytes maxL ret nm ws p l e R s m args below meth c vm T h' L (cells + rm.cells) (slots + rm.slots) → Keep h h' wc → CHr Z EL vm0 h vm h' → Q h' → Ends p e below G (T.setTop (mkF m pc' ls rest))) : Ends p e below G (T.setTop (mkF m pc ls st)) := by
  subst hp
  obtain ⟨v, vm₁, ⟨T', L', k', n'⟩, h1, Y, hS, hgr, ⟨Lc, ⟨⟨rfl, q1⟩, q2, q3, q4⟩, l1, l2, l3, hC⟩, st1⟩ := S.2 (backOfSH (s := s) (Q := fun v h' L => (RU Q) v h' ∧ Fr Z.heap.size L ∧ Keep h h' wc ∧ Ext Z.heap h') (W := (rest.map fun v => v.category).sum) M X.hZ w4 w3 hf hl X.ew X.H) (by show 2 * 0 + _ ≤ _; rw [Nat.mul_zero, Nat.zero_add]; exact Nat.le_refl _) (fun vm₁ _ => ⟨rfl, X.eT, hc, hs⟩)
  dsimp only [Pt.U, Pt.locs, Pt.cells, Pt.slots] at Y l1 l2 l3 st1 q1 q2 q3 q4 hS hC
  subst l1 l2 l3
  exact Ends.go st1 (k _ _ _ _ (X.cold Y hS hC q3 q2 q4 hk) q3 hC q1)
end Ends2
end Jvm.Pilot.@@N@@.Y
namespace Jvm.Pilot.@@N@@.Y
open Jvm Jvm.ClassFile Sem Op Lib Jvm.Free Jvm.Stand Jvm.LawKit Jvm.RoadKit Bundle
section Str
variable {co : Bool} {Z : State} {a0 : Array Value} {EL : List (String × Nat)} {own : String} {bytes : ByteArray} {maxL : Nat} {ret : Option FieldType} {nm : String} {ws : List Addr} {p : Program} {l : Launch} {e : Env} {R : Room} {s : State} {m : MethodId} {args : Array Value} {below : List Frame} {meth : Method} {c : Code} {vm0 : Vm} {T : State} {h h' : Heap} {locs : List Loc} {cells slots : Nat} {G : Outcome → State → Prop} {pc pc' : Nat} {ls : Array Slot} {rest : List Value} {Q : Option Value → Heap → Prop}
/-- x is a String that spells cs -/
def Str (Z : State) (h : Heap) (x : Addr) (cs : List Int32) : Prop := ∃ (t : Addr) (kb : ClassId) (cd N : Int32) (vs : List Value), Exa Z h x "java/lang/String" ∧ Fld Z h x "java/lang/String" "value" "[B" (.ref t) ∧ Fld Z h x "java/lang/String" "coder" "B" (.int cd) ∧ Arv Z h t kb .byte N vs (.int 0) ∧ StrChars.Road.CodA cs cd N vs ∧ (∀ c ∈ cs, ¬ c < 0 ∧ ¬ (65535 : Int32) < c) ∧ cs.length ≤ 4000
theorem Str.exa {x : Addr} {cs : List Int32} (S : Str Z h x cs) : Exa Z h x "java/lang/String" := by obtain ⟨_, _, _, _, _, E, -⟩ := S; exact E
theorem Str.lt {x : Addr} {cs : List Int32} (S : Str Z h x cs) : x < h.size := S.exa.lt
theorem Str.ext {x : Addr} {cs : List Int32} (S : Str Z h x cs) (E : Ext h h') : Str Z h' x cs := by
  obtain ⟨t, kb, cd, N, vs, s1, s2, s3, s4, r⟩ := S; exact ⟨t, kb, cd, N, vs, s1.ext E, s2.ext E, s3.ext E, s4.ext E, r⟩
theorem Str.keep0 {x : Addr} {cs : List Int32} (S : Str Z h x cs) (K : Keep h h' []) : Str Z h' x cs := by
  obtain ⟨t, kb, cd, N, vs, s1, s2, s3, s4, r⟩ := S; exact ⟨t, kb, cd, N, vs, s1.keep K, s2.keep K nin0, s3.keep K nin0, s4.keep K nin0, r⟩
/-- a is an object, no array -/
def Obj (Z : State) (h : Heap) (a : Addr) : Prop := ∃ (C : String) (k : Nat) (a0 : Array Value), Exa Z h a C ∧ (Cond.instantiable C k).before a0 Z = true
theorem obj {C : String} {k : Nat} {a : Addr} (E : Exa Z h a C) (w : (Cond.instantiable C k).before a0 Z = true) : Obj Z h a := ⟨C, k, a0, E, w⟩
theorem Obj.ne {a b : Addr} {k : ClassId} {ty : FieldType} {z : Int32} {vs : List Value} {d : Value} (O : Obj Z h a) (A : Arv Z h b k ty z vs d) : b ≠ a := by
  obtain ⟨C, n, a0, E, w⟩ := O; exact Ne.symm (Exa.neArv E A w)
theorem arv_ty {a b : Addr} {k1 k2 : ClassId} {t1 t2 : FieldType} {z1 z2 : Int32} {v1 v2 : List Value} {d1 d2 : Value} (A : Arv Z h a k1 t1 z1 v1 d1) (B : Arv Z h b k2 t2 z2 v2 d2) (q : t1 ≠ t2) : a ≠ b := fun e => by
  subst e
  obtain ⟨c1, ⟨a1, ⟨-, kA, hkA, compA, hkindA⟩, -⟩, -⟩ := A
  obtain ⟨c2, ⟨b1, ⟨-, kB, hkB, compB, hkindB⟩, -⟩, -⟩ := B
  cases a1.symm.trans b1
  cases hkA.symm.trans hkB
  have := hkindA.symm.trans hkindB
  injection this with _ e
  exact q e
theorem Str.keep1 {x a : Addr} {cs : List Int32} (S : Str Z h x cs) (K : Keep h h' [a]) (ne : x ≠ a) (O : Obj Z h a) : Str Z h' x cs := by
  obtain ⟨t, kb, cd, N, vs, s1, s2, s3, s4, r⟩ := S
  exact ⟨t, kb, cd, N, vs, s1.keep K, s2.keep K (ninS ne nin0), s3.keep K (ninS ne nin0), s4.keep K (ninS (O.ne s4) nin0), r⟩
theorem Str.keep2 {x a b : Addr} {cs : List Int32} {k : ClassId} {ty : FieldType} {z : Int32} {vs' : List Value} {d : Value} (S : Str Z h x cs) (K : Keep h h' [a, b]) (ne : x ≠ a) (O : Obj Z h a) (ne' : x ≠ b) (B : Arv Z h b k ty z vs' d ∧ ty ≠ .byte) : Str Z h' x cs := by
  obtain ⟨t, kb, cd, N, vs, s1, s2, s3, s4, r⟩ := S
  exact ⟨t, kb, cd, N, vs, s1.keep K, s2.keep K (ninS ne (ninS ne' nin0)), s3.keep K (ninS ne (ninS ne' nin0)), s4.keep K (ninS (O.ne s4) (ninS (Ne.symm (arv_ty B.1 s4 B.2)) nin0)), r⟩
theorem Str.wrA {x a : Addr} {cs : List Int32} {k : ClassId} {ty : FieldType} {z : Int32} {vs' : List Value} {d v : Value} {sl n : Nat} (S : Str Z h x cs) (W : Wr h h' a sl v) (A : Arv Z h a k ty z vs' d) (q : ty ≠ .byte) (wi : (Cond.instantiable "java/lang/String" n).before a0 Z = true) : Str Z h' x cs := by
  obtain ⟨t, kb, cd, N, vs, s1, s2, s3, s4, r⟩ := S
  have n1 : x ≠ a := Exa.neArv s1 A wi
  have n2 : t ≠ a := Ne.symm (arv_ty A s4 q)
  exact ⟨t, kb, cd, N, vs, s1.wr W, s2.other W (Or.inl n1), s3.other W (Or.inl n1), s4.other W n2, r⟩
theorem chr255 {x c : Int32} (q : (x &&& (255 : Int32)).toUInt32.toUInt16.toUInt32.toInt32 = c) : (¬ c < 0 ∧ ¬ (255 : Int32) < c) ∧ nar .char c = c := by
  rw [i2c_mask] at q
  have h1 := c_and x 255 (by decide)
  rw [q] at h1
  have e255 : (255 : Int32).toInt = 255 := rfl
  refine ⟨⟨fun z => ?_, fun z => ?_⟩, ?_⟩
  · rw [Int32.lt_iff_toInt_lt] at z; have : (0 : Int32).toInt = 0 := rfl; omega
  · rw [Int32.lt_iff_toInt_lt] at z; omega
  · show c.toUInt32.toUInt16.toUInt32.toInt32 = c
    rw [← q]; exact i2c_mask x
theorem narB (x : Int32) : nar .byte (x.toInt8.toInt32) = x.toInt8.toInt32 := by
  show x.toInt8.toInt32.toInt8.toInt32 = x.toInt8.toInt32
  rw [Int8.toInt8_toInt32]
theorem up16 {cs : List Int32} (h : ∀ c ∈ cs, ¬ c < 0 ∧ ¬ (255 : Int32) < c) : ∀ c ∈ cs, ¬ c < 0 ∧ ¬ (65535 : Int32) < c := fun c hc => ⟨(h c hc).1, fun q => (h c hc).2 (by rw [Int32.lt_iff_toInt_lt] at q ⊢; have e1 : (65535 : Int32).toInt = 65535 := rfl; have e2 : (255 : Int32).toInt = 255 := rfl; omega)⟩
theorem all1 {P : Int32 → Prop} {c : Int32} (h : P c) : ∀ d ∈ [c], P d := fun d hd => by cases List.mem_singleton.mp hd; exact h
theorem allC {P : Int32 → Prop} {c : Int32} {cs : List Int32} (h : P c) (r : ∀ d ∈ cs, P d) : ∀ d ∈ c :: cs, P d := fun d hd => by
  rcases List.mem_cons.mp hd with rfl | hd
  · exact h
  · exact r d hd
theorem allN {P : Int32 → Prop} : ∀ d ∈ ([] : List Int32), P d := fun d hd => nomatch hd
theorem eqI_v {args : Array Value} {t : Term} {v : Int32} (h : (Cond.eq t (.int v)).value args Z none Z [] = some true) : t.eval args Z none [] Z = some (.int v) := by
  obtain ⟨x, y, e1, e2, -, k2⟩ := cmp_v (Or.inl h)
  have e3 : (Term.int v).eval args Z none [] Z = some (.int v) := Term.int_eval v
  cases e2.symm.trans e3
  obtain ⟨z, rfl⟩ := k2
  have := gotT (Cond.eq_ints e1 e3) h
  rw [e1, this]
theorem noInst {C K : String} {n : Nat} (w : (Cond.superclass C "java/lang/Object").before a0 Z = true) (wo : (Cond.noSuperclass "java/lang/Object").before a0 Z = true) (wk : (Cond.instantiable K n).before a0 Z = true) (q1 : C ≠ K) (q2 : "java/lang/Object" ≠ K) : ∃ c t, Z.vm.findClass C = some c ∧ Z.vm.findClass K = some t ∧ Z.vm.assignable c t = false := by
  obtain ⟨t, kt, g0, g2, g5, g6, -⟩ := Cond.instantiable_spec wk
  have g7 : kt.isInterface = false := (Bool.or_eq_false_iff.mp g6).1
  obtain ⟨co, ko, o1, o2, o3, -, -⟩ := Cond.noSuperclass_spec wo
  have nO : NS Z "java/lang/Object" K := by
    have ne := ids_ne o1 g0 q2
    refine ⟨co, t, o1, g0, fun fuel => ?_⟩
    cases fuel with
    | zero => rfl
    | succ f => simp [Vm.isSubclassAux, ne, o2, o3]
  obtain ⟨c, t', h0, g0', n3⟩ := NS.step w nO q1
  cases g0.symm.trans g0'
  obtain ⟨p, k, kp, h1, h2, h3, h4, h5, -, h7⟩ := Cond.superclass_spec h0 w
  have ne := ids_ne h0 g0 q1
  refine ⟨c, t, h0, g0, ?_⟩
  show Z.vm.assignableAux (255 + 1) c t = false
  simp [Vm.assignableAux, ne, h2, g2, h5, g5, g7, Vm.isSubclass, n3]
/-- new String(chars): one to 4,000 chars, each 0 to 255 -/
theorem Wk.newStr (X : Wk co Z a0 EL own bytes maxL ret nm ws p l e R s m args below meth c vm0 T h locs cells slots) {st : List Value} {x b : Addr} {kC : ClassId} {cs : List Int32} {d c0 : Value} {z N : Int32} {n : Nat} (S : Site p l e R (s.setVm vm0) m args below meth c T locs cells slots (mkF m pc ls st) 3 (⟨"java/lang/String", "<init>", "([C)V"⟩ : MethodName) #[.ref x, .ref b] rest) (hws : ∀ d ∈ StrChars.Road.words, d.before a0 Z = true) {kI : Nat} (wi : (Cond.instantiable "java/lang/String" kI).before a0 Z = true) (Ex : Exa Z h x "java/lang/String") (V : Fld Z h x "java/lang/String" "value" "[B" .null) (C : Fld Z h x "java/lang/String" "coder" "B" c0) (K : Arv Z h b kC .char N (cs.map Value.int) d) (O2 : Sta Z Z.heap "java/lang/String" "COMPACT_STRINGS" "Z" (.int z)) (hz : ¬ z = 0) (hn : cs.length = n) (hN : N = Int32.ofNat n) (l0 : 0 < n) (l2 : n ≤ 4000) (hp : ∀ c ∈ cs, ¬ c < 0 ∧ ¬ (255 : Int32) < c) (hfr : 4 ≤ R.frames) (hlo : (rest.map fun v => v.category).sum + 65 ≤ R.locals) (hc : cells + 1 ≤ R.cells) (hs : slots + n ≤ R.slots) (zx : Z.heap.size ≤ x) (hk : x ∈ ws ∨ s.heap.size ≤ x) (hpc : pc + 3 = pc') (k : ∀ T h' L, Wk co Z a0 EL own bytes maxL ret nm ws p l e R s m args below meth c vm0 T h' L (cells + 1) (slots + n) → Keep h h' [x] → Str Z h' x cs → Ends p e below G (T.setTop (mkF m pc' ls rest))) : Ends p e below G (T.setTop (mkF m pc ls st)) := by
  subst hpc
  obtain ⟨v, vm₁, ⟨T', L', k', n'⟩, h1, Y, ⟨Lc, ⟨rfl, q2, q3, q4, q5, t, kb, -, -, -, q6, q7⟩, l1, l3, l4⟩, st1⟩ := S.1 (StrChars.Road.backV (W := (rest.map fun v => v.category).sum) X.hZ hws wi (n0 := Z.heap.size) zx X.old.1 Ex V C K (O2.ext X.old) hz hn hN l0 l2 hp rfl hfr hlo) (by show 2 * 0 + _ ≤ _; rw [Nat.mul_zero, Nat.zero_add]; exact Nat.le_refl _) (fun vm₁ _ => ⟨rfl, X.eT, hc, hs⟩)
  dsimp only [Pt.U, Pt.locs, Pt.cells, Pt.slots] at Y l1 l3 l4 st1 q2 q3 q4 q5 q6 q7
  subst l1 l3 l4
  have hcod : StrChars.Road.CodA cs 0 N ((cs.map fun c => c.toInt8.toInt32).map Value.int) := by rw [hN]; exact StrChars.Road.codOf hn fun c hc => (hp c hc).2
  exact Ends.go st1 (k _ _ _ (X.keep Y rfl q3 (sfS (Safe.blank X.al Ex wi V) sf0) q2 (allS zx all0) (allS hk all0)) q3 ⟨t, kb, 0, N, _, q4, q6, q5, q7, hcod, up16 hp, by omega⟩)
/-- String.length of a known String -/
theorem Wk.lenStr (X : Wk co Z a0 EL own bytes maxL ret nm ws p l e R s m args below meth c vm0 T h locs cells slots) {st : List Value} {x : Addr} {cs : List Int32} {z : Int32} (S : Site p l e R (s.setVm vm0) m args below meth c T locs cells slots (mkF m pc ls st) 3 (⟨"java/lang/String", "length", "()I"⟩ : MethodName) #[.ref x] rest) (hws : ∀ d ∈ StrChars.Road.wordsLen, d.before a0 Z = true) {kI : Nat} (wi : (Cond.instantiable "java/lang/String" kI).before a0 Z = true) (A : Str Z h x cs) (O2 : Sta Z Z.heap "java/lang/String" "COMPACT_STRINGS" "Z" (.int z)) (hz : ¬ z = 0) (hfr : 2 ≤ R.frames) (hlo : (rest.map fun v => v.category).sum + 25 ≤ R.locals) (hc : cells + 0 ≤ R.cells) (hs : slots + 0 ≤ R.slots) (hpc : pc + 3 = pc') (k : ∀ T, Wk co Z a0 EL own bytes maxL ret nm ws p l e R s m args below meth c vm0 T h locs cells slots → Ends p e below G (T.setTop (mkF m pc' ls (.int (Int32.ofNat cs.length) :: rest)))) : Ends p e below G (T.setTop (mkF m pc ls st)) := by
  subst hpc
  obtain ⟨t, kb, cd, N, vs, s1, s2, s3, s4, s5, s6, s7⟩ := A
  obtain ⟨v, vm₁, ⟨T', L', k', n'⟩, h1, Y, ⟨Lc, ⟨rfl, rfl, q3⟩, l1, l3, l4⟩, st1⟩ := S.1 (StrChars.Road.lenW (W := (rest.map fun v => v.category).sum) X.hZ hws wi s1 s2 s3 s4 s5 s6 (O2.ext X.old) hz s7 hfr hlo) (by show 2 * 0 + _ ≤ _; rw [Nat.mul_zero, Nat.zero_add]; exact Nat.le_refl _) (fun vm₁ _ => ⟨rfl, X.eT, hc, hs⟩)
  dsimp only [Pt.U, Pt.locs, Pt.cells, Pt.slots] at Y l1 l3 l4 st1 q3
  subst l1 l3 l4
  rw [List.append_nil] at Y
  exact Ends.go st1 (k _ (X.same Y q3))
/-- String.charAt of a known Latin-1 String -/
theorem Wk.chStr (X : Wk co Z a0 EL own bytes maxL ret nm ws p l e R s m args below meth c vm0 T h locs cells slots) {st : List Value} {x : Addr} {cs : List Int32} {z : Int32} {fm : Value} {i : Nat} {j : Int32} (S : Site p l e R (s.setVm vm0) m args below meth c T locs cells slots (mkF m pc ls st) 3 (⟨"java/lang/String", "charAt", "(I)C"⟩ : MethodName) #[.ref x, .int j] rest) (hws : ∀ d ∈ StrChars.Road.wordsChN, d.before a0 Z = true) {kI : Nat} (wi : (Cond.instantiable "java/lang/String" kI).before a0 Z = true) (A : Str Z h x cs) (hlat : ∀ c ∈ cs, ¬ (255 : Int32) < c) (O2 : Sta Z Z.heap "java/lang/String" "COMPACT_STRINGS" "Z" (.int z)) (hz : ¬ z = 0) (F : Sta Z Z.heap "jdk/internal/util/Preconditions" "SIOOBE_FORMATTER" "Ljava/util/function/BiFunction;" fm) (rf : fm.isRef = true) (hi : i < cs.length) (hj : j = Int32.ofNat i) (hfr : 4 ≤ R.frames) (hlo : (rest.map fun v => v.category).sum + 53 ≤ R.locals) (hc : cells + 0 ≤ R.cells) (hs : slots + 0 ≤ R.slots) (hpc : pc + 3 = pc') (k : ∀ T, Wk co Z a0 EL own bytes maxL ret nm ws p l e R s m args below meth c vm0 T h locs cells slots → Ends p e below G (T.setTop (mkF m pc' ls (.int (cs.getD i 0) :: rest)))) : Ends p e below G (T.setTop (mkF m pc ls st)) := by
  subst hpc
  obtain ⟨t, kb, cd, N, vs, s1, s2, s3, s4, s5, s6, s7⟩ := A
  obtain rfl : cd = 0 := by
    rcases s5 with q | ⟨-, -, -, c, hc, q⟩
    · exact q.1
    · exact absurd q (hlat c hc)
  obtain ⟨v, vm₁, ⟨T', L', k', n'⟩, h1, Y, ⟨Lc, ⟨rfl, rfl, q3⟩, l1, l3, l4⟩, st1⟩ := S.1 (StrChars.Road.chN (W := (rest.map fun v => v.category).sum) X.hZ hws wi s1 s2 s3 s4 s5 s6 (O2.ext X.old) hz (F.ext X.old) rf s7 hi hj hfr hlo) (by show 2 * 0 + _ ≤ _; rw [Nat.mul_zero, Nat.zero_add]; exact Nat.le_refl _) (fun vm₁ _ => ⟨rfl, X.eT, hc, hs⟩)
  dsimp only [Pt.U, Pt.locs, Pt.cells, Pt.slots] at Y l1 l3 l4 st1 q3
  subst l1 l3 l4
  rw [List.append_nil] at Y
  exact Ends.go st1 (k _ (X.same Y q3))
end Str
end Jvm.Pilot.@@N@@.Y
namespace Jvm.Pilot.@@N@@.Y
open Jvm Jvm.ClassFile Sem Op Lib Jvm.Free Jvm.Stand Jvm.LawKit Jvm.RoadKit Bundle
section Refs
variable {co : Bool} {Z : State} {a0 : Array Value} {EL : List (String × Nat)} {own : String} {bytes : ByteArray} {maxL : Nat} {ret : Option FieldType} {nm : String} {ws : List Addr} {p : Program} {l : Launch} {e : Env} {R : Room} {s : State} {m : MethodId} {args : Array Value} {below : List Frame} {meth : Method} {c : Code} {vm0 : Vm} {T : State} {h h' : Heap} {locs : List Loc} {cells slots : Nat} {G : Outcome → State → Prop} {pc pc' : Nat} {ls : Array Slot} {rest : List Value} {Q : Option Value → Heap → Prop}
/-- mr is the class C's mirror -/
def Mrr (Z : State) (C : String) (mr : Addr) : Prop := ∃ (c : ClassId) (k : Class), Z.vm.findClass C = some c ∧ Z.vm.classes[c]? = some k ∧ k.mirror = some mr
/-- an Object[] whose length reads 0 -/
def Emp (Z : State) (h : Heap) (a : Addr) : Prop := ∃ c, Arr Z h a c (.object "java/lang/Object") ∧ c.slots.size.toInt32 = 0
theorem Emp.ext {a : Addr} (A : Emp Z h a) (E : Ext h h') : Emp Z h' a := by obtain ⟨c, q, r⟩ := A; exact ⟨c, Arr.ext E q, r⟩
theorem Emp.lt {a : Addr} (A : Emp Z h a) : a < h.size := by obtain ⟨c, q, r⟩ := A; exact q.lt
theorem Emp.start {args : Array Value} {t : Term} {a : Addr} (ev : t.eval args Z none [] Z = some (.ref a)) (hx : (Cond.arrayOf t (.object "java/lang/Object")).before args Z = true) (hl : (Cond.eq (.length t) (.int 0)).before args Z = true) : Emp Z Z.heap a := by
  obtain ⟨c, A⟩ := Arr.start ev (Cond.before_iff.mp hx)
  obtain ⟨b, cell, e1, e2, e3⟩ := Term.length_spec (eqI_v (Cond.before_iff.mp hl))
  cases ev.symm.trans e1
  have e4 : Z.arrayAt? a = some c := IntBox.arrayAt_of A.1 A.2.1 A.2.2
  cases e4.symm.trans e2
  injection e3 with e3
  exact ⟨c, A, e3.symm⟩
theorem fld_ev {args : Array Value} {t : Term} {C n d : String} {v : Value} {a : Addr} (e : t.eval args Z none [] Z = some (.ref a)) (h : (Term.field t C n d).eval args Z none [] Z = some v) : Z.fieldOf? a C n d = some v := by
  simp only [Term.eval] at h
  rw [e] at h
  simpa using h
theorem Wk.alen0 (X : Wk co Z a0 EL own bytes maxL ret nm ws p l e R s m args below meth c vm0 T h locs cells slots) {a : Addr} (A : Emp Z h a) (hd : decode bytes pc = .ok (.arraylength, 1)) (hp : pc + 1 = pc') (k : Ends p e below G (T.setTop (mkF m pc' ls (.int 0 :: rest)))) : Ends p e below G (T.setTop (mkF m pc ls (.ref a :: rest))) := by
  subst hp
  obtain ⟨cl, Ar, q0⟩ := A
  refine Ends.go (fun t q => X.st.arraylength X.hx (by rw [X.eT]; exact Ar.1) (State.isArrayOf_alike X.al Ar.2.1) (g := mkF m pc ls (.ref a :: rest)) rfl rfl (X.hd hd) t ?_) k
  rw [q0]; exact q
theorem Wk.newR (X : Wk co Z a0 EL own bytes maxL ret nm ws p l e R s m args below meth c vm0 T h locs cells slots) {C ad : String} {index : Nat} {n : Int32} (w1 : (Cond.classLink own index C).before a0 Z = true) (w2 : (Cond.arrayOver (.object C)).before a0 Z = true) (had : "[" ++ (FieldType.object C).toString = ad) (hd : decode bytes pc = .ok (.anewarray index, 3)) (hn : ¬ n < 0) (cap : Nat) (hcap : n.toNatClampNeg ≤ cap) (hb : cap * 8 ≤ 536870912) (hc : cells + 1 ≤ R.cells) (hl : slots + cap ≤ R.slots) (hp : pc + 3 = pc') (k : ∀ T h' b ka, b = h.size → Ext h h' → b < h'.size → Arv Z h' b ka (.object C) n [] .null → Exa Z h' b ad → Ovr Z ka C → Wk co Z a0 EL own bytes maxL ret nm ws p l e R s m args below meth c vm0 T h' locs (cells + 1) (slots + cap) → Ends p e below G (T.setTop (mkF m pc' ls (.ref b :: rest)))) : Ends p e below G (T.setTop (mkF m pc ls (.int n :: rest))) := by
  subst hp
  obtain ⟨T', h', ka, Y, e', Ex, A, Ea, O, st⟩ := RoadKit.newRE X.st X.hx X.hZ X.hown w1 w2 X.eT (g := mkF m pc ls (.int n :: rest)) rfl (X.hd hd) rfl hn hcap hb hc hl had
  exact Ends.go (fun _ q => st _ q) (k _ _ _ _ rfl Ex A.lt (Arv.new A hn) Ea O (X.ext Y e' Ex))
theorem Wk.aastore (X : Wk co Z a0 EL own bytes maxL ret nm ws p l e R s m args below meth c vm0 T h locs cells slots) {a y : Addr} {ka : ClassId} {C D : String} {z j : Int32} {vs : List Value} {dv : Value} (A : Arv Z h a ka (.object D) z vs dv) (O : Ovr Z ka C) (I : Ins Z h y C true) (hj : ¬ j < 0 ∧ j < z) (i : Nat) (hi : j.toNatClampNeg = i) (hl : i < vs.length) (hz : Z.heap.size ≤ a) (hk : a ∈ ws ∨ s.heap.size ≤ a) (hd : decode bytes pc = .ok (.aastore, 1)) (hp : pc + 1 = pc') (k : ∀ T h' L, Wk co Z a0 EL own bytes maxL ret nm ws p l e R s m args below meth c vm0 T h' L cells slots → Wr h h' a j.toNatClampNeg (.ref y) → Arv Z h' a ka (.object D) z (vs.set i (.ref y)) dv → Ends p e below G (T.setTop (mkF m pc' ls rest))) : Ends p e below G (T.setTop (mkF m pc ls (.ref y :: .int j :: .ref a :: rest))) := by
  subst hp
  have S0 : Safe Z EL vm0 h a := Safe.arv X.al A (by intro q; cases q)
  obtain ⟨cl, Ar, q1, S1, N1, H1, G1⟩ := A
  obtain ⟨T', h', Y, e', W, st⟩ := RoadKit.stR X.st X.hx X.hZ X.eT Ar (j := j) (inb_of S1 hj) rfl (Sto.ofV Ar q1 O I) (g := mkF m pc ls (.ref y :: .int j :: .ref a :: rest)) rfl rfl (X.hd hd)
  exact Ends.go (fun _ q => st _ q) (k _ _ _ (X.wr Y e' W S0 hz hk) W (Arv.set Ar q1 S1 N1 H1 G1 rfl W i hi hl))
theorem Wk.aaload (X : Wk co Z a0 EL own bytes maxL ret nm ws p l e R s m args below meth c vm0 T h locs cells slots) {a : Addr} {ka : ClassId} {C : String} {z j : Int32} {v : Value} {vs : List Value} {dv : Value} (A : Arv Z h a ka (.object C) z vs dv) (hj : ¬ j < 0 ∧ j < z) (hv : vs.getD j.toNatClampNeg dv = v) (hd : decode bytes pc = .ok (.aaload, 1)) (hp : pc + 1 = pc') (k : Ends p e below G (T.setTop (mkF m pc' ls (v :: rest)))) : Ends p e below G (T.setTop (mkF m pc ls (.int j :: .ref a :: rest))) := by
  subst hp
  obtain ⟨cl, Ar, q1, S1, N1, H1, G1⟩ := A
  have hin := inb_of S1 hj
  exact Ends.go (fun t q => X.st.aaload X.hx (j := j) (v := v) (by rw [X.eT]; exact Ar.1) (State.isArrayOf_alike X.al Ar.2.1) rfl Ar.2.2 hin (H1.at hin hv) (g := mkF m pc ls (.int j :: .ref a :: rest)) rfl rfl (X.hd hd) t q) k
theorem Wk.ldcM (X : Wk co Z a0 EL own bytes maxL ret nm ws p l e R s m args below meth c vm0 T h locs cells slots) {C : String} {index : Nat} {mr : Addr} (w : (Cond.classLink own index C).before a0 Z = true) (M : Mrr Z C mr) (hd : decode bytes pc = .ok (.ldc index, 2)) (hp : pc + 2 = pc') (k : ∀ T, Wk co Z a0 EL own bytes maxL ret nm ws p l e R s m args below meth c vm0 T h locs cells slots → Ends p e below G (T.setTop (mkF m pc' ls (.ref mr :: rest)))) : Ends p e below G (T.setTop (mkF m pc ls rest)) := by
  subst hp
  obtain ⟨cc, kc, m1, m2, m3⟩ := M
  obtain ⟨k', q, ek⟩ := X.al.2.2 _ _ m2
  have hev : (Term.mirror C).eval args (s.setVm vm0) none [] (s.setVm vm0) = some (.ref mr) := by
    have f1 : vm0.findClass C = some cc := by rw [X.al.findClass]; exact m1
    have f2 : vm0.classes[cc]? = some k' := q
    have f3 : k'.mirror = some mr := by rw [ek]; exact m3
    simp [Term.eval, f1, f2, f3]
  obtain ⟨vm', Y, st⟩ := X.st.ldcMirror X.hx X.hown (mvT X.hZ w) hev (g := mkF m pc ls rest) rfl (X.hd hd)
  exact Ends.go (fun _ q => st _ q) (k _ (X.same Y X.eT))
theorem Wk.gcls (X : Wk co Z a0 EL own bytes maxL ret nm ws p l e R s m args below meth c vm0 T h locs cells slots) {C : String} {index : Nat} (w1 : (Cond.methodLink own index ⟨"java/lang/Object", "getClass", "()Ljava/lang/Class;"⟩).before a0 Z = true) (w2 : (Cond.declares ⟨"java/lang/Object", "getClass", "()Ljava/lang/Class;"⟩).before a0 Z = true) (w4 : (Cond.selects C ⟨"java/lang/Object", "getClass", "()Ljava/lang/Class;"⟩ ⟨"java/lang/Object", "getClass", "()Ljava/lang/Class;"⟩).before a0 Z = true) (w5 : (Cond.instanceMethod ⟨"java/lang/Object", "getClass", "()Ljava/lang/Class;"⟩).before a0 Z = true) (w6 : (Cond.native ⟨"java/lang/Object", "getClass", "()Ljava/lang/Class;"⟩).before a0 Z = true) {a mr : Addr} (Ea : Exa Z h a C) (M : Mrr Z C mr) (hls : ls.size = maxL) (hd : decode bytes pc = .ok (.invokevirtual index, 3)) (hf : 1 ≤ R.frames) (hl : (rest.map fun v => v.category).sum + (nativeFrameWords "java/lang/Object" "getClass" 1 + 11) ≤ R.locals) (hp : pc + 3 = pc') (k : ∀ T, Wk co Z a0 EL own bytes maxL ret nm ws p l e R s m args below meth c vm0 T h locs cells slots → Ends p e below G (T.setTop (mkF m pc' ls (.ref mr :: rest)))) : Ends p e below G (T.setTop (mkF m pc ls (.ref a :: rest))) := by
  subst hp
  obtain ⟨cB, kB, i1, i2, i3⟩ := isOf X.hZ X.eT Ea
  obtain ⟨cc, kc, m1, m2, m3⟩ := M
  have i1' : Z.vm.findClass C = some cB := by rw [← X.hZ.alike.findClass]; exact i1
  cases i1'.symm.trans m1
  obtain ⟨k', q, ek⟩ := X.hZ.alike.2.2 _ _ m2
  obtain ⟨vm', Y, st⟩ := X.st.getClassOf X.hx X.hown (mvT X.hZ w1) (mvT X.hZ w2) (notFace_of_selects (args := #[]) (mvT X.hZ w4)) (mvT X.hZ w4) (mvT X.hZ w5) (mvT X.hZ w6) i1 i3 q (by rw [ek]; exact m3) (g := mkF m pc ls (.ref a :: rest)) rfl (hls.trans X.hml.symm) rfl (X.hd hd) hf (by show 2 * 0 + _ + _ ≤ _; rw [Nat.mul_zero, Nat.zero_add]; exact hl)
  exact Ends.go (fun _ q => st _ q) (k _ (X.same Y X.eT))
theorem Wk.gclsI (X : Wk co Z a0 EL own bytes maxL ret nm ws p l e R s m args below meth c vm0 T h locs cells slots) {C : String} {index count : Nat} {xi : MethodName} (w1 : (Cond.methodLink own index xi).before a0 Z = true) (w2 : (Cond.declares ⟨"java/lang/Object", "getClass", "()Ljava/lang/Class;"⟩).before a0 Z = true) (w3 : (Cond.interfaceMethod xi.cls "java/lang/Object" xi.name xi.desc).before a0 Z = true) (w4 : (Cond.selects C xi ⟨"java/lang/Object", "getClass", "()Ljava/lang/Class;"⟩).before a0 Z = true) (w5 : (Cond.instanceMethod ⟨"java/lang/Object", "getClass", "()Ljava/lang/Class;"⟩).before a0 Z = true) (w6 : (Cond.publicMethod ⟨"java/lang/Object", "getClass", "()Ljava/lang/Class;"⟩).before a0 Z = true) (w7 : (Cond.unhidden C xi.name xi.desc).before a0 Z = true) (w8 : (Cond.castable C xi.cls).before a0 Z = true) (w9 : (Cond.native ⟨"java/lang/Object", "getClass", "()Ljava/lang/Class;"⟩).before a0 Z = true) (hy : xi.cls ≠ "java/lang/invoke/MethodHandle" ∧ xi.cls ≠ "java/lang/invoke/VarHandle") (hxo : xi.cls ≠ "java/lang/Object") (hnm : xi.name = "getClass") (hds : xi.desc = "()Ljava/lang/Class;") {a mr : Addr} (Ea : Exa Z h a C) (M : Mrr Z C mr) (hls : ls.size = maxL) (hd : decode bytes pc = .ok (.invokeinterface index count, 5)) (hf : 1 ≤ R.frames) (hl : (rest.map fun v => v.category).sum + (nativeFrameWords "java/lang/Object" "getClass" 1 + 11) ≤ R.locals) (hp : pc + 5 = pc') (k : ∀ T, Wk co Z a0 EL own bytes maxL ret nm ws p l e R s m args below meth c vm0 T h locs cells slots → Ends p e below G (T.setTop (mkF m pc' ls (.ref mr :: rest)))) : Ends p e below G (T.setTop (mkF m pc ls (.ref a :: rest))) := by
  subst hp
  obtain ⟨cB, kB, i1, i2, i3⟩ := isOf X.hZ X.eT Ea
  obtain ⟨cc, kc, m1, m2, m3⟩ := M
  have i1' : Z.vm.findClass C = some cB := by rw [← X.hZ.alike.findClass]; exact i1
  cases i1'.symm.trans m1
  obtain ⟨k', q, ek⟩ := X.hZ.alike.2.2 _ _ m2
  cases i2.symm.trans q
  obtain ⟨vm', Y, st⟩ := X.st.getClassOfI X.hx X.hown (mvT X.hZ w1) (mvT X.hZ w2) (Jvm.Free.ULB.iface_rides X.hZ.alike w3) (mvT X.hZ w4) (mvT X.hZ w5) (mvT X.hZ w6) (mvT X.hZ w7) (mvT X.hZ w8) (mvT X.hZ w9) hy hxo hnm hds i1 i2 i3 (by rw [ek]; exact m3) (g := mkF m pc ls (.ref a :: rest)) rfl (hls.trans X.hml.symm) rfl (X.hd hd) hf (by show 2 * 0 + _ + _ ≤ _; rw [Nat.mul_zero, Nat.zero_add]; exact hl)
  exact Ends.go (fun _ q => st _ q) (k _ (X.same Y X.eT))
/-- System.arraycopy between two known arrays; b is the one written -/
theorem Wk.acopy (X : Wk co Z a0 EL own bytes maxL ret nm ws p l e R s m args below meth c vm0 T h locs cells slots) {index : Nat} (w1 : (Cond.methodLink own index Jvm.Stand.acN).before a0 Z = true) (w2 : (Cond.native Jvm.Stand.acN).before a0 Z = true) (w3 : (Cond.static Jvm.Stand.acN).before a0 Z = true) (w4 : (Cond.initialized "java/lang/System").before a0 Z = true) {a b : Addr} {k1 k2 : ClassId} {ty ty' : FieldType} {z z' sp dp nn : Int32} {vs vd us : List Value} {dv dd : Value} (A : Arv Z h a k1 ty z vs dv) (B : Arv Z h b k2 ty' z' vd dd) (hty : (ty = ty' ∧ refKind ty = false) ∨ (refKind ty = true ∧ refKind ty' = true ∧ StoL Z h b us)) (h1 : ¬ sp < 0) (h2 : ¬ dp < 0) (h3 : ¬ nn < 0) (h4 : sp.toNatClampNeg + nn.toNatClampNeg ≤ z.toNatClampNeg) (h5 : dp.toNatClampNeg + nn.toNatClampNeg ≤ z'.toNatClampNeg) (hus : us = (List.range nn.toNatClampNeg).map fun i => vs.getD (sp.toNatClampNeg + i) dv) (hlen : dp.toNatClampNeg + nn.toNatClampNeg ≤ vd.length) (S : Safe Z EL vm0 h b) (hz : Z.heap.size ≤ b) (hk : b ∈ ws ∨ s.heap.size ≤ b) (hls : ls.size = maxL) (hd : decode bytes pc = .ok (.invokestatic index, 3)) (hf : 1 ≤ R.frames) (hl : (rest.map fun v => v.category).sum + (nativeFrameWords "java/lang/System" "arraycopy" 5 + 11) ≤ R.locals) (hp : pc + 3 = pc') (k : ∀ T h' L, Wk co Z a0 EL own bytes maxL ret nm ws p l e R s m args below meth c vm0 T h' L cells slots → Keep h h' [b] → Arv Z h' b k2 ty' z' (vd.take dp.toNatClampNeg ++ us ++ vd.drop (dp.toNatClampNeg + nn.toNatClampNeg)) dd → Ends p e below G (T.setTop (mkF m pc' ls rest))) : Ends p e below G (T.setTop (mkF m pc ls (.int nn :: .int dp :: .ref b :: .int sp :: .ref a :: rest))) := by
  subst hp
  obtain ⟨T', h', L, Y, e', N, K, B', st⟩ := RoadKit.cpA X.st X.hx X.hZ X.hown w1 w2 w3 w4 X.eT A B hty h1 h2 h3 h4 h5 hus hlen X.fr hz (g := mkF m pc ls (.int nn :: .int dp :: .ref b :: .int sp :: .ref a :: rest)) rfl (hls.trans X.hml.symm) rfl (X.hd hd) hf (W := (rest.map fun v => v.category).sum) (by show 2 * 0 + _ ≤ _; rw [Nat.mul_zero, Nat.zero_add]; exact Nat.le_refl _) hl
  obtain ⟨k0, k3, k4⟩ := X.since
  have O : Old Z Z.heap.size h' := Old.keep ⟨rfl, X.old⟩ K (allS hz all0)
  exact Ends.go (fun _ q => st _ q) (k _ _ _ ⟨Y, e', ⟨k0, k3, Nat.le_trans k4 K.1⟩, X.nr, X.hZ, X.hown, X.ch.trans (CHr.keep K (sfS S sf0) X.H), X.ew, X.2.2.2.2.2.2.2.2.1, O.2, N, X.kp.trans K (allS hk all0)⟩ K B')
theorem Wk.sPrivate (X : Wk co Z a0 EL own bytes maxL ret nm ws p l e R s m args below meth c vm0 T h locs cells slots) {index : Nat} {C D : String} {y : MethodName} {ybytes : ByteArray} {ymaxL : Nat} {yret : Option FieldType} (w1 : (Cond.methodLink own index y).before a0 Z = true) (w2 : (Cond.instanceMethod y).before a0 Z = true) (w3 : (Cond.selects D y y).before a0 Z = true) (w4 : (Cond.privateMethod y).before a0 Z = true) (w5 : (Cond.code y ybytes ymaxL yret).before a0 Z = true) (hy : y.cls ≠ "java/lang/invoke/MethodHandle" ∧ y.cls ≠ "java/lang/invoke/VarHandle") (hls : ls.size = maxL) {ps : List FieldType} {r : Option FieldType} (pd : parseMethodDescriptor y.desc = some ⟨ps, r⟩) {a : Addr} (Ea : Exa Z h a C) (argsL : List Value) {st : List Value} (hlen : argsL.length = ps.length) (hst : st = argsL.reverse ++ .ref a :: rest) (hd : decode bytes pc = .ok (.invokevirtual index, 3)) : Site p l e R (s.setVm vm0) m args below meth c T locs cells slots (mkF m pc ls st) 3 y (.ref a :: argsL).toArray rest := by
  obtain ⟨cq, q1, q2⟩ := Ea.cell
  have w3' : (Cond.selects y.cls y y).before args (s.setVm vm0) = true := by
    obtain ⟨c2, r2, m2, -, -, q3, -, kP, hkP, hkPi⟩ := Cond.selects_spec (mvT X.hZ w3 (args := args))
    exact selects_self_of_private (findClass_of_methodNamed q3) hkP hkPi (Cond.privateMethod_at (mvP X.hZ w4 (args := #[]))) (mvT X.hZ w2) hy
  refine ⟨fun hK hW hpre => ?_, fun hK hW hpre => ?_⟩
  · obtain ⟨v, vm₁, B, h1, h2, h5, h6⟩ := X.st.privateBack X.hx X.hown (mvT X.hZ w1) (mvT X.hZ w2) w3' (Cond.privateMethod_at (mvP X.hZ w4 (args := #[]))) (mvT X.hZ w5) hy hK (g := mkF m pc ls st) rfl (hls.trans X.hml.symm) (Steps.refl _) (by rw [X.eT]; exact q1) q2 (lenOf pd hlen) hst hW (X.hd hd) hpre
    exact ⟨v, vm₁, B, h1, h2, h5, fun t q => h6.trans q⟩
  · obtain ⟨v, vm₁, B, h1, h2, h3, h4, h5, h6⟩ := privateBackS X.st X.hx X.hown (mvT X.hZ w1) (mvT X.hZ w2) w3' (Cond.privateMethod_at (mvP X.hZ w4 (args := #[]))) (mvT X.hZ w5) hy hK (g := mkF m pc ls st) rfl (hls.trans X.hml.symm) (Steps.refl _) (by rw [X.eT]; exact q1) q2 (lenOf pd hlen) hst hW (X.hd hd) hpre
    exact ⟨v, vm₁, B, h1, h2, h3, h4, h5, fun t q => h6.trans q⟩
theorem Wk.sFace (X : Wk co Z a0 EL own bytes maxL ret nm ws p l e R s m args below meth c vm0 T h locs cells slots) {index count : Nat} {C : String} {xi y : MethodName} (w1 : (Cond.methodLink own index xi).before a0 Z = true) (w2 : (Cond.declares xi).before a0 Z = true) (w3 : (Cond.interfaceMethod xi.cls xi.cls xi.name xi.desc).before a0 Z = true) (h3 : ((Cond.interfaceMethod xi.cls xi.cls xi.name xi.desc).onTables && (Cond.interfaceMethod xi.cls xi.cls xi.name xi.desc).keepsFace) = true) (w4 : (Cond.selects C xi y).before a0 Z = true) (w5 : (Cond.instanceMethod y).before a0 Z = true) (w6 : (Cond.publicMethod y).before a0 Z = true) (w7 : (Cond.unhidden C xi.name xi.desc).before a0 Z = true) (w8 : (Cond.castable C xi.cls).before a0 Z = true) (hy : xi.cls ≠ "java/lang/invoke/MethodHandle" ∧ xi.cls ≠ "java/lang/invoke/VarHandle") (hls : ls.size = maxL) {ps : List FieldType} {r : Option FieldType} (pd : parseMethodDescriptor xi.desc = some ⟨ps, r⟩) {a : Addr} (Ea : Exa Z h a C) (argsL : List Value) {st : List Value} (hlen : argsL.length = ps.length) (hst : st = argsL.reverse ++ .ref a :: rest) (hd : decode bytes pc = .ok (.invokeinterface index count, 5)) : Site p l e R (s.setVm vm0) m args below meth c T locs cells slots (mkF m pc ls st) 5 y (.ref a :: argsL).toArray rest := by
  obtain ⟨cq, kq, qa, qb, qc⟩ := isOf X.hZ X.eT Ea
  refine ⟨fun hK hW hpre => ?_, fun hK hW hpre => ?_⟩
  · obtain ⟨v, vm₁, B, h1, h2, h5, h6⟩ := X.st.interfaceBack X.hx X.hown (mvT X.hZ w1) (mvT X.hZ w2) (mvT X.hZ w3 h3) (mvT X.hZ w4) (mvT X.hZ w5) (mvT X.hZ w6) (mvT X.hZ w7) (mvT X.hZ w8) hy hK qa qb qc (g := mkF m pc ls st) rfl (hls.trans X.hml.symm) (Steps.refl _) (lenOf pd hlen) hst hW (X.hd hd) hpre
    exact ⟨v, vm₁, B, h1, h2, h5, fun t q => h6.trans q⟩
  · obtain ⟨v, vm₁, B, h1, h2, h3, h4, h5, h6⟩ := X.st.interfaceBackS X.hx X.hown (mvT X.hZ w1) (mvT X.hZ w2) (mvT X.hZ w3 h3) (mvT X.hZ w4) (mvT X.hZ w5) (mvT X.hZ w6) (mvT X.hZ w7) (mvT X.hZ w8) hy hK qa qb qc (g := mkF m pc ls st) rfl (hls.trans X.hml.symm) (Steps.refl _) (lenOf pd hlen) hst hW (X.hd hd) hpre
    exact ⟨v, vm₁, B, h1, h2, h3, h4, h5, fun t q => h6.trans q⟩
theorem sameM {C : String} {y y' : MethodName} (w3 : (Cond.instanceMethod y).before a0 Z = true) (ws : (Cond.selects C y' y').before a0 Z = true) (hc : y'.cls = y.cls) (hy : y.cls ≠ "java/lang/invoke/MethodHandle" ∧ y.cls ≠ "java/lang/invoke/VarHandle") : (Cond.sameMethod y.cls y.cls y.name y.desc).before a0 Z = true := by
  obtain ⟨mk, methM, hnamed, -, -, -⟩ := Cond.instanceMethod_spec w3
  obtain ⟨c2, r2, m2, -, -, q3, -, kP, hkP, hkPi⟩ := Cond.selects_spec ws
  have e1 := findClass_of_methodNamed hnamed
  have e2 := findClass_of_methodNamed q3
  rw [hc] at e2
  have e3 : m2.cls = mk.cls := Option.some.inj (e2.symm.trans e1)
  rw [e3] at hkP
  have hf := State.methodFound?_of_named hnamed hy
  simp only [Cond.before, Cond.holds, Cond.value, e1, hf, show Z.methodNamed? ⟨y.cls, y.name, y.desc⟩ = some mk from hnamed, hkP]
  simp [hkPi]
theorem Wk.sSuper (X : Wk co Z a0 EL own bytes maxL ret nm ws p l e R s m args below meth c vm0 T h locs cells slots) {index : Nat} {C : String} {y y' : MethodName} {ybytes : ByteArray} {ymaxL : Nat} {yret : Option FieldType} {K : String} (hy1 : y.name ≠ "<init>") (w1 : (Cond.methodLink own index y).before a0 Z = true) (w2 : (Cond.instanceMethod y).before a0 Z = true) (ws : (Cond.selects C y' y').before a0 Z = true) (hc : y'.cls = y.cls) (w3 : (Cond.superclass own y.cls).before a0 Z = true) (w4 : (Cond.code y ybytes ymaxL yret).before a0 Z = true) (hy : y.cls ≠ "java/lang/invoke/MethodHandle" ∧ y.cls ≠ "java/lang/invoke/VarHandle") (hls : ls.size = maxL) {ps : List FieldType} {r : Option FieldType} (pd : parseMethodDescriptor y.desc = some ⟨ps, r⟩) {a : Addr} (F : Ins Z h a K true) (argsL : List Value) {st : List Value} (hlen : argsL.length = ps.length) (hst : st = argsL.reverse ++ .ref a :: rest) (hd : decode bytes pc = .ok (.invokespecial index, 3)) : Site p l e R (s.setVm vm0) m args below meth c T locs cells slots (mkF m pc ls st) 3 y (.ref a :: argsL).toArray rest := by
  have sm := sameM w2 ws hc hy
  refine ⟨fun hK hW hpre => ?_, fun hK hW hpre => ?_⟩
  · obtain ⟨v, vm₁, B, h1, h2, h5, h6⟩ := RoadKit.superBack X.st X.hx X.hZ X.hown w1 sm w2 w3 hy1 hK X.eT F (g := mkF m pc ls st) rfl (hls.trans X.hml.symm) w4 (lenOf pd hlen) hst hW (X.hd hd) hpre
    exact ⟨v, vm₁, B, h1, h2, h5, fun t q => h6.trans q⟩
  · obtain ⟨v, vm₁, B, h1, h2, h3, h4, h5, h6⟩ := RoadKit.superBackS X.st X.hx X.hZ X.hown w1 sm w2 w3 hy1 hK X.eT F (g := mkF m pc ls st) rfl (hls.trans X.hml.symm) w4 (lenOf pd hlen) hst hW (X.hd hd) hpre
    exact ⟨v, vm₁, B, h1, h2, h3, h4, h5, fun t q => h6.trans q⟩
theorem Wk.sSpecialN (X : Wk co Z a0 EL own bytes maxL ret nm ws p l e R s m args below meth c vm0 T h locs cells slots) {index : Nat} {y : MethodName} {host : String} {ybytes : ByteArray} {ymaxL : Nat} (hy1 : y.name = "<init>") (w1 : (Cond.methodLinkNest own index y host).before a0 Z = true) (w2 : (Cond.instanceMethod y).before a0 Z = true) (w4 : (Cond.code y ybytes ymaxL none).before a0 Z = true) (hy : y.cls ≠ "java/lang/invoke/MethodHandle" ∧ y.cls ≠ "java/lang/invoke/VarHandle") (hls : ls.size = maxL) {ps : List FieldType} {r : Option FieldType} (pd : parseMethodDescriptor y.desc = some ⟨ps, r⟩) {a : Addr} (argsL : List Value) {st : List Value} (hlen : argsL.length = ps.length) (hst : st = argsL.reverse ++ .ref a :: rest) (hd : decode bytes pc = .ok (.invokespecial index, 3)) : Site p l e R (s.setVm vm0) m args below meth c T locs cells slots (mkF m pc ls st) 3 y (.ref a :: argsL).toArray rest := by
  have w1' : (Cond.methodLinkNest own index y host).before args (s.setVm vm0) = true := Cond.methodLinkNest_wide X.hZ w1
  refine ⟨fun hK hW hpre => ?_, fun hK hW hpre => ?_⟩
  · obtain ⟨v, vm₁, B, h1, h2, h5, h6⟩ := Jvm.Stand.specialBackNest X.st X.hx hy1 X.hown w1' (mvT X.hZ w2) (mvT X.hZ w4) hy hK (g := mkF m pc ls st) rfl (hls.trans X.hml.symm) (Steps.refl _) (lenOf pd hlen) hst hW (X.hd hd) hpre
    exact ⟨v, vm₁, B, h1, h2, h5, fun t q => h6.trans q⟩
  · obtain ⟨v, vm₁, B, h1, h2, h3, h4, h5, h6⟩ := specialBackNestS X.st X.hx hy1 X.hown w1' (mvT X.hZ w2) (mvT X.hZ w4) hy hK (g := mkF m pc ls st) rfl (hls.trans X.hml.symm) (Steps.refl _) (lenOf pd hlen) hst hW (X.hd hd) hpre
    exact ⟨v, vm₁, B, h1, h2, h3, h4, h5, fun t q => h6.trans q⟩
theorem Wk.getSN (X : Wk co Z a0 EL own bytes maxL ret nm ws p l e R s m args below meth c vm0 T h locs cells slots) {R0 O n d host : String} {index : Nat} (w : (Cond.fieldLinkNest own index R0 n d host).before a0 Z = true) (via : Via Z R0 O n d) {v : Value} (F : Sta Z Z.heap O n d v) (hd : decode bytes pc = .ok (.getstatic index, 3)) (hp : pc + 3 = pc') (k : ∀ T, Wk co Z a0 EL own bytes maxL ret nm ws p l e R s m args below meth c vm0 T h locs cells slots → Ends p e below G (T.setTop (mkF m pc' ls (v :: rest)))) : Ends p e below G (T.setTop (mkF m pc ls rest)) := by
  subst hp
  obtain ⟨T', Y, e', st⟩ := RoadKit.getS2 X.st X.hx X.hZ X.hown (Or.inr w) via X.eT (F.ext X.old) (g := mkF m pc ls rest) rfl (X.hd hd)
  exact Ends.go (fun _ q => st _ q) (k _ (X.same Y e'))
theorem Wk.tswIn (X : Wk co Z a0 EL own bytes maxL ret nm ws p l e R s m args below meth c vm0 T h locs cells slots) {dflt low high : Int} {offs : Array Int} {len : Nat} {o : Int} {i : Int32} (hd : decode bytes pc = .ok (.tableswitch dflt low high offs, len)) (hin : ¬ (i.toInt < low ∨ i.toInt > high)) (hoff : offs[(i.toInt - low).toNat]? = some o) (ho : 0 ≤ (pc : Int) + o) (hp : ((pc : Int) + o).toNat = pc') (k : Ends p e below G (T.setTop (mkF m pc' ls rest))) : Ends p e below G (T.setTop (mkF m pc ls (.int i :: rest))) := Ends.go (fun _ q => XS.tswIn X.st.here X.hx rfl rfl (X.hd hd) rfl hin hoff ho hp q) k
theorem Wk.tswOut (X : Wk co Z a0 EL own bytes maxL ret nm ws p l e R s m args below meth c vm0 T h locs cells slots) {dflt low high : Int} {offs : Array Int} {len : Nat} {i : Int32} (hd : decode bytes pc = .ok (.tableswitch dflt low high offs, len)) (hout : i.toInt < low ∨ i.toInt > high) (ho : 0 ≤ (pc : Int) + dflt) (hp : ((pc : Int) + dflt).toNat = pc') (k : Ends p e below G (T.setTop (mkF m pc' ls rest))) : Ends p e below G (T.setTop (mkF m pc ls (.int i :: rest))) := Ends.go (fun _ q => XS.tswOut X.st.here X.hx rfl rfl (X.hd hd) rfl hout ho hp q) k
end Refs
end Jvm.Pilot.@@N@@.Y
namespace Jvm.Pilot.@@N@@
open Jvm Jvm.ClassFile Sem Op Lib Jvm.Free Jvm.Stand Jvm.LawKit Jvm.RoadKit Bundle Y Jvm.Pilot.@@N@@.Jvm.D
theorem d3_0 : decode jdk_42_method_149_code 0 = .ok (.aload_n 0, 1) := by decide +kernel
theorem d3_1 : decode jdk_42_method_149_code 1 = .ok (.invokespecial 1, 3) := by decide +kernel
theorem d3_4 : decode jdk_42_method_149_code 4 = .ok (.iload_n 3, 1) := by decide +kernel
theorem d3_5 : decode jdk_42_method_149_code 5 = .ok (.ifCond .ne 22, 3) := by decide +kernel
theorem d3_8 : decode jdk_42_method_149_code 8 = .ok (.aload_n 0, 1) := by decide +kernel
theorem d3_9 : decode jdk_42_method_149_code 9 = .ok (.ldc 7, 2) := by decide +kernel
theorem d3_11 : decode jdk_42_method_149_code 11 = .ok (.getfield 9, 3) := by decide +kernel
theorem d3_14 : decode jdk_42_method_149_code 14 = .ok (.putfield 9, 3) := by decide +kernel
theorem d3_17 : decode jdk_42_method_149_code 17 = .ok (.aload_n 0, 1) := by decide +kernel
theorem d3_18 : decode jdk_42_method_149_code 18 = .ok (.ldc 7, 2) := by decide +kernel
theorem d3_20 : decode jdk_42_method_149_code 20 = .ok (.getfield 15, 3) := by decide +kernel
theorem d3_23 : decode jdk_42_method_149_code 23 = .ok (.putfield 15, 3) := by decide +kernel
theorem d3_26 : decode jdk_42_method_149_code 26 = .ok (.return_, 1) := by decide +kernel
theorem d2_0 : decode jdk_42_method_3_code 0 = .ok (.aload_n 0, 1) := by decide +kernel
theorem d2_1 : decode jdk_42_method_3_code 1 = .ok (.aload_n 1, 1) := by decide +kernel
theorem d2_2 : decode jdk_42_method_3_code 2 = .ok (.iconst 0, 1) := by decide +kernel
theorem d2_3 : decode jdk_42_method_3_code 3 = .ok (.aload_n 1, 1) := by decide +kernel
theorem d2_4 : decode jdk_42_method_3_code 4 = .ok (.arraylength, 1) := by decide +kernel
theorem d2_5 : decode jdk_42_method_3_code 5 = .ok (.aconst_null, 1) := by decide +kernel
theorem d2_6 : decode jdk_42_method_3_code 6 = .ok (.invokespecial 27, 3) := by decide +kernel
theorem d2_9 : decode jdk_42_method_3_code 9 = .ok (.return_, 1) := by decide +kernel
theorem d41_0 : decode jdk_43_method_3_code 0 = .ok (.iload_n 0, 1) := by decide +kernel
theorem d41_1 : decode jdk_43_method_3_code 1 = .ok (.sipush 255, 3) := by decide +kernel
theorem d41_4 : decode jdk_43_method_3_code 4 = .ok (.if_icmp .gt 7, 3) := by decide +kernel
theorem d41_7 : decode jdk_43_method_3_code 7 = .ok (.iconst 1, 1) := by decide +kernel
theorem d41_8 : decode jdk_43_method_3_code 8 = .ok (.goto 4, 3) := by decide +kernel
theorem d41_12 : decode jdk_43_method_3_code 12 = .ok (.ireturn, 1) := by decide +kernel
theorem d42_0 : decode jdk_43_method_46_code 0 = .ok (.iconst 1, 1) := by decide +kernel
theorem d42_1 : decode jdk_43_method_46_code 1 = .ok (.newarray .byte, 2) := by decide +kernel
theorem d42_3 : decode jdk_43_method_46_code 3 = .ok (.dup, 1) := by decide +kernel
theorem d42_4 : decode jdk_43_method_46_code 4 = .ok (.iconst 0, 1) := by decide +kernel
theorem d42_5 : decode jdk_43_method_46_code 5 = .ok (.iload_n 0, 1) := by decide +kernel
theorem d42_6 : decode jdk_43_method_46_code 6 = .ok (.i2b, 1) := by decide +kernel
theorem d42_7 : decode jdk_43_method_46_code 7 = .ok (.bastore, 1) := by decide +kernel
theorem d42_8 : decode jdk_43_method_46_code 8 = .ok (.areturn, 1) := by decide +kernel
theorem d43_0 : decode jdk_42_method_151_code 0 = .ok (.aload_n 0, 1) := by decide +kernel
theorem d43_1 : decode jdk_42_method_151_code 1 = .ok (.invokespecial 1, 3) := by decide +kernel
theorem d43_4 : decode jdk_42_method_151_code 4 = .ok (.aload_n 0, 1) := by decide +kernel
theorem d43_5 : decode jdk_42_method_151_code 5 = .ok (.aload_n 1, 1) := by decide +kernel
theorem d43_6 : decode jdk_42_method_151_code 6 = .ok (.putfield 9, 3) := by decide +kernel
theorem d43_9 : decode jdk_42_method_151_code 9 = .ok (.aload_n 0, 1) := by decide +kernel
theorem d43_10 : decode jdk_42_method_151_code 10 = .ok (.iload_n 2, 1) := by decide +kernel
theorem d43_11 : decode jdk_42_method_151_code 11 = .ok (.putfield 15, 3) := by decide +kernel
theorem d43_14 : decode jdk_42_method_151_code 14 = .ok (.return_, 1) := by decide +kernel
theorem d40_0 : decode jdk_42_method_139_code 0 = .ok (.getstatic 38, 3) := by decide +kernel
theorem d40_3 : decode jdk_42_method_139_code 3 = .ok (.ifCond .eq 23, 3) := by decide +kernel
theorem d40_6 : decode jdk_42_method_139_code 6 = .ok (.iload_n 0, 1) := by decide +kernel
theorem d40_7 : decode jdk_42_method_139_code 7 = .ok (.invokestatic 1015, 3) := by decide +kernel
theorem d40_10 : decode jdk_42_method_139_code 10 = .ok (.ifCond .eq 16, 3) := by decide +kernel
theorem d40_13 : decode jdk_42_method_139_code 13 = .ok (.new 10, 3) := by decide +kernel
theorem d40_16 : decode jdk_42_method_139_code 16 = .ok (.dup, 1) := by decide +kernel
theorem d40_17 : decode jdk_42_method_139_code 17 = .ok (.iload_n 0, 1) := by decide +kernel
theorem d40_18 : decode jdk_42_method_139_code 18 = .ok (.invokestatic 1018, 3) := by decide +kernel
theorem d40_21 : decode jdk_42_method_139_code 21 = .ok (.iconst 0, 1) := by decide +kernel
theorem d40_22 : decode jdk_42_method_139_code 22 = .ok (.invokespecial 209, 3) := by decide +kernel
theorem d40_25 : decode jdk_42_method_139_code 25 = .ok (.areturn, 1) := by decide +kernel
theorem d8_0 : decode jdk_68_method_2_code 0 = .ok (.aload_n 0, 1) := by decide +kernel
theorem d8_1 : decode jdk_68_method_2_code 1 = .ok (.invokespecial 3, 3) := by decide +kernel
theorem d8_4 : decode jdk_68_method_2_code 4 = .ok (.getstatic 18, 3) := by decide +kernel
theorem d8_7 : decode jdk_68_method_2_code 7 = .ok (.ifCond .eq 18, 3) := by decide +kernel
theorem d8_10 : decode jdk_68_method_2_code 10 = .ok (.aload_n 0, 1) := by decide +kernel
theorem d8_11 : decode jdk_68_method_2_code 11 = .ok (.iload_n 1, 1) := by decide +kernel
theorem d8_12 : decode jdk_68_method_2_code 12 = .ok (.newarray .byte, 2) := by decide +kernel
theorem d8_14 : decode jdk_68_method_2_code 14 = .ok (.putfield 15, 3) := by decide +kernel
theorem d8_17 : decode jdk_68_method_2_code 17 = .ok (.aload_n 0, 1) := by decide +kernel
theorem d8_18 : decode jdk_68_method_2_code 18 = .ok (.iconst 0, 1) := by decide +kernel
theorem d8_19 : decode jdk_68_method_2_code 19 = .ok (.putfield 22, 3) := by decide +kernel
theorem d8_22 : decode jdk_68_method_2_code 22 = .ok (.goto 16, 3) := by decide +kernel
theorem d8_38 : decode jdk_68_method_2_code 38 = .ok (.return_, 1) := by decide +kernel
theorem d7_0 : decode jdk_67_method_1_code 0 = .ok (.aload_n 0, 1) := by decide +kernel
theorem d7_1 : decode jdk_67_method_1_code 1 = .ok (.bipush 16, 2) := by decide +kernel
theorem d7_3 : decode jdk_67_method_1_code 3 = .ok (.invokespecial 1, 3) := by decide +kernel
theorem d7_6 : decode jdk_67_method_1_code 6 = .ok (.return_, 1) := by decide +kernel
theorem d12_0 : decode jdk_42_method_152_code 0 = .ok (.getstatic 38, 3) := by decide +kernel
theorem d12_3 : decode jdk_42_method_152_code 3 = .ok (.ifCond .eq 10, 3) := by decide +kernel
theorem d12_6 : decode jdk_42_method_152_code 6 = .ok (.aload_n 0, 1) := by decide +kernel
theorem d12_7 : decode jdk_42_method_152_code 7 = .ok (.getfield 15, 3) := by decide +kernel
theorem d12_10 : decode jdk_42_method_152_code 10 = .ok (.goto 4, 3) := by decide +kernel
theorem d12_14 : decode jdk_42_method_152_code 14 = .ok (.ireturn, 1) := by decide +kernel
theorem d19_0 : decode jdk_29_method_65_code 0 = .ok (.iload_n 0, 1) := by decide +kernel
theorem d19_1 : decode jdk_29_method_65_code 1 = .ok (.iload_n 1, 1) := by decide +kernel
theorem d19_2 : decode jdk_29_method_65_code 2 = .ok (.if_icmp .lt 7, 3) := by decide +kernel
theorem d19_9 : decode jdk_29_method_65_code 9 = .ok (.iload_n 1, 1) := by decide +kernel
theorem d19_10 : decode jdk_29_method_65_code 10 = .ok (.ireturn, 1) := by decide +kernel
theorem d18_0 : decode jdk_48_method_27_code 0 = .ok (.iload_n 0, 1) := by decide +kernel
theorem d18_1 : decode jdk_48_method_27_code 1 = .ok (.iload_n 1, 1) := by decide +kernel
theorem d18_2 : decode jdk_48_method_27_code 2 = .ok (.iload_n 2, 1) := by decide +kernel
theorem d18_3 : decode jdk_48_method_27_code 3 = .ok (.invokestatic 194, 3) := by decide +kernel
theorem d18_6 : decode jdk_48_method_27_code 6 = .ok (.iadd, 1) := by decide +kernel
theorem d18_7 : decode jdk_48_method_27_code 7 = .ok (.istore_n 3, 1) := by decide +kernel
theorem d18_8 : decode jdk_48_method_27_code 8 = .ok (.iconst 0, 1) := by decide +kernel
theorem d18_9 : decode jdk_48_method_27_code 9 = .ok (.iload_n 3, 1) := by decide +kernel
theorem d18_10 : decode jdk_48_method_27_code 10 = .ok (.if_icmp .ge 11, 3) := by decide +kernel
theorem d18_13 : decode jdk_48_method_27_code 13 = .ok (.iload_n 3, 1) := by decide +kernel
theorem d18_14 : decode jdk_48_method_27_code 14 = .ok (.ldc 200, 2) := by decide +kernel
theorem d18_16 : decode jdk_48_method_27_code 16 = .ok (.if_icmp .gt 5, 3) := by decide +kernel
theorem d18_19 : decode jdk_48_method_27_code 19 = .ok (.iload_n 3, 1) := by decide +kernel
theorem d18_20 : decode jdk_48_method_27_code 20 = .ok (.ireturn, 1) := by decide +kernel
theorem d17_0 : decode jdk_68_method_10_code 0 = .ok (.aload_n 0, 1) := by decide +kernel
theorem d17_1 : decode jdk_68_method_10_code 1 = .ok (.getfield 15, 3) := by decide +kernel
theorem d17_4 : decode jdk_68_method_10_code 4 = .ok (.arraylength, 1) := by decide +kernel
theorem d17_5 : decode jdk_68_method_10_code 5 = .ok (.istore_n 2, 1) := by decide +kernel
theorem d17_6 : decode jdk_68_method_10_code 6 = .ok (.iload_n 1, 1) := by decide +kernel
theorem d17_7 : decode jdk_68_method_10_code 7 = .ok (.aload_n 0, 1) := by decide +kernel
theorem d17_8 : decode jdk_68_method_10_code 8 = .ok (.getfield 22, 3) := by decide +kernel
theorem d17_11 : decode jdk_68_method_10_code 11 = .ok (.ishl, 1) := by decide +kernel
theorem d17_12 : decode jdk_68_method_10_code 12 = .ok (.istore_n 3, 1) := by decide +kernel
theorem d17_13 : decode jdk_68_method_10_code 13 = .ok (.iload_n 3, 1) := by decide +kernel
theorem d17_14 : decode jdk_68_method_10_code 14 = .ok (.iload_n 2, 1) := by decide +kernel
theorem d17_15 : decode jdk_68_method_10_code 15 = .ok (.isub, 1) := by decide +kernel
theorem d17_16 : decode jdk_68_method_10_code 16 = .ok (.istore 4, 2) := by decide +kernel
theorem d17_18 : decode jdk_68_method_10_code 18 = .ok (.iload_n 2, 1) := by decide +kernel
theorem d17_19 : decode jdk_68_method_10_code 19 = .ok (.iload 4, 2) := by decide +kernel
theorem d17_21 : decode jdk_68_method_10_code 21 = .ok (.iload_n 2, 1) := by decide +kernel
theorem d17_22 : decode jdk_68_method_10_code 22 = .ok (.iconst 2, 1) := by decide +kernel
theorem d17_23 : decode jdk_68_method_10_code 23 = .ok (.aload_n 0, 1) := by decide +kernel
theorem d17_24 : decode jdk_68_method_10_code 24 = .ok (.getfield 22, 3) := by decide +kernel
theorem d17_27 : decode jdk_68_method_10_code 27 = .ok (.ishl, 1) := by decide +kernel
theorem d17_28 : decode jdk_68_method_10_code 28 = .ok (.iadd, 1) := by decide +kernel
theorem d17_29 : decode jdk_68_method_10_code 29 = .ok (.invokestatic 114, 3) := by decide +kernel
theorem d17_32 : decode jdk_68_method_10_code 32 = .ok (.istore 5, 2) := by decide +kernel
theorem d17_34 : decode jdk_68_method_10_code 34 = .ok (.iload 5, 2) := by decide +kernel
theorem d17_36 : decode jdk_68_method_10_code 36 = .ok (.ldc 39, 2) := by decide +kernel
theorem d17_38 : decode jdk_68_method_10_code 38 = .ok (.if_icmp .ne 13, 3) := by decide +kernel
theorem d17_51 : decode jdk_68_method_10_code 51 = .ok (.iload 5, 2) := by decide +kernel
theorem d17_53 : decode jdk_68_method_10_code 53 = .ok (.aload_n 0, 1) := by decide +kernel
theorem d17_54 : decode jdk_68_method_10_code 54 = .ok (.getfield 22, 3) := by decide +kernel
theorem d17_57 : decode jdk_68_method_10_code 57 = .ok (.ishr, 1) := by decide +kernel
theorem d17_58 : decode jdk_68_method_10_code 58 = .ok (.ireturn, 1) := by decide +kernel
theorem d21_0 : decode jdk_29_method_69_code 0 = .ok (.iload_n 0, 1) := by decide +kernel
theorem d21_1 : decode jdk_29_method_69_code 1 = .ok (.iload_n 1, 1) := by decide +kernel
theorem d21_2 : decode jdk_29_method_69_code 2 = .ok (.if_icmp .gt 7, 3) := by decide +kernel
theorem d21_5 : decode jdk_29_method_69_code 5 = .ok (.iload_n 0, 1) := by decide +kernel
theorem d21_6 : decode jdk_29_method_69_code 6 = .ok (.goto 4, 3) := by decide +kernel
theorem d21_10 : decode jdk_29_method_69_code 10 = .ok (.ireturn, 1) := by decide +kernel
theorem d21_9 : decode jdk_29_method_69_code 9 = .ok (.iload_n 1, 1) := by decide +kernel
theorem d20_0 : decode jdk_65_method_121_code 0 = .ok (.iload_n 1, 1) := by decide +kernel
theorem d20_1 : decode jdk_65_method_121_code 1 = .ok (.aload_n 0, 1) := by decide +kernel
theorem d20_2 : decode jdk_65_method_121_code 2 = .ok (.arraylength, 1) := by decide +kernel
theorem d20_3 : decode jdk_65_method_121_code 3 = .ok (.if_icmp .ne 11, 3) := by decide +kernel
theorem d20_14 : decode jdk_65_method_121_code 14 = .ok (.iload_n 1, 1) := by decide +kernel
theorem d20_15 : decode jdk_65_method_121_code 15 = .ok (.newarray .byte, 2) := by decide +kernel
theorem d20_17 : decode jdk_65_method_121_code 17 = .ok (.astore_n 2, 1) := by decide +kernel
theorem d20_18 : decode jdk_65_method_121_code 18 = .ok (.aload_n 0, 1) := by decide +kernel
theorem d20_19 : decode jdk_65_method_121_code 19 = .ok (.iconst 0, 1) := by decide +kernel
theorem d20_20 : decode jdk_65_method_121_code 20 = .ok (.aload_n 2, 1) := by decide +kernel
theorem d20_21 : decode jdk_65_method_121_code 21 = .ok (.iconst 0, 1) := by decide +kernel
theorem d20_22 : decode jdk_65_method_121_code 22 = .ok (.aload_n 0, 1) := by decide +kernel
theorem d20_23 : decode jdk_65_method_121_code 23 = .ok (.arraylength, 1) := by decide +kernel
theorem d20_24 : decode jdk_65_method_121_code 24 = .ok (.iload_n 1, 1) := by decide +kernel
theorem d20_25 : decode jdk_65_method_121_code 25 = .ok (.invokestatic 304, 3) := by decide +kernel
theorem d20_28 : decode jdk_65_method_121_code 28 = .ok (.invokestatic 150, 3) := by decide +kernel
theorem d20_31 : decode jdk_65_method_121_code 31 = .ok (.aload_n 2, 1) := by decide +kernel
theorem d20_32 : decode jdk_65_method_121_code 32 = .ok (.areturn, 1) := by decide +kernel
theorem d13_0 : decode jdk_68_method_9_code 0 = .ok (.aload_n 0, 1) := by decide +kernel
theorem d13_1 : decode jdk_68_method_9_code 1 = .ok (.getfield 15, 3) := by decide +kernel
theorem d13_4 : decode jdk_68_method_9_code 4 = .ok (.arraylength, 1) := by decide +kernel
theorem d13_5 : decode jdk_68_method_9_code 5 = .ok (.aload_n 0, 1) := by decide +kernel
theorem d13_6 : decode jdk_68_method_9_code 6 = .ok (.getfield 22, 3) := by decide +kernel
theorem d13_9 : decode jdk_68_method_9_code 9 = .ok (.ishr, 1) := by decide +kernel
theorem d13_10 : decode jdk_68_method_9_code 10 = .ok (.istore_n 2, 1) := by decide +kernel
theorem d13_11 : decode jdk_68_method_9_code 11 = .ok (.iload_n 1, 1) := by decide +kernel
theorem d13_12 : decode jdk_68_method_9_code 12 = .ok (.iload_n 2, 1) := by decide +kernel
theorem d13_13 : decode jdk_68_method_9_code 13 = .ok (.isub, 1) := by decide +kernel
theorem d13_14 : decode jdk_68_method_9_code 14 = .ok (.ifCond .le 24, 3) := by decide +kernel
theorem d13_38 : decode jdk_68_method_9_code 38 = .ok (.return_, 1) := by decide +kernel
theorem d13_17 : decode jdk_68_method_9_code 17 = .ok (.aload_n 0, 1) := by decide +kernel
theorem d13_18 : decode jdk_68_method_9_code 18 = .ok (.aload_n 0, 1) := by decide +kernel
theorem d13_19 : decode jdk_68_method_9_code 19 = .ok (.getfield 15, 3) := by decide +kernel
theorem d13_22 : decode jdk_68_method_9_code 22 = .ok (.aload_n 0, 1) := by decide +kernel
theorem d13_23 : decode jdk_68_method_9_code 23 = .ok (.iload_n 1, 1) := by decide +kernel
theorem d13_24 : decode jdk_68_method_9_code 24 = .ok (.invokevirtual 104, 3) := by decide +kernel
theorem d13_27 : decode jdk_68_method_9_code 27 = .ok (.aload_n 0, 1) := by decide +kernel
theorem d13_28 : decode jdk_68_method_9_code 28 = .ok (.getfield 22, 3) := by decide +kernel
theorem d13_31 : decode jdk_68_method_9_code 31 = .ok (.ishl, 1) := by decide +kernel
theorem d13_32 : decode jdk_68_method_9_code 32 = .ok (.invokestatic 108, 3) := by decide +kernel
theorem d13_35 : decode jdk_68_method_9_code 35 = .ok (.putfield 15, 3) := by decide +kernel
theorem d15_0 : decode jdk_68_method_71_code 0 = .ok (.getstatic 18, 3) := by decide +kernel
theorem d15_3 : decode jdk_68_method_71_code 3 = .ok (.ifCond .eq 18, 3) := by decide +kernel
theorem d15_6 : decode jdk_68_method_71_code 6 = .ok (.aload_n 0, 1) := by decide +kernel
theorem d15_7 : decode jdk_68_method_71_code 7 = .ok (.getfield 22, 3) := by decide +kernel
theorem d15_10 : decode jdk_68_method_71_code 10 = .ok (.aload_n 1, 1) := by decide +kernel
theorem d15_11 : decode jdk_68_method_71_code 11 = .ok (.invokevirtual 40, 3) := by decide +kernel
theorem d15_14 : decode jdk_68_method_71_code 14 = .ok (.if_icmp .eq 7, 3) := by decide +kernel
theorem d15_21 : decode jdk_68_method_71_code 21 = .ok (.return_, 1) := by decide +kernel
theorem d16_0 : decode jdk_42_method_147_code 0 = .ok (.aload_n 0, 1) := by decide +kernel
theorem d16_1 : decode jdk_42_method_147_code 1 = .ok (.invokevirtual 335, 3) := by decide +kernel
theorem d16_4 : decode jdk_42_method_147_code 4 = .ok (.iload_n 3, 1) := by decide +kernel
theorem d16_5 : decode jdk_42_method_147_code 5 = .ok (.if_icmp .ne 23, 3) := by decide +kernel
theorem d16_8 : decode jdk_42_method_147_code 8 = .ok (.aload_n 0, 1) := by decide +kernel
theorem d16_9 : decode jdk_42_method_147_code 9 = .ok (.getfield 9, 3) := by decide +kernel
theorem d16_12 : decode jdk_42_method_147_code 12 = .ok (.iconst 0, 1) := by decide +kernel
theorem d16_13 : decode jdk_42_method_147_code 13 = .ok (.aload_n 1, 1) := by decide +kernel
theorem d16_14 : decode jdk_42_method_147_code 14 = .ok (.iload_n 2, 1) := by decide +kernel
theorem d16_15 : decode jdk_42_method_147_code 15 = .ok (.iload_n 3, 1) := by decide +kernel
theorem d16_16 : decode jdk_42_method_147_code 16 = .ok (.ishl, 1) := by decide +kernel
theorem d16_17 : decode jdk_42_method_147_code 17 = .ok (.aload_n 0, 1) := by decide +kernel
theorem d16_18 : decode jdk_42_method_147_code 18 = .ok (.getfield 9, 3) := by decide +kernel
theorem d16_21 : decode jdk_42_method_147_code 21 = .ok (.arraylength, 1) := by decide +kernel
theorem d16_22 : decode jdk_42_method_147_code 22 = .ok (.invokestatic 212, 3) := by decide +kernel
theorem d16_25 : decode jdk_42_method_147_code 25 = .ok (.goto 18, 3) := by decide +kernel
theorem d16_43 : decode jdk_42_method_147_code 43 = .ok (.return_, 1) := by decide +kernel
theorem d14_0 : decode jdk_68_method_73_code 0 = .ok (.aload_n 0, 1) := by decide +kernel
theorem d14_1 : decode jdk_68_method_73_code 1 = .ok (.aload_n 2, 1) := by decide +kernel
theorem d14_2 : decode jdk_68_method_73_code 2 = .ok (.invokevirtual 397, 3) := by decide +kernel
theorem d14_5 : decode jdk_68_method_73_code 5 = .ok (.aload_n 2, 1) := by decide +kernel
theorem d14_6 : decode jdk_68_method_73_code 6 = .ok (.aload_n 0, 1) := by decide +kernel
theorem d14_7 : decode jdk_68_method_73_code 7 = .ok (.getfield 15, 3) := by decide +kernel
theorem d14_10 : decode jdk_68_method_73_code 10 = .ok (.iload_n 1, 1) := by decide +kernel
theorem d14_11 : decode jdk_68_method_73_code 11 = .ok (.aload_n 0, 1) := by decide +kernel
theorem d14_12 : decode jdk_68_method_73_code 12 = .ok (.getfield 22, 3) := by decide +kernel
theorem d14_15 : decode jdk_68_method_73_code 15 = .ok (.invokevirtual 399, 3) := by decide +kernel
theorem d14_18 : decode jdk_68_method_73_code 18 = .ok (.return_, 1) := by decide +kernel
theorem d10_0 : decode jdk_68_method_22_code 0 = .ok (.aload_n 1, 1) := by decide +kernel
theorem d10_1 : decode jdk_68_method_22_code 1 = .ok (.ifnonnull 8, 3) := by decide +kernel
theorem d10_9 : decode jdk_68_method_22_code 9 = .ok (.aload_n 1, 1) := by decide +kernel
theorem d10_10 : decode jdk_68_method_22_code 10 = .ok (.invokevirtual 32, 3) := by decide +kernel
theorem d10_13 : decode jdk_68_method_22_code 13 = .ok (.istore_n 2, 1) := by decide +kernel
theorem d10_14 : decode jdk_68_method_22_code 14 = .ok (.aload_n 0, 1) := by decide +kernel
theorem d10_15 : decode jdk_68_method_22_code 15 = .ok (.aload_n 0, 1) := by decide +kernel
theorem d10_16 : decode jdk_68_method_22_code 16 = .ok (.getfield 79, 3) := by decide +kernel
theorem d10_19 : decode jdk_68_method_22_code 19 = .ok (.iload_n 2, 1) := by decide +kernel
theorem d10_20 : decode jdk_68_method_22_code 20 = .ok (.iadd, 1) := by decide +kernel
theorem d10_21 : decode jdk_68_method_22_code 21 = .ok (.invokevirtual 100, 3) := by decide +kernel
theorem d10_24 : decode jdk_68_method_22_code 24 = .ok (.aload_n 0, 1) := by decide +kernel
theorem d10_25 : decode jdk_68_method_22_code 25 = .ok (.aload_n 0, 1) := by decide +kernel
theorem d10_26 : decode jdk_68_method_22_code 26 = .ok (.getfield 79, 3) := by decide +kernel
theorem d10_29 : decode jdk_68_method_22_code 29 = .ok (.aload_n 1, 1) := by decide +kernel
theorem d10_30 : decode jdk_68_method_22_code 30 = .ok (.invokevirtual 208, 3) := by decide +kernel
theorem d10_33 : decode jdk_68_method_22_code 33 = .ok (.aload_n 0, 1) := by decide +kernel
theorem d10_34 : decode jdk_68_method_22_code 34 = .ok (.dup, 1) := by decide +kernel
theorem d10_35 : decode jdk_68_method_22_code 35 = .ok (.getfield 79, 3) := by decide +kernel
theorem d10_38 : decode jdk_68_method_22_code 38 = .ok (.iload_n 2, 1) := by decide +kernel
theorem d10_39 : decode jdk_68_method_22_code 39 = .ok (.iadd, 1) := by decide +kernel
theorem d10_40 : decode jdk_68_method_22_code 40 = .ok (.putfield 79, 3) := by decide +kernel
theorem d10_43 : decode jdk_68_method_22_code 43 = .ok (.aload_n 0, 1) := by decide +kernel
theorem d10_44 : decode jdk_68_method_22_code 44 = .ok (.areturn, 1) := by decide +kernel
theorem d9_0 : decode jdk_67_method_7_code 0 = .ok (.aload_n 0, 1) := by decide +kernel
theorem d9_1 : decode jdk_67_method_7_code 1 = .ok (.aload_n 1, 1) := by decide +kernel
theorem d9_2 : decode jdk_67_method_7_code 2 = .ok (.invokespecial 29, 3) := by decide +kernel
theorem d9_5 : decode jdk_67_method_7_code 5 = .ok (.pop, 1) := by decide +kernel
theorem d9_6 : decode jdk_67_method_7_code 6 = .ok (.aload_n 0, 1) := by decide +kernel
theorem d9_7 : decode jdk_67_method_7_code 7 = .ok (.areturn, 1) := by decide +kernel
theorem d31_0 : decode jdk_65_method_131_code 0 = .ok (.iload_n 1, 1) := by decide +kernel
theorem d31_1 : decode jdk_65_method_131_code 1 = .ok (.iload_n 0, 1) := by decide +kernel
theorem d31_2 : decode jdk_65_method_131_code 2 = .ok (.if_icmp .ge 35, 3) := by decide +kernel
theorem d31_37 : decode jdk_65_method_131_code 37 = .ok (.return_, 1) := by decide +kernel
theorem d30_0 : decode jdk_65_method_133_code 0 = .ok (.iload_n 1, 1) := by decide +kernel
theorem d30_1 : decode jdk_65_method_133_code 1 = .ok (.iload_n 2, 1) := by decide +kernel
theorem d30_2 : decode jdk_65_method_133_code 2 = .ok (.invokestatic 343, 3) := by decide +kernel
theorem d30_5 : decode jdk_65_method_133_code 5 = .ok (.iload_n 2, 1) := by decide +kernel
theorem d30_6 : decode jdk_65_method_133_code 6 = .ok (.iload_n 1, 1) := by decide +kernel
theorem d30_7 : decode jdk_65_method_133_code 7 = .ok (.isub, 1) := by decide +kernel
theorem d30_8 : decode jdk_65_method_133_code 8 = .ok (.istore_n 3, 1) := by decide +kernel
theorem d30_9 : decode jdk_65_method_133_code 9 = .ok (.iload_n 3, 1) := by decide +kernel
theorem d30_10 : decode jdk_65_method_133_code 10 = .ok (.newarray .byte, 2) := by decide +kernel
theorem d30_12 : decode jdk_65_method_133_code 12 = .ok (.astore 4, 2) := by decide +kernel
theorem d30_14 : decode jdk_65_method_133_code 14 = .ok (.aload_n 0, 1) := by decide +kernel
theorem d30_15 : decode jdk_65_method_133_code 15 = .ok (.iload_n 1, 1) := by decide +kernel
theorem d30_16 : decode jdk_65_method_133_code 16 = .ok (.aload 4, 2) := by decide +kernel
theorem d30_18 : decode jdk_65_method_133_code 18 = .ok (.iconst 0, 1) := by decide +kernel
theorem d30_19 : decode jdk_65_method_133_code 19 = .ok (.aload_n 0, 1) := by decide +kernel
theorem d30_20 : decode jdk_65_method_133_code 20 = .ok (.arraylength, 1) := by decide +kernel
theorem d30_21 : decode jdk_65_method_133_code 21 = .ok (.iload_n 1, 1) := by decide +kernel
theorem d30_22 : decode jdk_65_method_133_code 22 = .ok (.isub, 1) := by decide +kernel
theorem d30_23 : decode jdk_65_method_133_code 23 = .ok (.iload_n 3, 1) := by decide +kernel
theorem d30_24 : decode jdk_65_method_133_code 24 = .ok (.invokestatic 304, 3) := by decide +kernel
theorem d30_27 : decode jdk_65_method_133_code 27 = .ok (.invokestatic 150, 3) := by decide +kernel
theorem d30_30 : decode jdk_65_method_133_code 30 = .ok (.aload 4, 2) := by decide +kernel
theorem d30_32 : decode jdk_65_method_133_code 32 = .ok (.areturn, 1) := by decide +kernel
theorem d29_0 : decode jdk_65_method_132_code 0 = .ok (.iload_n 1, 1) := by decide +kernel
theorem d29_1 : decode jdk_65_method_132_code 1 = .ok (.ifCond .ne 9, 3) := by decide +kernel
theorem d29_4 : decode jdk_65_method_132_code 4 = .ok (.iload_n 2, 1) := by decide +kernel
theorem d29_5 : decode jdk_65_method_132_code 5 = .ok (.aload_n 0, 1) := by decide +kernel
theorem d29_6 : decode jdk_65_method_132_code 6 = .ok (.arraylength, 1) := by decide +kernel
theorem d29_7 : decode jdk_65_method_132_code 7 = .ok (.if_icmp .eq 10, 3) := by decide +kernel
theorem d29_10 : decode jdk_65_method_132_code 10 = .ok (.aload_n 0, 1) := by decide +kernel
theorem d29_11 : decode jdk_65_method_132_code 11 = .ok (.iload_n 1, 1) := by decide +kernel
theorem d29_12 : decode jdk_65_method_132_code 12 = .ok (.iload_n 2, 1) := by decide +kernel
theorem d29_13 : decode jdk_65_method_132_code 13 = .ok (.invokestatic 339, 3) := by decide +kernel
theorem d29_16 : decode jdk_65_method_132_code 16 = .ok (.areturn, 1) := by decide +kernel
theorem d25_0 : decode jdk_68_method_64_code 0 = .ok (.aload_n 0, 1) := by decide +kernel
theorem d25_1 : decode jdk_68_method_64_code 1 = .ok (.getfield 15, 3) := by decide +kernel
theorem d25_4 : decode jdk_68_method_64_code 4 = .ok (.areturn, 1) := by decide +kernel
theorem d27_0 : decode jdk_68_method_6_code 0 = .ok (.aload_n 0, 1) := by decide +kernel
theorem d27_1 : decode jdk_68_method_6_code 1 = .ok (.getfield 79, 3) := by decide +kernel
theorem d27_4 : decode jdk_68_method_6_code 4 = .ok (.ireturn, 1) := by decide +kernel
theorem d26_0 : decode jdk_67_method_93_code 0 = .ok (.aload_n 0, 1) := by decide +kernel
theorem d26_1 : decode jdk_67_method_93_code 1 = .ok (.invokespecial 343, 3) := by decide +kernel
theorem d26_4 : decode jdk_67_method_93_code 4 = .ok (.ireturn, 1) := by decide +kernel
theorem d28_0 : decode jdk_68_method_68_code 0 = .ok (.getstatic 18, 3) := by decide +kernel
theorem d28_3 : decode jdk_68_method_68_code 3 = .ok (.ifCond .eq 14, 3) := by decide +kernel
theorem d28_6 : decode jdk_68_method_68_code 6 = .ok (.aload_n 0, 1) := by decide +kernel
theorem d28_7 : decode jdk_68_method_68_code 7 = .ok (.getfield 22, 3) := by decide +kernel
theorem d28_10 : decode jdk_68_method_68_code 10 = .ok (.ifCond .ne 7, 3) := by decide +kernel
theorem d28_13 : decode jdk_68_method_68_code 13 = .ok (.iconst 1, 1) := by decide +kernel
theorem d28_14 : decode jdk_68_method_68_code 14 = .ok (.goto 4, 3) := by decide +kernel
theorem d28_18 : decode jdk_68_method_68_code 18 = .ok (.ireturn, 1) := by decide +kernel
theorem d24_0 : decode jdk_42_method_150_code 0 = .ok (.aload_n 0, 1) := by decide +kernel
theorem d24_1 : decode jdk_42_method_150_code 1 = .ok (.invokespecial 1, 3) := by decide +kernel
theorem d24_4 : decode jdk_42_method_150_code 4 = .ok (.aload_n 1, 1) := by decide +kernel
theorem d24_5 : decode jdk_42_method_150_code 5 = .ok (.invokevirtual 552, 3) := by decide +kernel
theorem d24_8 : decode jdk_42_method_150_code 8 = .ok (.astore_n 3, 1) := by decide +kernel
theorem d24_9 : decode jdk_42_method_150_code 9 = .ok (.aload_n 1, 1) := by decide +kernel
theorem d24_10 : decode jdk_42_method_150_code 10 = .ok (.invokevirtual 549, 3) := by decide +kernel
theorem d24_13 : decode jdk_42_method_150_code 13 = .ok (.istore 4, 2) := by decide +kernel
theorem d24_15 : decode jdk_42_method_150_code 15 = .ok (.aload_n 1, 1) := by decide +kernel
theorem d24_16 : decode jdk_42_method_150_code 16 = .ok (.invokevirtual 1047, 3) := by decide +kernel
theorem d24_19 : decode jdk_42_method_150_code 19 = .ok (.ifCond .eq 22, 3) := by decide +kernel
theorem d24_22 : decode jdk_42_method_150_code 22 = .ok (.aload_n 0, 1) := by decide +kernel
theorem d24_23 : decode jdk_42_method_150_code 23 = .ok (.iconst 0, 1) := by decide +kernel
theorem d24_24 : decode jdk_42_method_150_code 24 = .ok (.putfield 15, 3) := by decide +kernel
theorem d24_27 : decode jdk_42_method_150_code 27 = .ok (.aload_n 0, 1) := by decide +kernel
theorem d24_28 : decode jdk_42_method_150_code 28 = .ok (.aload_n 3, 1) := by decide +kernel
theorem d24_29 : decode jdk_42_method_150_code 29 = .ok (.iconst 0, 1) := by decide +kernel
theorem d24_30 : decode jdk_42_method_150_code 30 = .ok (.iload 4, 2) := by decide +kernel
theorem d24_32 : decode jdk_42_method_150_code 32 = .ok (.invokestatic 54, 3) := by decide +kernel
theorem d24_35 : decode jdk_42_method_150_code 35 = .ok (.putfield 9, 3) := by decide +kernel
theorem d24_38 : decode jdk_42_method_150_code 38 = .ok (.goto 59, 3) := by decide +kernel
theorem d24_97 : decode jdk_42_method_150_code 97 = .ok (.return_, 1) := by decide +kernel
theorem d23_0 : decode jdk_42_method_53_code 0 = .ok (.aload_n 0, 1) := by decide +kernel
theorem d23_1 : decode jdk_42_method_53_code 1 = .ok (.aload_n 1, 1) := by decide +kernel
theorem d23_2 : decode jdk_42_method_53_code 2 = .ok (.aconst_null, 1) := by decide +kernel
theorem d23_3 : decode jdk_42_method_53_code 3 = .ok (.invokespecial 489, 3) := by decide +kernel
theorem d23_6 : decode jdk_42_method_53_code 6 = .ok (.return_, 1) := by decide +kernel
theorem d22_0 : decode jdk_67_method_42_code 0 = .ok (.new 18, 3) := by decide +kernel
theorem d22_3 : decode jdk_67_method_42_code 3 = .ok (.dup, 1) := by decide +kernel
theorem d22_4 : decode jdk_67_method_42_code 4 = .ok (.aload_n 0, 1) := by decide +kernel
theorem d22_5 : decode jdk_67_method_42_code 5 = .ok (.invokespecial 137, 3) := by decide +kernel
theorem d22_8 : decode jdk_67_method_42_code 8 = .ok (.areturn, 1) := by decide +kernel
theorem d1_0 : decode method_2_code 0 = .ok (.iload_n 0, 1) := by decide +kernel
theorem d1_1 : decode method_2_code 1 = .ok (.sipush 255, 3) := by decide +kernel
theorem d1_4 : decode method_2_code 4 = .ok (.iand, 1) := by decide +kernel
theorem d1_5 : decode method_2_code 5 = .ok (.i2c, 1) := by decide +kernel
theorem d1_6 : decode method_2_code 6 = .ok (.istore_n 1, 1) := by decide +kernel
theorem d1_7 : decode method_2_code 7 = .ok (.iload_n 0, 1) := by decide +kernel
theorem d1_8 : decode method_2_code 8 = .ok (.bipush 8, 2) := by decide +kernel
theorem d1_10 : decode method_2_code 10 = .ok (.iushr, 1) := by decide +kernel
theorem d1_11 : decode method_2_code 11 = .ok (.sipush 255, 3) := by decide +kernel
theorem d1_14 : decode method_2_code 14 = .ok (.iand, 1) := by decide +kernel
theorem d1_15 : decode method_2_code 15 = .ok (.i2c, 1) := by decide +kernel
theorem d1_16 : decode method_2_code 16 = .ok (.istore_n 2, 1) := by decide +kernel
theorem d1_17 : decode method_2_code 17 = .ok (.iload_n 0, 1) := by decide +kernel
theorem d1_18 : decode method_2_code 18 = .ok (.bipush 16, 2) := by decide +kernel
theorem d1_20 : decode method_2_code 20 = .ok (.iushr, 1) := by decide +kernel
theorem d1_21 : decode method_2_code 21 = .ok (.iconst 3, 1) := by decide +kernel
theorem d1_22 : decode method_2_code 22 = .ok (.irem, 1) := by decide +kernel
theorem d1_23 : decode method_2_code 23 = .ok (.istore_n 3, 1) := by decide +kernel
theorem d1_24 : decode method_2_code 24 = .ok (.iload_n 3, 1) := by decide +kernel
theorem d1_25 : decode method_2_code 25 = .ok (.ifCond .ne 14, 3) := by decide +kernel
theorem d1_28 : decode method_2_code 28 = .ok (.new 7, 3) := by decide +kernel
theorem d1_31 : decode method_2_code 31 = .ok (.dup, 1) := by decide +kernel
theorem d1_32 : decode method_2_code 32 = .ok (.iconst 0, 1) := by decide +kernel
theorem d1_33 : decode method_2_code 33 = .ok (.newarray .char, 2) := by decide +kernel
theorem d1_35 : decode method_2_code 35 = .ok (.invokespecial 9, 3) := by decide +kernel
theorem d1_38 : decode method_2_code 38 = .ok (.areturn, 1) := by decide +kernel
theorem d1_39 : decode method_2_code 39 = .ok (.iload_n 3, 1) := by decide +kernel
theorem d1_40 : decode method_2_code 40 = .ok (.iconst 1, 1) := by decide +kernel
theorem d1_41 : decode method_2_code 41 = .ok (.if_icmp .ne 8, 3) := by decide +kernel
theorem d1_44 : decode method_2_code 44 = .ok (.iload_n 1, 1) := by decide +kernel
theorem d1_45 : decode method_2_code 45 = .ok (.invokestatic 12, 3) := by decide +kernel
theorem d1_48 : decode method_2_code 48 = .ok (.areturn, 1) := by decide +kernel
theorem d1_49 : decode method_2_code 49 = .ok (.new 7, 3) := by decide +kernel
theorem d1_52 : decode method_2_code 52 = .ok (.dup, 1) := by decide +kernel
theorem d1_53 : decode method_2_code 53 = .ok (.iconst 2, 1) := by decide +kernel
theorem d1_54 : decode method_2_code 54 = .ok (.newarray .char, 2) := by decide +kernel
theorem d1_56 : decode method_2_code 56 = .ok (.dup, 1) := by decide +kernel
theorem d1_57 : decode method_2_code 57 = .ok (.iconst 0, 1) := by decide +kernel
theorem d1_58 : decode method_2_code 58 = .ok (.iload_n 1, 1) := by decide +kernel
theorem d1_59 : decode method_2_code 59 = .ok (.castore, 1) := by decide +kernel
theorem d1_60 : decode method_2_code 60 = .ok (.dup, 1) := by decide +kernel
theorem d1_61 : decode method_2_code 61 = .ok (.iconst 1, 1) := by decide +kernel
theorem d1_62 : decode method_2_code 62 = .ok (.iload_n 2, 1) := by decide +kernel
theorem d1_63 : decode method_2_code 63 = .ok (.castore, 1) := by decide +kernel
theorem d1_64 : decode method_2_code 64 = .ok (.invokespecial 9, 3) := by decide +kernel
theorem d1_67 : decode method_2_code 67 = .ok (.areturn, 1) := by decide +kernel
theorem d5_0 : decode prog_3_method_1_code 0 = .ok (.aload_n 0, 1) := by decide +kernel
theorem d5_1 : decode prog_3_method_1_code 1 = .ok (.invokespecial 1, 3) := by decide +kernel
theorem d5_4 : decode prog_3_method_1_code 4 = .ok (.aload_n 0, 1) := by decide +kernel
theorem d5_5 : decode prog_3_method_1_code 5 = .ok (.aload_n 1, 1) := by decide +kernel
theorem d5_6 : decode prog_3_method_1_code 6 = .ok (.putfield 7, 3) := by decide +kernel
theorem d5_9 : decode prog_3_method_1_code 9 = .ok (.aload_n 0, 1) := by decide +kernel
theorem d5_10 : decode prog_3_method_1_code 10 = .ok (.aload_n 2, 1) := by decide +kernel
theorem d5_11 : decode prog_3_method_1_code 11 = .ok (.putfield 13, 3) := by decide +kernel
theorem d5_14 : decode prog_3_method_1_code 14 = .ok (.aload_n 0, 1) := by decide +kernel
theorem d5_15 : decode prog_3_method_1_code 15 = .ok (.aload_n 3, 1) := by decide +kernel
theorem d5_16 : decode prog_3_method_1_code 16 = .ok (.putfield 16, 3) := by decide +kernel
theorem d5_19 : decode prog_3_method_1_code 19 = .ok (.return_, 1) := by decide +kernel
theorem d6_0 : decode prog_3_method_4_code 0 = .ok (.new 31, 3) := by decide +kernel
theorem d6_3 : decode prog_3_method_4_code 3 = .ok (.dup, 1) := by decide +kernel
theorem d6_4 : decode prog_3_method_4_code 4 = .ok (.invokespecial 33, 3) := by decide +kernel
theorem d6_7 : decode prog_3_method_4_code 7 = .ok (.aload_n 0, 1) := by decide +kernel
theorem d6_8 : decode prog_3_method_4_code 8 = .ok (.getfield 13, 3) := by decide +kernel
theorem d6_11 : decode prog_3_method_4_code 11 = .ok (.invokevirtual 34, 3) := by decide +kernel
theorem d6_14 : decode prog_3_method_4_code 14 = .ok (.ldc 38, 2) := by decide +kernel
theorem d6_16 : decode prog_3_method_4_code 16 = .ok (.invokevirtual 34, 3) := by decide +kernel
theorem d6_19 : decode prog_3_method_4_code 19 = .ok (.aload_n 0, 1) := by decide +kernel
theorem d6_20 : decode prog_3_method_4_code 20 = .ok (.getfield 16, 3) := by decide +kernel
theorem d6_23 : decode prog_3_method_4_code 23 = .ok (.invokevirtual 34, 3) := by decide +kernel
theorem d6_26 : decode prog_3_method_4_code 26 = .ok (.ldc 40, 2) := by decide +kernel
theorem d6_28 : decode prog_3_method_4_code 28 = .ok (.invokevirtual 34, 3) := by decide +kernel
theorem d6_31 : decode prog_3_method_4_code 31 = .ok (.aload_n 0, 1) := by decide +kernel
theorem d6_32 : decode prog_3_method_4_code 32 = .ok (.getfield 7, 3) := by decide +kernel
theorem d6_35 : decode prog_3_method_4_code 35 = .ok (.invokevirtual 34, 3) := by decide +kernel
theorem d6_38 : decode prog_3_method_4_code 38 = .ok (.invokevirtual 42, 3) := by decide +kernel
theorem d6_41 : decode prog_3_method_4_code 41 = .ok (.areturn, 1) := by decide +kernel
theorem d34_0 : decode method_4_code 0 = .ok (.iload_n 3, 1) := by decide +kernel
theorem d34_1 : decode method_4_code 1 = .ok (.aload_n 2, 1) := by decide +kernel
theorem d34_2 : decode method_4_code 2 = .ok (.invokevirtual 16, 3) := by decide +kernel
theorem d34_5 : decode method_4_code 5 = .ok (.if_icmp .ge 18, 3) := by decide +kernel
theorem d34_8 : decode method_4_code 8 = .ok (.aload_n 0, 1) := by decide +kernel
theorem d34_9 : decode method_4_code 9 = .ok (.iload_n 1, 1) := by decide +kernel
theorem d34_10 : decode method_4_code 10 = .ok (.iload_n 3, 1) := by decide +kernel
theorem d34_11 : decode method_4_code 11 = .ok (.iadd, 1) := by decide +kernel
theorem d34_12 : decode method_4_code 12 = .ok (.invokevirtual 20, 3) := by decide +kernel
theorem d34_15 : decode method_4_code 15 = .ok (.aload_n 2, 1) := by decide +kernel
theorem d34_16 : decode method_4_code 16 = .ok (.iload_n 3, 1) := by decide +kernel
theorem d34_17 : decode method_4_code 17 = .ok (.invokevirtual 20, 3) := by decide +kernel
theorem d34_20 : decode method_4_code 20 = .ok (.if_icmp .ne 7, 3) := by decide +kernel
theorem d34_23 : decode method_4_code 23 = .ok (.iconst 1, 1) := by decide +kernel
theorem d34_24 : decode method_4_code 24 = .ok (.goto 4, 3) := by decide +kernel
theorem d34_28 : decode method_4_code 28 = .ok (.ireturn, 1) := by decide +kernel
theorem d33_0 : decode method_5_code 0 = .ok (.aload_n 0, 1) := by decide +kernel
theorem d33_1 : decode method_5_code 1 = .ok (.iload_n 1, 1) := by decide +kernel
theorem d33_2 : decode method_5_code 2 = .ok (.aload_n 2, 1) := by decide +kernel
theorem d33_3 : decode method_5_code 3 = .ok (.iconst 0, 1) := by decide +kernel
theorem d33_4 : decode method_5_code 4 = .ok (.invokestatic 24, 3) := by decide +kernel
theorem d33_7 : decode method_5_code 7 = .ok (.ifCond .eq 145, 3) := by decide +kernel
theorem d33_10 : decode method_5_code 10 = .ok (.aload_n 0, 1) := by decide +kernel
theorem d33_11 : decode method_5_code 11 = .ok (.iload_n 1, 1) := by decide +kernel
theorem d33_12 : decode method_5_code 12 = .ok (.aload_n 2, 1) := by decide +kernel
theorem d33_13 : decode method_5_code 13 = .ok (.iconst 1, 1) := by decide +kernel
theorem d33_14 : decode method_5_code 14 = .ok (.invokestatic 24, 3) := by decide +kernel
theorem d33_17 : decode method_5_code 17 = .ok (.ifCond .eq 135, 3) := by decide +kernel
theorem d33_20 : decode method_5_code 20 = .ok (.aload_n 0, 1) := by decide +kernel
theorem d33_21 : decode method_5_code 21 = .ok (.iload_n 1, 1) := by decide +kernel
theorem d33_22 : decode method_5_code 22 = .ok (.aload_n 2, 1) := by decide +kernel
theorem d33_23 : decode method_5_code 23 = .ok (.iconst 2, 1) := by decide +kernel
theorem d33_24 : decode method_5_code 24 = .ok (.invokestatic 24, 3) := by decide +kernel
theorem d33_27 : decode method_5_code 27 = .ok (.ifCond .eq 125, 3) := by decide +kernel
theorem d33_30 : decode method_5_code 30 = .ok (.aload_n 0, 1) := by decide +kernel
theorem d33_31 : decode method_5_code 31 = .ok (.iload_n 1, 1) := by decide +kernel
theorem d33_32 : decode method_5_code 32 = .ok (.aload_n 2, 1) := by decide +kernel
theorem d33_33 : decode method_5_code 33 = .ok (.iconst 3, 1) := by decide +kernel
theorem d33_34 : decode method_5_code 34 = .ok (.invokestatic 24, 3) := by decide +kernel
theorem d33_37 : decode method_5_code 37 = .ok (.ifCond .eq 115, 3) := by decide +kernel
theorem d33_40 : decode method_5_code 40 = .ok (.aload_n 0, 1) := by decide +kernel
theorem d33_41 : decode method_5_code 41 = .ok (.iload_n 1, 1) := by decide +kernel
theorem d33_42 : decode method_5_code 42 = .ok (.aload_n 2, 1) := by decide +kernel
theorem d33_43 : decode method_5_code 43 = .ok (.iconst 4, 1) := by decide +kernel
theorem d33_44 : decode method_5_code 44 = .ok (.invokestatic 24, 3) := by decide +kernel
theorem d33_47 : decode method_5_code 47 = .ok (.ifCond .eq 105, 3) := by decide +kernel
theorem d33_50 : decode method_5_code 50 = .ok (.aload_n 0, 1) := by decide +kernel
theorem d33_51 : decode method_5_code 51 = .ok (.iload_n 1, 1) := by decide +kernel
theorem d33_52 : decode method_5_code 52 = .ok (.aload_n 2, 1) := by decide +kernel
theorem d33_53 : decode method_5_code 53 = .ok (.iconst 5, 1) := by decide +kernel
theorem d33_54 : decode method_5_code 54 = .ok (.invokestatic 24, 3) := by decide +kernel
theorem d33_57 : decode method_5_code 57 = .ok (.ifCond .eq 95, 3) := by decide +kernel
theorem d33_60 : decode method_5_code 60 = .ok (.aload_n 0, 1) := by decide +kernel
theorem d33_61 : decode method_5_code 61 = .ok (.iload_n 1, 1) := by decide +kernel
theorem d33_62 : decode method_5_code 62 = .ok (.aload_n 2, 1) := by decide +kernel
theorem d33_63 : decode method_5_code 63 = .ok (.bipush 6, 2) := by decide +kernel
theorem d33_65 : decode method_5_code 65 = .ok (.invokestatic 24, 3) := by decide +kernel
theorem d33_68 : decode method_5_code 68 = .ok (.ifCond .eq 84, 3) := by decide +kernel
theorem d33_71 : decode method_5_code 71 = .ok (.aload_n 0, 1) := by decide +kernel
theorem d33_72 : decode method_5_code 72 = .ok (.iload_n 1, 1) := by decide +kernel
theorem d33_73 : decode method_5_code 73 = .ok (.aload_n 2, 1) := by decide +kernel
theorem d33_74 : decode method_5_code 74 = .ok (.bipush 7, 2) := by decide +kernel
theorem d33_76 : decode method_5_code 76 = .ok (.invokestatic 24, 3) := by decide +kernel
theorem d33_79 : decode method_5_code 79 = .ok (.ifCond .eq 73, 3) := by decide +kernel
theorem d33_82 : decode method_5_code 82 = .ok (.aload_n 0, 1) := by decide +kernel
theorem d33_83 : decode method_5_code 83 = .ok (.iload_n 1, 1) := by decide +kernel
theorem d33_84 : decode method_5_code 84 = .ok (.aload_n 2, 1) := by decide +kernel
theorem d33_85 : decode method_5_code 85 = .ok (.bipush 8, 2) := by decide +kernel
theorem d33_87 : decode method_5_code 87 = .ok (.invokestatic 24, 3) := by decide +kernel
theorem d33_90 : decode method_5_code 90 = .ok (.ifCond .eq 62, 3) := by decide +kernel
theorem d33_93 : decode method_5_code 93 = .ok (.aload_n 0, 1) := by decide +kernel
theorem d33_94 : decode method_5_code 94 = .ok (.iload_n 1, 1) := by decide +kernel
theorem d33_95 : decode method_5_code 95 = .ok (.aload_n 2, 1) := by decide +kernel
theorem d33_96 : decode method_5_code 96 = .ok (.bipush 9, 2) := by decide +kernel
theorem d33_98 : decode method_5_code 98 = .ok (.invokestatic 24, 3) := by decide +kernel
theorem d33_101 : decode method_5_code 101 = .ok (.ifCond .eq 51, 3) := by decide +kernel
theorem d33_104 : decode method_5_code 104 = .ok (.aload_n 0, 1) := by decide +kernel
theorem d33_105 : decode method_5_code 105 = .ok (.iload_n 1, 1) := by decide +kernel
theorem d33_106 : decode method_5_code 106 = .ok (.aload_n 2, 1) := by decide +kernel
theorem d33_107 : decode method_5_code 107 = .ok (.bipush 10, 2) := by decide +kernel
theorem d33_109 : decode method_5_code 109 = .ok (.invokestatic 24, 3) := by decide +kernel
theorem d33_112 : decode method_5_code 112 = .ok (.ifCond .eq 40, 3) := by decide +kernel
theorem d33_115 : decode method_5_code 115 = .ok (.aload_n 0, 1) := by decide +kernel
theorem d33_116 : decode method_5_code 116 = .ok (.iload_n 1, 1) := by decide +kernel
theorem d33_117 : decode method_5_code 117 = .ok (.aload_n 2, 1) := by decide +kernel
theorem d33_118 : decode method_5_code 118 = .ok (.bipush 11, 2) := by decide +kernel
theorem d33_120 : decode method_5_code 120 = .ok (.invokestatic 24, 3) := by decide +kernel
theorem d33_123 : decode method_5_code 123 = .ok (.ifCond .eq 29, 3) := by decide +kernel
theorem d33_126 : decode method_5_code 126 = .ok (.aload_n 0, 1) := by decide +kernel
theorem d33_127 : decode method_5_code 127 = .ok (.iload_n 1, 1) := by decide +kernel
theorem d33_128 : decode method_5_code 128 = .ok (.aload_n 2, 1) := by decide +kernel
theorem d33_129 : decode method_5_code 129 = .ok (.bipush 12, 2) := by decide +kernel
theorem d33_131 : decode method_5_code 131 = .ok (.invokestatic 24, 3) := by decide +kernel
theorem d33_134 : decode method_5_code 134 = .ok (.ifCond .eq 18, 3) := by decide +kernel
theorem d33_137 : decode method_5_code 137 = .ok (.aload_n 0, 1) := by decide +kernel
theorem d33_138 : decode method_5_code 138 = .ok (.iload_n 1, 1) := by decide +kernel
theorem d33_139 : decode method_5_code 139 = .ok (.aload_n 2, 1) := by decide +kernel
theorem d33_140 : decode method_5_code 140 = .ok (.bipush 13, 2) := by decide +kernel
theorem d33_142 : decode method_5_code 142 = .ok (.invokestatic 24, 3) := by decide +kernel
theorem d33_145 : decode method_5_code 145 = .ok (.ifCond .eq 7, 3) := by decide +kernel
theorem d33_148 : decode method_5_code 148 = .ok (.iconst 1, 1) := by decide +kernel
theorem d33_149 : decode method_5_code 149 = .ok (.goto 4, 3) := by decide +kernel
theorem d33_153 : decode method_5_code 153 = .ok (.ireturn, 1) := by decide +kernel
theorem d32_0 : decode method_3_code 0 = .ok (.aload_n 2, 1) := by decide +kernel
theorem d32_1 : decode method_3_code 1 = .ok (.invokevirtual 16, 3) := by decide +kernel
theorem d32_4 : decode method_3_code 4 = .ok (.iconst 1, 1) := by decide +kernel
theorem d32_5 : decode method_3_code 5 = .ok (.if_icmp .lt 16, 3) := by decide +kernel
theorem d32_21 : decode method_3_code 21 = .ok (.aload_n 2, 1) := by decide +kernel
theorem d32_22 : decode method_3_code 22 = .ok (.invokevirtual 16, 3) := by decide +kernel
theorem d32_25 : decode method_3_code 25 = .ok (.iconst 2, 1) := by decide +kernel
theorem d32_26 : decode method_3_code 26 = .ok (.if_icmp .lt 18, 3) := by decide +kernel
theorem d32_44 : decode method_3_code 44 = .ok (.iconst 1, 1) := by decide +kernel
theorem d32_45 : decode method_3_code 45 = .ok (.goto 4, 3) := by decide +kernel
theorem d32_49 : decode method_3_code 49 = .ok (.ireturn, 1) := by decide +kernel
theorem d32_29 : decode method_3_code 29 = .ok (.aload_n 0, 1) := by decide +kernel
theorem d32_30 : decode method_3_code 30 = .ok (.iload_n 1, 1) := by decide +kernel
theorem d32_31 : decode method_3_code 31 = .ok (.iconst 1, 1) := by decide +kernel
theorem d32_32 : decode method_3_code 32 = .ok (.iadd, 1) := by decide +kernel
theorem d32_33 : decode method_3_code 33 = .ok (.invokevirtual 20, 3) := by decide +kernel
theorem d32_36 : decode method_3_code 36 = .ok (.aload_n 2, 1) := by decide +kernel
theorem d32_37 : decode method_3_code 37 = .ok (.iconst 1, 1) := by decide +kernel
theorem d32_38 : decode method_3_code 38 = .ok (.invokevirtual 20, 3) := by decide +kernel
theorem d32_41 : decode method_3_code 41 = .ok (.if_icmp .ne 7, 3) := by decide +kernel
theorem d32_8 : decode method_3_code 8 = .ok (.aload_n 0, 1) := by decide +kernel
theorem d32_9 : decode method_3_code 9 = .ok (.iload_n 1, 1) := by decide +kernel
theorem d32_10 : decode method_3_code 10 = .ok (.invokevirtual 20, 3) := by decide +kernel
theorem d32_13 : decode method_3_code 13 = .ok (.aload_n 2, 1) := by decide +kernel
theorem d32_14 : decode method_3_code 14 = .ok (.iconst 0, 1) := by decide +kernel
theorem d32_15 : decode method_3_code 15 = .ok (.invokevirtual 20, 3) := by decide +kernel
theorem d32_18 : decode method_3_code 18 = .ok (.if_icmp .ne 30, 3) := by decide +kernel
theorem pd0 : parseMethodDescriptor "([CIILjava/lang/Void;)V" = some ⟨[(.array .char), .int, .int, (.object "java/lang/Void")], none⟩ := by decide +kernel
theorem pd1 : parseMethodDescriptor "(C)Z" = some ⟨[.char], some .boolean⟩ := by decide +kernel
theorem pd2 : parseMethodDescriptor "(C)[B" = some ⟨[.char], some (.array .byte)⟩ := by decide +kernel
theorem pd3 : parseMethodDescriptor "([BB)V" = some ⟨[(.array .byte), .byte], none⟩ := by decide +kernel
theorem pd4 : parseMethodDescriptor "(I)V" = some ⟨[.int], none⟩ := by decide +kernel
theorem pd5 : parseMethodDescriptor "(II)I" = some ⟨[.int, .int], some .int⟩ := by decide +kernel
theorem pd6 : parseMethodDescriptor "(III)I" = some ⟨[.int, .int, .int], some .int⟩ := by decide +kernel
theorem pd7 : parseMethodDescriptor "(I)I" = some ⟨[.int], some .int⟩ := by decide +kernel
theorem pd8 : parseMethodDescriptor "([BI)[B" = some ⟨[(.array .byte), .int], some (.array .byte)⟩ := by decide +kernel
theorem pd9 : parseMethodDescriptor "()B" = some ⟨[], some .byte⟩ := by decide +kernel
theorem pd10 : parseMethodDescriptor "(Ljava/lang/String;)V" = some ⟨[(.object "java/lang/String")], none⟩ := by decide +kernel
theorem pd11 : parseMethodDescriptor "([BIB)V" = some ⟨[(.array .byte), .int, .byte], none⟩ := by decide +kernel
theorem pd12 : parseMethodDescriptor "()I" = some ⟨[], some .int⟩ := by decide +kernel
theorem pd13 : parseMethodDescriptor "(ILjava/lang/String;)V" = some ⟨[.int, (.object "java/lang/String")], none⟩ := by decide +kernel
theorem pd14 : parseMethodDescriptor "(Ljava/lang/String;)Ljava/lang/AbstractStringBuilder;" = some ⟨[(.object "java/lang/String")], some (.object "java/lang/AbstractStringBuilder")⟩ := by decide +kernel
theorem pd15 : parseMethodDescriptor "(II)V" = some ⟨[.int, .int], none⟩ := by decide +kernel
theorem pd16 : parseMethodDescriptor "([BII)[B" = some ⟨[(.array .byte), .int, .int], some (.array .byte)⟩ := by decide +kernel
theorem pd17 : parseMethodDescriptor "()[B" = some ⟨[], some (.array .byte)⟩ := by decide +kernel
theorem pd18 : parseMethodDescriptor "()Z" = some ⟨[], some .boolean⟩ := by decide +kernel
theorem pd19 : parseMethodDescriptor "(Ljava/lang/AbstractStringBuilder;Ljava/lang/Void;)V" = some ⟨[(.object "java/lang/AbstractStringBuilder"), (.object "java/lang/Void")], none⟩ := by decide +kernel
theorem pd20 : parseMethodDescriptor "(Ljava/lang/StringBuilder;)V" = some ⟨[(.object "java/lang/StringBuilder")], none⟩ := by decide +kernel
theorem pd21 : parseMethodDescriptor "([C)V" = some ⟨[(.array .char)], none⟩ := by decide +kernel
theorem pd22 : parseMethodDescriptor "(C)Ljava/lang/String;" = some ⟨[.char], some (.object "java/lang/String")⟩ := by decide +kernel
theorem pd23 : parseMethodDescriptor "()V" = some ⟨[], none⟩ := by decide +kernel
theorem pd24 : parseMethodDescriptor "(Ljava/lang/String;)Ljava/lang/StringBuilder;" = some ⟨[(.object "java/lang/String")], some (.object "java/lang/StringBuilder")⟩ := by decide +kernel
theorem pd25 : parseMethodDescriptor "()Ljava/lang/String;" = some ⟨[], some (.object "java/lang/String")⟩ := by decide +kernel
theorem pd26 : parseMethodDescriptor "(I)C" = some ⟨[.int], some .char⟩ := by decide +kernel
theorem pd27 : parseMethodDescriptor "(Ljava/lang/String;ILjava/lang/String;I)Z" = some ⟨[(.object "java/lang/String"), .int, (.object "java/lang/String"), .int], some .boolean⟩ := by decide +kernel
theorem pd28 : parseMethodDescriptor "(I)Ljava/lang/String;" = some ⟨[.int], some (.object "java/lang/String")⟩ := by decide +kernel
theorem pd29 : parseMethodDescriptor "(Ljava/lang/String;Ljava/lang/String;Ljava/lang/String;)V" = some ⟨[(.object "java/lang/String"), (.object "java/lang/String"), (.object "java/lang/String")], none⟩ := by decide +kernel
theorem pd30 : parseMethodDescriptor "(Ljava/lang/String;ILjava/lang/String;)Z" = some ⟨[(.object "java/lang/String"), .int, (.object "java/lang/String")], some .boolean⟩ := by decide +kernel
theorem pn0 : plainName "java/lang/String" = true := by first | (simp [plainName, overriddenIn]; done) | decide +kernel
theorem pn1 : plainName "java/lang/StringLatin1" = true := by first | (simp [plainName, overriddenIn]; done) | decide +kernel
theorem pn2 : plainName "java/lang/AbstractStringBuilder" = true := by first | (simp [plainName, overriddenIn]; done) | decide +kernel
theorem pn3 : plainName "java/lang/StringBuilder" = true := by first | (simp [plainName, overriddenIn]; done) | decide +kernel
theorem pf19 : plainFor (⟨"java/lang/Math", "max", "(II)I"⟩ : MethodName) = true := by first | decide +kernel | rfl
theorem pn5 : plainName "jdk/internal/util/ArraysSupport" = true := by first | (simp [plainName, overriddenIn]; done) | decide +kernel
theorem pf21 : plainFor (⟨"java/lang/Math", "min", "(II)I"⟩ : MethodName) = true := by first | decide +kernel | rfl
theorem pn7 : plainName "java/util/Arrays" = true := by first | (simp [plainName, overriddenIn]; done) | decide +kernel
theorem pn8 : plainName "com/example/bounded_lock/boundedlock/HoldToStringPinLaw" = true := by first | (simp [plainName, overriddenIn]; done) | decide +kernel
theorem pn9 : plainName "com/example/bounded_lock/boundedlock/Hold" = true := by first | (simp [plainName, overriddenIn]; done) | decide +kernel
theorem wd0 {Z : State} {a0 : Array Value} (hw : ∀ d ∈ tables_1, d.before a0 Z = true) : (Jvm.Cond.methodLink "com/example/bounded_lock/boundedlock/HoldToStringPinLaw" (30 : Nat) ({ cls := "com/example/bounded_lock/boundedlock/HoldToStringPinLaw", name := "mk", desc := "(I)Ljava/lang/String;" } : Jvm.MethodName)).before a0 Z = true := hw _ (List.mem_of_getElem? (i := 0) rfl)
theorem wd1 {Z : State} {a0 : Array Value} (hw : ∀ d ∈ tables_1, d.before a0 Z = true) : (Jvm.Cond.static ({ cls := "com/example/bounded_lock/boundedlock/HoldToStringPinLaw", name := "mk", desc := "(I)Ljava/lang/String;" } : Jvm.MethodName)).before a0 Z = true := hw _ (List.mem_of_getElem? (i := 1) rfl)
theorem wd2 {Z : State} {a0 : Array Value} (hw : ∀ d ∈ tables_1, d.before a0 Z = true) : (Jvm.Cond.initialized "com/example/bounded_lock/boundedlock/HoldToStringPinLaw").before a0 Z = true := hw _ (List.mem_of_getElem? (i := 2) rfl)
theorem wd3 {Z : State} {a0 : Array Value} (hw : ∀ d ∈ tables_1, d.before a0 Z = true) : (Jvm.Cond.code ({ cls := "com/example/bounded_lock/boundedlock/HoldToStringPinLaw", name := "mk", desc := "(I)Ljava/lang/String;" } : Jvm.MethodName) method_2_code (4 : Nat) (Option.some (Jvm.ClassFile.FieldType.object "java/lang/String"))).before a0 Z = true := hw _ (List.mem_of_getElem? (i := 3) rfl)
theorem wd4 {Z : State} {a0 : Array Value} (hw : ∀ d ∈ tables_1, d.before a0 Z = true) : (Jvm.Cond.classLink "com/example/bounded_lock/boundedlock/HoldToStringPinLaw" (7 : Nat) "java/lang/String").before a0 Z = true := hw _ (List.mem_of_getElem? (i := 4) rfl)
theorem wd5 {Z : State} {a0 : Array Value} (hw : ∀ d ∈ tables_1, d.before a0 Z = true) : (Jvm.Cond.instantiable "java/lang/String" (4 : Nat)).before a0 Z = true := hw _ (List.mem_of_getElem? (i := 5) rfl)
theorem wd6 {Z : State} {a0 : Array Value} (hw : ∀ d ∈ tables_1, d.before a0 Z = true) : (Jvm.Cond.initialized "java/lang/String").before a0 Z = true := hw _ (List.mem_of_getElem? (i := 6) rfl)
theorem wd7 {Z : State} {a0 : Array Value} (hw : ∀ d ∈ tables_1, d.before a0 Z = true) : (Jvm.Cond.arrayClass Jvm.ClassFile.FieldType.char).before a0 Z = true := hw _ (List.mem_of_getElem? (i := 7) rfl)
theorem wd8 {Z : State} {a0 : Array Value} (hw : ∀ d ∈ tables_1, d.before a0 Z = true) : (Jvm.Cond.methodLink "com/example/bounded_lock/boundedlock/HoldToStringPinLaw" (9 : Nat) ({ cls := "java/lang/String", name := "<init>", desc := "([C)V" } : Jvm.MethodName)).before a0 Z = true := hw _ (List.mem_of_getElem? (i := 8) rfl)
theorem wd9 {Z : State} {a0 : Array Value} (hw : ∀ d ∈ tables_1, d.before a0 Z = true) : (Jvm.Cond.instanceMethod ({ cls := "java/lang/String", name := "<init>", desc := "([C)V" } : Jvm.MethodName)).before a0 Z = true := hw _ (List.mem_of_getElem? (i := 9) rfl)
theorem wd10 {Z : State} {a0 : Array Value} (hw : ∀ d ∈ tables_1, d.before a0 Z = true) : (Jvm.Cond.code ({ cls := "java/lang/String", name := "<init>", desc := "([C)V" } : Jvm.MethodName) jdk_42_method_3_code (2 : Nat) (Option.none : Option Jvm.ClassFile.FieldType)).before a0 Z = true := hw _ (List.mem_of_getElem? (i := 10) rfl)
theorem wd11 {Z : State} {a0 : Array Value} (hw : ∀ d ∈ tables_1, d.before a0 Z = true) : (Jvm.Cond.methodLink "java/lang/String" (27 : Nat) ({ cls := "java/lang/String", name := "<init>", desc := "([CIILjava/lang/Void;)V" } : Jvm.MethodName)).before a0 Z = true := hw _ (List.mem_of_getElem? (i := 11) rfl)
theorem wd12 {Z : State} {a0 : Array Value} (hw : ∀ d ∈ tables_1, d.before a0 Z = true) : (Jvm.Cond.instanceMethod ({ cls := "java/lang/String", name := "<init>", desc := "([CIILjava/lang/Void;)V" } : Jvm.MethodName)).before a0 Z = true := hw _ (List.mem_of_getElem? (i := 12) rfl)
theorem wd14 {Z : State} {a0 : Array Value} (hw : ∀ d ∈ tables_1, d.before a0 Z = true) : (Jvm.Cond.code ({ cls := "java/lang/String", name := "<init>", desc := "([CIILjava/lang/Void;)V" } : Jvm.MethodName) jdk_42_method_149_code (6 : Nat) (Option.none : Option Jvm.ClassFile.FieldType)).before a0 Z = true := hw _ (List.mem_of_getElem? (i := 14) rfl)
theorem wd15 {Z : State} {a0 : Array Value} (hw : ∀ d ∈ tables_1, d.before a0 Z = true) : (Jvm.Cond.methodLink "java/lang/String" (1 : Nat) ({ cls := "java/lang/Object", name := "<init>", desc := "()V" } : Jvm.MethodName)).before a0 Z = true := hw _ (List.mem_of_getElem? (i := 15) rfl)
theorem wd16 {Z : State} {a0 : Array Value} (hw : ∀ d ∈ tables_1, d.before a0 Z = true) : (Jvm.Cond.instanceMethod ({ cls := "java/lang/Object", name := "<init>", desc := "()V" } : Jvm.MethodName)).before a0 Z = true := hw _ (List.mem_of_getElem? (i := 16) rfl)
theorem wd17 {Z : State} {a0 : Array Value} (hw : ∀ d ∈ tables_1, d.before a0 Z = true) : (Jvm.Cond.code ({ cls := "java/lang/Object", name := "<init>", desc := "()V" } : Jvm.MethodName) object_method_1_code (1 : Nat) (Option.none : Option Jvm.ClassFile.FieldType)).before a0 Z = true := hw _ (List.mem_of_getElem? (i := 17) rfl)
theorem wd18 {Z : State} {a0 : Array Value} (hw : ∀ d ∈ tables_1, d.before a0 Z = true) : (Jvm.Cond.stringLink "java/lang/String" (7 : Nat) "").before a0 Z = true := hw _ (List.mem_of_getElem? (i := 18) rfl)
theorem wd19 {Z : State} {a0 : Array Value} (hw : ∀ d ∈ tables_1, d.before a0 Z = true) : (Jvm.Cond.arrayClass Jvm.ClassFile.FieldType.byte).before a0 Z = true := hw _ (List.mem_of_getElem? (i := 19) rfl)
theorem wd20 {Z : State} {a0 : Array Value} (hw : ∀ d ∈ tables_1, d.before a0 Z = true) : (Jvm.Cond.laysFinal "java/lang/String" "java/lang/String" "value" "[B").before a0 Z = true := hw _ (List.mem_of_getElem? (i := 20) rfl)
theorem wd21 {Z : State} {a0 : Array Value} (hw : ∀ d ∈ tables_1, d.before a0 Z = true) : (Jvm.Cond.laysFinal "java/lang/String" "java/lang/String" "coder" "B").before a0 Z = true := hw _ (List.mem_of_getElem? (i := 21) rfl)
theorem wd24 {Z : State} {a0 : Array Value} (hw : ∀ d ∈ tables_1, d.before a0 Z = true) : (Jvm.Cond.fieldLink "java/lang/String" (9 : Nat) "java/lang/String" "value" "[B").before a0 Z = true := hw _ (List.mem_of_getElem? (i := 24) rfl)
theorem wd25 {Z : State} {a0 : Array Value} (hw : ∀ d ∈ tables_1, d.before a0 Z = true) : (Jvm.Cond.fieldLink "java/lang/String" (15 : Nat) "java/lang/String" "coder" "B").before a0 Z = true := hw _ (List.mem_of_getElem? (i := 25) rfl)
theorem wd26 {Z : State} {a0 : Array Value} (hw : ∀ d ∈ tables_1, d.before a0 Z = true) : (Jvm.Cond.classLink "com/example/bounded_lock/boundedlock/HoldToStringPinLaw" (34 : Nat) "com/example/bounded_lock/boundedlock/Hold").before a0 Z = true := hw _ (List.mem_of_getElem? (i := 26) rfl)
theorem wd27 {Z : State} {a0 : Array Value} (hw : ∀ d ∈ tables_1, d.before a0 Z = true) : (Jvm.Cond.instantiable "com/example/bounded_lock/boundedlock/Hold" (3 : Nat)).before a0 Z = true := hw _ (List.mem_of_getElem? (i := 27) rfl)
theorem wd28 {Z : State} {a0 : Array Value} (hw : ∀ d ∈ tables_1, d.before a0 Z = true) : (Jvm.Cond.initialized "com/example/bounded_lock/boundedlock/Hold").before a0 Z = true := hw _ (List.mem_of_getElem? (i := 28) rfl)
theorem wd29 {Z : State} {a0 : Array Value} (hw : ∀ d ∈ tables_1, d.before a0 Z = true) : (Jvm.Cond.methodLink "com/example/bounded_lock/boundedlock/HoldToStringPinLaw" (36 : Nat) ({ cls := "com/example/bounded_lock/boundedlock/Hold", name := "<init>", desc := "(Ljava/lang/String;Ljava/lang/String;Ljava/lang/String;)V" } : Jvm.MethodName)).before a0 Z = true := hw _ (List.mem_of_getElem? (i := 29) rfl)
theorem wd30 {Z : State} {a0 : Array Value} (hw : ∀ d ∈ tables_1, d.before a0 Z = true) : (Jvm.Cond.instanceMethod ({ cls := "com/example/bounded_lock/boundedlock/Hold", name := "<init>", desc := "(Ljava/lang/String;Ljava/lang/String;Ljava/lang/String;)V" } : Jvm.MethodName)).before a0 Z = true := hw _ (List.mem_of_getElem? (i := 30) rfl)
theorem wd31 {Z : State} {a0 : Array Value} (hw : ∀ d ∈ tables_1, d.before a0 Z = true) : (Jvm.Cond.code ({ cls := "com/example/bounded_lock/boundedlock/Hold", name := "<init>", desc := "(Ljava/lang/String;Ljava/lang/String;Ljava/lang/String;)V" } : Jvm.MethodName) prog_3_method_1_code (4 : Nat) (Option.none : Option Jvm.ClassFile.FieldType)).before a0 Z = true := hw _ (List.mem_of_getElem? (i := 31) rfl)
theorem wd32 {Z : State} {a0 : Array Value} (hw : ∀ d ∈ tables_1, d.before a0 Z = true) : (Jvm.Cond.methodLink "com/example/bounded_lock/boundedlock/Hold" (1 : Nat) ({ cls := "java/lang/Object", name := "<init>", desc := "()V" } : Jvm.MethodName)).before a0 Z = true := hw _ (List.mem_of_getElem? (i := 32) rfl)
theorem wd33 {Z : State} {a0 : Array Value} (hw : ∀ d ∈ tables_1, d.before a0 Z = true) : (Jvm.Cond.fieldLink "com/example/bounded_lock/boundedlock/Hold" (7 : Nat) "com/example/bounded_lock/boundedlock/Hold" "holder" "Ljava/lang/String;").before a0 Z = true := hw _ (List.mem_of_getElem? (i := 33) rfl)
theorem wd34 {Z : State} {a0 : Array Value} (hw : ∀ d ∈ tables_1, d.before a0 Z = true) : (Jvm.Cond.laysFinal "com/example/bounded_lock/boundedlock/Hold" "com/example/bounded_lock/boundedlock/Hold" "holder" "Ljava/lang/String;").before a0 Z = true := hw _ (List.mem_of_getElem? (i := 34) rfl)
theorem wd35 {Z : State} {a0 : Array Value} (hw : ∀ d ∈ tables_1, d.before a0 Z = true) : (Jvm.Cond.fieldLink "com/example/bounded_lock/boundedlock/Hold" (13 : Nat) "com/example/bounded_lock/boundedlock/Hold" "kind" "Ljava/lang/String;").before a0 Z = true := hw _ (List.mem_of_getElem? (i := 35) rfl)
theorem wd36 {Z : State} {a0 : Array Value} (hw : ∀ d ∈ tables_1, d.before a0 Z = true) : (Jvm.Cond.laysFinal "com/example/bounded_lock/boundedlock/Hold" "com/example/bounded_lock/boundedlock/Hold" "kind" "Ljava/lang/String;").before a0 Z = true := hw _ (List.mem_of_getElem? (i := 36) rfl)
theorem wd37 {Z : State} {a0 : Array Value} (hw : ∀ d ∈ tables_1, d.before a0 Z = true) : (Jvm.Cond.fieldLink "com/example/bounded_lock/boundedlock/Hold" (16 : Nat) "com/example/bounded_lock/boundedlock/Hold" "lockName" "Ljava/lang/String;").before a0 Z = true := hw _ (List.mem_of_getElem? (i := 37) rfl)
theorem wd38 {Z : State} {a0 : Array Value} (hw : ∀ d ∈ tables_1, d.before a0 Z = true) : (Jvm.Cond.laysFinal "com/example/bounded_lock/boundedlock/Hold" "com/example/bounded_lock/boundedlock/Hold" "lockName" "Ljava/lang/String;").before a0 Z = true := hw _ (List.mem_of_getElem? (i := 38) rfl)
theorem wd39 {Z : State} {a0 : Array Value} (hw : ∀ d ∈ tables_1, d.before a0 Z = true) : (Jvm.Cond.methodLink "com/example/bounded_lock/boundedlock/HoldToStringPinLaw" (39 : Nat) ({ cls := "com/example/bounded_lock/boundedlock/Hold", name := "toString", desc := "()Ljava/lang/String;" } : Jvm.MethodName)).before a0 Z = true := hw _ (List.mem_of_getElem? (i := 39) rfl)
theorem wd40 {Z : State} {a0 : Array Value} (hw : ∀ d ∈ tables_1, d.before a0 Z = true) : (Jvm.Cond.declares ({ cls := "com/example/bounded_lock/boundedlock/Hold", name := "toString", desc := "()Ljava/lang/String;" } : Jvm.MethodName)).before a0 Z = true := hw _ (List.mem_of_getElem? (i := 40) rfl)
theorem wd41 {Z : State} {a0 : Array Value} (hw : ∀ d ∈ tables_1, d.before a0 Z = true) : (Jvm.Cond.instanceMethod ({ cls := "com/example/bounded_lock/boundedlock/Hold", name := "toString", desc := "()Ljava/lang/String;" } : Jvm.MethodName)).before a0 Z = true := hw _ (List.mem_of_getElem? (i := 41) rfl)
theorem wd42 {Z : State} {a0 : Array Value} (hw : ∀ d ∈ tables_1, d.before a0 Z = true) : (Jvm.Cond.selects "com/example/bounded_lock/boundedlock/Hold" ({ cls := "com/example/bounded_lock/boundedlock/Hold", name := "toString", desc := "()Ljava/lang/String;" } : Jvm.MethodName) ({ cls := "com/example/bounded_lock/boundedlock/Hold", name := "toString", desc := "()Ljava/lang/String;" } : Jvm.MethodName)).before a0 Z = true := hw _ (List.mem_of_getElem? (i := 42) rfl)
theorem wd43 {Z : State} {a0 : Array Value} (hw : ∀ d ∈ tables_1, d.before a0 Z = true) : (Jvm.Cond.code ({ cls := "com/example/bounded_lock/boundedlock/Hold", name := "toString", desc := "()Ljava/lang/String;" } : Jvm.MethodName) prog_3_method_4_code (1 : Nat) (Option.some (Jvm.ClassFile.FieldType.object "java/lang/String"))).before a0 Z = true := hw _ (List.mem_of_getElem? (i := 43) rfl)
theorem wd44 {Z : State} {a0 : Array Value} (hw : ∀ d ∈ tables_1, d.before a0 Z = true) : (Jvm.Cond.classLink "com/example/bounded_lock/boundedlock/Hold" (31 : Nat) "java/lang/StringBuilder").before a0 Z = true := hw _ (List.mem_of_getElem? (i := 44) rfl)
theorem wd45 {Z : State} {a0 : Array Value} (hw : ∀ d ∈ tables_1, d.before a0 Z = true) : (Jvm.Cond.instantiable "java/lang/StringBuilder" (4 : Nat)).before a0 Z = true := hw _ (List.mem_of_getElem? (i := 45) rfl)
theorem wd46 {Z : State} {a0 : Array Value} (hw : ∀ d ∈ tables_1, d.before a0 Z = true) : (Jvm.Cond.initialized "java/lang/StringBuilder").before a0 Z = true := hw _ (List.mem_of_getElem? (i := 46) rfl)
theorem wd47 {Z : State} {a0 : Array Value} (hw : ∀ d ∈ tables_1, d.before a0 Z = true) : (Jvm.Cond.methodLink "com/example/bounded_lock/boundedlock/Hold" (33 : Nat) ({ cls := "java/lang/StringBuilder", name := "<init>", desc := "()V" } : Jvm.MethodName)).before a0 Z = true := hw _ (List.mem_of_getElem? (i := 47) rfl)
theorem wd48 {Z : State} {a0 : Array Value} (hw : ∀ d ∈ tables_1, d.before a0 Z = true) : (Jvm.Cond.instanceMethod ({ cls := "java/lang/StringBuilder", name := "<init>", desc := "()V" } : Jvm.MethodName)).before a0 Z = true := hw _ (List.mem_of_getElem? (i := 48) rfl)
theorem wd49 {Z : State} {a0 : Array Value} (hw : ∀ d ∈ tables_1, d.before a0 Z = true) : (Jvm.Cond.code ({ cls := "java/lang/StringBuilder", name := "<init>", desc := "()V" } : Jvm.MethodName) jdk_67_method_1_code (1 : Nat) (Option.none : Option Jvm.ClassFile.FieldType)).before a0 Z = true := hw _ (List.mem_of_getElem? (i := 49) rfl)
theorem wd50 {Z : State} {a0 : Array Value} (hw : ∀ d ∈ tables_1, d.before a0 Z = true) : (Jvm.Cond.methodLink "java/lang/StringBuilder" (1 : Nat) ({ cls := "java/lang/AbstractStringBuilder", name := "<init>", desc := "(I)V" } : Jvm.MethodName)).before a0 Z = true := hw _ (List.mem_of_getElem? (i := 50) rfl)
theorem wd51 {Z : State} {a0 : Array Value} (hw : ∀ d ∈ tables_1, d.before a0 Z = true) : (Jvm.Cond.instanceMethod ({ cls := "java/lang/AbstractStringBuilder", name := "<init>", desc := "(I)V" } : Jvm.MethodName)).before a0 Z = true := hw _ (List.mem_of_getElem? (i := 51) rfl)
theorem wd54 {Z : State} {a0 : Array Value} (hw : ∀ d ∈ tables_1, d.before a0 Z = true) : (Jvm.Cond.initialized "java/lang/AbstractStringBuilder").before a0 Z = true := hw _ (List.mem_of_getElem? (i := 54) rfl)
theorem wd55 {Z : State} {a0 : Array Value} (hw : ∀ d ∈ tables_1, d.before a0 Z = true) : (Jvm.Cond.code ({ cls := "java/lang/AbstractStringBuilder", name := "<init>", desc := "(I)V" } : Jvm.MethodName) jdk_68_method_2_code (2 : Nat) (Option.none : Option Jvm.ClassFile.FieldType)).before a0 Z = true := hw _ (List.mem_of_getElem? (i := 55) rfl)
theorem wd56 {Z : State} {a0 : Array Value} (hw : ∀ d ∈ tables_1, d.before a0 Z = true) : (Jvm.Cond.methodLink "java/lang/AbstractStringBuilder" (3 : Nat) ({ cls := "java/lang/Object", name := "<init>", desc := "()V" } : Jvm.MethodName)).before a0 Z = true := hw _ (List.mem_of_getElem? (i := 56) rfl)
theorem wd57 {Z : State} {a0 : Array Value} (hw : ∀ d ∈ tables_1, d.before a0 Z = true) : (Jvm.Cond.fieldLink "java/lang/AbstractStringBuilder" (18 : Nat) "java/lang/String" "COMPACT_STRINGS" "Z").before a0 Z = true := hw _ (List.mem_of_getElem? (i := 57) rfl)
theorem wd58 {Z : State} {a0 : Array Value} (hw : ∀ d ∈ tables_1, d.before a0 Z = true) : (Jvm.Cond.fieldLink "java/lang/AbstractStringBuilder" (15 : Nat) "java/lang/AbstractStringBuilder" "value" "[B").before a0 Z = true := hw _ (List.mem_of_getElem? (i := 58) rfl)
theorem wd59 {Z : State} {a0 : Array Value} (hw : ∀ d ∈ tables_1, d.before a0 Z = true) : (Jvm.Cond.lays "java/lang/StringBuilder" "java/lang/AbstractStringBuilder" "value" "[B").before a0 Z = true := hw _ (List.mem_of_getElem? (i := 59) rfl)
theorem wd60 {Z : State} {a0 : Array Value} (hw : ∀ d ∈ tables_1, d.before a0 Z = true) : (Jvm.Cond.fieldLink "java/lang/AbstractStringBuilder" (22 : Nat) "java/lang/AbstractStringBuilder" "coder" "B").before a0 Z = true := hw _ (List.mem_of_getElem? (i := 60) rfl)
theorem wd61 {Z : State} {a0 : Array Value} (hw : ∀ d ∈ tables_1, d.before a0 Z = true) : (Jvm.Cond.lays "java/lang/StringBuilder" "java/lang/AbstractStringBuilder" "coder" "B").before a0 Z = true := hw _ (List.mem_of_getElem? (i := 61) rfl)
theorem wd62 {Z : State} {a0 : Array Value} (hw : ∀ d ∈ tables_1, d.before a0 Z = true) : (Jvm.Cond.methodLink "com/example/bounded_lock/boundedlock/Hold" (34 : Nat) ({ cls := "java/lang/StringBuilder", name := "append", desc := "(Ljava/lang/String;)Ljava/lang/StringBuilder;" } : Jvm.MethodName)).before a0 Z = true := hw _ (List.mem_of_getElem? (i := 62) rfl)
theorem wd63 {Z : State} {a0 : Array Value} (hw : ∀ d ∈ tables_1, d.before a0 Z = true) : (Jvm.Cond.declares ({ cls := "java/lang/StringBuilder", name := "append", desc := "(Ljava/lang/String;)Ljava/lang/StringBuilder;" } : Jvm.MethodName)).before a0 Z = true := hw _ (List.mem_of_getElem? (i := 63) rfl)
theorem wd64 {Z : State} {a0 : Array Value} (hw : ∀ d ∈ tables_1, d.before a0 Z = true) : (Jvm.Cond.instanceMethod ({ cls := "java/lang/StringBuilder", name := "append", desc := "(Ljava/lang/String;)Ljava/lang/StringBuilder;" } : Jvm.MethodName)).before a0 Z = true := hw _ (List.mem_of_getElem? (i := 64) rfl)
theorem wd65 {Z : State} {a0 : Array Value} (hw : ∀ d ∈ tables_1, d.before a0 Z = true) : (Jvm.Cond.selects "java/lang/StringBuilder" ({ cls := "java/lang/StringBuilder", name := "append", desc := "(Ljava/lang/String;)Ljava/lang/StringBuilder;" } : Jvm.MethodName) ({ cls := "java/lang/StringBuilder", name := "append", desc := "(Ljava/lang/String;)Ljava/lang/StringBuilder;" } : Jvm.MethodName)).before a0 Z = true := hw _ (List.mem_of_getElem? (i := 65) rfl)
theorem wd66 {Z : State} {a0 : Array Value} (hw : ∀ d ∈ tables_1, d.before a0 Z = true) : (Jvm.Cond.code ({ cls := "java/lang/StringBuilder", name := "append", desc := "(Ljava/lang/String;)Ljava/lang/StringBuilder;" } : Jvm.MethodName) jdk_67_method_7_code (2 : Nat) (Option.some (Jvm.ClassFile.FieldType.object "java/lang/StringBuilder"))).before a0 Z = true := hw _ (List.mem_of_getElem? (i := 66) rfl)
theorem wd67 {Z : State} {a0 : Array Value} (hw : ∀ d ∈ tables_1, d.before a0 Z = true) : (Jvm.Cond.methodLink "java/lang/StringBuilder" (29 : Nat) ({ cls := "java/lang/AbstractStringBuilder", name := "append", desc := "(Ljava/lang/String;)Ljava/lang/AbstractStringBuilder;" } : Jvm.MethodName)).before a0 Z = true := hw _ (List.mem_of_getElem? (i := 67) rfl)
theorem wd68 {Z : State} {a0 : Array Value} (hw : ∀ d ∈ tables_1, d.before a0 Z = true) : (Jvm.Cond.instanceMethod ({ cls := "java/lang/AbstractStringBuilder", name := "append", desc := "(Ljava/lang/String;)Ljava/lang/AbstractStringBuilder;" } : Jvm.MethodName)).before a0 Z = true := hw _ (List.mem_of_getElem? (i := 68) rfl)
theorem wd69 {Z : State} {a0 : Array Value} (hw : ∀ d ∈ tables_1, d.before a0 Z = true) : (Jvm.Cond.superclass "java/lang/StringBuilder" "java/lang/AbstractStringBuilder").before a0 Z = true := hw _ (List.mem_of_getElem? (i := 69) rfl)
theorem wd71 {Z : State} {a0 : Array Value} (hw : ∀ d ∈ tables_1, d.before a0 Z = true) : (Jvm.Cond.code ({ cls := "java/lang/AbstractStringBuilder", name := "append", desc := "(Ljava/lang/String;)Ljava/lang/AbstractStringBuilder;" } : Jvm.MethodName) jdk_68_method_22_code (3 : Nat) (Option.some (Jvm.ClassFile.FieldType.object "java/lang/AbstractStringBuilder"))).before a0 Z = true := hw _ (List.mem_of_getElem? (i := 71) rfl)
theorem wd72 {Z : State} {a0 : Array Value} (hw : ∀ d ∈ tables_1, d.before a0 Z = true) : (Jvm.Cond.methodLink "java/lang/AbstractStringBuilder" (32 : Nat) ({ cls := "java/lang/String", name := "length", desc := "()I" } : Jvm.MethodName)).before a0 Z = true := hw _ (List.mem_of_getElem? (i := 72) rfl)
theorem wd73 {Z : State} {a0 : Array Value} (hw : ∀ d ∈ tables_1, d.before a0 Z = true) : (Jvm.Cond.declares ({ cls := "java/lang/String", name := "length", desc := "()I" } : Jvm.MethodName)).before a0 Z = true := hw _ (List.mem_of_getElem? (i := 73) rfl)
theorem wd74 {Z : State} {a0 : Array Value} (hw : ∀ d ∈ tables_1, d.before a0 Z = true) : (Jvm.Cond.instanceMethod ({ cls := "java/lang/String", name := "length", desc := "()I" } : Jvm.MethodName)).before a0 Z = true := hw _ (List.mem_of_getElem? (i := 74) rfl)
theorem wd75 {Z : State} {a0 : Array Value} (hw : ∀ d ∈ tables_1, d.before a0 Z = true) : (Jvm.Cond.selects "java/lang/String" ({ cls := "java/lang/String", name := "length", desc := "()I" } : Jvm.MethodName) ({ cls := "java/lang/String", name := "length", desc := "()I" } : Jvm.MethodName)).before a0 Z = true := hw _ (List.mem_of_getElem? (i := 75) rfl)
theorem wd77 {Z : State} {a0 : Array Value} (hw : ∀ d ∈ tables_1, d.before a0 Z = true) : (Jvm.Cond.methodLink "java/lang/String" (335 : Nat) ({ cls := "java/lang/String", name := "coder", desc := "()B" } : Jvm.MethodName)).before a0 Z = true := hw _ (List.mem_of_getElem? (i := 77) rfl)
theorem wd78 {Z : State} {a0 : Array Value} (hw : ∀ d ∈ tables_1, d.before a0 Z = true) : (Jvm.Cond.declares ({ cls := "java/lang/String", name := "coder", desc := "()B" } : Jvm.MethodName)).before a0 Z = true := hw _ (List.mem_of_getElem? (i := 78) rfl)
theorem wd79 {Z : State} {a0 : Array Value} (hw : ∀ d ∈ tables_1, d.before a0 Z = true) : (Jvm.Cond.instanceMethod ({ cls := "java/lang/String", name := "coder", desc := "()B" } : Jvm.MethodName)).before a0 Z = true := hw _ (List.mem_of_getElem? (i := 79) rfl)
theorem wd80 {Z : State} {a0 : Array Value} (hw : ∀ d ∈ tables_1, d.before a0 Z = true) : (Jvm.Cond.selects "java/lang/String" ({ cls := "java/lang/String", name := "coder", desc := "()B" } : Jvm.MethodName) ({ cls := "java/lang/String", name := "coder", desc := "()B" } : Jvm.MethodName)).before a0 Z = true := hw _ (List.mem_of_getElem? (i := 80) rfl)
theorem wd81 {Z : State} {a0 : Array Value} (hw : ∀ d ∈ tables_1, d.before a0 Z = true) : (Jvm.Cond.code ({ cls := "java/lang/String", name := "coder", desc := "()B" } : Jvm.MethodName) jdk_42_method_152_code (1 : Nat) (Option.some Jvm.ClassFile.FieldType.byte)).before a0 Z = true := hw _ (List.mem_of_getElem? (i := 81) rfl)
theorem wd82 {Z : State} {a0 : Array Value} (hw : ∀ d ∈ tables_1, d.before a0 Z = true) : (Jvm.Cond.fieldLink "java/lang/String" (38 : Nat) "java/lang/String" "COMPACT_STRINGS" "Z").before a0 Z = true := hw _ (List.mem_of_getElem? (i := 82) rfl)
theorem wd83 {Z : State} {a0 : Array Value} (hw : ∀ d ∈ tables_1, d.before a0 Z = true) : (Jvm.Cond.fieldLink "java/lang/AbstractStringBuilder" (79 : Nat) "java/lang/AbstractStringBuilder" "count" "I").before a0 Z = true := hw _ (List.mem_of_getElem? (i := 83) rfl)
theorem wd84 {Z : State} {a0 : Array Value} (hw : ∀ d ∈ tables_1, d.before a0 Z = true) : (Jvm.Cond.lays "java/lang/StringBuilder" "java/lang/AbstractStringBuilder" "count" "I").before a0 Z = true := hw _ (List.mem_of_getElem? (i := 84) rfl)
theorem wd85 {Z : State} {a0 : Array Value} (hw : ∀ d ∈ tables_1, d.before a0 Z = true) : (Jvm.Cond.methodLink "java/lang/AbstractStringBuilder" (100 : Nat) ({ cls := "java/lang/AbstractStringBuilder", name := "ensureCapacityInternal", desc := "(I)V" } : Jvm.MethodName)).before a0 Z = true := hw _ (List.mem_of_getElem? (i := 85) rfl)
theorem wd86 {Z : State} {a0 : Array Value} (hw : ∀ d ∈ tables_1, d.before a0 Z = true) : (Jvm.Cond.instanceMethod ({ cls := "java/lang/AbstractStringBuilder", name := "ensureCapacityInternal", desc := "(I)V" } : Jvm.MethodName)).before a0 Z = true := hw _ (List.mem_of_getElem? (i := 86) rfl)
theorem wd87 {Z : State} {a0 : Array Value} (hw : ∀ d ∈ tables_1, d.before a0 Z = true) : (Jvm.Cond.privateMethod ({ cls := "java/lang/AbstractStringBuilder", name := "ensureCapacityInternal", desc := "(I)V" } : Jvm.MethodName)).before a0 Z = true := hw _ (List.mem_of_getElem? (i := 87) rfl)
theorem wd88 {Z : State} {a0 : Array Value} (hw : ∀ d ∈ tables_1, d.before a0 Z = true) : (Jvm.Cond.selects "java/lang/StringBuilder" ({ cls := "java/lang/AbstractStringBuilder", name := "ensureCapacityInternal", desc := "(I)V" } : Jvm.MethodName) ({ cls := "java/lang/AbstractStringBuilder", name := "ensureCapacityInternal", desc := "(I)V" } : Jvm.MethodName)).before a0 Z = true := hw _ (List.mem_of_getElem? (i := 88) rfl)
theorem wd89 {Z : State} {a0 : Array Value} (hw : ∀ d ∈ tables_1, d.before a0 Z = true) : (Jvm.Cond.code ({ cls := "java/lang/AbstractStringBuilder", name := "ensureCapacityInternal", desc := "(I)V" } : Jvm.MethodName) jdk_68_method_9_code (3 : Nat) (Option.none : Option Jvm.ClassFile.FieldType)).before a0 Z = true := hw _ (List.mem_of_getElem? (i := 89) rfl)
theorem wd90 {Z : State} {a0 : Array Value} (hw : ∀ d ∈ tables_1, d.before a0 Z = true) : (Jvm.Cond.methodLink "java/lang/AbstractStringBuilder" (208 : Nat) ({ cls := "java/lang/AbstractStringBuilder", name := "putStringAt", desc := "(ILjava/lang/String;)V" } : Jvm.MethodName)).before a0 Z = true := hw _ (List.mem_of_getElem? (i := 90) rfl)
theorem wd91 {Z : State} {a0 : Array Value} (hw : ∀ d ∈ tables_1, d.before a0 Z = true) : (Jvm.Cond.instanceMethod ({ cls := "java/lang/AbstractStringBuilder", name := "putStringAt", desc := "(ILjava/lang/String;)V" } : Jvm.MethodName)).before a0 Z = true := hw _ (List.mem_of_getElem? (i := 91) rfl)
theorem wd92 {Z : State} {a0 : Array Value} (hw : ∀ d ∈ tables_1, d.before a0 Z = true) : (Jvm.Cond.privateMethod ({ cls := "java/lang/AbstractStringBuilder", name := "putStringAt", desc := "(ILjava/lang/String;)V" } : Jvm.MethodName)).before a0 Z = true := hw _ (List.mem_of_getElem? (i := 92) rfl)
theorem wd93 {Z : State} {a0 : Array Value} (hw : ∀ d ∈ tables_1, d.before a0 Z = true) : (Jvm.Cond.selects "java/lang/StringBuilder" ({ cls := "java/lang/AbstractStringBuilder", name := "putStringAt", desc := "(ILjava/lang/String;)V" } : Jvm.MethodName) ({ cls := "java/lang/AbstractStringBuilder", name := "putStringAt", desc := "(ILjava/lang/String;)V" } : Jvm.MethodName)).before a0 Z = true := hw _ (List.mem_of_getElem? (i := 93) rfl)
theorem wd94 {Z : State} {a0 : Array Value} (hw : ∀ d ∈ tables_1, d.before a0 Z = true) : (Jvm.Cond.code ({ cls := "java/lang/AbstractStringBuilder", name := "putStringAt", desc := "(ILjava/lang/String;)V" } : Jvm.MethodName) jdk_68_method_73_code (3 : Nat) (Option.none : Option Jvm.ClassFile.FieldType)).before a0 Z = true := hw _ (List.mem_of_getElem? (i := 94) rfl)
theorem wd95 {Z : State} {a0 : Array Value} (hw : ∀ d ∈ tables_1, d.before a0 Z = true) : (Jvm.Cond.methodLink "java/lang/AbstractStringBuilder" (397 : Nat) ({ cls := "java/lang/AbstractStringBuilder", name := "inflateIfNeededFor", desc := "(Ljava/lang/String;)V" } : Jvm.MethodName)).before a0 Z = true := hw _ (List.mem_of_getElem? (i := 95) rfl)
theorem wd96 {Z : State} {a0 : Array Value} (hw : ∀ d ∈ tables_1, d.before a0 Z = true) : (Jvm.Cond.instanceMethod ({ cls := "java/lang/AbstractStringBuilder", name := "inflateIfNeededFor", desc := "(Ljava/lang/String;)V" } : Jvm.MethodName)).before a0 Z = true := hw _ (List.mem_of_getElem? (i := 96) rfl)
theorem wd97 {Z : State} {a0 : Array Value} (hw : ∀ d ∈ tables_1, d.before a0 Z = true) : (Jvm.Cond.privateMethod ({ cls := "java/lang/AbstractStringBuilder", name := "inflateIfNeededFor", desc := "(Ljava/lang/String;)V" } : Jvm.MethodName)).before a0 Z = true := hw _ (List.mem_of_getElem? (i := 97) rfl)
theorem wd98 {Z : State} {a0 : Array Value} (hw : ∀ d ∈ tables_1, d.before a0 Z = true) : (Jvm.Cond.selects "java/lang/StringBuilder" ({ cls := "java/lang/AbstractStringBuilder", name := "inflateIfNeededFor", desc := "(Ljava/lang/String;)V" } : Jvm.MethodName) ({ cls := "java/lang/AbstractStringBuilder", name := "inflateIfNeededFor", desc := "(Ljava/lang/String;)V" } : Jvm.MethodName)).before a0 Z = true := hw _ (List.mem_of_getElem? (i := 98) rfl)
theorem wd99 {Z : State} {a0 : Array Value} (hw : ∀ d ∈ tables_1, d.before a0 Z = true) : (Jvm.Cond.code ({ cls := "java/lang/AbstractStringBuilder", name := "inflateIfNeededFor", desc := "(Ljava/lang/String;)V" } : Jvm.MethodName) jdk_68_method_71_code (2 : Nat) (Option.none : Option Jvm.ClassFile.FieldType)).before a0 Z = true := hw _ (List.mem_of_getElem? (i := 99) rfl)
theorem wd100 {Z : State} {a0 : Array Value} (hw : ∀ d ∈ tables_1, d.before a0 Z = true) : (Jvm.Cond.methodLink "java/lang/AbstractStringBuilder" (40 : Nat) ({ cls := "java/lang/String", name := "coder", desc := "()B" } : Jvm.MethodName)).before a0 Z = true := hw _ (List.mem_of_getElem? (i := 100) rfl)
theorem wd101 {Z : State} {a0 : Array Value} (hw : ∀ d ∈ tables_1, d.before a0 Z = true) : (Jvm.Cond.methodLink "java/lang/AbstractStringBuilder" (399 : Nat) ({ cls := "java/lang/String", name := "getBytes", desc := "([BIB)V" } : Jvm.MethodName)).before a0 Z = true := hw _ (List.mem_of_getElem? (i := 101) rfl)
theorem wd102 {Z : State} {a0 : Array Value} (hw : ∀ d ∈ tables_1, d.before a0 Z = true) : (Jvm.Cond.declares ({ cls := "java/lang/String", name := "getBytes", desc := "([BIB)V" } : Jvm.MethodName)).before a0 Z = true := hw _ (List.mem_of_getElem? (i := 102) rfl)
theorem wd103 {Z : State} {a0 : Array Value} (hw : ∀ d ∈ tables_1, d.before a0 Z = true) : (Jvm.Cond.instanceMethod ({ cls := "java/lang/String", name := "getBytes", desc := "([BIB)V" } : Jvm.MethodName)).before a0 Z = true := hw _ (List.mem_of_getElem? (i := 103) rfl)
theorem wd104 {Z : State} {a0 : Array Value} (hw : ∀ d ∈ tables_1, d.before a0 Z = true) : (Jvm.Cond.selects "java/lang/String" ({ cls := "java/lang/String", name := "getBytes", desc := "([BIB)V" } : Jvm.MethodName) ({ cls := "java/lang/String", name := "getBytes", desc := "([BIB)V" } : Jvm.MethodName)).before a0 Z = true := hw _ (List.mem_of_getElem? (i := 104) rfl)
theorem wd105 {Z : State} {a0 : Array Value} (hw : ∀ d ∈ tables_1, d.before a0 Z = true) : (Jvm.Cond.code ({ cls := "java/lang/String", name := "getBytes", desc := "([BIB)V" } : Jvm.MethodName) jdk_42_method_147_code (4 : Nat) (Option.none : Option Jvm.ClassFile.FieldType)).before a0 Z = true := hw _ (List.mem_of_getElem? (i := 105) rfl)
theorem wd106 {Z : State} {a0 : Array Value} (hw : ∀ d ∈ tables_1, d.before a0 Z = true) : (Jvm.Cond.methodLink "java/lang/String" (212 : Nat) ({ cls := "java/lang/System", name := "arraycopy", desc := "(Ljava/lang/Object;ILjava/lang/Object;II)V" } : Jvm.MethodName)).before a0 Z = true := hw _ (List.mem_of_getElem? (i := 106) rfl)
theorem wd107 {Z : State} {a0 : Array Value} (hw : ∀ d ∈ tables_1, d.before a0 Z = true) : (Jvm.Cond.static ({ cls := "java/lang/System", name := "arraycopy", desc := "(Ljava/lang/Object;ILjava/lang/Object;II)V" } : Jvm.MethodName)).before a0 Z = true := hw _ (List.mem_of_getElem? (i := 107) rfl)
theorem wd108 {Z : State} {a0 : Array Value} (hw : ∀ d ∈ tables_1, d.before a0 Z = true) : (Jvm.Cond.initialized "java/lang/System").before a0 Z = true := hw _ (List.mem_of_getElem? (i := 108) rfl)
theorem wd109 {Z : State} {a0 : Array Value} (hw : ∀ d ∈ tables_1, d.before a0 Z = true) : (Jvm.Cond.native ({ cls := "java/lang/System", name := "arraycopy", desc := "(Ljava/lang/Object;ILjava/lang/Object;II)V" } : Jvm.MethodName)).before a0 Z = true := hw _ (List.mem_of_getElem? (i := 109) rfl)
theorem wd110 {Z : State} {a0 : Array Value} (hw : ∀ d ∈ tables_1, d.before a0 Z = true) : (Jvm.Cond.stringLink "com/example/bounded_lock/boundedlock/Hold" (38 : Nat) " hold of lock ").before a0 Z = true := hw _ (List.mem_of_getElem? (i := 110) rfl)
theorem wd111 {Z : State} {a0 : Array Value} (hw : ∀ d ∈ tables_1, d.before a0 Z = true) : (Jvm.Cond.stringLink "com/example/bounded_lock/boundedlock/Hold" (40 : Nat) " by ").before a0 Z = true := hw _ (List.mem_of_getElem? (i := 111) rfl)
theorem wd112 {Z : State} {a0 : Array Value} (hw : ∀ d ∈ tables_1, d.before a0 Z = true) : (Jvm.Cond.methodLink "java/lang/AbstractStringBuilder" (104 : Nat) ({ cls := "java/lang/AbstractStringBuilder", name := "newCapacity", desc := "(I)I" } : Jvm.MethodName)).before a0 Z = true := hw _ (List.mem_of_getElem? (i := 112) rfl)
theorem wd113 {Z : State} {a0 : Array Value} (hw : ∀ d ∈ tables_1, d.before a0 Z = true) : (Jvm.Cond.instanceMethod ({ cls := "java/lang/AbstractStringBuilder", name := "newCapacity", desc := "(I)I" } : Jvm.MethodName)).before a0 Z = true := hw _ (List.mem_of_getElem? (i := 113) rfl)
theorem wd114 {Z : State} {a0 : Array Value} (hw : ∀ d ∈ tables_1, d.before a0 Z = true) : (Jvm.Cond.privateMethod ({ cls := "java/lang/AbstractStringBuilder", name := "newCapacity", desc := "(I)I" } : Jvm.MethodName)).before a0 Z = true := hw _ (List.mem_of_getElem? (i := 114) rfl)
theorem wd115 {Z : State} {a0 : Array Value} (hw : ∀ d ∈ tables_1, d.before a0 Z = true) : (Jvm.Cond.selects "java/lang/StringBuilder" ({ cls := "java/lang/AbstractStringBuilder", name := "newCapacity", desc := "(I)I" } : Jvm.MethodName) ({ cls := "java/lang/AbstractStringBuilder", name := "newCapacity", desc := "(I)I" } : Jvm.MethodName)).before a0 Z = true := hw _ (List.mem_of_getElem? (i := 115) rfl)
theorem wd116 {Z : State} {a0 : Array Value} (hw : ∀ d ∈ tables_1, d.before a0 Z = true) : (Jvm.Cond.code ({ cls := "java/lang/AbstractStringBuilder", name := "newCapacity", desc := "(I)I" } : Jvm.MethodName) jdk_68_method_10_code (6 : Nat) (Option.some Jvm.ClassFile.FieldType.int)).before a0 Z = true := hw _ (List.mem_of_getElem? (i := 116) rfl)
theorem wd117 {Z : State} {a0 : Array Value} (hw : ∀ d ∈ tables_1, d.before a0 Z = true) : (Jvm.Cond.methodLink "java/lang/AbstractStringBuilder" (114 : Nat) ({ cls := "jdk/internal/util/ArraysSupport", name := "newLength", desc := "(III)I" } : Jvm.MethodName)).before a0 Z = true := hw _ (List.mem_of_getElem? (i := 117) rfl)
theorem wd118 {Z : State} {a0 : Array Value} (hw : ∀ d ∈ tables_1, d.before a0 Z = true) : (Jvm.Cond.static ({ cls := "jdk/internal/util/ArraysSupport", name := "newLength", desc := "(III)I" } : Jvm.MethodName)).before a0 Z = true := hw _ (List.mem_of_getElem? (i := 118) rfl)
theorem wd119 {Z : State} {a0 : Array Value} (hw : ∀ d ∈ tables_1, d.before a0 Z = true) : (Jvm.Cond.initialized "jdk/internal/util/ArraysSupport").before a0 Z = true := hw _ (List.mem_of_getElem? (i := 119) rfl)
theorem wd120 {Z : State} {a0 : Array Value} (hw : ∀ d ∈ tables_1, d.before a0 Z = true) : (Jvm.Cond.code ({ cls := "jdk/internal/util/ArraysSupport", name := "newLength", desc := "(III)I" } : Jvm.MethodName) jdk_48_method_27_code (4 : Nat) (Option.some Jvm.ClassFile.FieldType.int)).before a0 Z = true := hw _ (List.mem_of_getElem? (i := 120) rfl)
theorem wd121 {Z : State} {a0 : Array Value} (hw : ∀ d ∈ tables_1, d.before a0 Z = true) : (Jvm.Cond.methodLink "jdk/internal/util/ArraysSupport" (194 : Nat) ({ cls := "java/lang/Math", name := "max", desc := "(II)I" } : Jvm.MethodName)).before a0 Z = true := hw _ (List.mem_of_getElem? (i := 121) rfl)
theorem wd122 {Z : State} {a0 : Array Value} (hw : ∀ d ∈ tables_1, d.before a0 Z = true) : (Jvm.Cond.static ({ cls := "java/lang/Math", name := "max", desc := "(II)I" } : Jvm.MethodName)).before a0 Z = true := hw _ (List.mem_of_getElem? (i := 122) rfl)
theorem wd123 {Z : State} {a0 : Array Value} (hw : ∀ d ∈ tables_1, d.before a0 Z = true) : (Jvm.Cond.initialized "java/lang/Math").before a0 Z = true := hw _ (List.mem_of_getElem? (i := 123) rfl)
theorem wd124 {Z : State} {a0 : Array Value} (hw : ∀ d ∈ tables_1, d.before a0 Z = true) : (Jvm.Cond.code ({ cls := "java/lang/Math", name := "max", desc := "(II)I" } : Jvm.MethodName) jdk_29_method_65_code (2 : Nat) (Option.some Jvm.ClassFile.FieldType.int)).before a0 Z = true := hw _ (List.mem_of_getElem? (i := 124) rfl)
theorem wd125 {Z : State} {a0 : Array Value} (hw : ∀ d ∈ tables_1, d.before a0 Z = true) : (Jvm.Cond.constant "jdk/internal/util/ArraysSupport" (200 : Nat) (2147483639 : Int32)).before a0 Z = true := hw _ (List.mem_of_getElem? (i := 125) rfl)
theorem wd126 {Z : State} {a0 : Array Value} (hw : ∀ d ∈ tables_1, d.before a0 Z = true) : (Jvm.Cond.constant "java/lang/AbstractStringBuilder" (39 : Nat) (2147483647 : Int32)).before a0 Z = true := hw _ (List.mem_of_getElem? (i := 126) rfl)
theorem wd127 {Z : State} {a0 : Array Value} (hw : ∀ d ∈ tables_1, d.before a0 Z = true) : (Jvm.Cond.methodLink "java/lang/AbstractStringBuilder" (108 : Nat) ({ cls := "java/util/Arrays", name := "copyOf", desc := "([BI)[B" } : Jvm.MethodName)).before a0 Z = true := hw _ (List.mem_of_getElem? (i := 127) rfl)
theorem wd128 {Z : State} {a0 : Array Value} (hw : ∀ d ∈ tables_1, d.before a0 Z = true) : (Jvm.Cond.static ({ cls := "java/util/Arrays", name := "copyOf", desc := "([BI)[B" } : Jvm.MethodName)).before a0 Z = true := hw _ (List.mem_of_getElem? (i := 128) rfl)
theorem wd129 {Z : State} {a0 : Array Value} (hw : ∀ d ∈ tables_1, d.before a0 Z = true) : (Jvm.Cond.initialized "java/util/Arrays").before a0 Z = true := hw _ (List.mem_of_getElem? (i := 129) rfl)
theorem wd130 {Z : State} {a0 : Array Value} (hw : ∀ d ∈ tables_1, d.before a0 Z = true) : (Jvm.Cond.code ({ cls := "java/util/Arrays", name := "copyOf", desc := "([BI)[B" } : Jvm.MethodName) jdk_65_method_121_code (3 : Nat) (Option.some (Jvm.ClassFile.FieldType.array Jvm.ClassFile.FieldType.byte))).before a0 Z = true := hw _ (List.mem_of_getElem? (i := 130) rfl)
theorem wd131 {Z : State} {a0 : Array Value} (hw : ∀ d ∈ tables_1, d.before a0 Z = true) : (Jvm.Cond.methodLink "java/util/Arrays" (304 : Nat) ({ cls := "java/lang/Math", name := "min", desc := "(II)I" } : Jvm.MethodName)).before a0 Z = true := hw _ (List.mem_of_getElem? (i := 131) rfl)
theorem wd132 {Z : State} {a0 : Array Value} (hw : ∀ d ∈ tables_1, d.before a0 Z = true) : (Jvm.Cond.static ({ cls := "java/lang/Math", name := "min", desc := "(II)I" } : Jvm.MethodName)).before a0 Z = true := hw _ (List.mem_of_getElem? (i := 132) rfl)
theorem wd133 {Z : State} {a0 : Array Value} (hw : ∀ d ∈ tables_1, d.before a0 Z = true) : (Jvm.Cond.code ({ cls := "java/lang/Math", name := "min", desc := "(II)I" } : Jvm.MethodName) jdk_29_method_69_code (2 : Nat) (Option.some Jvm.ClassFile.FieldType.int)).before a0 Z = true := hw _ (List.mem_of_getElem? (i := 133) rfl)
theorem wd134 {Z : State} {a0 : Array Value} (hw : ∀ d ∈ tables_1, d.before a0 Z = true) : (Jvm.Cond.methodLink "java/util/Arrays" (150 : Nat) ({ cls := "java/lang/System", name := "arraycopy", desc := "(Ljava/lang/Object;ILjava/lang/Object;II)V" } : Jvm.MethodName)).before a0 Z = true := hw _ (List.mem_of_getElem? (i := 134) rfl)
theorem wd135 {Z : State} {a0 : Array Value} (hw : ∀ d ∈ tables_1, d.before a0 Z = true) : (Jvm.Cond.methodLink "com/example/bounded_lock/boundedlock/Hold" (42 : Nat) ({ cls := "java/lang/StringBuilder", name := "toString", desc := "()Ljava/lang/String;" } : Jvm.MethodName)).before a0 Z = true := hw _ (List.mem_of_getElem? (i := 135) rfl)
theorem wd136 {Z : State} {a0 : Array Value} (hw : ∀ d ∈ tables_1, d.before a0 Z = true) : (Jvm.Cond.declares ({ cls := "java/lang/StringBuilder", name := "toString", desc := "()Ljava/lang/String;" } : Jvm.MethodName)).before a0 Z = true := hw _ (List.mem_of_getElem? (i := 136) rfl)
theorem wd137 {Z : State} {a0 : Array Value} (hw : ∀ d ∈ tables_1, d.before a0 Z = true) : (Jvm.Cond.instanceMethod ({ cls := "java/lang/StringBuilder", name := "toString", desc := "()Ljava/lang/String;" } : Jvm.MethodName)).before a0 Z = true := hw _ (List.mem_of_getElem? (i := 137) rfl)
theorem wd138 {Z : State} {a0 : Array Value} (hw : ∀ d ∈ tables_1, d.before a0 Z = true) : (Jvm.Cond.selects "java/lang/StringBuilder" ({ cls := "java/lang/StringBuilder", name := "toString", desc := "()Ljava/lang/String;" } : Jvm.MethodName) ({ cls := "java/lang/StringBuilder", name := "toString", desc := "()Ljava/lang/String;" } : Jvm.MethodName)).before a0 Z = true := hw _ (List.mem_of_getElem? (i := 138) rfl)
theorem wd139 {Z : State} {a0 : Array Value} (hw : ∀ d ∈ tables_1, d.before a0 Z = true) : (Jvm.Cond.code ({ cls := "java/lang/StringBuilder", name := "toString", desc := "()Ljava/lang/String;" } : Jvm.MethodName) jdk_67_method_42_code (1 : Nat) (Option.some (Jvm.ClassFile.FieldType.object "java/lang/String"))).before a0 Z = true := hw _ (List.mem_of_getElem? (i := 139) rfl)
theorem wd140 {Z : State} {a0 : Array Value} (hw : ∀ d ∈ tables_1, d.before a0 Z = true) : (Jvm.Cond.classLink "java/lang/StringBuilder" (18 : Nat) "java/lang/String").before a0 Z = true := hw _ (List.mem_of_getElem? (i := 140) rfl)
theorem wd141 {Z : State} {a0 : Array Value} (hw : ∀ d ∈ tables_1, d.before a0 Z = true) : (Jvm.Cond.methodLink "java/lang/StringBuilder" (137 : Nat) ({ cls := "java/lang/String", name := "<init>", desc := "(Ljava/lang/StringBuilder;)V" } : Jvm.MethodName)).before a0 Z = true := hw _ (List.mem_of_getElem? (i := 141) rfl)
theorem wd142 {Z : State} {a0 : Array Value} (hw : ∀ d ∈ tables_1, d.before a0 Z = true) : (Jvm.Cond.instanceMethod ({ cls := "java/lang/String", name := "<init>", desc := "(Ljava/lang/StringBuilder;)V" } : Jvm.MethodName)).before a0 Z = true := hw _ (List.mem_of_getElem? (i := 142) rfl)
theorem wd143 {Z : State} {a0 : Array Value} (hw : ∀ d ∈ tables_1, d.before a0 Z = true) : (Jvm.Cond.code ({ cls := "java/lang/String", name := "<init>", desc := "(Ljava/lang/StringBuilder;)V" } : Jvm.MethodName) jdk_42_method_53_code (2 : Nat) (Option.none : Option Jvm.ClassFile.FieldType)).before a0 Z = true := hw _ (List.mem_of_getElem? (i := 143) rfl)
theorem wd144 {Z : State} {a0 : Array Value} (hw : ∀ d ∈ tables_1, d.before a0 Z = true) : (Jvm.Cond.methodLink "java/lang/String" (489 : Nat) ({ cls := "java/lang/String", name := "<init>", desc := "(Ljava/lang/AbstractStringBuilder;Ljava/lang/Void;)V" } : Jvm.MethodName)).before a0 Z = true := hw _ (List.mem_of_getElem? (i := 144) rfl)
theorem wd145 {Z : State} {a0 : Array Value} (hw : ∀ d ∈ tables_1, d.before a0 Z = true) : (Jvm.Cond.instanceMethod ({ cls := "java/lang/String", name := "<init>", desc := "(Ljava/lang/AbstractStringBuilder;Ljava/lang/Void;)V" } : Jvm.MethodName)).before a0 Z = true := hw _ (List.mem_of_getElem? (i := 145) rfl)
theorem wd146 {Z : State} {a0 : Array Value} (hw : ∀ d ∈ tables_1, d.before a0 Z = true) : (Jvm.Cond.code ({ cls := "java/lang/String", name := "<init>", desc := "(Ljava/lang/AbstractStringBuilder;Ljava/lang/Void;)V" } : Jvm.MethodName) jdk_42_method_150_code (5 : Nat) (Option.none : Option Jvm.ClassFile.FieldType)).before a0 Z = true := hw _ (List.mem_of_getElem? (i := 146) rfl)
theorem wd147 {Z : State} {a0 : Array Value} (hw : ∀ d ∈ tables_1, d.before a0 Z = true) : (Jvm.Cond.methodLink "java/lang/String" (552 : Nat) ({ cls := "java/lang/AbstractStringBuilder", name := "getValue", desc := "()[B" } : Jvm.MethodName)).before a0 Z = true := hw _ (List.mem_of_getElem? (i := 147) rfl)
theorem wd148 {Z : State} {a0 : Array Value} (hw : ∀ d ∈ tables_1, d.before a0 Z = true) : (Jvm.Cond.declares ({ cls := "java/lang/AbstractStringBuilder", name := "getValue", desc := "()[B" } : Jvm.MethodName)).before a0 Z = true := hw _ (List.mem_of_getElem? (i := 148) rfl)
theorem wd149 {Z : State} {a0 : Array Value} (hw : ∀ d ∈ tables_1, d.before a0 Z = true) : (Jvm.Cond.instanceMethod ({ cls := "java/lang/AbstractStringBuilder", name := "getValue", desc := "()[B" } : Jvm.MethodName)).before a0 Z = true := hw _ (List.mem_of_getElem? (i := 149) rfl)
theorem wd150 {Z : State} {a0 : Array Value} (hw : ∀ d ∈ tables_1, d.before a0 Z = true) : (Jvm.Cond.selects "java/lang/StringBuilder" ({ cls := "java/lang/AbstractStringBuilder", name := "getValue", desc := "()[B" } : Jvm.MethodName) ({ cls := "java/lang/AbstractStringBuilder", name := "getValue", desc := "()[B" } : Jvm.MethodName)).before a0 Z = true := hw _ (List.mem_of_getElem? (i := 150) rfl)
theorem wd151 {Z : State} {a0 : Array Value} (hw : ∀ d ∈ tables_1, d.before a0 Z = true) : (Jvm.Cond.code ({ cls := "java/lang/AbstractStringBuilder", name := "getValue", desc := "()[B" } : Jvm.MethodName) jdk_68_method_64_code (1 : Nat) (Option.some (Jvm.ClassFile.FieldType.array Jvm.ClassFile.FieldType.byte))).before a0 Z = true := hw _ (List.mem_of_getElem? (i := 151) rfl)
theorem wd152 {Z : State} {a0 : Array Value} (hw : ∀ d ∈ tables_1, d.before a0 Z = true) : (Jvm.Cond.methodLink "java/lang/String" (549 : Nat) ({ cls := "java/lang/AbstractStringBuilder", name := "length", desc := "()I" } : Jvm.MethodName)).before a0 Z = true := hw _ (List.mem_of_getElem? (i := 152) rfl)
theorem wd153 {Z : State} {a0 : Array Value} (hw : ∀ d ∈ tables_1, d.before a0 Z = true) : (Jvm.Cond.declares ({ cls := "java/lang/AbstractStringBuilder", name := "length", desc := "()I" } : Jvm.MethodName)).before a0 Z = true := hw _ (List.mem_of_getElem? (i := 153) rfl)
theorem wd154 {Z : State} {a0 : Array Value} (hw : ∀ d ∈ tables_1, d.before a0 Z = true) : (Jvm.Cond.instanceMethod ({ cls := "java/lang/AbstractStringBuilder", name := "length", desc := "()I" } : Jvm.MethodName)).before a0 Z = true := hw _ (List.mem_of_getElem? (i := 154) rfl)
theorem wd155 {Z : State} {a0 : Array Value} (hw : ∀ d ∈ tables_1, d.before a0 Z = true) : (Jvm.Cond.selects "java/lang/StringBuilder" ({ cls := "java/lang/AbstractStringBuilder", name := "length", desc := "()I" } : Jvm.MethodName) ({ cls := "java/lang/StringBuilder", name := "length", desc := "()I" } : Jvm.MethodName)).before a0 Z = true := hw _ (List.mem_of_getElem? (i := 155) rfl)
theorem wd156 {Z : State} {a0 : Array Value} (hw : ∀ d ∈ tables_1, d.before a0 Z = true) : (Jvm.Cond.instanceMethod ({ cls := "java/lang/StringBuilder", name := "length", desc := "()I" } : Jvm.MethodName)).before a0 Z = true := hw _ (List.mem_of_getElem? (i := 156) rfl)
theorem wd157 {Z : State} {a0 : Array Value} (hw : ∀ d ∈ tables_1, d.before a0 Z = true) : (Jvm.Cond.code ({ cls := "java/lang/StringBuilder", name := "length", desc := "()I" } : Jvm.MethodName) jdk_67_method_93_code (1 : Nat) (Option.some Jvm.ClassFile.FieldType.int)).before a0 Z = true := hw _ (List.mem_of_getElem? (i := 157) rfl)
theorem wd158 {Z : State} {a0 : Array Value} (hw : ∀ d ∈ tables_1, d.before a0 Z = true) : (Jvm.Cond.methodLink "java/lang/StringBuilder" (343 : Nat) ({ cls := "java/lang/AbstractStringBuilder", name := "length", desc := "()I" } : Jvm.MethodName)).before a0 Z = true := hw _ (List.mem_of_getElem? (i := 158) rfl)
theorem wd159 {Z : State} {a0 : Array Value} (hw : ∀ d ∈ tables_1, d.before a0 Z = true) : (Jvm.Cond.code ({ cls := "java/lang/AbstractStringBuilder", name := "length", desc := "()I" } : Jvm.MethodName) jdk_68_method_6_code (1 : Nat) (Option.some Jvm.ClassFile.FieldType.int)).before a0 Z = true := hw _ (List.mem_of_getElem? (i := 159) rfl)
theorem wd160 {Z : State} {a0 : Array Value} (hw : ∀ d ∈ tables_1, d.before a0 Z = true) : (Jvm.Cond.methodLink "java/lang/String" (1047 : Nat) ({ cls := "java/lang/AbstractStringBuilder", name := "isLatin1", desc := "()Z" } : Jvm.MethodName)).before a0 Z = true := hw _ (List.mem_of_getElem? (i := 160) rfl)
theorem wd161 {Z : State} {a0 : Array Value} (hw : ∀ d ∈ tables_1, d.before a0 Z = true) : (Jvm.Cond.declares ({ cls := "java/lang/AbstractStringBuilder", name := "isLatin1", desc := "()Z" } : Jvm.MethodName)).before a0 Z = true := hw _ (List.mem_of_getElem? (i := 161) rfl)
theorem wd162 {Z : State} {a0 : Array Value} (hw : ∀ d ∈ tables_1, d.before a0 Z = true) : (Jvm.Cond.instanceMethod ({ cls := "java/lang/AbstractStringBuilder", name := "isLatin1", desc := "()Z" } : Jvm.MethodName)).before a0 Z = true := hw _ (List.mem_of_getElem? (i := 162) rfl)
theorem wd163 {Z : State} {a0 : Array Value} (hw : ∀ d ∈ tables_1, d.before a0 Z = true) : (Jvm.Cond.selects "java/lang/StringBuilder" ({ cls := "java/lang/AbstractStringBuilder", name := "isLatin1", desc := "()Z" } : Jvm.MethodName) ({ cls := "java/lang/AbstractStringBuilder", name := "isLatin1", desc := "()Z" } : Jvm.MethodName)).before a0 Z = true := hw _ (List.mem_of_getElem? (i := 163) rfl)
theorem wd164 {Z : State} {a0 : Array Value} (hw : ∀ d ∈ tables_1, d.before a0 Z = true) : (Jvm.Cond.code ({ cls := "java/lang/AbstractStringBuilder", name := "isLatin1", desc := "()Z" } : Jvm.MethodName) jdk_68_method_68_code (1 : Nat) (Option.some Jvm.ClassFile.FieldType.boolean)).before a0 Z = true := hw _ (List.mem_of_getElem? (i := 164) rfl)
theorem wd165 {Z : State} {a0 : Array Value} (hw : ∀ d ∈ tables_1, d.before a0 Z = true) : (Jvm.Cond.methodLink "java/lang/String" (54 : Nat) ({ cls := "java/util/Arrays", name := "copyOfRange", desc := "([BII)[B" } : Jvm.MethodName)).before a0 Z = true := hw _ (List.mem_of_getElem? (i := 165) rfl)
theorem wd166 {Z : State} {a0 : Array Value} (hw : ∀ d ∈ tables_1, d.before a0 Z = true) : (Jvm.Cond.static ({ cls := "java/util/Arrays", name := "copyOfRange", desc := "([BII)[B" } : Jvm.MethodName)).before a0 Z = true := hw _ (List.mem_of_getElem? (i := 166) rfl)
theorem wd167 {Z : State} {a0 : Array Value} (hw : ∀ d ∈ tables_1, d.before a0 Z = true) : (Jvm.Cond.code ({ cls := "java/util/Arrays", name := "copyOfRange", desc := "([BII)[B" } : Jvm.MethodName) jdk_65_method_132_code (3 : Nat) (Option.some (Jvm.ClassFile.FieldType.array Jvm.ClassFile.FieldType.byte))).before a0 Z = true := hw _ (List.mem_of_getElem? (i := 167) rfl)
theorem wd168 {Z : State} {a0 : Array Value} (hw : ∀ d ∈ tables_1, d.before a0 Z = true) : (Jvm.Cond.methodLink "java/util/Arrays" (339 : Nat) ({ cls := "java/util/Arrays", name := "copyOfRangeByte", desc := "([BII)[B" } : Jvm.MethodName)).before a0 Z = true := hw _ (List.mem_of_getElem? (i := 168) rfl)
theorem wd169 {Z : State} {a0 : Array Value} (hw : ∀ d ∈ tables_1, d.before a0 Z = true) : (Jvm.Cond.static ({ cls := "java/util/Arrays", name := "copyOfRangeByte", desc := "([BII)[B" } : Jvm.MethodName)).before a0 Z = true := hw _ (List.mem_of_getElem? (i := 169) rfl)
theorem wd170 {Z : State} {a0 : Array Value} (hw : ∀ d ∈ tables_1, d.before a0 Z = true) : (Jvm.Cond.code ({ cls := "java/util/Arrays", name := "copyOfRangeByte", desc := "([BII)[B" } : Jvm.MethodName) jdk_65_method_133_code (5 : Nat) (Option.some (Jvm.ClassFile.FieldType.array Jvm.ClassFile.FieldType.byte))).before a0 Z = true := hw _ (List.mem_of_getElem? (i := 170) rfl)
theorem wd171 {Z : State} {a0 : Array Value} (hw : ∀ d ∈ tables_1, d.before a0 Z = true) : (Jvm.Cond.methodLink "java/util/Arrays" (343 : Nat) ({ cls := "java/util/Arrays", name := "checkLength", desc := "(II)V" } : Jvm.MethodName)).before a0 Z = true := hw _ (List.mem_of_getElem? (i := 171) rfl)
theorem wd172 {Z : State} {a0 : Array Value} (hw : ∀ d ∈ tables_1, d.before a0 Z = true) : (Jvm.Cond.static ({ cls := "java/util/Arrays", name := "checkLength", desc := "(II)V" } : Jvm.MethodName)).before a0 Z = true := hw _ (List.mem_of_getElem? (i := 172) rfl)
theorem wd173 {Z : State} {a0 : Array Value} (hw : ∀ d ∈ tables_1, d.before a0 Z = true) : (Jvm.Cond.code ({ cls := "java/util/Arrays", name := "checkLength", desc := "(II)V" } : Jvm.MethodName) jdk_65_method_131_code (2 : Nat) (Option.none : Option Jvm.ClassFile.FieldType)).before a0 Z = true := hw _ (List.mem_of_getElem? (i := 173) rfl)
theorem wd174 {Z : State} {a0 : Array Value} (hw : ∀ d ∈ tables_1, d.before a0 Z = true) : (Jvm.Cond.methodLink "com/example/bounded_lock/boundedlock/HoldToStringPinLaw" (16 : Nat) ({ cls := "java/lang/String", name := "length", desc := "()I" } : Jvm.MethodName)).before a0 Z = true := hw _ (List.mem_of_getElem? (i := 174) rfl)
theorem wd175 {Z : State} {a0 : Array Value} (hw : ∀ d ∈ tables_1, d.before a0 Z = true) : (Jvm.Cond.methodLink "com/example/bounded_lock/boundedlock/HoldToStringPinLaw" (43 : Nat) ({ cls := "com/example/bounded_lock/boundedlock/HoldToStringPinLaw", name := "seg", desc := "(Ljava/lang/String;ILjava/lang/String;)Z" } : Jvm.MethodName)).before a0 Z = true := hw _ (List.mem_of_getElem? (i := 175) rfl)
theorem wd176 {Z : State} {a0 : Array Value} (hw : ∀ d ∈ tables_1, d.before a0 Z = true) : (Jvm.Cond.static ({ cls := "com/example/bounded_lock/boundedlock/HoldToStringPinLaw", name := "seg", desc := "(Ljava/lang/String;ILjava/lang/String;)Z" } : Jvm.MethodName)).before a0 Z = true := hw _ (List.mem_of_getElem? (i := 176) rfl)
theorem wd177 {Z : State} {a0 : Array Value} (hw : ∀ d ∈ tables_1, d.before a0 Z = true) : (Jvm.Cond.code ({ cls := "com/example/bounded_lock/boundedlock/HoldToStringPinLaw", name := "seg", desc := "(Ljava/lang/String;ILjava/lang/String;)Z" } : Jvm.MethodName) method_3_code (3 : Nat) (Option.some Jvm.ClassFile.FieldType.boolean)).before a0 Z = true := hw _ (List.mem_of_getElem? (i := 177) rfl)
theorem wd178 {Z : State} {a0 : Array Value} (hw : ∀ d ∈ tables_1, d.before a0 Z = true) : (Jvm.Cond.stringLink "com/example/bounded_lock/boundedlock/HoldToStringPinLaw" (47 : Nat) " hold of lock ").before a0 Z = true := hw _ (List.mem_of_getElem? (i := 178) rfl)
theorem wd179 {Z : State} {a0 : Array Value} (hw : ∀ d ∈ tables_1, d.before a0 Z = true) : (Jvm.Cond.methodLink "com/example/bounded_lock/boundedlock/HoldToStringPinLaw" (49 : Nat) ({ cls := "com/example/bounded_lock/boundedlock/HoldToStringPinLaw", name := "lit", desc := "(Ljava/lang/String;ILjava/lang/String;)Z" } : Jvm.MethodName)).before a0 Z = true := hw _ (List.mem_of_getElem? (i := 179) rfl)
theorem wd180 {Z : State} {a0 : Array Value} (hw : ∀ d ∈ tables_1, d.before a0 Z = true) : (Jvm.Cond.static ({ cls := "com/example/bounded_lock/boundedlock/HoldToStringPinLaw", name := "lit", desc := "(Ljava/lang/String;ILjava/lang/String;)Z" } : Jvm.MethodName)).before a0 Z = true := hw _ (List.mem_of_getElem? (i := 180) rfl)
theorem wd181 {Z : State} {a0 : Array Value} (hw : ∀ d ∈ tables_1, d.before a0 Z = true) : (Jvm.Cond.code ({ cls := "com/example/bounded_lock/boundedlock/HoldToStringPinLaw", name := "lit", desc := "(Ljava/lang/String;ILjava/lang/String;)Z" } : Jvm.MethodName) method_5_code (3 : Nat) (Option.some Jvm.ClassFile.FieldType.boolean)).before a0 Z = true := hw _ (List.mem_of_getElem? (i := 181) rfl)
theorem wd182 {Z : State} {a0 : Array Value} (hw : ∀ d ∈ tables_1, d.before a0 Z = true) : (Jvm.Cond.methodLink "com/example/bounded_lock/boundedlock/HoldToStringPinLaw" (24 : Nat) ({ cls := "com/example/bounded_lock/boundedlock/HoldToStringPinLaw", name := "ch", desc := "(Ljava/lang/String;ILjava/lang/String;I)Z" } : Jvm.MethodName)).before a0 Z = true := hw _ (List.mem_of_getElem? (i := 182) rfl)
theorem wd183 {Z : State} {a0 : Array Value} (hw : ∀ d ∈ tables_1, d.before a0 Z = true) : (Jvm.Cond.static ({ cls := "com/example/bounded_lock/boundedlock/HoldToStringPinLaw", name := "ch", desc := "(Ljava/lang/String;ILjava/lang/String;I)Z" } : Jvm.MethodName)).before a0 Z = true := hw _ (List.mem_of_getElem? (i := 183) rfl)
theorem wd184 {Z : State} {a0 : Array Value} (hw : ∀ d ∈ tables_1, d.before a0 Z = true) : (Jvm.Cond.code ({ cls := "com/example/bounded_lock/boundedlock/HoldToStringPinLaw", name := "ch", desc := "(Ljava/lang/String;ILjava/lang/String;I)Z" } : Jvm.MethodName) method_4_code (4 : Nat) (Option.some Jvm.ClassFile.FieldType.boolean)).before a0 Z = true := hw _ (List.mem_of_getElem? (i := 184) rfl)
theorem wd185 {Z : State} {a0 : Array Value} (hw : ∀ d ∈ tables_1, d.before a0 Z = true) : (Jvm.Cond.methodLink "com/example/bounded_lock/boundedlock/HoldToStringPinLaw" (20 : Nat) ({ cls := "java/lang/String", name := "charAt", desc := "(I)C" } : Jvm.MethodName)).before a0 Z = true := hw _ (List.mem_of_getElem? (i := 185) rfl)
theorem wd186 {Z : State} {a0 : Array Value} (hw : ∀ d ∈ tables_1, d.before a0 Z = true) : (Jvm.Cond.declares ({ cls := "java/lang/String", name := "charAt", desc := "(I)C" } : Jvm.MethodName)).before a0 Z = true := hw _ (List.mem_of_getElem? (i := 186) rfl)
theorem wd187 {Z : State} {a0 : Array Value} (hw : ∀ d ∈ tables_1, d.before a0 Z = true) : (Jvm.Cond.instanceMethod ({ cls := "java/lang/String", name := "charAt", desc := "(I)C" } : Jvm.MethodName)).before a0 Z = true := hw _ (List.mem_of_getElem? (i := 187) rfl)
theorem wd188 {Z : State} {a0 : Array Value} (hw : ∀ d ∈ tables_1, d.before a0 Z = true) : (Jvm.Cond.selects "java/lang/String" ({ cls := "java/lang/String", name := "charAt", desc := "(I)C" } : Jvm.MethodName) ({ cls := "java/lang/String", name := "charAt", desc := "(I)C" } : Jvm.MethodName)).before a0 Z = true := hw _ (List.mem_of_getElem? (i := 188) rfl)
theorem wd197 {Z : State} {a0 : Array Value} (hw : ∀ d ∈ tables_1, d.before a0 Z = true) : (Jvm.Cond.initialized "java/lang/StringLatin1").before a0 Z = true := hw _ (List.mem_of_getElem? (i := 197) rfl)
theorem wd207 {Z : State} {a0 : Array Value} (hw : ∀ d ∈ tables_1, d.before a0 Z = true) : (Jvm.Cond.stringLink "com/example/bounded_lock/boundedlock/HoldToStringPinLaw" (52 : Nat) " by ").before a0 Z = true := hw _ (List.mem_of_getElem? (i := 207) rfl)
theorem wd208 {Z : State} {a0 : Array Value} (hw : ∀ d ∈ tables_1, d.before a0 Z = true) : (Jvm.Cond.methodLink "com/example/bounded_lock/boundedlock/HoldToStringPinLaw" (12 : Nat) ({ cls := "java/lang/String", name := "valueOf", desc := "(C)Ljava/lang/String;" } : Jvm.MethodName)).before a0 Z = true := hw _ (List.mem_of_getElem? (i := 208) rfl)
theorem wd209 {Z : State} {a0 : Array Value} (hw : ∀ d ∈ tables_1, d.before a0 Z = true) : (Jvm.Cond.static ({ cls := "java/lang/String", name := "valueOf", desc := "(C)Ljava/lang/String;" } : Jvm.MethodName)).before a0 Z = true := hw _ (List.mem_of_getElem? (i := 209) rfl)
theorem wd210 {Z : State} {a0 : Array Value} (hw : ∀ d ∈ tables_1, d.before a0 Z = true) : (Jvm.Cond.code ({ cls := "java/lang/String", name := "valueOf", desc := "(C)Ljava/lang/String;" } : Jvm.MethodName) jdk_42_method_139_code (1 : Nat) (Option.some (Jvm.ClassFile.FieldType.object "java/lang/String"))).before a0 Z = true := hw _ (List.mem_of_getElem? (i := 210) rfl)
theorem wd211 {Z : State} {a0 : Array Value} (hw : ∀ d ∈ tables_1, d.before a0 Z = true) : (Jvm.Cond.methodLink "java/lang/String" (1015 : Nat) ({ cls := "java/lang/StringLatin1", name := "canEncode", desc := "(C)Z" } : Jvm.MethodName)).before a0 Z = true := hw _ (List.mem_of_getElem? (i := 211) rfl)
theorem wd212 {Z : State} {a0 : Array Value} (hw : ∀ d ∈ tables_1, d.before a0 Z = true) : (Jvm.Cond.static ({ cls := "java/lang/StringLatin1", name := "canEncode", desc := "(C)Z" } : Jvm.MethodName)).before a0 Z = true := hw _ (List.mem_of_getElem? (i := 212) rfl)
theorem wd213 {Z : State} {a0 : Array Value} (hw : ∀ d ∈ tables_1, d.before a0 Z = true) : (Jvm.Cond.code ({ cls := "java/lang/StringLatin1", name := "canEncode", desc := "(C)Z" } : Jvm.MethodName) jdk_43_method_3_code (1 : Nat) (Option.some Jvm.ClassFile.FieldType.boolean)).before a0 Z = true := hw _ (List.mem_of_getElem? (i := 213) rfl)
theorem wd214 {Z : State} {a0 : Array Value} (hw : ∀ d ∈ tables_1, d.before a0 Z = true) : (Jvm.Cond.classLink "java/lang/String" (10 : Nat) "java/lang/String").before a0 Z = true := hw _ (List.mem_of_getElem? (i := 214) rfl)
theorem wd215 {Z : State} {a0 : Array Value} (hw : ∀ d ∈ tables_1, d.before a0 Z = true) : (Jvm.Cond.methodLink "java/lang/String" (1018 : Nat) ({ cls := "java/lang/StringLatin1", name := "toBytes", desc := "(C)[B" } : Jvm.MethodName)).before a0 Z = true := hw _ (List.mem_of_getElem? (i := 215) rfl)
theorem wd216 {Z : State} {a0 : Array Value} (hw : ∀ d ∈ tables_1, d.before a0 Z = true) : (Jvm.Cond.static ({ cls := "java/lang/StringLatin1", name := "toBytes", desc := "(C)[B" } : Jvm.MethodName)).before a0 Z = true := hw _ (List.mem_of_getElem? (i := 216) rfl)
theorem wd217 {Z : State} {a0 : Array Value} (hw : ∀ d ∈ tables_1, d.before a0 Z = true) : (Jvm.Cond.code ({ cls := "java/lang/StringLatin1", name := "toBytes", desc := "(C)[B" } : Jvm.MethodName) jdk_43_method_46_code (1 : Nat) (Option.some (Jvm.ClassFile.FieldType.array Jvm.ClassFile.FieldType.byte))).before a0 Z = true := hw _ (List.mem_of_getElem? (i := 217) rfl)
theorem wd218 {Z : State} {a0 : Array Value} (hw : ∀ d ∈ tables_1, d.before a0 Z = true) : (Jvm.Cond.methodLink "java/lang/String" (209 : Nat) ({ cls := "java/lang/String", name := "<init>", desc := "([BB)V" } : Jvm.MethodName)).before a0 Z = true := hw _ (List.mem_of_getElem? (i := 218) rfl)
theorem wd219 {Z : State} {a0 : Array Value} (hw : ∀ d ∈ tables_1, d.before a0 Z = true) : (Jvm.Cond.instanceMethod ({ cls := "java/lang/String", name := "<init>", desc := "([BB)V" } : Jvm.MethodName)).before a0 Z = true := hw _ (List.mem_of_getElem? (i := 219) rfl)
theorem wd220 {Z : State} {a0 : Array Value} (hw : ∀ d ∈ tables_1, d.before a0 Z = true) : (Jvm.Cond.code ({ cls := "java/lang/String", name := "<init>", desc := "([BB)V" } : Jvm.MethodName) jdk_42_method_151_code (3 : Nat) (Option.none : Option Jvm.ClassFile.FieldType)).before a0 Z = true := hw _ (List.mem_of_getElem? (i := 220) rfl)
/-- the first places of vs hold the bytes of cs -/
def Cnt (vs : List Value) (cs : List Int32) : Prop := ∀ i, i < cs.length → vs.getD i (.int 0) = .int ((cs.getD i 0).toInt8.toInt32)
/-- b is a StringBuilder over the byte[] t that counts k -/
def SB (Z : State) (h : Heap) (b t : Addr) (k : Nat) : Prop := Exa Z h b "java/lang/StringBuilder" ∧ Fld Z h b "java/lang/AbstractStringBuilder" "value" "[B" (.ref t) ∧ Fld Z h b "java/lang/AbstractStringBuilder" "coder" "B" (.int 0) ∧ Fld Z h b "java/lang/AbstractStringBuilder" "count" "I" (.int (Int32.ofNat k))
theorem SB.keep {Z : State} {h h' : Heap} {b t : Addr} {k : Nat} {ws : List Addr} (A : SB Z h b t k) (K : Keep h h' ws) (q : b ∉ ws) : SB Z h' b t k := ⟨A.1.keep K, A.2.1.keep K q, A.2.2.1.keep K q, A.2.2.2.keep K q⟩
theorem SB.ext {Z : State} {h h' : Heap} {b t : Addr} {k : Nat} (A : SB Z h b t k) (E : Ext h h') : SB Z h' b t k := ⟨A.1.ext E, A.2.1.ext E, A.2.2.1.ext E, A.2.2.2.ext E⟩
theorem SB.lt {Z : State} {h : Heap} {b t : Addr} {k : Nat} (A : SB Z h b t k) : b < h.size := A.1.lt
/-- a byte[] of z places (n of them) that begins with cs -/
def Buf (Z : State) (h : Heap) (t : Addr) (z : Int32) (n : Nat) (cs : List Int32) : Prop := ∃ kb vs, Arv Z h t kb .byte z vs (.int 0) ∧ vs.length = n ∧ Cnt vs cs
theorem Buf.keep {Z : State} {h h' : Heap} {t : Addr} {z : Int32} {n : Nat} {cs : List Int32} {ws : List Addr} (A : Buf Z h t z n cs) (K : Keep h h' ws) (q : t ∉ ws) : Buf Z h' t z n cs := by obtain ⟨k, vs, a, b⟩ := A; exact ⟨k, vs, a.keep K q, b⟩
theorem Buf.ext {Z : State} {h h' : Heap} {t : Addr} {z : Int32} {n : Nat} {cs : List Int32} (A : Buf Z h t z n cs) (E : Ext h h') : Buf Z h' t z n cs := by obtain ⟨k, vs, a, b⟩ := A; exact ⟨k, vs, a.ext E, b⟩
theorem Buf.other {Z : State} {h h' : Heap} {t a : Addr} {sl : Nat} {v : Value} {z : Int32} {n : Nat} {cs : List Int32} (A : Buf Z h t z n cs) (W : Wr h h' a sl v) (q : t ≠ a) : Buf Z h' t z n cs := by obtain ⟨k, vs, b, c⟩ := A; exact ⟨k, vs, b.other W q, c⟩
theorem Buf.lt {Z : State} {h : Heap} {t : Addr} {z : Int32} {n : Nat} {cs : List Int32} (A : Buf Z h t z n cs) : t < h.size := by obtain ⟨k, vs, a, b⟩ := A; exact a.lt
/-- a Latin-1 String, opened -/
def Lat (Z : State) (h : Heap) (x : Addr) (ds : List Int32) : Prop := ∃ tx kx, Exa Z h x "java/lang/String" ∧ Fld Z h x "java/lang/String" "value" "[B" (.ref tx) ∧ Fld Z h x "java/lang/String" "coder" "B" (.int 0) ∧ Arv Z h tx kx .byte (Int32.ofNat ds.length) (ds.map fun c => Value.int (c.toInt8.toInt32)) (.int 0) ∧ (∀ c ∈ ds, ¬ c < 0 ∧ ¬ (255 : Int32) < c) ∧ ds.length ≤ 4000
theorem Lat.of {Z : State} {h : Heap} {x : Addr} {ds : List Int32} (S : Str Z h x ds) (hl : ∀ c ∈ ds, ¬ (255 : Int32) < c) : Lat Z h x ds := by
  obtain ⟨t, kb, cd, N, vs, s1, s2, s3, s4, s5, s6, s7⟩ := S
  rcases s5 with ⟨rfl, rfl, rfl, -⟩ | ⟨-, -, -, c, hc, q⟩
  · exact ⟨t, kb, s1, s2, s3, s4, fun c hc => ⟨(s6 c hc).1, hl c hc⟩, s7⟩
  · exact absurd q (hl c hc)
theorem Lat.str {Z : State} {h : Heap} {x : Addr} {ds : List Int32} (S : Lat Z h x ds) : Str Z h x ds := by
  obtain ⟨t, kb, s1, s2, s3, s4, s5, s6⟩ := S
  exact ⟨t, kb, 0, _, _, s1, s2, s3, s4, Or.inl ⟨rfl, rfl, rfl, fun c hc => (s5 c hc).2⟩, up16 s5, s6⟩
theorem Lat.keep0 {Z : State} {h h' : Heap} {x : Addr} {ds : List Int32} (S : Lat Z h x ds) (K : Keep h h' []) : Lat Z h' x ds := by
  obtain ⟨t, kb, s1, s2, s3, s4, r⟩ := S; exact ⟨t, kb, s1.keep K, s2.keep K nin0, s3.keep K nin0, s4.keep K nin0, r⟩
theorem Lat.ext {Z : State} {h h' : Heap} {x : Addr} {ds : List Int32} (S : Lat Z h x ds) (E : Ext h h') : Lat Z h' x ds := by
  obtain ⟨t, kb, s1, s2, s3, s4, r⟩ := S; exact ⟨t, kb, s1.ext E, s2.ext E, s3.ext E, s4.ext E, r⟩
/-- .. all of it below n0 -/
def LatO (Z : State) (h : Heap) (n0 : Nat) (x : Addr) (ds : List Int32) : Prop := ∃ tx kx, Exa Z h x "java/lang/String" ∧ Fld Z h x "java/lang/String" "value" "[B" (.ref tx) ∧ Fld Z h x "java/lang/String" "coder" "B" (.int 0) ∧ Arv Z h tx kx .byte (Int32.ofNat ds.length) (ds.map fun c => Value.int (c.toInt8.toInt32)) (.int 0) ∧ ((∀ c ∈ ds, ¬ c < 0 ∧ ¬ (255 : Int32) < c) ∧ ds.length ≤ 4000) ∧ x < n0 ∧ tx < n0
theorem LatO.of {Z : State} {h : Heap} {x : Addr} {ds : List Int32} (S : Lat Z h x ds) : LatO Z h h.size x ds := by
  obtain ⟨t, kb, s1, s2, s3, s4, r⟩ := S; exact ⟨t, kb, s1, s2, s3, s4, r, s1.lt, s4.lt⟩
theorem LatO.lat {Z : State} {h : Heap} {n0 : Nat} {x : Addr} {ds : List Int32} (S : LatO Z h n0 x ds) : Lat Z h x ds := by
  obtain ⟨t, kb, s1, s2, s3, s4, r, -⟩ := S; exact ⟨t, kb, s1, s2, s3, s4, r⟩
theorem LatO.keep {Z : State} {h h' : Heap} {n0 : Nat} {x : Addr} {ds : List Int32} {ws : List Addr} (S : LatO Z h n0 x ds) (K : Keep h h' ws) (q : ∀ w ∈ ws, n0 ≤ w) : LatO Z h' n0 x ds := by
  obtain ⟨t, kb, s1, s2, s3, s4, r, l1, l2⟩ := S
  have n1 : x ∉ ws := fun hm => Nat.lt_irrefl _ (Nat.lt_of_lt_of_le l1 (q _ hm))
  have n2 : t ∉ ws := fun hm => Nat.lt_irrefl _ (Nat.lt_of_lt_of_le l2 (q _ hm))
  exact ⟨t, kb, s1.keep K, s2.keep K n1, s3.keep K n1, s4.keep K n2, r, l1, l2⟩
theorem LatO.ext {Z : State} {h h' : Heap} {n0 : Nat} {x : Addr} {ds : List Int32} (S : LatO Z h n0 x ds) (E : Ext h h') : LatO Z h' n0 x ds := by
  obtain ⟨t, kb, s1, s2, s3, s4, r⟩ := S; exact ⟨t, kb, s1.ext E, s2.ext E, s3.ext E, s4.ext E, r⟩
theorem ofn {k : Nat} (h : k < 2147483648) : (Int32.ofNat k).toInt = k := Int32.toInt_ofNat_of_lt h
theorem ofn0 {k : Nat} (h : k < 2147483648) : ¬ Int32.ofNat k < 0 := by rw [Int32.lt_iff_toInt_lt, ofn h]; have : (0 : Int32).toInt = 0 := rfl; omega
theorem ofnC {k : Nat} (h : k < 2147483648) : (Int32.ofNat k).toNatClampNeg = k := by simp only [Int32.toNatClampNeg, ofn h]; rfl
theorem shl0 (x : Int32) : x <<< ((0 : Int32) &&& 31) = x := by rw [show ((0 : Int32) &&& 31) = 0 from by decide]; exact Int32.shiftLeft_zero
theorem sub0 (x : Int32) : x - 0 = x := Int32.sub_zero x
theorem need16 {k : Nat} (h : k ≤ 16) : ¬ (0 : Int32) < Int32.ofNat k - 16 := (by decide : ∀ j : Fin 17, ¬ (0 : Int32) < Int32.ofNat j.val - 16) ⟨k, by omega⟩
theorem need34 {k : Nat} (h : k ≤ 34) : ¬ (0 : Int32) < Int32.ofNat k - 34 := (by decide : ∀ j : Fin 35, ¬ (0 : Int32) < Int32.ofNat j.val - 34) ⟨k, by omega⟩
theorem needG {k : Nat} (h : 16 < k ∧ k ≤ 24) : (0 : Int32) < Int32.ofNat k - 16 ∧ Int32.ofNat k - 16 < 18 := (by decide : ∀ j : Fin 25, 16 < j.val → (0 : Int32) < Int32.ofNat j.val - 16 ∧ Int32.ofNat j.val - 16 < 18) ⟨k, by omega⟩ h.1
theorem lt34 {k : Nat} (h : k ≤ 24) : Int32.ofNat k < 34 ∧ ¬ Int32.ofNat k = 34 := (by decide : ∀ j : Fin 25, Int32.ofNat j.val < 34 ∧ ¬ Int32.ofNat j.val = 34) ⟨k, by omega⟩
theorem getD_mid (a us b : List Value) (d : Value) (i : Nat) : (a ++ us ++ b).getD i d = if i < a.length then a.getD i d else if i - a.length < us.length then us.getD (i - a.length) d else b.getD (i - a.length - us.length) d := by
  simp only [List.getD_eq_getElem?_getD, List.append_assoc]
  by_cases h1 : i < a.length
  · rw [if_pos h1, List.getElem?_append_left h1]
  · rw [if_neg h1, List.getElem?_append_right (by omega)]
    by_cases h2 : i - a.length < us.length
    · rw [if_pos h2, List.getElem?_append_left h2]
    · rw [if_neg h2, List.getElem?_append_right (by omega)]
theorem getD_map (f : Nat → Value) (n i : Nat) (d : Value) (h : i < n) : ((List.range n).map f).getD i d = f i := by simp [List.getD_eq_getElem?_getD, h]
theorem grow_ok {vs us zs : List Value} {n : Nat} {cs : List Int32} (hus : us = (List.range n).map fun i => vs.getD (0 + i) (.int 0)) (hz : n ≤ zs.length) (hc : cs.length ≤ n) (H : Cnt vs cs) : (List.take 0 zs ++ us ++ List.drop (0 + n) zs).length = zs.length ∧ Cnt (List.take 0 zs ++ us ++ List.drop (0 + n) zs) cs := by
  subst hus
  refine ⟨by simp; omega, fun i hi => ?_⟩
  rw [getD_mid]
  simp only [List.take_zero, List.length_nil, Nat.not_lt_zero, if_false, Nat.sub_zero, List.length_map, List.length_range]
  rw [if_pos (by omega), getD_map _ _ _ _ (by omega), Nat.zero_add]
  exact H i hi
theorem put_ok {vs us : List Value} {cs ds : List Int32} (hus : us = (List.range ds.length).map fun i => (ds.map fun c => Value.int (c.toInt8.toInt32)).getD (0 + i) (.int 0)) (hl : cs.length + ds.length ≤ vs.length) (H : Cnt vs cs) : (List.take cs.length vs ++ us ++ List.drop (cs.length + ds.length) vs).length = vs.length ∧ Cnt (List.take cs.length vs ++ us ++ List.drop (cs.length + ds.length) vs) (cs ++ ds) := by
  subst hus
  refine ⟨by simp; omega, fun i hi => ?_⟩
  rw [List.length_append] at hi
  have e1 : (List.take cs.length vs).length = cs.length := by simp; omega
  rw [getD_mid, e1]
  by_cases h1 : i < cs.length
  · rw [if_pos h1]
    have e2 : (List.take cs.length vs).getD i (.int 0) = vs.getD i (.int 0) := by simp [List.getD_eq_getElem?_getD, List.getElem?_take, h1]
    have e3 : (cs ++ ds).getD i 0 = cs.getD i 0 := by simp [List.getD_eq_getElem?_getD, List.getElem?_append_left h1]
    rw [e2, e3]; exact H i h1
  · rw [if_neg h1]
    have e3 : (cs ++ ds).getD i 0 = ds.getD (i - cs.length) 0 := by simp only [List.getD_eq_getElem?_getD]; rw [List.getElem?_append_right (by omega)]
    have h2 : i - cs.length < ds.length := by omega
    rw [if_pos (by simpa using h2), getD_map _ _ _ _ h2, e3, Nat.zero_add]
    simp [List.getD_eq_getElem?_getD, h2]
theorem cut_ok {vs us zs : List Value} {cs : List Int32} (hus : us = (List.range cs.length).map fun i => vs.getD (0 + i) (.int 0)) (hz : zs.length = cs.length) (H : Cnt vs cs) : List.take 0 zs ++ us ++ List.drop (0 + cs.length) zs = cs.map fun c => Value.int (c.toInt8.toInt32) := by
  subst hus
  have e1 : List.drop (0 + cs.length) zs = [] := by rw [Nat.zero_add, ← hz]; exact List.drop_length
  rw [e1, List.append_nil, List.take_zero, List.nil_append]
  apply List.ext_getElem
  · simp
  · intro i h1 h2
    simp at h1
    have := H i h1
    simp only [List.getElem_map, List.getElem_range, Nat.zero_add]
    rw [this]
    simp [List.getD_eq_getElem?_getD, h1]
def tx1 : List Int32 := [(32 : Int32), (104 : Int32), (111 : Int32), (108 : Int32), (100 : Int32), (32 : Int32), (111 : Int32), (102 : Int32), (32 : Int32), (108 : Int32), (111 : Int32), (99 : Int32), (107 : Int32), (32 : Int32)]
def tx2 : List Int32 := [(32 : Int32), (98 : Int32), (121 : Int32), (32 : Int32)]
theorem tx1_v : (tx1.map fun c => Value.int (c.toInt8.toInt32)) = [(.int (32 : Int32)), (.int (104 : Int32)), (.int (111 : Int32)), (.int (108 : Int32)), (.int (100 : Int32)), (.int (32 : Int32)), (.int (111 : Int32)), (.int (102 : Int32)), (.int (32 : Int32)), (.int (108 : Int32)), (.int (111 : Int32)), (.int (99 : Int32)), (.int (107 : Int32)), (.int (32 : Int32))] := by first | rfl | decide +kernel
theorem tx2_v : (tx2.map fun c => Value.int (c.toInt8.toInt32)) = [(.int (32 : Int32)), (.int (98 : Int32)), (.int (121 : Int32)), (.int (32 : Int32))] := by first | rfl | decide +kernel
theorem tx1_l : ∀ c ∈ tx1, ¬ c < 0 ∧ ¬ (255 : Int32) < c := by decide
theorem tx2_l : ∀ c ∈ tx2, ¬ c < 0 ∧ ¬ (255 : Int32) < c := by decide
theorem tx1_n : tx1.length = 14 := rfl
theorem tx2_n : tx2.length = 4 := rfl
theorem lat_app {a b : List Int32} (h : ∀ c ∈ a, ¬ c < 0 ∧ ¬ (255 : Int32) < c) (g : ∀ c ∈ b, ¬ c < 0 ∧ ¬ (255 : Int32) < c) : ∀ c ∈ a ++ b, ¬ c < 0 ∧ ¬ (255 : Int32) < c := fun c hc => (List.mem_append.mp hc).elim (h c) (g c)
/-- from place i on full reads as ds -/
def Sub (full : List Int32) (i : Nat) (ds : List Int32) : Prop := i + ds.length ≤ full.length ∧ ∀ j, j < ds.length → full.getD (i + j) 0 = ds.getD j 0
theorem Sub.app (a b c : List Int32) : Sub (a ++ b ++ c) a.length b := ⟨by simp, fun j hj => by
  simp only [List.getD_eq_getElem?_getD, List.append_assoc]
  rw [List.getElem?_append_right (by omega), List.getElem?_append_left (by omega)]
  congr 2; omega⟩
theorem ew1 {Z : State} {a0 : Array Value} (hw : ∀ d ∈ tables_1, d.before a0 Z = true) : EW Z a0 consts_1 := (EW.cons (wd110 hw) (by decide) (EW.cons (wd111 hw) (by decide) (EW.cons (wd178 hw) (by decide) (EW.cons (wd207 hw) (by decide) (EW.cons (wd18 hw) (by decide) EW.nil)))))
theorem sa1 {Z : State} {a0 : Array Value} (hw : ∀ d ∈ tables_1, d.before a0 Z = true) : ∀ a ∈ Bundle.stringAtoms, a.before a0 Z = true := fun d hd => hw d ((by decide +kernel : ∀ d ∈ Bundle.stringAtoms, d ∈ tables_1) d hd)
set_option maxRecDepth 65536 in
set_option maxHeartbeats 40000000 in
theorem ef_rmE1 (m : MethodId) (a1 : Addr) (a2 : Addr) : entryFrame m #[(.ref a1), (.ref a2), (.int (0 : Int32)), (.int (0 : Int32)), .null] 6 = mkF m 0 #[.val (.ref a1), .val (.ref a2), .val (.int (0 : Int32)), .val (.int (0 : Int32)), .val .null, .unset] [] := by first | (simp [entryFrame, mkF, argsToLocals, Value.category]; done) | (rfl)
set_option maxRecDepth 65536 in
set_option maxHeartbeats 40000000 in
theorem rmE1 (l : Launch) (Z : State) (a0 : Array Value) (hw : ∀ d ∈ tables_1, d.before a0 Z = true) (ew : EW Z a0 consts_1) (a1 : Addr) (a2 : Addr) (h0 : Heap) (O : Ext Z.heap h0) (za : Z.heap.size ≤ a1) (E_a1 : Exa Z h0 a1 "java/lang/String") (F_a1_value : Fld Z h0 a1 "java/lang/String" "value" "[B" .null) (F_a1_coder : Fld Z h0 a1 "java/lang/String" "coder" "B" (.int 0)) :
    MCc l Z consts_1 (⟨"java/lang/String", "<init>", "([CIILjava/lang/Void;)V"⟩ : MethodName) jdk_42_method_149_code 6 none [] ({ frames := 1, cells := 4, slots := 8, locals := 12 } : Room) #[(.ref a1), (.ref a2), (.int (0 : Int32)), (.int (0 : Int32)), .null] h0 [a1] (RU (fun h => Str Z h a1 [])) := by
  refine MCc.mk (a0 := a0) rfl rfl (plainFor_of_name pn0) O ew (fun m => ef_rmE1 m a1 a2) ?_
  intro pg ev s m below meth cd T hh X
  subst hh
  have lt_a1 := E_a1.lt
  refine X.aloadN (pc' := 1) d3_0 rfl rfl rfl ?_
  refine X.initO (pc' := 4) (wd15 hw) (wd16 hw) (wd17 hw) rfl d3_1 (leB rfl) (leB rfl) rfl ?_
  intro T X
  refine X.iloadN (pc' := 5) d3_4 rfl rfl ?_
  refine X.ifN (pc' := 8) d3_5 (by decide) rfl ?_
  refine X.aloadN (pc' := 9) d3_8 rfl rfl rfl ?_
  refine X.ldcS (pc' := 11) (vs := []) (z := (0 : Int32)) (wd18 hw) (sa1 hw) (by simp [consts_1, Jvm.Pilot.@@N@@.x]) (by decide) (by decide) rfl d3_9 0 (by decide) (by decide) (leB rfl) (leB rfl) rfl ?_
  intro T vm h l1 t1 ka_t1 Ex hC E_l1 F_l1_coder F_l1_value V_t1 lt_l1 lt_t1 sf X
  replace F_a1_value := F_a1_value.ext Ex
  replace F_a1_coder := F_a1_coder.ext Ex
  replace E_a1 := E_a1.ext Ex
  replace lt_a1 := Nat.lt_of_lt_of_le lt_a1 Ex.1
  have sf1 := Safe.blank (EL := consts_1) X.al E_a1 (wd5 hw) F_a1_value
  have ne1 := sf _ sf1
  refine X.getF (pc' := 14) (wd24 hw) Via.refl F_l1_value d3_11 rfl ?_
  intro T X
  have H0 := X.H
  refine X.putF (pc' := 17) (wd24 hw) Via.refl F_a1_value E_a1 (Or.inr ⟨(wd20 hw), rfl, rfl⟩) (wd5 hw) (.array .byte) (by decide) rfl rfl sf1 za (Or.inl (List.mem_of_getElem? (i := 0) rfl)) d3_14 rfl ?_
  intro T h L X W
  replace F_a1_coder := F_a1_coder.other W (Or.inr (slot_ne (Or.inr (wd21 hw)) (Or.inr (wd20 hw)) (by decide) (t := .byte) (t' := (.array .byte)) (by decide) (by decide)))
  replace E_a1 := E_a1.wr W
  replace lt_a1 := Nat.lt_of_lt_of_le lt_a1 (Keep.of_wr W).1
  replace E_l1 := E_l1.wr W
  replace F_l1_coder := F_l1_coder.other W (Or.inl (Ne.symm ne1.1))
  replace F_l1_value := F_l1_value.other W (Or.inl (Ne.symm ne1.1))
  replace V_t1 := V_t1.other W (Ne.symm ne1.2)
  replace lt_l1 := Nat.lt_of_lt_of_le lt_l1 (Keep.of_wr W).1
  replace lt_t1 := Nat.lt_of_lt_of_le lt_t1 (Keep.of_wr W).1
  replace F_a1_value := F_a1_value.same W
  replace sf1 := Safe.wr W sf1 H0 sf1
  refine X.aloadN (pc' := 18) d3_17 rfl rfl rfl ?_
  refine X.ldcS (pc' := 20) (vs := []) (z := (0 : Int32)) (wd18 hw) (sa1 hw) (by simp [consts_1, Jvm.Pilot.@@N@@.x]) (by decide) (by decide) rfl d3_18 0 (by decide) (by decide) (leB rfl) (leB rfl) rfl ?_
  intro T vm h l2 t2 ka_t2 Ex hC E_l2 F_l2_coder F_l2_value V_t2 lt_l2 lt_t2 sf X
  replace sf1 := hC.safe lt_a1 sf1
  replace F_a1_value := F_a1_value.ext Ex
  replace F_a1_coder := F_a1_coder.ext Ex
  replace E_a1 := E_a1.ext Ex
  replace lt_a1 := Nat.lt_of_lt_of_le lt_a1 Ex.1
  replace V_t1 := V_t1.ext Ex
  replace lt_t1 := Nat.lt_of_lt_of_le lt_t1 Ex.1
  have ne2 := sf _ sf1
  refine X.getF (pc' := 23) (wd25 hw) Via.refl F_l2_coder d3_20 rfl ?_
  intro T X
  refine X.putF (pc' := 26) (wd25 hw) Via.refl F_a1_coder E_a1 (Or.inr ⟨(wd21 hw), rfl, rfl⟩) (wd5 hw) .byte (by decide) rfl rfl sf1 za (Or.inl (List.mem_of_getElem? (i := 0) rfl)) d3_23 rfl ?_
  intro T h L X W
  replace F_a1_value := F_a1_value.other W (Or.inr (slot_ne (Or.inr (wd20 hw)) (Or.inr (wd21 hw)) (by decide) (t := (.array .byte)) (t' := .byte) (by decide) (by decide)))
  replace E_a1 := E_a1.wr W
  replace lt_a1 := Nat.lt_of_lt_of_le lt_a1 (Keep.of_wr W).1
  replace V_t1 := V_t1.other W (Ne.symm ne1.2)
  replace lt_t1 := Nat.lt_of_lt_of_le lt_t1 (Keep.of_wr W).1
  replace lt_l2 := Nat.lt_of_lt_of_le lt_l2 (Keep.of_wr W).1
  replace lt_t2 := Nat.lt_of_lt_of_le lt_t2 (Keep.of_wr W).1
  replace F_a1_coder := F_a1_coder.same W
  exact X.retUC d3_26 (by decide) (by decide) ⟨rfl, t1, ka_t1, 0, 0, [], E_a1, F_a1_value, F_a1_coder, V_t1, StrChars.Road.codOf (cs := []) (n := 0) rfl (fun _ q => nomatch q), (fun _ q => nomatch q), by decide⟩
set_option maxRecDepth 65536 in
set_option maxHeartbeats 40000000 in
theorem ef_rmE0 (m : MethodId) (a1 : Addr) (a2 : Addr) : entryFrame m #[(.ref a1), (.ref a2)] 2 = mkF m 0 #[.val (.ref a1), .val (.ref a2)] [] := by first | (simp [entryFrame, mkF, argsToLocals, Value.category]; done) | (rfl)
set_option maxRecDepth 65536 in
set_option maxHeartbeats 40000000 in
theorem rmE0 (l : Launch) (Z : State) (a0 : Array Value) (hw : ∀ d ∈ tables_1, d.before a0 Z = true) (ew : EW Z a0 consts_1) (a1 : Addr) (a2 : Addr) (h0 : Heap) (O : Ext Z.heap h0) (za : Z.heap.size ≤ a1) (E_a1 : Exa Z h0 a1 "java/lang/String") (F_a1_value : Fld Z h0 a1 "java/lang/String" "value" "[B" .null) (F_a1_coder : Fld Z h0 a1 "java/lang/String" "coder" "B" (.int 0)) (ka : ClassId) (V : Arv Z h0 a2 ka .char (0 : Int32) [] (.int 0)) :
    MCc l Z consts_1 (⟨"java/lang/String", "<init>", "([C)V"⟩ : MethodName) jdk_42_method_3_code 2 none [] ({ frames := 2, cells := 4, slots := 8, locals := 40 } : Room) #[(.ref a1), (.ref a2)] h0 [a1] (RU (fun h => Str Z h a1 [])) := by
  refine MCc.mk (a0 := a0) rfl rfl (plainFor_of_name pn0) O ew (fun m => ef_rmE0 m a1 a2) ?_
  intro pg ev s m below meth cd T hh X
  subst hh
  refine X.aloadN (pc' := 1) d2_0 rfl rfl rfl ?_
  refine X.aloadN (pc' := 2) d2_1 rfl rfl rfl ?_
  refine X.iconst (pc' := 3) (0 : Int32) d2_2 rfl rfl ?_
  refine X.aloadN (pc' := 4) d2_3 rfl rfl rfl ?_
  refine X.alen (pc' := 5) V d2_4 rfl ?_
  refine X.aconstNull (pc' := 6) d2_5 rfl ?_
  refine X.coldU (pc' := 9) (X.sSpecial rfl (wd11 hw) (wd12 hw) (wd14 hw) (by decide) rfl pd0 [(.ref a2), (.int (0 : Int32)), (.int (0 : Int32)), .null] rfl rfl d2_6) (rmE1 l Z a0 hw ew a1 a2 _ X.old za E_a1 F_a1_value F_a1_coder) (wd14 hw) (wd6 hw) (leB rfl) (leB rfl) (leB rfl) (leB rfl) (allS (Or.inl (List.mem_of_getElem? (i := 0) rfl)) all0) rfl ?_
  intro T vm h L X K hC q
  exact X.retUC d2_9 (by decide) (by decide) ⟨rfl, q⟩
set_option maxRecDepth 65536 in
set_option maxHeartbeats 40000000 in
theorem ef_rmCan (m : MethodId) (c0 : Int32) : entryFrame m #[(.int c0)] 1 = mkF m 0 #[.val (.int c0)] [] := by first | (simp [entryFrame, mkF, argsToLocals, Value.category]; done) | (rfl)
set_option maxRecDepth 65536 in
set_option maxHeartbeats 40000000 in
theorem rmCan (l : Launch) (Z : State) (a0 : Array Value) (hw : ∀ d ∈ tables_1, d.before a0 Z = true) (c0 : Int32) (h0 : Heap) (O : Ext Z.heap h0) (r_c0 : ¬ c0 < 0 ∧ ¬ (255 : Int32) < c0) :
    MN l Z (⟨"java/lang/StringLatin1", "canEncode", "(C)Z"⟩ : MethodName) jdk_43_method_3_code 1 (some .boolean) [] ({ frames := 0, cells := 0, slots := 0, locals := 0 } : Room) #[(.int c0)] h0 [] (RP h0 (fun w => w = .int 1)) := by
  refine MN.mk (a0 := a0) rfl rfl (plainFor_of_name pn1) O (fun m => ef_rmCan m c0) ?_
  intro pg ev s m below meth cd T hh X
  subst hh
  refine X.iloadN (pc' := 1) d41_0 rfl rfl ?_
  refine X.sipush (pc' := 4) (255 : Int32) d41_1 rfl rfl ?_
  refine X.icN (pc' := 7) d41_4 ((flt r_c0.2).2.2.1) rfl ?_
  refine X.iconst (pc' := 8) (1 : Int32) d41_7 rfl rfl ?_
  refine X.goto (pc' := 12) d41_8 (by decide) (by decide) ?_
  exact X.retIN (by simp) rfl d41_12 (by decide) (by decide) ⟨_, rfl, rfl, rfl⟩
set_option maxRecDepth 65536 in
set_option maxHeartbeats 40000000 in
theorem ef_rmToB (m : MethodId) (c0 : Int32) : entryFrame m #[(.int c0)] 1 = mkF m 0 #[.val (.int c0)] [] := by first | (simp [entryFrame, mkF, argsToLocals, Value.category]; done) | (rfl)
set_option maxRecDepth 65536 in
set_option maxHeartbeats 40000000 in
theorem rmToB (l : Launch) (Z : State) (a0 : Array Value) (hw : ∀ d ∈ tables_1, d.before a0 Z = true) (c0 : Int32) (h0 : Heap) (O : Ext Z.heap h0)  :
    MN l Z (⟨"java/lang/StringLatin1", "toBytes", "(C)[B"⟩ : MethodName) jdk_43_method_46_code 1 (some (.array .byte)) [] ({ frames := 0, cells := 1, slots := 1, locals := 0 } : Room) #[(.int c0)] h0 [] (RV (fun w h => ∃ t ka, w = .ref t ∧ h0.size ≤ t ∧ Arv Z h t ka .byte (1 : Int32) [(.int (c0.toInt8.toInt32))] (.int 0))) := by
  refine MN.mk (a0 := a0) rfl rfl (plainFor_of_name pn1) O (fun m => ef_rmToB m c0) ?_
  intro pg ev s m below meth cd T hh X
  subst hh
  refine X.iconst (pc' := 1) (1 : Int32) d42_0 rfl rfl ?_
  refine X.newP (pc' := 3) (aty := .byte) (wd19 hw) d42_1 (by decide) 1 (by decide) (by decide) (by decide) (by decide) rfl ?_
  intro T h b1 ka_b1 g_b1 Ex lt_b1 V_b1 X1
  have z_b1 : Z.heap.size ≤ b1 := by rw [g_b1]; exact X.old.1
  have s_b1 : s.heap.size ≤ b1 := by rw [g_b1]; exact X.kp.1
  replace X := X1
  replace V_b1 : Arv Z h b1 ka_b1 .byte (1 : Int32) [(.int (0 : Int32))] (.int (0 : Int32)) := (Arv.pad V_b1 (pad_rep [] (.int (0 : Int32)) 1))
  refine X.dup (pc' := 4) d42_3 rfl rfl ?_
  refine X.iconst (pc' := 5) (0 : Int32) d42_4 rfl rfl ?_
  refine X.iloadN (pc' := 6) d42_5 rfl rfl ?_
  refine X.i2b (pc' := 7) d42_6 rfl ?_
  refine X.bastore (pc' := 8) V_b1 ⟨by decide, by decide⟩ 0 rfl (Nat.le_of_ble_eq_true rfl) safeE z_b1 (Or.inr s_b1) d42_7 rfl ?_
  intro T h L X W V1
  rw [narB c0] at V1
  replace lt_b1 := Nat.lt_of_lt_of_le lt_b1 (Keep.of_wr W).1
  replace V_b1 : Arv Z h b1 ka_b1 .byte (1 : Int32) [(.int (c0.toInt8.toInt32))] (.int (0 : Int32)) := V1
  exact X.retAN rfl rfl d42_8 (by decide) (by decide) ⟨_, rfl, b1, ka_b1, rfl, s_b1, V_b1⟩
set_option maxRecDepth 65536 in
set_option maxHeartbeats 40000000 in
theorem ef_rmBB (m : MethodId) (a1 : Addr) (a2 : Addr) : entryFrame m #[(.ref a1), (.ref a2), (.int (0 : Int32))] 3 = mkF m 0 #[.val (.ref a1), .val (.ref a2), .val (.int (0 : Int32))] [] := by first | (simp [entryFrame, mkF, argsToLocals, Value.category]; done) | (rfl)
set_option maxRecDepth 65536 in
set_option maxHeartbeats 40000000 in
theorem rmBB (l : Launch) (Z : State) (a0 : Array Value) (hw : ∀ d ∈ tables_1, d.before a0 Z = true) (a1 : Addr) (a2 : Addr) (h0 : Heap) (O : Ext Z.heap h0) (za : Z.heap.size ≤ a1) (E_a1 : Exa Z h0 a1 "java/lang/String") (F_a1_value : Fld Z h0 a1 "java/lang/String" "value" "[B" .null) (F_a1_coder : Fld Z h0 a1 "java/lang/String" "coder" "B" (.int 0)) :
    MN l Z (⟨"java/lang/String", "<init>", "([BB)V"⟩ : MethodName) jdk_42_method_151_code 3 none [] ({ frames := 1, cells := 0, slots := 0, locals := 20 } : Room) #[(.ref a1), (.ref a2), (.int (0 : Int32))] h0 [a1] (RU (fun h => Exa Z h a1 "java/lang/String" ∧ Fld Z h a1 "java/lang/String" "value" "[B" (.ref a2) ∧ Fld Z h a1 "java/lang/String" "coder" "B" (.int 0))) := by
  refine MN.mk (a0 := a0) rfl rfl (plainFor_of_name pn0) O (fun m => ef_rmBB m a1 a2) ?_
  intro pg ev s m below meth cd T hh X
  subst hh
  refine X.aloadN (pc' := 1) d43_0 rfl rfl rfl ?_
  refine X.initO (pc' := 4) (wd15 hw) (wd16 hw) (wd17 hw) rfl d43_1 (leB rfl) (leB rfl) rfl ?_
  intro T X
  refine X.aloadN (pc' := 5) d43_4 rfl rfl rfl ?_
  refine X.aloadN (pc' := 6) d43_5 rfl rfl rfl ?_
  refine X.putF (pc' := 9) (wd24 hw) Via.refl F_a1_value E_a1 (Or.inr ⟨(wd20 hw), rfl, rfl⟩) (wd5 hw) (.array .byte) (by decide) rfl rfl safeE za (Or.inl (List.mem_of_getElem? (i := 0) rfl)) d43_6 rfl ?_
  intro T h L X W
  replace F_a1_coder := F_a1_coder.other W (Or.inr (slot_ne (Or.inr (wd21 hw)) (Or.inr (wd20 hw)) (by decide) (t := .byte) (t' := (.array .byte)) (by decide) (by decide)))
  replace E_a1 := E_a1.wr W
  replace F_a1_value := F_a1_value.same W
  refine X.aloadN (pc' := 10) d43_9 rfl rfl rfl ?_
  refine X.iloadN (pc' := 11) d43_10 rfl rfl ?_
  refine X.putF (pc' := 14) (wd25 hw) Via.refl F_a1_coder E_a1 (Or.inr ⟨(wd21 hw), rfl, rfl⟩) (wd5 hw) .byte (by decide) rfl rfl safeE za (Or.inl (List.mem_of_getElem? (i := 0) rfl)) d43_11 rfl ?_
  intro T h L X W
  replace F_a1_value := F_a1_value.other W (Or.inr (slot_ne (Or.inr (wd20 hw)) (Or.inr (wd21 hw)) (by decide) (t := (.array .byte)) (t' := .byte) (by decide) (by decide)))
  replace E_a1 := E_a1.wr W
  replace F_a1_coder := F_a1_coder.same W
  exact X.retUN d43_14 (by decide) (by decide) ⟨rfl, E_a1, F_a1_value, F_a1_coder⟩
set_option maxRecDepth 65536 in
set_option maxHeartbeats 40000000 in
theorem ef_rmVOf (m : MethodId) (c0 : Int32) : entryFrame m #[(.int c0)] 1 = mkF m 0 #[.val (.int c0)] [] := by first | (simp [entryFrame, mkF, argsToLocals, Value.category]; done) | (rfl)
set_option maxRecDepth 65536 in
set_option maxHeartbeats 40000000 in
theorem rmVOf (l : Launch) (Z : State) (a0 : Array Value) (hw : ∀ d ∈ tables_1, d.before a0 Z = true) (c0 : Int32) (h0 : Heap) (O : Ext Z.heap h0) (z : Int32) (O2 : Sta Z Z.heap "java/lang/String" "COMPACT_STRINGS" "Z" (.int z)) (hz : ¬ z = 0) (r_c0 : ¬ c0 < 0 ∧ ¬ (255 : Int32) < c0) :
    MN l Z (⟨"java/lang/String", "valueOf", "(C)Ljava/lang/String;"⟩ : MethodName) jdk_42_method_139_code 1 (some (.object "java/lang/String")) [] ({ frames := 3, cells := 2, slots := 5, locals := 60 } : Room) #[(.int c0)] h0 [] (RV (fun w h => ∃ r, w = .ref r ∧ h0.size ≤ r ∧ Str Z h r [c0])) := by
  refine MN.mk (a0 := a0) rfl rfl (plainFor_of_name pn0) O (fun m => ef_rmVOf m c0) ?_
  intro pg ev s m below meth cd T hh X
  subst hh
  refine X.getS (pc' := 3) (wd82 hw) Via.refl O2 d40_0 rfl ?_
  intro T X
  refine X.ifN (pc' := 6) d40_3 ((if0 _ _).trans (feq hz).1) rfl ?_
  refine X.iloadN (pc' := 7) d40_6 rfl rfl ?_
  refine X.callP (pc' := 10) (X.sStatic (wd211 hw) (wd212 hw) (wd197 hw) (wd213 hw) (by decide) rfl pd1 [(.int c0)] rfl rfl d40_7) (rmCan l Z a0 hw c0 _ X.old r_c0) (wd213 hw) (wd197 hw) (leB rfl) (leB rfl) (leB rfl) (leB rfl) rfl ?_
  intro T L v X q
  subst q
  refine X.ifN (pc' := 13) d40_10 (by decide) rfl ?_
  refine X.newO (pc' := 16) (wd214 hw) (wd5 hw) (wd6 hw) d40_13 (by decide) (by decide) rfl ?_
  intro T h x1 g_x1 Ex lt_x1 E_x1 D_x1 X1
  have z_x1 : Z.heap.size ≤ x1 := by rw [g_x1]; exact X.old.1
  have s_x1 : s.heap.size ≤ x1 := by rw [g_x1]; exact X.kp.1
  replace X := X1
  have F_x1_value : Fld Z h x1 "java/lang/String" "value" "[B" .null := D_x1 (Or.inr (wd20 hw)) (ty := (.array .byte)) (by decide)
  have F_x1_coder : Fld Z h x1 "java/lang/String" "coder" "B" (.int (0 : Int32)) := D_x1 (Or.inr (wd21 hw)) (ty := .byte) (by decide)
  refine X.dup (pc' := 17) d40_16 rfl rfl ?_
  refine X.iloadN (pc' := 18) d40_17 rfl rfl ?_
  refine X.callV (pc' := 21) (X.sStatic (wd215 hw) (wd216 hw) (wd197 hw) (wd217 hw) (by decide) rfl pd2 [(.int c0)] rfl rfl d40_18) (rmToB l Z a0 hw c0 _ X.old) (wd217 hw) (wd197 hw) (leB rfl) (leB rfl) (leB rfl) (leB rfl) sf0 all0 all0 rfl ?_
  intro T h L v X K q
  obtain ⟨t1, ka_t1, rfl, le_t1, V_t1⟩ := q
  have ne_x1_t1 : x1 ≠ t1 := Nat.ne_of_lt (Nat.lt_of_lt_of_le lt_x1 le_t1)
  replace E_x1 := E_x1.keep K
  replace lt_x1 := Nat.lt_of_lt_of_le lt_x1 K.1
  replace F_x1_value := F_x1_value.keep K nin0
  replace F_x1_coder := F_x1_coder.keep K nin0
  refine X.iconst (pc' := 22) (0 : Int32) d40_21 rfl rfl ?_
  refine X.callU (pc' := 25) (X.sSpecial rfl (wd218 hw) (wd219 hw) (wd220 hw) (by decide) rfl pd3 [(.ref t1), (.int (0 : Int32))] rfl rfl d40_22) (rmBB l Z a0 hw x1 t1 _ X.old z_x1 E_x1 F_x1_value F_x1_coder) (wd220 hw) (wd6 hw) (leB rfl) (leB rfl) (leB rfl) (leB rfl) (sfS safeE sf0) (allS z_x1 all0) (allS (Or.inr s_x1) all0) rfl ?_
  intro T h L X K q
  replace E_x1 := E_x1.keep K
  replace lt_x1 := Nat.lt_of_lt_of_le lt_x1 K.1
  replace V_t1 := V_t1.keep K (ninS (Ne.symm ne_x1_t1) nin0)
  exact X.retAN rfl rfl d40_25 (by decide) (by decide) ⟨_, rfl, x1, rfl, s_x1, t1, ka_t1, 0, 1, _, q.1, q.2.1, q.2.2, V_t1, StrChars.Road.codOf (cs := [c0]) (n := 1) rfl (all1 r_c0.2), up16 (all1 r_c0), leB rfl⟩
set_option maxRecDepth 65536 in
set_option maxHeartbeats 40000000 in
theorem ef_rmASBI (m : MethodId) (a1 : Addr) : entryFrame m #[(.ref a1), (.int (16 : Int32))] 2 = mkF m 0 #[.val (.ref a1), .val (.int (16 : Int32))] [] := by first | (simp [entryFrame, mkF, argsToLocals, Value.category]; done) | (rfl)
set_option maxRecDepth 65536 in
set_option maxHeartbeats 40000000 in
theorem rmASBI (l : Launch) (Z : State) (a0 : Array Value) (hw : ∀ d ∈ tables_1, d.before a0 Z = true) (a1 : Addr) (h0 : Heap) (O : Ext Z.heap h0) (z : Int32) (O2 : Sta Z Z.heap "java/lang/String" "COMPACT_STRINGS" "Z" (.int z)) (hz : ¬ z = 0) (za : Z.heap.size ≤ a1) (A1 : Exa Z h0 a1 "java/lang/StringBuilder" ∧ Fld Z h0 a1 "java/lang/AbstractStringBuilder" "value" "[B" .null ∧ Fld Z h0 a1 "java/lang/AbstractStringBuilder" "coder" "B" (.int 0) ∧ Fld Z h0 a1 "java/lang/AbstractStringBuilder" "count" "I" (.int 0)) :
    MN l Z (⟨"java/lang/AbstractStringBuilder", "<init>", "(I)V"⟩ : MethodName) jdk_68_method_2_code 2 none [] ({ frames := 1, cells := 1, slots := 16, locals := 20 } : Room) #[(.ref a1), (.int (16 : Int32))] h0 [a1] (RU (fun h => ∃ t, h0.size ≤ t ∧ SB Z h a1 t 0 ∧ Buf Z h t 16 16 [])) := by
  refine MN.mk (a0 := a0) rfl rfl (plainFor_of_name pn2) O (fun m => ef_rmASBI m a1) ?_
  intro pg ev s m below meth cd T hh X
  subst hh
  obtain ⟨E_a1, F_a1_value, F_a1_coder, F_a1_count⟩ := A1
  have lt_a1 := E_a1.lt
  refine X.aloadN (pc' := 1) d8_0 rfl rfl rfl ?_
  refine X.initO (pc' := 4) (wd56 hw) (wd16 hw) (wd17 hw) rfl d8_1 (leB rfl) (leB rfl) rfl ?_
  intro T X
  refine X.getS (pc' := 7) (wd57 hw) Via.refl O2 d8_4 rfl ?_
  intro T X
  refine X.ifN (pc' := 10) d8_7 ((if0 _ _).trans (feq hz).1) rfl ?_
  refine X.aloadN (pc' := 11) d8_10 rfl rfl rfl ?_
  refine X.iloadN (pc' := 12) d8_11 rfl rfl ?_
  refine X.newP (pc' := 14) (aty := .byte) (wd19 hw) d8_12 (by decide) 16 (by decide) (by decide) (by decide) (by decide) rfl ?_
  intro T h t ka_t g_t Ex lt_t V_t X1
  have z_t : Z.heap.size ≤ t := by rw [g_t]; exact X.old.1
  have s_t : s.heap.size ≤ t := by rw [g_t]; exact X.kp.1
  have ne_a1_t : a1 ≠ t := Nat.ne_of_lt (by rw [g_t]; exact lt_a1)
  replace E_a1 := E_a1.ext Ex
  replace F_a1_value := F_a1_value.ext Ex
  replace F_a1_coder := F_a1_coder.ext Ex
  replace F_a1_count := F_a1_count.ext Ex
  replace lt_a1 := Nat.lt_of_lt_of_le lt_a1 Ex.1
  replace X := X1
  replace V_t : Arv Z h t ka_t .byte (16 : Int32) [(.int (0 : Int32)), (.int (0 : Int32)), (.int (0 : Int32)), (.int (0 : Int32)), (.int (0 : Int32)), (.int (0 : Int32)), (.int (0 : Int32)), (.int (0 : Int32)), (.int (0 : Int32)), (.int (0 : Int32)), (.int (0 : Int32)), (.int (0 : Int32)), (.int (0 : Int32)), (.int (0 : Int32)), (.int (0 : Int32)), (.int (0 : Int32))] (.int (0 : Int32)) := (Arv.pad V_t (pad_rep [] (.int (0 : Int32)) 16))
  refine X.putF (pc' := 17) (wd58 hw) Via.refl F_a1_value E_a1 (Or.inl (wd59 hw)) (wd45 hw) (.array .byte) (by decide) rfl rfl safeE za (Or.inl (List.mem_of_getElem? (i := 0) rfl)) d8_14 rfl ?_
  intro T h L X W
  replace E_a1 := E_a1.wr W
  replace F_a1_coder := F_a1_coder.other W (Or.inr (slot_ne (Or.inl (wd61 hw)) (Or.inl (wd59 hw)) (by decide) (t := .byte) (t' := (.array .byte)) (by decide) (by decide)))
  replace F_a1_count := F_a1_count.other W (Or.inr (slot_ne (Or.inl (wd84 hw)) (Or.inl (wd59 hw)) (by decide) (t := .int) (t' := (.array .byte)) (by decide) (by decide)))
  replace lt_a1 := Nat.lt_of_lt_of_le lt_a1 (Keep.of_wr W).1
  replace V_t := V_t.other W (Ne.symm ne_a1_t)
  replace lt_t := Nat.lt_of_lt_of_le lt_t (Keep.of_wr W).1
  replace F_a1_value := F_a1_value.same W
  refine X.aloadN (pc' := 18) d8_17 rfl rfl rfl ?_
  refine X.iconst (pc' := 19) (0 : Int32) d8_18 rfl rfl ?_
  refine X.putF (pc' := 22) (wd60 hw) Via.refl F_a1_coder E_a1 (Or.inl (wd61 hw)) (wd45 hw) .byte (by decide) rfl rfl safeE za (Or.inl (List.mem_of_getElem? (i := 0) rfl)) d8_19 rfl ?_
  intro T h L X W
  replace E_a1 := E_a1.wr W
  replace F_a1_value := F_a1_value.other W (Or.inr (slot_ne (Or.inl (wd59 hw)) (Or.inl (wd61 hw)) (by decide) (t := (.array .byte)) (t' := .byte) (by decide) (by decide)))
  replace F_a1_count := F_a1_count.other W (Or.inr (slot_ne (Or.inl (wd84 hw)) (Or.inl (wd61 hw)) (by decide) (t := .int) (t' := .byte) (by decide) (by decide)))
  replace lt_a1 := Nat.lt_of_lt_of_le lt_a1 (Keep.of_wr W).1
  replace V_t := V_t.other W (Ne.symm ne_a1_t)
  replace lt_t := Nat.lt_of_lt_of_le lt_t (Keep.of_wr W).1
  replace F_a1_coder := F_a1_coder.same W
  refine X.goto (pc' := 38) d8_22 (by decide) (by decide) ?_
  exact X.retUN d8_38 (by decide) (by decide) ⟨rfl, t, s_t, ⟨E_a1, F_a1_value, F_a1_coder, F_a1_count⟩, ka_t, _, V_t, rfl, fun i hi => absurd hi (Nat.not_lt_zero i)⟩
set_option maxRecDepth 65536 in
set_option maxHeartbeats 40000000 in
theorem ef_rmSBI (m : MethodId) (a1 : Addr) : entryFrame m #[(.ref a1)] 1 = mkF m 0 #[.val (.ref a1)] [] := by first | (simp [entryFrame, mkF, argsToLocals, Value.category]; done) | (rfl)
set_option maxRecDepth 65536 in
set_option maxHeartbeats 40000000 in
theorem rmSBI (l : Launch) (Z : State) (a0 : Array Value) (hw : ∀ d ∈ tables_1, d.before a0 Z = true) (a1 : Addr) (h0 : Heap) (O : Ext Z.heap h0) (z : Int32) (O2 : Sta Z Z.heap "java/lang/String" "COMPACT_STRINGS" "Z" (.int z)) (hz : ¬ z = 0) (za : Z.heap.size ≤ a1) (A1 : Exa Z h0 a1 "java/lang/StringBuilder" ∧ Fld Z h0 a1 "java/lang/AbstractStringBuilder" "value" "[B" .null ∧ Fld Z h0 a1 "java/lang/AbstractStringBuilder" "coder" "B" (.int 0) ∧ Fld Z h0 a1 "java/lang/AbstractStringBuilder" "count" "I" (.int 0)) :
    MN l Z (⟨"java/lang/StringBuilder", "<init>", "()V"⟩ : MethodName) jdk_67_method_1_code 1 none [] ({ frames := 2, cells := 1, slots := 16, locals := 40 } : Room) #[(.ref a1)] h0 [a1] (RU (fun h => ∃ t, h0.size ≤ t ∧ SB Z h a1 t 0 ∧ Buf Z h t 16 16 [])) := by
  refine MN.mk (a0 := a0) rfl rfl (plainFor_of_name pn3) O (fun m => ef_rmSBI m a1) ?_
  intro pg ev s m below meth cd T hh X
  subst hh
  refine X.aloadN (pc' := 1) d7_0 rfl rfl rfl ?_
  refine X.bipush (pc' := 3) (16 : Int32) d7_1 rfl rfl ?_
  refine X.callU (pc' := 6) (X.sSpecial rfl (wd50 hw) (wd51 hw) (wd55 hw) (by decide) rfl pd4 [(.int (16 : Int32))] rfl rfl d7_3) (rmASBI l Z a0 hw a1 _ X.old z O2 hz za A1) (wd55 hw) (wd54 hw) (leB rfl) (leB rfl) (leB rfl) (leB rfl) (sfS safeE sf0) (allS za all0) (allS (Or.inl (List.mem_of_getElem? (i := 0) rfl)) all0) rfl ?_
  intro T h L X K q
  exact X.retUN d7_6 (by decide) (by decide) ⟨rfl, q⟩
set_option maxRecDepth 65536 in
set_option maxHeartbeats 40000000 in
theorem ef_rmCoder (m : MethodId) (x : Addr) : entryFrame m #[(.ref x)] 1 = mkF m 0 #[.val (.ref x)] [] := by first | (simp [entryFrame, mkF, argsToLocals, Value.category]; done) | (rfl)
set_option maxRecDepth 65536 in
set_option maxHeartbeats 40000000 in
theorem rmCoder (l : Launch) (Z : State) (a0 : Array Value) (hw : ∀ d ∈ tables_1, d.before a0 Z = true) (x : Addr) (h0 : Heap) (O : Ext Z.heap h0) (z : Int32) (O2 : Sta Z Z.heap "java/lang/String" "COMPACT_STRINGS" "Z" (.int z)) (hz : ¬ z = 0) (F : Fld Z h0 x "java/lang/String" "coder" "B" (.int 0)) :
    MN l Z (⟨"java/lang/String", "coder", "()B"⟩ : MethodName) jdk_42_method_152_code 1 (some .byte) [] ({ frames := 0, cells := 0, slots := 0, locals := 0 } : Room) #[(.ref x)] h0 [] (RP h0 (fun w => w = .int 0)) := by
  refine MN.mk (a0 := a0) rfl rfl (plainFor_of_name pn0) O (fun m => ef_rmCoder m x) ?_
  intro pg ev s m below meth cd T hh X
  subst hh
  refine X.getS (pc' := 3) (wd82 hw) Via.refl O2 d12_0 rfl ?_
  intro T X
  refine X.ifN (pc' := 6) d12_3 ((if0 _ _).trans (feq hz).1) rfl ?_
  refine X.aloadN (pc' := 7) d12_6 rfl rfl rfl ?_
  refine X.getF (pc' := 10) (wd25 hw) Via.refl F d12_7 rfl ?_
  intro T X
  refine X.goto (pc' := 14) d12_10 (by decide) (by decide) ?_
  exact X.retIN (by simp) rfl d12_14 (by decide) (by decide) ⟨_, rfl, rfl, rfl⟩
set_option maxRecDepth 65536 in
set_option maxHeartbeats 40000000 in
theorem ef_rmMax18 (m : MethodId) (g : Int32) : entryFrame m #[(.int g), (.int (18 : Int32))] 2 = mkF m 0 #[.val (.int g), .val (.int (18 : Int32))] [] := by first | (simp [entryFrame, mkF, argsToLocals, Value.category]; done) | (rfl)
set_option maxRecDepth 65536 in
set_option maxHeartbeats 40000000 in
theorem rmMax18 (l : Launch) (Z : State) (a0 : Array Value) (hw : ∀ d ∈ tables_1, d.before a0 Z = true) (g : Int32) (h0 : Heap) (O : Ext Z.heap h0) (hg : g < 18) :
    MN l Z (⟨"java/lang/Math", "max", "(II)I"⟩ : MethodName) jdk_29_method_65_code 2 (some .int) [] ({ frames := 0, cells := 0, slots := 0, locals := 0 } : Room) #[(.int g), (.int (18 : Int32))] h0 [] (RP h0 (fun w => w = .int 18)) := by
  refine MN.mk (a0 := a0) rfl rfl pf19 O (fun m => ef_rmMax18 m g) ?_
  intro pg ev s m below meth cd T hh X
  subst hh
  refine X.iloadN (pc' := 1) d19_0 rfl rfl ?_
  refine X.iloadN (pc' := 2) d19_1 rfl rfl ?_
  refine X.icY (pc' := 9) d19_2 ((tlt hg).1) (by decide) (by decide) ?_
  refine X.iloadN (pc' := 10) d19_9 rfl rfl ?_
  exact X.retIN (by simp) rfl d19_10 (by decide) (by decide) ⟨_, rfl, rfl, rfl⟩
set_option maxRecDepth 65536 in
set_option maxHeartbeats 40000000 in
theorem ef_rmNewL (m : MethodId) (g : Int32) : entryFrame m #[(.int (16 : Int32)), (.int g), (.int (18 : Int32))] 4 = mkF m 0 #[.val (.int (16 : Int32)), .val (.int g), .val (.int (18 : Int32)), .unset] [] := by first | (simp [entryFrame, mkF, argsToLocals, Value.category]; done) | (rfl)
set_option maxRecDepth 65536 in
set_option maxHeartbeats 40000000 in
theorem rmNewL (l : Launch) (Z : State) (a0 : Array Value) (hw : ∀ d ∈ tables_1, d.before a0 Z = true) (g : Int32) (h0 : Heap) (O : Ext Z.heap h0) (hg : g < 18) :
    MN l Z (⟨"jdk/internal/util/ArraysSupport", "newLength", "(III)I"⟩ : MethodName) jdk_48_method_27_code 4 (some .int) [] ({ frames := 1, cells := 0, slots := 0, locals := 20 } : Room) #[(.int (16 : Int32)), (.int g), (.int (18 : Int32))] h0 [] (RP h0 (fun w => w = .int 34)) := by
  refine MN.mk (a0 := a0) rfl rfl (plainFor_of_name pn5) O (fun m => ef_rmNewL m g) ?_
  intro pg ev s m below meth cd T hh X
  subst hh
  refine X.iloadN (pc' := 1) d18_0 rfl rfl ?_
  refine X.iloadN (pc' := 2) d18_1 rfl rfl ?_
  refine X.iloadN (pc' := 3) d18_2 rfl rfl ?_
  refine X.callP (pc' := 6) (X.sStatic (wd121 hw) (wd122 hw) (wd123 hw) (wd124 hw) (by decide) rfl pd5 [(.int g), (.int (18 : Int32))] rfl rfl d18_3) (rmMax18 l Z a0 hw g _ X.old hg) (wd124 hw) (wd123 hw) (leB rfl) (leB rfl) (leB rfl) (leB rfl) rfl ?_
  intro T L v X q
  subst q
  refine X.iadd (pc' := 7) d18_6 rfl ?_
  rw [show (((16 : Int32) + (18 : Int32)) : Int32) = (34 : Int32) from by decide]
  refine X.istoreN (pc' := 8) #[.val (.int (16 : Int32)), .val (.int g), .val (.int (18 : Int32)), .val (.int (34 : Int32))] d18_7 rfl rfl ?_
  refine X.iconst (pc' := 9) (0 : Int32) d18_8 rfl rfl ?_
  refine X.iloadN (pc' := 10) d18_9 rfl rfl ?_
  refine X.icN (pc' := 13) d18_10 (by decide) rfl ?_
  refine X.iloadN (pc' := 14) d18_13 rfl rfl ?_
  refine X.ldcI (pc' := 16) (wd125 hw) d18_14 rfl ?_
  refine X.icN (pc' := 19) d18_16 (by decide) rfl ?_
  refine X.iloadN (pc' := 20) d18_19 rfl rfl ?_
  exact X.retIN (by simp) rfl d18_20 (by decide) (by decide) ⟨_, rfl, rfl, rfl⟩
set_option maxRecDepth 65536 in
set_option maxHeartbeats 40000000 in
theorem ef_rmNewC (m : MethodId) (a1 : Addr) (nd : Int32) : entryFrame m #[(.ref a1), (.int nd)] 6 = mkF m 0 #[.val (.ref a1), .val (.int nd), .unset, .unset, .unset, .unset] [] := by first | (simp [entryFrame, mkF, argsToLocals, Value.category]; done) | (rfl)
set_option maxRecDepth 65536 in
set_option maxHeartbeats 40000000 in
theorem rmNewC (l : Launch) (Z : State) (a0 : Array Value) (hw : ∀ d ∈ tables_1, d.before a0 Z = true) (a1 : Addr) (nd : Int32) (h0 : Heap) (O : Ext Z.heap h0) (t : Addr) (k : Nat) (cs : List Int32) (A1 : SB Z h0 a1 t k) (B : Buf Z h0 t 16 16 cs) (hnd : nd - 16 < 18) :
    MN l Z (⟨"java/lang/AbstractStringBuilder", "newCapacity", "(I)I"⟩ : MethodName) jdk_68_method_10_code 6 (some .int) [] ({ frames := 2, cells := 0, slots := 0, locals := 50 } : Room) #[(.ref a1), (.int nd)] h0 [] (RP h0 (fun w => w = .int 34)) := by
  refine MN.mk (a0 := a0) rfl rfl (plainFor_of_name pn2) O (fun m => ef_rmNewC m a1 nd) ?_
  intro pg ev s m below meth cd T hh X
  subst hh
  refine X.aloadN (pc' := 1) d17_0 rfl rfl rfl ?_
  refine X.getF (pc' := 4) (wd58 hw) Via.refl A1.2.1 d17_1 rfl ?_
  intro T X
  obtain ⟨kt, vs, V_t, hvs, hcn⟩ := B
  refine X.alen (pc' := 5) V_t d17_4 rfl ?_
  refine X.istoreN (pc' := 6) #[.val (.ref a1), .val (.int nd), .val (.int (16 : Int32)), .unset, .unset, .unset] d17_5 rfl rfl ?_
  refine X.iloadN (pc' := 7) d17_6 rfl rfl ?_
  refine X.aloadN (pc' := 8) d17_7 rfl rfl rfl ?_
  refine X.getF (pc' := 11) (wd60 hw) Via.refl A1.2.2.1 d17_8 rfl ?_
  intro T X
  refine X.ishl (pc' := 12) d17_11 rfl ?_
  rw [shl0]
  refine X.istoreN (pc' := 13) #[.val (.ref a1), .val (.int nd), .val (.int (16 : Int32)), .val (.int nd), .unset, .unset] d17_12 rfl rfl ?_
  refine X.iloadN (pc' := 14) d17_13 rfl rfl ?_
  refine X.iloadN (pc' := 15) d17_14 rfl rfl ?_
  refine X.isub (pc' := 16) d17_15 rfl ?_
  refine X.istore (pc' := 18) #[.val (.ref a1), .val (.int nd), .val (.int (16 : Int32)), .val (.int nd), .val (.int (nd - (16 : Int32))), .unset] d17_16 rfl rfl ?_
  refine X.iloadN (pc' := 19) d17_18 rfl rfl ?_
  refine X.iload (pc' := 21) d17_19 rfl rfl ?_
  refine X.iloadN (pc' := 22) d17_21 rfl rfl ?_
  refine X.iconst (pc' := 23) (2 : Int32) d17_22 rfl rfl ?_
  refine X.aloadN (pc' := 24) d17_23 rfl rfl rfl ?_
  refine X.getF (pc' := 27) (wd60 hw) Via.refl A1.2.2.1 d17_24 rfl ?_
  intro T X
  refine X.ishl (pc' := 28) d17_27 rfl ?_
  refine X.iadd (pc' := 29) d17_28 rfl ?_
  rw [show (((16 : Int32) + ((2 : Int32) <<< ((0 : Int32) &&& 31))) : Int32) = (18 : Int32) from by decide]
  refine X.callP (pc' := 32) (X.sStatic (wd117 hw) (wd118 hw) (wd119 hw) (wd120 hw) (by decide) rfl pd6 [(.int (16 : Int32)), (.int (nd - (16 : Int32))), (.int (18 : Int32))] rfl rfl d17_29) (rmNewL l Z a0 hw _ _ X.old hnd) (wd120 hw) (wd119 hw) (leB rfl) (leB rfl) (leB rfl) (leB rfl) rfl ?_
  intro T L v X q
  subst q
  refine X.istore (pc' := 34) #[.val (.ref a1), .val (.int nd), .val (.int (16 : Int32)), .val (.int nd), .val (.int (nd - (16 : Int32))), .val (.int (34 : Int32))] d17_32 rfl rfl ?_
  refine X.iload (pc' := 36) d17_34 rfl rfl ?_
  refine X.ldcI (pc' := 38) (wd126 hw) d17_36 rfl ?_
  refine X.icY (pc' := 51) d17_38 (by decide) (by decide) (by decide) ?_
  refine X.iload (pc' := 53) d17_51 rfl rfl ?_
  refine X.aloadN (pc' := 54) d17_53 rfl rfl rfl ?_
  refine X.getF (pc' := 57) (wd60 hw) Via.refl A1.2.2.1 d17_54 rfl ?_
  intro T X
  refine X.ishr (pc' := 58) d17_57 rfl ?_
  rw [show (((34 : Int32) >>> ((0 : Int32) &&& 31)) : Int32) = (34 : Int32) from by decide]
  exact X.retIN (by simp) rfl d17_58 (by decide) (by decide) ⟨_, rfl, rfl, rfl⟩
set_option maxRecDepth 65536 in
set_option maxHeartbeats 40000000 in
theorem ef_rmMin16 (m : MethodId)  : entryFrame m #[(.int (16 : Int32)), (.int (34 : Int32))] 2 = mkF m 0 #[.val (.int (16 : Int32)), .val (.int (34 : Int32))] [] := by first | (simp [entryFrame, mkF, argsToLocals, Value.category]; done) | (rfl)
set_option maxRecDepth 65536 in
set_option maxHeartbeats 40000000 in
theorem rmMin16 (l : Launch) (Z : State) (a0 : Array Value) (hw : ∀ d ∈ tables_1, d.before a0 Z = true)  (h0 : Heap) (O : Ext Z.heap h0)  :
    MN l Z (⟨"java/lang/Math", "min", "(II)I"⟩ : MethodName) jdk_29_method_69_code 2 (some .int) [] ({ frames := 0, cells := 0, slots := 0, locals := 0 } : Room) #[(.int (16 : Int32)), (.int (34 : Int32))] h0 [] (RP h0 (fun w => w = .int 16)) := by
  refine MN.mk (a0 := a0) rfl rfl pf21 O (fun m => ef_rmMin16 m ) ?_
  intro pg ev s m below meth cd T hh X
  subst hh
  refine X.iloadN (pc' := 1) d21_0 rfl rfl ?_
  refine X.iloadN (pc' := 2) d21_1 rfl rfl ?_
  refine X.icN (pc' := 5) d21_2 (by decide) rfl ?_
  refine X.iloadN (pc' := 6) d21_5 rfl rfl ?_
  refine X.goto (pc' := 10) d21_6 (by decide) (by decide) ?_
  exact X.retIN (by simp) rfl d21_10 (by decide) (by decide) ⟨_, rfl, rfl, rfl⟩
set_option maxRecDepth 65536 in
set_option maxHeartbeats 40000000 in
theorem ef_rmMin34 (m : MethodId) (k : Int32) : entryFrame m #[(.int (34 : Int32)), (.int k)] 2 = mkF m 0 #[.val (.int (34 : Int32)), .val (.int k)] [] := by first | (simp [entryFrame, mkF, argsToLocals, Value.category]; done) | (rfl)
set_option maxRecDepth 65536 in
set_option maxHeartbeats 40000000 in
theorem rmMin34 (l : Launch) (Z : State) (a0 : Array Value) (hw : ∀ d ∈ tables_1, d.before a0 Z = true) (k : Int32) (h0 : Heap) (O : Ext Z.heap h0) (hk : k < 34) :
    MN l Z (⟨"java/lang/Math", "min", "(II)I"⟩ : MethodName) jdk_29_method_69_code 2 (some .int) [] ({ frames := 0, cells := 0, slots := 0, locals := 0 } : Room) #[(.int (34 : Int32)), (.int k)] h0 [] (RP h0 (fun w => w = .int k)) := by
  refine MN.mk (a0 := a0) rfl rfl pf21 O (fun m => ef_rmMin34 m k) ?_
  intro pg ev s m below meth cd T hh X
  subst hh
  refine X.iloadN (pc' := 1) d21_0 rfl rfl ?_
  refine X.iloadN (pc' := 2) d21_1 rfl rfl ?_
  refine X.icY (pc' := 9) d21_2 ((tlt hk).2.2.1) (by decide) (by decide) ?_
  refine X.iloadN (pc' := 10) d21_9 rfl rfl ?_
  exact X.retIN (by simp) rfl d21_10 (by decide) (by decide) ⟨_, rfl, rfl, rfl⟩
set_option maxRecDepth 65536 in
set_option maxHeartbeats 40000000 in
theorem ef_rmCoB (m : MethodId) (t : Addr) : entryFrame m #[(.ref t), (.int (34 : Int32))] 3 = mkF m 0 #[.val (.ref t), .val (.int (34 : Int32)), .unset] [] := by first | (simp [entryFrame, mkF, argsToLocals, Value.category]; done) | (rfl)
set_option maxRecDepth 65536 in
set_option maxHeartbeats 40000000 in
theorem rmCoB (l : Launch) (Z : State) (a0 : Array Value) (hw : ∀ d ∈ tables_1, d.before a0 Z = true) (t : Addr) (h0 : Heap) (O : Ext Z.heap h0) (cs : List Int32) (hc : cs.length ≤ 16) (B : Buf Z h0 t 16 16 cs) :
    MN l Z (⟨"java/util/Arrays", "copyOf", "([BI)[B"⟩ : MethodName) jdk_65_method_121_code 3 (some (.array .byte)) [] ({ frames := 1, cells := 1, slots := 34, locals := 40 } : Room) #[(.ref t), (.int (34 : Int32))] h0 [] (RV (fun w h => ∃ r, w = .ref r ∧ h0.size ≤ r ∧ Buf Z h r 34 34 cs)) := by
  refine MN.mk (a0 := a0) rfl rfl (plainFor_of_name pn7) O (fun m => ef_rmCoB m t) ?_
  intro pg ev s m below meth cd T hh X
  subst hh
  have lt_t := B.lt
  obtain ⟨kt, vs, Vt, hvs, hcn⟩ := B
  refine X.iloadN (pc' := 1) d20_0 rfl rfl ?_
  refine X.aloadN (pc' := 2) d20_1 rfl rfl rfl ?_
  refine X.alen (pc' := 3) Vt d20_2 rfl ?_
  refine X.icY (pc' := 14) d20_3 (by decide) (by decide) (by decide) ?_
  refine X.iloadN (pc' := 15) d20_14 rfl rfl ?_
  refine X.newP (pc' := 17) (aty := .byte) (wd19 hw) d20_15 (by decide) 34 (by decide) (by decide) (by decide) (by decide) rfl ?_
  intro T h r ka_r g_r Ex lt_r V_r X1
  have z_r : Z.heap.size ≤ r := by rw [g_r]; exact X.old.1
  have s_r : s.heap.size ≤ r := by rw [g_r]; exact X.kp.1
  have ne_t_r : t ≠ r := Nat.ne_of_lt (by rw [g_r]; exact lt_t)
  replace lt_t := Nat.lt_of_lt_of_le lt_t Ex.1
  replace Vt := Vt.ext Ex
  replace X := X1
  replace V_r : Arv Z h r ka_r .byte (34 : Int32) [(.int (0 : Int32)), (.int (0 : Int32)), (.int (0 : Int32)), (.int (0 : Int32)), (.int (0 : Int32)), (.int (0 : Int32)), (.int (0 : Int32)), (.int (0 : Int32)), (.int (0 : Int32)), (.int (0 : Int32)), (.int (0 : Int32)), (.int (0 : Int32)), (.int (0 : Int32)), (.int (0 : Int32)), (.int (0 : Int32)), (.int (0 : Int32)), (.int (0 : Int32)), (.int (0 : Int32)), (.int (0 : Int32)), (.int (0 : Int32)), (.int (0 : Int32)), (.int (0 : Int32)), (.int (0 : Int32)), (.int (0 : Int32)), (.int (0 : Int32)), (.int (0 : Int32)), (.int (0 : Int32)), (.int (0 : Int32)), (.int (0 : Int32)), (.int (0 : Int32)), (.int (0 : Int32)), (.int (0 : Int32)), (.int (0 : Int32)), (.int (0 : Int32))] (.int (0 : Int32)) := (Arv.pad V_r (pad_rep [] (.int (0 : Int32)) 34))
  refine X.astoreN (pc' := 18) #[.val (.ref t), .val (.int (34 : Int32)), .val (.ref r)] d20_17 rfl rfl rfl ?_
  refine X.aloadN (pc' := 19) d20_18 rfl rfl rfl ?_
  refine X.iconst (pc' := 20) (0 : Int32) d20_19 rfl rfl ?_
  refine X.aloadN (pc' := 21) d20_20 rfl rfl rfl ?_
  refine X.iconst (pc' := 22) (0 : Int32) d20_21 rfl rfl ?_
  refine X.aloadN (pc' := 23) d20_22 rfl rfl rfl ?_
  refine X.alen (pc' := 24) Vt d20_23 rfl ?_
  refine X.iloadN (pc' := 25) d20_24 rfl rfl ?_
  refine X.callP (pc' := 28) (X.sStatic (wd131 hw) (wd132 hw) (wd123 hw) (wd133 hw) (by decide) rfl pd5 [(.int (16 : Int32)), (.int (34 : Int32))] rfl rfl d20_25) (rmMin16 l Z a0 hw _ X.old) (wd133 hw) (wd123 hw) (leB rfl) (leB rfl) (leB rfl) (leB rfl) rfl ?_
  intro T L v X q
  subst q
  refine X.acopy (pc' := 31) (wd134 hw) (wd109 hw) (wd107 hw) (wd108 hw) Vt V_r (Or.inl ⟨rfl, rfl⟩) (by decide) (by decide) (by decide) (by decide) (by decide) rfl (by decide) safeE z_r (Or.inr s_r) rfl d20_28 (leB rfl) (by first | exact leB rfl | decide +kernel) rfl ?_
  intro T h L X K V1
  refine X.aloadN (pc' := 32) d20_31 rfl rfl rfl ?_
  have G := grow_ok (vs := vs) (zs := [(.int (0 : Int32)), (.int (0 : Int32)), (.int (0 : Int32)), (.int (0 : Int32)), (.int (0 : Int32)), (.int (0 : Int32)), (.int (0 : Int32)), (.int (0 : Int32)), (.int (0 : Int32)), (.int (0 : Int32)), (.int (0 : Int32)), (.int (0 : Int32)), (.int (0 : Int32)), (.int (0 : Int32)), (.int (0 : Int32)), (.int (0 : Int32)), (.int (0 : Int32)), (.int (0 : Int32)), (.int (0 : Int32)), (.int (0 : Int32)), (.int (0 : Int32)), (.int (0 : Int32)), (.int (0 : Int32)), (.int (0 : Int32)), (.int (0 : Int32)), (.int (0 : Int32)), (.int (0 : Int32)), (.int (0 : Int32)), (.int (0 : Int32)), (.int (0 : Int32)), (.int (0 : Int32)), (.int (0 : Int32)), (.int (0 : Int32)), (.int (0 : Int32))]) (n := 16) (cs := cs) rfl (by decide) hc hcn
  exact X.retAN rfl rfl d20_32 (by decide) (by decide) ⟨_, rfl, r, rfl, s_r, ka_r, _, V1, G.1, G.2⟩
set_option maxRecDepth 65536 in
set_option maxHeartbeats 40000000 in
theorem ef_rmEns16 (m : MethodId) (a1 : Addr) (nd : Int32) : entryFrame m #[(.ref a1), (.int nd)] 3 = mkF m 0 #[.val (.ref a1), .val (.int nd), .unset] [] := by first | (simp [entryFrame, mkF, argsToLocals, Value.category]; done) | (rfl)
set_option maxRecDepth 65536 in
set_option maxHeartbeats 40000000 in
theorem rmEns16 (l : Launch) (Z : State) (a0 : Array Value) (hw : ∀ d ∈ tables_1, d.before a0 Z = true) (a1 : Addr) (nd : Int32) (h0 : Heap) (O : Ext Z.heap h0) (t : Addr) (k : Nat) (cs : List Int32) (A1 : SB Z h0 a1 t k) (B : Buf Z h0 t (16 : Int32) 16 cs) (hnd : ¬ (0 : Int32) < nd - 16) :
    MN l Z (⟨"java/lang/AbstractStringBuilder", "ensureCapacityInternal", "(I)V"⟩ : MethodName) jdk_68_method_9_code 3 none [] ({ frames := 0, cells := 0, slots := 0, locals := 0 } : Room) #[(.ref a1), (.int nd)] h0 [] (RO h0) := by
  refine MN.mk (a0 := a0) rfl rfl (plainFor_of_name pn2) O (fun m => ef_rmEns16 m a1 nd) ?_
  intro pg ev s m below meth cd T hh X
  subst hh
  refine X.aloadN (pc' := 1) d13_0 rfl rfl rfl ?_
  refine X.getF (pc' := 4) (wd58 hw) Via.refl A1.2.1 d13_1 rfl ?_
  intro T X
  obtain ⟨kt, vs, V_t, hvs, hcn⟩ := B
  refine X.alen (pc' := 5) V_t d13_4 rfl ?_
  refine X.aloadN (pc' := 6) d13_5 rfl rfl rfl ?_
  refine X.getF (pc' := 9) (wd60 hw) Via.refl A1.2.2.1 d13_6 rfl ?_
  intro T X
  refine X.ishr (pc' := 10) d13_9 rfl ?_
  rw [show (((16 : Int32) >>> ((0 : Int32) &&& 31)) : Int32) = (16 : Int32) from by decide]
  refine X.istoreN (pc' := 11) #[.val (.ref a1), .val (.int nd), .val (.int (16 : Int32))] d13_10 rfl rfl ?_
  refine X.iloadN (pc' := 12) d13_11 rfl rfl ?_
  refine X.iloadN (pc' := 13) d13_12 rfl rfl ?_
  refine X.isub (pc' := 14) d13_13 rfl ?_
  refine X.ifY (pc' := 38) d13_14 ((if0 _ _).trans (flt hnd).2.2.2) (by decide) (by decide) ?_
  exact X.retUN d13_38 (by decide) (by decide) ⟨rfl, rfl⟩
set_option maxRecDepth 65536 in
set_option maxHeartbeats 40000000 in
theorem ef_rmEns34 (m : MethodId) (a1 : Addr) (nd : Int32) : entryFrame m #[(.ref a1), (.int nd)] 3 = mkF m 0 #[.val (.ref a1), .val (.int nd), .unset] [] := by first | (simp [entryFrame, mkF, argsToLocals, Value.category]; done) | (rfl)
set_option maxRecDepth 65536 in
set_option maxHeartbeats 40000000 in
theorem rmEns34 (l : Launch) (Z : State) (a0 : Array Value) (hw : ∀ d ∈ tables_1, d.before a0 Z = true) (a1 : Addr) (nd : Int32) (h0 : Heap) (O : Ext Z.heap h0) (t : Addr) (k : Nat) (cs : List Int32) (A1 : SB Z h0 a1 t k) (B : Buf Z h0 t (34 : Int32) 34 cs) (hnd : ¬ (0 : Int32) < nd - 34) :
    MN l Z (⟨"java/lang/AbstractStringBuilder", "ensureCapacityInternal", "(I)V"⟩ : MethodName) jdk_68_method_9_code 3 none [] ({ frames := 0, cells := 0, slots := 0, locals := 0 } : Room) #[(.ref a1), (.int nd)] h0 [] (RO h0) := by
  refine MN.mk (a0 := a0) rfl rfl (plainFor_of_name pn2) O (fun m => ef_rmEns34 m a1 nd) ?_
  intro pg ev s m below meth cd T hh X
  subst hh
  refine X.aloadN (pc' := 1) d13_0 rfl rfl rfl ?_
  refine X.getF (pc' := 4) (wd58 hw) Via.refl A1.2.1 d13_1 rfl ?_
  intro T X
  obtain ⟨kt, vs, V_t, hvs, hcn⟩ := B
  refine X.alen (pc' := 5) V_t d13_4 rfl ?_
  refine X.aloadN (pc' := 6) d13_5 rfl rfl rfl ?_
  refine X.getF (pc' := 9) (wd60 hw) Via.refl A1.2.2.1 d13_6 rfl ?_
  intro T X
  refine X.ishr (pc' := 10) d13_9 rfl ?_
  rw [show (((34 : Int32) >>> ((0 : Int32) &&& 31)) : Int32) = (34 : Int32) from by decide]
  refine X.istoreN (pc' := 11) #[.val (.ref a1), .val (.int nd), .val (.int (34 : Int32))] d13_10 rfl rfl ?_
  refine X.iloadN (pc' := 12) d13_11 rfl rfl ?_
  refine X.iloadN (pc' := 13) d13_12 rfl rfl ?_
  refine X.isub (pc' := 14) d13_13 rfl ?_
  refine X.ifY (pc' := 38) d13_14 ((if0 _ _).trans (flt hnd).2.2.2) (by decide) (by decide) ?_
  exact X.retUN d13_38 (by decide) (by decide) ⟨rfl, rfl⟩
set_option maxRecDepth 65536 in
set_option maxHeartbeats 40000000 in
theorem ef_rmEnsG (m : MethodId) (a1 : Addr) (nd : Int32) : entryFrame m #[(.ref a1), (.int nd)] 3 = mkF m 0 #[.val (.ref a1), .val (.int nd), .unset] [] := by first | (simp [entryFrame, mkF, argsToLocals, Value.category]; done) | (rfl)
set_option maxRecDepth 65536 in
set_option maxHeartbeats 40000000 in
theorem rmEnsG (l : Launch) (Z : State) (a0 : Array Value) (hw : ∀ d ∈ tables_1, d.before a0 Z = true) (a1 : Addr) (nd : Int32) (h0 : Heap) (O : Ext Z.heap h0) (za : Z.heap.size ≤ a1) (t : Addr) (k : Nat) (cs : List Int32) (hc : cs.length ≤ 16) (A1 : SB Z h0 a1 t k) (B : Buf Z h0 t 16 16 cs) (hnd : (0 : Int32) < nd - 16 ∧ nd - 16 < 18) :
    MN l Z (⟨"java/lang/AbstractStringBuilder", "ensureCapacityInternal", "(I)V"⟩ : MethodName) jdk_68_method_9_code 3 none [] ({ frames := 3, cells := 1, slots := 34, locals := 80 } : Room) #[(.ref a1), (.int nd)] h0 [a1] (RU (fun h => ∃ r, h0.size ≤ r ∧ SB Z h a1 r k ∧ Buf Z h r 34 34 cs)) := by
  refine MN.mk (a0 := a0) rfl rfl (plainFor_of_name pn2) O (fun m => ef_rmEnsG m a1 nd) ?_
  intro pg ev s m below meth cd T hh X
  subst hh
  have lt_a1 := A1.1.lt
  refine X.aloadN (pc' := 1) d13_0 rfl rfl rfl ?_
  refine X.getF (pc' := 4) (wd58 hw) Via.refl A1.2.1 d13_1 rfl ?_
  intro T X
  have B0 := B
  obtain ⟨kt, vs, V_t, hvs, hcn⟩ := B0
  refine X.alen (pc' := 5) V_t d13_4 rfl ?_
  refine X.aloadN (pc' := 6) d13_5 rfl rfl rfl ?_
  refine X.getF (pc' := 9) (wd60 hw) Via.refl A1.2.2.1 d13_6 rfl ?_
  intro T X
  refine X.ishr (pc' := 10) d13_9 rfl ?_
  rw [show (((16 : Int32) >>> ((0 : Int32) &&& 31)) : Int32) = (16 : Int32) from by decide]
  refine X.istoreN (pc' := 11) #[.val (.ref a1), .val (.int nd), .val (.int (16 : Int32))] d13_10 rfl rfl ?_
  refine X.iloadN (pc' := 12) d13_11 rfl rfl ?_
  refine X.iloadN (pc' := 13) d13_12 rfl rfl ?_
  refine X.isub (pc' := 14) d13_13 rfl ?_
  refine X.ifN (pc' := 17) d13_14 ((if0 _ _).trans (tlt hnd.1).2.2.2) rfl ?_
  refine X.aloadN (pc' := 18) d13_17 rfl rfl rfl ?_
  refine X.aloadN (pc' := 19) d13_18 rfl rfl rfl ?_
  refine X.getF (pc' := 22) (wd58 hw) Via.refl A1.2.1 d13_19 rfl ?_
  intro T X
  refine X.aloadN (pc' := 23) d13_22 rfl rfl rfl ?_
  refine X.iloadN (pc' := 24) d13_23 rfl rfl ?_
  refine X.callP (pc' := 27) (X.sPrivate (wd112 hw) (wd113 hw) (wd115 hw) (wd114 hw) (wd116 hw) (by decide) rfl pd7 A1.1 [(.int nd)] rfl rfl d13_24) (rmNewC l Z a0 hw a1 nd _ X.old t k cs A1 B hnd.2) (wd116 hw) (wd54 hw) (leB rfl) (leB rfl) (leB rfl) (leB rfl) rfl ?_
  intro T L v X q
  subst q
  refine X.aloadN (pc' := 28) d13_27 rfl rfl rfl ?_
  refine X.getF (pc' := 31) (wd60 hw) Via.refl A1.2.2.1 d13_28 rfl ?_
  intro T X
  refine X.ishl (pc' := 32) d13_31 rfl ?_
  rw [show (((34 : Int32) <<< ((0 : Int32) &&& 31)) : Int32) = (34 : Int32) from by decide]
  refine X.callV (pc' := 35) (X.sStatic (wd127 hw) (wd128 hw) (wd129 hw) (wd130 hw) (by decide) rfl pd8 [(.ref t), (.int (34 : Int32))] rfl rfl d13_32) (rmCoB l Z a0 hw t _ X.old cs hc B) (wd130 hw) (wd129 hw) (leB rfl) (leB rfl) (leB rfl) (leB rfl) sf0 all0 all0 rfl ?_
  intro T h L v X K q
  obtain ⟨r, rfl, le_r, V_r⟩ := q
  have ne_a1_r : a1 ≠ r := Nat.ne_of_lt (Nat.lt_of_lt_of_le lt_a1 le_r)
  replace lt_a1 := Nat.lt_of_lt_of_le lt_a1 K.1
  replace A1 := A1.keep K nin0
  obtain ⟨E_a1, F_a1_value, F_a1_coder, F_a1_count⟩ := A1
  refine X.putF (pc' := 38) (wd58 hw) Via.refl F_a1_value E_a1 (Or.inl (wd59 hw)) (wd45 hw) (.array .byte) (by decide) rfl rfl safeE za (Or.inl (List.mem_of_getElem? (i := 0) rfl)) d13_35 rfl ?_
  intro T h L X W
  replace lt_a1 := Nat.lt_of_lt_of_le lt_a1 (Keep.of_wr W).1
  replace E_a1 := E_a1.wr W
  replace F_a1_coder := F_a1_coder.other W (Or.inr (slot_ne (Or.inl (wd61 hw)) (Or.inl (wd59 hw)) (by decide) (t := .byte) (t' := (.array .byte)) (by decide) (by decide)))
  replace F_a1_count := F_a1_count.other W (Or.inr (slot_ne (Or.inl (wd84 hw)) (Or.inl (wd59 hw)) (by decide) (t := .int) (t' := (.array .byte)) (by decide) (by decide)))
  replace V_r := V_r.other W (Ne.symm ne_a1_r)
  replace F_a1_value := F_a1_value.same W
  exact X.retUN d13_38 (by decide) (by decide) ⟨rfl, r, le_r, ⟨E_a1, F_a1_value, F_a1_coder, F_a1_count⟩, V_r⟩
set_option maxRecDepth 65536 in
set_option maxHeartbeats 40000000 in
theorem ef_rmInfl (m : MethodId) (a1 : Addr) (x : Addr) : entryFrame m #[(.ref a1), (.ref x)] 2 = mkF m 0 #[.val (.ref a1), .val (.ref x)] [] := by first | (simp [entryFrame, mkF, argsToLocals, Value.category]; done) | (rfl)
set_option maxRecDepth 65536 in
set_option maxHeartbeats 40000000 in
theorem rmInfl (l : Launch) (Z : State) (a0 : Array Value) (hw : ∀ d ∈ tables_1, d.before a0 Z = true) (a1 : Addr) (x : Addr) (h0 : Heap) (O : Ext Z.heap h0) (z : Int32) (O2 : Sta Z Z.heap "java/lang/String" "COMPACT_STRINGS" "Z" (.int z)) (hz : ¬ z = 0) (t : Addr) (k : Nat) (ds : List Int32) (A1 : SB Z h0 a1 t k) (S : Lat Z h0 x ds) :
    MN l Z (⟨"java/lang/AbstractStringBuilder", "inflateIfNeededFor", "(Ljava/lang/String;)V"⟩ : MethodName) jdk_68_method_71_code 2 none [] ({ frames := 1, cells := 0, slots := 0, locals := 20 } : Room) #[(.ref a1), (.ref x)] h0 [] (RO h0) := by
  refine MN.mk (a0 := a0) rfl rfl (plainFor_of_name pn2) O (fun m => ef_rmInfl m a1 x) ?_
  intro pg ev s m below meth cd T hh X
  subst hh
  obtain ⟨tx, kx, E_x, F_x_value, F_x_coder, V_x, hlat, hl4⟩ := S
  refine X.getS (pc' := 3) (wd57 hw) Via.refl O2 d15_0 rfl ?_
  intro T X
  refine X.ifN (pc' := 6) d15_3 ((if0 _ _).trans (feq hz).1) rfl ?_
  refine X.aloadN (pc' := 7) d15_6 rfl rfl rfl ?_
  refine X.getF (pc' := 10) (wd60 hw) Via.refl A1.2.2.1 d15_7 rfl ?_
  intro T X
  refine X.aloadN (pc' := 11) d15_10 rfl rfl rfl ?_
  refine X.callP (pc' := 14) (X.sVirtual (wd100 hw) (wd78 hw) (wd80 hw) (wd79 hw) (by decide) rfl pd9 E_x [] rfl rfl d15_11 (X.nf (wd75 hw) rfl)) (rmCoder l Z a0 hw x _ X.old z O2 hz F_x_coder) (wd81 hw) (wd6 hw) (leB rfl) (leB rfl) (leB rfl) (leB rfl) rfl ?_
  intro T L v X q
  subst q
  refine X.icY (pc' := 21) d15_14 (by decide) (by decide) (by decide) ?_
  exact X.retUN d15_21 (by decide) (by decide) ⟨rfl, rfl⟩
set_option maxRecDepth 65536 in
set_option maxHeartbeats 40000000 in
theorem ef_rmGetB (m : MethodId) (x : Addr) (t : Addr) (k : Int32) : entryFrame m #[(.ref x), (.ref t), (.int k), (.int (0 : Int32))] 4 = mkF m 0 #[.val (.ref x), .val (.ref t), .val (.int k), .val (.int (0 : Int32))] [] := by first | (simp [entryFrame, mkF, argsToLocals, Value.category]; done) | (rfl)
set_option maxRecDepth 65536 in
set_option maxHeartbeats 40000000 in
theorem rmGetB (l : Launch) (Z : State) (a0 : Array Value) (hw : ∀ d ∈ tables_1, d.before a0 Z = true) (x : Addr) (t : Addr) (k : Int32) (h0 : Heap) (O : Ext Z.heap h0) (z : Int32) (O2 : Sta Z Z.heap "java/lang/String" "COMPACT_STRINGS" "Z" (.int z)) (hz : ¬ z = 0) (zt : Z.heap.size ≤ t) (cap : Int32) (n : Nat) (cs ds : List Int32) (hcap : cap.toNatClampNeg = n) (hl : cs.length + ds.length ≤ n) (hl9 : n ≤ 4000) (hk : k = Int32.ofNat cs.length) (S : Lat Z h0 x ds) (B : Buf Z h0 t cap n cs) :
    MN l Z (⟨"java/lang/String", "getBytes", "([BIB)V"⟩ : MethodName) jdk_42_method_147_code 4 none [] ({ frames := 1, cells := 0, slots := 0, locals := 40 } : Room) #[(.ref x), (.ref t), (.int k), (.int (0 : Int32))] h0 [t] (RU (fun h => Buf Z h t cap n (cs ++ ds))) := by
  refine MN.mk (a0 := a0) rfl rfl (plainFor_of_name pn0) O (fun m => ef_rmGetB m x t k) ?_
  intro pg ev s m below meth cd T hh X
  subst hh
  obtain ⟨tx, kx, E_x, F_x_value, F_x_coder, V_x, hlat, hl4⟩ := S
  obtain ⟨kt, vs, V_t, hvs, hcn⟩ := B
  refine X.aloadN (pc' := 1) d16_0 rfl rfl rfl ?_
  refine X.callP (pc' := 4) (X.sVirtual (wd77 hw) (wd78 hw) (wd80 hw) (wd79 hw) (by decide) rfl pd9 E_x [] rfl rfl d16_1 (X.nf (wd75 hw) rfl)) (rmCoder l Z a0 hw x _ X.old z O2 hz F_x_coder) (wd81 hw) (wd6 hw) (leB rfl) (leB rfl) (leB rfl) (leB rfl) rfl ?_
  intro T L v X q
  subst q
  refine X.iloadN (pc' := 5) d16_4 rfl rfl ?_
  refine X.icN (pc' := 8) d16_5 (by decide) rfl ?_
  refine X.aloadN (pc' := 9) d16_8 rfl rfl rfl ?_
  refine X.getF (pc' := 12) (wd24 hw) Via.refl F_x_value d16_9 rfl ?_
  intro T X
  refine X.iconst (pc' := 13) (0 : Int32) d16_12 rfl rfl ?_
  refine X.aloadN (pc' := 14) d16_13 rfl rfl rfl ?_
  refine X.iloadN (pc' := 15) d16_14 rfl rfl ?_
  refine X.iloadN (pc' := 16) d16_15 rfl rfl ?_
  refine X.ishl (pc' := 17) d16_16 rfl ?_
  rw [shl0]
  refine X.aloadN (pc' := 18) d16_17 rfl rfl rfl ?_
  refine X.getF (pc' := 21) (wd24 hw) Via.refl F_x_value d16_18 rfl ?_
  intro T X
  refine X.alen (pc' := 22) V_x d16_21 rfl ?_
  have hN := ofnC (k := ds.length) (by omega)
  have hK := ofnC (k := cs.length) (by omega)
  rw [← hk] at hK
  refine X.acopy (pc' := 25) (wd106 hw) (wd109 hw) (wd107 hw) (wd108 hw) V_x V_t (Or.inl ⟨rfl, rfl⟩) (by decide) (by rw [hk]; exact ofn0 (by omega)) (ofn0 (by omega)) (by rw [hN]; exact Nat.le_of_eq (Nat.zero_add _)) (by rw [hN, hK, hcap]; omega) rfl (by rw [hN, hK]; omega) safeE zt (Or.inl (List.mem_of_getElem? (i := 0) rfl)) rfl d16_22 (leB rfl) (by first | exact leB rfl | decide +kernel) rfl ?_
  intro T h L X K V1
  refine X.goto (pc' := 43) d16_25 (by decide) (by decide) ?_
  rw [hN, hK] at V1
  have G := put_ok (vs := vs) (cs := cs) (ds := ds) rfl (by omega) hcn
  exact X.retUN d16_43 (by decide) (by decide) ⟨rfl, kt, _, V1, G.1.trans hvs, G.2⟩
set_option maxRecDepth 65536 in
set_option maxHeartbeats 40000000 in
theorem ef_rmPutS (m : MethodId) (a1 : Addr) (k : Int32) (x : Addr) : entryFrame m #[(.ref a1), (.int k), (.ref x)] 3 = mkF m 0 #[.val (.ref a1), .val (.int k), .val (.ref x)] [] := by first | (simp [entryFrame, mkF, argsToLocals, Value.category]; done) | (rfl)
set_option maxRecDepth 65536 in
set_option maxHeartbeats 40000000 in
theorem rmPutS (l : Launch) (Z : State) (a0 : Array Value) (hw : ∀ d ∈ tables_1, d.before a0 Z = true) (a1 : Addr) (k : Int32) (x : Addr) (h0 : Heap) (O : Ext Z.heap h0) (z : Int32) (O2 : Sta Z Z.heap "java/lang/String" "COMPACT_STRINGS" "Z" (.int z)) (hz : ¬ z = 0) (t : Addr) (zt : Z.heap.size ≤ t) (cap : Int32) (n : Nat) (cs ds : List Int32) (hcap : cap.toNatClampNeg = n) (hl : cs.length + ds.length ≤ n) (hl9 : n ≤ 4000) (hk : k = Int32.ofNat cs.length) (A1 : SB Z h0 a1 t cs.length) (S : Lat Z h0 x ds) (B : Buf Z h0 t cap n cs) :
    MN l Z (⟨"java/lang/AbstractStringBuilder", "putStringAt", "(ILjava/lang/String;)V"⟩ : MethodName) jdk_68_method_73_code 3 none [] ({ frames := 2, cells := 0, slots := 0, locals := 70 } : Room) #[(.ref a1), (.int k), (.ref x)] h0 [t] (RU (fun h => Buf Z h t cap n (cs ++ ds))) := by
  refine MN.mk (a0 := a0) rfl rfl (plainFor_of_name pn2) O (fun m => ef_rmPutS m a1 k x) ?_
  intro pg ev s m below meth cd T hh X
  subst hh
  refine X.aloadN (pc' := 1) d14_0 rfl rfl rfl ?_
  refine X.aloadN (pc' := 2) d14_1 rfl rfl rfl ?_
  refine X.callO (pc' := 5) (X.sPrivate (wd95 hw) (wd96 hw) (wd98 hw) (wd97 hw) (wd99 hw) (by decide) rfl pd10 A1.1 [(.ref x)] rfl rfl d14_2) (rmInfl l Z a0 hw a1 x _ X.old z O2 hz t _ ds A1 S) (wd99 hw) (wd54 hw) (leB rfl) (leB rfl) (leB rfl) (leB rfl) rfl ?_
  intro T L X
  refine X.aloadN (pc' := 6) d14_5 rfl rfl rfl ?_
  refine X.aloadN (pc' := 7) d14_6 rfl rfl rfl ?_
  refine X.getF (pc' := 10) (wd58 hw) Via.refl A1.2.1 d14_7 rfl ?_
  intro T X
  refine X.iloadN (pc' := 11) d14_10 rfl rfl ?_
  refine X.aloadN (pc' := 12) d14_11 rfl rfl rfl ?_
  refine X.getF (pc' := 15) (wd60 hw) Via.refl A1.2.2.1 d14_12 rfl ?_
  intro T X
  have E_x : Exa Z s.heap x "java/lang/String" := by obtain ⟨_, _, q, -⟩ := S; exact q
  refine X.callU (pc' := 18) (X.sVirtual (wd101 hw) (wd102 hw) (wd104 hw) (wd103 hw) (by decide) rfl pd11 E_x [(.ref t), (.int k), (.int (0 : Int32))] rfl rfl d14_15 (X.nf (wd75 hw) rfl)) (rmGetB l Z a0 hw x t k _ X.old z O2 hz zt cap n cs ds hcap hl hl9 hk S B) (wd105 hw) (wd6 hw) (leB rfl) (leB rfl) (leB rfl) (leB rfl) (sfS safeE sf0) (allS zt all0) (allS (Or.inl (List.mem_of_getElem? (i := 0) rfl)) all0) rfl ?_
  intro T h L X K q
  exact X.retUN d14_18 (by decide) (by decide) ⟨rfl, q⟩
set_option maxRecDepth 65536 in
set_option maxHeartbeats 40000000 in
theorem ef_rmAA16 (m : MethodId) (a1 : Addr) (x : Addr) : entryFrame m #[(.ref a1), (.ref x)] 3 = mkF m 0 #[.val (.ref a1), .val (.ref x), .unset] [] := by first | (simp [entryFrame, mkF, argsToLocals, Value.category]; done) | (rfl)
set_option maxRecDepth 65536 in
set_option maxHeartbeats 40000000 in
theorem rmAA16 (l : Launch) (Z : State) (a0 : Array Value) (hw : ∀ d ∈ tables_1, d.before a0 Z = true) (a1 : Addr) (x : Addr) (h0 : Heap) (O : Ext Z.heap h0) (z : Int32) (O2 : Sta Z Z.heap "java/lang/String" "COMPACT_STRINGS" "Z" (.int z)) (hz : ¬ z = 0) (za : Z.heap.size ≤ a1) (t : Addr) (zt : Z.heap.size ≤ t) (ne1 : a1 ≠ t) (cs ds : List Int32) (hn : cs.length + ds.length ≤ 16) (A1 : SB Z h0 a1 t cs.length) (B : Buf Z h0 t (16 : Int32) 16 cs) (S : Lat Z h0 x ds) :
    MN l Z (⟨"java/lang/AbstractStringBuilder", "append", "(Ljava/lang/String;)Ljava/lang/AbstractStringBuilder;"⟩ : MethodName) jdk_68_method_22_code 3 (some (.object "java/lang/AbstractStringBuilder")) [] ({ frames := 4, cells := 0, slots := 0, locals := 110 } : Room) #[(.ref a1), (.ref x)] h0 [a1, t] (RV (fun w h => w = .ref a1 ∧ SB Z h a1 t (cs ++ ds).length ∧ Buf Z h t (16 : Int32) 16 (cs ++ ds))) := by
  refine MN.mk (a0 := a0) rfl rfl (plainFor_of_name pn2) O (fun m => ef_rmAA16 m a1 x) ?_
  intro pg ev s m below meth cd T hh X
  subst hh
  have hwl : ∀ d ∈ StrChars.Road.wordsLen, d.before a0 Z = true := fun d hd => hw d ((by decide +kernel : ∀ d ∈ StrChars.Road.wordsLen, d ∈ tables_1) d hd)
  have S0 := S.str
  have lt_a1 := A1.1.lt
  refine X.aloadN (pc' := 1) d10_0 rfl rfl rfl ?_
  refine X.nonY (pc' := 9) d10_1 (by decide) (by decide) ?_
  refine X.aloadN (pc' := 10) d10_9 rfl rfl rfl ?_
  refine X.lenStr (pc' := 13) (X.sVirtual (wd72 hw) (wd73 hw) (wd75 hw) (wd74 hw) (by decide) rfl pd12 S0.exa [] rfl rfl d10_10 (X.nf (wd75 hw) rfl)) hwl (wd5 hw) S0 O2 hz (leB rfl) (leB rfl) (leB rfl) (leB rfl) rfl ?_
  intro T X
  refine X.istoreN (pc' := 14) #[.val (.ref a1), .val (.ref x), .val (.int (Int32.ofNat ds.length))] d10_13 rfl rfl ?_
  refine X.aloadN (pc' := 15) d10_14 rfl rfl rfl ?_
  refine X.aloadN (pc' := 16) d10_15 rfl rfl rfl ?_
  refine X.getF (pc' := 19) (wd83 hw) Via.refl A1.2.2.2 d10_16 rfl ?_
  intro T X
  refine X.iloadN (pc' := 20) d10_19 rfl rfl ?_
  refine X.iadd (pc' := 21) d10_20 rfl ?_
  rw [← Int32.ofNat_add]
  refine X.callO (pc' := 24) (X.sPrivate (wd85 hw) (wd86 hw) (wd88 hw) (wd87 hw) (wd89 hw) (by decide) rfl pd4 A1.1 [(.int (Int32.ofNat (cs.length + ds.length)))] rfl rfl d10_21) (rmEns16 l Z a0 hw a1 _ _ X.old t _ cs A1 B (need16 hn)) (wd89 hw) (wd54 hw) (leB rfl) (leB rfl) (leB rfl) (leB rfl) rfl ?_
  intro T L X
  refine X.aloadN (pc' := 25) d10_24 rfl rfl rfl ?_
  refine X.aloadN (pc' := 26) d10_25 rfl rfl rfl ?_
  refine X.getF (pc' := 29) (wd83 hw) Via.refl A1.2.2.2 d10_26 rfl ?_
  intro T X
  refine X.aloadN (pc' := 30) d10_29 rfl rfl rfl ?_
  refine X.callU (pc' := 33) (X.sPrivate (wd90 hw) (wd91 hw) (wd93 hw) (wd92 hw) (wd94 hw) (by decide) rfl pd13 A1.1 [(.int (Int32.ofNat cs.length)), (.ref x)] rfl rfl d10_30) (rmPutS l Z a0 hw a1 _ x _ X.old z O2 hz t zt (16 : Int32) 16 cs ds rfl (by omega) (by decide) rfl A1 S B) (wd94 hw) (wd54 hw) (leB rfl) (leB rfl) (leB rfl) (leB rfl) (sfS safeE sf0) (allS zt all0) (allS (Or.inl (List.mem_of_getElem? (i := 1) rfl)) all0) rfl ?_
  intro T h L X K q
  have A3 := A1.keep K (ninS ne1 nin0)
  obtain ⟨E_a1, F_a1_value, F_a1_coder, F_a1_count⟩ := A3
  refine X.aloadN (pc' := 34) d10_33 rfl rfl rfl ?_
  refine X.dup (pc' := 35) d10_34 rfl rfl ?_
  refine X.getF (pc' := 38) (wd83 hw) Via.refl F_a1_count d10_35 rfl ?_
  intro T X
  refine X.iloadN (pc' := 39) d10_38 rfl rfl ?_
  refine X.iadd (pc' := 40) d10_39 rfl ?_
  rw [← Int32.ofNat_add, ← List.length_append]
  refine X.putF (pc' := 43) (wd83 hw) Via.refl F_a1_count E_a1 (Or.inl (wd84 hw)) (wd45 hw) .int (by decide) rfl rfl safeE za (Or.inl (List.mem_of_getElem? (i := 0) rfl)) d10_40 rfl ?_
  intro T h L X W
  replace E_a1 := E_a1.wr W
  replace F_a1_value := F_a1_value.other W (Or.inr (slot_ne (Or.inl (wd59 hw)) (Or.inl (wd84 hw)) (by decide) (t := (.array .byte)) (t' := .int) (by decide) (by decide)))
  replace F_a1_coder := F_a1_coder.other W (Or.inr (slot_ne (Or.inl (wd61 hw)) (Or.inl (wd84 hw)) (by decide) (t := .byte) (t' := .int) (by decide) (by decide)))
  replace q := q.other W (Ne.symm ne1)
  replace F_a1_count := F_a1_count.same W
  refine X.aloadN (pc' := 44) d10_43 rfl rfl rfl ?_
  exact X.retAN rfl rfl d10_44 (by decide) (by decide) ⟨_, rfl, rfl, ⟨E_a1, F_a1_value, F_a1_coder, F_a1_count⟩, q⟩
set_option maxRecDepth 65536 in
set_option maxHeartbeats 40000000 in
theorem ef_rmAp16 (m : MethodId) (a1 : Addr) (x : Addr) : entryFrame m #[(.ref a1), (.ref x)] 2 = mkF m 0 #[.val (.ref a1), .val (.ref x)] [] := by first | (simp [entryFrame, mkF, argsToLocals, Value.category]; done) | (rfl)
set_option maxRecDepth 65536 in
set_option maxHeartbeats 40000000 in
theorem rmAp16 (l : Launch) (Z : State) (a0 : Array Value) (hw : ∀ d ∈ tables_1, d.before a0 Z = true) (a1 : Addr) (x : Addr) (h0 : Heap) (O : Ext Z.heap h0) (z : Int32) (O2 : Sta Z Z.heap "java/lang/String" "COMPACT_STRINGS" "Z" (.int z)) (hz : ¬ z = 0) (za : Z.heap.size ≤ a1) (t : Addr) (zt : Z.heap.size ≤ t) (ne1 : a1 ≠ t) (cs ds : List Int32) (hn : cs.length + ds.length ≤ 16) (A1 : SB Z h0 a1 t cs.length) (B : Buf Z h0 t (16 : Int32) 16 cs) (S : Lat Z h0 x ds) :
    MN l Z (⟨"java/lang/StringBuilder", "append", "(Ljava/lang/String;)Ljava/lang/StringBuilder;"⟩ : MethodName) jdk_67_method_7_code 2 (some (.object "java/lang/StringBuilder")) [] ({ frames := 5, cells := 0, slots := 0, locals := 130 } : Room) #[(.ref a1), (.ref x)] h0 [a1, t] (RV (fun w h => w = .ref a1 ∧ SB Z h a1 t (cs ++ ds).length ∧ Buf Z h t (16 : Int32) 16 (cs ++ ds))) := by
  refine MN.mk (a0 := a0) rfl rfl (plainFor_of_name pn3) O (fun m => ef_rmAp16 m a1 x) ?_
  intro pg ev s m below meth cd T hh X
  subst hh
  refine X.aloadN (pc' := 1) d9_0 rfl rfl rfl ?_
  refine X.aloadN (pc' := 2) d9_1 rfl rfl rfl ?_
  refine X.callV (pc' := 5) (X.sSuper (by decide) (wd67 hw) (wd68 hw) (wd88 hw) rfl (wd69 hw) (wd71 hw) (by decide) rfl pd14 (Ins.self A1.1) [(.ref x)] rfl rfl d9_2) (rmAA16 l Z a0 hw a1 x _ X.old z O2 hz za t zt ne1 cs ds hn A1 B S) (wd71 hw) (wd54 hw) (leB rfl) (leB rfl) (leB rfl) (leB rfl) (sfS safeE (sfS safeE sf0)) (allS za (allS zt all0)) (allS (Or.inl (List.mem_of_getElem? (i := 0) rfl)) (allS (Or.inl (List.mem_of_getElem? (i := 1) rfl)) all0)) rfl ?_
  intro T h L v X K q
  obtain ⟨rfl, q⟩ := q
  refine X.pop (pc' := 6) d9_5 rfl rfl ?_
  refine X.aloadN (pc' := 7) d9_6 rfl rfl rfl ?_
  exact X.retAN rfl rfl d9_7 (by decide) (by decide) ⟨_, rfl, rfl, q⟩
set_option maxRecDepth 65536 in
set_option maxHeartbeats 40000000 in
theorem ef_rmAA34 (m : MethodId) (a1 : Addr) (x : Addr) : entryFrame m #[(.ref a1), (.ref x)] 3 = mkF m 0 #[.val (.ref a1), .val (.ref x), .unset] [] := by first | (simp [entryFrame, mkF, argsToLocals, Value.category]; done) | (rfl)
set_option maxRecDepth 65536 in
set_option maxHeartbeats 40000000 in
theorem rmAA34 (l : Launch) (Z : State) (a0 : Array Value) (hw : ∀ d ∈ tables_1, d.before a0 Z = true) (a1 : Addr) (x : Addr) (h0 : Heap) (O : Ext Z.heap h0) (z : Int32) (O2 : Sta Z Z.heap "java/lang/String" "COMPACT_STRINGS" "Z" (.int z)) (hz : ¬ z = 0) (za : Z.heap.size ≤ a1) (t : Addr) (zt : Z.heap.size ≤ t) (ne1 : a1 ≠ t) (cs ds : List Int32) (hn : cs.length + ds.length ≤ 34) (A1 : SB Z h0 a1 t cs.length) (B : Buf Z h0 t (34 : Int32) 34 cs) (S : Lat Z h0 x ds) :
    MN l Z (⟨"java/lang/AbstractStringBuilder", "append", "(Ljava/lang/String;)Ljava/lang/AbstractStringBuilder;"⟩ : MethodName) jdk_68_method_22_code 3 (some (.object "java/lang/AbstractStringBuilder")) [] ({ frames := 4, cells := 0, slots := 0, locals := 110 } : Room) #[(.ref a1), (.ref x)] h0 [a1, t] (RV (fun w h => w = .ref a1 ∧ SB Z h a1 t (cs ++ ds).length ∧ Buf Z h t (34 : Int32) 34 (cs ++ ds))) := by
  refine MN.mk (a0 := a0) rfl rfl (plainFor_of_name pn2) O (fun m => ef_rmAA34 m a1 x) ?_
  intro pg ev s m below meth cd T hh X
  subst hh
  have hwl : ∀ d ∈ StrChars.Road.wordsLen, d.before a0 Z = true := fun d hd => hw d ((by decide +kernel : ∀ d ∈ StrChars.Road.wordsLen, d ∈ tables_1) d hd)
  have S0 := S.str
  have lt_a1 := A1.1.lt
  refine X.aloadN (pc' := 1) d10_0 rfl rfl rfl ?_
  refine X.nonY (pc' := 9) d10_1 (by decide) (by decide) ?_
  refine X.aloadN (pc' := 10) d10_9 rfl rfl rfl ?_
  refine X.lenStr (pc' := 13) (X.sVirtual (wd72 hw) (wd73 hw) (wd75 hw) (wd74 hw) (by decide) rfl pd12 S0.exa [] rfl rfl d10_10 (X.nf (wd75 hw) rfl)) hwl (wd5 hw) S0 O2 hz (leB rfl) (leB rfl) (leB rfl) (leB rfl) rfl ?_
  intro T X
  refine X.istoreN (pc' := 14) #[.val (.ref a1), .val (.ref x), .val (.int (Int32.ofNat ds.length))] d10_13 rfl rfl ?_
  refine X.aloadN (pc' := 15) d10_14 rfl rfl rfl ?_
  refine X.aloadN (pc' := 16) d10_15 rfl rfl rfl ?_
  refine X.getF (pc' := 19) (wd83 hw) Via.refl A1.2.2.2 d10_16 rfl ?_
  intro T X
  refine X.iloadN (pc' := 20) d10_19 rfl rfl ?_
  refine X.iadd (pc' := 21) d10_20 rfl ?_
  rw [← Int32.ofNat_add]
  refine X.callO (pc' := 24) (X.sPrivate (wd85 hw) (wd86 hw) (wd88 hw) (wd87 hw) (wd89 hw) (by decide) rfl pd4 A1.1 [(.int (Int32.ofNat (cs.length + ds.length)))] rfl rfl d10_21) (rmEns34 l Z a0 hw a1 _ _ X.old t _ cs A1 B (need34 hn)) (wd89 hw) (wd54 hw) (leB rfl) (leB rfl) (leB rfl) (leB rfl) rfl ?_
  intro T L X
  refine X.aloadN (pc' := 25) d10_24 rfl rfl rfl ?_
  refine X.aloadN (pc' := 26) d10_25 rfl rfl rfl ?_
  refine X.getF (pc' := 29) (wd83 hw) Via.refl A1.2.2.2 d10_26 rfl ?_
  intro T X
  refine X.aloadN (pc' := 30) d10_29 rfl rfl rfl ?_
  refine X.callU (pc' := 33) (X.sPrivate (wd90 hw) (wd91 hw) (wd93 hw) (wd92 hw) (wd94 hw) (by decide) rfl pd13 A1.1 [(.int (Int32.ofNat cs.length)), (.ref x)] rfl rfl d10_30) (rmPutS l Z a0 hw a1 _ x _ X.old z O2 hz t zt (34 : Int32) 34 cs ds rfl (by omega) (by decide) rfl A1 S B) (wd94 hw) (wd54 hw) (leB rfl) (leB rfl) (leB rfl) (leB rfl) (sfS safeE sf0) (allS zt all0) (allS (Or.inl (List.mem_of_getElem? (i := 1) rfl)) all0) rfl ?_
  intro T h L X K q
  have A3 := A1.keep K (ninS ne1 nin0)
  obtain ⟨E_a1, F_a1_value, F_a1_coder, F_a1_count⟩ := A3
  refine X.aloadN (pc' := 34) d10_33 rfl rfl rfl ?_
  refine X.dup (pc' := 35) d10_34 rfl rfl ?_
  refine X.getF (pc' := 38) (wd83 hw) Via.refl F_a1_count d10_35 rfl ?_
  intro T X
  refine X.iloadN (pc' := 39) d10_38 rfl rfl ?_
  refine X.iadd (pc' := 40) d10_39 rfl ?_
  rw [← Int32.ofNat_add, ← List.length_append]
  refine X.putF (pc' := 43) (wd83 hw) Via.refl F_a1_count E_a1 (Or.inl (wd84 hw)) (wd45 hw) .int (by decide) rfl rfl safeE za (Or.inl (List.mem_of_getElem? (i := 0) rfl)) d10_40 rfl ?_
  intro T h L X W
  replace E_a1 := E_a1.wr W
  replace F_a1_value := F_a1_value.other W (Or.inr (slot_ne (Or.inl (wd59 hw)) (Or.inl (wd84 hw)) (by decide) (t := (.array .byte)) (t' := .int) (by decide) (by decide)))
  replace F_a1_coder := F_a1_coder.other W (Or.inr (slot_ne (Or.inl (wd61 hw)) (Or.inl (wd84 hw)) (by decide) (t := .byte) (t' := .int) (by decide) (by decide)))
  replace q := q.other W (Ne.symm ne1)
  replace F_a1_count := F_a1_count.same W
  refine X.aloadN (pc' := 44) d10_43 rfl rfl rfl ?_
  exact X.retAN rfl rfl d10_44 (by decide) (by decide) ⟨_, rfl, rfl, ⟨E_a1, F_a1_value, F_a1_coder, F_a1_count⟩, q⟩
set_option maxRecDepth 65536 in
set_option maxHeartbeats 40000000 in
theorem ef_rmAp34 (m : MethodId) (a1 : Addr) (x : Addr) : entryFrame m #[(.ref a1), (.ref x)] 2 = mkF m 0 #[.val (.ref a1), .val (.ref x)] [] := by first | (simp [entryFrame, mkF, argsToLocals, Value.category]; done) | (rfl)
set_option maxRecDepth 65536 in
set_option maxHeartbeats 40000000 in
theorem rmAp34 (l : Launch) (Z : State) (a0 : Array Value) (hw : ∀ d ∈ tables_1, d.before a0 Z = true) (a1 : Addr) (x : Addr) (h0 : Heap) (O : Ext Z.heap h0) (z : Int32) (O2 : Sta Z Z.heap "java/lang/String" "COMPACT_STRINGS" "Z" (.int z)) (hz : ¬ z = 0) (za : Z.heap.size ≤ a1) (t : Addr) (zt : Z.heap.size ≤ t) (ne1 : a1 ≠ t) (cs ds : List Int32) (hn : cs.length + ds.length ≤ 34) (A1 : SB Z h0 a1 t cs.length) (B : Buf Z h0 t (34 : Int32) 34 cs) (S : Lat Z h0 x ds) :
    MN l Z (⟨"java/lang/StringBuilder", "append", "(Ljava/lang/String;)Ljava/lang/StringBuilder;"⟩ : MethodName) jdk_67_method_7_code 2 (some (.object "java/lang/StringBuilder")) [] ({ frames := 5, cells := 0, slots := 0, locals := 130 } : Room) #[(.ref a1), (.ref x)] h0 [a1, t] (RV (fun w h => w = .ref a1 ∧ SB Z h a1 t (cs ++ ds).length ∧ Buf Z h t (34 : Int32) 34 (cs ++ ds))) := by
  refine MN.mk (a0 := a0) rfl rfl (plainFor_of_name pn3) O (fun m => ef_rmAp34 m a1 x) ?_
  intro pg ev s m below meth cd T hh X
  subst hh
  refine X.aloadN (pc' := 1) d9_0 rfl rfl rfl ?_
  refine X.aloadN (pc' := 2) d9_1 rfl rfl rfl ?_
  refine X.callV (pc' := 5) (X.sSuper (by decide) (wd67 hw) (wd68 hw) (wd88 hw) rfl (wd69 hw) (wd71 hw) (by decide) rfl pd14 (Ins.self A1.1) [(.ref x)] rfl rfl d9_2) (rmAA34 l Z a0 hw a1 x _ X.old z O2 hz za t zt ne1 cs ds hn A1 B S) (wd71 hw) (wd54 hw) (leB rfl) (leB rfl) (leB rfl) (leB rfl) (sfS safeE (sfS safeE sf0)) (allS za (allS zt all0)) (allS (Or.inl (List.mem_of_getElem? (i := 0) rfl)) (allS (Or.inl (List.mem_of_getElem? (i := 1) rfl)) all0)) rfl ?_
  intro T h L v X K q
  obtain ⟨rfl, q⟩ := q
  refine X.pop (pc' := 6) d9_5 rfl rfl ?_
  refine X.aloadN (pc' := 7) d9_6 rfl rfl rfl ?_
  exact X.retAN rfl rfl d9_7 (by decide) (by decide) ⟨_, rfl, rfl, q⟩
set_option maxRecDepth 65536 in
set_option maxHeartbeats 40000000 in
theorem ef_rmAAG (m : MethodId) (a1 : Addr) (x : Addr) : entryFrame m #[(.ref a1), (.ref x)] 3 = mkF m 0 #[.val (.ref a1), .val (.ref x), .unset] [] := by first | (simp [entryFrame, mkF, argsToLocals, Value.category]; done) | (rfl)
set_option maxRecDepth 65536 in
set_option maxHeartbeats 40000000 in
theorem rmAAG (l : Launch) (Z : State) (a0 : Array Value) (hw : ∀ d ∈ tables_1, d.before a0 Z = true) (a1 : Addr) (x : Addr) (h0 : Heap) (O : Ext Z.heap h0) (z : Int32) (O2 : Sta Z Z.heap "java/lang/String" "COMPACT_STRINGS" "Z" (.int z)) (hz : ¬ z = 0) (za : Z.heap.size ≤ a1) (t : Addr) (cs ds : List Int32) (hc : cs.length ≤ 16) (hn : 16 < cs.length + ds.length ∧ cs.length + ds.length ≤ 24) (A1 : SB Z h0 a1 t cs.length) (B : Buf Z h0 t 16 16 cs) (S : Lat Z h0 x ds) (hS : ∀ h', Keep h0 h' [a1] → Lat Z h' x ds) :
    MN l Z (⟨"java/lang/AbstractStringBuilder", "append", "(Ljava/lang/String;)Ljava/lang/AbstractStringBuilder;"⟩ : MethodName) jdk_68_method_22_code 3 (some (.object "java/lang/AbstractStringBuilder")) [] ({ frames := 4, cells := 1, slots := 34, locals := 110 } : Room) #[(.ref a1), (.ref x)] h0 [a1] (RV (fun w h => w = .ref a1 ∧ ∃ r, h0.size ≤ r ∧ SB Z h a1 r (cs ++ ds).length ∧ Buf Z h r 34 34 (cs ++ ds))) := by
  refine MN.mk (a0 := a0) rfl rfl (plainFor_of_name pn2) O (fun m => ef_rmAAG m a1 x) ?_
  intro pg ev s m below meth cd T hh X
  subst hh
  have hwl : ∀ d ∈ StrChars.Road.wordsLen, d.before a0 Z = true := fun d hd => hw d ((by decide +kernel : ∀ d ∈ StrChars.Road.wordsLen, d ∈ tables_1) d hd)
  have S0 := S.str
  have lt_a1 := A1.1.lt
  refine X.aloadN (pc' := 1) d10_0 rfl rfl rfl ?_
  refine X.nonY (pc' := 9) d10_1 (by decide) (by decide) ?_
  refine X.aloadN (pc' := 10) d10_9 rfl rfl rfl ?_
  refine X.lenStr (pc' := 13) (X.sVirtual (wd72 hw) (wd73 hw) (wd75 hw) (wd74 hw) (by decide) rfl pd12 S0.exa [] rfl rfl d10_10 (X.nf (wd75 hw) rfl)) hwl (wd5 hw) S0 O2 hz (leB rfl) (leB rfl) (leB rfl) (leB rfl) rfl ?_
  intro T X
  refine X.istoreN (pc' := 14) #[.val (.ref a1), .val (.ref x), .val (.int (Int32.ofNat ds.length))] d10_13 rfl rfl ?_
  refine X.aloadN (pc' := 15) d10_14 rfl rfl rfl ?_
  refine X.aloadN (pc' := 16) d10_15 rfl rfl rfl ?_
  refine X.getF (pc' := 19) (wd83 hw) Via.refl A1.2.2.2 d10_16 rfl ?_
  intro T X
  refine X.iloadN (pc' := 20) d10_19 rfl rfl ?_
  refine X.iadd (pc' := 21) d10_20 rfl ?_
  rw [← Int32.ofNat_add]
  refine X.callU (pc' := 24) (X.sPrivate (wd85 hw) (wd86 hw) (wd88 hw) (wd87 hw) (wd89 hw) (by decide) rfl pd4 A1.1 [(.int (Int32.ofNat (cs.length + ds.length)))] rfl rfl d10_21) (rmEnsG l Z a0 hw a1 _ _ X.old za t _ cs hc A1 B (needG hn)) (wd89 hw) (wd54 hw) (leB rfl) (leB rfl) (leB rfl) (leB rfl) (sfS safeE sf0) (allS za all0) (allS (Or.inl (List.mem_of_getElem? (i := 0) rfl)) all0) rfl ?_
  intro T h L X K q
  obtain ⟨r, le_r, A2, B2⟩ := q
  have ne_r : r ≠ a1 := Ne.symm (Nat.ne_of_lt (Nat.lt_of_lt_of_le lt_a1 le_r))
  replace S := hS h K
  have zr : Z.heap.size ≤ r := Nat.le_trans O.1 le_r
  refine X.aloadN (pc' := 25) d10_24 rfl rfl rfl ?_
  refine X.aloadN (pc' := 26) d10_25 rfl rfl rfl ?_
  refine X.getF (pc' := 29) (wd83 hw) Via.refl A2.2.2.2 d10_26 rfl ?_
  intro T X
  refine X.aloadN (pc' := 30) d10_29 rfl rfl rfl ?_
  refine X.callU (pc' := 33) (X.sPrivate (wd90 hw) (wd91 hw) (wd93 hw) (wd92 hw) (wd94 hw) (by decide) rfl pd13 A2.1 [(.int (Int32.ofNat cs.length)), (.ref x)] rfl rfl d10_30) (rmPutS l Z a0 hw a1 _ x _ X.old z O2 hz r zr (34 : Int32) 34 cs ds rfl (by omega) (by decide) rfl A2 S B2) (wd94 hw) (wd54 hw) (leB rfl) (leB rfl) (leB rfl) (leB rfl) (sfS safeE sf0) (allS zr all0) (allS (Or.inr le_r) all0) rfl ?_
  intro T h L X K q
  have A3 := A2.keep K (ninS (Ne.symm ne_r) nin0)
  obtain ⟨E_a1, F_a1_value, F_a1_coder, F_a1_count⟩ := A3
  refine X.aloadN (pc' := 34) d10_33 rfl rfl rfl ?_
  refine X.dup (pc' := 35) d10_34 rfl rfl ?_
  refine X.getF (pc' := 38) (wd83 hw) Via.refl F_a1_count d10_35 rfl ?_
  intro T X
  refine X.iloadN (pc' := 39) d10_38 rfl rfl ?_
  refine X.iadd (pc' := 40) d10_39 rfl ?_
  rw [← Int32.ofNat_add, ← List.length_append]
  refine X.putF (pc' := 43) (wd83 hw) Via.refl F_a1_count E_a1 (Or.inl (wd84 hw)) (wd45 hw) .int (by decide) rfl rfl safeE za (Or.inl (List.mem_of_getElem? (i := 0) rfl)) d10_40 rfl ?_
  intro T h L X W
  replace E_a1 := E_a1.wr W
  replace F_a1_value := F_a1_value.other W (Or.inr (slot_ne (Or.inl (wd59 hw)) (Or.inl (wd84 hw)) (by decide) (t := (.array .byte)) (t' := .int) (by decide) (by decide)))
  replace F_a1_coder := F_a1_coder.other W (Or.inr (slot_ne (Or.inl (wd61 hw)) (Or.inl (wd84 hw)) (by decide) (t := .byte) (t' := .int) (by decide) (by decide)))
  replace q := q.other W ne_r
  replace F_a1_count := F_a1_count.same W
  refine X.aloadN (pc' := 44) d10_43 rfl rfl rfl ?_
  exact X.retAN rfl rfl d10_44 (by decide) (by decide) ⟨_, rfl, rfl, r, le_r, ⟨E_a1, F_a1_value, F_a1_coder, F_a1_count⟩, q⟩
set_option maxRecDepth 65536 in
set_option maxHeartbeats 40000000 in
theorem ef_rmApG (m : MethodId) (a1 : Addr) (x : Addr) : entryFrame m #[(.ref a1), (.ref x)] 2 = mkF m 0 #[.val (.ref a1), .val (.ref x)] [] := by first | (simp [entryFrame, mkF, argsToLocals, Value.category]; done) | (rfl)
set_option maxRecDepth 65536 in
set_option maxHeartbeats 40000000 in
theorem rmApG (l : Launch) (Z : State) (a0 : Array Value) (hw : ∀ d ∈ tables_1, d.before a0 Z = true) (a1 : Addr) (x : Addr) (h0 : Heap) (O : Ext Z.heap h0) (z : Int32) (O2 : Sta Z Z.heap "java/lang/String" "COMPACT_STRINGS" "Z" (.int z)) (hz : ¬ z = 0) (za : Z.heap.size ≤ a1) (t : Addr) (cs ds : List Int32) (hc : cs.length ≤ 16) (hn : 16 < cs.length + ds.length ∧ cs.length + ds.length ≤ 24) (A1 : SB Z h0 a1 t cs.length) (B : Buf Z h0 t 16 16 cs) (S : Lat Z h0 x ds) (hS : ∀ h', Keep h0 h' [a1] → Lat Z h' x ds) :
    MN l Z (⟨"java/lang/StringBuilder", "append", "(Ljava/lang/String;)Ljava/lang/StringBuilder;"⟩ : MethodName) jdk_67_method_7_code 2 (some (.object "java/lang/StringBuilder")) [] ({ frames := 5, cells := 1, slots := 34, locals := 130 } : Room) #[(.ref a1), (.ref x)] h0 [a1] (RV (fun w h => w = .ref a1 ∧ ∃ r, h0.size ≤ r ∧ SB Z h a1 r (cs ++ ds).length ∧ Buf Z h r 34 34 (cs ++ ds))) := by
  refine MN.mk (a0 := a0) rfl rfl (plainFor_of_name pn3) O (fun m => ef_rmApG m a1 x) ?_
  intro pg ev s m below meth cd T hh X
  subst hh
  refine X.aloadN (pc' := 1) d9_0 rfl rfl rfl ?_
  refine X.aloadN (pc' := 2) d9_1 rfl rfl rfl ?_
  refine X.callV (pc' := 5) (X.sSuper (by decide) (wd67 hw) (wd68 hw) (wd88 hw) rfl (wd69 hw) (wd71 hw) (by decide) rfl pd14 (Ins.self A1.1) [(.ref x)] rfl rfl d9_2) (rmAAG l Z a0 hw a1 x _ X.old z O2 hz za t cs ds hc hn A1 B S hS) (wd71 hw) (wd54 hw) (leB rfl) (leB rfl) (leB rfl) (leB rfl) (sfS safeE sf0) (allS za all0) (allS (Or.inl (List.mem_of_getElem? (i := 0) rfl)) all0) rfl ?_
  intro T h L v X K q
  obtain ⟨rfl, q⟩ := q
  refine X.pop (pc' := 6) d9_5 rfl rfl ?_
  refine X.aloadN (pc' := 7) d9_6 rfl rfl rfl ?_
  exact X.retAN rfl rfl d9_7 (by decide) (by decide) ⟨_, rfl, rfl, q⟩
set_option maxRecDepth 65536 in
set_option maxHeartbeats 40000000 in
theorem ef_rmChkL (m : MethodId) (k : Int32) : entryFrame m #[(.int (0 : Int32)), (.int k)] 2 = mkF m 0 #[.val (.int (0 : Int32)), .val (.int k)] [] := by first | (simp [entryFrame, mkF, argsToLocals, Value.category]; done) | (rfl)
set_option maxRecDepth 65536 in
set_option maxHeartbeats 40000000 in
theorem rmChkL (l : Launch) (Z : State) (a0 : Array Value) (hw : ∀ d ∈ tables_1, d.before a0 Z = true) (k : Int32) (h0 : Heap) (O : Ext Z.heap h0) (hk : ¬ k < 0) :
    MN l Z (⟨"java/util/Arrays", "checkLength", "(II)V"⟩ : MethodName) jdk_65_method_131_code 2 none [] ({ frames := 0, cells := 0, slots := 0, locals := 0 } : Room) #[(.int (0 : Int32)), (.int k)] h0 [] (RO h0) := by
  refine MN.mk (a0 := a0) rfl rfl (plainFor_of_name pn7) O (fun m => ef_rmChkL m k) ?_
  intro pg ev s m below meth cd T hh X
  subst hh
  refine X.iloadN (pc' := 1) d31_0 rfl rfl ?_
  refine X.iloadN (pc' := 2) d31_1 rfl rfl ?_
  refine X.icY (pc' := 37) d31_2 ((flt hk).2.1) (by decide) (by decide) ?_
  exact X.retUN d31_37 (by decide) (by decide) ⟨rfl, rfl⟩
set_option maxRecDepth 65536 in
set_option maxHeartbeats 40000000 in
theorem ef_rmCRB (m : MethodId) (t : Addr) (k : Int32) : entryFrame m #[(.ref t), (.int (0 : Int32)), (.int k)] 5 = mkF m 0 #[.val (.ref t), .val (.int (0 : Int32)), .val (.int k), .unset, .unset] [] := by first | (simp [entryFrame, mkF, argsToLocals, Value.category]; done) | (rfl)
set_option maxRecDepth 65536 in
set_option maxHeartbeats 40000000 in
theorem rmCRB (l : Launch) (Z : State) (a0 : Array Value) (hw : ∀ d ∈ tables_1, d.before a0 Z = true) (t : Addr) (k : Int32) (h0 : Heap) (O : Ext Z.heap h0) (cs : List Int32) (hc : cs.length ≤ 24) (hk : k = Int32.ofNat cs.length) (B : Buf Z h0 t 34 34 cs) :
    MN l Z (⟨"java/util/Arrays", "copyOfRangeByte", "([BII)[B"⟩ : MethodName) jdk_65_method_133_code 5 (some (.array .byte)) [] ({ frames := 1, cells := 1, slots := 24, locals := 40 } : Room) #[(.ref t), (.int (0 : Int32)), (.int k)] h0 [] (RV (fun w h => ∃ r kr, w = .ref r ∧ h0.size ≤ r ∧ Arv Z h r kr .byte k (cs.map fun c => Value.int (c.toInt8.toInt32)) (.int 0))) := by
  refine MN.mk (a0 := a0) rfl rfl (plainFor_of_name pn7) O (fun m => ef_rmCRB m t k) ?_
  intro pg ev s m below meth cd T hh X
  subst hh
  have lt_t := B.lt
  obtain ⟨kt, vs, Vt, hvs, hcn⟩ := B
  have h0k : ¬ k < 0 := by rw [hk]; exact ofn0 (by omega)
  have hK : k.toNatClampNeg = cs.length := by rw [hk]; exact ofnC (by omega)
  refine X.iloadN (pc' := 1) d30_0 rfl rfl ?_
  refine X.iloadN (pc' := 2) d30_1 rfl rfl ?_
  refine X.callO (pc' := 5) (X.sStatic (wd171 hw) (wd172 hw) (wd129 hw) (wd173 hw) (by decide) rfl pd15 [(.int (0 : Int32)), (.int k)] rfl rfl d30_2) (rmChkL l Z a0 hw k _ X.old h0k) (wd173 hw) (wd129 hw) (leB rfl) (leB rfl) (leB rfl) (leB rfl) rfl ?_
  intro T L X
  refine X.iloadN (pc' := 6) d30_5 rfl rfl ?_
  refine X.iloadN (pc' := 7) d30_6 rfl rfl ?_
  refine X.isub (pc' := 8) d30_7 rfl ?_
  rw [sub0]
  refine X.istoreN (pc' := 9) #[.val (.ref t), .val (.int (0 : Int32)), .val (.int k), .val (.int k), .unset] d30_8 rfl rfl ?_
  refine X.iloadN (pc' := 10) d30_9 rfl rfl ?_
  refine X.newP (pc' := 12) (aty := .byte) (wd19 hw) d30_10 h0k 24 (by rw [hK]; exact hc) (by decide) (by decide) (by decide) rfl ?_
  intro T h r ka_r g_r Ex lt_r V_r X1
  have z_r : Z.heap.size ≤ r := by rw [g_r]; exact X.old.1
  have s_r : s.heap.size ≤ r := by rw [g_r]; exact X.kp.1
  have ne_t_r : t ≠ r := Nat.ne_of_lt (by rw [g_r]; exact lt_t)
  replace lt_t := Nat.lt_of_lt_of_le lt_t Ex.1
  replace Vt := Vt.ext Ex
  replace X := X1
  have Vr := Arv.pad V_r (pad_rep [] (.int 0) cs.length)
  refine X.astore (pc' := 14) #[.val (.ref t), .val (.int (0 : Int32)), .val (.int k), .val (.int k), .val (.ref r)] d30_12 rfl rfl rfl ?_
  refine X.aloadN (pc' := 15) d30_14 rfl rfl rfl ?_
  refine X.iloadN (pc' := 16) d30_15 rfl rfl ?_
  refine X.aload (pc' := 18) d30_16 rfl rfl rfl ?_
  refine X.iconst (pc' := 19) (0 : Int32) d30_18 rfl rfl ?_
  refine X.aloadN (pc' := 20) d30_19 rfl rfl rfl ?_
  refine X.alen (pc' := 21) Vt d30_20 rfl ?_
  refine X.iloadN (pc' := 22) d30_21 rfl rfl ?_
  refine X.isub (pc' := 23) d30_22 rfl ?_
  rw [sub0]
  refine X.iloadN (pc' := 24) d30_23 rfl rfl ?_
  refine X.callP (pc' := 27) (X.sStatic (wd131 hw) (wd132 hw) (wd123 hw) (wd133 hw) (by decide) rfl pd5 [(.int (34 : Int32)), (.int k)] rfl rfl d30_24) (rmMin34 l Z a0 hw k _ X.old (by rw [hk]; exact (lt34 hc).1)) (wd133 hw) (wd123 hw) (leB rfl) (leB rfl) (leB rfl) (leB rfl) rfl ?_
  intro T L v X q
  subst q
  refine X.acopy (pc' := 30) (wd134 hw) (wd109 hw) (wd107 hw) (wd108 hw) Vt Vr (Or.inl ⟨rfl, rfl⟩) (by decide) (by decide) h0k (by rw [hK]; exact Nat.le_trans (Nat.le_of_eq (Nat.zero_add _)) (Nat.le_trans hc (by decide))) (by rw [hK]; exact Nat.le_of_eq (Nat.zero_add _)) rfl (by rw [hK]; simp) safeE z_r (Or.inr s_r) rfl d30_27 (leB rfl) (by first | exact leB rfl | decide +kernel) rfl ?_
  intro T h L X K V1
  refine X.aload (pc' := 32) d30_30 rfl rfl rfl ?_
  rw [hK] at V1
  rw [show (0 : Int32).toNatClampNeg = 0 from rfl, cut_ok (vs := vs) (cs := cs) rfl (by simp) hcn] at V1
  exact X.retAN rfl rfl d30_32 (by decide) (by decide) ⟨_, rfl, r, ka_r, rfl, s_r, V1⟩
set_option maxRecDepth 65536 in
set_option maxHeartbeats 40000000 in
theorem ef_rmCR (m : MethodId) (t : Addr) (k : Int32) : entryFrame m #[(.ref t), (.int (0 : Int32)), (.int k)] 3 = mkF m 0 #[.val (.ref t), .val (.int (0 : Int32)), .val (.int k)] [] := by first | (simp [entryFrame, mkF, argsToLocals, Value.category]; done) | (rfl)
set_option maxRecDepth 65536 in
set_option maxHeartbeats 40000000 in
theorem rmCR (l : Launch) (Z : State) (a0 : Array Value) (hw : ∀ d ∈ tables_1, d.before a0 Z = true) (t : Addr) (k : Int32) (h0 : Heap) (O : Ext Z.heap h0) (cs : List Int32) (hc : cs.length ≤ 24) (hk : k = Int32.ofNat cs.length) (B : Buf Z h0 t 34 34 cs) :
    MN l Z (⟨"java/util/Arrays", "copyOfRange", "([BII)[B"⟩ : MethodName) jdk_65_method_132_code 3 (some (.array .byte)) [] ({ frames := 2, cells := 1, slots := 24, locals := 60 } : Room) #[(.ref t), (.int (0 : Int32)), (.int k)] h0 [] (RV (fun w h => ∃ r kr, w = .ref r ∧ h0.size ≤ r ∧ Arv Z h r kr .byte k (cs.map fun c => Value.int (c.toInt8.toInt32)) (.int 0))) := by
  refine MN.mk (a0 := a0) rfl rfl (plainFor_of_name pn7) O (fun m => ef_rmCR m t k) ?_
  intro pg ev s m below meth cd T hh X
  subst hh
  refine X.iloadN (pc' := 1) d29_0 rfl rfl ?_
  refine X.ifN (pc' := 4) d29_1 (by decide) rfl ?_
  refine X.iloadN (pc' := 5) d29_4 rfl rfl ?_
  refine X.aloadN (pc' := 6) d29_5 rfl rfl rfl ?_
  have B0 := B
  obtain ⟨kt, vs, Vt, hvs, hcn⟩ := B0
  refine X.alen (pc' := 7) Vt d29_6 rfl ?_
  refine X.icN (pc' := 10) d29_7 ((feq (by rw [hk]; exact (lt34 hc).2)).1) rfl ?_
  refine X.aloadN (pc' := 11) d29_10 rfl rfl rfl ?_
  refine X.iloadN (pc' := 12) d29_11 rfl rfl ?_
  refine X.iloadN (pc' := 13) d29_12 rfl rfl ?_
  refine X.callV (pc' := 16) (X.sStatic (wd168 hw) (wd169 hw) (wd129 hw) (wd170 hw) (by decide) rfl pd16 [(.ref t), (.int (0 : Int32)), (.int k)] rfl rfl d29_13) (rmCRB l Z a0 hw t k _ X.old cs hc hk B) (wd170 hw) (wd129 hw) (leB rfl) (leB rfl) (leB rfl) (leB rfl) sf0 all0 all0 rfl ?_
  intro T h L v X K q
  obtain ⟨r, kr, rfl, le_r, V_r⟩ := q
  exact X.retAN rfl rfl d29_16 (by decide) (by decide) ⟨_, rfl, r, kr, rfl, le_r, V_r⟩
set_option maxRecDepth 65536 in
set_option maxHeartbeats 40000000 in
theorem ef_rmGV (m : MethodId) (a1 : Addr) : entryFrame m #[(.ref a1)] 1 = mkF m 0 #[.val (.ref a1)] [] := by first | (simp [entryFrame, mkF, argsToLocals, Value.category]; done) | (rfl)
set_option maxRecDepth 65536 in
set_option maxHeartbeats 40000000 in
theorem rmGV (l : Launch) (Z : State) (a0 : Array Value) (hw : ∀ d ∈ tables_1, d.before a0 Z = true) (a1 : Addr) (h0 : Heap) (O : Ext Z.heap h0) (t : Addr) (k : Nat) (A1 : SB Z h0 a1 t k) :
    MN l Z (⟨"java/lang/AbstractStringBuilder", "getValue", "()[B"⟩ : MethodName) jdk_68_method_64_code 1 (some (.array .byte)) [] ({ frames := 0, cells := 0, slots := 0, locals := 0 } : Room) #[(.ref a1)] h0 [] (RP h0 (fun w => w = .ref t)) := by
  refine MN.mk (a0 := a0) rfl rfl (plainFor_of_name pn2) O (fun m => ef_rmGV m a1) ?_
  intro pg ev s m below meth cd T hh X
  subst hh
  refine X.aloadN (pc' := 1) d25_0 rfl rfl rfl ?_
  refine X.getF (pc' := 4) (wd58 hw) Via.refl A1.2.1 d25_1 rfl ?_
  intro T X
  exact X.retAN rfl rfl d25_4 (by decide) (by decide) ⟨_, rfl, rfl, rfl⟩
set_option maxRecDepth 65536 in
set_option maxHeartbeats 40000000 in
theorem ef_rmAL0 (m : MethodId) (a1 : Addr) : entryFrame m #[(.ref a1)] 1 = mkF m 0 #[.val (.ref a1)] [] := by first | (simp [entryFrame, mkF, argsToLocals, Value.category]; done) | (rfl)
set_option maxRecDepth 65536 in
set_option maxHeartbeats 40000000 in
theorem rmAL0 (l : Launch) (Z : State) (a0 : Array Value) (hw : ∀ d ∈ tables_1, d.before a0 Z = true) (a1 : Addr) (h0 : Heap) (O : Ext Z.heap h0) (t : Addr) (k : Nat) (A1 : SB Z h0 a1 t k) :
    MN l Z (⟨"java/lang/AbstractStringBuilder", "length", "()I"⟩ : MethodName) jdk_68_method_6_code 1 (some .int) [] ({ frames := 0, cells := 0, slots := 0, locals := 0 } : Room) #[(.ref a1)] h0 [] (RP h0 (fun w => w = .int (Int32.ofNat k))) := by
  refine MN.mk (a0 := a0) rfl rfl (plainFor_of_name pn2) O (fun m => ef_rmAL0 m a1) ?_
  intro pg ev s m below meth cd T hh X
  subst hh
  refine X.aloadN (pc' := 1) d27_0 rfl rfl rfl ?_
  refine X.getF (pc' := 4) (wd83 hw) Via.refl A1.2.2.2 d27_1 rfl ?_
  intro T X
  exact X.retIN (by simp) rfl d27_4 (by decide) (by decide) ⟨_, rfl, rfl, rfl⟩
set_option maxRecDepth 65536 in
set_option maxHeartbeats 40000000 in
theorem ef_rmSL (m : MethodId) (a1 : Addr) : entryFrame m #[(.ref a1)] 1 = mkF m 0 #[.val (.ref a1)] [] := by first | (simp [entryFrame, mkF, argsToLocals, Value.category]; done) | (rfl)
set_option maxRecDepth 65536 in
set_option maxHeartbeats 40000000 in
theorem rmSL (l : Launch) (Z : State) (a0 : Array Value) (hw : ∀ d ∈ tables_1, d.before a0 Z = true) (a1 : Addr) (h0 : Heap) (O : Ext Z.heap h0) (t : Addr) (k : Nat) (A1 : SB Z h0 a1 t k) :
    MN l Z (⟨"java/lang/StringBuilder", "length", "()I"⟩ : MethodName) jdk_67_method_93_code 1 (some .int) [] ({ frames := 1, cells := 0, slots := 0, locals := 20 } : Room) #[(.ref a1)] h0 [] (RP h0 (fun w => w = .int (Int32.ofNat k))) := by
  refine MN.mk (a0 := a0) rfl rfl (plainFor_of_name pn3) O (fun m => ef_rmSL m a1) ?_
  intro pg ev s m below meth cd T hh X
  subst hh
  refine X.aloadN (pc' := 1) d26_0 rfl rfl rfl ?_
  refine X.callP (pc' := 4) (X.sSuper (by decide) (wd158 hw) (wd154 hw) (wd88 hw) rfl (wd69 hw) (wd159 hw) (by decide) rfl pd12 (Ins.self A1.1) [] rfl rfl d26_1) (rmAL0 l Z a0 hw a1 _ X.old t k A1) (wd159 hw) (wd54 hw) (leB rfl) (leB rfl) (leB rfl) (leB rfl) rfl ?_
  intro T L v X q
  subst q
  exact X.retIN (by simp) rfl d26_4 (by decide) (by decide) ⟨_, rfl, rfl, rfl⟩
set_option maxRecDepth 65536 in
set_option maxHeartbeats 40000000 in
theorem ef_rmIL (m : MethodId) (a1 : Addr) : entryFrame m #[(.ref a1)] 1 = mkF m 0 #[.val (.ref a1)] [] := by first | (simp [entryFrame, mkF, argsToLocals, Value.category]; done) | (rfl)
set_option maxRecDepth 65536 in
set_option maxHeartbeats 40000000 in
theorem rmIL (l : Launch) (Z : State) (a0 : Array Value) (hw : ∀ d ∈ tables_1, d.before a0 Z = true) (a1 : Addr) (h0 : Heap) (O : Ext Z.heap h0) (z : Int32) (O2 : Sta Z Z.heap "java/lang/String" "COMPACT_STRINGS" "Z" (.int z)) (hz : ¬ z = 0) (t : Addr) (k : Nat) (A1 : SB Z h0 a1 t k) :
    MN l Z (⟨"java/lang/AbstractStringBuilder", "isLatin1", "()Z"⟩ : MethodName) jdk_68_method_68_code 1 (some .boolean) [] ({ frames := 0, cells := 0, slots := 0, locals := 0 } : Room) #[(.ref a1)] h0 [] (RP h0 (fun w => w = .int 1)) := by
  refine MN.mk (a0 := a0) rfl rfl (plainFor_of_name pn2) O (fun m => ef_rmIL m a1) ?_
  intro pg ev s m below meth cd T hh X
  subst hh
  refine X.getS (pc' := 3) (wd57 hw) Via.refl O2 d28_0 rfl ?_
  intro T X
  refine X.ifN (pc' := 6) d28_3 ((if0 _ _).trans (feq hz).1) rfl ?_
  refine X.aloadN (pc' := 7) d28_6 rfl rfl rfl ?_
  refine X.getF (pc' := 10) (wd60 hw) Via.refl A1.2.2.1 d28_7 rfl ?_
  intro T X
  refine X.ifN (pc' := 13) d28_10 (by decide) rfl ?_
  refine X.iconst (pc' := 14) (1 : Int32) d28_13 rfl rfl ?_
  refine X.goto (pc' := 18) d28_14 (by decide) (by decide) ?_
  exact X.retIN (by simp) rfl d28_18 (by decide) (by decide) ⟨_, rfl, rfl, rfl⟩
set_option maxRecDepth 65536 in
set_option maxHeartbeats 40000000 in
theorem ef_rmSA (m : MethodId) (x : Addr) (a1 : Addr) : entryFrame m #[(.ref x), (.ref a1), .null] 5 = mkF m 0 #[.val (.ref x), .val (.ref a1), .val .null, .unset, .unset] [] := by first | (simp [entryFrame, mkF, argsToLocals, Value.category]; done) | (rfl)
set_option maxRecDepth 65536 in
set_option maxHeartbeats 40000000 in
theorem rmSA (l : Launch) (Z : State) (a0 : Array Value) (hw : ∀ d ∈ tables_1, d.before a0 Z = true) (x : Addr) (a1 : Addr) (h0 : Heap) (O : Ext Z.heap h0) (z : Int32) (O2 : Sta Z Z.heap "java/lang/String" "COMPACT_STRINGS" "Z" (.int z)) (hz : ¬ z = 0) (zx : Z.heap.size ≤ x) (E_x : Exa Z h0 x "java/lang/String") (F_x_value : Fld Z h0 x "java/lang/String" "value" "[B" .null) (F_x_coder : Fld Z h0 x "java/lang/String" "coder" "B" (.int 0)) (t : Addr) (cs : List Int32) (hc : cs.length ≤ 24) (hlat : ∀ c ∈ cs, ¬ c < 0 ∧ ¬ (255 : Int32) < c) (ne1 : a1 ≠ x) (net : t ≠ x) (A1 : SB Z h0 a1 t cs.length) (B : Buf Z h0 t 34 34 cs) :
    MN l Z (⟨"java/lang/String", "<init>", "(Ljava/lang/AbstractStringBuilder;Ljava/lang/Void;)V"⟩ : MethodName) jdk_42_method_150_code 5 none [] ({ frames := 3, cells := 1, slots := 24, locals := 90 } : Room) #[(.ref x), (.ref a1), .null] h0 [x] (RU (fun h => Str Z h x cs)) := by
  refine MN.mk (a0 := a0) rfl rfl (plainFor_of_name pn0) O (fun m => ef_rmSA m x a1) ?_
  intro pg ev s m below meth cd T hh X
  subst hh
  have lt_x := E_x.lt
  refine X.aloadN (pc' := 1) d24_0 rfl rfl rfl ?_
  refine X.initO (pc' := 4) (wd15 hw) (wd16 hw) (wd17 hw) rfl d24_1 (leB rfl) (leB rfl) rfl ?_
  intro T X
  refine X.aloadN (pc' := 5) d24_4 rfl rfl rfl ?_
  refine X.callP (pc' := 8) (X.sVirtual (wd147 hw) (wd148 hw) (wd150 hw) (wd149 hw) (by decide) rfl pd17 A1.1 [] rfl rfl d24_5 (X.nf (wd88 hw) rfl)) (rmGV l Z a0 hw a1 _ X.old t _ A1) (wd151 hw) (wd54 hw) (leB rfl) (leB rfl) (leB rfl) (leB rfl) rfl ?_
  intro T L v X q
  subst q
  refine X.astoreN (pc' := 9) #[.val (.ref x), .val (.ref a1), .val .null, .val (.ref t), .unset] d24_8 rfl rfl rfl ?_
  refine X.aloadN (pc' := 10) d24_9 rfl rfl rfl ?_
  refine X.callP (pc' := 13) (X.sVirtual (wd152 hw) (wd153 hw) (wd155 hw) (wd156 hw) (by decide) rfl pd12 A1.1 [] rfl rfl d24_10 (X.nf (wd88 hw) rfl)) (rmSL l Z a0 hw a1 _ X.old t _ A1) (wd157 hw) (wd46 hw) (leB rfl) (leB rfl) (leB rfl) (leB rfl) rfl ?_
  intro T L v X q
  subst q
  refine X.istore (pc' := 15) #[.val (.ref x), .val (.ref a1), .val .null, .val (.ref t), .val (.int (Int32.ofNat cs.length))] d24_13 rfl rfl ?_
  refine X.aloadN (pc' := 16) d24_15 rfl rfl rfl ?_
  refine X.callP (pc' := 19) (X.sVirtual (wd160 hw) (wd161 hw) (wd163 hw) (wd162 hw) (by decide) rfl pd18 A1.1 [] rfl rfl d24_16 (X.nf (wd88 hw) rfl)) (rmIL l Z a0 hw a1 _ X.old z O2 hz t _ A1) (wd164 hw) (wd54 hw) (leB rfl) (leB rfl) (leB rfl) (leB rfl) rfl ?_
  intro T L v X q
  subst q
  refine X.ifN (pc' := 22) d24_19 (by decide) rfl ?_
  refine X.aloadN (pc' := 23) d24_22 rfl rfl rfl ?_
  refine X.iconst (pc' := 24) (0 : Int32) d24_23 rfl rfl ?_
  refine X.putF (pc' := 27) (wd25 hw) Via.refl F_x_coder E_x (Or.inr ⟨(wd21 hw), rfl, rfl⟩) (wd5 hw) .byte (by decide) rfl rfl safeE zx (Or.inl (List.mem_of_getElem? (i := 0) rfl)) d24_24 rfl ?_
  intro T h L X W
  replace E_x := E_x.wr W
  replace F_x_value := F_x_value.other W (Or.inr (slot_ne (Or.inr (wd20 hw)) (Or.inr (wd21 hw)) (by decide) (t := (.array .byte)) (t' := .byte) (by decide) (by decide)))
  replace B := B.other W net
  replace lt_x := Nat.lt_of_lt_of_le lt_x (Keep.of_wr W).1
  replace F_x_coder := F_x_coder.same W
  refine X.aloadN (pc' := 28) d24_27 rfl rfl rfl ?_
  refine X.aloadN (pc' := 29) d24_28 rfl rfl rfl ?_
  refine X.iconst (pc' := 30) (0 : Int32) d24_29 rfl rfl ?_
  refine X.iload (pc' := 32) d24_30 rfl rfl ?_
  refine X.callV (pc' := 35) (X.sStatic (wd165 hw) (wd166 hw) (wd129 hw) (wd167 hw) (by decide) rfl pd16 [(.ref t), (.int (0 : Int32)), (.int (Int32.ofNat cs.length))] rfl rfl d24_32) (rmCR l Z a0 hw t _ _ X.old cs hc rfl B) (wd167 hw) (wd129 hw) (leB rfl) (leB rfl) (leB rfl) (leB rfl) sf0 all0 all0 rfl ?_
  intro T h L v X K q
  obtain ⟨r, kr, rfl, le_r, V_r⟩ := q
  have ne_x_r : x ≠ r := Nat.ne_of_lt (Nat.lt_of_lt_of_le lt_x le_r)
  replace E_x := E_x.keep K
  replace F_x_value := F_x_value.keep K nin0
  replace F_x_coder := F_x_coder.keep K nin0
  replace lt_x := Nat.lt_of_lt_of_le lt_x K.1
  refine X.putF (pc' := 38) (wd24 hw) Via.refl F_x_value E_x (Or.inr ⟨(wd20 hw), rfl, rfl⟩) (wd5 hw) (.array .byte) (by decide) rfl rfl safeE zx (Or.inl (List.mem_of_getElem? (i := 0) rfl)) d24_35 rfl ?_
  intro T h L X W
  replace E_x := E_x.wr W
  replace F_x_coder := F_x_coder.other W (Or.inr (slot_ne (Or.inr (wd21 hw)) (Or.inr (wd20 hw)) (by decide) (t := .byte) (t' := (.array .byte)) (by decide) (by decide)))
  replace lt_x := Nat.lt_of_lt_of_le lt_x (Keep.of_wr W).1
  replace V_r := V_r.other W (Ne.symm ne_x_r)
  replace F_x_value := F_x_value.same W
  refine X.goto (pc' := 97) d24_38 (by decide) (by decide) ?_
  exact X.retUN d24_97 (by decide) (by decide) ⟨rfl, Lat.str ⟨r, kr, E_x, F_x_value, F_x_coder, V_r, hlat, Nat.le_trans hc (by decide)⟩⟩
set_option maxRecDepth 65536 in
set_option maxHeartbeats 40000000 in
theorem ef_rmSS (m : MethodId) (x : Addr) (a1 : Addr) : entryFrame m #[(.ref x), (.ref a1)] 2 = mkF m 0 #[.val (.ref x), .val (.ref a1)] [] := by first | (simp [entryFrame, mkF, argsToLocals, Value.category]; done) | (rfl)
set_option maxRecDepth 65536 in
set_option maxHeartbeats 40000000 in
theorem rmSS (l : Launch) (Z : State) (a0 : Array Value) (hw : ∀ d ∈ tables_1, d.before a0 Z = true) (x : Addr) (a1 : Addr) (h0 : Heap) (O : Ext Z.heap h0) (z : Int32) (O2 : Sta Z Z.heap "java/lang/String" "COMPACT_STRINGS" "Z" (.int z)) (hz : ¬ z = 0) (zx : Z.heap.size ≤ x) (E_x : Exa Z h0 x "java/lang/String") (F_x_value : Fld Z h0 x "java/lang/String" "value" "[B" .null) (F_x_coder : Fld Z h0 x "java/lang/String" "coder" "B" (.int 0)) (t : Addr) (cs : List Int32) (hc : cs.length ≤ 24) (hlat : ∀ c ∈ cs, ¬ c < 0 ∧ ¬ (255 : Int32) < c) (ne1 : a1 ≠ x) (net : t ≠ x) (A1 : SB Z h0 a1 t cs.length) (B : Buf Z h0 t 34 34 cs) :
    MN l Z (⟨"java/lang/String", "<init>", "(Ljava/lang/StringBuilder;)V"⟩ : MethodName) jdk_42_method_53_code 2 none [] ({ frames := 4, cells := 1, slots := 24, locals := 110 } : Room) #[(.ref x), (.ref a1)] h0 [x] (RU (fun h => Str Z h x cs)) := by
  refine MN.mk (a0 := a0) rfl rfl (plainFor_of_name pn0) O (fun m => ef_rmSS m x a1) ?_
  intro pg ev s m below meth cd T hh X
  subst hh
  refine X.aloadN (pc' := 1) d23_0 rfl rfl rfl ?_
  refine X.aloadN (pc' := 2) d23_1 rfl rfl rfl ?_
  refine X.aconstNull (pc' := 3) d23_2 rfl ?_
  refine X.callU (pc' := 6) (X.sSpecial rfl (wd144 hw) (wd145 hw) (wd146 hw) (by decide) rfl pd19 [(.ref a1), .null] rfl rfl d23_3) (rmSA l Z a0 hw x a1 _ X.old z O2 hz zx E_x F_x_value F_x_coder t cs hc hlat ne1 net A1 B) (wd146 hw) (wd6 hw) (leB rfl) (leB rfl) (leB rfl) (leB rfl) (sfS safeE sf0) (allS zx all0) (allS (Or.inl (List.mem_of_getElem? (i := 0) rfl)) all0) rfl ?_
  intro T h L X K q
  exact X.retUN d23_6 (by decide) (by decide) ⟨rfl, q⟩
set_option maxRecDepth 65536 in
set_option maxHeartbeats 40000000 in
theorem ef_rmTS (m : MethodId) (a1 : Addr) : entryFrame m #[(.ref a1)] 1 = mkF m 0 #[.val (.ref a1)] [] := by first | (simp [entryFrame, mkF, argsToLocals, Value.category]; done) | (rfl)
set_option maxRecDepth 65536 in
set_option maxHeartbeats 40000000 in
theorem rmTS (l : Launch) (Z : State) (a0 : Array Value) (hw : ∀ d ∈ tables_1, d.before a0 Z = true) (a1 : Addr) (h0 : Heap) (O : Ext Z.heap h0) (z : Int32) (O2 : Sta Z Z.heap "java/lang/String" "COMPACT_STRINGS" "Z" (.int z)) (hz : ¬ z = 0) (t : Addr) (cs : List Int32) (hc : cs.length ≤ 24) (hlat : ∀ c ∈ cs, ¬ c < 0 ∧ ¬ (255 : Int32) < c) (A1 : SB Z h0 a1 t cs.length) (B : Buf Z h0 t 34 34 cs) :
    MN l Z (⟨"java/lang/StringBuilder", "toString", "()Ljava/lang/String;"⟩ : MethodName) jdk_67_method_42_code 1 (some (.object "java/lang/String")) [] ({ frames := 5, cells := 2, slots := 40, locals := 130 } : Room) #[(.ref a1)] h0 [] (RV (fun w h => ∃ r, w = .ref r ∧ Str Z h r cs)) := by
  refine MN.mk (a0 := a0) rfl rfl (plainFor_of_name pn3) O (fun m => ef_rmTS m a1) ?_
  intro pg ev s m below meth cd T hh X
  subst hh
  have lt_a1 := A1.lt
  have lt_t := B.lt
  refine X.newO (pc' := 3) (wd140 hw) (wd5 hw) (wd6 hw) d22_0 (by decide) (by decide) rfl ?_
  intro T h x g_x Ex lt_x E_x D_x X1
  have z_x : Z.heap.size ≤ x := by rw [g_x]; exact X.old.1
  have s_x : s.heap.size ≤ x := by rw [g_x]; exact X.kp.1
  have ne_a1_x : a1 ≠ x := Nat.ne_of_lt (by rw [g_x]; exact lt_a1)
  have ne_t_x : t ≠ x := Nat.ne_of_lt (by rw [g_x]; exact lt_t)
  replace A1 := A1.ext Ex
  replace B := B.ext Ex
  replace lt_a1 := Nat.lt_of_lt_of_le lt_a1 Ex.1
  replace lt_t := Nat.lt_of_lt_of_le lt_t Ex.1
  replace X := X1
  have F_x_value : Fld Z h x "java/lang/String" "value" "[B" .null := D_x (Or.inr (wd20 hw)) (ty := (.array .byte)) (by decide)
  have F_x_coder : Fld Z h x "java/lang/String" "coder" "B" (.int (0 : Int32)) := D_x (Or.inr (wd21 hw)) (ty := .byte) (by decide)
  refine X.dup (pc' := 4) d22_3 rfl rfl ?_
  refine X.aloadN (pc' := 5) d22_4 rfl rfl rfl ?_
  refine X.callU (pc' := 8) (X.sSpecial rfl (wd141 hw) (wd142 hw) (wd143 hw) (by decide) rfl pd20 [(.ref a1)] rfl rfl d22_5) (rmSS l Z a0 hw x a1 _ X.old z O2 hz z_x E_x F_x_value F_x_coder t cs hc hlat ne_a1_x ne_t_x A1 B) (wd143 hw) (wd6 hw) (leB rfl) (leB rfl) (leB rfl) (leB rfl) (sfS safeE sf0) (allS z_x all0) (allS (Or.inr s_x) all0) rfl ?_
  intro T h L X K q
  exact X.retAN rfl rfl d22_8 (by decide) (by decide) ⟨_, rfl, x, rfl, q⟩
set_option maxRecDepth 65536 in
set_option maxHeartbeats 40000000 in
theorem ef_rmMk (m : MethodId) (p : Int32) : entryFrame m #[(.int p)] 4 = mkF m 0 #[.val (.int p), .unset, .unset, .unset] [] := by first | (simp [entryFrame, mkF, argsToLocals, Value.category]; done) | (rfl)
set_option maxRecDepth 65536 in
set_option maxHeartbeats 40000000 in
theorem rmMk (l : Launch) (Z : State) (a0 : Array Value) (hw : ∀ d ∈ tables_1, d.before a0 Z = true) (ew : EW Z a0 consts_1) (p : Int32) (h0 : Heap) (O : Ext Z.heap h0) (z : Int32) (O2 : Sta Z Z.heap "java/lang/String" "COMPACT_STRINGS" "Z" (.int z)) (hz : ¬ z = 0) :
    MCc l Z consts_1 (⟨"com/example/bounded_lock/boundedlock/HoldToStringPinLaw", "mk", "(I)Ljava/lang/String;"⟩ : MethodName) method_2_code 4 (some (.object "java/lang/String")) [] ({ frames := 4, cells := 8, slots := 20, locals := 90 } : Room) #[(.int p)] h0 [] (RV (fun w h => ∃ r cs, w = .ref r ∧ cs.length ≤ 2 ∧ (∀ c ∈ cs, ¬ c < 0 ∧ ¬ (255 : Int32) < c) ∧ Str Z h r cs)) := by
  refine MCc.mk (a0 := a0) rfl rfl (plainFor_of_name pn8) O ew (fun m => ef_rmMk m p) ?_
  intro pg ev s m below meth cd T hh X
  subst hh
  have hws : ∀ d ∈ StrChars.Road.words, d.before a0 Z = true := fun d hd => hw d ((by decide +kernel : ∀ d ∈ StrChars.Road.words, d ∈ tables_1) d hd)
  refine X.iloadN (pc' := 1) d1_0 rfl rfl ?_
  refine X.sipush (pc' := 4) (255 : Int32) d1_1 rfl rfl ?_
  refine X.iand (pc' := 5) d1_4 rfl ?_
  refine X.i2c (pc' := 6) d1_5 rfl ?_
  generalize hc_c0 : ((p &&& (255 : Int32)).toUInt32.toUInt16.toUInt32.toInt32) = c0
  have r_c0 := chr255 hc_c0
  refine X.istoreN (pc' := 7) #[.val (.int p), .val (.int c0), .unset, .unset] d1_6 rfl rfl ?_
  refine X.iloadN (pc' := 8) d1_7 rfl rfl ?_
  refine X.bipush (pc' := 10) (8 : Int32) d1_8 rfl rfl ?_
  refine X.iushr (pc' := 11) d1_10 rfl ?_
  refine X.sipush (pc' := 14) (255 : Int32) d1_11 rfl rfl ?_
  refine X.iand (pc' := 15) d1_14 rfl ?_
  refine X.i2c (pc' := 16) d1_15 rfl ?_
  generalize hc_c1 : ((((p.toUInt32 >>> ((8 : Int32) &&& 31).toUInt32).toInt32) &&& (255 : Int32)).toUInt32.toUInt16.toUInt32.toInt32) = c1
  have r_c1 := chr255 hc_c1
  refine X.istoreN (pc' := 17) #[.val (.int p), .val (.int c0), .val (.int c1), .unset] d1_16 rfl rfl ?_
  refine X.iloadN (pc' := 18) d1_17 rfl rfl ?_
  refine X.bipush (pc' := 20) (16 : Int32) d1_18 rfl rfl ?_
  refine X.iushr (pc' := 21) d1_20 rfl ?_
  refine X.iconst (pc' := 22) (3 : Int32) d1_21 rfl rfl ?_
  refine X.irem (pc' := 23) d1_22 (by decide) rfl ?_
  generalize hg_n : (((p.toUInt32 >>> ((16 : Int32) &&& 31).toUInt32).toInt32) % (3 : Int32)) = n
  refine X.istoreN (pc' := 24) #[.val (.int p), .val (.int c0), .val (.int c1), .val (.int n)] d1_23 rfl rfl ?_
  refine X.iloadN (pc' := 25) d1_24 rfl rfl ?_
  by_cases hn0 : n = 0
  · refine X.ifN (pc' := 28) d1_25 ((if0 _ _).trans (teq hn0).2) rfl ?_
    refine X.newO (pc' := 31) (wd4 hw) (wd5 hw) (wd6 hw) d1_28 (by decide) (by decide) rfl ?_
    intro T h x1 g_x1 Ex lt_x1 E_x1 D_x1 X1
    have z_x1 : Z.heap.size ≤ x1 := by rw [g_x1]; exact X.old.1
    have s_x1 : s.heap.size ≤ x1 := by rw [g_x1]; exact X.kp.1
    replace X := X1
    have F_x1_value : Fld Z h x1 "java/lang/String" "value" "[B" .null := D_x1 (Or.inr (wd20 hw)) (ty := (.array .byte)) (by decide)
    have F_x1_coder : Fld Z h x1 "java/lang/String" "coder" "B" (.int (0 : Int32)) := D_x1 (Or.inr (wd21 hw)) (ty := .byte) (by decide)
    refine X.dup (pc' := 32) d1_31 rfl rfl ?_
    refine X.iconst (pc' := 33) (0 : Int32) d1_32 rfl rfl ?_
    refine X.newP (pc' := 35) (aty := .char) (wd7 hw) d1_33 (by decide) 0 (by decide) (by decide) (by decide) (by decide) rfl ?_
    intro T h b1 ka_b1 g_b1 Ex lt_b1 V_b1 X1
    have z_b1 : Z.heap.size ≤ b1 := by rw [g_b1]; exact X.old.1
    have s_b1 : s.heap.size ≤ b1 := by rw [g_b1]; exact X.kp.1
    have ne_x1_b1 : x1 ≠ b1 := Nat.ne_of_lt (by rw [g_b1]; exact lt_x1)
    replace E_x1 := E_x1.ext Ex
    replace lt_x1 := Nat.lt_of_lt_of_le lt_x1 Ex.1
    replace F_x1_value := F_x1_value.ext Ex
    replace F_x1_coder := F_x1_coder.ext Ex
    replace X := X1
    replace V_b1 : Arv Z h b1 ka_b1 .char (0 : Int32) [] (.int (0 : Int32)) := (Arv.pad V_b1 (pad_rep [] (.int (0 : Int32)) 0))
    refine X.coldU (pc' := 38) (X.sSpecial rfl (wd8 hw) (wd9 hw) (wd10 hw) (by decide) rfl pd21 [(.ref b1)] rfl rfl d1_35) (rmE0 l Z a0 hw ew x1 b1 _ X.old z_x1 E_x1 F_x1_value F_x1_coder _ V_b1) (wd10 hw) (wd6 hw) (leB rfl) (leB rfl) (leB rfl) (leB rfl) (allS (Or.inr s_x1) all0) rfl ?_
    intro T vm h L X K hC S_x1
    replace E_x1 := E_x1.keep K
    replace lt_x1 := Nat.lt_of_lt_of_le lt_x1 K.1
    replace V_b1 := V_b1.keep K (ninS (Ne.symm ne_x1_b1) nin0)
    replace lt_b1 := Nat.lt_of_lt_of_le lt_b1 K.1
    exact X.retAC rfl rfl d1_38 (by decide) (by decide) ⟨_, rfl, x1, [], rfl, leB rfl, allN, S_x1⟩
  · refine X.ifY (pc' := 39) d1_25 ((if0 _ _).trans (feq hn0).2) (by decide) (by decide) ?_
    refine X.iloadN (pc' := 40) d1_39 rfl rfl ?_
    refine X.iconst (pc' := 41) (1 : Int32) d1_40 rfl rfl ?_
    by_cases hn1 : n = 1
    · refine X.icN (pc' := 44) d1_41 ((teq hn1).2) rfl ?_
      refine X.iloadN (pc' := 45) d1_44 rfl rfl ?_
      refine X.callV (pc' := 48) (X.sStatic (wd208 hw) (wd209 hw) (wd6 hw) (wd210 hw) (by decide) rfl pd22 [(.int c0)] rfl rfl d1_45) (rmVOf l Z a0 hw c0 _ X.old z O2 hz r_c0.1) (wd210 hw) (wd6 hw) (leB rfl) (leB rfl) (leB rfl) (leB rfl) sf0 all0 all0 rfl ?_
      intro T h L v X K q
      obtain ⟨r1, rfl, le_r1, S_r1⟩ := q
      exact X.retAC rfl rfl d1_48 (by decide) (by decide) ⟨_, rfl, r1, [c0], rfl, leB rfl, (all1 r_c0.1), S_r1⟩
    · refine X.icY (pc' := 49) d1_41 ((feq hn1).2) (by decide) (by decide) ?_
      refine X.newO (pc' := 52) (wd4 hw) (wd5 hw) (wd6 hw) d1_49 (by decide) (by decide) rfl ?_
      intro T h x1 g_x1 Ex lt_x1 E_x1 D_x1 X1
      have z_x1 : Z.heap.size ≤ x1 := by rw [g_x1]; exact X.old.1
      have s_x1 : s.heap.size ≤ x1 := by rw [g_x1]; exact X.kp.1
      replace X := X1
      have F_x1_value : Fld Z h x1 "java/lang/String" "value" "[B" .null := D_x1 (Or.inr (wd20 hw)) (ty := (.array .byte)) (by decide)
      have F_x1_coder : Fld Z h x1 "java/lang/String" "coder" "B" (.int (0 : Int32)) := D_x1 (Or.inr (wd21 hw)) (ty := .byte) (by decide)
      refine X.dup (pc' := 53) d1_52 rfl rfl ?_
      refine X.iconst (pc' := 54) (2 : Int32) d1_53 rfl rfl ?_
      refine X.newP (pc' := 56) (aty := .char) (wd7 hw) d1_54 (by decide) 2 (by decide) (by decide) (by decide) (by decide) rfl ?_
      intro T h b1 ka_b1 g_b1 Ex lt_b1 V_b1 X1
      have z_b1 : Z.heap.size ≤ b1 := by rw [g_b1]; exact X.old.1
      have s_b1 : s.heap.size ≤ b1 := by rw [g_b1]; exact X.kp.1
      have ne_x1_b1 : x1 ≠ b1 := Nat.ne_of_lt (by rw [g_b1]; exact lt_x1)
      replace E_x1 := E_x1.ext Ex
      replace lt_x1 := Nat.lt_of_lt_of_le lt_x1 Ex.1
      replace F_x1_value := F_x1_value.ext Ex
      replace F_x1_coder := F_x1_coder.ext Ex
      replace X := X1
      replace V_b1 : Arv Z h b1 ka_b1 .char (2 : Int32) [(.int (0 : Int32)), (.int (0 : Int32))] (.int (0 : Int32)) := (Arv.pad V_b1 (pad_rep [] (.int (0 : Int32)) 2))
      refine X.dup (pc' := 57) d1_56 rfl rfl ?_
      refine X.iconst (pc' := 58) (0 : Int32) d1_57 rfl rfl ?_
      refine X.iloadN (pc' := 59) d1_58 rfl rfl ?_
      refine X.castore (pc' := 60) V_b1 ⟨by decide, by decide⟩ 0 rfl (Nat.le_of_ble_eq_true rfl) z_b1 (Or.inr s_b1) d1_59 rfl ?_
      intro T h L X W V1
      rw [r_c0.2] at V1
      replace E_x1 := E_x1.wr W
      replace lt_x1 := Nat.lt_of_lt_of_le lt_x1 (Keep.of_wr W).1
      replace F_x1_value := F_x1_value.other W (Or.inl ne_x1_b1)
      replace F_x1_coder := F_x1_coder.other W (Or.inl ne_x1_b1)
      replace lt_b1 := Nat.lt_of_lt_of_le lt_b1 (Keep.of_wr W).1
      replace V_b1 : Arv Z h b1 ka_b1 .char (2 : Int32) [(.int c0), (.int (0 : Int32))] (.int (0 : Int32)) := V1
      refine X.dup (pc' := 61) d1_60 rfl rfl ?_
      refine X.iconst (pc' := 62) (1 : Int32) d1_61 rfl rfl ?_
      refine X.iloadN (pc' := 63) d1_62 rfl rfl ?_
      refine X.castore (pc' := 64) V_b1 ⟨by decide, by decide⟩ 1 rfl (Nat.le_of_ble_eq_true rfl) z_b1 (Or.inr s_b1) d1_63 rfl ?_
      intro T h L X W V1
      rw [r_c1.2] at V1
      replace E_x1 := E_x1.wr W
      replace lt_x1 := Nat.lt_of_lt_of_le lt_x1 (Keep.of_wr W).1
      replace F_x1_value := F_x1_value.other W (Or.inl ne_x1_b1)
      replace F_x1_coder := F_x1_coder.other W (Or.inl ne_x1_b1)
      replace lt_b1 := Nat.lt_of_lt_of_le lt_b1 (Keep.of_wr W).1
      replace V_b1 : Arv Z h b1 ka_b1 .char (2 : Int32) [(.int c0), (.int c1)] (.int (0 : Int32)) := V1
      refine X.newStr (pc' := 67) (cs := [c0, c1]) (n := 2) (X.sSpecial rfl (wd8 hw) (wd9 hw) (wd10 hw) (by decide) rfl pd21 [(.ref b1)] rfl rfl d1_64) hws (wd5 hw) E_x1 F_x1_value F_x1_coder V_b1 O2 hz rfl rfl (by decide) (by decide) (allC r_c0.1 (all1 r_c1.1)) (leB rfl) (leB rfl) (leB rfl) (leB rfl) z_x1 (Or.inr s_x1) rfl ?_
      intro T h L X K S_x1
      replace E_x1 := E_x1.keep K
      replace lt_x1 := Nat.lt_of_lt_of_le lt_x1 K.1
      replace V_b1 := V_b1.keep K (ninS (Ne.symm ne_x1_b1) nin0)
      replace lt_b1 := Nat.lt_of_lt_of_le lt_b1 K.1
      exact X.retAC rfl rfl d1_67 (by decide) (by decide) ⟨_, rfl, x1, [c0, c1], rfl, leB rfl, (allC r_c0.1 (all1 r_c1.1)), S_x1⟩
set_option maxRecDepth 65536 in
set_option maxHeartbeats 40000000 in
theorem ef_rmHold (m : MethodId) (a1 : Addr) (v0 : Value) (hv0 : v0.isRef = true) (v1 : Value) (hv1 : v1.isRef = true) (v2 : Value) (hv2 : v2.isRef = true) : entryFrame m #[(.ref a1), v0, v1, v2] 4 = mkF m 0 #[.val (.ref a1), .val v0, .val v1, .val v2] [] := by first | (simp [entryFrame, mkF, argsToLocals, Value.category, catR hv0, catR hv1, catR hv2]; done) | (rcases ref_cases hv0 with rfl | ⟨_, rfl⟩ <;> rcases ref_cases hv1 with rfl | ⟨_, rfl⟩ <;> rcases ref_cases hv2 with rfl | ⟨_, rfl⟩ <;> rfl)
set_option maxRecDepth 65536 in
set_option maxHeartbeats 40000000 in
theorem rmHold (l : Launch) (Z : State) (a0 : Array Value) (hw : ∀ d ∈ tables_1, d.before a0 Z = true) (a1 : Addr) (v0 : Value) (hv0 : v0.isRef = true) (v1 : Value) (hv1 : v1.isRef = true) (v2 : Value) (hv2 : v2.isRef = true) (h0 : Heap) (O : Ext Z.heap h0)  (za : Z.heap.size ≤ a1) (E_a1 : Exa Z h0 a1 "com/example/bounded_lock/boundedlock/Hold") (F_a1_holder : Fld Z h0 a1 "com/example/bounded_lock/boundedlock/Hold" "holder" "Ljava/lang/String;" .null) (F_a1_kind : Fld Z h0 a1 "com/example/bounded_lock/boundedlock/Hold" "kind" "Ljava/lang/String;" .null) (F_a1_lockName : Fld Z h0 a1 "com/example/bounded_lock/boundedlock/Hold" "lockName" "Ljava/lang/String;" .null) :
    MN l Z (⟨"com/example/bounded_lock/boundedlock/Hold", "<init>", "(Ljava/lang/String;Ljava/lang/String;Ljava/lang/String;)V"⟩ : MethodName) prog_3_method_1_code 4 none [] ({ frames := 2, cells := 0, slots := 0, locals := 40 } : Room) #[(.ref a1), v0, v1, v2] h0 [a1] (RU (fun h => Exa Z h a1 "com/example/bounded_lock/boundedlock/Hold" ∧ Fld Z h a1 "com/example/bounded_lock/boundedlock/Hold" "holder" "Ljava/lang/String;" v0 ∧ Fld Z h a1 "com/example/bounded_lock/boundedlock/Hold" "kind" "Ljava/lang/String;" v1 ∧ Fld Z h a1 "com/example/bounded_lock/boundedlock/Hold" "lockName" "Ljava/lang/String;" v2)) := by
  refine MN.mk (a0 := a0) rfl rfl (plainFor_of_name pn9) O (fun m => ef_rmHold m a1 v0 hv0 v1 hv1 v2 hv2) ?_
  intro pg ev s m below meth cd T hh X
  subst hh
  refine X.aloadN (pc' := 1) d5_0 rfl rfl rfl ?_
  refine X.initO (pc' := 4) (wd32 hw) (wd16 hw) (wd17 hw) rfl d5_1 (leB rfl) (leB rfl) rfl ?_
  intro T X
  refine X.aloadN (pc' := 5) d5_4 rfl rfl rfl ?_
  refine X.aloadN (pc' := 6) d5_5 rfl hv0 rfl ?_
  refine X.putF (pc' := 9) (wd33 hw) Via.refl F_a1_holder E_a1 (Or.inr ⟨(wd34 hw), rfl, rfl⟩) (wd27 hw) (.object "java/lang/String") (by decide) (narR hv0) (fitR hv0) safeE za (Or.inl (List.mem_of_getElem? (i := 0) rfl)) d5_6 rfl ?_
  intro T h L X W
  replace F_a1_kind := F_a1_kind.other W (Or.inr (slot_ne (Or.inr (wd36 hw)) (Or.inr (wd34 hw)) (by decide) (t := (.object "java/lang/String")) (t' := (.object "java/lang/String")) (by decide) (by decide)))
  replace F_a1_lockName := F_a1_lockName.other W (Or.inr (slot_ne (Or.inr (wd38 hw)) (Or.inr (wd34 hw)) (by decide) (t := (.object "java/lang/String")) (t' := (.object "java/lang/String")) (by decide) (by decide)))
  replace E_a1 := E_a1.wr W
  replace F_a1_holder := F_a1_holder.same W
  refine X.aloadN (pc' := 10) d5_9 rfl rfl rfl ?_
  refine X.aloadN (pc' := 11) d5_10 rfl hv1 rfl ?_
  refine X.putF (pc' := 14) (wd35 hw) Via.refl F_a1_kind E_a1 (Or.inr ⟨(wd36 hw), rfl, rfl⟩) (wd27 hw) (.object "java/lang/String") (by decide) (narR hv1) (fitR hv1) safeE za (Or.inl (List.mem_of_getElem? (i := 0) rfl)) d5_11 rfl ?_
  intro T h L X W
  replace F_a1_holder := F_a1_holder.other W (Or.inr (slot_ne (Or.inr (wd34 hw)) (Or.inr (wd36 hw)) (by decide) (t := (.object "java/lang/String")) (t' := (.object "java/lang/String")) (by decide) (by decide)))
  replace F_a1_lockName := F_a1_lockName.other W (Or.inr (slot_ne (Or.inr (wd38 hw)) (Or.inr (wd36 hw)) (by decide) (t := (.object "java/lang/String")) (t' := (.object "java/lang/String")) (by decide) (by decide)))
  replace E_a1 := E_a1.wr W
  replace F_a1_kind := F_a1_kind.same W
  refine X.aloadN (pc' := 15) d5_14 rfl rfl rfl ?_
  refine X.aloadN (pc' := 16) d5_15 rfl hv2 rfl ?_
  refine X.putF (pc' := 19) (wd37 hw) Via.refl F_a1_lockName E_a1 (Or.inr ⟨(wd38 hw), rfl, rfl⟩) (wd27 hw) (.object "java/lang/String") (by decide) (narR hv2) (fitR hv2) safeE za (Or.inl (List.mem_of_getElem? (i := 0) rfl)) d5_16 rfl ?_
  intro T h L X W
  replace F_a1_holder := F_a1_holder.other W (Or.inr (slot_ne (Or.inr (wd34 hw)) (Or.inr (wd38 hw)) (by decide) (t := (.object "java/lang/String")) (t' := (.object "java/lang/String")) (by decide) (by decide)))
  replace F_a1_kind := F_a1_kind.other W (Or.inr (slot_ne (Or.inr (wd36 hw)) (Or.inr (wd38 hw)) (by decide) (t := (.object "java/lang/String")) (t' := (.object "java/lang/String")) (by decide) (by decide)))
  replace E_a1 := E_a1.wr W
  replace F_a1_lockName := F_a1_lockName.same W
  exact X.retUN d5_19 (by decide) (by decide) ⟨rfl, E_a1, F_a1_holder, F_a1_kind, F_a1_lockName⟩
set_option maxRecDepth 65536 in
set_option maxHeartbeats 40000000 in
theorem ef_rmTo (m : MethodId) (a1 : Addr) : entryFrame m #[(.ref a1)] 1 = mkF m 0 #[.val (.ref a1)] [] := by first | (simp [entryFrame, mkF, argsToLocals, Value.category]; done) | (rfl)
set_option maxRecDepth 65536 in
set_option maxHeartbeats 40000000 in
theorem rmTo (l : Launch) (Z : State) (a0 : Array Value) (hw : ∀ d ∈ tables_1, d.before a0 Z = true) (ew : EW Z a0 consts_1) (a1 : Addr) (h0 : Heap) (O : Ext Z.heap h0) (z : Int32) (O2 : Sta Z Z.heap "java/lang/String" "COMPACT_STRINGS" "Z" (.int z)) (hz : ¬ z = 0) (x0 x1 x2 : Addr) (c0 : List Int32) (m0 : c0.length ≤ 2) (g0 : ∀ c ∈ c0, ¬ c < 0 ∧ ¬ (255 : Int32) < c) (c1 : List Int32) (m1 : c1.length ≤ 2) (g1 : ∀ c ∈ c1, ¬ c < 0 ∧ ¬ (255 : Int32) < c) (c2 : List Int32) (m2 : c2.length ≤ 2) (g2 : ∀ c ∈ c2, ¬ c < 0 ∧ ¬ (255 : Int32) < c) (E_a1 : Exa Z h0 a1 "com/example/bounded_lock/boundedlock/Hold") (F_a1_holder : Fld Z h0 a1 "com/example/bounded_lock/boundedlock/Hold" "holder" "Ljava/lang/String;" (.ref x2)) (F_a1_kind : Fld Z h0 a1 "com/example/bounded_lock/boundedlock/Hold" "kind" "Ljava/lang/String;" (.ref x0)) (F_a1_lockName : Fld Z h0 a1 "com/example/bounded_lock/boundedlock/Hold" "lockName" "Ljava/lang/String;" (.ref x1)) (S_0 : Lat Z h0 x0 c0) (S_1 : Lat Z h0 x1 c1) (S_2 : Lat Z h0 x2 c2) :
    MCc l Z consts_1 (⟨"com/example/bounded_lock/boundedlock/Hold", "toString", "()Ljava/lang/String;"⟩ : MethodName) prog_3_method_4_code 1 (some (.object "java/lang/String")) [] ({ frames := 7, cells := 12, slots := 250, locals := 180 } : Room) #[(.ref a1)] h0 [] (RV (fun w h => ∃ r, w = .ref r ∧ Str Z h r (c0 ++ tx1 ++ c1 ++ tx2 ++ c2))) := by
  refine MCc.mk (a0 := a0) rfl rfl (plainFor_of_name pn9) O ew (fun m => ef_rmTo m a1) ?_
  intro pg ev s m below meth cd T hh X
  subst hh
  have lt_a1 := E_a1.lt
  have O_0 := LatO.of S_0
  have O_1 := LatO.of S_1
  have O_2 := LatO.of S_2
  refine X.newO (pc' := 3) (wd44 hw) (wd45 hw) (wd46 hw) d6_0 (by decide) (by decide) rfl ?_
  intro T h b g_b Ex lt_b E_b D_b X1
  have z_b : Z.heap.size ≤ b := by rw [g_b]; exact X.old.1
  have s_b : s.heap.size ≤ b := by rw [g_b]; exact X.kp.1
  have ne_a1_b : a1 ≠ b := Nat.ne_of_lt (by rw [g_b]; exact lt_a1)
  replace F_a1_holder := F_a1_holder.ext Ex
  replace F_a1_kind := F_a1_kind.ext Ex
  replace F_a1_lockName := F_a1_lockName.ext Ex
  replace E_a1 := E_a1.ext Ex
  replace lt_a1 := Nat.lt_of_lt_of_le lt_a1 Ex.1
  replace O_0 := O_0.ext Ex
  replace O_1 := O_1.ext Ex
  replace O_2 := O_2.ext Ex
  replace X := X1
  have F_b_value : Fld Z h b "java/lang/AbstractStringBuilder" "value" "[B" .null := D_b (Or.inl (wd59 hw)) (ty := (.array .byte)) (by decide)
  have F_b_coder : Fld Z h b "java/lang/AbstractStringBuilder" "coder" "B" (.int (0 : Int32)) := D_b (Or.inl (wd61 hw)) (ty := .byte) (by decide)
  have F_b_count : Fld Z h b "java/lang/AbstractStringBuilder" "count" "I" (.int (0 : Int32)) := D_b (Or.inl (wd84 hw)) (ty := .int) (by decide)
  refine X.dup (pc' := 4) d6_3 rfl rfl ?_
  have s0 := X.kp.1
  have z0 := X.old.1
  have H0 := X.H
  have sfb := Safe.exa (EL := consts_1) X.al E_b (by decide) (by decide)
  refine X.callU (pc' := 7) (X.sSpecial rfl (wd47 hw) (wd48 hw) (wd49 hw) (by decide) rfl pd23 [] rfl rfl d6_4) (rmSBI l Z a0 hw b _ X.old z O2 hz z_b ⟨E_b, F_b_value, F_b_coder, F_b_count⟩) (wd49 hw) (wd46 hw) (leB rfl) (leB rfl) (leB rfl) (leB rfl) (sfS sfb sf0) (allS z_b all0) (allS (Or.inr s_b) all0) rfl ?_
  intro T h L X K q
  obtain ⟨t, le_t, A_b, B_t⟩ := q
  have ne_a1_t : a1 ≠ t := Nat.ne_of_lt (Nat.lt_of_lt_of_le lt_a1 le_t)
  have ne_b_t : b ≠ t := Nat.ne_of_lt (Nat.lt_of_lt_of_le lt_b le_t)
  have z_t : Z.heap.size ≤ t := Nat.le_trans z0 le_t
  have s_t : s.heap.size ≤ t := Nat.le_trans s0 le_t
  have sf_t := Safe.keep K (sfS sfb sf0) H0 (Safe.new le_t)
  replace F_a1_holder := F_a1_holder.keep K (ninS ne_a1_b nin0)
  replace F_a1_kind := F_a1_kind.keep K (ninS ne_a1_b nin0)
  replace F_a1_lockName := F_a1_lockName.keep K (ninS ne_a1_b nin0)
  replace E_a1 := E_a1.keep K
  replace lt_a1 := Nat.lt_of_lt_of_le lt_a1 K.1
  replace E_b := E_b.keep K
  replace lt_b := Nat.lt_of_lt_of_le lt_b K.1
  replace O_0 := O_0.keep K (allS s_b all0)
  replace O_1 := O_1.keep K (allS s_b all0)
  replace O_2 := O_2.keep K (allS s_b all0)
  have lt_t := B_t.lt
  refine X.aloadN (pc' := 8) d6_7 rfl rfl rfl ?_
  refine X.getF (pc' := 11) (wd35 hw) Via.refl F_a1_kind d6_8 rfl ?_
  intro T X
  have H0 := X.H
  have sfb := Safe.exa (EL := consts_1) X.al A_b.1 (by decide) (by decide)
  refine X.callV (pc' := 14) (X.sVirtual (wd62 hw) (wd63 hw) (wd65 hw) (wd64 hw) (by decide) rfl pd24 A_b.1 [(.ref x0)] rfl rfl d6_11 (X.nf (wd65 hw) rfl)) (rmAp16 l Z a0 hw b x0 _ X.old z O2 hz z_b t z_t ne_b_t [] c0 (by simp; omega) A_b B_t O_0.lat) (wd66 hw) (wd46 hw) (leB rfl) (leB rfl) (leB rfl) (leB rfl) (sfS sfb (sfS sf_t sf0)) (allS z_b (allS z_t all0)) (allS (Or.inr s_b) (allS (Or.inr s_t) all0)) rfl ?_
  intro T h L v X K q
  obtain ⟨rfl, A_n, B_n⟩ := q
  replace F_a1_holder := F_a1_holder.keep K (ninS ne_a1_b (ninS ne_a1_t nin0))
  replace F_a1_kind := F_a1_kind.keep K (ninS ne_a1_b (ninS ne_a1_t nin0))
  replace F_a1_lockName := F_a1_lockName.keep K (ninS ne_a1_b (ninS ne_a1_t nin0))
  replace E_a1 := E_a1.keep K
  replace lt_a1 := Nat.lt_of_lt_of_le lt_a1 K.1
  replace lt_b := Nat.lt_of_lt_of_le lt_b K.1
  replace lt_t := Nat.lt_of_lt_of_le lt_t K.1
  replace O_0 := O_0.keep K (allS s_b (allS s_t all0))
  replace O_1 := O_1.keep K (allS s_b (allS s_t all0))
  replace O_2 := O_2.keep K (allS s_b (allS s_t all0))
  replace sf_t := Safe.keep K (sfS sfb (sfS sf_t sf0)) H0 sf_t
  replace A_b := A_n
  replace B_t := B_n
  rw [List.nil_append] at A_b B_t
  refine X.ldcS (pc' := 16) (vs := [(.int (32 : Int32)), (.int (104 : Int32)), (.int (111 : Int32)), (.int (108 : Int32)), (.int (100 : Int32)), (.int (32 : Int32)), (.int (111 : Int32)), (.int (102 : Int32)), (.int (32 : Int32)), (.int (108 : Int32)), (.int (111 : Int32)), (.int (99 : Int32)), (.int (107 : Int32)), (.int (32 : Int32))]) (z := (14 : Int32)) (wd110 hw) (sa1 hw) (by simp [consts_1, Jvm.Pilot.@@N@@.x]) (by decide) (by decide) rfl d6_14 56 (by decide) (by decide) (leB rfl) (leB rfl) rfl ?_
  intro T vm h l1 q1 ka_q1 Ex hC E_l1 F_l1_coder F_l1_value V_q1 lt_l1 lt_q1 sf X
  replace sf_t := hC.safe lt_t sf_t
  replace F_a1_holder := F_a1_holder.ext Ex
  replace F_a1_kind := F_a1_kind.ext Ex
  replace F_a1_lockName := F_a1_lockName.ext Ex
  replace E_a1 := E_a1.ext Ex
  replace lt_a1 := Nat.lt_of_lt_of_le lt_a1 Ex.1
  replace O_0 := O_0.ext Ex
  replace O_1 := O_1.ext Ex
  replace O_2 := O_2.ext Ex
  replace lt_b := Nat.lt_of_lt_of_le lt_b Ex.1
  replace lt_t := Nat.lt_of_lt_of_le lt_t Ex.1
  replace A_b := A_b.ext Ex
  replace B_t := B_t.ext Ex
  have S_l1 : Lat Z h l1 tx1 := ⟨q1, ka_q1, E_l1, F_l1_value, F_l1_coder, by rw [tx1_v]; exact V_q1, tx1_l, by decide⟩
  have H0 := X.H
  have sfb := Safe.exa (EL := consts_1) X.al A_b.1 (by decide) (by decide)
  refine X.callV (pc' := 19) (X.sVirtual (wd62 hw) (wd63 hw) (wd65 hw) (wd64 hw) (by decide) rfl pd24 A_b.1 [(.ref l1)] rfl rfl d6_16 (X.nf (wd65 hw) rfl)) (rmAp16 l Z a0 hw b l1 _ X.old z O2 hz z_b t z_t ne_b_t c0 tx1 (by rw [tx1_n]; omega) A_b B_t S_l1) (wd66 hw) (wd46 hw) (leB rfl) (leB rfl) (leB rfl) (leB rfl) (sfS sfb (sfS sf_t sf0)) (allS z_b (allS z_t all0)) (allS (Or.inr s_b) (allS (Or.inr s_t) all0)) rfl ?_
  intro T h L v X K q
  obtain ⟨rfl, A_n, B_n⟩ := q
  replace F_a1_holder := F_a1_holder.keep K (ninS ne_a1_b (ninS ne_a1_t nin0))
  replace F_a1_kind := F_a1_kind.keep K (ninS ne_a1_b (ninS ne_a1_t nin0))
  replace F_a1_lockName := F_a1_lockName.keep K (ninS ne_a1_b (ninS ne_a1_t nin0))
  replace E_a1 := E_a1.keep K
  replace lt_a1 := Nat.lt_of_lt_of_le lt_a1 K.1
  replace lt_b := Nat.lt_of_lt_of_le lt_b K.1
  replace lt_t := Nat.lt_of_lt_of_le lt_t K.1
  replace O_0 := O_0.keep K (allS s_b (allS s_t all0))
  replace O_1 := O_1.keep K (allS s_b (allS s_t all0))
  replace O_2 := O_2.keep K (allS s_b (allS s_t all0))
  replace sf_t := Safe.keep K (sfS sfb (sfS sf_t sf0)) H0 sf_t
  replace A_b := A_n
  replace B_t := B_n
  refine X.aloadN (pc' := 20) d6_19 rfl rfl rfl ?_
  refine X.getF (pc' := 23) (wd37 hw) Via.refl F_a1_lockName d6_20 rfl ?_
  intro T X
  have n1 : (c0 ++ tx1).length = c0.length + 14 := by rw [List.length_append, tx1_n]
  by_cases hf : c0.length + 14 + c1.length ≤ 16
  · have H0 := X.H
    have sfb := Safe.exa (EL := consts_1) X.al A_b.1 (by decide) (by decide)
    refine X.callV (pc' := 26) (X.sVirtual (wd62 hw) (wd63 hw) (wd65 hw) (wd64 hw) (by decide) rfl pd24 A_b.1 [(.ref x1)] rfl rfl d6_23 (X.nf (wd65 hw) rfl)) (rmAp16 l Z a0 hw b x1 _ X.old z O2 hz z_b t z_t ne_b_t (c0 ++ tx1) c1 (by rw [n1]; exact hf) A_b B_t O_1.lat) (wd66 hw) (wd46 hw) (leB rfl) (leB rfl) (leB rfl) (leB rfl) (sfS sfb (sfS sf_t sf0)) (allS z_b (allS z_t all0)) (allS (Or.inr s_b) (allS (Or.inr s_t) all0)) rfl ?_
    intro T h L v X K q
    obtain ⟨rfl, A_n, B_n⟩ := q
    replace F_a1_holder := F_a1_holder.keep K (ninS ne_a1_b (ninS ne_a1_t nin0))
    replace F_a1_kind := F_a1_kind.keep K (ninS ne_a1_b (ninS ne_a1_t nin0))
    replace F_a1_lockName := F_a1_lockName.keep K (ninS ne_a1_b (ninS ne_a1_t nin0))
    replace E_a1 := E_a1.keep K
    replace lt_a1 := Nat.lt_of_lt_of_le lt_a1 K.1
    replace lt_b := Nat.lt_of_lt_of_le lt_b K.1
    replace lt_t := Nat.lt_of_lt_of_le lt_t K.1
    replace O_0 := O_0.keep K (allS s_b (allS s_t all0))
    replace O_1 := O_1.keep K (allS s_b (allS s_t all0))
    replace O_2 := O_2.keep K (allS s_b (allS s_t all0))
    replace sf_t := Safe.keep K (sfS sfb (sfS sf_t sf0)) H0 sf_t
    replace A_b := A_n
    replace B_t := B_n
    have n2 : (c0 ++ tx1 ++ c1).length = c0.length + 14 + c1.length := by rw [List.length_append, n1]
    refine X.ldcS (pc' := 28) (vs := [(.int (32 : Int32)), (.int (98 : Int32)), (.int (121 : Int32)), (.int (32 : Int32))]) (z := (4 : Int32)) (wd111 hw) (sa1 hw) (by simp [consts_1, Jvm.Pilot.@@N@@.x]) (by decide) (by decide) rfl d6_26 16 (by decide) (by decide) (leB rfl) (leB rfl) rfl ?_
    intro T vm h l2 q2 ka_q2 Ex hC E_l2 F_l2_coder F_l2_value V_q2 lt_l2 lt_q2 sf X
    replace sf_t := hC.safe lt_t sf_t
    replace F_a1_holder := F_a1_holder.ext Ex
    replace F_a1_kind := F_a1_kind.ext Ex
    replace F_a1_lockName := F_a1_lockName.ext Ex
    replace E_a1 := E_a1.ext Ex
    replace lt_a1 := Nat.lt_of_lt_of_le lt_a1 Ex.1
    replace O_0 := O_0.ext Ex
    replace O_1 := O_1.ext Ex
    replace O_2 := O_2.ext Ex
    replace lt_b := Nat.lt_of_lt_of_le lt_b Ex.1
    replace lt_t := Nat.lt_of_lt_of_le lt_t Ex.1
    replace A_b := A_b.ext Ex
    replace B_t := B_t.ext Ex
    have sfb := Safe.exa (EL := consts_1) X.al A_b.1 (by decide) (by decide)
    have nb := sf _ sfb
    have S_l2 : ∀ h', Keep h h' [b] → Lat Z h' l2 tx2 := fun h' K => ⟨q2, ka_q2, E_l2.keep K, F_l2_value.keep K (ninS (Ne.symm nb.1) nin0), F_l2_coder.keep K (ninS (Ne.symm nb.1) nin0), by rw [tx2_v]; exact V_q2.keep K (ninS (Ne.symm nb.2) nin0), tx2_l, by decide⟩
    have S_l20 : Lat Z h l2 tx2 := ⟨q2, ka_q2, E_l2, F_l2_value, F_l2_coder, by rw [tx2_v]; exact V_q2, tx2_l, by decide⟩
    have z0 := X.old.1
    have s0 := X.kp.1
    have H0 := X.H
    have sfb := Safe.exa (EL := consts_1) X.al A_b.1 (by decide) (by decide)
    refine X.callV (pc' := 31) (X.sVirtual (wd62 hw) (wd63 hw) (wd65 hw) (wd64 hw) (by decide) rfl pd24 A_b.1 [(.ref l2)] rfl rfl d6_28 (X.nf (wd65 hw) rfl)) (rmApG l Z a0 hw b l2 _ X.old z O2 hz z_b t (c0 ++ tx1 ++ c1) tx2 (by rw [n2]; exact hf) (by rw [n2, tx2_n]; omega) A_b B_t S_l20 S_l2) (wd66 hw) (wd46 hw) (leB rfl) (leB rfl) (leB rfl) (leB rfl) (sfS sfb sf0) (allS z_b all0) (allS (Or.inr s_b) all0) rfl ?_
    intro T h L v X K q
    obtain ⟨rfl, u, le_u, A_n, B_u⟩ := q
    have ne_a1_u : a1 ≠ u := Nat.ne_of_lt (Nat.lt_of_lt_of_le lt_a1 le_u)
    have ne_b_u : b ≠ u := Nat.ne_of_lt (Nat.lt_of_lt_of_le lt_b le_u)
    have ne_t_u : t ≠ u := Nat.ne_of_lt (Nat.lt_of_lt_of_le lt_t le_u)
    have z_u : Z.heap.size ≤ u := Nat.le_trans z0 le_u
    have s_u : s.heap.size ≤ u := Nat.le_trans s0 le_u
    have sf_u := Safe.keep K (sfS sfb sf0) H0 (Safe.new le_u)
    replace F_a1_holder := F_a1_holder.keep K (ninS ne_a1_b nin0)
    replace F_a1_kind := F_a1_kind.keep K (ninS ne_a1_b nin0)
    replace F_a1_lockName := F_a1_lockName.keep K (ninS ne_a1_b nin0)
    replace E_a1 := E_a1.keep K
    replace lt_a1 := Nat.lt_of_lt_of_le lt_a1 K.1
    replace lt_b := Nat.lt_of_lt_of_le lt_b K.1
    replace O_0 := O_0.keep K (allS s_b all0)
    replace O_1 := O_1.keep K (allS s_b all0)
    replace O_2 := O_2.keep K (allS s_b all0)
    replace A_b := A_n
    have lt_u := B_u.lt
    have n3 : (c0 ++ tx1 ++ c1 ++ tx2).length = c0.length + 14 + c1.length + 4 := by rw [List.length_append, n2, tx2_n]
    refine X.aloadN (pc' := 32) d6_31 rfl rfl rfl ?_
    refine X.getF (pc' := 35) (wd33 hw) Via.refl F_a1_holder d6_32 rfl ?_
    intro T X
    have H0 := X.H
    have sfb := Safe.exa (EL := consts_1) X.al A_b.1 (by decide) (by decide)
    refine X.callV (pc' := 38) (X.sVirtual (wd62 hw) (wd63 hw) (wd65 hw) (wd64 hw) (by decide) rfl pd24 A_b.1 [(.ref x2)] rfl rfl d6_35 (X.nf (wd65 hw) rfl)) (rmAp34 l Z a0 hw b x2 _ X.old z O2 hz z_b u z_u ne_b_u (c0 ++ tx1 ++ c1 ++ tx2) c2 (by rw [n3]; omega) A_b B_u O_2.lat) (wd66 hw) (wd46 hw) (leB rfl) (leB rfl) (leB rfl) (leB rfl) (sfS sfb (sfS sf_u sf0)) (allS z_b (allS z_u all0)) (allS (Or.inr s_b) (allS (Or.inr s_u) all0)) rfl ?_
    intro T h L v X K q
    obtain ⟨rfl, A_n, B_n⟩ := q
    replace F_a1_holder := F_a1_holder.keep K (ninS ne_a1_b (ninS ne_a1_u nin0))
    replace F_a1_kind := F_a1_kind.keep K (ninS ne_a1_b (ninS ne_a1_u nin0))
    replace F_a1_lockName := F_a1_lockName.keep K (ninS ne_a1_b (ninS ne_a1_u nin0))
    replace E_a1 := E_a1.keep K
    replace lt_a1 := Nat.lt_of_lt_of_le lt_a1 K.1
    replace lt_b := Nat.lt_of_lt_of_le lt_b K.1
    replace lt_u := Nat.lt_of_lt_of_le lt_u K.1
    replace O_0 := O_0.keep K (allS s_b (allS s_u all0))
    replace O_1 := O_1.keep K (allS s_b (allS s_u all0))
    replace O_2 := O_2.keep K (allS s_b (allS s_u all0))
    replace sf_u := Safe.keep K (sfS sfb (sfS sf_u sf0)) H0 sf_u
    replace A_b := A_n
    replace B_u := B_n
    have n9 : ((c0 ++ tx1 ++ c1 ++ tx2) ++ c2).length ≤ 24 := by rw [List.length_append, n3]; omega
    refine X.callV (pc' := 41) (X.sVirtual (wd135 hw) (wd136 hw) (wd138 hw) (wd137 hw) (by decide) rfl pd25 A_b.1 [] rfl rfl d6_38 (X.nf (wd65 hw) rfl)) (rmTS l Z a0 hw b _ X.old z O2 hz u _ n9 (lat_app (lat_app (lat_app (lat_app g0 tx1_l) g1) tx2_l) g2) A_b B_u) (wd139 hw) (wd46 hw) (leB rfl) (leB rfl) (leB rfl) (leB rfl) sf0 all0 all0 rfl ?_
    intro T h L v X K q
    obtain ⟨r, rfl, S_r⟩ := q
    exact X.retAC rfl rfl d6_41 (by decide) (by decide) ⟨_, rfl, r, rfl, S_r⟩
  · have z0 := X.old.1
    have s0 := X.kp.1
    have H0 := X.H
    have sfb := Safe.exa (EL := consts_1) X.al A_b.1 (by decide) (by decide)
    refine X.callV (pc' := 26) (X.sVirtual (wd62 hw) (wd63 hw) (wd65 hw) (wd64 hw) (by decide) rfl pd24 A_b.1 [(.ref x1)] rfl rfl d6_23 (X.nf (wd65 hw) rfl)) (rmApG l Z a0 hw b x1 _ X.old z O2 hz z_b t (c0 ++ tx1) c1 (by rw [n1]; omega) (by rw [n1]; omega) A_b B_t O_1.lat (fun h' K => (O_1.keep K (allS s_b all0)).lat)) (wd66 hw) (wd46 hw) (leB rfl) (leB rfl) (leB rfl) (leB rfl) (sfS sfb sf0) (allS z_b all0) (allS (Or.inr s_b) all0) rfl ?_
    intro T h L v X K q
    obtain ⟨rfl, u, le_u, A_n, B_u⟩ := q
    have ne_a1_u : a1 ≠ u := Nat.ne_of_lt (Nat.lt_of_lt_of_le lt_a1 le_u)
    have ne_b_u : b ≠ u := Nat.ne_of_lt (Nat.lt_of_lt_of_le lt_b le_u)
    have ne_t_u : t ≠ u := Nat.ne_of_lt (Nat.lt_of_lt_of_le lt_t le_u)
    have z_u : Z.heap.size ≤ u := Nat.le_trans z0 le_u
    have s_u : s.heap.size ≤ u := Nat.le_trans s0 le_u
    have sf_u := Safe.keep K (sfS sfb sf0) H0 (Safe.new le_u)
    replace F_a1_holder := F_a1_holder.keep K (ninS ne_a1_b nin0)
    replace F_a1_kind := F_a1_kind.keep K (ninS ne_a1_b nin0)
    replace F_a1_lockName := F_a1_lockName.keep K (ninS ne_a1_b nin0)
    replace E_a1 := E_a1.keep K
    replace lt_a1 := Nat.lt_of_lt_of_le lt_a1 K.1
    replace lt_b := Nat.lt_of_lt_of_le lt_b K.1
    replace O_0 := O_0.keep K (allS s_b all0)
    replace O_1 := O_1.keep K (allS s_b all0)
    replace O_2 := O_2.keep K (allS s_b all0)
    replace A_b := A_n
    have lt_u := B_u.lt
    have n2 : (c0 ++ tx1 ++ c1).length = c0.length + 14 + c1.length := by rw [List.length_append, n1]
    refine X.ldcS (pc' := 28) (vs := [(.int (32 : Int32)), (.int (98 : Int32)), (.int (121 : Int32)), (.int (32 : Int32))]) (z := (4 : Int32)) (wd111 hw) (sa1 hw) (by simp [consts_1, Jvm.Pilot.@@N@@.x]) (by decide) (by decide) rfl d6_26 16 (by decide) (by decide) (leB rfl) (leB rfl) rfl ?_
    intro T vm h l2 q2 ka_q2 Ex hC E_l2 F_l2_coder F_l2_value V_q2 lt_l2 lt_q2 sf X
    replace sf_u := hC.safe lt_u sf_u
    replace F_a1_holder := F_a1_holder.ext Ex
    replace F_a1_kind := F_a1_kind.ext Ex
    replace F_a1_lockName := F_a1_lockName.ext Ex
    replace E_a1 := E_a1.ext Ex
    replace lt_a1 := Nat.lt_of_lt_of_le lt_a1 Ex.1
    replace O_0 := O_0.ext Ex
    replace O_1 := O_1.ext Ex
    replace O_2 := O_2.ext Ex
    replace lt_b := Nat.lt_of_lt_of_le lt_b Ex.1
    replace A_b := A_b.ext Ex
    replace B_u := B_u.ext Ex
    replace lt_u := Nat.lt_of_lt_of_le lt_u Ex.1
    have S_l2 : Lat Z h l2 tx2 := ⟨q2, ka_q2, E_l2, F_l2_value, F_l2_coder, by rw [tx2_v]; exact V_q2, tx2_l, by decide⟩
    have H0 := X.H
    have sfb := Safe.exa (EL := consts_1) X.al A_b.1 (by decide) (by decide)
    refine X.callV (pc' := 31) (X.sVirtual (wd62 hw) (wd63 hw) (wd65 hw) (wd64 hw) (by decide) rfl pd24 A_b.1 [(.ref l2)] rfl rfl d6_28 (X.nf (wd65 hw) rfl)) (rmAp34 l Z a0 hw b l2 _ X.old z O2 hz z_b u z_u ne_b_u (c0 ++ tx1 ++ c1) tx2 (by rw [n2, tx2_n]; omega) A_b B_u S_l2) (wd66 hw) (wd46 hw) (leB rfl) (leB rfl) (leB rfl) (leB rfl) (sfS sfb (sfS sf_u sf0)) (allS z_b (allS z_u all0)) (allS (Or.inr s_b) (allS (Or.inr s_u) all0)) rfl ?_
    intro T h L v X K q
    obtain ⟨rfl, A_n, B_n⟩ := q
    replace F_a1_holder := F_a1_holder.keep K (ninS ne_a1_b (ninS ne_a1_u nin0))
    replace F_a1_kind := F_a1_kind.keep K (ninS ne_a1_b (ninS ne_a1_u nin0))
    replace F_a1_lockName := F_a1_lockName.keep K (ninS ne_a1_b (ninS ne_a1_u nin0))
    replace E_a1 := E_a1.keep K
    replace lt_a1 := Nat.lt_of_lt_of_le lt_a1 K.1
    replace lt_b := Nat.lt_of_lt_of_le lt_b K.1
    replace lt_u := Nat.lt_of_lt_of_le lt_u K.1
    replace O_0 := O_0.keep K (allS s_b (allS s_u all0))
    replace O_1 := O_1.keep K (allS s_b (allS s_u all0))
    replace O_2 := O_2.keep K (allS s_b (allS s_u all0))
    replace sf_u := Safe.keep K (sfS sfb (sfS sf_u sf0)) H0 sf_u
    replace A_b := A_n
    replace B_u := B_n
    have n3 : (c0 ++ tx1 ++ c1 ++ tx2).length = c0.length + 14 + c1.length + 4 := by rw [List.length_append, n2, tx2_n]
    refine X.aloadN (pc' := 32) d6_31 rfl rfl rfl ?_
    refine X.getF (pc' := 35) (wd33 hw) Via.refl F_a1_holder d6_32 rfl ?_
    intro T X
    have H0 := X.H
    have sfb := Safe.exa (EL := consts_1) X.al A_b.1 (by decide) (by decide)
    refine X.callV (pc' := 38) (X.sVirtual (wd62 hw) (wd63 hw) (wd65 hw) (wd64 hw) (by decide) rfl pd24 A_b.1 [(.ref x2)] rfl rfl d6_35 (X.nf (wd65 hw) rfl)) (rmAp34 l Z a0 hw b x2 _ X.old z O2 hz z_b u z_u ne_b_u (c0 ++ tx1 ++ c1 ++ tx2) c2 (by rw [n3]; omega) A_b B_u O_2.lat) (wd66 hw) (wd46 hw) (leB rfl) (leB rfl) (leB rfl) (leB rfl) (sfS sfb (sfS sf_u sf0)) (allS z_b (allS z_u all0)) (allS (Or.inr s_b) (allS (Or.inr s_u) all0)) rfl ?_
    intro T h L v X K q
    obtain ⟨rfl, A_n, B_n⟩ := q
    replace F_a1_holder := F_a1_holder.keep K (ninS ne_a1_b (ninS ne_a1_u nin0))
    replace F_a1_kind := F_a1_kind.keep K (ninS ne_a1_b (ninS ne_a1_u nin0))
    replace F_a1_lockName := F_a1_lockName.keep K (ninS ne_a1_b (ninS ne_a1_u nin0))
    replace E_a1 := E_a1.keep K
    replace lt_a1 := Nat.lt_of_lt_of_le lt_a1 K.1
    replace lt_b := Nat.lt_of_lt_of_le lt_b K.1
    replace lt_u := Nat.lt_of_lt_of_le lt_u K.1
    replace O_0 := O_0.keep K (allS s_b (allS s_u all0))
    replace O_1 := O_1.keep K (allS s_b (allS s_u all0))
    replace O_2 := O_2.keep K (allS s_b (allS s_u all0))
    replace sf_u := Safe.keep K (sfS sfb (sfS sf_u sf0)) H0 sf_u
    replace A_b := A_n
    replace B_u := B_n
    have n9 : ((c0 ++ tx1 ++ c1 ++ tx2) ++ c2).length ≤ 24 := by rw [List.length_append, n3]; omega
    refine X.callV (pc' := 41) (X.sVirtual (wd135 hw) (wd136 hw) (wd138 hw) (wd137 hw) (by decide) rfl pd25 A_b.1 [] rfl rfl d6_38 (X.nf (wd65 hw) rfl)) (rmTS l Z a0 hw b _ X.old z O2 hz u _ n9 (lat_app (lat_app (lat_app (lat_app g0 tx1_l) g1) tx2_l) g2) A_b B_u) (wd139 hw) (wd46 hw) (leB rfl) (leB rfl) (leB rfl) (leB rfl) sf0 all0 all0 rfl ?_
    intro T h L v X K q
    obtain ⟨r, rfl, S_r⟩ := q
    exact X.retAC rfl rfl d6_41 (by decide) (by decide) ⟨_, rfl, r, rfl, S_r⟩
set_option maxRecDepth 65536 in
set_option maxHeartbeats 40000000 in
theorem ef_rmCh (m : MethodId) (s1 : Addr) (n : Int32) (t1 : Addr) (j : Int32) : entryFrame m #[(.ref s1), (.int n), (.ref t1), (.int j)] 4 = mkF m 0 #[.val (.ref s1), .val (.int n), .val (.ref t1), .val (.int j)] [] := by first | (simp [entryFrame, mkF, argsToLocals, Value.category]; done) | (rfl)
set_option maxRecDepth 65536 in
set_option maxHeartbeats 40000000 in
theorem rmCh (l : Launch) (Z : State) (a0 : Array Value) (hw : ∀ d ∈ tables_1, d.before a0 Z = true) (s1 : Addr) (n : Int32) (t1 : Addr) (j : Int32) (h0 : Heap) (O : Ext Z.heap h0) (z : Int32) (O2 : Sta Z Z.heap "java/lang/String" "COMPACT_STRINGS" "Z" (.int z)) (hz : ¬ z = 0) (fm : Value) (SF : Sta Z Z.heap "jdk/internal/util/Preconditions" "SIOOBE_FORMATTER" "Ljava/util/function/BiFunction;" fm) (rf : fm.isRef = true) (fs ds : List Int32) (ls : ∀ c ∈ fs, ¬ (255 : Int32) < c) (ld : ∀ c ∈ ds, ¬ (255 : Int32) < c) (S_s : Str Z h0 s1 fs) (S_t : Str Z h0 t1 ds) (i : Nat) (hi : n = Int32.ofNat i) (U : Sub fs i ds) (hfl : fs.length ≤ 4000) (jj : Nat) (hj : j = Int32.ofNat jj) (hjj : jj ≤ 20) :
    MN l Z (⟨"com/example/bounded_lock/boundedlock/HoldToStringPinLaw", "ch", "(Ljava/lang/String;ILjava/lang/String;I)Z"⟩ : MethodName) method_4_code 4 (some .boolean) [] ({ frames := 5, cells := 0, slots := 0, locals := 90 } : Room) #[(.ref s1), (.int n), (.ref t1), (.int j)] h0 [] (RP h0 (fun w => w = .int 1)) := by
  refine MN.mk (a0 := a0) rfl rfl (plainFor_of_name pn8) O (fun m => ef_rmCh m s1 n t1 j) ?_
  intro pg ev s m below meth cd T hh X
  subst hh
  have hwl : ∀ d ∈ StrChars.Road.wordsLen, d.before a0 Z = true := fun d hd => hw d ((by decide +kernel : ∀ d ∈ StrChars.Road.wordsLen, d ∈ tables_1) d hd)
  have hwc : ∀ d ∈ StrChars.Road.wordsChN, d.before a0 Z = true := fun d hd => hw d ((by decide +kernel : ∀ d ∈ StrChars.Road.wordsChN, d ∈ tables_1) d hd)
  refine X.iloadN (pc' := 1) d34_0 rfl rfl ?_
  refine X.aloadN (pc' := 2) d34_1 rfl rfl rfl ?_
  refine X.lenStr (pc' := 5) (X.sVirtual (wd174 hw) (wd73 hw) (wd75 hw) (wd74 hw) (by decide) rfl pd12 S_t.exa [] rfl rfl d34_2 (X.nf (wd75 hw) rfl)) hwl (wd5 hw) S_t O2 hz (leB rfl) (leB rfl) (leB rfl) (leB rfl) rfl ?_
  intro T X
  have hU := U.1
  have ej : (Int32.ofNat jj).toInt = jj := ofn (by omega)
  have el : (Int32.ofNat ds.length).toInt = ds.length := ofn (by omega)
  by_cases hlt : jj < ds.length
  · refine X.icN (pc' := 8) d34_5 ((tlt (by rw [hj, Int32.lt_iff_toInt_lt, ej, el]; omega)).2.1) rfl ?_
    refine X.aloadN (pc' := 9) d34_8 rfl rfl rfl ?_
    refine X.iloadN (pc' := 10) d34_9 rfl rfl ?_
    refine X.iloadN (pc' := 11) d34_10 rfl rfl ?_
    refine X.iadd (pc' := 12) d34_11 rfl ?_
    refine X.chStr (pc' := 15) (i := i + jj) (X.sVirtual (wd185 hw) (wd186 hw) (wd188 hw) (wd187 hw) (by decide) rfl pd26 S_s.exa [(.int (n + j))] rfl rfl d34_12 (X.nf (wd75 hw) rfl)) hwc (wd5 hw) S_s ls O2 hz SF rf (by omega) (by rw [hi, hj, Int32.ofNat_add]) (leB rfl) (leB rfl) (leB rfl) (leB rfl) rfl ?_
    intro T X
    refine X.aloadN (pc' := 16) d34_15 rfl rfl rfl ?_
    refine X.iloadN (pc' := 17) d34_16 rfl rfl ?_
    refine X.chStr (pc' := 20) (i := jj) (X.sVirtual (wd185 hw) (wd186 hw) (wd188 hw) (wd187 hw) (by decide) rfl pd26 S_t.exa [(.int j)] rfl rfl d34_17 (X.nf (wd75 hw) rfl)) hwc (wd5 hw) S_t ld O2 hz SF rf hlt hj (leB rfl) (leB rfl) (leB rfl) (leB rfl) rfl ?_
    intro T X
    refine X.icN (pc' := 23) d34_20 ((teq (U.2 jj hlt)).2) rfl ?_
    refine X.iconst (pc' := 24) (1 : Int32) d34_23 rfl rfl ?_
    refine X.goto (pc' := 28) d34_24 (by decide) (by decide) ?_
    exact X.retIN (by simp) rfl d34_28 (by decide) (by decide) ⟨_, rfl, rfl, rfl⟩
  · refine X.icY (pc' := 23) d34_5 ((flt (by rw [hj, Int32.lt_iff_toInt_lt, ej, el]; omega)).2.1) (by decide) (by decide) ?_
    refine X.iconst (pc' := 24) (1 : Int32) d34_23 rfl rfl ?_
    refine X.goto (pc' := 28) d34_24 (by decide) (by decide) ?_
    exact X.retIN (by simp) rfl d34_28 (by decide) (by decide) ⟨_, rfl, rfl, rfl⟩
set_option maxRecDepth 65536 in
set_option maxHeartbeats 40000000 in
theorem ef_rmLit (m : MethodId) (s1 : Addr) (n : Int32) (t1 : Addr) : entryFrame m #[(.ref s1), (.int n), (.ref t1)] 3 = mkF m 0 #[.val (.ref s1), .val (.int n), .val (.ref t1)] [] := by first | (simp [entryFrame, mkF, argsToLocals, Value.category]; done) | (rfl)
set_option maxRecDepth 65536 in
set_option maxHeartbeats 40000000 in
theorem rmLit (l : Launch) (Z : State) (a0 : Array Value) (hw : ∀ d ∈ tables_1, d.before a0 Z = true) (s1 : Addr) (n : Int32) (t1 : Addr) (h0 : Heap) (O : Ext Z.heap h0) (z : Int32) (O2 : Sta Z Z.heap "java/lang/String" "COMPACT_STRINGS" "Z" (.int z)) (hz : ¬ z = 0) (fm : Value) (SF : Sta Z Z.heap "jdk/internal/util/Preconditions" "SIOOBE_FORMATTER" "Ljava/util/function/BiFunction;" fm) (rf : fm.isRef = true) (fs ds : List Int32) (ls : ∀ c ∈ fs, ¬ (255 : Int32) < c) (ld : ∀ c ∈ ds, ¬ (255 : Int32) < c) (S_s : Str Z h0 s1 fs) (S_t : Str Z h0 t1 ds) (i : Nat) (hi : n = Int32.ofNat i) (U : Sub fs i ds) (hfl : fs.length ≤ 4000) :
    MN l Z (⟨"com/example/bounded_lock/boundedlock/HoldToStringPinLaw", "lit", "(Ljava/lang/String;ILjava/lang/String;)Z"⟩ : MethodName) method_5_code 3 (some .boolean) [] ({ frames := 6, cells := 0, slots := 0, locals := 120 } : Room) #[(.ref s1), (.int n), (.ref t1)] h0 [] (RP h0 (fun w => w = .int 1)) := by
  refine MN.mk (a0 := a0) rfl rfl (plainFor_of_name pn8) O (fun m => ef_rmLit m s1 n t1) ?_
  intro pg ev s m below meth cd T hh X
  subst hh
  refine X.aloadN (pc' := 1) d33_0 rfl rfl rfl ?_
  refine X.iloadN (pc' := 2) d33_1 rfl rfl ?_
  refine X.aloadN (pc' := 3) d33_2 rfl rfl rfl ?_
  refine X.iconst (pc' := 4) (0 : Int32) d33_3 rfl rfl ?_
  refine X.callP (pc' := 7) (X.sStatic (wd182 hw) (wd183 hw) (wd2 hw) (wd184 hw) (by decide) rfl pd27 [(.ref s1), (.int n), (.ref t1), (.int (0 : Int32))] rfl rfl d33_4) (rmCh l Z a0 hw s1 n t1 _ _ X.old z O2 hz fm SF rf fs ds ls ld S_s S_t i hi U hfl 0 rfl (by decide)) (wd184 hw) (wd2 hw) (leB rfl) (leB rfl) (leB rfl) (leB rfl) rfl ?_
  intro T L v X q
  subst q
  refine X.ifN (pc' := 10) d33_7 (by decide) rfl ?_
  refine X.aloadN (pc' := 11) d33_10 rfl rfl rfl ?_
  refine X.iloadN (pc' := 12) d33_11 rfl rfl ?_
  refine X.aloadN (pc' := 13) d33_12 rfl rfl rfl ?_
  refine X.iconst (pc' := 14) (1 : Int32) d33_13 rfl rfl ?_
  refine X.callP (pc' := 17) (X.sStatic (wd182 hw) (wd183 hw) (wd2 hw) (wd184 hw) (by decide) rfl pd27 [(.ref s1), (.int n), (.ref t1), (.int (1 : Int32))] rfl rfl d33_14) (rmCh l Z a0 hw s1 n t1 _ _ X.old z O2 hz fm SF rf fs ds ls ld S_s S_t i hi U hfl 1 rfl (by decide)) (wd184 hw) (wd2 hw) (leB rfl) (leB rfl) (leB rfl) (leB rfl) rfl ?_
  intro T L v X q
  subst q
  refine X.ifN (pc' := 20) d33_17 (by decide) rfl ?_
  refine X.aloadN (pc' := 21) d33_20 rfl rfl rfl ?_
  refine X.iloadN (pc' := 22) d33_21 rfl rfl ?_
  refine X.aloadN (pc' := 23) d33_22 rfl rfl rfl ?_
  refine X.iconst (pc' := 24) (2 : Int32) d33_23 rfl rfl ?_
  refine X.callP (pc' := 27) (X.sStatic (wd182 hw) (wd183 hw) (wd2 hw) (wd184 hw) (by decide) rfl pd27 [(.ref s1), (.int n), (.ref t1), (.int (2 : Int32))] rfl rfl d33_24) (rmCh l Z a0 hw s1 n t1 _ _ X.old z O2 hz fm SF rf fs ds ls ld S_s S_t i hi U hfl 2 rfl (by decide)) (wd184 hw) (wd2 hw) (leB rfl) (leB rfl) (leB rfl) (leB rfl) rfl ?_
  intro T L v X q
  subst q
  refine X.ifN (pc' := 30) d33_27 (by decide) rfl ?_
  refine X.aloadN (pc' := 31) d33_30 rfl rfl rfl ?_
  refine X.iloadN (pc' := 32) d33_31 rfl rfl ?_
  refine X.aloadN (pc' := 33) d33_32 rfl rfl rfl ?_
  refine X.iconst (pc' := 34) (3 : Int32) d33_33 rfl rfl ?_
  refine X.callP (pc' := 37) (X.sStatic (wd182 hw) (wd183 hw) (wd2 hw) (wd184 hw) (by decide) rfl pd27 [(.ref s1), (.int n), (.ref t1), (.int (3 : Int32))] rfl rfl d33_34) (rmCh l Z a0 hw s1 n t1 _ _ X.old z O2 hz fm SF rf fs ds ls ld S_s S_t i hi U hfl 3 rfl (by decide)) (wd184 hw) (wd2 hw) (leB rfl) (leB rfl) (leB rfl) (leB rfl) rfl ?_
  intro T L v X q
  subst q
  refine X.ifN (pc' := 40) d33_37 (by decide) rfl ?_
  refine X.aloadN (pc' := 41) d33_40 rfl rfl rfl ?_
  refine X.iloadN (pc' := 42) d33_41 rfl rfl ?_
  refine X.aloadN (pc' := 43) d33_42 rfl rfl rfl ?_
  refine X.iconst (pc' := 44) (4 : Int32) d33_43 rfl rfl ?_
  refine X.callP (pc' := 47) (X.sStatic (wd182 hw) (wd183 hw) (wd2 hw) (wd184 hw) (by decide) rfl pd27 [(.ref s1), (.int n), (.ref t1), (.int (4 : Int32))] rfl rfl d33_44) (rmCh l Z a0 hw s1 n t1 _ _ X.old z O2 hz fm SF rf fs ds ls ld S_s S_t i hi U hfl 4 rfl (by decide)) (wd184 hw) (wd2 hw) (leB rfl) (leB rfl) (leB rfl) (leB rfl) rfl ?_
  intro T L v X q
  subst q
  refine X.ifN (pc' := 50) d33_47 (by decide) rfl ?_
  refine X.aloadN (pc' := 51) d33_50 rfl rfl rfl ?_
  refine X.iloadN (pc' := 52) d33_51 rfl rfl ?_
  refine X.aloadN (pc' := 53) d33_52 rfl rfl rfl ?_
  refine X.iconst (pc' := 54) (5 : Int32) d33_53 rfl rfl ?_
  refine X.callP (pc' := 57) (X.sStatic (wd182 hw) (wd183 hw) (wd2 hw) (wd184 hw) (by decide) rfl pd27 [(.ref s1), (.int n), (.ref t1), (.int (5 : Int32))] rfl rfl d33_54) (rmCh l Z a0 hw s1 n t1 _ _ X.old z O2 hz fm SF rf fs ds ls ld S_s S_t i hi U hfl 5 rfl (by decide)) (wd184 hw) (wd2 hw) (leB rfl) (leB rfl) (leB rfl) (leB rfl) rfl ?_
  intro T L v X q
  subst q
  refine X.ifN (pc' := 60) d33_57 (by decide) rfl ?_
  refine X.aloadN (pc' := 61) d33_60 rfl rfl rfl ?_
  refine X.iloadN (pc' := 62) d33_61 rfl rfl ?_
  refine X.aloadN (pc' := 63) d33_62 rfl rfl rfl ?_
  refine X.bipush (pc' := 65) (6 : Int32) d33_63 rfl rfl ?_
  refine X.callP (pc' := 68) (X.sStatic (wd182 hw) (wd183 hw) (wd2 hw) (wd184 hw) (by decide) rfl pd27 [(.ref s1), (.int n), (.ref t1), (.int (6 : Int32))] rfl rfl d33_65) (rmCh l Z a0 hw s1 n t1 _ _ X.old z O2 hz fm SF rf fs ds ls ld S_s S_t i hi U hfl 6 rfl (by decide)) (wd184 hw) (wd2 hw) (leB rfl) (leB rfl) (leB rfl) (leB rfl) rfl ?_
  intro T L v X q
  subst q
  refine X.ifN (pc' := 71) d33_68 (by decide) rfl ?_
  refine X.aloadN (pc' := 72) d33_71 rfl rfl rfl ?_
  refine X.iloadN (pc' := 73) d33_72 rfl rfl ?_
  refine X.aloadN (pc' := 74) d33_73 rfl rfl rfl ?_
  refine X.bipush (pc' := 76) (7 : Int32) d33_74 rfl rfl ?_
  refine X.callP (pc' := 79) (X.sStatic (wd182 hw) (wd183 hw) (wd2 hw) (wd184 hw) (by decide) rfl pd27 [(.ref s1), (.int n), (.ref t1), (.int (7 : Int32))] rfl rfl d33_76) (rmCh l Z a0 hw s1 n t1 _ _ X.old z O2 hz fm SF rf fs ds ls ld S_s S_t i hi U hfl 7 rfl (by decide)) (wd184 hw) (wd2 hw) (leB rfl) (leB rfl) (leB rfl) (leB rfl) rfl ?_
  intro T L v X q
  subst q
  refine X.ifN (pc' := 82) d33_79 (by decide) rfl ?_
  refine X.aloadN (pc' := 83) d33_82 rfl rfl rfl ?_
  refine X.iloadN (pc' := 84) d33_83 rfl rfl ?_
  refine X.aloadN (pc' := 85) d33_84 rfl rfl rfl ?_
  refine X.bipush (pc' := 87) (8 : Int32) d33_85 rfl rfl ?_
  refine X.callP (pc' := 90) (X.sStatic (wd182 hw) (wd183 hw) (wd2 hw) (wd184 hw) (by decide) rfl pd27 [(.ref s1), (.int n), (.ref t1), (.int (8 : Int32))] rfl rfl d33_87) (rmCh l Z a0 hw s1 n t1 _ _ X.old z O2 hz fm SF rf fs ds ls ld S_s S_t i hi U hfl 8 rfl (by decide)) (wd184 hw) (wd2 hw) (leB rfl) (leB rfl) (leB rfl) (leB rfl) rfl ?_
  intro T L v X q
  subst q
  refine X.ifN (pc' := 93) d33_90 (by decide) rfl ?_
  refine X.aloadN (pc' := 94) d33_93 rfl rfl rfl ?_
  refine X.iloadN (pc' := 95) d33_94 rfl rfl ?_
  refine X.aloadN (pc' := 96) d33_95 rfl rfl rfl ?_
  refine X.bipush (pc' := 98) (9 : Int32) d33_96 rfl rfl ?_
  refine X.callP (pc' := 101) (X.sStatic (wd182 hw) (wd183 hw) (wd2 hw) (wd184 hw) (by decide) rfl pd27 [(.ref s1), (.int n), (.ref t1), (.int (9 : Int32))] rfl rfl d33_98) (rmCh l Z a0 hw s1 n t1 _ _ X.old z O2 hz fm SF rf fs ds ls ld S_s S_t i hi U hfl 9 rfl (by decide)) (wd184 hw) (wd2 hw) (leB rfl) (leB rfl) (leB rfl) (leB rfl) rfl ?_
  intro T L v X q
  subst q
  refine X.ifN (pc' := 104) d33_101 (by decide) rfl ?_
  refine X.aloadN (pc' := 105) d33_104 rfl rfl rfl ?_
  refine X.iloadN (pc' := 106) d33_105 rfl rfl ?_
  refine X.aloadN (pc' := 107) d33_106 rfl rfl rfl ?_
  refine X.bipush (pc' := 109) (10 : Int32) d33_107 rfl rfl ?_
  refine X.callP (pc' := 112) (X.sStatic (wd182 hw) (wd183 hw) (wd2 hw) (wd184 hw) (by decide) rfl pd27 [(.ref s1), (.int n), (.ref t1), (.int (10 : Int32))] rfl rfl d33_109) (rmCh l Z a0 hw s1 n t1 _ _ X.old z O2 hz fm SF rf fs ds ls ld S_s S_t i hi U hfl 10 rfl (by decide)) (wd184 hw) (wd2 hw) (leB rfl) (leB rfl) (leB rfl) (leB rfl) rfl ?_
  intro T L v X q
  subst q
  refine X.ifN (pc' := 115) d33_112 (by decide) rfl ?_
  refine X.aloadN (pc' := 116) d33_115 rfl rfl rfl ?_
  refine X.iloadN (pc' := 117) d33_116 rfl rfl ?_
  refine X.aloadN (pc' := 118) d33_117 rfl rfl rfl ?_
  refine X.bipush (pc' := 120) (11 : Int32) d33_118 rfl rfl ?_
  refine X.callP (pc' := 123) (X.sStatic (wd182 hw) (wd183 hw) (wd2 hw) (wd184 hw) (by decide) rfl pd27 [(.ref s1), (.int n), (.ref t1), (.int (11 : Int32))] rfl rfl d33_120) (rmCh l Z a0 hw s1 n t1 _ _ X.old z O2 hz fm SF rf fs ds ls ld S_s S_t i hi U hfl 11 rfl (by decide)) (wd184 hw) (wd2 hw) (leB rfl) (leB rfl) (leB rfl) (leB rfl) rfl ?_
  intro T L v X q
  subst q
  refine X.ifN (pc' := 126) d33_123 (by decide) rfl ?_
  refine X.aloadN (pc' := 127) d33_126 rfl rfl rfl ?_
  refine X.iloadN (pc' := 128) d33_127 rfl rfl ?_
  refine X.aloadN (pc' := 129) d33_128 rfl rfl rfl ?_
  refine X.bipush (pc' := 131) (12 : Int32) d33_129 rfl rfl ?_
  refine X.callP (pc' := 134) (X.sStatic (wd182 hw) (wd183 hw) (wd2 hw) (wd184 hw) (by decide) rfl pd27 [(.ref s1), (.int n), (.ref t1), (.int (12 : Int32))] rfl rfl d33_131) (rmCh l Z a0 hw s1 n t1 _ _ X.old z O2 hz fm SF rf fs ds ls ld S_s S_t i hi U hfl 12 rfl (by decide)) (wd184 hw) (wd2 hw) (leB rfl) (leB rfl) (leB rfl) (leB rfl) rfl ?_
  intro T L v X q
  subst q
  refine X.ifN (pc' := 137) d33_134 (by decide) rfl ?_
  refine X.aloadN (pc' := 138) d33_137 rfl rfl rfl ?_
  refine X.iloadN (pc' := 139) d33_138 rfl rfl ?_
  refine X.aloadN (pc' := 140) d33_139 rfl rfl rfl ?_
  refine X.bipush (pc' := 142) (13 : Int32) d33_140 rfl rfl ?_
  refine X.callP (pc' := 145) (X.sStatic (wd182 hw) (wd183 hw) (wd2 hw) (wd184 hw) (by decide) rfl pd27 [(.ref s1), (.int n), (.ref t1), (.int (13 : Int32))] rfl rfl d33_142) (rmCh l Z a0 hw s1 n t1 _ _ X.old z O2 hz fm SF rf fs ds ls ld S_s S_t i hi U hfl 13 rfl (by decide)) (wd184 hw) (wd2 hw) (leB rfl) (leB rfl) (leB rfl) (leB rfl) rfl ?_
  intro T L v X q
  subst q
  refine X.ifN (pc' := 148) d33_145 (by decide) rfl ?_
  refine X.iconst (pc' := 149) (1 : Int32) d33_148 rfl rfl ?_
  refine X.goto (pc' := 153) d33_149 (by decide) (by decide) ?_
  exact X.retIN (by simp) rfl d33_153 (by decide) (by decide) ⟨_, rfl, rfl, rfl⟩
set_option maxRecDepth 65536 in
set_option maxHeartbeats 40000000 in
theorem ef_rmSeg (m : MethodId) (s1 : Addr) (n : Int32) (t1 : Addr) : entryFrame m #[(.ref s1), (.int n), (.ref t1)] 3 = mkF m 0 #[.val (.ref s1), .val (.int n), .val (.ref t1)] [] := by first | (simp [entryFrame, mkF, argsToLocals, Value.category]; done) | (rfl)
set_option maxRecDepth 65536 in
set_option maxHeartbeats 40000000 in
theorem rmSeg (l : Launch) (Z : State) (a0 : Array Value) (hw : ∀ d ∈ tables_1, d.before a0 Z = true) (s1 : Addr) (n : Int32) (t1 : Addr) (h0 : Heap) (O : Ext Z.heap h0) (z : Int32) (O2 : Sta Z Z.heap "java/lang/String" "COMPACT_STRINGS" "Z" (.int z)) (hz : ¬ z = 0) (fm : Value) (SF : Sta Z Z.heap "jdk/internal/util/Preconditions" "SIOOBE_FORMATTER" "Ljava/util/function/BiFunction;" fm) (rf : fm.isRef = true) (fs ds : List Int32) (ls : ∀ c ∈ fs, ¬ (255 : Int32) < c) (ld : ∀ c ∈ ds, ¬ (255 : Int32) < c) (S_s : Str Z h0 s1 fs) (S_t : Str Z h0 t1 ds) (i : Nat) (hi : n = Int32.ofNat i) (U : Sub fs i ds) (hfl : fs.length ≤ 4000) :
    MN l Z (⟨"com/example/bounded_lock/boundedlock/HoldToStringPinLaw", "seg", "(Ljava/lang/String;ILjava/lang/String;)Z"⟩ : MethodName) method_3_code 3 (some .boolean) [] ({ frames := 5, cells := 0, slots := 0, locals := 90 } : Room) #[(.ref s1), (.int n), (.ref t1)] h0 [] (RP h0 (fun w => w = .int 1)) := by
  refine MN.mk (a0 := a0) rfl rfl (plainFor_of_name pn8) O (fun m => ef_rmSeg m s1 n t1) ?_
  intro pg ev s m below meth cd T hh X
  subst hh
  have hwl : ∀ d ∈ StrChars.Road.wordsLen, d.before a0 Z = true := fun d hd => hw d ((by decide +kernel : ∀ d ∈ StrChars.Road.wordsLen, d ∈ tables_1) d hd)
  have hwc : ∀ d ∈ StrChars.Road.wordsChN, d.before a0 Z = true := fun d hd => hw d ((by decide +kernel : ∀ d ∈ StrChars.Road.wordsChN, d ∈ tables_1) d hd)
  have hU := U.1
  refine X.aloadN (pc' := 1) d32_0 rfl rfl rfl ?_
  refine X.lenStr (pc' := 4) (X.sVirtual (wd174 hw) (wd73 hw) (wd75 hw) (wd74 hw) (by decide) rfl pd12 S_t.exa [] rfl rfl d32_1 (X.nf (wd75 hw) rfl)) hwl (wd5 hw) S_t O2 hz (leB rfl) (leB rfl) (leB rfl) (leB rfl) rfl ?_
  intro T X
  refine X.iconst (pc' := 5) (1 : Int32) d32_4 rfl rfl ?_
  have el0 : (Int32.ofNat ds.length).toInt = ds.length := ofn (by omega)
  by_cases hl0 : ds.length < 1
  · refine X.icY (pc' := 21) d32_5 ((tlt (by rw [Int32.lt_iff_toInt_lt, el0, show (1 : Int32).toInt = 1 from rfl]; omega)).1) (by decide) (by decide) ?_
    refine X.aloadN (pc' := 22) d32_21 rfl rfl rfl ?_
    refine X.lenStr (pc' := 25) (X.sVirtual (wd174 hw) (wd73 hw) (wd75 hw) (wd74 hw) (by decide) rfl pd12 S_t.exa [] rfl rfl d32_22 (X.nf (wd75 hw) rfl)) hwl (wd5 hw) S_t O2 hz (leB rfl) (leB rfl) (leB rfl) (leB rfl) rfl ?_
    intro T X
    refine X.iconst (pc' := 26) (2 : Int32) d32_25 rfl rfl ?_
    have el1 : (Int32.ofNat ds.length).toInt = ds.length := ofn (by omega)
    by_cases hl1 : ds.length < 2
    · refine X.icY (pc' := 44) d32_26 ((tlt (by rw [Int32.lt_iff_toInt_lt, el1, show (2 : Int32).toInt = 2 from rfl]; omega)).1) (by decide) (by decide) ?_
      refine X.iconst (pc' := 45) (1 : Int32) d32_44 rfl rfl ?_
      refine X.goto (pc' := 49) d32_45 (by decide) (by decide) ?_
      exact X.retIN (by simp) rfl d32_49 (by decide) (by decide) ⟨_, rfl, rfl, rfl⟩
    · refine X.icN (pc' := 29) d32_26 ((flt (by rw [Int32.lt_iff_toInt_lt, el1, show (2 : Int32).toInt = 2 from rfl]; omega)).1) rfl ?_
      refine X.aloadN (pc' := 30) d32_29 rfl rfl rfl ?_
      refine X.iloadN (pc' := 31) d32_30 rfl rfl ?_
      refine X.iconst (pc' := 32) (1 : Int32) d32_31 rfl rfl ?_
      refine X.iadd (pc' := 33) d32_32 rfl ?_
      refine X.chStr (pc' := 36) (i := i + 1) (X.sVirtual (wd185 hw) (wd186 hw) (wd188 hw) (wd187 hw) (by decide) rfl pd26 S_s.exa [(.int (n + (1 : Int32)))] rfl rfl d32_33 (X.nf (wd75 hw) rfl)) hwc (wd5 hw) S_s ls O2 hz SF rf (by omega) (by rw [hi, Int32.ofNat_add]; rfl) (leB rfl) (leB rfl) (leB rfl) (leB rfl) rfl ?_
      intro T X
      refine X.aloadN (pc' := 37) d32_36 rfl rfl rfl ?_
      refine X.iconst (pc' := 38) (1 : Int32) d32_37 rfl rfl ?_
      refine X.chStr (pc' := 41) (i := 1) (X.sVirtual (wd185 hw) (wd186 hw) (wd188 hw) (wd187 hw) (by decide) rfl pd26 S_t.exa [(.int (1 : Int32))] rfl rfl d32_38 (X.nf (wd75 hw) rfl)) hwc (wd5 hw) S_t ld O2 hz SF rf (by omega) rfl (leB rfl) (leB rfl) (leB rfl) (leB rfl) rfl ?_
      intro T X
      refine X.icN (pc' := 44) d32_41 ((teq (U.2 1 (by omega))).2) rfl ?_
      refine X.iconst (pc' := 45) (1 : Int32) d32_44 rfl rfl ?_
      refine X.goto (pc' := 49) d32_45 (by decide) (by decide) ?_
      exact X.retIN (by simp) rfl d32_49 (by decide) (by decide) ⟨_, rfl, rfl, rfl⟩
  · refine X.icN (pc' := 8) d32_5 ((flt (by rw [Int32.lt_iff_toInt_lt, el0, show (1 : Int32).toInt = 1 from rfl]; omega)).1) rfl ?_
    refine X.aloadN (pc' := 9) d32_8 rfl rfl rfl ?_
    refine X.iloadN (pc' := 10) d32_9 rfl rfl ?_
    refine X.chStr (pc' := 13) (i := i + 0) (X.sVirtual (wd185 hw) (wd186 hw) (wd188 hw) (wd187 hw) (by decide) rfl pd26 S_s.exa [(.int n)] rfl rfl d32_10 (X.nf (wd75 hw) rfl)) hwc (wd5 hw) S_s ls O2 hz SF rf (by omega) (by rw [hi, Nat.add_zero]) (leB rfl) (leB rfl) (leB rfl) (leB rfl) rfl ?_
    intro T X
    refine X.aloadN (pc' := 14) d32_13 rfl rfl rfl ?_
    refine X.iconst (pc' := 15) (0 : Int32) d32_14 rfl rfl ?_
    refine X.chStr (pc' := 18) (i := 0) (X.sVirtual (wd185 hw) (wd186 hw) (wd188 hw) (wd187 hw) (by decide) rfl pd26 S_t.exa [(.int (0 : Int32))] rfl rfl d32_15 (X.nf (wd75 hw) rfl)) hwc (wd5 hw) S_t ld O2 hz SF rf (by omega) rfl (leB rfl) (leB rfl) (leB rfl) (leB rfl) rfl ?_
    intro T X
    refine X.icN (pc' := 21) d32_18 ((teq (U.2 0 (by omega))).2) rfl ?_
    refine X.aloadN (pc' := 22) d32_21 rfl rfl rfl ?_
    refine X.lenStr (pc' := 25) (X.sVirtual (wd174 hw) (wd73 hw) (wd75 hw) (wd74 hw) (by decide) rfl pd12 S_t.exa [] rfl rfl d32_22 (X.nf (wd75 hw) rfl)) hwl (wd5 hw) S_t O2 hz (leB rfl) (leB rfl) (leB rfl) (leB rfl) rfl ?_
    intro T X
    refine X.iconst (pc' := 26) (2 : Int32) d32_25 rfl rfl ?_
    have el1 : (Int32.ofNat ds.length).toInt = ds.length := ofn (by omega)
    by_cases hl1 : ds.length < 2
    · refine X.icY (pc' := 44) d32_26 ((tlt (by rw [Int32.lt_iff_toInt_lt, el1, show (2 : Int32).toInt = 2 from rfl]; omega)).1) (by decide) (by decide) ?_
      refine X.iconst (pc' := 45) (1 : Int32) d32_44 rfl rfl ?_
      refine X.goto (pc' := 49) d32_45 (by decide) (by decide) ?_
      exact X.retIN (by simp) rfl d32_49 (by decide) (by decide) ⟨_, rfl, rfl, rfl⟩
    · refine X.icN (pc' := 29) d32_26 ((flt (by rw [Int32.lt_iff_toInt_lt, el1, show (2 : Int32).toInt = 2 from rfl]; omega)).1) rfl ?_
      refine X.aloadN (pc' := 30) d32_29 rfl rfl rfl ?_
      refine X.iloadN (pc' := 31) d32_30 rfl rfl ?_
      refine X.iconst (pc' := 32) (1 : Int32) d32_31 rfl rfl ?_
      refine X.iadd (pc' := 33) d32_32 rfl ?_
      refine X.chStr (pc' := 36) (i := i + 1) (X.sVirtual (wd185 hw) (wd186 hw) (wd188 hw) (wd187 hw) (by decide) rfl pd26 S_s.exa [(.int (n + (1 : Int32)))] rfl rfl d32_33 (X.nf (wd75 hw) rfl)) hwc (wd5 hw) S_s ls O2 hz SF rf (by omega) (by rw [hi, Int32.ofNat_add]; rfl) (leB rfl) (leB rfl) (leB rfl) (leB rfl) rfl ?_
      intro T X
      refine X.aloadN (pc' := 37) d32_36 rfl rfl rfl ?_
      refine X.iconst (pc' := 38) (1 : Int32) d32_37 rfl rfl ?_
      refine X.chStr (pc' := 41) (i := 1) (X.sVirtual (wd185 hw) (wd186 hw) (wd188 hw) (wd187 hw) (by decide) rfl pd26 S_t.exa [(.int (1 : Int32))] rfl rfl d32_38 (X.nf (wd75 hw) rfl)) hwc (wd5 hw) S_t ld O2 hz SF rf (by omega) rfl (leB rfl) (leB rfl) (leB rfl) (leB rfl) rfl ?_
      intro T X
      refine X.icN (pc' := 44) d32_41 ((teq (U.2 1 (by omega))).2) rfl ?_
      refine X.iconst (pc' := 45) (1 : Int32) d32_44 rfl rfl ?_
      refine X.goto (pc' := 49) d32_45 (by decide) (by decide) ?_
      exact X.retIN (by simp) rfl d32_49 (by decide) (by decide) ⟨_, rfl, rfl, rfl⟩
set_option maxRecDepth 65536 in
set_option maxHeartbeats 40000000 in
theorem ef_rm0 (m : MethodId) (p1 : Int32) (p2 : Int32) (p3 : Int32) : entryFrame m #[(.int p1), (.int p2), (.int p3)] maxLocals = mkF m 0 #[.val (.int p1), .val (.int p2), .val (.int p3), .unset, .unset, .unset, .unset, .unset, .unset, .unset] [] := by first | (simp [entryFrame, mkF, argsToLocals, Value.category, maxLocals]; done) | (rfl)
set_option maxRecDepth 65536 in
set_option maxHeartbeats 40000000 in
theorem rm0 (l : Launch) (Z : State) (a0 : Array Value) (hw : ∀ d ∈ tables_1, d.before a0 Z = true) (ew : EW Z a0 consts_1) (p1 : Int32) (p2 : Int32) (p3 : Int32) (h0 : Heap) (O : Ext Z.heap h0) (z : Int32) (O2 : Sta Z Z.heap "java/lang/String" "COMPACT_STRINGS" "Z" (.int z)) (hz : ¬ z = 0) (fm : Value) (SF : Sta Z Z.heap "jdk/internal/util/Preconditions" "SIOOBE_FORMATTER" "Ljava/util/function/BiFunction;" fm) (rf : fm.isRef = true) :
    MCc l Z consts_1 x code maxLocals ret tables_1 room_1 #[(.int p1), (.int p2), (.int p3)] h0 [] (RV (fun w h => w = .int 1)) := by
  refine MCc.mk (a0 := a0) rfl rfl (plainFor_of_name pn8) O ew (fun m => ef_rm0 m p1 p2 p3) ?_
  intro pg ev s m below meth cd T hh X
  subst hh
  have hwl : ∀ d ∈ StrChars.Road.wordsLen, d.before a0 Z = true := fun d hd => hw d ((by decide +kernel : ∀ d ∈ StrChars.Road.wordsLen, d ∈ tables_1) d hd)
  refine X.iloadN (pc' := 1) at_0 rfl rfl ?_
  refine X.coldV (pc' := 4) (X.sStatic (wd0 hw) (wd1 hw) (wd2 hw) (wd3 hw) (by decide) rfl pd28 [(.int p1)] rfl rfl at_1) (rmMk l Z a0 hw ew p1 _ X.old z O2 hz) (wd3 hw) (wd2 hw) (leB rfl) (leB rfl) (leB rfl) (leB rfl) all0 rfl ?_
  intro T vm h L v X K hC q
  obtain ⟨x0, c0, rfl, m0, g0, S_x0⟩ := q
  have lt_x0 := S_x0.lt
  refine X.astoreN (pc' := 5) #[.val (.int p1), .val (.int p2), .val (.int p3), .val (.ref x0), .unset, .unset, .unset, .unset, .unset, .unset] at_4 rfl rfl rfl ?_
  refine X.iloadN (pc' := 6) at_5 rfl rfl ?_
  refine X.coldV (pc' := 9) (X.sStatic (wd0 hw) (wd1 hw) (wd2 hw) (wd3 hw) (by decide) rfl pd28 [(.int p2)] rfl rfl at_6) (rmMk l Z a0 hw ew p2 _ X.old z O2 hz) (wd3 hw) (wd2 hw) (leB rfl) (leB rfl) (leB rfl) (leB rfl) all0 rfl ?_
  intro T vm h L v X K hC q
  obtain ⟨x1, c1, rfl, m1, g1, S_x1⟩ := q
  replace S_x0 := S_x0.keep0 K
  replace lt_x0 := Nat.lt_of_lt_of_le lt_x0 K.1
  have lt_x1 := S_x1.lt
  refine X.astore (pc' := 11) #[.val (.int p1), .val (.int p2), .val (.int p3), .val (.ref x0), .val (.ref x1), .unset, .unset, .unset, .unset, .unset] at_9 rfl rfl rfl ?_
  refine X.iloadN (pc' := 12) at_11 rfl rfl ?_
  refine X.coldV (pc' := 15) (X.sStatic (wd0 hw) (wd1 hw) (wd2 hw) (wd3 hw) (by decide) rfl pd28 [(.int p3)] rfl rfl at_12) (rmMk l Z a0 hw ew p3 _ X.old z O2 hz) (wd3 hw) (wd2 hw) (leB rfl) (leB rfl) (leB rfl) (leB rfl) all0 rfl ?_
  intro T vm h L v X K hC q
  obtain ⟨x2, c2, rfl, m2, g2, S_x2⟩ := q
  replace S_x0 := S_x0.keep0 K
  replace lt_x0 := Nat.lt_of_lt_of_le lt_x0 K.1
  replace S_x1 := S_x1.keep0 K
  replace lt_x1 := Nat.lt_of_lt_of_le lt_x1 K.1
  have lt_x2 := S_x2.lt
  refine X.astore (pc' := 17) #[.val (.int p1), .val (.int p2), .val (.int p3), .val (.ref x0), .val (.ref x1), .val (.ref x2), .unset, .unset, .unset, .unset] at_15 rfl rfl rfl ?_
  refine X.newO (pc' := 20) (wd26 hw) (wd27 hw) (wd28 hw) at_17 (by decide) (by decide) rfl ?_
  intro T h a g_a Ex lt_a E_a D_a X1
  have z_a : Z.heap.size ≤ a := by rw [g_a]; exact X.old.1
  have s_a : s.heap.size ≤ a := by rw [g_a]; exact X.kp.1
  have ne_x0_a : x0 ≠ a := Nat.ne_of_lt (by rw [g_a]; exact lt_x0)
  have ne_x1_a : x1 ≠ a := Nat.ne_of_lt (by rw [g_a]; exact lt_x1)
  have ne_x2_a : x2 ≠ a := Nat.ne_of_lt (by rw [g_a]; exact lt_x2)
  replace S_x0 := S_x0.ext Ex
  replace lt_x0 := Nat.lt_of_lt_of_le lt_x0 Ex.1
  replace S_x1 := S_x1.ext Ex
  replace lt_x1 := Nat.lt_of_lt_of_le lt_x1 Ex.1
  replace S_x2 := S_x2.ext Ex
  replace lt_x2 := Nat.lt_of_lt_of_le lt_x2 Ex.1
  replace X := X1
  have F_a_holder : Fld Z h a "com/example/bounded_lock/boundedlock/Hold" "holder" "Ljava/lang/String;" .null := D_a (Or.inr (wd34 hw)) (ty := (.object "java/lang/String")) (by decide)
  have F_a_kind : Fld Z h a "com/example/bounded_lock/boundedlock/Hold" "kind" "Ljava/lang/String;" .null := D_a (Or.inr (wd36 hw)) (ty := (.object "java/lang/String")) (by decide)
  have F_a_lockName : Fld Z h a "com/example/bounded_lock/boundedlock/Hold" "lockName" "Ljava/lang/String;" .null := D_a (Or.inr (wd38 hw)) (ty := (.object "java/lang/String")) (by decide)
  refine X.dup (pc' := 21) at_20 rfl rfl ?_
  refine X.aload (pc' := 23) at_21 rfl rfl rfl ?_
  refine X.aloadN (pc' := 24) at_23 rfl rfl rfl ?_
  refine X.aload (pc' := 26) at_24 rfl rfl rfl ?_
  refine X.callU (pc' := 29) (X.sSpecial rfl (wd29 hw) (wd30 hw) (wd31 hw) (by decide) rfl pd29 [(.ref x2), (.ref x0), (.ref x1)] rfl rfl at_26) (rmHold l Z a0 hw a (.ref x2) rfl (.ref x0) rfl (.ref x1) rfl _ X.old  z_a E_a F_a_holder F_a_kind F_a_lockName) (wd31 hw) (wd28 hw) (leB rfl) (leB rfl) (leB rfl) (leB rfl) (sfS (Safe.exa X.al E_a (by decide) (by decide)) sf0) (allS z_a all0) (allS (Or.inr s_a) all0) rfl ?_
  intro T h L X K q
  have Ob1 := (obj E_a (wd27 hw))
  replace S_x0 := S_x0.keep1 K ne_x0_a Ob1
  replace lt_x0 := Nat.lt_of_lt_of_le lt_x0 K.1
  replace S_x1 := S_x1.keep1 K ne_x1_a Ob1
  replace lt_x1 := Nat.lt_of_lt_of_le lt_x1 K.1
  replace S_x2 := S_x2.keep1 K ne_x2_a Ob1
  replace lt_x2 := Nat.lt_of_lt_of_le lt_x2 K.1
  replace E_a := E_a.keep K
  replace lt_a := Nat.lt_of_lt_of_le lt_a K.1
  obtain ⟨_, F_a_holder, F_a_kind, F_a_lockName⟩ := q
  have l0 : ∀ c ∈ c0, ¬ (255 : Int32) < c := fun c hc => (g0 c hc).2
  have l1 : ∀ c ∈ c1, ¬ (255 : Int32) < c := fun c hc => (g1 c hc).2
  have l2 : ∀ c ∈ c2, ¬ (255 : Int32) < c := fun c hc => (g2 c hc).2
  refine X.coldV (pc' := 32) (X.sVirtual (wd39 hw) (wd40 hw) (wd42 hw) (wd41 hw) (by decide) rfl pd25 E_a [] rfl rfl at_29 (X.nf (wd42 hw) rfl)) (rmTo l Z a0 hw ew a _ X.old z O2 hz x0 x1 x2 c0 m0 g0 c1 m1 g1 c2 m2 g2 E_a F_a_holder F_a_kind F_a_lockName (Lat.of S_x0 l0) (Lat.of S_x1 l1) (Lat.of S_x2 l2)) (wd43 hw) (wd28 hw) (leB rfl) (leB rfl) (leB rfl) (leB rfl) all0 rfl ?_
  intro T vm h L v X K hC q
  obtain ⟨r, rfl, S_r⟩ := q
  replace S_x0 := S_x0.keep0 K
  replace lt_x0 := Nat.lt_of_lt_of_le lt_x0 K.1
  replace S_x1 := S_x1.keep0 K
  replace lt_x1 := Nat.lt_of_lt_of_le lt_x1 K.1
  replace S_x2 := S_x2.keep0 K
  replace lt_x2 := Nat.lt_of_lt_of_le lt_x2 K.1
  replace E_a := E_a.keep K
  replace lt_a := Nat.lt_of_lt_of_le lt_a K.1
  replace F_a_holder := F_a_holder.keep K nin0
  replace F_a_kind := F_a_kind.keep K nin0
  replace F_a_lockName := F_a_lockName.keep K nin0
  refine X.astore (pc' := 34) #[.val (.int p1), .val (.int p2), .val (.int p3), .val (.ref x0), .val (.ref x1), .val (.ref x2), .val (.ref r), .unset, .unset, .unset] at_32 rfl rfl rfl ?_
  refine X.aloadN (pc' := 35) at_34 rfl rfl rfl ?_
  refine X.lenStr (pc' := 38) (X.sVirtual (wd174 hw) (wd73 hw) (wd75 hw) (wd74 hw) (by decide) rfl pd12 S_x0.exa [] rfl rfl at_35 (X.nf (wd75 hw) rfl)) hwl (wd5 hw) S_x0 O2 hz (leB rfl) (leB rfl) (leB rfl) (leB rfl) rfl ?_
  intro T X
  refine X.istore (pc' := 40) #[.val (.int p1), .val (.int p2), .val (.int p3), .val (.ref x0), .val (.ref x1), .val (.ref x2), .val (.ref r), .val (.int (Int32.ofNat c0.length)), .unset, .unset] at_38 rfl rfl ?_
  refine X.aload (pc' := 42) at_40 rfl rfl rfl ?_
  refine X.lenStr (pc' := 45) (X.sVirtual (wd174 hw) (wd73 hw) (wd75 hw) (wd74 hw) (by decide) rfl pd12 S_x1.exa [] rfl rfl at_42 (X.nf (wd75 hw) rfl)) hwl (wd5 hw) S_x1 O2 hz (leB rfl) (leB rfl) (leB rfl) (leB rfl) rfl ?_
  intro T X
  refine X.istore (pc' := 47) #[.val (.int p1), .val (.int p2), .val (.int p3), .val (.ref x0), .val (.ref x1), .val (.ref x2), .val (.ref r), .val (.int (Int32.ofNat c0.length)), .val (.int (Int32.ofNat c1.length)), .unset] at_45 rfl rfl ?_
  refine X.aload (pc' := 49) at_47 rfl rfl rfl ?_
  refine X.lenStr (pc' := 52) (X.sVirtual (wd174 hw) (wd73 hw) (wd75 hw) (wd74 hw) (by decide) rfl pd12 S_x2.exa [] rfl rfl at_49 (X.nf (wd75 hw) rfl)) hwl (wd5 hw) S_x2 O2 hz (leB rfl) (leB rfl) (leB rfl) (leB rfl) rfl ?_
  intro T X
  refine X.istore (pc' := 54) #[.val (.int p1), .val (.int p2), .val (.int p3), .val (.ref x0), .val (.ref x1), .val (.ref x2), .val (.ref r), .val (.int (Int32.ofNat c0.length)), .val (.int (Int32.ofNat c1.length)), .val (.int (Int32.ofNat c2.length))] at_52 rfl rfl ?_
  refine X.aload (pc' := 56) at_54 rfl rfl rfl ?_
  refine X.nullN (pc' := 59) at_56 rfl ?_
  refine X.aload (pc' := 61) at_59 rfl rfl rfl ?_
  refine X.lenStr (pc' := 64) (X.sVirtual (wd174 hw) (wd73 hw) (wd75 hw) (wd74 hw) (by decide) rfl pd12 S_r.exa [] rfl rfl at_61 (X.nf (wd75 hw) rfl)) hwl (wd5 hw) S_r O2 hz (leB rfl) (leB rfl) (leB rfl) (leB rfl) rfl ?_
  intro T X
  refine X.iload (pc' := 66) at_64 rfl rfl ?_
  refine X.iload (pc' := 68) at_66 rfl rfl ?_
  refine X.iadd (pc' := 69) at_68 rfl ?_
  refine X.iload (pc' := 71) at_69 rfl rfl ?_
  refine X.iadd (pc' := 72) at_71 rfl ?_
  refine X.bipush (pc' := 74) (18 : Int32) at_72 rfl rfl ?_
  refine X.iadd (pc' := 75) at_74 rfl ?_
  have nf : (c0 ++ tx1 ++ c1 ++ tx2 ++ c2).length = c0.length + c1.length + c2.length + 18 := by simp only [List.length_append, tx1_n, tx2_n]; omega
  refine X.icY (pc' := 80) at_75 ((teq (by rw [nf]; simp only [Int32.ofNat_add]; rfl)).1) (by decide) (by decide) ?_
  refine X.aload (pc' := 82) at_80 rfl rfl rfl ?_
  refine X.iconst (pc' := 83) (0 : Int32) at_82 rfl rfl ?_
  refine X.aloadN (pc' := 84) at_83 rfl rfl rfl ?_
  have lf : ∀ c ∈ (c0 ++ tx1 ++ c1 ++ tx2 ++ c2), ¬ (255 : Int32) < c := fun c hc => (lat_app (lat_app (lat_app (lat_app g0 tx1_l) g1) tx2_l) g2 c hc).2
  have hfl : (c0 ++ tx1 ++ c1 ++ tx2 ++ c2).length ≤ 4000 := by rw [nf]; omega
  have U0 : Sub (c0 ++ tx1 ++ c1 ++ tx2 ++ c2) 0 c0 := by have q := Sub.app [] c0 (tx1 ++ c1 ++ tx2 ++ c2); simpa [List.append_assoc] using q
  have U1 : Sub (c0 ++ tx1 ++ c1 ++ tx2 ++ c2) c0.length tx1 := by have q := Sub.app c0 tx1 (c1 ++ tx2 ++ c2); simpa [List.append_assoc] using q
  have U2 : Sub (c0 ++ tx1 ++ c1 ++ tx2 ++ c2) (c0.length + 14) c1 := by have q := Sub.app (c0 ++ tx1) c1 (tx2 ++ c2); rw [List.length_append, tx1_n] at q; simpa [List.append_assoc] using q
  have U3 : Sub (c0 ++ tx1 ++ c1 ++ tx2 ++ c2) (c0.length + 14 + c1.length) tx2 := by have q := Sub.app (c0 ++ tx1 ++ c1) tx2 c2; rw [List.length_append, List.length_append, tx1_n] at q; simpa [List.append_assoc] using q
  have U4 : Sub (c0 ++ tx1 ++ c1 ++ tx2 ++ c2) (c0.length + 18 + c1.length) c2 := by have q := Sub.app (c0 ++ tx1 ++ c1 ++ tx2) c2 []; rw [List.length_append, List.length_append, List.length_append, tx1_n, tx2_n, List.append_nil, show c0.length + 14 + c1.length + 4 = c0.length + 18 + c1.length by omega] at q; exact q
  refine X.callP (pc' := 87) (X.sStatic (wd175 hw) (wd176 hw) (wd2 hw) (wd177 hw) (by decide) rfl pd30 [(.ref r), (.int (0 : Int32)), (.ref x0)] rfl rfl at_84) (rmSeg l Z a0 hw r _ x0 _ X.old z O2 hz fm SF rf (c0 ++ tx1 ++ c1 ++ tx2 ++ c2) c0 lf l0 S_r S_x0 0 rfl U0 hfl) (wd177 hw) (wd2 hw) (leB rfl) (leB rfl) (leB rfl) (leB rfl) rfl ?_
  intro T L v X q
  subst q
  refine X.ifN (pc' := 90) at_87 (by decide) rfl ?_
  refine X.aload (pc' := 92) at_90 rfl rfl rfl ?_
  refine X.iload (pc' := 94) at_92 rfl rfl ?_
  refine X.ldcS (pc' := 96) (vs := [(.int (32 : Int32)), (.int (104 : Int32)), (.int (111 : Int32)), (.int (108 : Int32)), (.int (100 : Int32)), (.int (32 : Int32)), (.int (111 : Int32)), (.int (102 : Int32)), (.int (32 : Int32)), (.int (108 : Int32)), (.int (111 : Int32)), (.int (99 : Int32)), (.int (107 : Int32)), (.int (32 : Int32))]) (z := (14 : Int32)) (wd178 hw) (sa1 hw) (by simp [consts_1, Jvm.Pilot.@@N@@.x]) (by decide) (by decide) rfl at_94 56 (by decide) (by decide) (leB rfl) (leB rfl) rfl ?_
  intro T vm h l5 q1 ka_q1 Ex hC E_l5 F_l5_coder F_l5_value V_q1 lt_l5 lt_q1 sf X
  replace S_x0 := S_x0.ext Ex
  replace S_x1 := S_x1.ext Ex
  replace S_x2 := S_x2.ext Ex
  replace S_r := S_r.ext Ex
  have S_l5 : Str Z h l5 tx1 := Lat.str ⟨q1, ka_q1, E_l5, F_l5_value, F_l5_coder, by rw [tx1_v]; exact V_q1, tx1_l, by decide⟩
  refine X.callP (pc' := 99) (X.sStatic (wd179 hw) (wd180 hw) (wd2 hw) (wd181 hw) (by decide) rfl pd30 [(.ref r), (.int (Int32.ofNat c0.length)), (.ref l5)] rfl rfl at_96) (rmLit l Z a0 hw r _ l5 _ X.old z O2 hz fm SF rf (c0 ++ tx1 ++ c1 ++ tx2 ++ c2) tx1 lf (fun c hc => (tx1_l c hc).2) S_r S_l5 c0.length rfl U1 hfl) (wd181 hw) (wd2 hw) (leB rfl) (leB rfl) (leB rfl) (leB rfl) rfl ?_
  intro T L v X q
  subst q
  refine X.ifN (pc' := 102) at_99 (by decide) rfl ?_
  refine X.aload (pc' := 104) at_102 rfl rfl rfl ?_
  refine X.iload (pc' := 106) at_104 rfl rfl ?_
  refine X.bipush (pc' := 108) (14 : Int32) at_106 rfl rfl ?_
  refine X.iadd (pc' := 109) at_108 rfl ?_
  refine X.aload (pc' := 111) at_109 rfl rfl rfl ?_
  refine X.callP (pc' := 114) (X.sStatic (wd175 hw) (wd176 hw) (wd2 hw) (wd177 hw) (by decide) rfl pd30 [(.ref r), (.int ((Int32.ofNat c0.length) + (14 : Int32))), (.ref x1)] rfl rfl at_111) (rmSeg l Z a0 hw r _ x1 _ X.old z O2 hz fm SF rf (c0 ++ tx1 ++ c1 ++ tx2 ++ c2) c1 lf l1 S_r S_x1 (c0.length + 14) (by rw [Int32.ofNat_add]; rfl) U2 hfl) (wd177 hw) (wd2 hw) (leB rfl) (leB rfl) (leB rfl) (leB rfl) rfl ?_
  intro T L v X q
  subst q
  refine X.ifN (pc' := 117) at_114 (by decide) rfl ?_
  refine X.aload (pc' := 119) at_117 rfl rfl rfl ?_
  refine X.iload (pc' := 121) at_119 rfl rfl ?_
  refine X.bipush (pc' := 123) (14 : Int32) at_121 rfl rfl ?_
  refine X.iadd (pc' := 124) at_123 rfl ?_
  refine X.iload (pc' := 126) at_124 rfl rfl ?_
  refine X.iadd (pc' := 127) at_126 rfl ?_
  refine X.ldcS (pc' := 129) (vs := [(.int (32 : Int32)), (.int (98 : Int32)), (.int (121 : Int32)), (.int (32 : Int32))]) (z := (4 : Int32)) (wd207 hw) (sa1 hw) (by simp [consts_1, Jvm.Pilot.@@N@@.x]) (by decide) (by decide) rfl at_127 16 (by decide) (by decide) (leB rfl) (leB rfl) rfl ?_
  intro T vm h l6 q2 ka_q2 Ex hC E_l6 F_l6_coder F_l6_value V_q2 lt_l6 lt_q2 sf X
  replace S_x0 := S_x0.ext Ex
  replace S_x1 := S_x1.ext Ex
  replace S_x2 := S_x2.ext Ex
  replace S_r := S_r.ext Ex
  have S_l6 : Str Z h l6 tx2 := Lat.str ⟨q2, ka_q2, E_l6, F_l6_value, F_l6_coder, by rw [tx2_v]; exact V_q2, tx2_l, by decide⟩
  refine X.callP (pc' := 132) (X.sStatic (wd179 hw) (wd180 hw) (wd2 hw) (wd181 hw) (by decide) rfl pd30 [(.ref r), (.int (((Int32.ofNat c0.length) + (14 : Int32)) + (Int32.ofNat c1.length))), (.ref l6)] rfl rfl at_129) (rmLit l Z a0 hw r _ l6 _ X.old z O2 hz fm SF rf (c0 ++ tx1 ++ c1 ++ tx2 ++ c2) tx2 lf (fun c hc => (tx2_l c hc).2) S_r S_l6 (c0.length + 14 + c1.length) (by rw [Int32.ofNat_add, Int32.ofNat_add]; rfl) U3 hfl) (wd181 hw) (wd2 hw) (leB rfl) (leB rfl) (leB rfl) (leB rfl) rfl ?_
  intro T L v X q
  subst q
  refine X.ifN (pc' := 135) at_132 (by decide) rfl ?_
  refine X.aload (pc' := 137) at_135 rfl rfl rfl ?_
  refine X.iload (pc' := 139) at_137 rfl rfl ?_
  refine X.bipush (pc' := 141) (18 : Int32) at_139 rfl rfl ?_
  refine X.iadd (pc' := 142) at_141 rfl ?_
  refine X.iload (pc' := 144) at_142 rfl rfl ?_
  refine X.iadd (pc' := 145) at_144 rfl ?_
  refine X.aload (pc' := 147) at_145 rfl rfl rfl ?_
  refine X.callP (pc' := 150) (X.sStatic (wd175 hw) (wd176 hw) (wd2 hw) (wd177 hw) (by decide) rfl pd30 [(.ref r), (.int (((Int32.ofNat c0.length) + (18 : Int32)) + (Int32.ofNat c1.length))), (.ref x2)] rfl rfl at_147) (rmSeg l Z a0 hw r _ x2 _ X.old z O2 hz fm SF rf (c0 ++ tx1 ++ c1 ++ tx2 ++ c2) c2 lf l2 S_r S_x2 (c0.length + 18 + c1.length) (by rw [Int32.ofNat_add, Int32.ofNat_add]; rfl) U4 hfl) (wd177 hw) (wd2 hw) (leB rfl) (leB rfl) (leB rfl) (leB rfl) rfl ?_
  intro T L v X q
  subst q
  refine X.ifN (pc' := 153) at_150 (by decide) rfl ?_
  refine X.iconst (pc' := 154) (1 : Int32) at_153 rfl rfl ?_
  refine X.goto (pc' := 158) at_154 (by decide) (by decide) ?_
  exact X.retIC (by simp) rfl at_158 (by decide) (by decide) ⟨_, rfl, rfl⟩
set_option maxRecDepth 65536 in
set_option maxHeartbeats 40000000 in
theorem comes_1 {Post : Tables → Env → Array Value → State → Outcome → State → Prop} (hpost : ∀ tb e args s v u, (limb_1_1.after args s (.returned v) u = true ∧ limb_1_2.after args s (.returned v) u = true ∧ True) → ReturnedEndW s (.returned v) u (Jvm.fieldLocs frame_1_writes args s ++ Jvm.arrayLocs frame_1_arrays args s ++ Jvm.staticLocs frame_1_statics s) 48 5440 → Post tb e args s (.returned v) u) :
    ArmFor flags0 classFile x code maxLocals ret World_1 tables_1 room_1 Calls_1 rest_1 Pre_1 Post := by
  intro l hfl _ _ p e ha hc hk s m args below hf hA hF happ hP
  obtain ⟨hcalls, hrest, hpre⟩ := hP
  obtain ⟨-, -, -, hnamed, -, -, -, hat⟩ := (Spec.applies_iff hf).mp happ
  obtain ⟨hg, hn⟩ := and_e (Cond.before_iff.mp (show (Jvm.Cond.and given_1 narrow_1).before args s = true from hpre))
  obtain ⟨h1, g0⟩ := and_e hg
  obtain ⟨k0, g1⟩ := and_e g0
  obtain ⟨k1, g2⟩ := and_e g1
  have k2 := g2
  obtain ⟨w0, w1, w2, rfl⟩ : ∃ w0 w1 w2 : Value, args = #[w0, w1, w2] := by
    have hs : args.size = 3 := by simpa [Cond.value, given_1] using h1
    obtain ⟨L⟩ := args
    match L, hs with
    | [w0, w1, w2], _ => exact ⟨w0, w1, w2, rfl⟩
  have hw := fun d (hd : d ∈ tables_1) => atoms_spec (ws := Jvm.Cond.code x code maxLocals ret :: tables_1) hat d (List.mem_cons_of_mem _ hd)
  obtain ⟨hsets, hown0⟩ := atoms_of _ (rest_1_c_eq ▸ (show rest_1_c.before _ s = true from hrest))
  obtain ⟨i0, e0⟩ := is_v k0
  obtain rfl : w0 = (.int i0) := Option.some.inj e0
  obtain ⟨i1, e1⟩ := is_v k1
  obtain rfl : w1 = (.int i1) := Option.some.inj e1
  obtain ⟨i2, e2⟩ := is_v k2
  obtain rfl : w2 = (.int i2) := Option.some.inj e2
  have hcw := hsets _ (List.mem_of_getElem? (i := 2) rfl)
  have ncs := not_v (Cond.before_iff.mp hcw)
  obtain ⟨zcs, ecs⟩ := is_v (Cond.before_iff.mp (hsets _ (List.mem_of_getElem? (i := 1) rfl)))
  have O2 : Sta s s.heap "java/lang/String" "COMPACT_STRINGS" "Z" (.int zcs) := Sta.start ecs (Or.inl (hsets _ (List.mem_of_getElem? (i := 0) rfl)))
  have hcs : ¬ (zcs = (0 : Int32)) := gotF (Cond.eq_ints ecs (Term.int_eval (0))) ncs
  obtain ⟨fm, efm, rf⟩ := isR_v (Cond.before_iff.mp (hsets _ (List.mem_of_getElem? (i := 8) rfl)))
  have SF : Sta s s.heap "jdk/internal/util/Preconditions" "SIOOBE_FORMATTER" "Ljava/util/function/BiFunction;" fm := Sta.start efm (Or.inl (hsets _ (List.mem_of_getElem? (i := 7) rfl)))
  have HC : CHv s consts_1 s.vm s.heap := CHv.start (a0 := _) (ew1 hw) (fun q hq => hcalls.1 q hq) hcw (wd19 hw) (wd5 hw)
  obtain ⟨n, o, h1, h2, h3, v, L, rfl, ⟨⟨w, rfl, rfl⟩, N, -, -⟩, -, hq⟩ := rm0 l s _ hw (ew1 hw) i0 i1 i2 s.heap ⟨Nat.le_refl _, fun _ _ q => q⟩ zcs O2 hcs fm SF rf p e ha hc hk s m _ below hf ((Spec.applies_iff_loose hf).mp happ).1 ⟨rfl, State.Warmed39.refl s, rfl, HC⟩ trivial
  refine ⟨n, _, h1, h2, h3, hpost _ _ _ _ _ _ ⟨Cond.after_iff.mpr rfl, Cond.after_iff.mpr (eq_i res_at (Term.int_eval (1)) rfl), trivial⟩ ⟨hq.1, hq.2.1, hq.2.2.1, (hq.2.2.2.sift fun y hy => Or.inr (N y hy)).mono (by decide) (by decide)⟩⟩
theorem main_1_1 : Claimed_1_1 := comes_1 fun _ _ _ _ _ _ h hF => ⟨h.1, hF⟩
theorem main_1_2 : Claimed_1_2 := comes_1 fun _ _ _ _ _ _ h hF => ⟨h.2.1, hF⟩
end Jvm.Pilot.@@N@@
namespace Jvm.Pilot.@@N@@
open Jvm Jvm.ClassFile Sem Op Lib Jvm.Free Jvm.Stand Jvm.Pilot.@@N@@.Jvm.D
/-! MADE BY PROGRAM (witnessworld.py) out of the Statement's table words and the real class files: 26 classes; the members and pool entries that the words name. The judged class is class 1, her method 5. -/
namespace start1
open Jvm.ClassFile
def u (s : String) : CpInfo := .utf8 (stringToUtf16 s)
/-- a pool by its gaps: so many unusable entries, then the entry; so many at the end -/
def gap : Nat → List CpInfo → List CpInfo
  | 0, r => r
  | n + 1, r => .unusable :: gap n r
def poolList (es : List (Nat × CpInfo)) (last : Nat) : List CpInfo := es.foldr (fun e r => gap e.1 (e.2 :: r)) (gap last [])
def pool (es : List (Nat × CpInfo)) (last : Nat) : Array CpInfo := ⟨poolList es last⟩
def fileOf (pool : Array CpInfo) (this : Nat) (attrs : Array Attribute := #[]) (ms : Array MethodInfo := #[]) (fl : Nat := 33) (sup : Nat := 0) (ifs : Array Nat := #[]) (fds : Array FieldInfo := #[]) : ClassFile where
  minorVersion := 0
  majorVersion := 65
  constantPool := pool
  accessFlags := fl
  thisClass := this
  superClass := sup
  interfaces := ifs
  fields := fds
  methods := ms
  attributes := attrs
def plain (name : String) (sup : Option ClassId) : Class where
  name := name
  kind := .ordinary
  loader := none
  accessFlags := 33
  super := sup
  interfaces := #[]
  cf := none
  fields := #[]
  methods := #[]
  instanceTypes := #[]
  staticTypes := #[]
  resolved := #[]
  callSites := []
  init := .initialized
  statics := none
  mirror := none

def pool0 : Array CpInfo := pool [(5, u "<init>"), (0, u "()V"), (1, .class_ 10), (1, u "java/lang/Object")] 113

def k0c0 : Code := { maxStack := 0, maxLocals := 1, code := object_method_1_code, exceptionTable := #[], attributes := #[] }
def k0m0 : Method := { name := "<init>", desc := "()V", sig := { parameters := [], returnType := none }, accessFlags := 1, code := some k0c0 }
/-- java/lang/Object -/
def k0 : Class := { plain "java/lang/Object" none with
  accessFlags := 33
  interfaces := #[]
  cf := some (fileOf pool0 8 #[] #[{ accessFlags := 1, nameIndex := 5, descriptorIndex := 6, attributes := #[] }] 33 0 #[] #[])
  fields := #[]
  methods := #[k0m0]
  instanceTypes := #[]
  staticTypes := #[]
  resolved := Array.replicate 124 none
  statics := none }

def pool1 : Array CpInfo := pool [(2, .class_ 4), (1, u "java/lang/Object"), (0, u "<init>"), (0, u "()V"), (0, .class_ 8), (0, u "java/lang/String"), (0, .methodref 7 10), (0, .nameAndType 5 11), (0, u "([C)V"), (0, .methodref 7 13), (0, .nameAndType 14 15), (0, u "valueOf"), (0, u "(C)Ljava/lang/String;"), (0, .methodref 7 17), (0, .nameAndType 18 19), (0, u "length"), (0, u "()I"), (0, .methodref 7 21), (0, .nameAndType 22 23), (0, u "charAt"), (0, u "(I)C"), (0, .methodref 25 26), (0, .class_ 27), (0, .nameAndType 28 29), (0, u "com/example/bounded_lock/boundedlock/HoldToStringPinLaw"), (0, u "ch"), (0, u "(Ljava/lang/String;ILjava/lang/String;I)Z"), (0, .methodref 25 31), (0, .nameAndType 32 33), (0, u "mk"), (0, u "(I)Ljava/lang/String;"), (0, .class_ 35), (0, u "com/example/bounded_lock/boundedlock/Hold"), (0, .methodref 34 37), (0, .nameAndType 5 38), (0, u "(Ljava/lang/String;Ljava/lang/String;Ljava/lang/String;)V"), (0, .methodref 34 40), (0, .nameAndType 41 42), (0, u "toString"), (0, u "()Ljava/lang/String;"), (0, .methodref 25 44), (0, .nameAndType 45 46), (0, u "seg"), (0, u "(Ljava/lang/String;ILjava/lang/String;)Z"), (0, .string 48), (0, u " hold of lock "), (0, .methodref 25 50), (0, .nameAndType 51 46), (0, u "lit"), (0, .string 53), (0, u " by "), (3, u "law"), (0, u "(III)Z")] 2

def k1m0 : Method := { name := "<init>", desc := "()V", sig := { parameters := [], returnType := none }, accessFlags := 1, code := none }
def k1c1 : Code := { maxStack := 6, maxLocals := 4, code := method_2_code, exceptionTable := #[], attributes := #[] }
def k1m1 : Method := { name := "mk", desc := "(I)Ljava/lang/String;", sig := { parameters := [.int], returnType := some (.object "java/lang/String") }, accessFlags := 10, code := some k1c1 }
def k1c2 : Code := { maxStack := 3, maxLocals := 3, code := method_3_code, exceptionTable := #[], attributes := #[] }
def k1m2 : Method := { name := "seg", desc := "(Ljava/lang/String;ILjava/lang/String;)Z", sig := { parameters := [(.object "java/lang/String"), .int, (.object "java/lang/String")], returnType := some .boolean }, accessFlags := 10, code := some k1c2 }
def k1c3 : Code := { maxStack := 3, maxLocals := 4, code := method_4_code, exceptionTable := #[], attributes := #[] }
def k1m3 : Method := { name := "ch", desc := "(Ljava/lang/String;ILjava/lang/String;I)Z", sig := { parameters := [(.object "java/lang/String"), .int, (.object "java/lang/String"), .int], returnType := some .boolean }, accessFlags := 10, code := some k1c3 }
def k1c4 : Code := { maxStack := 4, maxLocals := 3, code := method_5_code, exceptionTable := #[], attributes := #[] }
def k1m4 : Method := { name := "lit", desc := "(Ljava/lang/String;ILjava/lang/String;)Z", sig := { parameters := [(.object "java/lang/String"), .int, (.object "java/lang/String")], returnType := some .boolean }, accessFlags := 10, code := some k1c4 }
def k1c5 : Code := { maxStack := 5, maxLocals := 10, code := code, exceptionTable := #[], attributes := #[] }
def k1m5 : Method := { name := "law", desc := "(III)Z", sig := { parameters := [.int, .int, .int], returnType := some .boolean }, accessFlags := 9, code := some k1c5 }
/-- com/example/bounded_lock/boundedlock/HoldToStringPinLaw -/
def k1 : Class := { plain "com/example/bounded_lock/boundedlock/HoldToStringPinLaw" (some 0) with
  accessFlags := 49
  interfaces := #[]
  cf := some (fileOf pool1 25 #[] #[{ accessFlags := 1, nameIndex := 5, descriptorIndex := 6, attributes := #[] }, { accessFlags := 10, nameIndex := 32, descriptorIndex := 33, attributes := #[] }, { accessFlags := 10, nameIndex := 45, descriptorIndex := 46, attributes := #[] }, { accessFlags := 10, nameIndex := 28, descriptorIndex := 29, attributes := #[] }, { accessFlags := 10, nameIndex := 51, descriptorIndex := 46, attributes := #[] }, { accessFlags := 9, nameIndex := 57, descriptorIndex := 58, attributes := #[] }] 49 2 #[] #[])
  fields := #[]
  methods := #[k1m0, k1m1, k1m2, k1m3, k1m4, k1m5]
  instanceTypes := #[]
  staticTypes := #[]
  resolved := Array.replicate 61 none
  statics := none }

def pool2 : Array CpInfo := pool [(1, .class_ 2), (0, u "java/io/Serializable"), (0, .class_ 4), (0, u "java/lang/Object")] 2

/-- java/io/Serializable -/
def k2 : Class := { plain "java/io/Serializable" (some 0) with
  accessFlags := 1537
  interfaces := #[]
  cf := some (fileOf pool2 1 #[] #[] 1537 3 #[] #[])
  fields := #[]
  methods := #[]
  instanceTypes := #[]
  staticTypes := #[]
  resolved := Array.replicate 7 none
  statics := none }

def pool3 : Array CpInfo := pool [(1, .class_ 2), (0, u "java/lang/Comparable"), (0, .class_ 4), (0, u "java/lang/Object")] 7

/-- java/lang/Comparable -/
def k3 : Class := { plain "java/lang/Comparable" (some 0) with
  accessFlags := 1537
  interfaces := #[]
  cf := some (fileOf pool3 1 #[] #[] 1537 3 #[] #[])
  fields := #[]
  methods := #[]
  instanceTypes := #[]
  staticTypes := #[]
  resolved := Array.replicate 12 none
  statics := none }

def pool4 : Array CpInfo := pool [(2, .class_ 4), (1, u "java/lang/CharSequence"), (42, .class_ 48), (0, u "java/lang/CharSequence$1CodePointIterator"), (10, .class_ 60), (0, u "java/lang/CharSequence$1CharIterator"), (5, .class_ 67), (0, u "java/lang/Object")] 63

/-- java/lang/CharSequence -/
def k4 : Class := { plain "java/lang/CharSequence" (some 0) with
  accessFlags := 1537
  interfaces := #[]
  cf := some (fileOf pool4 2 #[.nestMembers #[47, 59]] #[] 1537 66 #[] #[])
  fields := #[]
  methods := #[]
  instanceTypes := #[]
  staticTypes := #[]
  resolved := Array.replicate 131 none
  statics := none }

def pool5 : Array CpInfo := pool [(1, .class_ 2), (0, u "java/lang/constant/Constable"), (0, .class_ 4), (0, u "java/lang/Object")] 6

/-- java/lang/constant/Constable -/
def k5 : Class := { plain "java/lang/constant/Constable" (some 0) with
  accessFlags := 1537
  interfaces := #[]
  cf := some (fileOf pool5 1 #[] #[] 1537 3 #[] #[])
  fields := #[]
  methods := #[]
  instanceTypes := #[]
  staticTypes := #[]
  resolved := Array.replicate 11 none
  statics := none }

def pool6 : Array CpInfo := pool [(1, .class_ 2), (0, u "java/lang/constant/ConstantDesc"), (0, .class_ 4), (0, u "java/lang/Object")] 32

/-- java/lang/constant/ConstantDesc -/
def k6 : Class := { plain "java/lang/constant/ConstantDesc" (some 0) with
  accessFlags := 1537
  interfaces := #[]
  cf := some (fileOf pool6 1 #[] #[] 1537 3 #[] #[])
  fields := #[]
  methods := #[]
  instanceTypes := #[]
  staticTypes := #[]
  resolved := Array.replicate 37 none
  statics := none }

def pool7 : Array CpInfo := pool [(1, .methodref 2 3), (0, .class_ 4), (0, .nameAndType 5 6), (0, u "java/lang/Object"), (0, u "<init>"), (0, u "()V"), (0, .string 8), (0, u ""), (0, .fieldref 10 11), (0, .class_ 12), (0, .nameAndType 13 14), (0, u "java/lang/String"), (0, u "value"), (0, u "[B"), (0, .fieldref 10 16), (0, .nameAndType 17 18), (0, u "coder"), (0, u "B"), (2, u "hash"), (0, u "I"), (2, u "hashIsZero"), (0, u "Z"), (0, .methodref 10 28), (0, .nameAndType 5 29), (0, u "([CIILjava/lang/Void;)V"), (8, .fieldref 10 39), (0, .nameAndType 40 26), (0, u "COMPACT_STRINGS"), (1, .class_ 44), (1, u "java/lang/StringUTF16"), (0, u "compress"), (1, .methodref 42 48), (0, .nameAndType 49 50), (0, u "coderFromArrayLen"), (0, u "([BI)B"), (2, u "toBytes"), (0, .methodref 55 56), (0, .class_ 57), (0, .nameAndType 58 59), (0, u "java/util/Arrays"), (0, u "copyOfRange"), (0, u "([BII)[B"), (47, .class_ 109), (1, u "java/lang/StringLatin1"), (32, u "()Z"), (34, .methodref 42 178), (0, .nameAndType 45 179), (0, u "([CII)[B"), (13, .class_ 195), (1, u "java/lang/System"), (13, .methodref 10 210), (0, .nameAndType 5 211), (0, u "([BB)V"), (0, .methodref 193 213), (0, .nameAndType 214 215), (0, u "arraycopy"), (0, u "(Ljava/lang/Object;ILjava/lang/Object;II)V"), (118, u "()I"), (0, .methodref 10 336), (0, .nameAndType 17 337), (0, u "()B"), (2, u "()[B"), (22, u "([BI)C"), (5, u "(C)Z"), (21, u "(II)V"), (35, u "(I)C"), (61, .methodref 10 490), (0, .nameAndType 5 491), (0, u "(Ljava/lang/AbstractStringBuilder;Ljava/lang/Void;)V"), (0, .methodref 10 493), (0, .nameAndType 494 142), (0, u "isLatin1"), (0, .methodref 107 496), (0, .nameAndType 497 363), (0, u "charAt"), (3, u "checkIndex"), (4, .nameAndType 507 334), (0, u "length"), (24, u "getBytes"), (16, .methodref 550 506), (0, .class_ 551), (0, u "java/lang/AbstractStringBuilder"), (0, .methodref 550 553), (0, .nameAndType 554 340), (0, u "getValue"), (20, .class_ 576), (0, u "java/lang/CharSequence"), (22, u "CASE_INSENSITIVE_ORDER"), (0, u "Ljava/util/Comparator;"), (181, u "valueOf"), (0, u "(C)Ljava/lang/String;"), (37, u "([BIB)V"), (188, u "([C)V"), (4, .methodref 107 1016), (0, .nameAndType 1017 369), (0, u "canEncode"), (0, .methodref 107 1019), (0, .nameAndType 53 1020), (0, u "(C)[B"), (26, .methodref 550 493), (5, .fieldref 1054 1055), (0, .class_ 1056), (0, .nameAndType 1057 1058), (0, u "jdk/internal/util/Preconditions"), (0, u "SIOOBE_FORMATTER"), (0, u "Ljava/util/function/BiFunction;"), (0, .methodref 1054 1060), (0, .nameAndType 501 1061), (0, u "(IILjava/util/function/BiFunction;)I"), (39, u "serialPersistentFields"), (0, u "[Ljava/io/ObjectStreamField;"), (0, .class_ 1104), (0, u "java/lang/String$CaseInsensitiveComparator"), (1, .class_ 1107), (0, u "java/io/Serializable"), (0, .class_ 1109), (0, u "java/lang/Comparable"), (0, .class_ 1111), (0, u "java/lang/constant/Constable"), (0, .class_ 1113), (0, u "java/lang/constant/ConstantDesc"), (2, u "serialVersionUID"), (0, u "J"), (3, u "REPL"), (0, u "C"), (2, u "LATIN1"), (1, u "UTF16"), (105, u "(Ljava/lang/StringBuilder;)V")] 217

def k7m0 : Method := { name := "<init>", desc := "()V", sig := { parameters := [], returnType := none }, accessFlags := 1, code := none }
def k7c1 : Code := { maxStack := 5, maxLocals := 2, code := jdk_42_method_3_code, exceptionTable := #[], attributes := #[] }
def k7m1 : Method := { name := "<init>", desc := "([C)V", sig := { parameters := [(.array .char)], returnType := none }, accessFlags := 1, code := some k7c1 }
def k7c2 : Code := { maxStack := 3, maxLocals := 2, code := jdk_42_method_53_code, exceptionTable := #[], attributes := #[] }
def k7m2 : Method := { name := "<init>", desc := "(Ljava/lang/StringBuilder;)V", sig := { parameters := [(.object "java/lang/StringBuilder")], returnType := none }, accessFlags := 1, code := some k7c2 }
def k7c3 : Code := { maxStack := 2, maxLocals := 1, code := jdk_42_method_54_code, exceptionTable := #[], attributes := #[] }
def k7m3 : Method := { name := "length", desc := "()I", sig := { parameters := [], returnType := some .int }, accessFlags := 1, code := some k7c3 }
def k7c4 : Code := { maxStack := 2, maxLocals := 2, code := jdk_42_method_56_code, exceptionTable := #[], attributes := #[] }
def k7m4 : Method := { name := "charAt", desc := "(I)C", sig := { parameters := [.int], returnType := some .char }, accessFlags := 1, code := some k7c4 }
def k7c5 : Code := { maxStack := 4, maxLocals := 1, code := jdk_42_method_139_code, exceptionTable := #[], attributes := #[] }
def k7m5 : Method := { name := "valueOf", desc := "(C)Ljava/lang/String;", sig := { parameters := [.char], returnType := some (.object "java/lang/String") }, accessFlags := 9, code := some k7c5 }
def k7c6 : Code := { maxStack := 5, maxLocals := 4, code := jdk_42_method_147_code, exceptionTable := #[], attributes := #[] }
def k7m6 : Method := { name := "getBytes", desc := "([BIB)V", sig := { parameters := [(.array .byte), .int, .byte], returnType := none }, accessFlags := 0, code := some k7c6 }
def k7c7 : Code := { maxStack := 4, maxLocals := 6, code := jdk_42_method_149_code, exceptionTable := #[], attributes := #[] }
def k7m7 : Method := { name := "<init>", desc := "([CIILjava/lang/Void;)V", sig := { parameters := [(.array .char), .int, .int, (.object "java/lang/Void")], returnType := none }, accessFlags := 2, code := some k7c7 }
def k7c8 : Code := { maxStack := 5, maxLocals := 5, code := jdk_42_method_150_code, exceptionTable := #[], attributes := #[] }
def k7m8 : Method := { name := "<init>", desc := "(Ljava/lang/AbstractStringBuilder;Ljava/lang/Void;)V", sig := { parameters := [(.object "java/lang/AbstractStringBuilder"), (.object "java/lang/Void")], returnType := none }, accessFlags := 0, code := some k7c8 }
def k7c9 : Code := { maxStack := 2, maxLocals := 3, code := jdk_42_method_151_code, exceptionTable := #[], attributes := #[] }
def k7m9 : Method := { name := "<init>", desc := "([BB)V", sig := { parameters := [(.array .byte), .byte], returnType := none }, accessFlags := 0, code := some k7c9 }
def k7c10 : Code := { maxStack := 1, maxLocals := 1, code := jdk_42_method_152_code, exceptionTable := #[], attributes := #[] }
def k7m10 : Method := { name := "coder", desc := "()B", sig := { parameters := [], returnType := some .byte }, accessFlags := 0, code := some k7c10 }
def k7c11 : Code := { maxStack := 1, maxLocals := 1, code := jdk_42_method_154_code, exceptionTable := #[], attributes := #[] }
def k7m11 : Method := { name := "isLatin1", desc := "()Z", sig := { parameters := [], returnType := some .boolean }, accessFlags := 0, code := some k7c11 }
def k7c12 : Code := { maxStack := 3, maxLocals := 2, code := jdk_42_method_155_code, exceptionTable := #[], attributes := #[] }
def k7m12 : Method := { name := "checkIndex", desc := "(II)V", sig := { parameters := [.int, .int], returnType := none }, accessFlags := 8, code := some k7c12 }
/-- java/lang/String -/
def k7 : Class := { plain "java/lang/String" (some 0) with
  accessFlags := 49
  interfaces := #[2, 3, 4, 5, 6]
  cf := some (fileOf pool7 10 #[.nestMembers #[1103]] #[{ accessFlags := 1, nameIndex := 5, descriptorIndex := 6, attributes := #[] }, { accessFlags := 1, nameIndex := 5, descriptorIndex := 1010, attributes := #[] }, { accessFlags := 1, nameIndex := 5, descriptorIndex := 1233, attributes := #[] }, { accessFlags := 1, nameIndex := 507, descriptorIndex := 334, attributes := #[] }, { accessFlags := 1, nameIndex := 497, descriptorIndex := 427, attributes := #[] }, { accessFlags := 9, nameIndex := 782, descriptorIndex := 783, attributes := #[] }, { accessFlags := 0, nameIndex := 532, descriptorIndex := 821, attributes := #[] }, { accessFlags := 2, nameIndex := 5, descriptorIndex := 29, attributes := #[] }, { accessFlags := 0, nameIndex := 5, descriptorIndex := 491, attributes := #[] }, { accessFlags := 0, nameIndex := 5, descriptorIndex := 211, attributes := #[] }, { accessFlags := 0, nameIndex := 17, descriptorIndex := 337, attributes := #[] }, { accessFlags := 0, nameIndex := 494, descriptorIndex := 142, attributes := #[] }, { accessFlags := 8, nameIndex := 501, descriptorIndex := 391, attributes := #[] }] 49 2 #[1106, 1108, 575, 1110, 1112] #[{ accessFlags := 18, nameIndex := 13, descriptorIndex := 14, attributes := #[] }, { accessFlags := 18, nameIndex := 17, descriptorIndex := 18, attributes := #[] }, { accessFlags := 2, nameIndex := 21, descriptorIndex := 22, attributes := #[] }, { accessFlags := 2, nameIndex := 25, descriptorIndex := 26, attributes := #[] }, { accessFlags := 26, nameIndex := 1116, descriptorIndex := 1117, attributes := #[] }, { accessFlags := 24, nameIndex := 40, descriptorIndex := 26, attributes := #[] }, { accessFlags := 26, nameIndex := 1101, descriptorIndex := 1102, attributes := #[] }, { accessFlags := 26, nameIndex := 1121, descriptorIndex := 1122, attributes := #[] }, { accessFlags := 25, nameIndex := 599, descriptorIndex := 600, attributes := #[] }, { accessFlags := 24, nameIndex := 1125, descriptorIndex := 18, attributes := #[] }, { accessFlags := 24, nameIndex := 1127, descriptorIndex := 18, attributes := #[] }])
  fields := #[{ name := "value", type := (.array .byte), accessFlags := 18, slot := 0, constantValue := 0 }, { name := "coder", type := .byte, accessFlags := 18, slot := 1, constantValue := 0 }, { name := "hash", type := .int, accessFlags := 2, slot := 2, constantValue := 0 }, { name := "hashIsZero", type := .boolean, accessFlags := 2, slot := 3, constantValue := 0 }, { name := "serialVersionUID", type := .long, accessFlags := 26, slot := 0, constantValue := 0 }, { name := "COMPACT_STRINGS", type := .boolean, accessFlags := 24, slot := 1, constantValue := 0 }, { name := "serialPersistentFields", type := (.array (.object "java/io/ObjectStreamField")), accessFlags := 26, slot := 2, constantValue := 0 }, { name := "REPL", type := .char, accessFlags := 26, slot := 3, constantValue := 0 }, { name := "CASE_INSENSITIVE_ORDER", type := (.object "java/util/Comparator"), accessFlags := 25, slot := 4, constantValue := 0 }, { name := "LATIN1", type := .byte, accessFlags := 24, slot := 5, constantValue := 0 }, { name := "UTF16", type := .byte, accessFlags := 24, slot := 6, constantValue := 0 }]
  methods := #[k7m0, k7m1, k7m2, k7m3, k7m4, k7m5, k7m6, k7m7, k7m8, k7m9, k7m10, k7m11, k7m12]
  instanceTypes := #[(.array .byte), .byte, .int, .boolean]
  staticTypes := #[.long, .boolean, (.array (.object "java/io/ObjectStreamField")), .char, (.object "java/util/Comparator"), .byte, .byte]
  resolved := Array.replicate 1451 none
  statics := some 0 }

def pool8 : Array CpInfo := pool [(1, .methodref 2 3), (0, .class_ 4), (0, .nameAndType 5 6), (0, u "java/lang/Object"), (0, u "<init>"), (0, u "()V"), (0, .fieldref 8 9), (0, .class_ 10), (0, .nameAndType 11 12), (0, u "com/example/bounded_lock/boundedlock/Hold"), (0, u "holder"), (0, u "Ljava/lang/String;"), (0, .fieldref 8 14), (0, .nameAndType 15 12), (0, u "kind"), (0, .fieldref 8 17), (0, .nameAndType 18 12), (0, u "lockName"), (12, .class_ 32), (0, u "java/lang/StringBuilder"), (0, .methodref 31 3), (0, .methodref 31 35), (0, .nameAndType 36 37), (0, u "append"), (0, u "(Ljava/lang/String;)Ljava/lang/StringBuilder;"), (0, .string 39), (0, u " hold of lock "), (0, .string 41), (0, u " by "), (0, .methodref 31 43), (0, .nameAndType 44 45), (0, u "toString"), (0, u "()Ljava/lang/String;"), (0, u "(Ljava/lang/String;Ljava/lang/String;Ljava/lang/String;)V")] 7

def k8c0 : Code := { maxStack := 2, maxLocals := 4, code := prog_3_method_1_code, exceptionTable := #[], attributes := #[] }
def k8m0 : Method := { name := "<init>", desc := "(Ljava/lang/String;Ljava/lang/String;Ljava/lang/String;)V", sig := { parameters := [(.object "java/lang/String"), (.object "java/lang/String"), (.object "java/lang/String")], returnType := none }, accessFlags := 0, code := some k8c0 }
def k8c1 : Code := { maxStack := 2, maxLocals := 1, code := prog_3_method_4_code, exceptionTable := #[], attributes := #[] }
def k8m1 : Method := { name := "toString", desc := "()Ljava/lang/String;", sig := { parameters := [], returnType := some (.object "java/lang/String") }, accessFlags := 1, code := some k8c1 }
/-- com/example/bounded_lock/boundedlock/Hold -/
def k8 : Class := { plain "com/example/bounded_lock/boundedlock/Hold" (some 0) with
  accessFlags := 32
  interfaces := #[]
  cf := some (fileOf pool8 8 #[] #[{ accessFlags := 0, nameIndex := 5, descriptorIndex := 46, attributes := #[] }, { accessFlags := 1, nameIndex := 44, descriptorIndex := 45, attributes := #[] }] 32 2 #[] #[{ accessFlags := 18, nameIndex := 11, descriptorIndex := 12, attributes := #[] }, { accessFlags := 18, nameIndex := 15, descriptorIndex := 12, attributes := #[] }, { accessFlags := 18, nameIndex := 18, descriptorIndex := 12, attributes := #[] }])
  fields := #[{ name := "holder", type := (.object "java/lang/String"), accessFlags := 18, slot := 0, constantValue := 0 }, { name := "kind", type := (.object "java/lang/String"), accessFlags := 18, slot := 1, constantValue := 0 }, { name := "lockName", type := (.object "java/lang/String"), accessFlags := 18, slot := 2, constantValue := 0 }]
  methods := #[k8m0, k8m1]
  instanceTypes := #[(.object "java/lang/String"), (.object "java/lang/String"), (.object "java/lang/String")]
  staticTypes := #[]
  resolved := Array.replicate 54 none
  statics := none }

def pool9 : Array CpInfo := pool [(1, .class_ 2), (0, u "java/lang/Appendable"), (0, .class_ 4), (0, u "java/lang/Object")] 9

/-- java/lang/Appendable -/
def k9 : Class := { plain "java/lang/Appendable" (some 0) with
  accessFlags := 1537
  interfaces := #[]
  cf := some (fileOf pool9 1 #[] #[] 1537 3 #[] #[])
  fields := #[]
  methods := #[]
  instanceTypes := #[]
  staticTypes := #[]
  resolved := Array.replicate 14 none
  statics := none }

def pool10 : Array CpInfo := pool [(1, .class_ 2), (0, u "java/lang/String"), (0, .methodref 4 5), (0, .class_ 6), (0, .nameAndType 7 8), (0, u "java/lang/Object"), (0, u "<init>"), (0, u "()V"), (1, .class_ 12), (1, u "java/lang/AbstractStringBuilder"), (0, u "EMPTYVALUE"), (0, u "[B"), (0, .fieldref 10 16), (0, .nameAndType 17 14), (0, u "value"), (0, .fieldref 1 19), (0, .nameAndType 20 21), (0, u "COMPACT_STRINGS"), (0, u "Z"), (0, .fieldref 10 23), (0, .nameAndType 24 25), (0, u "coder"), (0, u "B"), (6, .methodref 1 33), (0, .nameAndType 34 35), (0, u "length"), (0, u "()I"), (3, .integer 2147483647), (0, .methodref 1 41), (0, .nameAndType 24 42), (0, u "()B"), (2, u "append"), (0, u "(Ljava/lang/String;)Ljava/lang/AbstractStringBuilder;"), (1, .class_ 49), (0, u "java/lang/CharSequence"), (19, u "(Ljava/lang/String;)V"), (5, u "maybeLatin1"), (3, .fieldref 10 80), (0, .nameAndType 81 82), (0, u "count"), (0, u "I"), (2, u "isLatin1"), (0, u "()Z"), (13, .methodref 10 101), (0, .nameAndType 102 103), (0, u "ensureCapacityInternal"), (0, u "(I)V"), (0, .methodref 10 105), (0, .nameAndType 106 107), (0, u "newCapacity"), (0, u "(I)I"), (0, .methodref 109 110), (0, .class_ 111), (0, .nameAndType 112 113), (0, u "java/util/Arrays"), (0, u "copyOf"), (0, u "([BI)[B"), (0, .methodref 115 116), (0, .class_ 117), (0, .nameAndType 118 119), (0, u "jdk/internal/util/ArraysSupport"), (0, u "newLength"), (0, u "(III)I"), (88, .methodref 10 209), (0, .nameAndType 210 211), (0, u "putStringAt"), (0, u "(ILjava/lang/String;)V"), (5, u "inflateIfNeededFor"), (2, .nameAndType 221 222), (0, u "getBytes"), (0, u "([BIB)V"), (174, .methodref 10 398), (0, .nameAndType 217 69), (0, .methodref 1 220), (3, u "()[B"), (40, .class_ 445), (0, u "java/lang/Appendable"), (106, u "getValue")] 56

def k10m0 : Method := { name := "<init>", desc := "()V", sig := { parameters := [], returnType := none }, accessFlags := 0, code := none }
def k10c1 : Code := { maxStack := 2, maxLocals := 2, code := jdk_68_method_2_code, exceptionTable := #[], attributes := #[] }
def k10m1 : Method := { name := "<init>", desc := "(I)V", sig := { parameters := [.int], returnType := none }, accessFlags := 0, code := some k10c1 }
def k10c2 : Code := { maxStack := 1, maxLocals := 1, code := jdk_68_method_6_code, exceptionTable := #[], attributes := #[] }
def k10m2 : Method := { name := "length", desc := "()I", sig := { parameters := [], returnType := some .int }, accessFlags := 1, code := some k10c2 }
def k10c3 : Code := { maxStack := 4, maxLocals := 3, code := jdk_68_method_9_code, exceptionTable := #[], attributes := #[] }
def k10m3 : Method := { name := "ensureCapacityInternal", desc := "(I)V", sig := { parameters := [.int], returnType := none }, accessFlags := 2, code := some k10c3 }
def k10c4 : Code := { maxStack := 5, maxLocals := 6, code := jdk_68_method_10_code, exceptionTable := #[], attributes := #[] }
def k10m4 : Method := { name := "newCapacity", desc := "(I)I", sig := { parameters := [.int], returnType := some .int }, accessFlags := 2, code := some k10c4 }
def k10c5 : Code := { maxStack := 3, maxLocals := 3, code := jdk_68_method_22_code, exceptionTable := #[], attributes := #[] }
def k10m5 : Method := { name := "append", desc := "(Ljava/lang/String;)Ljava/lang/AbstractStringBuilder;", sig := { parameters := [(.object "java/lang/String")], returnType := some (.object "java/lang/AbstractStringBuilder") }, accessFlags := 1, code := some k10c5 }
def k10c6 : Code := { maxStack := 1, maxLocals := 1, code := jdk_68_method_64_code, exceptionTable := #[], attributes := #[] }
def k10m6 : Method := { name := "getValue", desc := "()[B", sig := { parameters := [], returnType := some (.array .byte) }, accessFlags := 16, code := some k10c6 }
def k10c7 : Code := { maxStack := 1, maxLocals := 1, code := jdk_68_method_68_code, exceptionTable := #[], attributes := #[] }
def k10m7 : Method := { name := "isLatin1", desc := "()Z", sig := { parameters := [], returnType := some .boolean }, accessFlags := 16, code := some k10c7 }
def k10c8 : Code := { maxStack := 2, maxLocals := 2, code := jdk_68_method_71_code, exceptionTable := #[], attributes := #[] }
def k10m8 : Method := { name := "inflateIfNeededFor", desc := "(Ljava/lang/String;)V", sig := { parameters := [(.object "java/lang/String")], returnType := none }, accessFlags := 2, code := some k10c8 }
def k10c9 : Code := { maxStack := 4, maxLocals := 3, code := jdk_68_method_73_code, exceptionTable := #[], attributes := #[] }
def k10m9 : Method := { name := "putStringAt", desc := "(ILjava/lang/String;)V", sig := { parameters := [.int, (.object "java/lang/String")], returnType := none }, accessFlags := 2, code := some k10c9 }
/-- java/lang/AbstractStringBuilder -/
def k10 : Class := { plain "java/lang/AbstractStringBuilder" (some 0) with
  accessFlags := 1056
  interfaces := #[9, 4]
  cf := some (fileOf pool10 10 #[] #[{ accessFlags := 0, nameIndex := 7, descriptorIndex := 8, attributes := #[] }, { accessFlags := 0, nameIndex := 7, descriptorIndex := 103, attributes := #[] }, { accessFlags := 1, nameIndex := 34, descriptorIndex := 35, attributes := #[] }, { accessFlags := 2, nameIndex := 102, descriptorIndex := 103, attributes := #[] }, { accessFlags := 2, nameIndex := 106, descriptorIndex := 107, attributes := #[] }, { accessFlags := 1, nameIndex := 45, descriptorIndex := 46, attributes := #[] }, { accessFlags := 16, nameIndex := 552, descriptorIndex := 403, attributes := #[] }, { accessFlags := 16, nameIndex := 85, descriptorIndex := 86, attributes := #[] }, { accessFlags := 2, nameIndex := 217, descriptorIndex := 69, attributes := #[] }, { accessFlags := 2, nameIndex := 210, descriptorIndex := 211, attributes := #[] }] 1056 4 #[444, 48] #[{ accessFlags := 0, nameIndex := 17, descriptorIndex := 14, attributes := #[] }, { accessFlags := 0, nameIndex := 24, descriptorIndex := 25, attributes := #[] }, { accessFlags := 0, nameIndex := 75, descriptorIndex := 21, attributes := #[] }, { accessFlags := 0, nameIndex := 81, descriptorIndex := 82, attributes := #[] }, { accessFlags := 26, nameIndex := 13, descriptorIndex := 14, attributes := #[] }])
  fields := #[{ name := "value", type := (.array .byte), accessFlags := 0, slot := 0, constantValue := 0 }, { name := "coder", type := .byte, accessFlags := 0, slot := 1, constantValue := 0 }, { name := "maybeLatin1", type := .boolean, accessFlags := 0, slot := 2, constantValue := 0 }, { name := "count", type := .int, accessFlags := 0, slot := 3, constantValue := 0 }, { name := "EMPTYVALUE", type := (.array .byte), accessFlags := 26, slot := 0, constantValue := 0 }]
  methods := #[k10m0, k10m1, k10m2, k10m3, k10m4, k10m5, k10m6, k10m7, k10m8, k10m9]
  instanceTypes := #[(.array .byte), .byte, .boolean, .int]
  staticTypes := #[(.array .byte)]
  resolved := Array.replicate 609 none
  statics := none }

def pool11 : Array CpInfo := pool [(1, .methodref 2 3), (0, .class_ 4), (0, .nameAndType 5 6), (0, u "java/lang/AbstractStringBuilder"), (0, u "<init>"), (0, u "(I)V"), (11, .class_ 20), (1, u "java/lang/String"), (3, .class_ 26), (1, u "java/lang/StringBuilder"), (0, u "append"), (0, u "(Ljava/lang/String;)Ljava/lang/StringBuilder;"), (0, .methodref 2 30), (0, .nameAndType 27 31), (0, u "(Ljava/lang/String;)Ljava/lang/AbstractStringBuilder;"), (105, .methodref 18 138), (0, .nameAndType 5 139), (0, u "(Ljava/lang/StringBuilder;)V"), (5, u "()V"), (10, u "()I"), (186, .methodref 2 344), (0, .nameAndType 345 156), (0, u "length"), (3, .class_ 350), (0, u "java/lang/Appendable"), (0, .class_ 352), (0, u "java/io/Serializable"), (0, .class_ 354), (0, u "java/lang/Comparable"), (0, .class_ 356), (0, u "java/lang/CharSequence"), (0, u "serialVersionUID"), (0, u "J"), (40, u "toString"), (0, u "()Ljava/lang/String;")] 21

def k11c0 : Code := { maxStack := 2, maxLocals := 1, code := jdk_67_method_1_code, exceptionTable := #[], attributes := #[] }
def k11m0 : Method := { name := "<init>", desc := "()V", sig := { parameters := [], returnType := none }, accessFlags := 1, code := some k11c0 }
def k11c1 : Code := { maxStack := 2, maxLocals := 2, code := jdk_67_method_7_code, exceptionTable := #[], attributes := #[] }
def k11m1 : Method := { name := "append", desc := "(Ljava/lang/String;)Ljava/lang/StringBuilder;", sig := { parameters := [(.object "java/lang/String")], returnType := some (.object "java/lang/StringBuilder") }, accessFlags := 1, code := some k11c1 }
def k11c2 : Code := { maxStack := 3, maxLocals := 1, code := jdk_67_method_42_code, exceptionTable := #[], attributes := #[] }
def k11m2 : Method := { name := "toString", desc := "()Ljava/lang/String;", sig := { parameters := [], returnType := some (.object "java/lang/String") }, accessFlags := 1, code := some k11c2 }
def k11c3 : Code := { maxStack := 1, maxLocals := 1, code := jdk_67_method_93_code, exceptionTable := #[], attributes := #[] }
def k11m3 : Method := { name := "length", desc := "()I", sig := { parameters := [], returnType := some .int }, accessFlags := 4161, code := some k11c3 }
/-- java/lang/StringBuilder -/
def k11 : Class := { plain "java/lang/StringBuilder" (some 10) with
  accessFlags := 49
  interfaces := #[9, 2, 3, 4]
  cf := some (fileOf pool11 24 #[] #[{ accessFlags := 1, nameIndex := 5, descriptorIndex := 145, attributes := #[] }, { accessFlags := 1, nameIndex := 27, descriptorIndex := 28, attributes := #[] }, { accessFlags := 1, nameIndex := 399, descriptorIndex := 400, attributes := #[] }, { accessFlags := 4161, nameIndex := 345, descriptorIndex := 156, attributes := #[] }] 49 2 #[349, 351, 353, 355] #[{ accessFlags := 24, nameIndex := 357, descriptorIndex := 358, attributes := #[] }])
  fields := #[{ name := "serialVersionUID", type := .long, accessFlags := 24, slot := 0, constantValue := 0 }]
  methods := #[k11m0, k11m1, k11m2, k11m3]
  instanceTypes := #[(.array .byte), .byte, .boolean, .int]
  staticTypes := #[.long]
  resolved := Array.replicate 422 none
  statics := none }

def pool12 : Array CpInfo := pool [(2, .class_ 4), (1, u "java/lang/Object"), (0, u "<init>"), (0, u "()V"), (1, .class_ 10), (1, u "java/lang/System"), (0, u "allowSecurityManager"), (0, u "I"), (16, u "cons"), (0, u "Ljava/io/Console;"), (77, .class_ 110), (1, u "java/lang/System$CallersHolder"), (43, u "initialErrStream"), (0, u "Ljava/io/PrintStream;"), (19, u "security"), (0, u "Ljava/lang/SecurityManager;"), (31, .class_ 209), (0, u "java/lang/System$1"), (7, u "props"), (0, u "Ljava/util/Properties;"), (2, u "lineSeparator"), (0, u "Ljava/lang/String;"), (96, .class_ 321), (1, u "java/lang/System$LoggerFinder"), (5, .class_ 328), (0, u "java/lang/System$Logger"), (67, u "err"), (2, u "out"), (91, u "notSupportedJnuEncoding"), (15, u "in"), (17, u "initialIn"), (0, u "Ljava/io/InputStream;"), (35, u "bootLayer"), (0, u "Ljava/lang/ModuleLayer;"), (99, .class_ 664), (0, u "java/lang/System$2"), (9, u "NEVER"), (2, u "MAYBE"), (49, u "arraycopy"), (0, u "(Ljava/lang/Object;ILjava/lang/Object;II)V"), (72, .class_ 802), (0, u "java/lang/System$Logger$Level")] 31

def k12m0 : Method := { name := "<init>", desc := "()V", sig := { parameters := [], returnType := none }, accessFlags := 2, code := none }
def k12m1 : Method := { name := "arraycopy", desc := "(Ljava/lang/Object;ILjava/lang/Object;II)V", sig := { parameters := [(.object "java/lang/Object"), .int, (.object "java/lang/Object"), .int, .int], returnType := none }, accessFlags := 265, code := none }
/-- java/lang/System -/
def k12 : Class := { plain "java/lang/System" (some 0) with
  accessFlags := 49
  interfaces := #[]
  cf := some (fileOf pool12 8 #[.nestMembers #[319, 327, 801, 108, 663, 208]] #[{ accessFlags := 2, nameIndex := 5, descriptorIndex := 6, attributes := #[] }, { accessFlags := 265, nameIndex := 727, descriptorIndex := 728, attributes := #[] }] 49 2 #[] #[{ accessFlags := 25, nameIndex := 507, descriptorIndex := 526, attributes := #[] }, { accessFlags := 25, nameIndex := 399, descriptorIndex := 155, attributes := #[] }, { accessFlags := 25, nameIndex := 396, descriptorIndex := 155, attributes := #[] }, { accessFlags := 10, nameIndex := 525, descriptorIndex := 526, attributes := #[] }, { accessFlags := 26, nameIndex := 674, descriptorIndex := 12, attributes := #[] }, { accessFlags := 26, nameIndex := 677, descriptorIndex := 12, attributes := #[] }, { accessFlags := 10, nameIndex := 11, descriptorIndex := 12, attributes := #[] }, { accessFlags := 74, nameIndex := 175, descriptorIndex := 176, attributes := #[] }, { accessFlags := 10, nameIndex := 491, descriptorIndex := 222, attributes := #[] }, { accessFlags := 74, nameIndex := 29, descriptorIndex := 30, attributes := #[] }, { accessFlags := 74, nameIndex := 154, descriptorIndex := 155, attributes := #[] }, { accessFlags := 10, nameIndex := 217, descriptorIndex := 218, attributes := #[] }, { accessFlags := 10, nameIndex := 221, descriptorIndex := 222, attributes := #[] }, { accessFlags := 8, nameIndex := 562, descriptorIndex := 563, attributes := #[] }])
  fields := #[{ name := "in", type := (.object "java/io/InputStream"), accessFlags := 25, slot := 0, constantValue := 0 }, { name := "out", type := (.object "java/io/PrintStream"), accessFlags := 25, slot := 1, constantValue := 0 }, { name := "err", type := (.object "java/io/PrintStream"), accessFlags := 25, slot := 2, constantValue := 0 }, { name := "initialIn", type := (.object "java/io/InputStream"), accessFlags := 10, slot := 3, constantValue := 0 }, { name := "NEVER", type := .int, accessFlags := 26, slot := 4, constantValue := 0 }, { name := "MAYBE", type := .int, accessFlags := 26, slot := 5, constantValue := 0 }, { name := "allowSecurityManager", type := .int, accessFlags := 10, slot := 6, constantValue := 0 }, { name := "security", type := (.object "java/lang/SecurityManager"), accessFlags := 74, slot := 7, constantValue := 0 }, { name := "notSupportedJnuEncoding", type := (.object "java/lang/String"), accessFlags := 10, slot := 8, constantValue := 0 }, { name := "cons", type := (.object "java/io/Console"), accessFlags := 74, slot := 9, constantValue := 0 }, { name := "initialErrStream", type := (.object "java/io/PrintStream"), accessFlags := 74, slot := 10, constantValue := 0 }, { name := "props", type := (.object "java/util/Properties"), accessFlags := 10, slot := 11, constantValue := 0 }, { name := "lineSeparator", type := (.object "java/lang/String"), accessFlags := 10, slot := 12, constantValue := 0 }, { name := "bootLayer", type := (.object "java/lang/ModuleLayer"), accessFlags := 8, slot := 13, constantValue := 0 }]
  methods := #[k12m0, k12m1]
  instanceTypes := #[]
  staticTypes := #[(.object "java/io/InputStream"), (.object "java/io/PrintStream"), (.object "java/io/PrintStream"), (.object "java/io/InputStream"), .int, .int, .int, (.object "java/lang/SecurityManager"), (.object "java/lang/String"), (.object "java/io/Console"), (.object "java/io/PrintStream"), (.object "java/util/Properties"), (.object "java/lang/String"), (.object "java/lang/ModuleLayer")]
  resolved := Array.replicate 834 none
  statics := none }

def pool13 : Array CpInfo := pool [(9, u "<init>"), (6, .class_ 18), (1, u "java/lang/Object"), (0, u "()V"), (1, .class_ 23), (1, u "jdk/internal/util/ArraysSupport"), (0, u "LOG2_ARRAY_LONG_INDEX_SCALE"), (0, u "I"), (2, u "U"), (0, u "Ljdk/internal/misc/Unsafe;"), (8, u "BIG_ENDIAN"), (0, u "Z"), (8, u "LOG2_BYTE_BIT_SIZE"), (4, u "LOG2_ARRAY_INT_INDEX_SCALE"), (54, u "JLA"), (0, u "Ljdk/internal/access/JavaLangAccess;"), (11, u "LOG2_ARRAY_BOOLEAN_INDEX_SCALE"), (9, u "LOG2_ARRAY_BYTE_INDEX_SCALE"), (5, u "LOG2_ARRAY_CHAR_INDEX_SCALE"), (5, u "LOG2_ARRAY_SHORT_INDEX_SCALE"), (18, u "LOG2_ARRAY_FLOAT_INDEX_SCALE"), (24, u "LOG2_ARRAY_DOUBLE_INDEX_SCALE"), (6, .methodref 195 196), (0, .class_ 197), (0, .nameAndType 198 199), (0, u "java/lang/Math"), (0, u "max"), (0, u "(II)I"), (0, .integer 2147483639), (76, u "T_BOOLEAN"), (2, u "T_CHAR"), (1, u "T_FLOAT"), (1, u "T_DOUBLE"), (1, u "T_BYTE"), (1, u "T_SHORT"), (1, u "T_INT"), (1, u "T_LONG"), (1, u "SOFT_MAX_ARRAY_LENGTH"), (56, u "newLength"), (0, u "(III)I")] 25

def k13m0 : Method := { name := "<init>", desc := "()V", sig := { parameters := [], returnType := none }, accessFlags := 2, code := none }
def k13c1 : Code := { maxStack := 3, maxLocals := 4, code := jdk_48_method_27_code, exceptionTable := #[], attributes := #[] }
def k13m1 : Method := { name := "newLength", desc := "(III)I", sig := { parameters := [.int, .int, .int], returnType := some .int }, accessFlags := 9, code := some k13c1 }
/-- jdk/internal/util/ArraysSupport -/
def k13 : Class := { plain "jdk/internal/util/ArraysSupport" (some 0) with
  accessFlags := 33
  interfaces := #[]
  cf := some (fileOf pool13 21 #[] #[{ accessFlags := 2, nameIndex := 9, descriptorIndex := 19, attributes := #[] }, { accessFlags := 9, nameIndex := 351, descriptorIndex := 352, attributes := #[] }] 33 16 #[] #[{ accessFlags := 24, nameIndex := 28, descriptorIndex := 29, attributes := #[] }, { accessFlags := 26, nameIndex := 38, descriptorIndex := 39, attributes := #[] }, { accessFlags := 25, nameIndex := 121, descriptorIndex := 25, attributes := #[] }, { accessFlags := 25, nameIndex := 131, descriptorIndex := 25, attributes := #[] }, { accessFlags := 25, nameIndex := 137, descriptorIndex := 25, attributes := #[] }, { accessFlags := 25, nameIndex := 143, descriptorIndex := 25, attributes := #[] }, { accessFlags := 25, nameIndex := 53, descriptorIndex := 25, attributes := #[] }, { accessFlags := 25, nameIndex := 24, descriptorIndex := 25, attributes := #[] }, { accessFlags := 25, nameIndex := 162, descriptorIndex := 25, attributes := #[] }, { accessFlags := 25, nameIndex := 187, descriptorIndex := 25, attributes := #[] }, { accessFlags := 26, nameIndex := 48, descriptorIndex := 25, attributes := #[] }, { accessFlags := 25, nameIndex := 277, descriptorIndex := 25, attributes := #[] }, { accessFlags := 25, nameIndex := 280, descriptorIndex := 25, attributes := #[] }, { accessFlags := 25, nameIndex := 282, descriptorIndex := 25, attributes := #[] }, { accessFlags := 25, nameIndex := 284, descriptorIndex := 25, attributes := #[] }, { accessFlags := 25, nameIndex := 286, descriptorIndex := 25, attributes := #[] }, { accessFlags := 25, nameIndex := 288, descriptorIndex := 25, attributes := #[] }, { accessFlags := 25, nameIndex := 290, descriptorIndex := 25, attributes := #[] }, { accessFlags := 25, nameIndex := 292, descriptorIndex := 25, attributes := #[] }, { accessFlags := 26, nameIndex := 108, descriptorIndex := 109, attributes := #[] }, { accessFlags := 25, nameIndex := 294, descriptorIndex := 25, attributes := #[] }])
  fields := #[{ name := "U", type := (.object "jdk/internal/misc/Unsafe"), accessFlags := 24, slot := 0, constantValue := 0 }, { name := "BIG_ENDIAN", type := .boolean, accessFlags := 26, slot := 1, constantValue := 0 }, { name := "LOG2_ARRAY_BOOLEAN_INDEX_SCALE", type := .int, accessFlags := 25, slot := 2, constantValue := 0 }, { name := "LOG2_ARRAY_BYTE_INDEX_SCALE", type := .int, accessFlags := 25, slot := 3, constantValue := 0 }, { name := "LOG2_ARRAY_CHAR_INDEX_SCALE", type := .int, accessFlags := 25, slot := 4, constantValue := 0 }, { name := "LOG2_ARRAY_SHORT_INDEX_SCALE", type := .int, accessFlags := 25, slot := 5, constantValue := 0 }, { name := "LOG2_ARRAY_INT_INDEX_SCALE", type := .int, accessFlags := 25, slot := 6, constantValue := 0 }, { name := "LOG2_ARRAY_LONG_INDEX_SCALE", type := .int, accessFlags := 25, slot := 7, constantValue := 0 }, { name := "LOG2_ARRAY_FLOAT_INDEX_SCALE", type := .int, accessFlags := 25, slot := 8, constantValue := 0 }, { name := "LOG2_ARRAY_DOUBLE_INDEX_SCALE", type := .int, accessFlags := 25, slot := 9, constantValue := 0 }, { name := "LOG2_BYTE_BIT_SIZE", type := .int, accessFlags := 26, slot := 10, constantValue := 0 }, { name := "T_BOOLEAN", type := .int, accessFlags := 25, slot := 11, constantValue := 0 }, { name := "T_CHAR", type := .int, accessFlags := 25, slot := 12, constantValue := 0 }, { name := "T_FLOAT", type := .int, accessFlags := 25, slot := 13, constantValue := 0 }, { name := "T_DOUBLE", type := .int, accessFlags := 25, slot := 14, constantValue := 0 }, { name := "T_BYTE", type := .int, accessFlags := 25, slot := 15, constantValue := 0 }, { name := "T_SHORT", type := .int, accessFlags := 25, slot := 16, constantValue := 0 }, { name := "T_INT", type := .int, accessFlags := 25, slot := 17, constantValue := 0 }, { name := "T_LONG", type := .int, accessFlags := 25, slot := 18, constantValue := 0 }, { name := "JLA", type := (.object "jdk/internal/access/JavaLangAccess"), accessFlags := 26, slot := 19, constantValue := 0 }, { name := "SOFT_MAX_ARRAY_LENGTH", type := .int, accessFlags := 25, slot := 20, constantValue := 0 }]
  methods := #[k13m0, k13m1]
  instanceTypes := #[]
  staticTypes := #[(.object "jdk/internal/misc/Unsafe"), .boolean, .int, .int, .int, .int, .int, .int, .int, .int, .int, .int, .int, .int, .int, .int, .int, .int, .int, (.object "jdk/internal/access/JavaLangAccess"), .int]
  resolved := Array.replicate 378 none
  statics := none }

def pool14 : Array CpInfo := pool [(1, .class_ 2), (0, u "java/lang/Math"), (1, .class_ 6), (1, u "java/lang/Object"), (0, u "<init>"), (0, u "()V"), (89, .class_ 100), (1, u "java/lang/Math$RandomNumberGeneratorHolder"), (71, u "negativeZeroFloatBits"), (0, u "J"), (2, u "negativeZeroDoubleBits"), (21, u "max"), (2, u "min"), (43, u "$assertionsDisabled"), (0, u "Z"), (88, u "(II)I"), (2, u "twoToTheDoubleScaleDown"), (0, u "D"), (4, u "twoToTheDoubleScaleUp"), (9, u "E"), (3, u "PI"), (2, u "TAU"), (2, u "DEGREES_TO_RADIANS"), (0, u "RADIANS_TO_DEGREES")] 94

def k14m0 : Method := { name := "<init>", desc := "()V", sig := { parameters := [], returnType := none }, accessFlags := 2, code := none }
def k14c1 : Code := { maxStack := 2, maxLocals := 2, code := jdk_29_method_65_code, exceptionTable := #[], attributes := #[] }
def k14m1 : Method := { name := "max", desc := "(II)I", sig := { parameters := [.int, .int], returnType := some .int }, accessFlags := 9, code := some k14c1 }
def k14c2 : Code := { maxStack := 2, maxLocals := 2, code := jdk_29_method_69_code, exceptionTable := #[], attributes := #[] }
def k14m2 : Method := { name := "min", desc := "(II)I", sig := { parameters := [.int, .int], returnType := some .int }, accessFlags := 9, code := some k14c2 }
/-- java/lang/Math -/
def k14 : Class := { plain "java/lang/Math" (some 0) with
  accessFlags := 49
  interfaces := #[]
  cf := some (fileOf pool14 1 #[.nestMembers #[98]] #[{ accessFlags := 2, nameIndex := 7, descriptorIndex := 8, attributes := #[] }, { accessFlags := 9, nameIndex := 198, descriptorIndex := 335, attributes := #[] }, { accessFlags := 9, nameIndex := 201, descriptorIndex := 335, attributes := #[] }] 49 4 #[] #[{ accessFlags := 25, nameIndex := 354, descriptorIndex := 339, attributes := #[] }, { accessFlags := 25, nameIndex := 358, descriptorIndex := 339, attributes := #[] }, { accessFlags := 25, nameIndex := 361, descriptorIndex := 339, attributes := #[] }, { accessFlags := 26, nameIndex := 364, descriptorIndex := 339, attributes := #[] }, { accessFlags := 26, nameIndex := 365, descriptorIndex := 339, attributes := #[] }, { accessFlags := 26, nameIndex := 172, descriptorIndex := 173, attributes := #[] }, { accessFlags := 26, nameIndex := 176, descriptorIndex := 173, attributes := #[] }, { accessFlags := 8, nameIndex := 344, descriptorIndex := 339, attributes := #[] }, { accessFlags := 8, nameIndex := 338, descriptorIndex := 339, attributes := #[] }, { accessFlags := 4120, nameIndex := 245, descriptorIndex := 246, attributes := #[] }])
  fields := #[{ name := "E", type := .double, accessFlags := 25, slot := 0, constantValue := 0 }, { name := "PI", type := .double, accessFlags := 25, slot := 1, constantValue := 0 }, { name := "TAU", type := .double, accessFlags := 25, slot := 2, constantValue := 0 }, { name := "DEGREES_TO_RADIANS", type := .double, accessFlags := 26, slot := 3, constantValue := 0 }, { name := "RADIANS_TO_DEGREES", type := .double, accessFlags := 26, slot := 4, constantValue := 0 }, { name := "negativeZeroFloatBits", type := .long, accessFlags := 26, slot := 5, constantValue := 0 }, { name := "negativeZeroDoubleBits", type := .long, accessFlags := 26, slot := 6, constantValue := 0 }, { name := "twoToTheDoubleScaleUp", type := .double, accessFlags := 8, slot := 7, constantValue := 0 }, { name := "twoToTheDoubleScaleDown", type := .double, accessFlags := 8, slot := 8, constantValue := 0 }, { name := "$assertionsDisabled", type := .boolean, accessFlags := 4120, slot := 9, constantValue := 0 }]
  methods := #[k14m0, k14m1, k14m2]
  instanceTypes := #[]
  staticTypes := #[.double, .double, .double, .double, .double, .long, .long, .double, .double, .boolean]
  resolved := Array.replicate 460 none
  statics := none }

def pool15 : Array CpInfo := pool [(2, .class_ 4), (1, u "java/lang/Object"), (0, u "<init>"), (0, u "()V"), (7, .class_ 16), (1, u "java/util/Arrays"), (57, .class_ 76), (1, u "java/util/Arrays$NaturalOrder"), (36, .class_ 115), (1, u "java/util/Arrays$LegacyMergeSort"), (1, u "Z"), (21, u "copyOfRange"), (10, .methodref 151 152), (0, .class_ 153), (0, .nameAndType 154 155), (0, u "java/lang/System"), (0, u "arraycopy"), (0, u "(Ljava/lang/Object;ILjava/lang/Object;II)V"), (146, u "copyOf"), (1, .methodref 305 306), (0, .class_ 307), (0, .nameAndType 308 309), (0, u "java/lang/Math"), (0, u "min"), (0, u "(II)I"), (29, .methodref 14 340), (0, .nameAndType 341 342), (0, u "copyOfRangeByte"), (0, u "([BII)[B"), (0, .methodref 14 344), (0, .nameAndType 345 346), (0, u "checkLength"), (0, u "(II)V"), (28, .class_ 376), (0, u "java/util/Arrays$ArrayList"), (68, u "$assertionsDisabled"), (269, u "MIN_ARRAY_SORT_GRAN"), (0, u "I"), (2, u "INSERTIONSORT_THRESHOLD"), (149, u "([BI)[B"), (105, .class_ 976), (0, u "java/util/Arrays$ArrayItr")] 52

def k15m0 : Method := { name := "<init>", desc := "()V", sig := { parameters := [], returnType := none }, accessFlags := 2, code := none }
def k15c1 : Code := { maxStack := 6, maxLocals := 3, code := jdk_65_method_121_code, exceptionTable := #[], attributes := #[] }
def k15m1 : Method := { name := "copyOf", desc := "([BI)[B", sig := { parameters := [(.array .byte), .int], returnType := some (.array .byte) }, accessFlags := 9, code := some k15c1 }
def k15c2 : Code := { maxStack := 4, maxLocals := 2, code := jdk_65_method_131_code, exceptionTable := #[], attributes := #[] }
def k15m2 : Method := { name := "checkLength", desc := "(II)V", sig := { parameters := [.int, .int], returnType := none }, accessFlags := 10, code := some k15c2 }
def k15c3 : Code := { maxStack := 3, maxLocals := 3, code := jdk_65_method_132_code, exceptionTable := #[], attributes := #[] }
def k15m3 : Method := { name := "copyOfRange", desc := "([BII)[B", sig := { parameters := [(.array .byte), .int, .int], returnType := some (.array .byte) }, accessFlags := 9, code := some k15c3 }
def k15c4 : Code := { maxStack := 6, maxLocals := 5, code := jdk_65_method_133_code, exceptionTable := #[], attributes := #[] }
def k15m4 : Method := { name := "copyOfRangeByte", desc := "([BII)[B", sig := { parameters := [(.array .byte), .int, .int], returnType := some (.array .byte) }, accessFlags := 10, code := some k15c4 }
/-- java/util/Arrays -/
def k15 : Class := { plain "java/util/Arrays" (some 0) with
  accessFlags := 49
  interfaces := #[]
  cf := some (fileOf pool15 14 #[.nestMembers #[975, 375, 113, 74]] #[{ accessFlags := 2, nameIndex := 5, descriptorIndex := 6, attributes := #[] }, { accessFlags := 9, nameIndex := 302, descriptorIndex := 869, attributes := #[] }, { accessFlags := 10, nameIndex := 345, descriptorIndex := 346, attributes := #[] }, { accessFlags := 9, nameIndex := 139, descriptorIndex := 342, attributes := #[] }, { accessFlags := 10, nameIndex := 341, descriptorIndex := 342, attributes := #[] }] 49 2 #[] #[{ accessFlags := 26, nameIndex := 715, descriptorIndex := 716, attributes := #[] }, { accessFlags := 26, nameIndex := 719, descriptorIndex := 716, attributes := #[] }, { accessFlags := 4120, nameIndex := 445, descriptorIndex := 117, attributes := #[] }])
  fields := #[{ name := "MIN_ARRAY_SORT_GRAN", type := .int, accessFlags := 26, slot := 0, constantValue := 0 }, { name := "INSERTIONSORT_THRESHOLD", type := .int, accessFlags := 26, slot := 1, constantValue := 0 }, { name := "$assertionsDisabled", type := .boolean, accessFlags := 4120, slot := 2, constantValue := 0 }]
  methods := #[k15m0, k15m1, k15m2, k15m3, k15m4]
  instanceTypes := #[]
  staticTypes := #[.int, .int, .boolean]
  resolved := Array.replicate 1029 none
  statics := none }

def pool16 : Array CpInfo := pool [(1, .class_ 2), (0, u "java/lang/String"), (1, .class_ 6), (1, u "java/lang/Object"), (0, u "<init>"), (0, u "()V"), (0, .methodref 1 10), (0, .nameAndType 11 12), (0, u "checkIndex"), (0, u "(II)V"), (1, .class_ 16), (1, u "java/lang/StringLatin1"), (36, u "([BI)C"), (36, u "canEncode"), (14, u "(C)Z"), (15, u "$assertionsDisabled"), (0, u "Z"), (98, .class_ 223), (1, u "java/lang/StringLatin1$LinesSpliterator"), (28, u "charAt"), (127, u "toBytes"), (1, u "(C)[B"), (7, .class_ 391), (0, u "java/lang/StringLatin1$CharsSpliterator")] 3

def k16m0 : Method := { name := "<init>", desc := "()V", sig := { parameters := [], returnType := none }, accessFlags := 0, code := none }
def k16c1 : Code := { maxStack := 2, maxLocals := 2, code := jdk_43_method_2_code, exceptionTable := #[], attributes := #[] }
def k16m1 : Method := { name := "charAt", desc := "([BI)C", sig := { parameters := [(.array .byte), .int], returnType := some .char }, accessFlags := 9, code := some k16c1 }
def k16c2 : Code := { maxStack := 2, maxLocals := 1, code := jdk_43_method_3_code, exceptionTable := #[], attributes := #[] }
def k16m2 : Method := { name := "canEncode", desc := "(C)Z", sig := { parameters := [.char], returnType := some .boolean }, accessFlags := 9, code := some k16c2 }
def k16c3 : Code := { maxStack := 4, maxLocals := 1, code := jdk_43_method_46_code, exceptionTable := #[], attributes := #[] }
def k16m3 : Method := { name := "toBytes", desc := "(C)[B", sig := { parameters := [.char], returnType := some (.array .byte) }, accessFlags := 9, code := some k16c3 }
/-- java/lang/StringLatin1 -/
def k16 : Class := { plain "java/lang/StringLatin1" (some 0) with
  accessFlags := 48
  interfaces := #[]
  cf := some (fileOf pool16 14 #[.nestMembers #[390, 221]] #[{ accessFlags := 0, nameIndex := 7, descriptorIndex := 8, attributes := #[] }, { accessFlags := 9, nameIndex := 252, descriptorIndex := 53, attributes := #[] }, { accessFlags := 9, nameIndex := 90, descriptorIndex := 105, attributes := #[] }, { accessFlags := 9, nameIndex := 380, descriptorIndex := 382, attributes := #[] }] 48 4 #[] #[{ accessFlags := 4120, nameIndex := 121, descriptorIndex := 122, attributes := #[] }])
  fields := #[{ name := "$assertionsDisabled", type := .boolean, accessFlags := 4120, slot := 0, constantValue := 0 }]
  methods := #[k16m0, k16m1, k16m2, k16m3]
  instanceTypes := #[]
  staticTypes := #[.boolean]
  resolved := Array.replicate 395 none
  statics := none }

def pool17 : Array CpInfo := pool [(2, .class_ 4), (1, u "java/lang/Object"), (0, u "<init>"), (0, u "()V"), (17, .class_ 26), (1, u "jdk/internal/util/Preconditions"), (6, u "checkIndex"), (21, .class_ 56), (0, u "jdk/internal/util/Preconditions$4"), (57, .class_ 115), (0, u "jdk/internal/util/Preconditions$1"), (7, u "SIOOBE_FORMATTER"), (0, u "Ljava/util/function/BiFunction;"), (0, .class_ 126), (0, u "jdk/internal/util/Preconditions$2"), (3, u "AIOOBE_FORMATTER"), (0, .class_ 132), (0, u "jdk/internal/util/Preconditions$3"), (3, u "IOOBE_FORMATTER"), (41, u "(IILjava/util/function/BiFunction;)I")] 15

def k17m0 : Method := { name := "<init>", desc := "()V", sig := { parameters := [], returnType := none }, accessFlags := 1, code := none }
def k17c1 : Code := { maxStack := 3, maxLocals := 3, code := jdk_41_method_11_code, exceptionTable := #[], attributes := #[] }
def k17m1 : Method := { name := "checkIndex", desc := "(IILjava/util/function/BiFunction;)I", sig := { parameters := [.int, .int, (.object "java/util/function/BiFunction")], returnType := some .int }, accessFlags := 9, code := some k17c1 }
/-- jdk/internal/util/Preconditions -/
def k17 : Class := { plain "jdk/internal/util/Preconditions" (some 0) with
  accessFlags := 33
  interfaces := #[]
  cf := some (fileOf pool17 24 #[.nestMembers #[55, 131, 125, 114]] #[{ accessFlags := 1, nameIndex := 5, descriptorIndex := 6, attributes := #[] }, { accessFlags := 9, nameIndex := 33, descriptorIndex := 178, attributes := #[] }] 33 2 #[] #[{ accessFlags := 25, nameIndex := 123, descriptorIndex := 124, attributes := #[] }, { accessFlags := 25, nameIndex := 130, descriptorIndex := 124, attributes := #[] }, { accessFlags := 25, nameIndex := 136, descriptorIndex := 124, attributes := #[] }])
  fields := #[{ name := "SIOOBE_FORMATTER", type := (.object "java/util/function/BiFunction"), accessFlags := 25, slot := 0, constantValue := 0 }, { name := "AIOOBE_FORMATTER", type := (.object "java/util/function/BiFunction"), accessFlags := 25, slot := 1, constantValue := 0 }, { name := "IOOBE_FORMATTER", type := (.object "java/util/function/BiFunction"), accessFlags := 25, slot := 2, constantValue := 0 }]
  methods := #[k17m0, k17m1]
  instanceTypes := #[]
  staticTypes := #[(.object "java/util/function/BiFunction"), (.object "java/util/function/BiFunction"), (.object "java/util/function/BiFunction")]
  resolved := Array.replicate 194 none
  statics := some 1 }

def pool18 : Array CpInfo := pool [(6, .class_ 8), (1, u "java/lang/Object"), (0, u "<init>"), (0, u "()V"), (1, .class_ 14), (1, u "java/lang/StringUTF16"), (31, u "$assertionsDisabled"), (0, u "Z"), (13, u "HI_BYTE_SHIFT"), (0, u "I"), (2, u "LO_BYTE_SHIFT"), (49, .methodref 12 116), (0, .nameAndType 117 118), (0, u "compress"), (0, u "([CI[BII)I"), (3, u "([CII)[B"), (138, u "coderFromArrayLen"), (0, u "([BI)B"), (106, .class_ 371), (1, u "java/lang/StringUTF16$LinesSpliterator"), (58, u "MAX_LENGTH"), (196, .class_ 628), (0, u "java/lang/StringUTF16$CodePointsSpliterator"), (0, .class_ 630), (0, u "java/lang/StringUTF16$CharsSpliterator")] 4

def k18m0 : Method := { name := "<init>", desc := "()V", sig := { parameters := [], returnType := none }, accessFlags := 0, code := none }
def k18c1 : Code := { maxStack := 2, maxLocals := 2, code := jdk_52_method_15_code, exceptionTable := #[], attributes := #[] }
def k18m1 : Method := { name := "coderFromArrayLen", desc := "([BI)B", sig := { parameters := [(.array .byte), .int], returnType := some .byte }, accessFlags := 8, code := some k18c1 }
def k18c2 : Code := { maxStack := 5, maxLocals := 6, code := jdk_52_method_16_code, exceptionTable := #[], attributes := #[] }
def k18m2 : Method := { name := "compress", desc := "([CII)[B", sig := { parameters := [(.array .char), .int, .int], returnType := some (.array .byte) }, accessFlags := 9, code := some k18c2 }
def k18c3 : Code := { maxStack := 3, maxLocals := 7, code := jdk_52_method_21_code, exceptionTable := #[], attributes := #[] }
def k18m3 : Method := { name := "compress", desc := "([CI[BII)I", sig := { parameters := [(.array .char), .int, (.array .byte), .int, .int], returnType := some .int }, accessFlags := 9, code := some k18c3 }
/-- java/lang/StringUTF16 -/
def k18 : Class := { plain "java/lang/StringUTF16" (some 0) with
  accessFlags := 48
  interfaces := #[]
  cf := some (fileOf pool18 12 #[.nestMembers #[627, 629, 369]] #[{ accessFlags := 0, nameIndex := 9, descriptorIndex := 10, attributes := #[] }, { accessFlags := 8, nameIndex := 261, descriptorIndex := 262, attributes := #[] }, { accessFlags := 9, nameIndex := 117, descriptorIndex := 122, attributes := #[] }, { accessFlags := 9, nameIndex := 117, descriptorIndex := 118, attributes := #[] }] 48 6 #[] #[{ accessFlags := 26, nameIndex := 61, descriptorIndex := 62, attributes := #[] }, { accessFlags := 26, nameIndex := 65, descriptorIndex := 62, attributes := #[] }, { accessFlags := 24, nameIndex := 430, descriptorIndex := 62, attributes := #[] }, { accessFlags := 4120, nameIndex := 46, descriptorIndex := 47, attributes := #[] }])
  fields := #[{ name := "HI_BYTE_SHIFT", type := .int, accessFlags := 26, slot := 0, constantValue := 0 }, { name := "LO_BYTE_SHIFT", type := .int, accessFlags := 26, slot := 1, constantValue := 0 }, { name := "MAX_LENGTH", type := .int, accessFlags := 24, slot := 2, constantValue := 0 }, { name := "$assertionsDisabled", type := .boolean, accessFlags := 4120, slot := 3, constantValue := 0 }]
  methods := #[k18m0, k18m1, k18m2, k18m3]
  instanceTypes := #[]
  staticTypes := #[.int, .int, .int, .boolean]
  resolved := Array.replicate 635 none
  statics := none }

def pool19 : Array CpInfo := pool [(1, u "java/lang/Cloneable"), (0, .class_ 1), (0, u "java/lang/Object"), (0, .class_ 3)] 3

/-- java/lang/Cloneable -/
def k19 : Class := { plain "java/lang/Cloneable" (some 0) with
  accessFlags := 1537
  interfaces := #[]
  cf := some (fileOf pool19 2 #[] #[] 1537 4 #[] #[])
  fields := #[]
  methods := #[]
  instanceTypes := #[]
  staticTypes := #[]
  resolved := Array.replicate 8 none
  statics := none }

/-- the primitive byte -/
def k20 : Class := { plain "byte" none with kind := .primitive 'B', accessFlags := 0x411 }
/-- [B -/
def k21 : Class := { plain "[B" (some 0) with kind := .array 20 .byte, interfaces := #[19, 2], accessFlags := 1041 }

/-- the primitive char -/
def k22 : Class := { plain "char" none with kind := .primitive 'C', accessFlags := 0x411 }
/-- [C -/
def k23 : Class := { plain "[C" (some 0) with kind := .array 22 .char, interfaces := #[19, 2], accessFlags := 1041 }

/-- the primitive int -/
def k24 : Class := { plain "int" none with kind := .primitive 'I', accessFlags := 0x411 }
/-- [I -/
def k25 : Class := { plain "[I" (some 0) with kind := .array 24 .int, interfaces := #[19, 2], accessFlags := 1041 }

def heap : Heap := #[{ cls := 7, slots := #[.long 0, .int 1, .null, .int 0, .null, .int 0, .int 0], vm := .statics 7 },
  { cls := 17, slots := #[.null, .null, .null], vm := .statics 17 }]
def classes : Array Class := #[k0, k1, k2, k3, k4, k5, k6, k7, k8, k9, k10, k11, k12, k13, k14, k15, k16, k17, k18, k19, k20, k21, k22, k23, k24, k25]
def interned : List (Array UInt16 × Addr) := []
def slotsUsed : Nat := 10
def theMethod : MethodId := ⟨1, 5⟩
def args0 : Array Value := #[.int 5, .int 5, .int 5]
def aboutOver (below : List Frame) : State where
  vm := { classes := classes, interned := interned.toArray }
  heap := heap
  slotsUsed := slotsUsed
  threads := #[{ frames := .invoking theMethod args0 :: below }]
def below0 : List Frame := [.native { method := ⟨0, 0⟩, args := #[] }]
def about1 : State := aboutOver below0
def p0 : Program := .bare "" "" ""
def e0 : Env := launch0.env 0 0 0
theorem w_frames : about1.frames = Frame.invoking theMethod args0 :: below0 := rfl
set_option maxRecDepth 65536 in
theorem w_args : argsFit about1.vm theMethod args0 = true := by decide +kernel
set_option maxRecDepth 65536 in
theorem w_heap : heapFits about1 = true := by decide +kernel
set_option maxRecDepth 65536 in
theorem w_runnable : about1.curStatus? = some .runnable := by decide +kernel
set_option maxRecDepth 65536 in
theorem w_alone : about1.alone = true := by decide +kernel
set_option maxRecDepth 65536 in
theorem w_named : about1.methodNamed? x = some theMethod := by decide +kernel
set_option maxRecDepth 65536 in
theorem w_hears : about1.hears theMethod below0 = true := by decide +kernel
set_option maxRecDepth 65536 in
theorem w_ripe : about1.ripe theMethod args0 below0 = true := by decide +kernel
theorem w_running : about1.status = .running := rfl
set_option maxRecDepth 65536 in
theorem w_room : about1.hasRoom e0.platform room_1 = true :=
  launch0.hasRoom_least _ room_1 (by decide +kernel) (by decide +kernel) (by decide +kernel) (by decide +kernel) (by decide +kernel) (by decide +kernel)
theorem allAtoms_all (ts : List Jvm.Cond) (a : Array Jvm.Value) (st : Jvm.State) : (allAtoms ts).before a st = ts.all (fun c => c.before a st) := by
  induction ts with
  | nil => rfl
  | cons c t ih =>
    show (Jvm.Cond.and c (allAtoms t)).before a st = _
    rw [Jvm.Cond.before_and, ih, List.all_cons]
def words1 : List Jvm.Cond := Jvm.Cond.code x code maxLocals ret :: tables_1
/-- a 'code' word, met by the world's own term for the bytes: nothing is compared byte by byte -/
theorem code_word {y : MethodName} {bytes : ByteArray} {mx : Nat} {rt : Option FieldType} {a : Array Value} {s : State} {m : MethodId} {meth : Method} {c : Code} (h1 : s.methodNamed? y = some m) (h2 : s.vm.method? m = some meth) (h3 : meth.code = some c) (h4 : c.code = bytes)
    (h5 : (c.maxLocals == mx && c.exceptionTable.isEmpty && decide (c.maxStack ≤ mostOperands) && decide (meth.sig.returnType = rt) && !meth.locks && decide (parseMethodDescriptor y.desc = some meth.sig)) = true) : (Jvm.Cond.code y bytes mx rt).before a s = true := by
  simp only [Bool.and_eq_true, beq_iff_eq, Bool.not_eq_true', decide_eq_true_eq] at h5
  obtain ⟨⟨⟨⟨⟨g1, g2⟩, g3⟩, g4⟩, g5⟩, g6⟩ := h5
  simp [Cond.before, Cond.holds, Cond.value, h1, h2, h3, h4, g1, g2, g3, g4, g5, g6]
def isCode : Jvm.Cond → Bool
  | .code _ _ _ _ => true
  | _ => false
theorem all_split {L : List Jvm.Cond} {P : Jvm.Cond → Bool} (h1 : L.all (fun c => isCode c || P c) = true) (h2 : ∀ c ∈ L.filter isCode, P c = true) : L.all P = true := by
  refine List.all_eq_true.mpr fun c hc => ?_
  have h := List.all_eq_true.mp h1 c hc
  rcases Bool.eq_false_or_eq_true (isCode c) with hi | hi
  · exact h2 c (List.mem_filter.mpr ⟨hc, hi⟩)
  · simpa [hi] using h
set_option maxRecDepth 65536 in
theorem w_c0 : (Jvm.Cond.code x code maxLocals ret).before args0 about1 = true := code_word (m := ⟨1, 5⟩) (meth := k1m5) (c := k1c5) (by decide +kernel) rfl rfl rfl (by decide +kernel)
set_option maxRecDepth 65536 in
theorem w_c1 : (Jvm.Cond.code ({ cls := "com/example/bounded_lock/boundedlock/HoldToStringPinLaw", name := "mk", desc := "(I)Ljava/lang/String;" } : Jvm.MethodName) method_2_code (4 : Nat) (Option.some (Jvm.ClassFile.FieldType.object "java/lang/String"))).before args0 about1 = true := code_word (m := ⟨1, 1⟩) (meth := k1m1) (c := k1c1) (by decide +kernel) rfl rfl rfl (by decide +kernel)
set_option maxRecDepth 65536 in
theorem w_c2 : (Jvm.Cond.code ({ cls := "java/lang/String", name := "<init>", desc := "([C)V" } : Jvm.MethodName) jdk_42_method_3_code (2 : Nat) (Option.none : Option Jvm.ClassFile.FieldType)).before args0 about1 = true := code_word (m := ⟨7, 1⟩) (meth := k7m1) (c := k7c1) (by decide +kernel) rfl rfl rfl (by decide +kernel)
set_option maxRecDepth 65536 in
theorem w_c3 : (Jvm.Cond.code ({ cls := "java/lang/String", name := "<init>", desc := "([CIILjava/lang/Void;)V" } : Jvm.MethodName) jdk_42_method_149_code (6 : Nat) (Option.none : Option Jvm.ClassFile.FieldType)).before args0 about1 = true := code_word (m := ⟨7, 7⟩) (meth := k7m7) (c := k7c7) (by decide +kernel) rfl rfl rfl (by decide +kernel)
set_option maxRecDepth 65536 in
theorem w_c4 : (Jvm.Cond.code ({ cls := "java/lang/Object", name := "<init>", desc := "()V" } : Jvm.MethodName) object_method_1_code (1 : Nat) (Option.none : Option Jvm.ClassFile.FieldType)).before args0 about1 = true := code_word (m := ⟨0, 0⟩) (meth := k0m0) (c := k0c0) (by decide +kernel) rfl rfl rfl (by decide +kernel)
set_option maxRecDepth 65536 in
theorem w_c5 : (Jvm.Cond.code ({ cls := "com/example/bounded_lock/boundedlock/Hold", name := "<init>", desc := "(Ljava/lang/String;Ljava/lang/String;Ljava/lang/String;)V" } : Jvm.MethodName) prog_3_method_1_code (4 : Nat) (Option.none : Option Jvm.ClassFile.FieldType)).before args0 about1 = true := code_word (m := ⟨8, 0⟩) (meth := k8m0) (c := k8c0) (by decide +kernel) rfl rfl rfl (by decide +kernel)
set_option maxRecDepth 65536 in
theorem w_c6 : (Jvm.Cond.code ({ cls := "com/example/bounded_lock/boundedlock/Hold", name := "toString", desc := "()Ljava/lang/String;" } : Jvm.MethodName) prog_3_method_4_code (1 : Nat) (Option.some (Jvm.ClassFile.FieldType.object "java/lang/String"))).before args0 about1 = true := code_word (m := ⟨8, 1⟩) (meth := k8m1) (c := k8c1) (by decide +kernel) rfl rfl rfl (by decide +kernel)
set_option maxRecDepth 65536 in
theorem w_c7 : (Jvm.Cond.code ({ cls := "java/lang/StringBuilder", name := "<init>", desc := "()V" } : Jvm.MethodName) jdk_67_method_1_code (1 : Nat) (Option.none : Option Jvm.ClassFile.FieldType)).before args0 about1 = true := code_word (m := ⟨11, 0⟩) (meth := k11m0) (c := k11c0) (by decide +kernel) rfl rfl rfl (by decide +kernel)
set_option maxRecDepth 65536 in
theorem w_c8 : (Jvm.Cond.code ({ cls := "java/lang/AbstractStringBuilder", name := "<init>", desc := "(I)V" } : Jvm.MethodName) jdk_68_method_2_code (2 : Nat) (Option.none : Option Jvm.ClassFile.FieldType)).before args0 about1 = true := code_word (m := ⟨10, 1⟩) (meth := k10m1) (c := k10c1) (by decide +kernel) rfl rfl rfl (by decide +kernel)
set_option maxRecDepth 65536 in
theorem w_c9 : (Jvm.Cond.code ({ cls := "java/lang/StringBuilder", name := "append", desc := "(Ljava/lang/String;)Ljava/lang/StringBuilder;" } : Jvm.MethodName) jdk_67_method_7_code (2 : Nat) (Option.some (Jvm.ClassFile.FieldType.object "java/lang/StringBuilder"))).before args0 about1 = true := code_word (m := ⟨11, 1⟩) (meth := k11m1) (c := k11c1) (by decide +kernel) rfl rfl rfl (by decide +kernel)
set_option maxRecDepth 65536 in
theorem w_c10 : (Jvm.Cond.code ({ cls := "java/lang/AbstractStringBuilder", name := "append", desc := "(Ljava/lang/String;)Ljava/lang/AbstractStringBuilder;" } : Jvm.MethodName) jdk_68_method_22_code (3 : Nat) (Option.some (Jvm.ClassFile.FieldType.object "java/lang/AbstractStringBuilder"))).before args0 about1 = true := code_word (m := ⟨10, 5⟩) (meth := k10m5) (c := k10c5) (by decide +kernel) rfl rfl rfl (by decide +kernel)
set_option maxRecDepth 65536 in
theorem w_c11 : (Jvm.Cond.code ({ cls := "java/lang/String", name := "length", desc := "()I" } : Jvm.MethodName) jdk_42_method_54_code (1 : Nat) (Option.some Jvm.ClassFile.FieldType.int)).before args0 about1 = true := code_word (m := ⟨7, 3⟩) (meth := k7m3) (c := k7c3) (by decide +kernel) rfl rfl rfl (by decide +kernel)
set_option maxRecDepth 65536 in
theorem w_c12 : (Jvm.Cond.code ({ cls := "java/lang/String", name := "coder", desc := "()B" } : Jvm.MethodName) jdk_42_method_152_code (1 : Nat) (Option.some Jvm.ClassFile.FieldType.byte)).before args0 about1 = true := code_word (m := ⟨7, 10⟩) (meth := k7m10) (c := k7c10) (by decide +kernel) rfl rfl rfl (by decide +kernel)
set_option maxRecDepth 65536 in
theorem w_c13 : (Jvm.Cond.code ({ cls := "java/lang/AbstractStringBuilder", name := "ensureCapacityInternal", desc := "(I)V" } : Jvm.MethodName) jdk_68_method_9_code (3 : Nat) (Option.none : Option Jvm.ClassFile.FieldType)).before args0 about1 = true := code_word (m := ⟨10, 3⟩) (meth := k10m3) (c := k10c3) (by decide +kernel) rfl rfl rfl (by decide +kernel)
set_option maxRecDepth 65536 in
theorem w_c14 : (Jvm.Cond.code ({ cls := "java/lang/AbstractStringBuilder", name := "putStringAt", desc := "(ILjava/lang/String;)V" } : Jvm.MethodName) jdk_68_method_73_code (3 : Nat) (Option.none : Option Jvm.ClassFile.FieldType)).before args0 about1 = true := code_word (m := ⟨10, 9⟩) (meth := k10m9) (c := k10c9) (by decide +kernel) rfl rfl rfl (by decide +kernel)
set_option maxRecDepth 65536 in
theorem w_c15 : (Jvm.Cond.code ({ cls := "java/lang/AbstractStringBuilder", name := "inflateIfNeededFor", desc := "(Ljava/lang/String;)V" } : Jvm.MethodName) jdk_68_method_71_code (2 : Nat) (Option.none : Option Jvm.ClassFile.FieldType)).before args0 about1 = true := code_word (m := ⟨10, 8⟩) (meth := k10m8) (c := k10c8) (by decide +kernel) rfl rfl rfl (by decide +kernel)
set_option maxRecDepth 65536 in
theorem w_c16 : (Jvm.Cond.code ({ cls := "java/lang/String", name := "getBytes", desc := "([BIB)V" } : Jvm.MethodName) jdk_42_method_147_code (4 : Nat) (Option.none : Option Jvm.ClassFile.FieldType)).before args0 about1 = true := code_word (m := ⟨7, 6⟩) (meth := k7m6) (c := k7c6) (by decide +kernel) rfl rfl rfl (by decide +kernel)
set_option maxRecDepth 65536 in
theorem w_c17 : (Jvm.Cond.code ({ cls := "java/lang/AbstractStringBuilder", name := "newCapacity", desc := "(I)I" } : Jvm.MethodName) jdk_68_method_10_code (6 : Nat) (Option.some Jvm.ClassFile.FieldType.int)).before args0 about1 = true := code_word (m := ⟨10, 4⟩) (meth := k10m4) (c := k10c4) (by decide +kernel) rfl rfl rfl (by decide +kernel)
set_option maxRecDepth 65536 in
theorem w_c18 : (Jvm.Cond.code ({ cls := "jdk/internal/util/ArraysSupport", name := "newLength", desc := "(III)I" } : Jvm.MethodName) jdk_48_method_27_code (4 : Nat) (Option.some Jvm.ClassFile.FieldType.int)).before args0 about1 = true := code_word (m := ⟨13, 1⟩) (meth := k13m1) (c := k13c1) (by decide +kernel) rfl rfl rfl (by decide +kernel)
set_option maxRecDepth 65536 in
theorem w_c19 : (Jvm.Cond.code ({ cls := "java/lang/Math", name := "max", desc := "(II)I" } : Jvm.MethodName) jdk_29_method_65_code (2 : Nat) (Option.some Jvm.ClassFile.FieldType.int)).before args0 about1 = true := code_word (m := ⟨14, 1⟩) (meth := k14m1) (c := k14c1) (by decide +kernel) rfl rfl rfl (by decide +kernel)
set_option maxRecDepth 65536 in
theorem w_c20 : (Jvm.Cond.code ({ cls := "java/util/Arrays", name := "copyOf", desc := "([BI)[B" } : Jvm.MethodName) jdk_65_method_121_code (3 : Nat) (Option.some (Jvm.ClassFile.FieldType.array Jvm.ClassFile.FieldType.byte))).before args0 about1 = true := code_word (m := ⟨15, 1⟩) (meth := k15m1) (c := k15c1) (by decide +kernel) rfl rfl rfl (by decide +kernel)
set_option maxRecDepth 65536 in
theorem w_c21 : (Jvm.Cond.code ({ cls := "java/lang/Math", name := "min", desc := "(II)I" } : Jvm.MethodName) jdk_29_method_69_code (2 : Nat) (Option.some Jvm.ClassFile.FieldType.int)).before args0 about1 = true := code_word (m := ⟨14, 2⟩) (meth := k14m2) (c := k14c2) (by decide +kernel) rfl rfl rfl (by decide +kernel)
set_option maxRecDepth 65536 in
theorem w_c22 : (Jvm.Cond.code ({ cls := "java/lang/StringBuilder", name := "toString", desc := "()Ljava/lang/String;" } : Jvm.MethodName) jdk_67_method_42_code (1 : Nat) (Option.some (Jvm.ClassFile.FieldType.object "java/lang/String"))).before args0 about1 = true := code_word (m := ⟨11, 2⟩) (meth := k11m2) (c := k11c2) (by decide +kernel) rfl rfl rfl (by decide +kernel)
set_option maxRecDepth 65536 in
theorem w_c23 : (Jvm.Cond.code ({ cls := "java/lang/String", name := "<init>", desc := "(Ljava/lang/StringBuilder;)V" } : Jvm.MethodName) jdk_42_method_53_code (2 : Nat) (Option.none : Option Jvm.ClassFile.FieldType)).before args0 about1 = true := code_word (m := ⟨7, 2⟩) (meth := k7m2) (c := k7c2) (by decide +kernel) rfl rfl rfl (by decide +kernel)
set_option maxRecDepth 65536 in
theorem w_c24 : (Jvm.Cond.code ({ cls := "java/lang/String", name := "<init>", desc := "(Ljava/lang/AbstractStringBuilder;Ljava/lang/Void;)V" } : Jvm.MethodName) jdk_42_method_150_code (5 : Nat) (Option.none : Option Jvm.ClassFile.FieldType)).before args0 about1 = true := code_word (m := ⟨7, 8⟩) (meth := k7m8) (c := k7c8) (by decide +kernel) rfl rfl rfl (by decide +kernel)
set_option maxRecDepth 65536 in
theorem w_c25 : (Jvm.Cond.code ({ cls := "java/lang/AbstractStringBuilder", name := "getValue", desc := "()[B" } : Jvm.MethodName) jdk_68_method_64_code (1 : Nat) (Option.some (Jvm.ClassFile.FieldType.array Jvm.ClassFile.FieldType.byte))).before args0 about1 = true := code_word (m := ⟨10, 6⟩) (meth := k10m6) (c := k10c6) (by decide +kernel) rfl rfl rfl (by decide +kernel)
set_option maxRecDepth 65536 in
theorem w_c26 : (Jvm.Cond.code ({ cls := "java/lang/StringBuilder", name := "length", desc := "()I" } : Jvm.MethodName) jdk_67_method_93_code (1 : Nat) (Option.some Jvm.ClassFile.FieldType.int)).before args0 about1 = true := code_word (m := ⟨11, 3⟩) (meth := k11m3) (c := k11c3) (by decide +kernel) rfl rfl rfl (by decide +kernel)
set_option maxRecDepth 65536 in
theorem w_c27 : (Jvm.Cond.code ({ cls := "java/lang/AbstractStringBuilder", name := "length", desc := "()I" } : Jvm.MethodName) jdk_68_method_6_code (1 : Nat) (Option.some Jvm.ClassFile.FieldType.int)).before args0 about1 = true := code_word (m := ⟨10, 2⟩) (meth := k10m2) (c := k10c2) (by decide +kernel) rfl rfl rfl (by decide +kernel)
set_option maxRecDepth 65536 in
theorem w_c28 : (Jvm.Cond.code ({ cls := "java/lang/AbstractStringBuilder", name := "isLatin1", desc := "()Z" } : Jvm.MethodName) jdk_68_method_68_code (1 : Nat) (Option.some Jvm.ClassFile.FieldType.boolean)).before args0 about1 = true := code_word (m := ⟨10, 7⟩) (meth := k10m7) (c := k10c7) (by decide +kernel) rfl rfl rfl (by decide +kernel)
set_option maxRecDepth 65536 in
theorem w_c29 : (Jvm.Cond.code ({ cls := "java/util/Arrays", name := "copyOfRange", desc := "([BII)[B" } : Jvm.MethodName) jdk_65_method_132_code (3 : Nat) (Option.some (Jvm.ClassFile.FieldType.array Jvm.ClassFile.FieldType.byte))).before args0 about1 = true := code_word (m := ⟨15, 3⟩) (meth := k15m3) (c := k15c3) (by decide +kernel) rfl rfl rfl (by decide +kernel)
set_option maxRecDepth 65536 in
theorem w_c30 : (Jvm.Cond.code ({ cls := "java/util/Arrays", name := "copyOfRangeByte", desc := "([BII)[B" } : Jvm.MethodName) jdk_65_method_133_code (5 : Nat) (Option.some (Jvm.ClassFile.FieldType.array Jvm.ClassFile.FieldType.byte))).before args0 about1 = true := code_word (m := ⟨15, 4⟩) (meth := k15m4) (c := k15c4) (by decide +kernel) rfl rfl rfl (by decide +kernel)
set_option maxRecDepth 65536 in
theorem w_c31 : (Jvm.Cond.code ({ cls := "java/util/Arrays", name := "checkLength", desc := "(II)V" } : Jvm.MethodName) jdk_65_method_131_code (2 : Nat) (Option.none : Option Jvm.ClassFile.FieldType)).before args0 about1 = true := code_word (m := ⟨15, 2⟩) (meth := k15m2) (c := k15c2) (by decide +kernel) rfl rfl rfl (by decide +kernel)
set_option maxRecDepth 65536 in
theorem w_c32 : (Jvm.Cond.code ({ cls := "com/example/bounded_lock/boundedlock/HoldToStringPinLaw", name := "seg", desc := "(Ljava/lang/String;ILjava/lang/String;)Z" } : Jvm.MethodName) method_3_code (3 : Nat) (Option.some Jvm.ClassFile.FieldType.boolean)).before args0 about1 = true := code_word (m := ⟨1, 2⟩) (meth := k1m2) (c := k1c2) (by decide +kernel) rfl rfl rfl (by decide +kernel)
set_option maxRecDepth 65536 in
theorem w_c33 : (Jvm.Cond.code ({ cls := "com/example/bounded_lock/boundedlock/HoldToStringPinLaw", name := "lit", desc := "(Ljava/lang/String;ILjava/lang/String;)Z" } : Jvm.MethodName) method_5_code (3 : Nat) (Option.some Jvm.ClassFile.FieldType.boolean)).before args0 about1 = true := code_word (m := ⟨1, 4⟩) (meth := k1m4) (c := k1c4) (by decide +kernel) rfl rfl rfl (by decide +kernel)
set_option maxRecDepth 65536 in
theorem w_c34 : (Jvm.Cond.code ({ cls := "com/example/bounded_lock/boundedlock/HoldToStringPinLaw", name := "ch", desc := "(Ljava/lang/String;ILjava/lang/String;I)Z" } : Jvm.MethodName) method_4_code (4 : Nat) (Option.some Jvm.ClassFile.FieldType.boolean)).before args0 about1 = true := code_word (m := ⟨1, 3⟩) (meth := k1m3) (c := k1c3) (by decide +kernel) rfl rfl rfl (by decide +kernel)
set_option maxRecDepth 65536 in
theorem w_c35 : (Jvm.Cond.code ({ cls := "java/lang/String", name := "charAt", desc := "(I)C" } : Jvm.MethodName) jdk_42_method_56_code (2 : Nat) (Option.some Jvm.ClassFile.FieldType.char)).before args0 about1 = true := code_word (m := ⟨7, 4⟩) (meth := k7m4) (c := k7c4) (by decide +kernel) rfl rfl rfl (by decide +kernel)
set_option maxRecDepth 65536 in
theorem w_c36 : (Jvm.Cond.code ({ cls := "java/lang/String", name := "isLatin1", desc := "()Z" } : Jvm.MethodName) jdk_42_method_154_code (1 : Nat) (Option.some Jvm.ClassFile.FieldType.boolean)).before args0 about1 = true := code_word (m := ⟨7, 11⟩) (meth := k7m11) (c := k7c11) (by decide +kernel) rfl rfl rfl (by decide +kernel)
set_option maxRecDepth 65536 in
theorem w_c37 : (Jvm.Cond.code ({ cls := "java/lang/StringLatin1", name := "charAt", desc := "([BI)C" } : Jvm.MethodName) jdk_43_method_2_code (2 : Nat) (Option.some Jvm.ClassFile.FieldType.char)).before args0 about1 = true := code_word (m := ⟨16, 1⟩) (meth := k16m1) (c := k16c1) (by decide +kernel) rfl rfl rfl (by decide +kernel)
set_option maxRecDepth 65536 in
theorem w_c38 : (Jvm.Cond.code ({ cls := "java/lang/String", name := "checkIndex", desc := "(II)V" } : Jvm.MethodName) jdk_42_method_155_code (2 : Nat) (Option.none : Option Jvm.ClassFile.FieldType)).before args0 about1 = true := code_word (m := ⟨7, 12⟩) (meth := k7m12) (c := k7c12) (by decide +kernel) rfl rfl rfl (by decide +kernel)
set_option maxRecDepth 65536 in
theorem w_c39 : (Jvm.Cond.code ({ cls := "jdk/internal/util/Preconditions", name := "checkIndex", desc := "(IILjava/util/function/BiFunction;)I" } : Jvm.MethodName) jdk_41_method_11_code (3 : Nat) (Option.some Jvm.ClassFile.FieldType.int)).before args0 about1 = true := code_word (m := ⟨17, 1⟩) (meth := k17m1) (c := k17c1) (by decide +kernel) rfl rfl rfl (by decide +kernel)
set_option maxRecDepth 65536 in
theorem w_c40 : (Jvm.Cond.code ({ cls := "java/lang/String", name := "valueOf", desc := "(C)Ljava/lang/String;" } : Jvm.MethodName) jdk_42_method_139_code (1 : Nat) (Option.some (Jvm.ClassFile.FieldType.object "java/lang/String"))).before args0 about1 = true := code_word (m := ⟨7, 5⟩) (meth := k7m5) (c := k7c5) (by decide +kernel) rfl rfl rfl (by decide +kernel)
set_option maxRecDepth 65536 in
theorem w_c41 : (Jvm.Cond.code ({ cls := "java/lang/StringLatin1", name := "canEncode", desc := "(C)Z" } : Jvm.MethodName) jdk_43_method_3_code (1 : Nat) (Option.some Jvm.ClassFile.FieldType.boolean)).before args0 about1 = true := code_word (m := ⟨16, 2⟩) (meth := k16m2) (c := k16c2) (by decide +kernel) rfl rfl rfl (by decide +kernel)
set_option maxRecDepth 65536 in
theorem w_c42 : (Jvm.Cond.code ({ cls := "java/lang/StringLatin1", name := "toBytes", desc := "(C)[B" } : Jvm.MethodName) jdk_43_method_46_code (1 : Nat) (Option.some (Jvm.ClassFile.FieldType.array Jvm.ClassFile.FieldType.byte))).before args0 about1 = true := code_word (m := ⟨16, 3⟩) (meth := k16m3) (c := k16c3) (by decide +kernel) rfl rfl rfl (by decide +kernel)
set_option maxRecDepth 65536 in
theorem w_c43 : (Jvm.Cond.code ({ cls := "java/lang/String", name := "<init>", desc := "([BB)V" } : Jvm.MethodName) jdk_42_method_151_code (3 : Nat) (Option.none : Option Jvm.ClassFile.FieldType)).before args0 about1 = true := code_word (m := ⟨7, 9⟩) (meth := k7m9) (c := k7c9) (by decide +kernel) rfl rfl rfl (by decide +kernel)
set_option maxRecDepth 65536 in
theorem w_c44 : (Jvm.Cond.code ({ cls := "java/lang/StringUTF16", name := "compress", desc := "([CII)[B" } : Jvm.MethodName) jdk_52_method_16_code (6 : Nat) (Option.some (Jvm.ClassFile.FieldType.array Jvm.ClassFile.FieldType.byte))).before args0 about1 = true := code_word (m := ⟨18, 2⟩) (meth := k18m2) (c := k18c2) (by decide +kernel) rfl rfl rfl (by decide +kernel)
set_option maxRecDepth 65536 in
theorem w_c45 : (Jvm.Cond.code ({ cls := "java/lang/StringUTF16", name := "compress", desc := "([CI[BII)I" } : Jvm.MethodName) jdk_52_method_21_code (7 : Nat) (Option.some Jvm.ClassFile.FieldType.int)).before args0 about1 = true := code_word (m := ⟨18, 3⟩) (meth := k18m3) (c := k18c3) (by decide +kernel) rfl rfl rfl (by decide +kernel)
set_option maxRecDepth 65536 in
theorem w_c46 : (Jvm.Cond.code ({ cls := "java/lang/StringUTF16", name := "coderFromArrayLen", desc := "([BI)B" } : Jvm.MethodName) jdk_52_method_15_code (2 : Nat) (Option.some Jvm.ClassFile.FieldType.byte)).before args0 about1 = true := code_word (m := ⟨18, 1⟩) (meth := k18m1) (c := k18c1) (by decide +kernel) rfl rfl rfl (by decide +kernel)
def codes1 : List Jvm.Cond := [Jvm.Cond.code x code maxLocals ret, Jvm.Cond.code ({ cls := "com/example/bounded_lock/boundedlock/HoldToStringPinLaw", name := "mk", desc := "(I)Ljava/lang/String;" } : Jvm.MethodName) method_2_code (4 : Nat) (Option.some (Jvm.ClassFile.FieldType.object "java/lang/String")), Jvm.Cond.code ({ cls := "java/lang/String", name := "<init>", desc := "([C)V" } : Jvm.MethodName) jdk_42_method_3_code (2 : Nat) (Option.none : Option Jvm.ClassFile.FieldType), Jvm.Cond.code ({ cls := "java/lang/String", name := "<init>", desc := "([CIILjava/lang/Void;)V" } : Jvm.MethodName) jdk_42_method_149_code (6 : Nat) (Option.none : Option Jvm.ClassFile.FieldType), Jvm.Cond.code ({ cls := "java/lang/Object", name := "<init>", desc := "()V" } : Jvm.MethodName) object_method_1_code (1 : Nat) (Option.none : Option Jvm.ClassFile.FieldType), Jvm.Cond.code ({ cls := "com/example/bounded_lock/boundedlock/Hold", name := "<init>", desc := "(Ljava/lang/String;Ljava/lang/String;Ljava/lang/String;)V" } : Jvm.MethodName) prog_3_method_1_code (4 : Nat) (Option.none : Option Jvm.ClassFile.FieldType), Jvm.Cond.code ({ cls := "com/example/bounded_lock/boundedlock/Hold", name := "toString", desc := "()Ljava/lang/String;" } : Jvm.MethodName) prog_3_method_4_code (1 : Nat) (Option.some (Jvm.ClassFile.FieldType.object "java/lang/String")), Jvm.Cond.code ({ cls := "java/lang/StringBuilder", name := "<init>", desc := "()V" } : Jvm.MethodName) jdk_67_method_1_code (1 : Nat) (Option.none : Option Jvm.ClassFile.FieldType), Jvm.Cond.code ({ cls := "java/lang/AbstractStringBuilder", name := "<init>", desc := "(I)V" } : Jvm.MethodName) jdk_68_method_2_code (2 : Nat) (Option.none : Option Jvm.ClassFile.FieldType), Jvm.Cond.code ({ cls := "java/lang/StringBuilder", name := "append", desc := "(Ljava/lang/String;)Ljava/lang/StringBuilder;" } : Jvm.MethodName) jdk_67_method_7_code (2 : Nat) (Option.some (Jvm.ClassFile.FieldType.object "java/lang/StringBuilder")), Jvm.Cond.code ({ cls := "java/lang/AbstractStringBuilder", name := "append", desc := "(Ljava/lang/String;)Ljava/lang/AbstractStringBuilder;" } : Jvm.MethodName) jdk_68_method_22_code (3 : Nat) (Option.some (Jvm.ClassFile.FieldType.object "java/lang/AbstractStringBuilder")), Jvm.Cond.code ({ cls := "java/lang/String", name := "length", desc := "()I" } : Jvm.MethodName) jdk_42_method_54_code (1 : Nat) (Option.some Jvm.ClassFile.FieldType.int), Jvm.Cond.code ({ cls := "java/lang/String", name := "coder", desc := "()B" } : Jvm.MethodName) jdk_42_method_152_code (1 : Nat) (Option.some Jvm.ClassFile.FieldType.byte), Jvm.Cond.code ({ cls := "java/lang/AbstractStringBuilder", name := "ensureCapacityInternal", desc := "(I)V" } : Jvm.MethodName) jdk_68_method_9_code (3 : Nat) (Option.none : Option Jvm.ClassFile.FieldType), Jvm.Cond.code ({ cls := "java/lang/AbstractStringBuilder", name := "putStringAt", desc := "(ILjava/lang/String;)V" } : Jvm.MethodName) jdk_68_method_73_code (3 : Nat) (Option.none : Option Jvm.ClassFile.FieldType), Jvm.Cond.code ({ cls := "java/lang/AbstractStringBuilder", name := "inflateIfNeededFor", desc := "(Ljava/lang/String;)V" } : Jvm.MethodName) jdk_68_method_71_code (2 : Nat) (Option.none : Option Jvm.ClassFile.FieldType), Jvm.Cond.code ({ cls := "java/lang/String", name := "getBytes", desc := "([BIB)V" } : Jvm.MethodName) jdk_42_method_147_code (4 : Nat) (Option.none : Option Jvm.ClassFile.FieldType), Jvm.Cond.code ({ cls := "java/lang/AbstractStringBuilder", name := "newCapacity", desc := "(I)I" } : Jvm.MethodName) jdk_68_method_10_code (6 : Nat) (Option.some Jvm.ClassFile.FieldType.int), Jvm.Cond.code ({ cls := "jdk/internal/util/ArraysSupport", name := "newLength", desc := "(III)I" } : Jvm.MethodName) jdk_48_method_27_code (4 : Nat) (Option.some Jvm.ClassFile.FieldType.int), Jvm.Cond.code ({ cls := "java/lang/Math", name := "max", desc := "(II)I" } : Jvm.MethodName) jdk_29_method_65_code (2 : Nat) (Option.some Jvm.ClassFile.FieldType.int), Jvm.Cond.code ({ cls := "java/util/Arrays", name := "copyOf", desc := "([BI)[B" } : Jvm.MethodName) jdk_65_method_121_code (3 : Nat) (Option.some (Jvm.ClassFile.FieldType.array Jvm.ClassFile.FieldType.byte)), Jvm.Cond.code ({ cls := "java/lang/Math", name := "min", desc := "(II)I" } : Jvm.MethodName) jdk_29_method_69_code (2 : Nat) (Option.some Jvm.ClassFile.FieldType.int), Jvm.Cond.code ({ cls := "java/lang/StringBuilder", name := "toString", desc := "()Ljava/lang/String;" } : Jvm.MethodName) jdk_67_method_42_code (1 : Nat) (Option.some (Jvm.ClassFile.FieldType.object "java/lang/String")), Jvm.Cond.code ({ cls := "java/lang/String", name := "<init>", desc := "(Ljava/lang/StringBuilder;)V" } : Jvm.MethodName) jdk_42_method_53_code (2 : Nat) (Option.none : Option Jvm.ClassFile.FieldType), Jvm.Cond.code ({ cls := "java/lang/String", name := "<init>", desc := "(Ljava/lang/AbstractStringBuilder;Ljava/lang/Void;)V" } : Jvm.MethodName) jdk_42_method_150_code (5 : Nat) (Option.none : Option Jvm.ClassFile.FieldType), Jvm.Cond.code ({ cls := "java/lang/AbstractStringBuilder", name := "getValue", desc := "()[B" } : Jvm.MethodName) jdk_68_method_64_code (1 : Nat) (Option.some (Jvm.ClassFile.FieldType.array Jvm.ClassFile.FieldType.byte)), Jvm.Cond.code ({ cls := "java/lang/StringBuilder", name := "length", desc := "()I" } : Jvm.MethodName) jdk_67_method_93_code (1 : Nat) (Option.some Jvm.ClassFile.FieldType.int), Jvm.Cond.code ({ cls := "java/lang/AbstractStringBuilder", name := "length", desc := "()I" } : Jvm.MethodName) jdk_68_method_6_code (1 : Nat) (Option.some Jvm.ClassFile.FieldType.int), Jvm.Cond.code ({ cls := "java/lang/AbstractStringBuilder", name := "isLatin1", desc := "()Z" } : Jvm.MethodName) jdk_68_method_68_code (1 : Nat) (Option.some Jvm.ClassFile.FieldType.boolean), Jvm.Cond.code ({ cls := "java/util/Arrays", name := "copyOfRange", desc := "([BII)[B" } : Jvm.MethodName) jdk_65_method_132_code (3 : Nat) (Option.some (Jvm.ClassFile.FieldType.array Jvm.ClassFile.FieldType.byte)), Jvm.Cond.code ({ cls := "java/util/Arrays", name := "copyOfRangeByte", desc := "([BII)[B" } : Jvm.MethodName) jdk_65_method_133_code (5 : Nat) (Option.some (Jvm.ClassFile.FieldType.array Jvm.ClassFile.FieldType.byte)), Jvm.Cond.code ({ cls := "java/util/Arrays", name := "checkLength", desc := "(II)V" } : Jvm.MethodName) jdk_65_method_131_code (2 : Nat) (Option.none : Option Jvm.ClassFile.FieldType), Jvm.Cond.code ({ cls := "com/example/bounded_lock/boundedlock/HoldToStringPinLaw", name := "seg", desc := "(Ljava/lang/String;ILjava/lang/String;)Z" } : Jvm.MethodName) method_3_code (3 : Nat) (Option.some Jvm.ClassFile.FieldType.boolean), Jvm.Cond.code ({ cls := "com/example/bounded_lock/boundedlock/HoldToStringPinLaw", name := "lit", desc := "(Ljava/lang/String;ILjava/lang/String;)Z" } : Jvm.MethodName) method_5_code (3 : Nat) (Option.some Jvm.ClassFile.FieldType.boolean), Jvm.Cond.code ({ cls := "com/example/bounded_lock/boundedlock/HoldToStringPinLaw", name := "ch", desc := "(Ljava/lang/String;ILjava/lang/String;I)Z" } : Jvm.MethodName) method_4_code (4 : Nat) (Option.some Jvm.ClassFile.FieldType.boolean), Jvm.Cond.code ({ cls := "java/lang/String", name := "charAt", desc := "(I)C" } : Jvm.MethodName) jdk_42_method_56_code (2 : Nat) (Option.some Jvm.ClassFile.FieldType.char), Jvm.Cond.code ({ cls := "java/lang/String", name := "isLatin1", desc := "()Z" } : Jvm.MethodName) jdk_42_method_154_code (1 : Nat) (Option.some Jvm.ClassFile.FieldType.boolean), Jvm.Cond.code ({ cls := "java/lang/StringLatin1", name := "charAt", desc := "([BI)C" } : Jvm.MethodName) jdk_43_method_2_code (2 : Nat) (Option.some Jvm.ClassFile.FieldType.char), Jvm.Cond.code ({ cls := "java/lang/String", name := "checkIndex", desc := "(II)V" } : Jvm.MethodName) jdk_42_method_155_code (2 : Nat) (Option.none : Option Jvm.ClassFile.FieldType), Jvm.Cond.code ({ cls := "jdk/internal/util/Preconditions", name := "checkIndex", desc := "(IILjava/util/function/BiFunction;)I" } : Jvm.MethodName) jdk_41_method_11_code (3 : Nat) (Option.some Jvm.ClassFile.FieldType.int), Jvm.Cond.code ({ cls := "java/lang/String", name := "valueOf", desc := "(C)Ljava/lang/String;" } : Jvm.MethodName) jdk_42_method_139_code (1 : Nat) (Option.some (Jvm.ClassFile.FieldType.object "java/lang/String")), Jvm.Cond.code ({ cls := "java/lang/StringLatin1", name := "canEncode", desc := "(C)Z" } : Jvm.MethodName) jdk_43_method_3_code (1 : Nat) (Option.some Jvm.ClassFile.FieldType.boolean), Jvm.Cond.code ({ cls := "java/lang/StringLatin1", name := "toBytes", desc := "(C)[B" } : Jvm.MethodName) jdk_43_method_46_code (1 : Nat) (Option.some (Jvm.ClassFile.FieldType.array Jvm.ClassFile.FieldType.byte)), Jvm.Cond.code ({ cls := "java/lang/String", name := "<init>", desc := "([BB)V" } : Jvm.MethodName) jdk_42_method_151_code (3 : Nat) (Option.none : Option Jvm.ClassFile.FieldType), Jvm.Cond.code ({ cls := "java/lang/StringUTF16", name := "compress", desc := "([CII)[B" } : Jvm.MethodName) jdk_52_method_16_code (6 : Nat) (Option.some (Jvm.ClassFile.FieldType.array Jvm.ClassFile.FieldType.byte)), Jvm.Cond.code ({ cls := "java/lang/StringUTF16", name := "compress", desc := "([CI[BII)I" } : Jvm.MethodName) jdk_52_method_21_code (7 : Nat) (Option.some Jvm.ClassFile.FieldType.int), Jvm.Cond.code ({ cls := "java/lang/StringUTF16", name := "coderFromArrayLen", desc := "([BI)B" } : Jvm.MethodName) jdk_52_method_15_code (2 : Nat) (Option.some Jvm.ClassFile.FieldType.byte)]
set_option maxRecDepth 65536 in
theorem codes_eq : words1.filter isCode = codes1 := rfl
theorem w_codes : ∀ c ∈ words1.filter isCode, c.before args0 about1 = true := by
  rw [codes_eq]
  intro c hc
  simp only [codes1, List.mem_cons, List.not_mem_nil, or_false] at hc
  rcases hc with rfl | rfl | rfl | rfl | rfl | rfl | rfl | rfl | rfl | rfl | rfl | rfl | rfl | rfl | rfl | rfl | rfl | rfl | rfl | rfl | rfl | rfl | rfl | rfl | rfl | rfl | rfl | rfl | rfl | rfl | rfl | rfl | rfl | rfl | rfl | rfl | rfl | rfl | rfl | rfl | rfl | rfl | rfl | rfl | rfl | rfl | rfl
  · exact w_c0
  · exact w_c1
  · exact w_c2
  · exact w_c3
  · exact w_c4
  · exact w_c5
  · exact w_c6
  · exact w_c7
  · exact w_c8
  · exact w_c9
  · exact w_c10
  · exact w_c11
  · exact w_c12
  · exact w_c13
  · exact w_c14
  · exact w_c15
  · exact w_c16
  · exact w_c17
  · exact w_c18
  · exact w_c19
  · exact w_c20
  · exact w_c21
  · exact w_c22
  · exact w_c23
  · exact w_c24
  · exact w_c25
  · exact w_c26
  · exact w_c27
  · exact w_c28
  · exact w_c29
  · exact w_c30
  · exact w_c31
  · exact w_c32
  · exact w_c33
  · exact w_c34
  · exact w_c35
  · exact w_c36
  · exact w_c37
  · exact w_c38
  · exact w_c39
  · exact w_c40
  · exact w_c41
  · exact w_c42
  · exact w_c43
  · exact w_c44
  · exact w_c45
  · exact w_c46
set_option maxRecDepth 65536 in
theorem w_t1 : (words1.take 24).all (fun c => isCode c || c.before args0 about1) = true := by decide +kernel
set_option maxRecDepth 65536 in
theorem w_t2 : ((words1.drop 24).take 24).all (fun c => isCode c || c.before args0 about1) = true := by decide +kernel
set_option maxRecDepth 65536 in
theorem w_t3 : (((words1.drop 24).drop 24).take 24).all (fun c => isCode c || c.before args0 about1) = true := by decide +kernel
set_option maxRecDepth 65536 in
theorem w_t4 : ((((words1.drop 24).drop 24).drop 24).take 24).all (fun c => isCode c || c.before args0 about1) = true := by decide +kernel
set_option maxRecDepth 65536 in
theorem w_t5 : (((((words1.drop 24).drop 24).drop 24).drop 24).take 24).all (fun c => isCode c || c.before args0 about1) = true := by decide +kernel
set_option maxRecDepth 65536 in
theorem w_t6 : ((((((words1.drop 24).drop 24).drop 24).drop 24).drop 24).take 24).all (fun c => isCode c || c.before args0 about1) = true := by decide +kernel
set_option maxRecDepth 65536 in
theorem w_t7 : (((((((words1.drop 24).drop 24).drop 24).drop 24).drop 24).drop 24).take 24).all (fun c => isCode c || c.before args0 about1) = true := by decide +kernel
set_option maxRecDepth 65536 in
theorem w_t8 : ((((((((words1.drop 24).drop 24).drop 24).drop 24).drop 24).drop 24).drop 24).take 24).all (fun c => isCode c || c.before args0 about1) = true := by decide +kernel
set_option maxRecDepth 65536 in
theorem w_t9 : (((((((((words1.drop 24).drop 24).drop 24).drop 24).drop 24).drop 24).drop 24).drop 24).take 24).all (fun c => isCode c || c.before args0 about1) = true := by decide +kernel
set_option maxRecDepth 65536 in
theorem w_t10 : (((((((((words1.drop 24).drop 24).drop 24).drop 24).drop 24).drop 24).drop 24).drop 24).drop 24).all (fun c => isCode c || c.before args0 about1) = true := by decide +kernel
theorem w_tables : (allAtoms (Jvm.Cond.code x code maxLocals ret :: tables_1)).before args0 about1 = true := by
  rw [allAtoms_all]
  show words1.all (fun c => c.before args0 about1) = true
  refine all_split ?_ w_codes
  rw [← List.take_append_drop 24 words1, List.all_append, w_t1, ← List.take_append_drop 24 (words1.drop 24), List.all_append, w_t2, ← List.take_append_drop 24 ((words1.drop 24).drop 24), List.all_append, w_t3, ← List.take_append_drop 24 (((words1.drop 24).drop 24).drop 24), List.all_append, w_t4, ← List.take_append_drop 24 ((((words1.drop 24).drop 24).drop 24).drop 24), List.all_append, w_t5, ← List.take_append_drop 24 (((((words1.drop 24).drop 24).drop 24).drop 24).drop 24), List.all_append, w_t6, ← List.take_append_drop 24 ((((((words1.drop 24).drop 24).drop 24).drop 24).drop 24).drop 24), List.all_append, w_t7, ← List.take_append_drop 24 (((((((words1.drop 24).drop 24).drop 24).drop 24).drop 24).drop 24).drop 24), List.all_append, w_t8, ← List.take_append_drop 24 ((((((((words1.drop 24).drop 24).drop 24).drop 24).drop 24).drop 24).drop 24).drop 24), List.all_append, w_t9, w_t10]
  rfl
set_option maxRecDepth 65536 in
theorem w_rest : rest_1_c.before args0 about1 = true := by decide +kernel
set_option maxRecDepth 65536 in
theorem w_case : (Jvm.Cond.and given_1 narrow_1).before args0 about1 = true := by decide +kernel
set_option maxRecDepth 65536 in
theorem w_consts : constsHeld consts_1 about1 := Jvm.Lit.constsHeldB_iff.mp (by decide +kernel)
theorem w_applies : (headSpec (Jvm.Cond.code x code maxLocals ret :: tables_1) room_1).applies x e0.platform about1 = true :=
  (Spec.applies_iff w_frames).mpr ⟨w_running, w_runnable, w_alone, w_named, w_hears, w_ripe, w_room, w_tables⟩
theorem atStart : AtStart classFile x code maxLocals ret World_1 tables_1 room_1 Calls_1 rest_1 Pre_1 launch0 p0 e0 about1 theMethod args0 below0 :=
  ⟨lists_1, trivial, launch0.admits_env _ _ _, launch0.least_env, fairChoices_fair.cas, fairChoices_fair.clock, w_frames, w_args, w_heap, w_applies, ⟨w_consts, trivial⟩, w_rest, w_case⟩
end start1
theorem witness_1 : WitnessClaimed_1 := ⟨start1.p0, start1.e0, start1.about1, start1.theMethod, start1.args0, start1.below0, start1.atStart⟩
end Jvm.Pilot.@@N@@
