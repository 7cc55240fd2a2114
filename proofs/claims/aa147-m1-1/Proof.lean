import JvmDerived
import JvmDerived.Pilot.@@N@@Statement
import JvmDerived.Pilot.@@N@@Code
set_option linter.unusedVariables false
set_option linter.unusedSimpArgs false
@@BLOCK:NumsL.lean.txt@@
/- laws to paste: Road.backV, Road.codOf, chr8_lo8, narrow_ch, pair_says, shr0 (cut by pick.py; bodies as the Statement names them) -/
namespace Jvm.Pilot.@@N@@
namespace StrChars
open Jvm Sem ClassFile Op Lib Jvm.Stand Jvm.Free.XT Jvm.Free.ALB Jvm.Free.JM Jvm.Free
open Jvm.Lib.Cold (StaticIs)
/-- a char array whose places are chars -/
def Ch (a : Addr) (A : Cell) (U : State) : Prop := Arr .char a A U ∧ Typed .char A
theorem Ch.mv {a : Addr} {A : Cell} {U U' : State} (h : Ch a A U) (hal : U.vm.Alike U'.vm) (hh : U'.heap = U.heap) : Ch a A U' := ⟨h.1.mv hal hh, h.2⟩
theorem Ch.keep {a : Addr} {A : Cell} {U U' : State} (h : Ch a A U) (hal : U.vm.Alike U'.vm) (hk : U'.heap[a]? = some A) : Ch a A U' := ⟨h.1.keep hal hk, h.2⟩
/-- what place i of a char[]'s cell holds -/
def cv (A : Cell) (i : Nat) : Int32 := match A.slots[i]? with | some (.int x) => x | _ => 0
theorem Ch.get {a : Addr} {A : Cell} {U : State} (h : Ch a A U) {i : Nat} (hi : i < A.slots.size) : A.slots[i]? = some (.int (cv A i)) := by
  have e := Array.getElem?_eq_getElem hi
  have f := h.2 i _ e
  unfold cv; rw [e]
  generalize A.slots[i] = v at f
  cases v <;> simp [fits] at f ⊢
/-- the byte that i2b leaves of a char -/
def lo8 (x : Int32) : Int32 := x.toInt8.toInt32
theorem fits_lo8 (y : Int32) : fits .byte (.int (lo8 y)) = true := by
  have h1 := y.toInt8.le_toInt
  have h2 := y.toInt8.toInt_lt
  simp only [lo8, fits, Bool.and_eq_true, decide_eq_true_eq, Int32.le_iff_toInt_le, Int8.toInt_toInt32, show (-128 : Int32).toInt = -128 from by decide, show (127 : Int32).toInt = 127 from by decide]
  omega
/-- A' is A but that each place j of lo .. hi - 1 holds f j -/
def Laid (A A' : Cell) (lo hi : Nat) (f : Nat → Value) : Prop := A'.cls = A.cls ∧ A'.vm = A.vm ∧ A'.slots.size = A.slots.size ∧ ∀ i, A'.slots[i]? = if lo ≤ i ∧ i < hi then some (f i) else A.slots[i]?
theorem Laid.zero (A : Cell) (lo : Nat) (f : Nat → Value) : Laid A A lo (lo + 0) f := ⟨rfl, rfl, rfl, fun i => by rw [if_neg (by omega)]⟩
theorem Laid.step {A Ak : Cell} {lo k : Nat} {f : Nat → Value} {v : Value} (h : Laid A Ak lo k f) (hlo : lo ≤ k) (hk : k < Ak.slots.size) (hv : v = f k) : Laid A (Ak.setSlot k v) lo (k + 1) f := by
  refine ⟨h.1, h.2.1, by simpa [Cell.setSlot] using h.2.2.1, fun i => ?_⟩
  by_cases e : k = i
  · subst e; rw [Cell.slots_setSlot_self v hk, if_pos (by omega), hv]
  · rw [Cell.slots_setSlot_ne v e, h.2.2.2 i]
    by_cases q : lo ≤ i ∧ i < k
    · rw [if_pos q, if_pos (by omega)]
    · rw [if_neg q, if_neg (by omega)]
def U16 : String := "java/lang/StringUTF16"
namespace Cmp5
def yN : MethodName := ⟨"java/lang/StringUTF16", "compress", "([CI[BII)I"⟩
abbrev yB : ByteArray := jdk_52_method_21_code
theorem d0 : decode yB 0 = .ok (.iconst 0, 1) := by decide +kernel
theorem d1 : decode yB 1 = .ok (.istore 5, 2) := by decide +kernel
theorem d3 : decode yB 3 = .ok (.iload 5, 2) := by decide +kernel
theorem d5 : decode yB 5 = .ok (.iload 4, 2) := by decide +kernel
theorem d7 : decode yB 7 = .ok (.if_icmp (.ge) 37, 3) := by decide +kernel
theorem d10 : decode yB 10 = .ok (.aload_n 0, 1) := by decide +kernel
theorem d11 : decode yB 11 = .ok (.iload_n 1, 1) := by decide +kernel
theorem d12 : decode yB 12 = .ok (.caload, 1) := by decide +kernel
theorem d13 : decode yB 13 = .ok (.istore 6, 2) := by decide +kernel
theorem d15 : decode yB 15 = .ok (.iload 6, 2) := by decide +kernel
theorem d17 : decode yB 17 = .ok (.sipush 255, 3) := by decide +kernel
theorem d20 : decode yB 20 = .ok (.if_icmp (.le) 6, 3) := by decide +kernel
theorem d26 : decode yB 26 = .ok (.aload_n 2, 1) := by decide +kernel
theorem d27 : decode yB 27 = .ok (.iload_n 3, 1) := by decide +kernel
theorem d28 : decode yB 28 = .ok (.iload 6, 2) := by decide +kernel
theorem d30 : decode yB 30 = .ok (.i2b, 1) := by decide +kernel
theorem d31 : decode yB 31 = .ok (.bastore, 1) := by decide +kernel
theorem d32 : decode yB 32 = .ok (.iinc 1 1, 3) := by decide +kernel
theorem d35 : decode yB 35 = .ok (.iinc 3 1, 3) := by decide +kernel
theorem d38 : decode yB 38 = .ok (.iinc 5 1, 3) := by decide +kernel
theorem d41 : decode yB 41 = .ok (.goto (-38), 3) := by decide +kernel
theorem d44 : decode yB 44 = .ok (.iload 4, 2) := by decide +kernel
theorem d46 : decode yB 46 = .ok (.ireturn, 1) := by decide +kernel
def site : List Cond := []
def tab : Cond := tabOf yN yB 7 (some .int) site
def P (b : Addr) (A : Cell) (d : Addr) (B : Cell) (o q len : Nat) (args : Array Value) (s : State) : Prop := args = #[.ref b, .int (Int32.ofNat o), .ref d, .int (Int32.ofNat q), .int (Int32.ofNat len)] ∧ Ch b A s ∧ Arr .byte d B s ∧ b ≠ d ∧ o + len ≤ A.slots.size ∧ q + len ≤ B.slots.size ∧ ∀ i, i < len → ¬ 255 < cv A (o + i)
def E (b : Addr) (A : Cell) (d : Addr) (B : Cell) (o q len : Nat) (r : Option Value) (s u : State) : Prop := r = some (.int (Int32.ofNat len)) ∧ ∃ B', Put d B' s u ∧ Laid B B' q (q + len) (fun j => Value.int (lo8 (cv A (o + (j - q)))))
/-- no char of the range above 255: len; the places written hold each char's low byte -/
theorem law (l : Launch) (b : Addr) (A : Cell) (d : Addr) (B : Cell) (o q len : Nat) : Law l yN 5 5 0 0 yB 7 (some .int) site (P b A d B o q len) (E b A d B o q len) (copyLocs d q len) 0 0 := by
  refine Law.of_walk (plainFor_of_name (by decide +kernel)) (by decide +kernel) (by decide +kernel) (by decide) (fun _ _ h => by rw [h.1]; rfl) (fun _ U U' hal hh h => ⟨h.1, h.2.1.mv hal hh, h.2.2.1.mv hal hh, h.2.2.2⟩) (fun r U U' V V' h1 hal h2 h => ⟨h.1, h.2.elim fun B' q => ⟨B', q.1.mv h1 h2, q.2⟩⟩) ?_
  intro p e s m args below meth c s₁ X0 hexec hbytes hml hret hlk hnm hown hh0 W hP
  obtain ⟨rfl, hA, hB, hne, l1, l2, hp⟩ := hP
  have c1 : Steps p.tables e below (s₁.setTop (entryFrame m #[.ref b, .int (Int32.ofNat o), .ref d, .int (Int32.ofNat q), .int (Int32.ofNat len)] 7)) (s₁.setTop (mkF m 0 #[.val (.ref b), .val (.int (Int32.ofNat o)), .val (.ref d), .val (.int (Int32.ofNat q)), .val (.int (Int32.ofNat len)), .unset, .unset] [])) := entry rfl
  have hA0 := hA.1.mv X0.warmed.alike hh0
  have hB0 := hB.mv X0.warmed.alike hh0
  have a31 := hA.1.2.2.2
  have c2 : Steps p.tables e below (s₁.setTop (entryFrame m #[.ref b, .int (Int32.ofNat o), .ref d, .int (Int32.ofNat q), .int (Int32.ofNat len)] 7)) (s₁.setTop (mkF m 3 #[.val (.ref b), .val (.int (Int32.ofNat o)), .val (.ref d), .val (.int (Int32.ofNat q)), .val (.int (Int32.ofNat len)), .val (.int 0), .unset] [])) := c1.trans (by
    refine iconstV X0.here hexec rfl 0 (hb hbytes d0) (by decide) ?_
    refine XS.istore X0.here hexec rfl (hb hbytes d1) rfl rfl ?_
    exact Steps.refl _)
  have loop : ∀ (r i : Nat), i + r = len → ∀ (z : Slot), (z = .unset ∨ ∃ w, z = .val w ∧ w.category = 1) → ∀ (Tl : State) (Bk : Cell), Stand p l e { frames := 0, locals := 0, cells := 0, slots := 0 } s m #[.ref b, .int (Int32.ofNat o), .ref d, .int (Int32.ofNat q), .int (Int32.ofNat len)] below meth c Tl ([] ++ copyLocs d q i) 0 0 → Put d Bk s₁ Tl → Laid B Bk q (q + i) (fun j => Value.int (lo8 (cv A (o + (j - q))))) →
      Steps p.tables e below (s₁.setTop (entryFrame m #[.ref b, .int (Int32.ofNat o), .ref d, .int (Int32.ofNat q), .int (Int32.ofNat len)] 7)) (Tl.setTop (mkF m 3 #[.val (.ref b), .val (.int (Int32.ofNat (o + i))), .val (.ref d), .val (.int (Int32.ofNat (q + i))), .val (.int (Int32.ofNat len)), .val (.int (Int32.ofNat i)), z] [])) → ∃ (T' : State) (B' : Cell) (z' : Slot), Stand p l e { frames := 0, locals := 0, cells := 0, slots := 0 } s m #[.ref b, .int (Int32.ofNat o), .ref d, .int (Int32.ofNat q), .int (Int32.ofNat len)] below meth c T' ([] ++ copyLocs d q len) 0 0 ∧ Put d B' s₁ T' ∧ Laid B B' q (q + len) (fun j => Value.int (lo8 (cv A (o + (j - q))))) ∧
      Steps p.tables e below (s₁.setTop (entryFrame m #[.ref b, .int (Int32.ofNat o), .ref d, .int (Int32.ofNat q), .int (Int32.ofNat len)] 7)) (T'.setTop (mkF m 3 #[.val (.ref b), .val (.int (Int32.ofNat (o + len))), .val (.ref d), .val (.int (Int32.ofNat (q + len))), .val (.int (Int32.ofNat len)), .val (.int (Int32.ofNat len)), z'] [])) := by
    intro r
    induction r with
    | zero =>
      intro i hi z hz Tl Bk Xl pl fl cl
      have hil : i = len := by omega
      rw [hil] at Xl fl cl
      exact ⟨Tl, Bk, z, Xl, pl, fl, cl⟩
    | succ r ih =>
      intro i hi z hz Tl Bk Xl pl fl cl
      have all := X0.warmed.alike.symm.trans Xl.warmed.alike
      have hAl := hA0.keep all (pl.other hne hA0.1)
      have hBk := hB0.like all pl.1 fl.1 fl.2.1 fl.2.2.1
      have hlt : q + i < Bk.slots.size := by rw [fl.2.2.1]; omega
      have c3 : Steps p.tables e below (s₁.setTop (entryFrame m #[.ref b, .int (Int32.ofNat o), .ref d, .int (Int32.ofNat q), .int (Int32.ofNat len)] 7)) (Tl.setTop (mkF m 12 #[.val (.ref b), .val (.int (Int32.ofNat (o + i))), .val (.ref d), .val (.int (Int32.ofNat (q + i))), .val (.int (Int32.ofNat len)), .val (.int (Int32.ofNat i)), z] [.int (Int32.ofNat (o + i)), .ref b])) := cl.trans (by
        refine XS.iload Xl.here hexec rfl (hb hbytes d3) rfl ?_
        refine XS.iload Xl.here hexec rfl (hb hbytes d5) rfl ?_
        refine XS.icmpNo Xl.here hexec rfl (hb hbytes d7) rfl (ii_ge_f (lt32 (by omega) (by omega))) ?_
        refine XS.aloadN Xl.here hexec rfl (hb hbytes d10) rfl rfl ?_
        refine XS.iloadN Xl.here hexec rfl (hb hbytes d11) rfl ?_
        exact Steps.refl _)
      have c4 : Steps p.tables e below (s₁.setTop (entryFrame m #[.ref b, .int (Int32.ofNat o), .ref d, .int (Int32.ofNat q), .int (Int32.ofNat len)] 7)) (Tl.setTop (mkF m 13 #[.val (.ref b), .val (.int (Int32.ofNat (o + i))), .val (.ref d), .val (.int (Int32.ofNat (q + i))), .val (.int (Int32.ofNat len)), .val (.int (Int32.ofNat i)), z] [.int (cv A (o + i))])) := c3.trans (by
        refine Xl.aget hexec hAl rfl (hA.get (i := o + i) (by omega)) rfl rfl (hb hbytes d12) ?_
        exact Steps.refl _)
      have c5 : Steps p.tables e below (s₁.setTop (entryFrame m #[.ref b, .int (Int32.ofNat o), .ref d, .int (Int32.ofNat q), .int (Int32.ofNat len)] 7)) (Tl.setTop (mkF m 15 #[.val (.ref b), .val (.int (Int32.ofNat (o + i))), .val (.ref d), .val (.int (Int32.ofNat (q + i))), .val (.int (Int32.ofNat len)), .val (.int (Int32.ofNat i)), .val (.int (cv A (o + i)))] [])) := c4.trans (by
        refine XS.istoreS Xl.here hexec rfl (hb hbytes d13) rfl rfl hz ?_
        exact Steps.refl _)
      have c6 : Steps p.tables e below (s₁.setTop (entryFrame m #[.ref b, .int (Int32.ofNat o), .ref d, .int (Int32.ofNat q), .int (Int32.ofNat len)] 7)) (Tl.setTop (mkF m 31 #[.val (.ref b), .val (.int (Int32.ofNat (o + i))), .val (.ref d), .val (.int (Int32.ofNat (q + i))), .val (.int (Int32.ofNat len)), .val (.int (Int32.ofNat i)), .val (.int (cv A (o + i)))] [.int (lo8 (cv A (o + i))), .int (Int32.ofNat (q + i)), .ref d])) := c5.trans (by
        refine XS.iload Xl.here hexec rfl (hb hbytes d15) rfl ?_
        refine sipushV Xl.here hexec rfl 255 (hb hbytes d17) (by decide) ?_
        refine XS.icmpYes Xl.here hexec rfl (pc0 := 20) rfl (hb hbytes d20) rfl (ii_le_t (hp i (by omega))) (by decide) rfl ?_
        refine XS.aloadN Xl.here hexec rfl (hb hbytes d26) rfl rfl ?_
        refine XS.iloadN Xl.here hexec rfl (hb hbytes d27) rfl ?_
        refine XS.iload Xl.here hexec rfl (hb hbytes d28) rfl ?_
        refine i2b Xl.here hexec rfl (hb hbytes d30) rfl ?_
        exact Steps.refl _)
      obtain ⟨T7, X7, p7, st7⟩ := Xl.aput hexec hBk rfl hlt rfl (fits_lo8 (cv A (o + i))) (g := (mkF m 31 #[.val (.ref b), .val (.int (Int32.ofNat (o + i))), .val (.ref d), .val (.int (Int32.ofNat (q + i))), .val (.int (Int32.ofNat len)), .val (.int (Int32.ofNat i)), .val (.int (cv A (o + i)))] [.int (lo8 (cv A (o + i))), .int (Int32.ofNat (q + i)), .ref d])) rfl (rest := []) rfl (hb hbytes d31)
      have c8 : Steps p.tables e below (s₁.setTop (entryFrame m #[.ref b, .int (Int32.ofNat o), .ref d, .int (Int32.ofNat q), .int (Int32.ofNat len)] 7)) (T7.setTop (mkF m 32 #[.val (.ref b), .val (.int (Int32.ofNat (o + i))), .val (.ref d), .val (.int (Int32.ofNat (q + i))), .val (.int (Int32.ofNat len)), .val (.int (Int32.ofNat i)), .val (.int (cv A (o + i)))] [])) := c6.trans (st7 _ (Steps.refl _))
      have c9 : Steps p.tables e below (s₁.setTop (entryFrame m #[.ref b, .int (Int32.ofNat o), .ref d, .int (Int32.ofNat q), .int (Int32.ofNat len)] 7)) (T7.setTop (mkF m 3 #[.val (.ref b), .val (.int (Int32.ofNat (o + i) + 1)), .val (.ref d), .val (.int (Int32.ofNat (q + i) + 1)), .val (.int (Int32.ofNat len)), .val (.int (Int32.ofNat i + 1)), .val (.int (cv A (o + i)))] [])) := c8.trans (by
        refine iincV X7.here hexec rfl 1 (hb hbytes d32) (by decide) rfl rfl ?_
        refine iincV X7.here hexec rfl 1 (hb hbytes d35) (by decide) rfl rfl ?_
        refine iincV X7.here hexec rfl 1 (hb hbytes d38) (by decide) rfl rfl ?_
        refine XS.goto X7.here hexec rfl (pc0 := 41) rfl (hb hbytes d41) (by decide) rfl ?_
        exact Steps.refl _)
      have c10 : Steps p.tables e below (s₁.setTop (entryFrame m #[.ref b, .int (Int32.ofNat o), .ref d, .int (Int32.ofNat q), .int (Int32.ofNat len)] 7)) (T7.setTop (mkF m 3 #[.val (.ref b), .val (.int (Int32.ofNat (o + (i + 1)))), .val (.ref d), .val (.int (Int32.ofNat (q + (i + 1)))), .val (.int (Int32.ofNat len)), .val (.int (Int32.ofNat (i + 1))), .val (.int (cv A (o + i)))] [])) := by
        have := c9
        rw [succ32, succ32, succ32] at this
        exact this
      exact ih (i + 1) (by omega) _ (Or.inr ⟨_, rfl, rfl⟩) T7 _ (by rw [copyLocs_step, ← List.append_assoc]; exact X7) (pl.trans p7) (fl.step (by omega) hlt (by simp)) c10
  obtain ⟨T9, B9, z9, X9, p9, f9, g9⟩ := loop len 0 (by omega) .unset (Or.inl rfl) s₁ B (by simpa [copyLocs] using X0) ⟨hB0.1, fun _ _ => rfl, rfl⟩ (Laid.zero _ _ _) c2
  have c11 : Steps p.tables e below (s₁.setTop (entryFrame m #[.ref b, .int (Int32.ofNat o), .ref d, .int (Int32.ofNat q), .int (Int32.ofNat len)] 7)) (T9.setTop (mkF m 46 #[.val (.ref b), .val (.int (Int32.ofNat (o + len))), .val (.ref d), .val (.int (Int32.ofNat (q + len))), .val (.int (Int32.ofNat len)), .val (.int (Int32.ofNat len)), z9] [.int (Int32.ofNat len)])) := g9.trans (by
    refine XS.iload X9.here hexec rfl (hb hbytes d3) rfl ?_
    refine XS.iload X9.here hexec rfl (hb hbytes d5) rfl ?_
    refine XS.icmpYes X9.here hexec rfl (pc0 := 7) rfl (hb hbytes d7) rfl (ii_ge_t (nlt32 (by omega) (Nat.le_refl _))) (by decide) rfl ?_
    refine XS.iload X9.here hexec rfl (hb hbytes d44) rfl ?_
    exact Steps.refl _)
  exact ⟨T9, some (.int (Int32.ofNat len)), _, _, _, X9, by simp, rfl, rfl, (fun h => by cases h), ⟨rfl, B9, p9.from hh0, f9⟩, fun fs hl => c11.trans (X9.ireturnOut hexec hret rfl (Or.inl rfl) (hb hbytes d46) hl)⟩
end Cmp5
namespace Cmp3
def yN : MethodName := ⟨"java/lang/StringUTF16", "compress", "([CII)[B"⟩
abbrev yB : ByteArray := jdk_52_method_16_code
theorem d0 : decode yB 0 = .ok (.iload_n 2, 1) := by decide +kernel
theorem d1 : decode yB 1 = .ok (.newarray .byte, 2) := by decide +kernel
theorem d3 : decode yB 3 = .ok (.astore_n 3, 1) := by decide +kernel
theorem d4 : decode yB 4 = .ok (.aload_n 0, 1) := by decide +kernel
theorem d5 : decode yB 5 = .ok (.iload_n 1, 1) := by decide +kernel
theorem d6 : decode yB 6 = .ok (.aload_n 3, 1) := by decide +kernel
theorem d7 : decode yB 7 = .ok (.iconst 0, 1) := by decide +kernel
theorem d8 : decode yB 8 = .ok (.iload_n 2, 1) := by decide +kernel
theorem d9 : decode yB 9 = .ok (.invokestatic 115, 3) := by decide +kernel
theorem d12 : decode yB 12 = .ok (.istore 4, 2) := by decide +kernel
theorem d14 : decode yB 14 = .ok (.iload 4, 2) := by decide +kernel
theorem d16 : decode yB 16 = .ok (.iload_n 2, 1) := by decide +kernel
theorem d17 : decode yB 17 = .ok (.if_icmp (.eq) 40, 3) := by decide +kernel
theorem d57 : decode yB 57 = .ok (.aload_n 3, 1) := by decide +kernel
theorem d58 : decode yB 58 = .ok (.areturn, 1) := by decide +kernel
def site : List Cond := [.arrayClass .byte, Cmp5.tab] ++ staticW U16 115 Cmp5.yN
def tab : Cond := tabOf yN yB 6 (some (.array .byte)) site
def P (b : Addr) (A : Cell) (o len : Nat) (args : Array Value) (s : State) : Prop := args = #[.ref b, .int (Int32.ofNat o), .int (Int32.ofNat len)] ∧ Ch b A s ∧ o + len ≤ A.slots.size ∧ len ≤ 536870912 ∧ ∀ i, i < len → ¬ 255 < cv A (o + i)
def E (b : Addr) (A : Cell) (o len : Nat) (r : Option Value) (s u : State) : Prop := NewArr .byte "[B" len (fun j => .int (lo8 (cv A (o + j)))) r s u ∧ u.heap.size = s.heap.size + 1
/-- no char of the range above 255: a new byte[] of their low bytes -/
theorem law (l : Launch) (b : Addr) (A : Cell) (o len : Nat) : Law l yN 3 3 1 18 yB 6 (some (.array .byte)) site (P b A o len) (E b A o len) [] 1 len := by
  refine Law.of_walk (plainFor_of_name (by decide +kernel)) (by decide +kernel) (by decide +kernel) (by decide) (fun _ _ h => by rw [h.1]; rfl) (fun _ U U' hal hh h => ⟨h.1, h.2.1.mv hal hh, h.2.2⟩) (fun r U U' V V' h1 hal h2 h => ⟨NewArr.mv r U U' V V' h1 hal h2 h.1, by rw [h1, h2]; exact h.2⟩) ?_
  intro p e s m args below meth c s₁ X0 hexec hbytes hml hret hlk hnm hown hh0 W hP
  obtain ⟨rfl, hA, l1, l2, hp⟩ := hP
  have a31 := hA.1.2.2.2
  have c1 : Steps p.tables e below (s₁.setTop (entryFrame m #[.ref b, .int (Int32.ofNat o), .int (Int32.ofNat len)] 6)) (s₁.setTop (mkF m 0 #[.val (.ref b), .val (.int (Int32.ofNat o)), .val (.int (Int32.ofNat len)), .unset, .unset, .unset] [])) := entry rfl
  have c2 : Steps p.tables e below (s₁.setTop (entryFrame m #[.ref b, .int (Int32.ofNat o), .int (Int32.ofNat len)] 6)) (s₁.setTop (mkF m 1 #[.val (.ref b), .val (.int (Int32.ofNat o)), .val (.int (Int32.ofNat len)), .unset, .unset, .unset] [.int (Int32.ofNat len)])) := c1.trans (by
    refine XS.iloadN X0.here hexec rfl (hb hbytes d0) rfl ?_
    exact Steps.refl _)
  obtain ⟨T3, B3, X3, ba3, bs3, bv3, bh3, bf3, st3⟩ := X0.anew hexec (atype := .byte) (wk W (.arrayClass .byte)) rfl (by show len * 1 ≤ _; omega) (by omega) (g := (mkF m 1 #[.val (.ref b), .val (.int (Int32.ofNat o)), .val (.int (Int32.ofNat len)), .unset, .unset, .unset] [.int (Int32.ofNat len)])) rfl (hb hbytes d1) (rest := []) rfl (Nat.le_refl _) (by show 0 + len ≤ len; omega)
  rw [hh0] at ba3 st3
  have kp3 : XT.Kept s T3 := (XT.Kept.of_eq hh0).push bh3
  have hA3 := hA.keep X3.warmed.alike (kp3 _ _ hA.1.1)
  have hne : b ≠ s.heap.size := hA.1.ne
  have c4 : Steps p.tables e below (s₁.setTop (entryFrame m #[.ref b, .int (Int32.ofNat o), .int (Int32.ofNat len)] 6)) (T3.setTop (mkF m 3 #[.val (.ref b), .val (.int (Int32.ofNat o)), .val (.int (Int32.ofNat len)), .unset, .unset, .unset] [.ref s.heap.size])) := c2.trans (st3 _ (Steps.refl _))
  have c5 : Steps p.tables e below (s₁.setTop (entryFrame m #[.ref b, .int (Int32.ofNat o), .int (Int32.ofNat len)] 6)) (T3.setTop (mkF m 9 #[.val (.ref b), .val (.int (Int32.ofNat o)), .val (.int (Int32.ofNat len)), .val (.ref s.heap.size), .unset, .unset] [.int (Int32.ofNat len), .int 0, .ref s.heap.size, .int (Int32.ofNat o), .ref b])) := c4.trans (by
    refine XS.astoreN X3.here hexec rfl (hb hbytes d3) rfl rfl rfl ?_
    refine XS.aloadN X3.here hexec rfl (hb hbytes d4) rfl rfl ?_
    refine XS.iloadN X3.here hexec rfl (hb hbytes d5) rfl ?_
    refine XS.aloadN X3.here hexec rfl (hb hbytes d6) rfl rfl ?_
    refine iconstV X3.here hexec rfl 0 (hb hbytes d7) (by decide) ?_
    refine XS.iloadN X3.here hexec rfl (hb hbytes d8) rfl ?_
    exact Steps.refl _)
  obtain ⟨v6, T6, X6, E6, g6⟩ := X3.callS hexec (Cmp5.law l b A s.heap.size B3 o 0 len) hown (wks W (staticW U16 115 Cmp5.yN)) (wk W Cmp5.tab) (W := 0) (Nat.le_of_ble_eq_true rfl) (Nat.le_of_ble_eq_true rfl) (Nat.le_refl _) (by show 0 + len + 0 ≤ len; omega) (g := (mkF m 9 #[.val (.ref b), .val (.int (Int32.ofNat o)), .val (.int (Int32.ofNat len)), .val (.ref s.heap.size), .unset, .unset] [.int (Int32.ofNat len), .int (Int32.ofNat 0), .ref s.heap.size, .int (Int32.ofNat o), .ref b])) rfl (by rw [hml]; rfl) c5 (argsL := [.ref b, .int (Int32.ofNat o), .ref s.heap.size, .int (Int32.ofNat 0), .int (Int32.ofNat len)]) (rest := []) rfl rfl (by show 2 * 0 + 0 ≤ _; decide) (hb hbytes d9) (⟨rfl, hA3, ba3, hne, l1, by rw [bs3]; simp, hp⟩)
  obtain ⟨rfl, B6, p6, f6⟩ := E6
  have c7 : Steps p.tables e below (s₁.setTop (entryFrame m #[.ref b, .int (Int32.ofNat o), .int (Int32.ofNat len)] 6)) (T6.setTop (mkF m 12 #[.val (.ref b), .val (.int (Int32.ofNat o)), .val (.int (Int32.ofNat len)), .val (.ref s.heap.size), .unset, .unset] [.int (Int32.ofNat len)])) := g6
  have c8 : Steps p.tables e below (s₁.setTop (entryFrame m #[.ref b, .int (Int32.ofNat o), .int (Int32.ofNat len)] 6)) (T6.setTop (mkF m 58 #[.val (.ref b), .val (.int (Int32.ofNat o)), .val (.int (Int32.ofNat len)), .val (.ref s.heap.size), .val (.int (Int32.ofNat len)), .unset] [.ref s.heap.size])) := c7.trans (by
    refine XS.istore X6.here hexec rfl (hb hbytes d12) rfl rfl ?_
    refine XS.iload X6.here hexec rfl (hb hbytes d14) rfl ?_
    refine XS.iloadN X6.here hexec rfl (hb hbytes d16) rfl ?_
    refine XS.icmpYes X6.here hexec rfl (pc0 := 17) rfl (hb hbytes d17) rfl (ii_eq_t rfl) (by decide) rfl ?_
    refine XS.aloadN X6.here hexec rfl (hb hbytes d57) rfl rfl ?_
    exact Steps.refl _)
  have X8 := X6.wide (L' := []) (cells' := 1) (slots' := len) (fun x hx hlt => by
    simp only [List.nil_append, copyLocs, List.mem_map, List.mem_range] at hx
    obtain ⟨i, -, rfl⟩ := hx
    exact absurd hlt (Nat.lt_irrefl _)) (Nat.le_refl _) (by omega)
  exact ⟨T6, some (.ref s.heap.size), _, _, _, X8, rfl, rfl, rfl, (fun h => by cases h), ⟨⟨rfl, B6, ba3.like (X3.warmed.alike.symm.trans X6.warmed.alike) p6.1 f6.1 f6.2.1 f6.2.2.1, f6.2.1.trans bv3, by rw [X6.warmed.alike.findClass, f6.1]; exact bf3, by rw [f6.2.2.1, bs3]; simp, fun j hj => by rw [f6.2.2.2 j, if_pos (by omega)]; rfl, kp3.put p6 (Nat.le_refl _)⟩, by rw [p6.2.2, bh3, hh0]; simp⟩, fun fs hl => c8.trans (X8.areturnOut hexec rfl hret rfl (hb hbytes d58) hl)⟩
end Cmp3
namespace CodL
def yN : MethodName := ⟨"java/lang/StringUTF16", "coderFromArrayLen", "([BI)B"⟩
abbrev yB : ByteArray := jdk_52_method_15_code
theorem d0 : decode yB 0 = .ok (.iload_n 1, 1) := by decide +kernel
theorem d1 : decode yB 1 = .ok (.aload_n 0, 1) := by decide +kernel
theorem d2 : decode yB 2 = .ok (.arraylength, 1) := by decide +kernel
theorem d3 : decode yB 3 = .ok (.isub, 1) := by decide +kernel
theorem d4 : decode yB 4 = .ok (.bipush 31, 2) := by decide +kernel
theorem d6 : decode yB 6 = .ok (.iushr, 1) := by decide +kernel
theorem d7 : decode yB 7 = .ok (.i2b, 1) := by decide +kernel
theorem d8 : decode yB 8 = .ok (.ireturn, 1) := by decide +kernel
def site : List Cond := []
def tab : Cond := tabOf yN yB 2 (some .byte) site
def P (d : Addr) (B : Cell) (args : Array Value) (s : State) : Prop := args = #[.ref d, .int (Int32.ofNat B.slots.size)] ∧ Arr .byte d B s
def E (r : Option Value) (s u : State) : Prop := XT.PureE (some (.int 0)) r s u
/-- an array as long as the number of chars: LATIN1 -/
theorem law (l : Launch) (d : Addr) (B : Cell) : Law l yN 2 2 0 0 yB 2 (some .byte) site (P d B) E [] 0 0 := by
  refine Law.of_walk (plainFor_of_name (by decide +kernel)) (by decide +kernel) (by decide +kernel) (by decide) (fun _ _ h => by rw [h.1]; rfl) (fun _ U U' hal hh h => ⟨h.1, h.2.mv hal hh⟩) (fun r U U' V V' h1 hal h2 h => XT.PureE.mv r U U' V V' h1 hal h2 h) ?_
  intro p e s m args below meth c s₁ X0 hexec hbytes hml hret hlk hnm hown hh0 W hP
  obtain ⟨rfl, hB⟩ := hP
  have hB0 := hB.mv X0.warmed.alike hh0
  have c1 : Steps p.tables e below (s₁.setTop (entryFrame m #[.ref d, .int (Int32.ofNat B.slots.size)] 2)) (s₁.setTop (mkF m 0 #[.val (.ref d), .val (.int (Int32.ofNat B.slots.size))] [])) := entry rfl
  have c2 : Steps p.tables e below (s₁.setTop (entryFrame m #[.ref d, .int (Int32.ofNat B.slots.size)] 2)) (s₁.setTop (mkF m 2 #[.val (.ref d), .val (.int (Int32.ofNat B.slots.size))] [.ref d, .int (Int32.ofNat B.slots.size)])) := c1.trans (by
    refine XS.iloadN X0.here hexec rfl (hb hbytes d0) rfl ?_
    refine XS.aloadN X0.here hexec rfl (hb hbytes d1) rfl rfl ?_
    exact Steps.refl _)
  have c3 : Steps p.tables e below (s₁.setTop (entryFrame m #[.ref d, .int (Int32.ofNat B.slots.size)] 2)) (s₁.setTop (mkF m 8 #[.val (.ref d), .val (.int (Int32.ofNat B.slots.size))] [.int (lo8 (ushr (Int32.ofNat B.slots.size - Int32.ofNat B.slots.size) 31))])) := c2.trans (by
    refine X0.alen hexec hB0 rfl rfl (hb hbytes d2) ?_
    refine XS.isub X0.here hexec rfl (hb hbytes d3) rfl ?_
    refine bipushV X0.here hexec rfl 31 (hb hbytes d4) (by decide) ?_
    refine iushr X0.here hexec rfl (hb hbytes d6) rfl ?_
    refine i2b X0.here hexec rfl (hb hbytes d7) rfl ?_
    exact Steps.refl _)
  have e0 : lo8 (ushr (Int32.ofNat B.slots.size - Int32.ofNat B.slots.size) 31) = 0 := by rw [Int32.sub_self]; decide
  rw [e0] at c3
  exact ⟨s₁, some (.int 0), _, _, _, X0, rfl, rfl, rfl, (fun h => by cases h), ⟨rfl, hh0⟩, fun fs hl => c3.trans (X0.ireturnOut hexec hret rfl (Or.inr (Or.inr (Or.inl rfl))) (hb hbytes d8) hl)⟩
end CodL
/-- the String at a is Latin-1 over a new byte[] (the heap's one new cell): the low bytes of the len chars of A from o on; every cell but a is kept -/
def Got (a : Addr) (D : Cell) (fV fC : Field) (A : Cell) (o len : Nat) (r : Option Value) (s u : State) : Prop := r = none ∧ ∃ D' V : Cell, Blank "java/lang/String" a D' u ∧ Same D D' [fV.slot, fC.slot] ∧ D'.slots[fV.slot]? = some (.ref s.heap.size) ∧ D'.slots[fC.slot]? = some (.int 0) ∧ Arr .byte s.heap.size V u ∧ V.vm = .none ∧ u.vm.findClass "[B" = some V.cls ∧ V.slots.size = len ∧ (∀ j, j < len → V.slots[j]? = some (.int (lo8 (cv A (o + j))))) ∧ (∀ (y : Addr) (c : Cell), y ≠ a → s.heap[y]? = some c → u.heap[y]? = some c) ∧ u.heap.size = s.heap.size + 1
theorem Got.mv {a : Addr} {D A : Cell} {fV fC : Field} {o len : Nat} : ∀ r (U U' V V' : State), U'.heap = U.heap → V.vm.Alike V'.vm → V'.heap = V.heap → Got a D fV fC A o len r U V → Got a D fV fC A o len r U' V' :=
  fun r U U' V V' h1 hal h2 ⟨e0, D', X, a1, a2, a3, a4, a5, a6, a7, a8, a9, a10, a11⟩ => ⟨e0, D', X, a1.mv hal h2, a2, by rw [h1]; exact a3, a4, by rw [h1]; exact a5.mv hal h2, a6, by rw [hal.findClass]; exact a7, a8, a9, by rw [h1, h2]; exact a10, by rw [h1, h2]; exact a11⟩
namespace New4
def yN : MethodName := ⟨"java/lang/String", "<init>", "([CIILjava/lang/Void;)V"⟩
abbrev yB : ByteArray := jdk_42_method_149_code
theorem d0 : decode yB 0 = .ok (.aload_n 0, 1) := by decide +kernel
theorem d1 : decode yB 1 = .ok (.invokespecial 1, 3) := by decide +kernel
theorem d4 : decode yB 4 = .ok (.iload_n 3, 1) := by decide +kernel
theorem d5 : decode yB 5 = .ok (.ifCond (.ne) 22, 3) := by decide +kernel
theorem d27 : decode yB 27 = .ok (.getstatic 38, 3) := by decide +kernel
theorem d30 : decode yB 30 = .ok (.ifCond (.eq) 28, 3) := by decide +kernel
theorem d33 : decode yB 33 = .ok (.aload_n 1, 1) := by decide +kernel
theorem d34 : decode yB 34 = .ok (.iload_n 2, 1) := by decide +kernel
theorem d35 : decode yB 35 = .ok (.iload_n 3, 1) := by decide +kernel
theorem d36 : decode yB 36 = .ok (.invokestatic 177, 3) := by decide +kernel
theorem d39 : decode yB 39 = .ok (.astore 5, 2) := by decide +kernel
theorem d41 : decode yB 41 = .ok (.aload_n 0, 1) := by decide +kernel
theorem d42 : decode yB 42 = .ok (.aload 5, 2) := by decide +kernel
theorem d44 : decode yB 44 = .ok (.iload_n 3, 1) := by decide +kernel
theorem d45 : decode yB 45 = .ok (.invokestatic 47, 3) := by decide +kernel
theorem d48 : decode yB 48 = .ok (.putfield 15, 3) := by decide +kernel
theorem d51 : decode yB 51 = .ok (.aload_n 0, 1) := by decide +kernel
theorem d52 : decode yB 52 = .ok (.aload 5, 2) := by decide +kernel
theorem d54 : decode yB 54 = .ok (.putfield 9, 3) := by decide +kernel
theorem d57 : decode yB 57 = .ok (.return_, 1) := by decide +kernel
def site : List Cond := [.fieldLink "java/lang/String" 38 "java/lang/String" "COMPACT_STRINGS" "Z", Cmp3.tab, CodL.tab, .laysFinal "java/lang/String" "java/lang/String" "value" "[B", .fieldLink "java/lang/String" 9 "java/lang/String" "value" "[B", .laysFinal "java/lang/String" "java/lang/String" "coder" "B", .fieldLink "java/lang/String" 15 "java/lang/String" "coder" "B"] ++ objW "java/lang/String" 1 ++ staticW "java/lang/String" 177 Cmp3.yN ++ staticW "java/lang/String" 47 CodL.yN
def tab : Cond := tabOf yN yB 6 none site
def P (a : Addr) (D : Cell) (fV fC : Field) (b : Addr) (A : Cell) (z : Int32) (o len : Nat) (args : Array Value) (s : State) : Prop := args = #[.ref a, .ref b, .int (Int32.ofNat o), .int (Int32.ofNat len), .null] ∧ Blank "java/lang/String" a D s ∧ Found "java/lang/String" "value" "[B" fV s ∧ Found "java/lang/String" "coder" "B" fC s ∧ Ch b A s ∧ StaticIs s "java/lang/String" "COMPACT_STRINGS" "Z" (.int z) ∧ ¬ z = 0 ∧ 0 < len ∧ o + len ≤ A.slots.size ∧ len ≤ 536870912 ∧ ∀ i, i < len → ¬ 255 < cv A (o + i)
def E (a : Addr) (D : Cell) (fV fC : Field) (A : Cell) (o len : Nat) (r : Option Value) (s u : State) : Prop := Got a D fV fC A o len r s u
/-- len > 0, no char of the range above 255: a Latin-1 String of their low bytes -/
theorem law (l : Launch) (a : Addr) (D : Cell) (fV fC : Field) (b : Addr) (A : Cell) (z : Int32) (o len : Nat) : Law l yN 5 4 2 35 yB 6 none site (P a D fV fC b A z o len) (E a D fV fC A o len) [⟨a, fC.slot⟩, ⟨a, fV.slot⟩] 1 len := by
  refine Law.of_walk (plainFor_of_name (by decide +kernel)) (by decide +kernel) (by decide +kernel) (by decide) (fun _ _ h => by rw [h.1]; rfl) (fun _ U U' hal hh h => ⟨h.1, h.2.1.mv hal hh, h.2.2.1.al hal, h.2.2.2.1.al hal, h.2.2.2.2.1.mv hal hh, h.2.2.2.2.2.1.there hal hh, h.2.2.2.2.2.2⟩) (fun r U U' V V' h1 hal h2 h => Got.mv r U U' V V' h1 hal h2 h) ?_
  intro p e s m args below meth c s₁ X0 hexec hbytes hml hret hlk hnm hown hh0 W hP
  obtain ⟨rfl, hB, f1, f2, hA, s1, hz, l0, l1, l2, hp⟩ := hP
  have a31 := hA.1.2.2.2
  have c1 : Steps p.tables e below (s₁.setTop (entryFrame m #[.ref a, .ref b, .int (Int32.ofNat o), .int (Int32.ofNat len), .null] 6)) (s₁.setTop (mkF m 0 #[.val (.ref a), .val (.ref b), .val (.int (Int32.ofNat o)), .val (.int (Int32.ofNat len)), .val .null, .unset] [])) := entry rfl
  have c2 : Steps p.tables e below (s₁.setTop (entryFrame m #[.ref a, .ref b, .int (Int32.ofNat o), .int (Int32.ofNat len), .null] 6)) (s₁.setTop (mkF m 1 #[.val (.ref a), .val (.ref b), .val (.int (Int32.ofNat o)), .val (.int (Int32.ofNat len)), .val .null, .unset] [.ref a])) := c1.trans (by
    refine XS.aloadN X0.here hexec rfl (hb hbytes d0) rfl rfl ?_
    exact Steps.refl _)
  obtain ⟨T3, X3, q3, st3⟩ := X0.oinit hexec hown (wks W (objW "java/lang/String" 1)) (g := (mkF m 1 #[.val (.ref a), .val (.ref b), .val (.int (Int32.ofNat o)), .val (.int (Int32.ofNat len)), .val .null, .unset] [.ref a])) rfl (by rw [hml]; rfl) (rest := []) rfl (hb hbytes d1) (W := 0) (by show 2 * 0 + 0 ≤ _; decide) (Nat.le_of_ble_eq_true rfl) (Nat.le_of_ble_eq_true rfl)
  have hh3 := q3.trans hh0
  have c4 : Steps p.tables e below (s₁.setTop (entryFrame m #[.ref a, .ref b, .int (Int32.ofNat o), .int (Int32.ofNat len), .null] 6)) (T3.setTop (mkF m 27 #[.val (.ref a), .val (.ref b), .val (.int (Int32.ofNat o)), .val (.int (Int32.ofNat len)), .val .null, .unset] [])) := (c2.trans (st3 _ (Steps.refl _))).trans (by
    refine XS.iloadN X3.here hexec rfl (hb hbytes d4) rfl ?_
    refine XS.ifYes X3.here hexec rfl (pc0 := 5) rfl (hb hbytes d5) rfl (i0_ne_t (nz32 (by omega) l0)) (by decide) rfl ?_
    exact Steps.refl _)
  obtain ⟨T5, X5, q5, st5⟩ := X3.sget hexec hown (wk W (.fieldLink "java/lang/String" 38 "java/lang/String" "COMPACT_STRINGS" "Z")) s1 (fun _ _ h => by rw [hh3]; exact h) (g := (mkF m 27 #[.val (.ref a), .val (.ref b), .val (.int (Int32.ofNat o)), .val (.int (Int32.ofNat len)), .val .null, .unset] [])) rfl (hb hbytes d27)
  have hh5 := q5.trans hh3
  have c6 : Steps p.tables e below (s₁.setTop (entryFrame m #[.ref a, .ref b, .int (Int32.ofNat o), .int (Int32.ofNat len), .null] 6)) (T5.setTop (mkF m 30 #[.val (.ref a), .val (.ref b), .val (.int (Int32.ofNat o)), .val (.int (Int32.ofNat len)), .val .null, .unset] [.int z])) := c4.trans (st5 _ (Steps.refl _))
  have c7 : Steps p.tables e below (s₁.setTop (entryFrame m #[.ref a, .ref b, .int (Int32.ofNat o), .int (Int32.ofNat len), .null] 6)) (T5.setTop (mkF m 36 #[.val (.ref a), .val (.ref b), .val (.int (Int32.ofNat o)), .val (.int (Int32.ofNat len)), .val .null, .unset] [.int (Int32.ofNat len), .int (Int32.ofNat o), .ref b])) := c6.trans (by
    refine XS.ifNo X5.here hexec rfl (hb hbytes d30) rfl (i0_eq_f hz) ?_
    refine XS.aloadN X5.here hexec rfl (hb hbytes d33) rfl rfl ?_
    refine XS.iloadN X5.here hexec rfl (hb hbytes d34) rfl ?_
    refine XS.iloadN X5.here hexec rfl (hb hbytes d35) rfl ?_
    exact Steps.refl _)
  obtain ⟨v8, T8, X8, E8, g8⟩ := X5.callS hexec (Cmp3.law l b A o len) hown (wks W (staticW "java/lang/String" 177 Cmp3.yN)) (wk W Cmp3.tab) (W := 0) (Nat.le_of_ble_eq_true rfl) (Nat.le_of_ble_eq_true rfl) (Nat.le_refl _) (by show 0 + len ≤ len; omega) (g := (mkF m 36 #[.val (.ref a), .val (.ref b), .val (.int (Int32.ofNat o)), .val (.int (Int32.ofNat len)), .val .null, .unset] [.int (Int32.ofNat len), .int (Int32.ofNat o), .ref b])) rfl (by rw [hml]; rfl) c7 (argsL := [.ref b, .int (Int32.ofNat o), .int (Int32.ofNat len)]) (rest := []) rfl rfl (by show 2 * 0 + 0 ≤ _; decide) (hb hbytes d36) (⟨rfl, hA.mv X5.warmed.alike hh5, l1, l2, hp⟩)
  obtain ⟨e8, z8⟩ := E8
  obtain ⟨rfl, N, n1, n2, n3, n4, n5, n6⟩ := NewArr.mv _ T5 s _ _ hh5.symm (Vm.Alike.refl _) rfl e8
  rw [hh5] at z8
  have hB1 := hB.keep X8.warmed.alike (n6 _ _ hB.1)
  have hne : s.heap.size ≠ a := (Nat.ne_of_lt (Array.getElem?_eq_some_iff.mp hB.1).1).symm
  have c9 : Steps p.tables e below (s₁.setTop (entryFrame m #[.ref a, .ref b, .int (Int32.ofNat o), .int (Int32.ofNat len), .null] 6)) (T8.setTop (mkF m 39 #[.val (.ref a), .val (.ref b), .val (.int (Int32.ofNat o)), .val (.int (Int32.ofNat len)), .val .null, .unset] [.ref s.heap.size])) := g8
  have c10 : Steps p.tables e below (s₁.setTop (entryFrame m #[.ref a, .ref b, .int (Int32.ofNat o), .int (Int32.ofNat len), .null] 6)) (T8.setTop (mkF m 45 #[.val (.ref a), .val (.ref b), .val (.int (Int32.ofNat o)), .val (.int (Int32.ofNat len)), .val .null, .val (.ref s.heap.size)] [.int (Int32.ofNat N.slots.size), .ref s.heap.size, .ref a])) := by
    have hc : Steps p.tables e below (s₁.setTop (entryFrame m #[.ref a, .ref b, .int (Int32.ofNat o), .int (Int32.ofNat len), .null] 6)) (T8.setTop (mkF m 45 #[.val (.ref a), .val (.ref b), .val (.int (Int32.ofNat o)), .val (.int (Int32.ofNat len)), .val .null, .val (.ref s.heap.size)] [.int (Int32.ofNat len), .ref s.heap.size, .ref a])) := c9.trans (by
      refine XS.astore X8.here hexec rfl (hb hbytes d39) rfl rfl rfl ?_
      refine XS.aloadN X8.here hexec rfl (hb hbytes d41) rfl rfl ?_
      refine XS.aload X8.here hexec rfl (hb hbytes d42) rfl rfl ?_
      refine XS.iloadN X8.here hexec rfl (hb hbytes d44) rfl ?_
      exact Steps.refl _)
    rw [n4]; exact hc
  obtain ⟨v11, T11, X11, E11, g11⟩ := X8.callS hexec (CodL.law l s.heap.size N) hown (wks W (staticW "java/lang/String" 47 CodL.yN)) (wk W CodL.tab) (W := 1) (Nat.le_of_ble_eq_true rfl) (Nat.le_of_ble_eq_true rfl) (Nat.le_refl _) (by show 0 + len + 0 ≤ len; omega) (g := (mkF m 45 #[.val (.ref a), .val (.ref b), .val (.int (Int32.ofNat o)), .val (.int (Int32.ofNat len)), .val .null, .val (.ref s.heap.size)] [.int (Int32.ofNat N.slots.size), .ref s.heap.size, .ref a])) rfl (by rw [hml]; rfl) c10 (argsL := [.ref s.heap.size, .int (Int32.ofNat N.slots.size)]) (rest := [.ref a]) rfl rfl (by show 2 * 0 + (1 + 0) ≤ _; decide) (hb hbytes d45) (⟨rfl, n1⟩)
  obtain ⟨rfl, q11⟩ := E11
  have hB11 := hB1.mv (X8.warmed.alike.symm.trans X11.warmed.alike) q11
  have c12 : Steps p.tables e below (s₁.setTop (entryFrame m #[.ref a, .ref b, .int (Int32.ofNat o), .int (Int32.ofNat len), .null] 6)) (T11.setTop (mkF m 48 #[.val (.ref a), .val (.ref b), .val (.int (Int32.ofNat o)), .val (.int (Int32.ofNat len)), .val .null, .val (.ref s.heap.size)] [.int 0, .ref a])) := g11
  obtain ⟨T13, X13, p13, bl13, sl13, st13⟩ := X11.finit hexec hown (wk W (.fieldLink "java/lang/String" 15 "java/lang/String" "coder" "B")) (Or.inr ⟨_, (wk W (.laysFinal "java/lang/String" "java/lang/String" "coder" "B"))⟩) (Or.inl ⟨rfl, hnm⟩) f2 (Or.inl rfl) hB11 (t := .byte) (by decide +kernel) rfl (g := (mkF m 48 #[.val (.ref a), .val (.ref b), .val (.int (Int32.ofNat o)), .val (.int (Int32.ofNat len)), .val .null, .val (.ref s.heap.size)] [.int 0, .ref a])) rfl (rest := []) rfl (hb hbytes d48)
  have c14 : Steps p.tables e below (s₁.setTop (entryFrame m #[.ref a, .ref b, .int (Int32.ofNat o), .int (Int32.ofNat len), .null] 6)) (T13.setTop (mkF m 54 #[.val (.ref a), .val (.ref b), .val (.int (Int32.ofNat o)), .val (.int (Int32.ofNat len)), .val .null, .val (.ref s.heap.size)] [.ref s.heap.size, .ref a])) := (c12.trans (st13 _ (Steps.refl _))).trans (by
    refine XS.aloadN X13.here hexec rfl (hb hbytes d51) rfl rfl ?_
    refine XS.aload X13.here hexec rfl (hb hbytes d52) rfl rfl ?_
    exact Steps.refl _)
  obtain ⟨T15, X15, p15, bl15, sl15, st15⟩ := X13.finit hexec hown (wk W (.fieldLink "java/lang/String" 9 "java/lang/String" "value" "[B")) (Or.inr ⟨_, (wk W (.laysFinal "java/lang/String" "java/lang/String" "value" "[B"))⟩) (Or.inl ⟨rfl, hnm⟩) f1 (Or.inl rfl) bl13 (t := (.array .byte)) (by decide +kernel) rfl (g := (mkF m 54 #[.val (.ref a), .val (.ref b), .val (.int (Int32.ofNat o)), .val (.int (Int32.ofNat len)), .val .null, .val (.ref s.heap.size)] [.ref s.heap.size, .ref a])) rfl (rest := []) rfl (hb hbytes d54)
  have c16 : Steps p.tables e below (s₁.setTop (entryFrame m #[.ref a, .ref b, .int (Int32.ofNat o), .int (Int32.ofNat len), .null] 6)) (T15.setTop (mkF m 57 #[.val (.ref a), .val (.ref b), .val (.int (Int32.ofNat o)), .val (.int (Int32.ofNat len)), .val .null, .val (.ref s.heap.size)] [])) := c14.trans (st15 _ (Steps.refl _))
  have ap := apart (Or.inr ⟨_, (wk W (.laysFinal "java/lang/String" "java/lang/String" "value" "[B"))⟩) (Or.inr ⟨_, (wk W (.laysFinal "java/lang/String" "java/lang/String" "coder" "B"))⟩) f1 f2 (t₁ := .array .byte) (t₂ := .byte) (by decide +kernel) (by decide +kernel) (by decide)
  have al := X8.warmed.alike.symm.trans X15.warmed.alike
  have n7 : T11.heap[s.heap.size]? = some N := by rw [q11]; exact n1.1
  exact ⟨T15, none, _, _, _, X15, by simp, rfl, by omega, (fun _ => rfl), ⟨rfl, _, N, bl15, ((Same.refl D _).set _ (by simp)).set _ (by simp), sl15, (Cell.slots_setSlot_ne _ ap).trans sl13, n1.keep al (p15.other hne (p13.other hne n7)), n2, by rw [al.findClass]; exact n3, n4, n5, fun y c h1 h2 => p15.other h1 (p13.other h1 (by rw [q11]; exact n6 y c h2)), by rw [p15.2.2, p13.2.2, q11]; exact z8⟩, fun fs hl => c16.trans (X15.returnOut hexec hret (hb hbytes d57) hl)⟩
end New4
namespace New1
def yN : MethodName := ⟨"java/lang/String", "<init>", "([C)V"⟩
abbrev yB : ByteArray := jdk_42_method_3_code
theorem d0 : decode yB 0 = .ok (.aload_n 0, 1) := by decide +kernel
theorem d1 : decode yB 1 = .ok (.aload_n 1, 1) := by decide +kernel
theorem d2 : decode yB 2 = .ok (.iconst 0, 1) := by decide +kernel
theorem d3 : decode yB 3 = .ok (.aload_n 1, 1) := by decide +kernel
theorem d4 : decode yB 4 = .ok (.arraylength, 1) := by decide +kernel
theorem d5 : decode yB 5 = .ok (.aconst_null, 1) := by decide +kernel
theorem d6 : decode yB 6 = .ok (.invokespecial 27, 3) := by decide +kernel
theorem d9 : decode yB 9 = .ok (.return_, 1) := by decide +kernel
def site : List Cond := [New4.tab] ++ initW "java/lang/String" 27 New4.yN
def tab : Cond := tabOf yN yB 2 none site
def P (a : Addr) (D : Cell) (fV fC : Field) (b : Addr) (A : Cell) (z : Int32) (args : Array Value) (s : State) : Prop := args = #[.ref a, .ref b] ∧ Blank "java/lang/String" a D s ∧ Found "java/lang/String" "value" "[B" fV s ∧ Found "java/lang/String" "coder" "B" fC s ∧ Ch b A s ∧ StaticIs s "java/lang/String" "COMPACT_STRINGS" "Z" (.int z) ∧ ¬ z = 0 ∧ 0 < A.slots.size ∧ A.slots.size ≤ 536870912 ∧ ∀ i, i < A.slots.size → ¬ 255 < cv A i
def E (a : Addr) (D : Cell) (fV fC : Field) (A : Cell) (r : Option Value) (s u : State) : Prop := Got a D fV fC A 0 A.slots.size r s u
/-- new String(chars), not empty, no char above 255: a Latin-1 String of their low bytes -/
theorem law (l : Launch) (a : Addr) (D : Cell) (fV fC : Field) (b : Addr) (A : Cell) (z : Int32) : Law l yN 2 1 3 52 yB 2 none site (P a D fV fC b A z) (E a D fV fC A) [⟨a, fC.slot⟩, ⟨a, fV.slot⟩] 1 A.slots.size := by
  refine Law.of_walk (plainFor_of_name (by decide +kernel)) (by decide +kernel) (by decide +kernel) (by decide) (fun _ _ h => by rw [h.1]; rfl) (fun _ U U' hal hh h => ⟨h.1, h.2.1.mv hal hh, h.2.2.1.al hal, h.2.2.2.1.al hal, h.2.2.2.2.1.mv hal hh, h.2.2.2.2.2.1.there hal hh, h.2.2.2.2.2.2⟩) (fun r U U' V V' h1 hal h2 h => Got.mv r U U' V V' h1 hal h2 h) ?_
  intro p e s m args below meth c s₁ X0 hexec hbytes hml hret hlk hnm hown hh0 W hP
  obtain ⟨rfl, hB, f1, f2, hA, s1, hz, l0, l2, hp⟩ := hP
  have c1 : Steps p.tables e below (s₁.setTop (entryFrame m #[.ref a, .ref b] 2)) (s₁.setTop (mkF m 0 #[.val (.ref a), .val (.ref b)] [])) := entry rfl
  have c2 : Steps p.tables e below (s₁.setTop (entryFrame m #[.ref a, .ref b] 2)) (s₁.setTop (mkF m 6 #[.val (.ref a), .val (.ref b)] [.null, .int (Int32.ofNat A.slots.size), .int 0, .ref b, .ref a])) := c1.trans (by
    refine XS.aloadN X0.here hexec rfl (hb hbytes d0) rfl rfl ?_
    refine XS.aloadN X0.here hexec rfl (hb hbytes d1) rfl rfl ?_
    refine iconstV X0.here hexec rfl 0 (hb hbytes d2) (by decide) ?_
    refine XS.aloadN X0.here hexec rfl (hb hbytes d3) rfl rfl ?_
    refine X0.alen hexec (hA.1.mv X0.warmed.alike hh0) rfl rfl (hb hbytes d4) ?_
    refine XS.aconstNull X0.here hexec rfl (hb hbytes d5) ?_
    exact Steps.refl _)
  obtain ⟨v3, T3, X3, E3, g3⟩ := X0.callN hexec (New4.law l a D fV fC b A z 0 A.slots.size) rfl hown (wks W (initW "java/lang/String" 27 New4.yN)) (W New4.tab (by simp only [site, List.mem_cons, List.mem_append, true_or, or_true])) (W := 0) (Nat.le_of_ble_eq_true rfl) (Nat.le_of_ble_eq_true rfl) (Nat.le_refl _) (by show 0 + A.slots.size ≤ A.slots.size; omega) (g := (mkF m 6 #[.val (.ref a), .val (.ref b)] [.null, .int (Int32.ofNat A.slots.size), .int (Int32.ofNat 0), .ref b, .ref a])) rfl (by rw [hml]; rfl) c2 (argsL := [.ref b, .int (Int32.ofNat 0), .int (Int32.ofNat A.slots.size), .null]) (rest := []) rfl rfl (by show 2 * 0 + 0 ≤ _; decide) (hb hbytes d6) (⟨rfl, hB.mv X0.warmed.alike hh0, f1.al X0.warmed.alike, f2.al X0.warmed.alike, hA.mv X0.warmed.alike hh0, s1.there X0.warmed.alike hh0, hz, l0, by omega, l2, fun i hi => by rw [Nat.zero_add]; exact hp i hi⟩)
  have e0 := Got.mv _ s₁ s _ _ hh0.symm (Vm.Alike.refl _) rfl E3
  obtain rfl := e0.1
  have c4 : Steps p.tables e below (s₁.setTop (entryFrame m #[.ref a, .ref b] 2)) (T3.setTop (mkF m 9 #[.val (.ref a), .val (.ref b)] [])) := g3
  exact ⟨T3, none, _, _, _, X3, by simp, rfl, by omega, (fun _ => rfl), e0, fun fs hl => c4.trans (X3.returnOut hexec hret (hb hbytes d9) hl)⟩
theorem pays {l : Launch} {R : Room} {p : Program} {e : Env} {below : List Frame} {s : State} {sargs : Array Value} {len W : Nat} (a : Addr) (D : Cell) (fV fC : Field) (b : Addr) (A : Cell) (z : Int32) (htab : tab.before sargs s = true) (hfr : 4 ≤ R.frames) (hlo : W + 65 ≤ R.locals) :
    Back l R p e below s sargs yN len W (fun A₁ a₁ => A₁.cells + 1 ≤ R.cells ∧ A₁.slots + A.slots.size ≤ R.slots ∧ P a D fV fC b A z a₁ A₁.U) (fun A₁ _ v₁ B₁ => E a D fV fC A v₁ A₁.U B₁.U ∧ B₁.locs = A₁.locs ++ [⟨a, fC.slot⟩, ⟨a, fV.slot⟩] ∧ B₁.cells = A₁.cells + 1 ∧ B₁.slots = A₁.slots + A.slots.size) :=
  (law l a D fV fC b A z).pays htab hfr (by omega)
end New1
/-- the byte, read back as charAt reads it, is the char -/
theorem lo8_mask {x : Int32} (h0 : ¬ x < 0) (h1 : ¬ 255 < x) : lo8 x &&& 255 = x := by
  have t : ∀ k : Fin 256, lo8 (Int32.ofNat k.val) &&& 255 = Int32.ofNat k.val := by decide +kernel
  rw [Int32.lt_iff_toInt_lt] at h0 h1
  have e0 : (0 : Int32).toInt = 0 := rfl
  have e1 : (255 : Int32).toInt = 255 := rfl
  obtain ⟨k, hk⟩ : ∃ k : Nat, x.toInt = k := ⟨x.toInt.toNat, by omega⟩
  have hx : x = Int32.ofNat k := Int32.toInt_inj.mp (by rw [hk, Int32.toInt_ofNat_small (by omega)])
  rw [hx]
  exact t ⟨k, by omega⟩
end StrChars
namespace StrChars.Road
open Jvm Sem ClassFile Op Lib Jvm.Stand Jvm.Free Jvm.Free.XT
open Jvm.Lib.Cold (StaticIs)
abbrev ST : String := "java/lang/String"
/-- every table word that New1's law asks, flat -/
abbrev words : List Jvm.Cond := [.code New1.yN New1.yB 2 none, .initialized ST, .methodLink ST 27 New4.yN, .instanceMethod New4.yN,
  .code New4.yN New4.yB 6 none, .fieldLink ST 38 ST "COMPACT_STRINGS" "Z", .laysFinal ST ST "value" "[B", .fieldLink ST 9 ST "value" "[B", .laysFinal ST ST "coder" "B", .fieldLink ST 15 ST "coder" "B",
  .methodLink ST 1 Lib.objectInit, .instanceMethod Lib.objectInit, .code Lib.objectInit ⟨#[0xb1]⟩ 1 none, .methodLink ST 177 Cmp3.yN, .static Cmp3.yN, .methodLink ST 47 CodL.yN, .static CodL.yN,
  .code Cmp3.yN Cmp3.yB 6 (some (.array .byte)), .initialized U16, .arrayClass .byte, .methodLink U16 115 Cmp5.yN, .static Cmp5.yN, .code Cmp5.yN Cmp5.yB 7 (some .int), .code CodL.yN CodL.yB 2 (some .byte)]
theorem tab_of {a : Array Value} {s : State} (h : ∀ w ∈ words, w.before a s = true) : New1.tab.before a s = true := by
  have h5 : Cmp5.tab.before a s = true := unparts (wk h (.code Cmp5.yN Cmp5.yB 7 (some .int))) (wks h (.initialized Cmp5.yN.cls :: Cmp5.site))
  have hc : CodL.tab.before a s = true := unparts (wk h (.code CodL.yN CodL.yB 2 (some .byte))) (wks h (.initialized CodL.yN.cls :: CodL.site))
  have q5 : ∀ w ∈ Cmp5.tab :: words, w.before a s = true := fun w hw => (List.mem_cons.mp hw).elim (fun e => e ▸ h5) (h w)
  have h3 : Cmp3.tab.before a s = true := unparts (wk q5 (.code Cmp3.yN Cmp3.yB 6 (some (.array .byte)))) (wks q5 (.initialized Cmp3.yN.cls :: Cmp3.site))
  have q3 : ∀ w ∈ Cmp3.tab :: CodL.tab :: words, w.before a s = true := fun w hw => (List.mem_cons.mp hw).elim (fun e => e ▸ h3) fun hw => (List.mem_cons.mp hw).elim (fun e => e ▸ hc) (h w)
  have h4 : New4.tab.before a s = true := unparts (wk q3 (.code New4.yN New4.yB 6 none)) (wks q3 (.initialized New4.yN.cls :: New4.site))
  have q4 : ∀ w ∈ New4.tab :: words, w.before a s = true := fun w hw => (List.mem_cons.mp hw).elim (fun e => e ▸ h4) (h w)
  exact unparts (wk q4 (.code New1.yN New1.yB 2 none)) (wks q4 (.initialized New1.yN.cls :: New1.site))
/-- the words ride from the start Z to the walk's own state -/
theorem moved {Z s : State} {a0 args : Array Value} (hZ : Z.Warmed39 s.vm) (hw : ∀ d ∈ words, d.before a0 Z = true) : ∀ d ∈ words, d.before args s = true := fun d hd => by
  have q := hw d hd
  have t : ∀ d ∈ words, d = .arrayClass .byte ∨ (d.onTables && d.keepsFace) = true := by decide +kernel
  rcases t d hd with rfl | t
  · exact RoadKit.mvA hZ q
  · exact RoadKit.mv hZ q t
/-- WHAT COMES BACK, over the tables of the start Z: h the heap at the call, h' behind it -/
def Q (Z : State) (x : Addr) (A : Cell) (h : Heap) (v : Option Value) (h' : Heap) (L : List Loc) : Prop := v = none ∧ (∀ y ∈ L, y.base = x) ∧ RoadKit.Keep h h' [x] ∧ h'.size = h.size + 1 ∧ RoadKit.Exa Z h' x ST ∧ RoadKit.Fld Z h' x ST "value" "[B" (.ref h.size) ∧ RoadKit.Fld Z h' x ST "coder" "B" (.int 0) ∧
  (∃ V : Cell, RoadKit.Arr Z h' h.size V .byte ∧ V.vm = .none ∧ Z.vm.findClass "[B" = some V.cls ∧ V.slots.size = A.slots.size ∧ ∀ j, j < A.slots.size → V.slots[j]? = some (.int (lo8 (cv A j)))) ∧
  ∀ (O n d : String) (w : Value), RoadKit.Fld Z h x O n d w → RoadKit.slotOf Z O n d ≠ RoadKit.slotOf Z ST "value" "[B" → RoadKit.slotOf Z O n d ≠ RoadKit.slotOf Z ST "coder" "B" → RoadKit.Fld Z h' x O n d w
/-- **new String(chars) AT A CALL, IN THE ROAD'S FORM**: for specialBack behind newO: x the fresh String, b the char[] with the cell A -/
theorem back {p : Program} {l : Launch} {e : Env} {R : Room} {s : State} {args : Array Value} {below : List Frame} {len W : Nat} {Z : State} {a0 : Array Value} {h : Heap} (hZ : Z.Warmed39 s.vm) (hw : ∀ d ∈ words, d.before a0 Z = true) {kI : Nat} (wi : (Jvm.Cond.instantiable ST kI).before a0 Z = true)
    {x b : Addr} {A : Cell} {z : Int32} {v0 c0 : Value} (E : RoadKit.Exa Z h x ST) (V : RoadKit.Fld Z h x ST "value" "[B" v0) (C : RoadKit.Fld Z h x ST "coder" "B" c0) (K : RoadKit.Arr Z h b A .char) (hty : Typed .char A) (S : RoadKit.Sta Z h ST "COMPACT_STRINGS" "Z" (.int z)) (hz : ¬ z = 0)
    (l0 : 0 < A.slots.size) (l2 : A.slots.size ≤ 536870912) (hp : ∀ i, i < A.slots.size → ¬ 255 < cv A i) (hfr : 4 ≤ R.frames) (hlo : W + 65 ≤ R.locals) :
    Back l R p e below s args New1.yN len W (fun P a => a = #[.ref x, .ref b] ∧ P.U.heap = h ∧ P.cells + 1 ≤ R.cells ∧ P.slots + A.slots.size ≤ R.slots)
      (fun P _ v B => ∃ L, Q Z x A h v B.U.heap L ∧ B.locs = P.locs ++ L ∧ B.cells = P.cells + 1 ∧ B.slots = P.slots + A.slots.size) := by
  intro m meth c P g ig mk a X hg hsize hdg hW hn hp'
  obtain ⟨rfl, rfl, r1, r2⟩ := hp'
  have al : Z.vm.Alike P.U.vm := hZ.alike.trans X.warmed.alike
  obtain ⟨D, cfV, kV, iV, fV, hD, gV, stV, knV, obV, asV, slV⟩ := id V
  obtain ⟨D', cfC, kC, iC, fC, hD', gC, stC, -, -, asC, slC⟩ := id C
  cases hD.symm.trans hD'
  obtain ⟨D2, kD, e1, e2, e3, e4, e5⟩ := id E
  cases hD.symm.trans e1
  obtain ⟨c2, k2, i1, i2, i3, -⟩ := Cond.instantiable_spec wi
  cases e2.symm.trans i1
  cases e3.symm.trans i2
  obtain ⟨kU, u1, u2⟩ := al.2.2 _ _ e3
  have hB : Blank ST x D P.U := ⟨hD, ⟨knV, fun q hq => by rw [hq] at obV; cases obV⟩, by rw [al.findClass]; exact e2, kU, u1, by rw [u2]; exact i3, by rw [u2]; exact e5 i3⟩
  have F1 : Found ST "value" "[B" fV P.U := ⟨SBG.found_only al ⟨cfV, kV, iV, gV⟩, stV⟩
  have F2 : Found ST "coder" "B" fC P.U := ⟨SBG.found_only al ⟨cfC, kC, iC, gC⟩, stC⟩
  have hA : Ch b A P.U := ⟨⟨K.1, State.isArrayOf_alike al K.2.1, K.2.2, by omega⟩, hty⟩
  have hS : StaticIs P.U ST "COMPACT_STRINGS" "Z" (.int z) := by
    obtain ⟨cfS, iS, kS, fS, st, cS, t1, t2, t3, t4, t5, t6, t7⟩ := S
    exact StaticIs.there (s := { Z with heap := P.U.heap }) ⟨cfS, iS, kS, fS, st, cS, t1, t2, t3, t4, t5, (fun q => by rw [q] at t6; cases t6), t7⟩ al rfl
  obtain ⟨v, B, X', ⟨⟨hv, E', V', q1, q2, q3, q4, q5, q6, q7, q8, q9, q10, q11⟩, hl, hc, hs⟩, st⟩ := New1.pays x D fV fC b A z (tab_of (moved hZ hw)) hfr hlo m meth c P g ig mk _ X hg hsize hdg hW hn ⟨r1, r2, rfl, hB, F1, F2, hA, hS, hz, l0, l2, hp⟩
  have al' : Z.vm.Alike B.U.vm := hZ.alike.trans X'.warmed.alike
  have hsz : E'.slots.size = D.slots.size := by
    obtain ⟨-, -, -, kB, w1, w2, w3⟩ := q1
    obtain ⟨kB', y1, y2⟩ := al'.2.2 _ _ e3
    rw [q2.2.1] at w1
    cases w1.symm.trans y1
    rw [w3, e5 i3, y2]
  refine ⟨v, B, X', ⟨_, ⟨hv, ?_, ⟨by omega, fun y cy hy hn' => q10 y cy (by simpa using hn') hy, fun y cy hy => ?_⟩, q11, ⟨E', _, q1.1, by rw [q2.2.1]; exact e2, by rw [q2.2.1]; exact e3, by rw [q2.1]; exact obV, fun _ => by rw [hsz]; exact e5 i3⟩,
    ⟨E', cfV, kV, iV, fV, q1.1, gV, stV, by rw [q2.1]; exact knV, by rw [q2.1]; exact obV, by rw [q2.2.1]; exact asV, q3⟩, ⟨E', cfC, kC, iC, fC, q1.1, gC, stC, by rw [q2.1]; exact knV, by rw [q2.1]; exact obV, by rw [q2.2.1]; exact asC, q4⟩,
    ⟨V', ⟨q5.1, State.isArrayOf_alike al'.symm q5.2.1, q5.2.2.1⟩, q6, by rw [← al'.findClass]; exact q7, q8, fun j hj => by have := q9 j hj; rwa [Nat.zero_add] at this⟩, fun O n d w F n1 n2 => ?_⟩, hl, hc, hs⟩, st⟩
  · intro y hy
    simp only [List.mem_cons, List.not_mem_nil, or_false] at hy
    rcases hy with rfl | rfl <;> rfl
  · by_cases q : y = x
    · subst q
      cases hD.symm.trans hy
      exact ⟨E', q1.1, q2.2.1, q2.1, hsz⟩
    · exact ⟨cy, q10 y cy q hy, rfl, rfl, rfl⟩
  · obtain ⟨D3, cf, k, i, f, g1, g2, g3, g4, g5, g6, g7⟩ := F
    cases hD.symm.trans g1
    simp only [RoadKit.slotOf, g2, gV, gC, Option.map_some, Option.getD_some] at n1 n2
    exact ⟨E', cf, k, i, f, q1.1, g2, g3, by rw [q2.1]; exact g4, by rw [q2.1]; exact g5, by rw [q2.2.1]; exact g6, by rw [q2.2.2 f.slot (by simp [n1, n2])]; exact g7⟩
end StrChars.Road
namespace StrChars.Road
open Jvm Sem ClassFile Op Lib Jvm.Stand Jvm.Free Jvm.Free.XT
/-- WHAT COMES BACK, the byte[] as a list of values -/
def QA (Z : State) (x : Addr) (zn : Int32) (cs : List Int32) (h : Heap) (v : Option Value) (h' : Heap) (L : List Loc) : Prop := v = none ∧ (∀ y ∈ L, y.base = x) ∧ RoadKit.Keep h h' [x] ∧ h'.size = h.size + 1 ∧ RoadKit.Exa Z h' x ST ∧ RoadKit.Fld Z h' x ST "value" "[B" (.ref h.size) ∧ RoadKit.Fld Z h' x ST "coder" "B" (.int 0) ∧
  (∃ kb, Z.vm.findClass "[B" = some kb ∧ RoadKit.Arv Z h' h.size kb .byte zn (cs.map fun c => .int (lo8 c)) (.int 0)) ∧
  ∀ (O n d : String) (w : Value), RoadKit.Fld Z h x O n d w → RoadKit.slotOf Z O n d ≠ RoadKit.slotOf Z ST "value" "[B" → RoadKit.slotOf Z O n d ≠ RoadKit.slotOf Z ST "coder" "B" → RoadKit.Fld Z h' x O n d w
/-- **new String(chars) AT A CALL, THE ARRAYS AS LISTS**: the char[] at b holds cs, not empty, no char above 255 -/
theorem backArv {p : Program} {l : Launch} {e : Env} {R : Room} {s : State} {args : Array Value} {below : List Frame} {len W : Nat} {Z : State} {a0 : Array Value} {h : Heap} (hZ : Z.Warmed39 s.vm) (hw : ∀ d ∈ words, d.before a0 Z = true) {kI : Nat} (wi : (Jvm.Cond.instantiable ST kI).before a0 Z = true)
    {x b : Addr} {k : ClassId} {zn z : Int32} {cs : List Int32} {dv v0 c0 : Value} (E : RoadKit.Exa Z h x ST) (V : RoadKit.Fld Z h x ST "value" "[B" v0) (C : RoadKit.Fld Z h x ST "coder" "B" c0) (K : RoadKit.Arv Z h b k .char zn (cs.map Value.int) dv) (S : RoadKit.Sta Z h ST "COMPACT_STRINGS" "Z" (.int z)) (hz : ¬ z = 0)
    (hlen : zn.toNatClampNeg = cs.length) (h0 : 0 < cs.length) (hbig : cs.length ≤ 536870912) (hall : ∀ c ∈ cs, ¬ 255 < c) (hfr : 4 ≤ R.frames) (hlo : W + 65 ≤ R.locals) :
    Back l R p e below s args New1.yN len W (fun P a => a = #[.ref x, .ref b] ∧ P.U.heap = h ∧ P.cells + 1 ≤ R.cells ∧ P.slots + cs.length ≤ R.slots)
      (fun P _ v B => ∃ L, QA Z x zn cs h v B.U.heap L ∧ B.locs = P.locs ++ L ∧ B.cells = P.cells + 1 ∧ B.slots = P.slots + cs.length) := by
  obtain ⟨A, K1, K2, K3, K4, K5, K6⟩ := K
  have e : A.slots.size = cs.length := K3.trans hlen
  have hat : ∀ (i : Nat) (hi : i < cs.length), A.slots[i]? = some (.int cs[i]) := fun i hi => by rw [K5 i (by omega)]; simp [List.getD_eq_getElem?_getD, hi]
  have hcv : ∀ (i : Nat) (hi : i < cs.length), cv A i = cs[i] := fun i hi => by unfold cv; rw [hat i hi]
  have hty : Typed .char A := fun i v hv => by
    have hi : i < A.slots.size := (Array.getElem?_eq_some_iff.mp hv).1
    have q := K5 i hi
    rw [hv] at q
    rw [Option.some.inj q]
    exact K6 i hi
  refine Back.mono (back hZ hw wi E V C K1 hty S hz (by omega) (by omega) (fun i hi => by rw [hcv i (by omega)]; exact hall _ (List.getElem_mem _)) hfr hlo) (fun P a hp => ⟨hp.1, hp.2.1, hp.2.2.1, by rw [e]; exact hp.2.2.2⟩) (fun P a v B hp hq => ?_)
  obtain ⟨L, ⟨q1, q2, q3, q4, q5, q6, q7, ⟨V', v1, v2, v3, v4, v5⟩, q9⟩, hl, hc, hs⟩ := hq
  refine ⟨L, ⟨q1, q2, q3, q4, q5, q6, q7, ⟨V'.cls, v3, V', v1, rfl, by rw [v4, e, hlen], K4, fun i hi => ?_, fun i hi => ?_⟩, q9⟩, hl, hc, by rw [hs, e]⟩
  · have hi' : i < cs.length := by omega
    rw [v5 i (by omega), hcv i hi']; simp [List.getD_eq_getElem?_getD, hi']
  · have hi' : i < cs.length := by omega
    simp only [List.getD_eq_getElem?_getD, List.getElem?_map, List.getElem?_eq_getElem hi', Option.map_some, Option.getD_some]
    exact fits_lo8 _
end StrChars.Road
namespace StrChars.Road
open Jvm Sem ClassFile Op Lib Jvm.Stand Jvm.Free Jvm.Free.XT
/-- WHAT COMES BACK, in the writer's own shape -/
def QV (Z : State) (x : Addr) (N : Int32) (bs : List Int32) (h : Heap) (n0 : Nat) (v : Option Value) (h' : Heap) (L : List Loc) : Prop := v = none ∧ RoadKit.Fr n0 L ∧ RoadKit.Keep h h' [x] ∧ RoadKit.Exa Z h' x ST ∧ RoadKit.Fld Z h' x ST "coder" "B" (.int 0) ∧
  ∃ (t : Addr) (kb : ClassId), n0 ≤ t ∧ h.size ≤ t ∧ ¬ t = x ∧ RoadKit.Fld Z h' x ST "value" "[B" (.ref t) ∧ RoadKit.Arv Z h' t kb .byte N (bs.map Value.int) (.int 0)
/-- **new String(chars) AT A CALL, FOR THE WRITER**: a char[] of n known ints, each 0 to 255 -/
theorem backV {p : Program} {l : Launch} {e : Env} {R : Room} {s : State} {args : Array Value} {below : List Frame} {len W : Nat} {Z : State} {a0 : Array Value} {h : Heap} (hZ : Z.Warmed39 s.vm) (hw : ∀ d ∈ words, d.before a0 Z = true) {kI : Nat} (wi : (Jvm.Cond.instantiable ST kI).before a0 Z = true)
    {x b : Addr} {kC : ClassId} {cs bs : List Int32} {d v0 c0 : Value} {z N : Int32} {n n0 : Nat} (hx0 : n0 ≤ x) (hh0 : n0 ≤ h.size) (E : RoadKit.Exa Z h x ST) (V : RoadKit.Fld Z h x ST "value" "[B" v0) (C : RoadKit.Fld Z h x ST "coder" "B" c0) (K : RoadKit.Arv Z h b kC .char N (cs.map Value.int) d) (S : RoadKit.Sta Z h ST "COMPACT_STRINGS" "Z" (.int z)) (hz : ¬ z = 0)
    (hn : cs.length = n) (hN : N = Int32.ofNat n) (l0 : 0 < n) (l2 : n ≤ 4000) (hp : ∀ c ∈ cs, ¬ c < 0 ∧ ¬ (255 : Int32) < c) (hb : bs = cs.map (fun c => c.toInt8.toInt32)) (hfr : 4 ≤ R.frames) (hlo : W + 65 ≤ R.locals) :
    Back l R p e below s args (⟨"java/lang/String", "<init>", "([C)V"⟩ : MethodName) len W (fun P a => a = #[.ref x, .ref b] ∧ P.U.heap = h ∧ P.cells + 1 ≤ R.cells ∧ P.slots + n ≤ R.slots)
      (fun P _ v B => ∃ L, QV Z x N bs h n0 v B.U.heap L ∧ B.locs = P.locs ++ L ∧ B.cells = P.cells + 1 ∧ B.slots = P.slots + n) := by
  subst hn hN hb
  refine Back.mono (backArv hZ hw wi E V C K S hz (n32 (by omega)) l0 (by omega) (fun c hc => (hp c hc).2) hfr hlo) (fun P a hp => hp) (fun P a v B hp hq => ?_)
  obtain ⟨L, ⟨q1, q2, q3, q4, q5, q6, q7, ⟨kb, v1, v2⟩, q9⟩, hl, hc, hs⟩ := hq
  exact ⟨L, ⟨q1, fun y hy => by rw [q2 y hy]; exact hx0, q3, q5, q7, h.size, kb, hh0, Nat.le_refl _, Nat.ne_of_gt E.lt, q6, by rw [List.map_map]; exact v2⟩, hl, hc, hs⟩
end StrChars.Road
namespace StrChars
open Jvm Sem ClassFile Op Lib Jvm.Stand Jvm.Free.XT Jvm.Free.ALB Jvm.Free.JM Jvm.Free
open Jvm.Lib.Cold (StaticIs)
def hi8 (x : Int32) : Int32 := lo8 (x >>> ((8 : Int32) &&& 31))
/-- what StringUTF16.getChar makes of two bytes -/
def pairCh (u v : Int32) : Int32 := (((u &&& 255) <<< ((0 : Int32) &&& 31)) ||| ((v &&& 255) <<< ((8 : Int32) &&& 31))).toUInt32.toUInt16.toUInt32.toInt32
theorem shr0 (c : Int32) : c >>> ((0 : Int32) &&& 31) = c := by
  have e : ((0 : Int32) &&& 31) = 0 := by decide
  rw [e]
  apply Int32.toBitVec_inj.mp
  rw [Int32.toBitVec_shiftRight]
  have e1 : ((0 : Int32).toBitVec.smod 32) = 0#32 := by decide
  rw [e1, BitVec.sshiftRight_eq']
  exact BitVec.sshiftRight_zero
theorem lo8_and (x : Int32) : (lo8 x &&& 255).toBitVec.toNat = x.toBitVec.toNat % 256 := by
  have h : (lo8 x).toBitVec = (x.toBitVec.signExtend 8).signExtend 32 := by rw [lo8, Int8.toBitVec_toInt32, Int32.toBitVec_toInt8]
  rw [Int32.toBitVec_and, BitVec.toNat_and, h]
  have e : ((x.toBitVec.signExtend 8).signExtend 32).toNat % 256 = x.toBitVec.toNat % 256 := by
    rw [BitVec.toNat_signExtend]
    have hlt := x.toBitVec.isLt
    simp only [BitVec.toNat_setWidth, BitVec.toNat_signExtend]
    split <;> split <;> omega
  rw [← e]
  exact Nat.and_two_pow_sub_one_eq_mod _ 8
theorem pair_says {c : Int32} (h0 : ¬ c < 0) (h1 : ¬ 65535 < c) : pairCh (lo8 c) (hi8 c) = c := by
  rw [Int32.lt_iff_toInt_lt] at h0 h1
  have e0 : (0 : Int32).toInt = 0 := rfl
  have e1 : (65535 : Int32).toInt = 65535 := rfl
  have hc : c.toInt = c.toBitVec.toNat := by
    have := c.toBitVec.isLt
    have e : c.toInt = c.toBitVec.toInt := rfl
    rw [e] at h0 h1
    rw [e]
    rw [BitVec.toInt_eq_toNat_cond] at h0 h1 ⊢
    split at h0 <;> split <;> omega
  have hn : c.toBitVec.toNat < 65536 := by omega
  have a1 := lo8_and c
  have a2 : (hi8 c &&& 255).toBitVec.toNat = c.toBitVec.toNat / 256 := by
    rw [hi8, lo8_and]
    have e : ((8 : Int32) &&& 31) = 8 := by decide
    rw [e, Int32.toBitVec_shiftRight]
    have e2 : ((8 : Int32).toBitVec.smod 32) = 8#32 := by decide
    rw [e2, BitVec.sshiftRight_eq', BitVec.toNat_sshiftRight_of_msb_false (by rw [BitVec.msb_eq_false_iff_two_mul_lt]; omega)]
    show c.toBitVec.toNat >>> 8 % 256 = _
    rw [Nat.shiftRight_eq_div_pow]
    omega
  unfold pairCh
  apply Int32.toBitVec_inj.mp
  apply BitVec.eq_of_toNat_eq
  have f0 : ((0 : Int32) &&& 31) = 0 := by decide
  have f8 : ((8 : Int32) &&& 31) = 8 := by decide
  rw [f0, f8]
  have g : (((lo8 c &&& 255) <<< (0 : Int32)) ||| ((hi8 c &&& 255) <<< (8 : Int32))).toBitVec.toNat = c.toBitVec.toNat := by
    rw [Int32.toBitVec_or, Int32.toBitVec_shiftLeft, Int32.toBitVec_shiftLeft]
    have s0 : ((0 : Int32).toBitVec.smod 32) = 0#32 := by decide
    have s8 : ((8 : Int32).toBitVec.smod 32) = 8#32 := by decide
    rw [s0, s8, BitVec.toNat_or]
    simp only [BitVec.shiftLeft_eq', BitVec.toNat_shiftLeft, a1, a2]
    show (c.toBitVec.toNat % 256) <<< 0 % 2 ^ 32 ||| (c.toBitVec.toNat / 256) <<< 8 % 2 ^ 32 = _
    rw [Nat.shiftLeft_zero, Nat.mod_eq_of_lt (show c.toBitVec.toNat % 256 < 2 ^ 32 by omega), Nat.mod_eq_of_lt (show (c.toBitVec.toNat / 256) <<< 8 < 2 ^ 32 by rw [Nat.shiftLeft_eq]; omega), Nat.or_comm, ← Nat.shiftLeft_add_eq_or_of_lt (by omega), Nat.shiftLeft_eq]
    omega
  show BitVec.toNat (((((lo8 c &&& 255) <<< (0 : Int32)) ||| ((hi8 c &&& 255) <<< (8 : Int32))).toBitVec.setWidth 16).setWidth 32) = _
  rw [BitVec.toNat_setWidth, BitVec.toNat_setWidth, g]
  omega
end StrChars
namespace StrChars
open Jvm Sem ClassFile Op Lib Jvm.Stand Jvm.Free.XT Jvm.Free.ALB Jvm.Free.JM Jvm.Free
open Jvm.Lib.Cold (StaticIs)
/-- charAt's cast of a byte read back -/
def chr8 (u : Int32) : Int32 := (u &&& 255).toUInt32.toUInt16.toUInt32.toInt32
theorem chr8_lo8 {c : Int32} (h0 : ¬ c < 0) (h1 : ¬ 255 < c) : chr8 (lo8 c) = c := by
  have t : ∀ k : Fin 256, (Int32.ofNat k.val).toUInt32.toUInt16.toUInt32.toInt32 = Int32.ofNat k.val := by decide +kernel
  unfold chr8
  rw [lo8_mask h0 h1]
  rw [Int32.lt_iff_toInt_lt] at h0 h1
  have e0 : (0 : Int32).toInt = 0 := rfl
  have e1 : (255 : Int32).toInt = 255 := rfl
  obtain ⟨k, hk⟩ : ∃ k : Nat, c.toInt = k := ⟨c.toInt.toNat, by omega⟩
  have hx : c = Int32.ofNat k := Int32.toInt_inj.mp (by rw [hk, Int32.toInt_ofNat_small (by omega)])
  rw [hx]
  exact t ⟨k, by omega⟩
theorem narrow_ch {c : Int32} (h0 : ¬ c < 0) (h1 : ¬ 65535 < c) : narrow .char (.int c) = .int c := by
  have q : narrow .char (.int (pairCh (lo8 c) (hi8 c))) = .int (pairCh (lo8 c) (hi8 c)) := narrow_c _
  rwa [pair_says h0 h1] at q
end StrChars
namespace StrChars.Road
open Jvm Sem ClassFile Op Lib Jvm.Stand Jvm.Free Jvm.Free.XT
open Jvm.Lib.Cold (StaticIs)
/-- the bytes of the chars cs, low before high -/
def wideBytes : List Int32 → List Value
  | [] => []
  | c :: cs => .int (lo8 c) :: .int (hi8 c) :: wideBytes cs
/-- an array of N2 bytes vs codes the chars cs by the coder cd -/
def CodA (cs : List Int32) (cd N2 : Int32) (vs : List Value) : Prop := (cd = 0 ∧ N2 = Int32.ofNat cs.length ∧ vs = (cs.map fun c => Value.int (lo8 c)) ∧ ∀ c ∈ cs, ¬ 255 < c) ∨ (cd = 1 ∧ N2 = Int32.ofNat (2 * cs.length) ∧ vs = wideBytes cs ∧ ∃ c ∈ cs, 255 < c)
end StrChars.Road
namespace StrChars.Road
open Jvm Sem ClassFile Op Lib Jvm.Stand Jvm.Free Jvm.Free.XT
open Jvm.Lib.Cold (StaticIs)
/-- what backV says of its String, as the contracts of this text ask it: cs's low bytes, coder 0 -/
theorem codOf {cs : List Int32} {n : Nat} (hn : cs.length = n) (hb : ∀ c ∈ cs, ¬ 255 < c) : CodA cs 0 (Int32.ofNat n) ((cs.map lo8).map Value.int) := Or.inl ⟨rfl, by rw [hn], by simp [List.map_map, Function.comp_def], hb⟩
end StrChars.Road
end Jvm.Pilot.@@N@@

namespace Jvm.Pilot.@@N@@
open Jvm Jvm.ClassFile Sem Op Lib Jvm.Free Jvm.Stand Jvm.LawKit Jvm.RoadKit Bundle Jvm.Pilot.@@N@@.Jvm.D
abbrev ym0 : MethodName := ⟨"java/lang/String", "charAt", "(I)C"⟩
abbrev ym1 : MethodName := ⟨"java/lang/String", "length", "()I"⟩
abbrev ym2 : MethodName := ⟨"java/lang/String", "isLatin1", "()Z"⟩
abbrev ym3 : MethodName := ⟨"com/example/grantway/grantway/protocol/Scopes", "isScopeToken", "(Ljava/lang/String;)Z"⟩
abbrev ym4 : MethodName := ⟨"java/lang/StringUTF16", "getChar", "([BI)C"⟩
abbrev ym5 : MethodName := ⟨"java/lang/String", "isEmpty", "()Z"⟩
abbrev ym6 : MethodName := ⟨"java/lang/String", "coder", "()B"⟩
abbrev ym7 : MethodName := ⟨"java/lang/String", "checkIndex", "(II)V"⟩
abbrev ym8 : MethodName := ⟨"com/example/grantway/grantway/protocol/ScopesIsScopeTokenPinLaw", "ok", "(C)Z"⟩
abbrev ym9 : MethodName := ⟨"java/lang/StringUTF16", "putChar", "([BII)V"⟩
abbrev ym10 : MethodName := ⟨"java/lang/StringUTF16", "compress", "([CI[BII)I"⟩
abbrev ym11 : MethodName := ⟨"java/lang/StringUTF16", "compress", "([CII)[B"⟩
abbrev ym12 : MethodName := ⟨"java/lang/String", "<init>", "([C)V"⟩
abbrev ym13 : MethodName := ⟨"java/lang/StringUTF16", "checkIndex", "(I[B)V"⟩
abbrev ym14 : MethodName := ⟨"java/lang/StringUTF16", "charAt", "([BI)C"⟩
abbrev ym15 : MethodName := ⟨"java/lang/StringLatin1", "charAt", "([BI)C"⟩
abbrev ym16 : MethodName := ⟨"java/lang/StringUTF16", "toBytes", "([CII)[B"⟩
abbrev ym17 : MethodName := ⟨"java/lang/String", "<init>", "([CIILjava/lang/Void;)V"⟩
abbrev ym18 : MethodName := ⟨"java/lang/StringUTF16", "length", "([B)I"⟩
abbrev ym19 : MethodName := ⟨"java/lang/StringUTF16", "newBytesLength", "(I)I"⟩
abbrev ym20 : MethodName := ⟨"java/lang/StringUTF16", "newBytesFor", "(I)[B"⟩
abbrev ym21 : MethodName := ⟨"java/lang/StringUTF16", "coderFromArrayLen", "([BI)B"⟩
section Own
variable {p : Program} {l : Launch} {e : Env} {R : Room} {s : State} {m : MethodId} {args : Array Value} {below : List Frame} {meth : Method} {c : Code} {T : State} {locs : List Loc} {cells slots : Nat}
/-- from A the run ends, and what it leaves is as Q says -/
def own_go (p : Program) (e : Env) (below : List Frame) (s : State) (Q : Option Value → Heap → List Loc → Prop) (C S : Nat) (A : State) : Prop :=
  ∃ t o, Steps p.tables e below A t ∧ t.status = .running ∧ Ended t below o ∧ ∃ v L, o = .returned v ∧ Q v t.heap L ∧ FrameEnd s o t L C S
variable {Q : Option Value → Heap → List Loc → Prop} {C S : Nat} {A B : State}
theorem own_in (h : own_go p e below s Q C S A) : ∃ t o, Steps p.tables e below A t ∧ t.status = .running ∧ Ended t below o ∧ ∃ v L, o = .returned v ∧ Q v t.heap L ∧ FrameEnd s o t L C S := h
theorem own_of (k : ∀ t, Steps p.tables e below B t → Steps p.tables e below A t) (h : own_go p e below s Q C S B) : own_go p e below s Q C S A := by
  obtain ⟨t, o, h1, h2⟩ := h
  exact ⟨t, o, k t h1, h2⟩
theorem own_lt {a b : Nat} (h : a < b) : a < b := h
theorem own_ne {a b : Nat} (h : a ≠ b) : a ≠ b := h
theorem own_use {α : Type} (X : Stand p l e R s m args below meth c T locs cells slots) {h : Heap} {g : α → JFrame} {G : State → Prop} (k : ∀ (r : α) (T' : State), Stand p l e R s m args below meth c T' locs cells slots → T'.heap = h → G (T'.setTop (g r)))
    (b : (∀ (r : α) (T' : State), Stand p l e R s m args below meth c T' locs cells slots → T'.heap = h → G (T'.setTop (g r))) → G A) : G A := b k
theorem own_ret (X : Stand p l e R s m args below meth c T locs cells slots) (hx : p.tables.exec = Jvm.exec) (hlk : meth.locks = false) {pc : Nat} {Ls : Array Slot} {w : Value} {t : FieldType} {i : Instr} {rest : List Value} (hret : meth.sig.returnType = some t) (hn : narrow t w = w)
    (hi : (i = .ireturn ∧ (t = .int ∨ t = .boolean ∨ t = .byte ∨ t = .char ∨ t = .short) ∧ ∃ z, w = .int z) ∨ (i = .lreturn ∧ t = .long ∧ ∃ z, w = .long z) ∨ (i = .dreturn ∧ t = .double ∧ ∃ z, w = .double z) ∨ (i = .freturn ∧ t = .float ∧ ∃ z, w = .float z) ∨ (i = .areturn ∧ t.isReference = true ∧ w.isRef = true))
    (hd : decode c.code pc = .ok (i, 1)) (hc : cells ≤ C) (hs : slots ≤ S) (hQ : Q (some w) T.heap locs) : own_go p e below s Q C S (T.setTop (mkF m pc Ls (w :: rest))) := by
  obtain ⟨fs, hr, hrun, hended, hW, hsame⟩ := X.leave (v := some w) (fun h => by rw [hret] at h; cases h) hlk
  exact ⟨_, _, retOut X hx hret hn hi hd hr, hrun, hended, _, _, rfl, hQ, ⟨_, rfl⟩, hW, hsame.mono hc hs⟩
theorem own_retV (X : Stand p l e R s m args below meth c T locs cells slots) (hx : p.tables.exec = Jvm.exec) (hlk : meth.locks = false) {pc : Nat} {Ls : Array Slot} (hret : meth.sig.returnType = none)
    (hd : decode c.code pc = .ok (.return_, 1)) (hc : cells ≤ C) (hs : slots ≤ S) (hQ : Q none T.heap locs) : own_go p e below s Q C S (T.setTop (mkF m pc Ls [])) := by
  obtain ⟨fs, hr, hrun, hended, hW, hsame⟩ := X.leave (v := none) (fun _ => rfl) hlk
  exact ⟨_, _, X.returnOut hx hret hd hr, hrun, hended, _, _, rfl, hQ, ⟨_, rfl⟩, hW, hsame.mono hc hs⟩
/-- the same where String constants may have been loaded -/
def own_gw (p : Program) (e : Env) (below : List Frame) (s : State) (Q : Option Value → Heap → List Loc → Prop) (C S : Nat) (A : State) : Prop :=
  ∃ t o, Steps p.tables e below A t ∧ t.status = .running ∧ Ended t below o ∧ ∃ v L, o = .returned v ∧ Q v t.heap L ∧ ReturnedEndW s o t L C S
theorem own_inw (h : own_gw p e below s Q C S A) : ∃ t o, Steps p.tables e below A t ∧ t.status = .running ∧ Ended t below o ∧ ∃ v L, o = .returned v ∧ Q v t.heap L ∧ ReturnedEndW s o t L C S := h
theorem own_ofw (k : ∀ t, Steps p.tables e below B t → Steps p.tables e below A t) (h : own_gw p e below s Q C S B) : own_gw p e below s Q C S A := by
  obtain ⟨t, o, h1, h2⟩ := h
  exact ⟨t, o, k t h1, h2⟩
theorem own_retw {vm0 : Vm} {k0 : Nat} (X : Stand p l e R (s.setVm vm0) m args below meth c T locs cells slots) (hx : p.tables.exec = Jvm.exec) (hlk : meth.locks = false) (hS : s.Since vm0 k0) (hk : k0 ≤ T.heap.size) {pc : Nat} {Ls : Array Slot} {w : Value} {t : FieldType} {i : Instr} {rest : List Value} (hret : meth.sig.returnType = some t) (hn : narrow t w = w)
    (hi : (i = .ireturn ∧ (t = .int ∨ t = .boolean ∨ t = .byte ∨ t = .char ∨ t = .short) ∧ ∃ z, w = .int z) ∨ (i = .lreturn ∧ t = .long ∧ ∃ z, w = .long z) ∨ (i = .dreturn ∧ t = .double ∧ ∃ z, w = .double z) ∨ (i = .freturn ∧ t = .float ∧ ∃ z, w = .float z) ∨ (i = .areturn ∧ t.isReference = true ∧ w.isRef = true))
    (hd : decode c.code pc = .ok (i, 1)) (hc : cells ≤ C) (hs : slots ≤ S) (hQ : Q (some w) T.heap locs) : own_gw p e below s Q C S (T.setTop (mkF m pc Ls (w :: rest))) := by
  obtain ⟨fs, hr, hrun, hended, h1, h2, h3, h4⟩ := X.leaveW hS hk (v := some w) (fun h => by rw [hret] at h; cases h) hlk
  exact ⟨_, _, retOut X hx hret hn hi hd hr, hrun, hended, _, _, rfl, hQ, h1, h2, h3, h4.mono hc hs⟩
theorem own_retVw {vm0 : Vm} {k0 : Nat} (X : Stand p l e R (s.setVm vm0) m args below meth c T locs cells slots) (hx : p.tables.exec = Jvm.exec) (hlk : meth.locks = false) (hS : s.Since vm0 k0) (hk : k0 ≤ T.heap.size) {pc : Nat} {Ls : Array Slot} (hret : meth.sig.returnType = none)
    (hd : decode c.code pc = .ok (.return_, 1)) (hc : cells ≤ C) (hs : slots ≤ S) (hQ : Q none T.heap locs) : own_gw p e below s Q C S (T.setTop (mkF m pc Ls [])) := by
  obtain ⟨fs, hr, hrun, hended, h1, h2, h3, h4⟩ := X.leaveW hS hk (v := none) (fun _ => rfl) hlk
  exact ⟨_, _, X.returnOut hx hret hd hr, hrun, hended, _, _, rfl, hQ, h1, h2, h3, h4.mono hc hs⟩
/-- the same, with what the JVM holds for the constants of EL -/
def own_gc (p : Program) (e : Env) (below : List Frame) (s : State) (Z : State) (EL : List (String × Nat)) (Q : Option Value → Heap → List Loc → Prop) (C S : Nat) (A : State) : Prop :=
  ∃ t o, Steps p.tables e below A t ∧ t.status = .running ∧ Ended t below o ∧ ∃ v L, o = .returned v ∧ Q v t.heap L ∧ CHr Z EL s.vm s.heap t.vm t.heap ∧ ReturnedEndW s o t L C S
variable {Z : State} {EL : List (String × Nat)} {a0 : Array Value}
theorem own_inc (h : own_gc p e below s Z EL Q C S A) : ∃ t o, Steps p.tables e below A t ∧ t.status = .running ∧ Ended t below o ∧ ∃ v L, o = .returned v ∧ Q v t.heap L ∧ CHr Z EL s.vm s.heap t.vm t.heap ∧ ReturnedEndW s o t L C S := h
theorem own_ofc (k : ∀ t, Steps p.tables e below B t → Steps p.tables e below A t) (h : own_gc p e below s Z EL Q C S B) : own_gc p e below s Z EL Q C S A := by
  obtain ⟨t, o, h1, h2⟩ := h
  exact ⟨t, o, k t h1, h2⟩
theorem own_retc {vm0 : Vm} {k0 : Nat} (X : Stand p l e R (s.setVm vm0) m args below meth c T locs cells slots) (hx : p.tables.exec = Jvm.exec) (hlk : meth.locks = false) (hS : s.Since vm0 k0) (hk : k0 ≤ T.heap.size) (hZ : Z.Warmed39 vm0) (hEL : EW Z a0 EL) (H : CHr Z EL s.vm s.heap vm0 T.heap) {pc : Nat} {Ls : Array Slot} {w : Value} {t : FieldType} {i : Instr} {rest : List Value} (hret : meth.sig.returnType = some t) (hn : narrow t w = w)
    (hi : (i = .ireturn ∧ (t = .int ∨ t = .boolean ∨ t = .byte ∨ t = .char ∨ t = .short) ∧ ∃ z, w = .int z) ∨ (i = .lreturn ∧ t = .long ∧ ∃ z, w = .long z) ∨ (i = .dreturn ∧ t = .double ∧ ∃ z, w = .double z) ∨ (i = .freturn ∧ t = .float ∧ ∃ z, w = .float z) ∨ (i = .areturn ∧ t.isReference = true ∧ w.isRef = true))
    (hd : decode c.code pc = .ok (i, 1)) (hc : cells ≤ C) (hs : slots ≤ S) (hQ : Q (some w) T.heap locs) : own_gc p e below s Z EL Q C S (T.setTop (mkF m pc Ls (w :: rest))) := by
  obtain ⟨fs, hr, hrun, hended, h1, h2, h3, h4⟩ := X.leaveW hS hk (v := some w) (fun h => by rw [hret] at h; cases h) hlk
  have q : CHr Z EL s.vm s.heap T.vm T.heap := H.trans (CHv.at X hZ hEL H.1)
  exact ⟨_, _, retOut X hx hret hn hi hd hr, hrun, hended, _, _, rfl, hQ, q, h1, h2, h3, h4.mono hc hs⟩
theorem own_retVc {vm0 : Vm} {k0 : Nat} (X : Stand p l e R (s.setVm vm0) m args below meth c T locs cells slots) (hx : p.tables.exec = Jvm.exec) (hlk : meth.locks = false) (hS : s.Since vm0 k0) (hk : k0 ≤ T.heap.size) (hZ : Z.Warmed39 vm0) (hEL : EW Z a0 EL) (H : CHr Z EL s.vm s.heap vm0 T.heap) {pc : Nat} {Ls : Array Slot} (hret : meth.sig.returnType = none)
    (hd : decode c.code pc = .ok (.return_, 1)) (hc : cells ≤ C) (hs : slots ≤ S) (hQ : Q none T.heap locs) : own_gc p e below s Z EL Q C S (T.setTop (mkF m pc Ls [])) := by
  obtain ⟨fs, hr, hrun, hended, h1, h2, h3, h4⟩ := X.leaveW hS hk (v := none) (fun _ => rfl) hlk
  have q : CHr Z EL s.vm s.heap T.vm T.heap := H.trans (CHv.at X hZ hEL H.1)
  exact ⟨_, _, X.returnOut hx hret hd hr, hrun, hended, _, _, rfl, hQ, q, h1, h2, h3, h4.mono hc hs⟩
open Jvm.Free.SB Jvm.Free.SBG in
/-- a String that has no array yet is no constant's -/
theorem own_safe_null {vm : Vm} {h : Heap} {x : Addr} (hal : Z.vm.Alike vm) (E : Exa Z h x "java/lang/String") (F : Fld Z h x "java/lang/String" "value" "[B" .null) : Safe Z EL vm h x := fun B => by
  obtain ⟨p, -, u, a, -, q, -, F', rfl | rfl⟩ := B
  · obtain ⟨cS, ⟨⟨s1, s2, s3, ⟨cv, kv, iv, s4, s4'⟩, s5, s6, s7, s8, -⟩, -, -⟩, -⟩ := F'
    obtain ⟨cell, cf, k, i, f, h1, h2, h3, -, -, -, h7⟩ := F
    cases (show h[q.sa]? = some q.sC from s1).symm.trans h1
    obtain ⟨kv', z4⟩ := ff_back (U := Wst Z vm h) hal s4
    have e4 := z4.symm.trans h2
    simp only [Option.some.injEq, Prod.mk.injEq] at e4
    rw [e4.2.2.2] at s8
    have := s8.symm.trans h7
    simp at this
  · obtain ⟨cell, k, e1, e2, e3, -, -⟩ := E
    cases (show h[q.sd]? = some q.SA from F'.hd).symm.trans e1
    obtain ⟨cS, -, -, f, -⟩ := F'
    have f' : vm.findClass "[B" = some q.SA.cls := f
    rw [hal.findClass] at f'
    obtain ⟨k1, q1, q2⟩ := Vm.findClass_spec f'
    obtain ⟨k2, q3, q4⟩ := Vm.findClass_spec e2
    cases q1.symm.trans q3
    have := q2.symm.trans q4
    simp at this
theorem own_ex {t : Term} {K : String} (h : (Jvm.Cond.exactly t K).value args s none s [] = some true) : ∃ a, t.eval args s none [] s = some (.ref a) ∧ Exa s s.heap a K := by
  obtain ⟨a, ha⟩ := exa_v h
  exact ⟨a, ha, Exa.start ha h⟩
theorem own_fi {t : Term} {K n d : String} {a : Addr} {k : Int32} (ht : t.eval args s none [] s = some (.ref a)) (h : (Jvm.Cond.eq (Term.field t K n d) (Term.int k)).value args s none s [] = some true) : Fld s s.heap a K n d (.int k) := by
  obtain ⟨x, y, h1, h2, h3, h4⟩ := cmp_v (Or.inl h)
  have e2 := Option.some.inj ((Term.int_eval k).symm.trans h2)
  subst e2
  rw [fld_at ht] at h1
  obtain ⟨z, rfl⟩ := h4
  have hz : s.fieldOf? a K n d = some (.int z) := h1
  have : z = k := by
    have h5 : (Term.field t K n d).eval args s none [] s = some (.int z) := (fld_at ht).trans hz
    simpa [Cond.value, h5, Term.int_eval] using h
  subst this
  exact Fld.start hz
end Own
abbrev own_R (a b c d : Nat) : Room := { frames := a, cells := b, slots := c, locals := d }
abbrev own_H (Z : State) (a0 : Array Value) : Prop := ∀ d ∈ tables_1, d.before a0 Z = true
theorem own_hW {Z : State} {a0 : Array Value} (hw : own_H Z a0) : ∀ (i : Nat) (d : Jvm.Cond), tables_1[i]? = some d → d.before a0 Z = true := fun i d h => hw d (List.mem_of_getElem? h)
abbrev own_M (l : Launch) (Z : State) (y : MethodName) (code : ByteArray) (ws : List Jvm.Cond) (ml : Nat) (ret : Option FieldType) (R : Room) (A : Array Value) (h0 : Heap) (Q : Option Value → Heap → List Loc → Prop) : Prop := MetFree l y (head1 (Jvm.Cond.code y code ml ret :: ws) R) (fun zz_ U => zz_ = A ∧ Z.Warmed39 U.vm ∧ U.heap = h0) (fun _ _ _ _ _ => True) (fun _ U o U' => ∃ v L, o = .returned v ∧ Q v U'.heap L ∧ FrameEnd U o U' L R.cells R.slots)
theorem own_open {l : Launch} {Z : State} {y : MethodName} {code : ByteArray} {ws : List Jvm.Cond} {ml : Nat} {ret : Option FieldType} {R : Room} {A : Array Value} {h0 : Heap} {Q : Option Value → Heap → List Loc → Prop} (hpl : plainFor y = true)
    (k : ∀ (p : Program) (e : Env) (s : State) (m : MethodId) (below : List Frame) (meth : Method) (c : Code) (s₁ : State), p.tables.exec = Jvm.exec → c.code = code → meth.locks = false → meth.sig.returnType = ret → c.maxLocals = ml → s.vm.findClass y.cls = some m.cls → meth.name = y.name → Z.Warmed39 s.vm → Stand p l e R s m A below meth c s₁ [] 0 0 → s₁.heap = h0 → own_go p e below s Q R.cells R.slots (s₁.setTop (entryFrame m A ml))) : own_M l Z y code ws ml ret R A h0 Q := by
  refine MetFree.of_bodySF hpl hisR ?_
  intro p e s m args below meth c s₁ Bd hml0 hP hK
  obtain ⟨rfl, hZ, hh⟩ := hP
  exact k p e s m below meth c s₁ Bd.exec Bd.bytes Bd.notSynchronized Bd.returns hml0 (findClass_of_methodNamed Bd.named) (name_of_methodNamed Bd.named Bd.method).1 hZ (Stand.of_body Bd) (by rw [← hh, Bd.state]; rfl)
theorem own_len {s : State} {args : Array Value} {t : Term} {a : Addr} {cl : Cell} {ty : FieldType} {k : Int32} (ht : t.eval args s none [] s = some (.ref a)) (A : Arr s s.heap a cl ty) (h : (Jvm.Cond.eq (Term.length t) (Term.int k)).value args s none s [] = some true) : cl.slots.size.toInt32 = k ∧ cl.slots.size < 2 ^ 31 := by
  obtain ⟨x, y, h1, h2, h3, h4⟩ := cmp_v (Or.inl h)
  have e2 := Option.some.inj ((Term.int_eval k).symm.trans h2)
  subst e2
  obtain ⟨z, rfl⟩ := h4
  have hA : s.arrayAt? a = some cl := A.fin (Vm.Alike.refl _)
  by_cases hl : cl.slots.size < 2 ^ 31
  · have h5 := len_f ht hA hl
    have h6 : cl.slots.size.toInt32 = z := by have := h5.symm.trans h1; simpa using this
    refine ⟨?_, hl⟩
    rw [h6]
    simpa [Cond.value, h1, Term.int_eval] using h
  · simp [Term.eval, ht, hA, hl] at h1
theorem own_el {s : State} {args : Array Value} {t : Term} {a : Addr} {cl : Cell} {ty : FieldType} {k j : Int32} (ht : t.eval args s none [] s = some (.ref a)) (A : Arr s s.heap a cl ty) (h : (Jvm.Cond.eq (Term.elem t (Term.int j)) (Term.int k)).value args s none s [] = some true) : cl.slots[j.toNatClampNeg]? = some (.int k) := by
  obtain ⟨x, y, h1, h2, h3, h4⟩ := cmp_v (Or.inl h)
  have e2 := Option.some.inj ((Term.int_eval k).symm.trans h2)
  subst e2
  obtain ⟨z, rfl⟩ := h4
  have h5 := (elem_in h1 ht (Term.int_eval j) A.1).2
  have : z = k := by simpa [Cond.value, h1, Term.int_eval] using h
  rw [h5, this]
theorem own_er {s : State} {args : Array Value} {t u : Term} {a b : Addr} {cl : Cell} {ty : FieldType} {j : Int32} (ht : t.eval args s none [] s = some (.ref a)) (hu : u.eval args s none [] s = some (.ref b)) (A : Arr s s.heap a cl ty) (h : (Jvm.Cond.eq (Term.elem t (Term.int j)) u).value args s none s [] = some true) : cl.slots[j.toNatClampNeg]? = some (.ref b) := by
  obtain ⟨x, y, h1, h2, h3, h4⟩ := cmp_v (Or.inl h)
  have e2 := Option.some.inj (hu.symm.trans h2)
  subst e2
  have h5 := (elem_in h1 ht (Term.int_eval j) A.1).2
  rw [h5]
  cases x <;> simp [Cond.value, h1, hu] at h ⊢
  exact h
theorem own_fr {s : State} {args : Array Value} {t : Term} {a b : Addr} {K n d : String} (ht : t.eval args s none [] s = some (.ref a)) (hf : (Term.field t K n d).eval args s none [] s = some (.ref b)) : Fld s s.heap a K n d (.ref b) := Fld.start ((fld_at ht).symm.trans hf)
def own_str (Z : State) (h : Heap) (x : Addr) (cs : List Int32) : Prop := ∃ (t : Addr) (kb : ClassId) (N : Int32) (vs : List Value), Exa Z h x "java/lang/String" ∧ Fld Z h x "java/lang/String" "value" "[B" (.ref t) ∧ Fld Z h x "java/lang/String" "coder" "B" (.int 0) ∧ Arv Z h t kb .byte N vs (.int 0) ∧ StrChars.Road.CodA cs 0 N vs
theorem own_str.ext {Z : State} {h h' : Heap} {x : Addr} {cs : List Int32} (S : own_str Z h x cs) (E : Ext h h') : own_str Z h' x cs := by
  obtain ⟨t, kb, N, vs, a, b, c, d, e⟩ := S
  exact ⟨t, kb, N, vs, a.ext E, b.ext E, c.ext E, d.ext E, e⟩
theorem own_str.lt {Z : State} {h : Heap} {x : Addr} {cs : List Int32} (S : own_str Z h x cs) : x < h.size := by
  obtain ⟨_, _, _, _, a, -⟩ := S
  exact a.lt
theorem own_str.keep1 {Z : State} {h h' : Heap} {x y : Addr} {cs : List Int32} {C : String} {k : Nat} {a0 : Array Value} (S : own_str Z h x cs) (K : Keep h h' [y]) (hx : x ≠ y) (E : Exa Z h y C) (wi : (Jvm.Cond.instantiable C k).before a0 Z = true) : own_str Z h' x cs := by
  obtain ⟨t, kb, N, vs, a, b, c, ⟨cl, A, r⟩, e⟩ := S
  have ht : t ≠ y := (ne_arr E wi A).symm
  exact ⟨t, kb, N, vs, a.keep K, b.keep K (ninS hx nin0), c.keep K (ninS hx nin0), ⟨cl, ⟨K.2.1 t cl A.1 (ninS ht nin0), A.2⟩, r⟩, e⟩
theorem own_str.keep {Z : State} {h h' : Heap} {x : Addr} {cs : List Int32} (S : own_str Z h x cs) (K : Keep h h' []) (q : x ∉ ([] : List Addr)) : own_str Z h' x cs := by
  obtain ⟨t, kb, N, vs, a, b, c, d, e⟩ := S
  exact ⟨t, kb, N, vs, a.keep K, b.keep K nin0, c.keep K nin0, d.keep K nin0, e⟩
theorem own_and255 (x : Int32) : ¬ nar .char ((x &&& (255 : Int32)).toUInt32.toUInt16.toUInt32.toInt32) < 0 ∧ ¬ (255 : Int32) < nar .char ((x &&& (255 : Int32)).toUInt32.toUInt16.toUInt32.toInt32) := by
  have t : ∀ k : Fin 256, ¬ nar .char ((Int32.ofNat k.val).toUInt32.toUInt16.toUInt32.toInt32) < 0 ∧ ¬ (255 : Int32) < nar .char ((Int32.ofNat k.val).toUInt32.toUInt16.toUInt32.toInt32) := by decide +kernel
  have h : (x &&& 255).toBitVec.toNat < 256 := by
    simp only [Int32.toBitVec_and, BitVec.toNat_and]
    exact Nat.lt_succ_of_le Nat.and_le_right
  have e : (x &&& 255) = Int32.ofNat (x &&& 255).toBitVec.toNat := by
    apply Int32.toBitVec_inj.mp
    show _ = BitVec.ofNat 32 _
    rw [BitVec.ofNat_toNat]; simp
  rw [e]
  exact t ⟨_, h⟩
theorem own_and3 (x : Int32) : x &&& 3 = 0 ∨ x &&& 3 = 1 ∨ x &&& 3 = 2 ∨ x &&& 3 = 3 := by
  have e1 : (x &&& 3).toInt = x.toInt % 2 ^ 2 := Jvm.Kit.i32_mask x 3 (k := 2) (by decide) (by decide)
  simp only [← Int32.toInt_inj, show (0 : Int32).toInt = 0 from rfl, show (1 : Int32).toInt = 1 from rfl, show (2 : Int32).toInt = 2 from rfl, show (3 : Int32).toInt = 3 from rfl]
  omega
theorem own_up (cs : List Int32) (h : ∀ c ∈ cs, ¬ c < 0 ∧ ¬ (255 : Int32) < c) : ∀ c ∈ cs, ¬ c < 0 ∧ ¬ (65535 : Int32) < c := fun c hc => ⟨(h c hc).1, fun q => (h c hc).2 (by rw [Int32.lt_iff_toInt_lt] at q ⊢; have e1 : (65535 : Int32).toInt = 65535 := rfl; have e2 : (255 : Int32).toInt = 255 := rfl; omega)⟩
def own_EL : List (String × Nat) := [("java/lang/String", 7)]
abbrev own_c16 (z : Int32) : Prop := ¬ z < 0 ∧ ¬ (65535 : Int32) < z
theorem own_narb (x : Int32) : nar .byte (x.toInt8.toInt32) = StrChars.lo8 x := by
  unfold nar StrChars.lo8; simp
theorem own_b0 (c : Int32) : nar .byte ((c >>> ((0 : Int32) &&& 31)).toInt8.toInt32) = StrChars.lo8 c := by
  rw [StrChars.shr0]; exact own_narb c
theorem own_b8 (c : Int32) : nar .byte ((c >>> ((8 : Int32) &&& 31)).toInt8.toInt32) = StrChars.hi8 c := own_narb _
theorem ef_rmP_1_0 (m : MethodId) (x0 : Nat) (x1 : Int32) (x2 : Int32) : entryFrame m #[(.ref x0), (.int x1), (.int x2)] 3 = mkF m 0 #[.val (.ref x0), .val (.int x1), .val (.int x2)] [] := by first | (simp [entryFrame, mkF, argsToLocals, Value.category]; done) | rfl
theorem pn_0 : plainName "java/lang/StringUTF16" = true := by first | (simp [plainName, overriddenIn]; done) | decide +kernel
theorem d20_0 : decode jdk_52_method_4_code 0 = .ok (.getstatic 44, 3) := by decide +kernel
theorem d20_3 : decode jdk_52_method_4_code 3 = .ok (.ifCond .ne 25, 3) := by decide +kernel
theorem d20_28 : decode jdk_52_method_4_code 28 = .ok (.iload_n 1, 1) := by decide +kernel
theorem d20_29 : decode jdk_52_method_4_code 29 = .ok (.iconst 1, 1) := by decide +kernel
theorem d20_30 : decode jdk_52_method_4_code 30 = .ok (.ishl, 1) := by decide +kernel
theorem d20_31 : decode jdk_52_method_4_code 31 = .ok (.istore_n 1, 1) := by decide +kernel
theorem d20_32 : decode jdk_52_method_4_code 32 = .ok (.aload_n 0, 1) := by decide +kernel
theorem d20_33 : decode jdk_52_method_4_code 33 = .ok (.iload_n 1, 1) := by decide +kernel
theorem d20_34 : decode jdk_52_method_4_code 34 = .ok (.iinc 1 1, 3) := by decide +kernel
theorem d20_37 : decode jdk_52_method_4_code 37 = .ok (.iload_n 2, 1) := by decide +kernel
theorem d20_38 : decode jdk_52_method_4_code 38 = .ok (.getstatic 59, 3) := by decide +kernel
theorem d20_41 : decode jdk_52_method_4_code 41 = .ok (.ishr, 1) := by decide +kernel
theorem d20_42 : decode jdk_52_method_4_code 42 = .ok (.i2b, 1) := by decide +kernel
theorem d20_43 : decode jdk_52_method_4_code 43 = .ok (.bastore, 1) := by decide +kernel
theorem d20_44 : decode jdk_52_method_4_code 44 = .ok (.aload_n 0, 1) := by decide +kernel
theorem d20_45 : decode jdk_52_method_4_code 45 = .ok (.iload_n 1, 1) := by decide +kernel
theorem d20_46 : decode jdk_52_method_4_code 46 = .ok (.iload_n 2, 1) := by decide +kernel
theorem d20_47 : decode jdk_52_method_4_code 47 = .ok (.getstatic 63, 3) := by decide +kernel
theorem d20_50 : decode jdk_52_method_4_code 50 = .ok (.ishr, 1) := by decide +kernel
theorem d20_51 : decode jdk_52_method_4_code 51 = .ok (.i2b, 1) := by decide +kernel
theorem d20_52 : decode jdk_52_method_4_code 52 = .ok (.bastore, 1) := by decide +kernel
theorem d20_53 : decode jdk_52_method_4_code 53 = .ok (.return_, 1) := by decide +kernel
def Q_rmP_1_0 (Z : State) (t : Nat) (kb : ClassId) (cc : Int32) (v0 : Value) (v1 : Value) (h0 : Heap) (n0 : Nat) (v : Option Value) (h : Heap) (L : List Loc) : Prop := v = none ∧ Fr n0 L ∧ Keep h0 h [t] ∧ Arv Z h t kb .byte (2 : Int32) [(.int (StrChars.lo8 cc)), (.int (StrChars.hi8 cc))] (.int 0)
set_option maxRecDepth 65536 in
set_option maxHeartbeats 40000000 in
theorem rmP_1_0 (l : Launch) (Z : State) (a0 : Array Value) (hw : own_H Z a0) (ws : List Jvm.Cond) (t : Nat) (kb : ClassId) (cc : Int32) (v0 : Value) (v1 : Value) (h0 : Heap) (n0 : Nat) (XO0 : Old Z n0 h0) (S_ad : Sta Z Z.heap "java/lang/StringUTF16" "$assertionsDisabled" "Z" (.int 1)) (S_hi : Sta Z Z.heap "java/lang/StringUTF16" "HI_BYTE_SHIFT" "I" (.int 0)) (S_lo : Sta Z Z.heap "java/lang/StringUTF16" "LO_BYTE_SHIFT" "I" (.int 8)) (g_t : n0 ≤ t) (V_t : Arv Z h0 t kb .byte (2 : Int32) [v0, v1] (.int 0)) :
    own_M l Z ym9 jdk_52_method_4_code ws 3 none (own_R 0 0 0 0) #[(.ref t), (.int 0), (.int cc)] h0 (Q_rmP_1_0 Z t kb cc v0 v1 h0 n0) := by
  refine own_open (plainFor_of_name pn_0) ?_
  intro p e s m below meth c s₁ hx hby hlk hret hml hown hnm hZ X0 e0
  have hW := own_hW hw
  have N0 := Fr.nil n0
  refine own_of (fun tt_ kk_ => castTop (ef_rmP_1_0 m t (0 : Int32) cc) kk_) ?_
  show own_go p e below s _ _ _ (s₁.setTop (mkF m 0 #[.val (.ref t), .val (.int 0), .val (.int cc)] []))
  have K0 : Keep h0 h0 [t] := Keep.refl h0 [t]
  have lt_t := own_lt V_t.lt
  obtain ⟨T1, X1, e1, st1⟩ := getS2 X0 hx hZ hown (host := "") (Or.inl (hW 92 _ rfl)) Via.refl e0 (S_ad.ext XO0.2) (g := (mkF m 0 #[.val (.ref t), .val (.int 0), .val (.int cc)] [])) rfl (hb hby d20_0)
  refine own_of st1 ?_
  show own_go p e below s _ _ _ (T1.setTop (mkF m 3 #[.val (.ref t), .val (.int 0), .val (.int cc)] [(.int 1)]))
  have hb3_2 : ¬ ((1 : Int32) = (0 : Int32)) := by decide
  refine own_of (fun tt_ => XS.ifYes X1.here hx rfl (pc0 := 3) (pc' := 28) rfl (hb hby d20_3) rfl ((if0 _ _).trans (feq hb3_2).2) (by decide) (by decide)) ?_
  show own_go p e below s _ _ _ (T1.setTop (mkF m 28 #[.val (.ref t), .val (.int 0), .val (.int cc)] []))
  refine own_of (fun tt_ => XS.iloadN X1.here hx rfl (hb hby d20_28) rfl) ?_
  refine own_of (fun tt_ => XS.iconst X1.here hx rfl (hb hby d20_29)) ?_
  refine own_of (fun tt_ => XS.ishl X1.here hx rfl (hb hby d20_30) rfl) ?_
  show own_go p e below s _ _ _ (T1.setTop (mkF m 31 #[.val (.ref t), .val (.int 0), .val (.int cc)] [(.int 0)]))
  refine own_of (fun tt_ => XS.istoreN X1.here hx rfl (hb hby d20_31) rfl (l' := #[.val (.ref t), .val (.int 0), .val (.int cc)]) rfl) ?_
  refine own_of (fun tt_ => XS.aloadN X1.here hx rfl (hb hby d20_32) rfl rfl) ?_
  refine own_of (fun tt_ => XS.iloadN X1.here hx rfl (hb hby d20_33) rfl) ?_
  refine own_of (fun tt_ => XS.iinc X1.here hx rfl (hb hby d20_34) rfl (l' := #[.val (.ref t), .val (.int 1), .val (.int cc)]) rfl) ?_
  refine own_of (fun tt_ => XS.iloadN X1.here hx rfl (hb hby d20_37) rfl) ?_
  obtain ⟨T3, X3, e3, st3⟩ := getS2 X1 hx hZ hown (host := "") (Or.inl (hW 93 _ rfl)) Via.refl e1 (S_hi.ext XO0.2) (g := (mkF m 38 #[.val (.ref t), .val (.int 1), .val (.int cc)] [(.int cc), (.int 0), (.ref t)])) rfl (hb hby d20_38)
  refine own_of st3 ?_
  show own_go p e below s _ _ _ (T3.setTop (mkF m 41 #[.val (.ref t), .val (.int 1), .val (.int cc)] [(.int 0), (.int cc), (.int 0), (.ref t)]))
  refine own_of (fun tt_ => XS.ishr X3.here hx rfl (hb hby d20_41) rfl) ?_
  show own_go p e below s _ _ _ (T3.setTop (mkF m 42 #[.val (.ref t), .val (.int 1), .val (.int cc)] [(.int (cc >>> ((0 : Int32) &&& 31))), (.int 0), (.ref t)]))
  refine own_of (fun tt_ => XS.i2b X3.here hx rfl (hb hby d20_42) rfl) ?_
  show own_go p e below s _ _ _ (T3.setTop (mkF m 43 #[.val (.ref t), .val (.int 1), .val (.int cc)] [(.int ((cc >>> ((0 : Int32) &&& 31)).toInt8.toInt32)), (.int 0), (.ref t)]))
  obtain ⟨cl4, Ar4, q4, S4, Ng4, H4, G4⟩ := V_t
  obtain ⟨T4, h4, X4, e4, W4, st4⟩ := stB X3 hx hZ e3 Ar4 (j := (0 : Int32)) (inb_of S4 ⟨by decide, by decide⟩) (g := (mkF m 43 #[.val (.ref t), .val (.int 1), .val (.int cc)] [(.int ((cc >>> ((0 : Int32) &&& 31)).toInt8.toInt32)), (.int 0), (.ref t)])) rfl rfl (hb hby d20_43)
  have V4 : Arv Z h4 t kb .byte (2 : Int32) [(.int (nar .byte ((cc >>> ((0 : Int32) &&& 31)).toInt8.toInt32))), v1] (.int 0) := Arv.set Ar4 q4 S4 Ng4 H4 G4 (fits_nar_byte _) W4 0 rfl (Nat.le_of_ble_eq_true rfl)
  refine own_of st4 ?_
  have N4 := Fr.snoc X4 N0 (by omega : n0 ≤ t)
  have sz4 : h4.size = h0.size := W4.size
  have O4 : Old Z n0 h4 := XO0.wr W4 (by omega)
  have K4 : Keep h0 h4 [t] := K0.wr W4 (Or.inl (List.mem_of_getElem? (i := 0) rfl))
  show own_go p e below s _ _ _ (T4.setTop (mkF m 44 #[.val (.ref t), .val (.int 1), .val (.int cc)] []))
  refine own_of (fun tt_ => XS.aloadN X4.here hx rfl (hb hby d20_44) rfl rfl) ?_
  refine own_of (fun tt_ => XS.iloadN X4.here hx rfl (hb hby d20_45) rfl) ?_
  refine own_of (fun tt_ => XS.iloadN X4.here hx rfl (hb hby d20_46) rfl) ?_
  obtain ⟨T5, X5, e5, st5⟩ := getS2 X4 hx hZ hown (host := "") (Or.inl (hW 94 _ rfl)) Via.refl e4 (S_lo.ext O4.2) (g := (mkF m 47 #[.val (.ref t), .val (.int 1), .val (.int cc)] [(.int cc), (.int 1), (.ref t)])) rfl (hb hby d20_47)
  refine own_of st5 ?_
  show own_go p e below s _ _ _ (T5.setTop (mkF m 50 #[.val (.ref t), .val (.int 1), .val (.int cc)] [(.int 8), (.int cc), (.int 1), (.ref t)]))
  refine own_of (fun tt_ => XS.ishr X5.here hx rfl (hb hby d20_50) rfl) ?_
  show own_go p e below s _ _ _ (T5.setTop (mkF m 51 #[.val (.ref t), .val (.int 1), .val (.int cc)] [(.int (cc >>> ((8 : Int32) &&& 31))), (.int 1), (.ref t)]))
  refine own_of (fun tt_ => XS.i2b X5.here hx rfl (hb hby d20_51) rfl) ?_
  show own_go p e below s _ _ _ (T5.setTop (mkF m 52 #[.val (.ref t), .val (.int 1), .val (.int cc)] [(.int ((cc >>> ((8 : Int32) &&& 31)).toInt8.toInt32)), (.int 1), (.ref t)]))
  obtain ⟨cl6, Ar6, q6, S6, Ng6, H6, G6⟩ := V4
  obtain ⟨T6, h6, X6, e6, W6, st6⟩ := stB X5 hx hZ e5 Ar6 (j := (1 : Int32)) (inb_of S6 ⟨by decide, by decide⟩) (g := (mkF m 52 #[.val (.ref t), .val (.int 1), .val (.int cc)] [(.int ((cc >>> ((8 : Int32) &&& 31)).toInt8.toInt32)), (.int 1), (.ref t)])) rfl rfl (hb hby d20_52)
  have V6 : Arv Z h6 t kb .byte (2 : Int32) [(.int (nar .byte ((cc >>> ((0 : Int32) &&& 31)).toInt8.toInt32))), (.int (nar .byte ((cc >>> ((8 : Int32) &&& 31)).toInt8.toInt32)))] (.int 0) := Arv.set Ar6 q6 S6 Ng6 H6 G6 (fits_nar_byte _) W6 1 rfl (Nat.le_of_ble_eq_true rfl)
  refine own_of st6 ?_
  have N6 := Fr.snoc X6 N4 (by omega : n0 ≤ t)
  have sz6 : h6.size = h4.size := W6.size
  have O6 : Old Z n0 h6 := O4.wr W6 (by omega)
  have K6 : Keep h0 h6 [t] := K4.wr W6 (Or.inl (List.mem_of_getElem? (i := 0) rfl))
  show own_go p e below s _ _ _ (T6.setTop (mkF m 53 #[.val (.ref t), .val (.int 1), .val (.int cc)] []))
  refine own_retV X6 hx hlk hret (hb hby d20_53) (by decide) (by decide) ?_
  rw [e6]
  have fin := V6
  rw [own_b0, own_b8] at fin
  exact ⟨rfl, N6, K6, fin⟩
theorem ef_rmG_1_0 (m : MethodId) (x0 : Nat) (x1 : Int32) : entryFrame m #[(.ref x0), (.int x1)] 2 = mkF m 0 #[.val (.ref x0), .val (.int x1)] [] := by first | (simp [entryFrame, mkF, argsToLocals, Value.category]; done) | rfl
theorem d21_0 : decode jdk_52_method_5_code 0 = .ok (.getstatic 44, 3) := by decide +kernel
theorem d21_3 : decode jdk_52_method_5_code 3 = .ok (.ifCond .ne 25, 3) := by decide +kernel
theorem d21_28 : decode jdk_52_method_5_code 28 = .ok (.iload_n 1, 1) := by decide +kernel
theorem d21_29 : decode jdk_52_method_5_code 29 = .ok (.iconst 1, 1) := by decide +kernel
theorem d21_30 : decode jdk_52_method_5_code 30 = .ok (.ishl, 1) := by decide +kernel
theorem d21_31 : decode jdk_52_method_5_code 31 = .ok (.istore_n 1, 1) := by decide +kernel
theorem d21_32 : decode jdk_52_method_5_code 32 = .ok (.aload_n 0, 1) := by decide +kernel
theorem d21_33 : decode jdk_52_method_5_code 33 = .ok (.iload_n 1, 1) := by decide +kernel
theorem d21_34 : decode jdk_52_method_5_code 34 = .ok (.iinc 1 1, 3) := by decide +kernel
theorem d21_37 : decode jdk_52_method_5_code 37 = .ok (.baload, 1) := by decide +kernel
theorem d21_38 : decode jdk_52_method_5_code 38 = .ok (.sipush 255, 3) := by decide +kernel
theorem d21_41 : decode jdk_52_method_5_code 41 = .ok (.iand, 1) := by decide +kernel
theorem d21_42 : decode jdk_52_method_5_code 42 = .ok (.getstatic 59, 3) := by decide +kernel
theorem d21_45 : decode jdk_52_method_5_code 45 = .ok (.ishl, 1) := by decide +kernel
theorem d21_46 : decode jdk_52_method_5_code 46 = .ok (.aload_n 0, 1) := by decide +kernel
theorem d21_47 : decode jdk_52_method_5_code 47 = .ok (.iload_n 1, 1) := by decide +kernel
theorem d21_48 : decode jdk_52_method_5_code 48 = .ok (.baload, 1) := by decide +kernel
theorem d21_49 : decode jdk_52_method_5_code 49 = .ok (.sipush 255, 3) := by decide +kernel
theorem d21_52 : decode jdk_52_method_5_code 52 = .ok (.iand, 1) := by decide +kernel
theorem d21_53 : decode jdk_52_method_5_code 53 = .ok (.getstatic 63, 3) := by decide +kernel
theorem d21_56 : decode jdk_52_method_5_code 56 = .ok (.ishl, 1) := by decide +kernel
theorem d21_57 : decode jdk_52_method_5_code 57 = .ok (.ior, 1) := by decide +kernel
theorem d21_58 : decode jdk_52_method_5_code 58 = .ok (.i2c, 1) := by decide +kernel
theorem d21_59 : decode jdk_52_method_5_code 59 = .ok (.ireturn, 1) := by decide +kernel
def Q_rmG_1_0 (Z : State) (t : Nat) (kb : ClassId) (u0 : Int32) (u1 : Int32) (h0 : Heap) (n0 : Nat) (v : Option Value) (h : Heap) (L : List Loc) : Prop := v = some (.int (StrChars.pairCh u0 u1)) ∧ Fr n0 L ∧ h = h0
set_option maxRecDepth 65536 in
set_option maxHeartbeats 40000000 in
theorem rmG_1_0 (l : Launch) (Z : State) (a0 : Array Value) (hw : own_H Z a0) (ws : List Jvm.Cond) (t : Nat) (kb : ClassId) (u0 : Int32) (u1 : Int32) (h0 : Heap) (n0 : Nat) (XO0 : Old Z n0 h0) (S_ad : Sta Z Z.heap "java/lang/StringUTF16" "$assertionsDisabled" "Z" (.int 1)) (S_hi : Sta Z Z.heap "java/lang/StringUTF16" "HI_BYTE_SHIFT" "I" (.int 0)) (S_lo : Sta Z Z.heap "java/lang/StringUTF16" "LO_BYTE_SHIFT" "I" (.int 8)) (V_t : Arv Z h0 t kb .byte (2 : Int32) [(.int u0), (.int u1)] (.int 0)) :
    own_M l Z ym4 jdk_52_method_5_code ws 2 (some .char) (own_R 0 0 0 0) #[(.ref t), (.int 0)] h0 (Q_rmG_1_0 Z t kb u0 u1 h0 n0) := by
  refine own_open (plainFor_of_name pn_0) ?_
  intro p e s m below meth c s₁ hx hby hlk hret hml hown hnm hZ X0 e0
  have hW := own_hW hw
  have N0 := Fr.nil n0
  refine own_of (fun tt_ kk_ => castTop (ef_rmG_1_0 m t (0 : Int32)) kk_) ?_
  show own_go p e below s _ _ _ (s₁.setTop (mkF m 0 #[.val (.ref t), .val (.int 0)] []))
  obtain ⟨T1, X1, e1, st1⟩ := getS2 X0 hx hZ hown (host := "") (Or.inl (hW 92 _ rfl)) Via.refl e0 (S_ad.ext XO0.2) (g := (mkF m 0 #[.val (.ref t), .val (.int 0)] [])) rfl (hb hby d21_0)
  refine own_of st1 ?_
  show own_go p e below s _ _ _ (T1.setTop (mkF m 3 #[.val (.ref t), .val (.int 0)] [(.int 1)]))
  have hb3_2 : ¬ ((1 : Int32) = (0 : Int32)) := by decide
  refine own_of (fun tt_ => XS.ifYes X1.here hx rfl (pc0 := 3) (pc' := 28) rfl (hb hby d21_3) rfl ((if0 _ _).trans (feq hb3_2).2) (by decide) (by decide)) ?_
  show own_go p e below s _ _ _ (T1.setTop (mkF m 28 #[.val (.ref t), .val (.int 0)] []))
  refine own_of (fun tt_ => XS.iloadN X1.here hx rfl (hb hby d21_28) rfl) ?_
  refine own_of (fun tt_ => XS.iconst X1.here hx rfl (hb hby d21_29)) ?_
  refine own_of (fun tt_ => XS.ishl X1.here hx rfl (hb hby d21_30) rfl) ?_
  show own_go p e below s _ _ _ (T1.setTop (mkF m 31 #[.val (.ref t), .val (.int 0)] [(.int 0)]))
  refine own_of (fun tt_ => XS.istoreN X1.here hx rfl (hb hby d21_31) rfl (l' := #[.val (.ref t), .val (.int 0)]) rfl) ?_
  refine own_of (fun tt_ => XS.aloadN X1.here hx rfl (hb hby d21_32) rfl rfl) ?_
  refine own_of (fun tt_ => XS.iloadN X1.here hx rfl (hb hby d21_33) rfl) ?_
  refine own_of (fun tt_ => XS.iinc X1.here hx rfl (hb hby d21_34) rfl (l' := #[.val (.ref t), .val (.int 1)]) rfl) ?_
  obtain ⟨cl3, Ar3, q3, S3, Ng3, H3, G3⟩ := id V_t
  have hin3 : ¬ ((0 : Int32) < 0 ∨ cl3.slots.size ≤ ((0 : Int32)).toNatClampNeg) := inb_of S3 ⟨by decide, by decide⟩
  have hat3 : cl3.slots[((0 : Int32)).toNatClampNeg]? = some (.int u0) := H3 0 (by rw [S3]; decide)
  refine own_of (fun tt_ => X1.baloadBytes hx (j := (0 : Int32)) (v := (.int u0)) (by rw [e1]; exact Ar3.1) (State.isArrayOf_alike hZ.alike Ar3.2.1) Ar3.2.2 hin3 hat3 (g := (mkF m 37 #[.val (.ref t), .val (.int 1)] [(.int 0), (.ref t)])) rfl rfl (hb hby d21_37) _) ?_
  show own_go p e below s _ _ _ (T1.setTop (mkF m 38 #[.val (.ref t), .val (.int 1)] [(.int u0)]))
  refine own_of (fun tt_ => XS.sipush X1.here hx rfl (hb hby d21_38)) ?_
  refine own_of (fun tt_ => XS.iand X1.here hx rfl (hb hby d21_41) rfl) ?_
  show own_go p e below s _ _ _ (T1.setTop (mkF m 42 #[.val (.ref t), .val (.int 1)] [(.int (u0 &&& (255 : Int32)))]))
  obtain ⟨T4, X4, e4, st4⟩ := getS2 X1 hx hZ hown (host := "") (Or.inl (hW 93 _ rfl)) Via.refl e1 (S_hi.ext XO0.2) (g := (mkF m 42 #[.val (.ref t), .val (.int 1)] [(.int (u0 &&& (255 : Int32)))])) rfl (hb hby d21_42)
  refine own_of st4 ?_
  show own_go p e below s _ _ _ (T4.setTop (mkF m 45 #[.val (.ref t), .val (.int 1)] [(.int 0), (.int (u0 &&& (255 : Int32)))]))
  refine own_of (fun tt_ => XS.ishl X4.here hx rfl (hb hby d21_45) rfl) ?_
  show own_go p e below s _ _ _ (T4.setTop (mkF m 46 #[.val (.ref t), .val (.int 1)] [(.int ((u0 &&& (255 : Int32)) <<< ((0 : Int32) &&& 31)))]))
  refine own_of (fun tt_ => XS.aloadN X4.here hx rfl (hb hby d21_46) rfl rfl) ?_
  refine own_of (fun tt_ => XS.iloadN X4.here hx rfl (hb hby d21_47) rfl) ?_
  obtain ⟨cl5, Ar5, q5, S5, Ng5, H5, G5⟩ := id V_t
  have hin5 : ¬ ((1 : Int32) < 0 ∨ cl5.slots.size ≤ ((1 : Int32)).toNatClampNeg) := inb_of S5 ⟨by decide, by decide⟩
  have hat5 : cl5.slots[((1 : Int32)).toNatClampNeg]? = some (.int u1) := H5 1 (by rw [S5]; decide)
  refine own_of (fun tt_ => X4.baloadBytes hx (j := (1 : Int32)) (v := (.int u1)) (by rw [e4]; exact Ar5.1) (State.isArrayOf_alike hZ.alike Ar5.2.1) Ar5.2.2 hin5 hat5 (g := (mkF m 48 #[.val (.ref t), .val (.int 1)] [(.int 1), (.ref t), (.int ((u0 &&& (255 : Int32)) <<< ((0 : Int32) &&& 31)))])) rfl rfl (hb hby d21_48) _) ?_
  show own_go p e below s _ _ _ (T4.setTop (mkF m 49 #[.val (.ref t), .val (.int 1)] [(.int u1), (.int ((u0 &&& (255 : Int32)) <<< ((0 : Int32) &&& 31)))]))
  refine own_of (fun tt_ => XS.sipush X4.here hx rfl (hb hby d21_49)) ?_
  refine own_of (fun tt_ => XS.iand X4.here hx rfl (hb hby d21_52) rfl) ?_
  show own_go p e below s _ _ _ (T4.setTop (mkF m 53 #[.val (.ref t), .val (.int 1)] [(.int (u1 &&& (255 : Int32))), (.int ((u0 &&& (255 : Int32)) <<< ((0 : Int32) &&& 31)))]))
  obtain ⟨T6, X6, e6, st6⟩ := getS2 X4 hx hZ hown (host := "") (Or.inl (hW 94 _ rfl)) Via.refl e4 (S_lo.ext XO0.2) (g := (mkF m 53 #[.val (.ref t), .val (.int 1)] [(.int (u1 &&& (255 : Int32))), (.int ((u0 &&& (255 : Int32)) <<< ((0 : Int32) &&& 31)))])) rfl (hb hby d21_53)
  refine own_of st6 ?_
  show own_go p e below s _ _ _ (T6.setTop (mkF m 56 #[.val (.ref t), .val (.int 1)] [(.int 8), (.int (u1 &&& (255 : Int32))), (.int ((u0 &&& (255 : Int32)) <<< ((0 : Int32) &&& 31)))]))
  refine own_of (fun tt_ => XS.ishl X6.here hx rfl (hb hby d21_56) rfl) ?_
  show own_go p e below s _ _ _ (T6.setTop (mkF m 57 #[.val (.ref t), .val (.int 1)] [(.int ((u1 &&& (255 : Int32)) <<< ((8 : Int32) &&& 31))), (.int ((u0 &&& (255 : Int32)) <<< ((0 : Int32) &&& 31)))]))
  refine own_of (fun tt_ => XS.ior X6.here hx rfl (hb hby d21_57) rfl) ?_
  show own_go p e below s _ _ _ (T6.setTop (mkF m 58 #[.val (.ref t), .val (.int 1)] [(.int (((u0 &&& (255 : Int32)) <<< ((0 : Int32) &&& 31)) ||| ((u1 &&& (255 : Int32)) <<< ((8 : Int32) &&& 31))))]))
  refine own_of (fun tt_ => XS.i2c X6.here hx rfl (hb hby d21_58) rfl) ?_
  show own_go p e below s _ _ _ (T6.setTop (mkF m 59 #[.val (.ref t), .val (.int 1)] [(.int ((((u0 &&& (255 : Int32)) <<< ((0 : Int32) &&& 31)) ||| ((u1 &&& (255 : Int32)) <<< ((8 : Int32) &&& 31))).toUInt32.toUInt16.toUInt32.toInt32))]))
  refine own_ret X6 hx hlk hret (XT.narrow_c _) (Or.inl ⟨rfl, by simp, _, rfl⟩) (hb hby d21_59) (by decide) (by decide) ?_
  rw [e6]
  exact ⟨rfl, N0, rfl⟩
theorem ef_rmP_2_0 (m : MethodId) (x0 : Nat) (x1 : Int32) (x2 : Int32) : entryFrame m #[(.ref x0), (.int x1), (.int x2)] 3 = mkF m 0 #[.val (.ref x0), .val (.int x1), .val (.int x2)] [] := by first | (simp [entryFrame, mkF, argsToLocals, Value.category]; done) | rfl
def Q_rmP_2_0 (Z : State) (t : Nat) (kb : ClassId) (cc : Int32) (v0 : Value) (v1 : Value) (v2 : Value) (v3 : Value) (h0 : Heap) (n0 : Nat) (v : Option Value) (h : Heap) (L : List Loc) : Prop := v = none ∧ Fr n0 L ∧ Keep h0 h [t] ∧ Arv Z h t kb .byte (4 : Int32) [(.int (StrChars.lo8 cc)), (.int (StrChars.hi8 cc)), v2, v3] (.int 0)
set_option maxRecDepth 65536 in
set_option maxHeartbeats 40000000 in
theorem rmP_2_0 (l : Launch) (Z : State) (a0 : Array Value) (hw : own_H Z a0) (ws : List Jvm.Cond) (t : Nat) (kb : ClassId) (cc : Int32) (v0 : Value) (v1 : Value) (v2 : Value) (v3 : Value) (h0 : Heap) (n0 : Nat) (XO0 : Old Z n0 h0) (S_ad : Sta Z Z.heap "java/lang/StringUTF16" "$assertionsDisabled" "Z" (.int 1)) (S_hi : Sta Z Z.heap "java/lang/StringUTF16" "HI_BYTE_SHIFT" "I" (.int 0)) (S_lo : Sta Z Z.heap "java/lang/StringUTF16" "LO_BYTE_SHIFT" "I" (.int 8)) (g_t : n0 ≤ t) (V_t : Arv Z h0 t kb .byte (4 : Int32) [v0, v1, v2, v3] (.int 0)) :
    own_M l Z ym9 jdk_52_method_4_code ws 3 none (own_R 0 0 0 0) #[(.ref t), (.int 0), (.int cc)] h0 (Q_rmP_2_0 Z t kb cc v0 v1 v2 v3 h0 n0) := by
  refine own_open (plainFor_of_name pn_0) ?_
  intro p e s m below meth c s₁ hx hby hlk hret hml hown hnm hZ X0 e0
  have hW := own_hW hw
  have N0 := Fr.nil n0
  refine own_of (fun tt_ kk_ => castTop (ef_rmP_2_0 m t (0 : Int32) cc) kk_) ?_
  show own_go p e below s _ _ _ (s₁.setTop (mkF m 0 #[.val (.ref t), .val (.int 0), .val (.int cc)] []))
  have K0 : Keep h0 h0 [t] := Keep.refl h0 [t]
  have lt_t := own_lt V_t.lt
  obtain ⟨T1, X1, e1, st1⟩ := getS2 X0 hx hZ hown (host := "") (Or.inl (hW 92 _ rfl)) Via.refl e0 (S_ad.ext XO0.2) (g := (mkF m 0 #[.val (.ref t), .val (.int 0), .val (.int cc)] [])) rfl (hb hby d20_0)
  refine own_of st1 ?_
  show own_go p e below s _ _ _ (T1.setTop (mkF m 3 #[.val (.ref t), .val (.int 0), .val (.int cc)] [(.int 1)]))
  have hb3_2 : ¬ ((1 : Int32) = (0 : Int32)) := by decide
  refine own_of (fun tt_ => XS.ifYes X1.here hx rfl (pc0 := 3) (pc' := 28) rfl (hb hby d20_3) rfl ((if0 _ _).trans (feq hb3_2).2) (by decide) (by decide)) ?_
  show own_go p e below s _ _ _ (T1.setTop (mkF m 28 #[.val (.ref t), .val (.int 0), .val (.int cc)] []))
  refine own_of (fun tt_ => XS.iloadN X1.here hx rfl (hb hby d20_28) rfl) ?_
  refine own_of (fun tt_ => XS.iconst X1.here hx rfl (hb hby d20_29)) ?_
  refine own_of (fun tt_ => XS.ishl X1.here hx rfl (hb hby d20_30) rfl) ?_
  show own_go p e below s _ _ _ (T1.setTop (mkF m 31 #[.val (.ref t), .val (.int 0), .val (.int cc)] [(.int 0)]))
  refine own_of (fun tt_ => XS.istoreN X1.here hx rfl (hb hby d20_31) rfl (l' := #[.val (.ref t), .val (.int 0), .val (.int cc)]) rfl) ?_
  refine own_of (fun tt_ => XS.aloadN X1.here hx rfl (hb hby d20_32) rfl rfl) ?_
  refine own_of (fun tt_ => XS.iloadN X1.here hx rfl (hb hby d20_33) rfl) ?_
  refine own_of (fun tt_ => XS.iinc X1.here hx rfl (hb hby d20_34) rfl (l' := #[.val (.ref t), .val (.int 1), .val (.int cc)]) rfl) ?_
  refine own_of (fun tt_ => XS.iloadN X1.here hx rfl (hb hby d20_37) rfl) ?_
  obtain ⟨T3, X3, e3, st3⟩ := getS2 X1 hx hZ hown (host := "") (Or.inl (hW 93 _ rfl)) Via.refl e1 (S_hi.ext XO0.2) (g := (mkF m 38 #[.val (.ref t), .val (.int 1), .val (.int cc)] [(.int cc), (.int 0), (.ref t)])) rfl (hb hby d20_38)
  refine own_of st3 ?_
  show own_go p e below s _ _ _ (T3.setTop (mkF m 41 #[.val (.ref t), .val (.int 1), .val (.int cc)] [(.int 0), (.int cc), (.int 0), (.ref t)]))
  refine own_of (fun tt_ => XS.ishr X3.here hx rfl (hb hby d20_41) rfl) ?_
  show own_go p e below s _ _ _ (T3.setTop (mkF m 42 #[.val (.ref t), .val (.int 1), .val (.int cc)] [(.int (cc >>> ((0 : Int32) &&& 31))), (.int 0), (.ref t)]))
  refine own_of (fun tt_ => XS.i2b X3.here hx rfl (hb hby d20_42) rfl) ?_
  show own_go p e below s _ _ _ (T3.setTop (mkF m 43 #[.val (.ref t), .val (.int 1), .val (.int cc)] [(.int ((cc >>> ((0 : Int32) &&& 31)).toInt8.toInt32)), (.int 0), (.ref t)]))
  obtain ⟨cl4, Ar4, q4, S4, Ng4, H4, G4⟩ := V_t
  obtain ⟨T4, h4, X4, e4, W4, st4⟩ := stB X3 hx hZ e3 Ar4 (j := (0 : Int32)) (inb_of S4 ⟨by decide, by decide⟩) (g := (mkF m 43 #[.val (.ref t), .val (.int 1), .val (.int cc)] [(.int ((cc >>> ((0 : Int32) &&& 31)).toInt8.toInt32)), (.int 0), (.ref t)])) rfl rfl (hb hby d20_43)
  have V4 : Arv Z h4 t kb .byte (4 : Int32) [(.int (nar .byte ((cc >>> ((0 : Int32) &&& 31)).toInt8.toInt32))), v1, v2, v3] (.int 0) := Arv.set Ar4 q4 S4 Ng4 H4 G4 (fits_nar_byte _) W4 0 rfl (Nat.le_of_ble_eq_true rfl)
  refine own_of st4 ?_
  have N4 := Fr.snoc X4 N0 (by omega : n0 ≤ t)
  have sz4 : h4.size = h0.size := W4.size
  have O4 : Old Z n0 h4 := XO0.wr W4 (by omega)
  have K4 : Keep h0 h4 [t] := K0.wr W4 (Or.inl (List.mem_of_getElem? (i := 0) rfl))
  show own_go p e below s _ _ _ (T4.setTop (mkF m 44 #[.val (.ref t), .val (.int 1), .val (.int cc)] []))
  refine own_of (fun tt_ => XS.aloadN X4.here hx rfl (hb hby d20_44) rfl rfl) ?_
  refine own_of (fun tt_ => XS.iloadN X4.here hx rfl (hb hby d20_45) rfl) ?_
  refine own_of (fun tt_ => XS.iloadN X4.here hx rfl (hb hby d20_46) rfl) ?_
  obtain ⟨T5, X5, e5, st5⟩ := getS2 X4 hx hZ hown (host := "") (Or.inl (hW 94 _ rfl)) Via.refl e4 (S_lo.ext O4.2) (g := (mkF m 47 #[.val (.ref t), .val (.int 1), .val (.int cc)] [(.int cc), (.int 1), (.ref t)])) rfl (hb hby d20_47)
  refine own_of st5 ?_
  show own_go p e below s _ _ _ (T5.setTop (mkF m 50 #[.val (.ref t), .val (.int 1), .val (.int cc)] [(.int 8), (.int cc), (.int 1), (.ref t)]))
  refine own_of (fun tt_ => XS.ishr X5.here hx rfl (hb hby d20_50) rfl) ?_
  show own_go p e below s _ _ _ (T5.setTop (mkF m 51 #[.val (.ref t), .val (.int 1), .val (.int cc)] [(.int (cc >>> ((8 : Int32) &&& 31))), (.int 1), (.ref t)]))
  refine own_of (fun tt_ => XS.i2b X5.here hx rfl (hb hby d20_51) rfl) ?_
  show own_go p e below s _ _ _ (T5.setTop (mkF m 52 #[.val (.ref t), .val (.int 1), .val (.int cc)] [(.int ((cc >>> ((8 : Int32) &&& 31)).toInt8.toInt32)), (.int 1), (.ref t)]))
  obtain ⟨cl6, Ar6, q6, S6, Ng6, H6, G6⟩ := V4
  obtain ⟨T6, h6, X6, e6, W6, st6⟩ := stB X5 hx hZ e5 Ar6 (j := (1 : Int32)) (inb_of S6 ⟨by decide, by decide⟩) (g := (mkF m 52 #[.val (.ref t), .val (.int 1), .val (.int cc)] [(.int ((cc >>> ((8 : Int32) &&& 31)).toInt8.toInt32)), (.int 1), (.ref t)])) rfl rfl (hb hby d20_52)
  have V6 : Arv Z h6 t kb .byte (4 : Int32) [(.int (nar .byte ((cc >>> ((0 : Int32) &&& 31)).toInt8.toInt32))), (.int (nar .byte ((cc >>> ((8 : Int32) &&& 31)).toInt8.toInt32))), v2, v3] (.int 0) := Arv.set Ar6 q6 S6 Ng6 H6 G6 (fits_nar_byte _) W6 1 rfl (Nat.le_of_ble_eq_true rfl)
  refine own_of st6 ?_
  have N6 := Fr.snoc X6 N4 (by omega : n0 ≤ t)
  have sz6 : h6.size = h4.size := W6.size
  have O6 : Old Z n0 h6 := O4.wr W6 (by omega)
  have K6 : Keep h0 h6 [t] := K4.wr W6 (Or.inl (List.mem_of_getElem? (i := 0) rfl))
  show own_go p e below s _ _ _ (T6.setTop (mkF m 53 #[.val (.ref t), .val (.int 1), .val (.int cc)] []))
  refine own_retV X6 hx hlk hret (hb hby d20_53) (by decide) (by decide) ?_
  rw [e6]
  have fin := V6
  rw [own_b0, own_b8] at fin
  exact ⟨rfl, N6, K6, fin⟩
theorem ef_rmG_2_0 (m : MethodId) (x0 : Nat) (x1 : Int32) : entryFrame m #[(.ref x0), (.int x1)] 2 = mkF m 0 #[.val (.ref x0), .val (.int x1)] [] := by first | (simp [entryFrame, mkF, argsToLocals, Value.category]; done) | rfl
def Q_rmG_2_0 (Z : State) (t : Nat) (kb : ClassId) (u0 : Int32) (u1 : Int32) (u2 : Int32) (u3 : Int32) (h0 : Heap) (n0 : Nat) (v : Option Value) (h : Heap) (L : List Loc) : Prop := v = some (.int (StrChars.pairCh u0 u1)) ∧ Fr n0 L ∧ h = h0
set_option maxRecDepth 65536 in
set_option maxHeartbeats 40000000 in
theorem rmG_2_0 (l : Launch) (Z : State) (a0 : Array Value) (hw : own_H Z a0) (ws : List Jvm.Cond) (t : Nat) (kb : ClassId) (u0 : Int32) (u1 : Int32) (u2 : Int32) (u3 : Int32) (h0 : Heap) (n0 : Nat) (XO0 : Old Z n0 h0) (S_ad : Sta Z Z.heap "java/lang/StringUTF16" "$assertionsDisabled" "Z" (.int 1)) (S_hi : Sta Z Z.heap "java/lang/StringUTF16" "HI_BYTE_SHIFT" "I" (.int 0)) (S_lo : Sta Z Z.heap "java/lang/StringUTF16" "LO_BYTE_SHIFT" "I" (.int 8)) (V_t : Arv Z h0 t kb .byte (4 : Int32) [(.int u0), (.int u1), (.int u2), (.int u3)] (.int 0)) :
    own_M l Z ym4 jdk_52_method_5_code ws 2 (some .char) (own_R 0 0 0 0) #[(.ref t), (.int 0)] h0 (Q_rmG_2_0 Z t kb u0 u1 u2 u3 h0 n0) := by
  refine own_open (plainFor_of_name pn_0) ?_
  intro p e s m below meth c s₁ hx hby hlk hret hml hown hnm hZ X0 e0
  have hW := own_hW hw
  have N0 := Fr.nil n0
  refine own_of (fun tt_ kk_ => castTop (ef_rmG_2_0 m t (0 : Int32)) kk_) ?_
  show own_go p e below s _ _ _ (s₁.setTop (mkF m 0 #[.val (.ref t), .val (.int 0)] []))
  obtain ⟨T1, X1, e1, st1⟩ := getS2 X0 hx hZ hown (host := "") (Or.inl (hW 92 _ rfl)) Via.refl e0 (S_ad.ext XO0.2) (g := (mkF m 0 #[.val (.ref t), .val (.int 0)] [])) rfl (hb hby d21_0)
  refine own_of st1 ?_
  show own_go p e below s _ _ _ (T1.setTop (mkF m 3 #[.val (.ref t), .val (.int 0)] [(.int 1)]))
  have hb3_2 : ¬ ((1 : Int32) = (0 : Int32)) := by decide
  refine own_of (fun tt_ => XS.ifYes X1.here hx rfl (pc0 := 3) (pc' := 28) rfl (hb hby d21_3) rfl ((if0 _ _).trans (feq hb3_2).2) (by decide) (by decide)) ?_
  show own_go p e below s _ _ _ (T1.setTop (mkF m 28 #[.val (.ref t), .val (.int 0)] []))
  refine own_of (fun tt_ => XS.iloadN X1.here hx rfl (hb hby d21_28) rfl) ?_
  refine own_of (fun tt_ => XS.iconst X1.here hx rfl (hb hby d21_29)) ?_
  refine own_of (fun tt_ => XS.ishl X1.here hx rfl (hb hby d21_30) rfl) ?_
  show own_go p e below s _ _ _ (T1.setTop (mkF m 31 #[.val (.ref t), .val (.int 0)] [(.int 0)]))
  refine own_of (fun tt_ => XS.istoreN X1.here hx rfl (hb hby d21_31) rfl (l' := #[.val (.ref t), .val (.int 0)]) rfl) ?_
  refine own_of (fun tt_ => XS.aloadN X1.here hx rfl (hb hby d21_32) rfl rfl) ?_
  refine own_of (fun tt_ => XS.iloadN X1.here hx rfl (hb hby d21_33) rfl) ?_
  refine own_of (fun tt_ => XS.iinc X1.here hx rfl (hb hby d21_34) rfl (l' := #[.val (.ref t), .val (.int 1)]) rfl) ?_
  obtain ⟨cl3, Ar3, q3, S3, Ng3, H3, G3⟩ := id V_t
  have hin3 : ¬ ((0 : Int32) < 0 ∨ cl3.slots.size ≤ ((0 : Int32)).toNatClampNeg) := inb_of S3 ⟨by decide, by decide⟩
  have hat3 : cl3.slots[((0 : Int32)).toNatClampNeg]? = some (.int u0) := H3 0 (by rw [S3]; decide)
  refine own_of (fun tt_ => X1.baloadBytes hx (j := (0 : Int32)) (v := (.int u0)) (by rw [e1]; exact Ar3.1) (State.isArrayOf_alike hZ.alike Ar3.2.1) Ar3.2.2 hin3 hat3 (g := (mkF m 37 #[.val (.ref t), .val (.int 1)] [(.int 0), (.ref t)])) rfl rfl (hb hby d21_37) _) ?_
  show own_go p e below s _ _ _ (T1.setTop (mkF m 38 #[.val (.ref t), .val (.int 1)] [(.int u0)]))
  refine own_of (fun tt_ => XS.sipush X1.here hx rfl (hb hby d21_38)) ?_
  refine own_of (fun tt_ => XS.iand X1.here hx rfl (hb hby d21_41) rfl) ?_
  show own_go p e below s _ _ _ (T1.setTop (mkF m 42 #[.val (.ref t), .val (.int 1)] [(.int (u0 &&& (255 : Int32)))]))
  obtain ⟨T4, X4, e4, st4⟩ := getS2 X1 hx hZ hown (host := "") (Or.inl (hW 93 _ rfl)) Via.refl e1 (S_hi.ext XO0.2) (g := (mkF m 42 #[.val (.ref t), .val (.int 1)] [(.int (u0 &&& (255 : Int32)))])) rfl (hb hby d21_42)
  refine own_of st4 ?_
  show own_go p e below s _ _ _ (T4.setTop (mkF m 45 #[.val (.ref t), .val (.int 1)] [(.int 0), (.int (u0 &&& (255 : Int32)))]))
  refine own_of (fun tt_ => XS.ishl X4.here hx rfl (hb hby d21_45) rfl) ?_
  show own_go p e below s _ _ _ (T4.setTop (mkF m 46 #[.val (.ref t), .val (.int 1)] [(.int ((u0 &&& (255 : Int32)) <<< ((0 : Int32) &&& 31)))]))
  refine own_of (fun tt_ => XS.aloadN X4.here hx rfl (hb hby d21_46) rfl rfl) ?_
  refine own_of (fun tt_ => XS.iloadN X4.here hx rfl (hb hby d21_47) rfl) ?_
  obtain ⟨cl5, Ar5, q5, S5, Ng5, H5, G5⟩ := id V_t
  have hin5 : ¬ ((1 : Int32) < 0 ∨ cl5.slots.size ≤ ((1 : Int32)).toNatClampNeg) := inb_of S5 ⟨by decide, by decide⟩
  have hat5 : cl5.slots[((1 : Int32)).toNatClampNeg]? = some (.int u1) := H5 1 (by rw [S5]; decide)
  refine own_of (fun tt_ => X4.baloadBytes hx (j := (1 : Int32)) (v := (.int u1)) (by rw [e4]; exact Ar5.1) (State.isArrayOf_alike hZ.alike Ar5.2.1) Ar5.2.2 hin5 hat5 (g := (mkF m 48 #[.val (.ref t), .val (.int 1)] [(.int 1), (.ref t), (.int ((u0 &&& (255 : Int32)) <<< ((0 : Int32) &&& 31)))])) rfl rfl (hb hby d21_48) _) ?_
  show own_go p e below s _ _ _ (T4.setTop (mkF m 49 #[.val (.ref t), .val (.int 1)] [(.int u1), (.int ((u0 &&& (255 : Int32)) <<< ((0 : Int32) &&& 31)))]))
  refine own_of (fun tt_ => XS.sipush X4.here hx rfl (hb hby d21_49)) ?_
  refine own_of (fun tt_ => XS.iand X4.here hx rfl (hb hby d21_52) rfl) ?_
  show own_go p e below s _ _ _ (T4.setTop (mkF m 53 #[.val (.ref t), .val (.int 1)] [(.int (u1 &&& (255 : Int32))), (.int ((u0 &&& (255 : Int32)) <<< ((0 : Int32) &&& 31)))]))
  obtain ⟨T6, X6, e6, st6⟩ := getS2 X4 hx hZ hown (host := "") (Or.inl (hW 94 _ rfl)) Via.refl e4 (S_lo.ext XO0.2) (g := (mkF m 53 #[.val (.ref t), .val (.int 1)] [(.int (u1 &&& (255 : Int32))), (.int ((u0 &&& (255 : Int32)) <<< ((0 : Int32) &&& 31)))])) rfl (hb hby d21_53)
  refine own_of st6 ?_
  show own_go p e below s _ _ _ (T6.setTop (mkF m 56 #[.val (.ref t), .val (.int 1)] [(.int 8), (.int (u1 &&& (255 : Int32))), (.int ((u0 &&& (255 : Int32)) <<< ((0 : Int32) &&& 31)))]))
  refine own_of (fun tt_ => XS.ishl X6.here hx rfl (hb hby d21_56) rfl) ?_
  show own_go p e below s _ _ _ (T6.setTop (mkF m 57 #[.val (.ref t), .val (.int 1)] [(.int ((u1 &&& (255 : Int32)) <<< ((8 : Int32) &&& 31))), (.int ((u0 &&& (255 : Int32)) <<< ((0 : Int32) &&& 31)))]))
  refine own_of (fun tt_ => XS.ior X6.here hx rfl (hb hby d21_57) rfl) ?_
  show own_go p e below s _ _ _ (T6.setTop (mkF m 58 #[.val (.ref t), .val (.int 1)] [(.int (((u0 &&& (255 : Int32)) <<< ((0 : Int32) &&& 31)) ||| ((u1 &&& (255 : Int32)) <<< ((8 : Int32) &&& 31))))]))
  refine own_of (fun tt_ => XS.i2c X6.here hx rfl (hb hby d21_58) rfl) ?_
  show own_go p e below s _ _ _ (T6.setTop (mkF m 59 #[.val (.ref t), .val (.int 1)] [(.int ((((u0 &&& (255 : Int32)) <<< ((0 : Int32) &&& 31)) ||| ((u1 &&& (255 : Int32)) <<< ((8 : Int32) &&& 31))).toUInt32.toUInt16.toUInt32.toInt32))]))
  refine own_ret X6 hx hlk hret (XT.narrow_c _) (Or.inl ⟨rfl, by simp, _, rfl⟩) (hb hby d21_59) (by decide) (by decide) ?_
  rw [e6]
  exact ⟨rfl, N0, rfl⟩
theorem ef_rmP_2_1 (m : MethodId) (x0 : Nat) (x1 : Int32) (x2 : Int32) : entryFrame m #[(.ref x0), (.int x1), (.int x2)] 3 = mkF m 0 #[.val (.ref x0), .val (.int x1), .val (.int x2)] [] := by first | (simp [entryFrame, mkF, argsToLocals, Value.category]; done) | rfl
def Q_rmP_2_1 (Z : State) (t : Nat) (kb : ClassId) (cc : Int32) (v0 : Value) (v1 : Value) (v2 : Value) (v3 : Value) (h0 : Heap) (n0 : Nat) (v : Option Value) (h : Heap) (L : List Loc) : Prop := v = none ∧ Fr n0 L ∧ Keep h0 h [t] ∧ Arv Z h t kb .byte (4 : Int32) [v0, v1, (.int (StrChars.lo8 cc)), (.int (StrChars.hi8 cc))] (.int 0)
set_option maxRecDepth 65536 in
set_option maxHeartbeats 40000000 in
theorem rmP_2_1 (l : Launch) (Z : State) (a0 : Array Value) (hw : own_H Z a0) (ws : List Jvm.Cond) (t : Nat) (kb : ClassId) (cc : Int32) (v0 : Value) (v1 : Value) (v2 : Value) (v3 : Value) (h0 : Heap) (n0 : Nat) (XO0 : Old Z n0 h0) (S_ad : Sta Z Z.heap "java/lang/StringUTF16" "$assertionsDisabled" "Z" (.int 1)) (S_hi : Sta Z Z.heap "java/lang/StringUTF16" "HI_BYTE_SHIFT" "I" (.int 0)) (S_lo : Sta Z Z.heap "java/lang/StringUTF16" "LO_BYTE_SHIFT" "I" (.int 8)) (g_t : n0 ≤ t) (V_t : Arv Z h0 t kb .byte (4 : Int32) [v0, v1, v2, v3] (.int 0)) :
    own_M l Z ym9 jdk_52_method_4_code ws 3 none (own_R 0 0 0 0) #[(.ref t), (.int 1), (.int cc)] h0 (Q_rmP_2_1 Z t kb cc v0 v1 v2 v3 h0 n0) := by
  refine own_open (plainFor_of_name pn_0) ?_
  intro p e s m below meth c s₁ hx hby hlk hret hml hown hnm hZ X0 e0
  have hW := own_hW hw
  have N0 := Fr.nil n0
  refine own_of (fun tt_ kk_ => castTop (ef_rmP_2_1 m t (1 : Int32) cc) kk_) ?_
  show own_go p e below s _ _ _ (s₁.setTop (mkF m 0 #[.val (.ref t), .val (.int 1), .val (.int cc)] []))
  have K0 : Keep h0 h0 [t] := Keep.refl h0 [t]
  have lt_t := own_lt V_t.lt
  obtain ⟨T1, X1, e1, st1⟩ := getS2 X0 hx hZ hown (host := "") (Or.inl (hW 92 _ rfl)) Via.refl e0 (S_ad.ext XO0.2) (g := (mkF m 0 #[.val (.ref t), .val (.int 1), .val (.int cc)] [])) rfl (hb hby d20_0)
  refine own_of st1 ?_
  show own_go p e below s _ _ _ (T1.setTop (mkF m 3 #[.val (.ref t), .val (.int 1), .val (.int cc)] [(.int 1)]))
  have hb3_2 : ¬ ((1 : Int32) = (0 : Int32)) := by decide
  refine own_of (fun tt_ => XS.ifYes X1.here hx rfl (pc0 := 3) (pc' := 28) rfl (hb hby d20_3) rfl ((if0 _ _).trans (feq hb3_2).2) (by decide) (by decide)) ?_
  show own_go p e below s _ _ _ (T1.setTop (mkF m 28 #[.val (.ref t), .val (.int 1), .val (.int cc)] []))
  refine own_of (fun tt_ => XS.iloadN X1.here hx rfl (hb hby d20_28) rfl) ?_
  refine own_of (fun tt_ => XS.iconst X1.here hx rfl (hb hby d20_29)) ?_
  refine own_of (fun tt_ => XS.ishl X1.here hx rfl (hb hby d20_30) rfl) ?_
  show own_go p e below s _ _ _ (T1.setTop (mkF m 31 #[.val (.ref t), .val (.int 1), .val (.int cc)] [(.int 2)]))
  refine own_of (fun tt_ => XS.istoreN X1.here hx rfl (hb hby d20_31) rfl (l' := #[.val (.ref t), .val (.int 2), .val (.int cc)]) rfl) ?_
  refine own_of (fun tt_ => XS.aloadN X1.here hx rfl (hb hby d20_32) rfl rfl) ?_
  refine own_of (fun tt_ => XS.iloadN X1.here hx rfl (hb hby d20_33) rfl) ?_
  refine own_of (fun tt_ => XS.iinc X1.here hx rfl (hb hby d20_34) rfl (l' := #[.val (.ref t), .val (.int 3), .val (.int cc)]) rfl) ?_
  refine own_of (fun tt_ => XS.iloadN X1.here hx rfl (hb hby d20_37) rfl) ?_
  obtain ⟨T3, X3, e3, st3⟩ := getS2 X1 hx hZ hown (host := "") (Or.inl (hW 93 _ rfl)) Via.refl e1 (S_hi.ext XO0.2) (g := (mkF m 38 #[.val (.ref t), .val (.int 3), .val (.int cc)] [(.int cc), (.int 2), (.ref t)])) rfl (hb hby d20_38)
  refine own_of st3 ?_
  show own_go p e below s _ _ _ (T3.setTop (mkF m 41 #[.val (.ref t), .val (.int 3), .val (.int cc)] [(.int 0), (.int cc), (.int 2), (.ref t)]))
  refine own_of (fun tt_ => XS.ishr X3.here hx rfl (hb hby d20_41) rfl) ?_
  show own_go p e below s _ _ _ (T3.setTop (mkF m 42 #[.val (.ref t), .val (.int 3), .val (.int cc)] [(.int (cc >>> ((0 : Int32) &&& 31))), (.int 2), (.ref t)]))
  refine own_of (fun tt_ => XS.i2b X3.here hx rfl (hb hby d20_42) rfl) ?_
  show own_go p e below s _ _ _ (T3.setTop (mkF m 43 #[.val (.ref t), .val (.int 3), .val (.int cc)] [(.int ((cc >>> ((0 : Int32) &&& 31)).toInt8.toInt32)), (.int 2), (.ref t)]))
  obtain ⟨cl4, Ar4, q4, S4, Ng4, H4, G4⟩ := V_t
  obtain ⟨T4, h4, X4, e4, W4, st4⟩ := stB X3 hx hZ e3 Ar4 (j := (2 : Int32)) (inb_of S4 ⟨by decide, by decide⟩) (g := (mkF m 43 #[.val (.ref t), .val (.int 3), .val (.int cc)] [(.int ((cc >>> ((0 : Int32) &&& 31)).toInt8.toInt32)), (.int 2), (.ref t)])) rfl rfl (hb hby d20_43)
  have V4 : Arv Z h4 t kb .byte (4 : Int32) [v0, v1, (.int (nar .byte ((cc >>> ((0 : Int32) &&& 31)).toInt8.toInt32))), v3] (.int 0) := Arv.set Ar4 q4 S4 Ng4 H4 G4 (fits_nar_byte _) W4 2 rfl (Nat.le_of_ble_eq_true rfl)
  refine own_of st4 ?_
  have N4 := Fr.snoc X4 N0 (by omega : n0 ≤ t)
  have sz4 : h4.size = h0.size := W4.size
  have O4 : Old Z n0 h4 := XO0.wr W4 (by omega)
  have K4 : Keep h0 h4 [t] := K0.wr W4 (Or.inl (List.mem_of_getElem? (i := 0) rfl))
  show own_go p e below s _ _ _ (T4.setTop (mkF m 44 #[.val (.ref t), .val (.int 3), .val (.int cc)] []))
  refine own_of (fun tt_ => XS.aloadN X4.here hx rfl (hb hby d20_44) rfl rfl) ?_
  refine own_of (fun tt_ => XS.iloadN X4.here hx rfl (hb hby d20_45) rfl) ?_
  refine own_of (fun tt_ => XS.iloadN X4.here hx rfl (hb hby d20_46) rfl) ?_
  obtain ⟨T5, X5, e5, st5⟩ := getS2 X4 hx hZ hown (host := "") (Or.inl (hW 94 _ rfl)) Via.refl e4 (S_lo.ext O4.2) (g := (mkF m 47 #[.val (.ref t), .val (.int 3), .val (.int cc)] [(.int cc), (.int 3), (.ref t)])) rfl (hb hby d20_47)
  refine own_of st5 ?_
  show own_go p e below s _ _ _ (T5.setTop (mkF m 50 #[.val (.ref t), .val (.int 3), .val (.int cc)] [(.int 8), (.int cc), (.int 3), (.ref t)]))
  refine own_of (fun tt_ => XS.ishr X5.here hx rfl (hb hby d20_50) rfl) ?_
  show own_go p e below s _ _ _ (T5.setTop (mkF m 51 #[.val (.ref t), .val (.int 3), .val (.int cc)] [(.int (cc >>> ((8 : Int32) &&& 31))), (.int 3), (.ref t)]))
  refine own_of (fun tt_ => XS.i2b X5.here hx rfl (hb hby d20_51) rfl) ?_
  show own_go p e below s _ _ _ (T5.setTop (mkF m 52 #[.val (.ref t), .val (.int 3), .val (.int cc)] [(.int ((cc >>> ((8 : Int32) &&& 31)).toInt8.toInt32)), (.int 3), (.ref t)]))
  obtain ⟨cl6, Ar6, q6, S6, Ng6, H6, G6⟩ := V4
  obtain ⟨T6, h6, X6, e6, W6, st6⟩ := stB X5 hx hZ e5 Ar6 (j := (3 : Int32)) (inb_of S6 ⟨by decide, by decide⟩) (g := (mkF m 52 #[.val (.ref t), .val (.int 3), .val (.int cc)] [(.int ((cc >>> ((8 : Int32) &&& 31)).toInt8.toInt32)), (.int 3), (.ref t)])) rfl rfl (hb hby d20_52)
  have V6 : Arv Z h6 t kb .byte (4 : Int32) [v0, v1, (.int (nar .byte ((cc >>> ((0 : Int32) &&& 31)).toInt8.toInt32))), (.int (nar .byte ((cc >>> ((8 : Int32) &&& 31)).toInt8.toInt32)))] (.int 0) := Arv.set Ar6 q6 S6 Ng6 H6 G6 (fits_nar_byte _) W6 3 rfl (Nat.le_of_ble_eq_true rfl)
  refine own_of st6 ?_
  have N6 := Fr.snoc X6 N4 (by omega : n0 ≤ t)
  have sz6 : h6.size = h4.size := W6.size
  have O6 : Old Z n0 h6 := O4.wr W6 (by omega)
  have K6 : Keep h0 h6 [t] := K4.wr W6 (Or.inl (List.mem_of_getElem? (i := 0) rfl))
  show own_go p e below s _ _ _ (T6.setTop (mkF m 53 #[.val (.ref t), .val (.int 3), .val (.int cc)] []))
  refine own_retV X6 hx hlk hret (hb hby d20_53) (by decide) (by decide) ?_
  rw [e6]
  have fin := V6
  rw [own_b0, own_b8] at fin
  exact ⟨rfl, N6, K6, fin⟩
theorem ef_rmG_2_1 (m : MethodId) (x0 : Nat) (x1 : Int32) : entryFrame m #[(.ref x0), (.int x1)] 2 = mkF m 0 #[.val (.ref x0), .val (.int x1)] [] := by first | (simp [entryFrame, mkF, argsToLocals, Value.category]; done) | rfl
def Q_rmG_2_1 (Z : State) (t : Nat) (kb : ClassId) (u0 : Int32) (u1 : Int32) (u2 : Int32) (u3 : Int32) (h0 : Heap) (n0 : Nat) (v : Option Value) (h : Heap) (L : List Loc) : Prop := v = some (.int (StrChars.pairCh u2 u3)) ∧ Fr n0 L ∧ h = h0
set_option maxRecDepth 65536 in
set_option maxHeartbeats 40000000 in
theorem rmG_2_1 (l : Launch) (Z : State) (a0 : Array Value) (hw : own_H Z a0) (ws : List Jvm.Cond) (t : Nat) (kb : ClassId) (u0 : Int32) (u1 : Int32) (u2 : Int32) (u3 : Int32) (h0 : Heap) (n0 : Nat) (XO0 : Old Z n0 h0) (S_ad : Sta Z Z.heap "java/lang/StringUTF16" "$assertionsDisabled" "Z" (.int 1)) (S_hi : Sta Z Z.heap "java/lang/StringUTF16" "HI_BYTE_SHIFT" "I" (.int 0)) (S_lo : Sta Z Z.heap "java/lang/StringUTF16" "LO_BYTE_SHIFT" "I" (.int 8)) (V_t : Arv Z h0 t kb .byte (4 : Int32) [(.int u0), (.int u1), (.int u2), (.int u3)] (.int 0)) :
    own_M l Z ym4 jdk_52_method_5_code ws 2 (some .char) (own_R 0 0 0 0) #[(.ref t), (.int 1)] h0 (Q_rmG_2_1 Z t kb u0 u1 u2 u3 h0 n0) := by
  refine own_open (plainFor_of_name pn_0) ?_
  intro p e s m below meth c s₁ hx hby hlk hret hml hown hnm hZ X0 e0
  have hW := own_hW hw
  have N0 := Fr.nil n0
  refine own_of (fun tt_ kk_ => castTop (ef_rmG_2_1 m t (1 : Int32)) kk_) ?_
  show own_go p e below s _ _ _ (s₁.setTop (mkF m 0 #[.val (.ref t), .val (.int 1)] []))
  obtain ⟨T1, X1, e1, st1⟩ := getS2 X0 hx hZ hown (host := "") (Or.inl (hW 92 _ rfl)) Via.refl e0 (S_ad.ext XO0.2) (g := (mkF m 0 #[.val (.ref t), .val (.int 1)] [])) rfl (hb hby d21_0)
  refine own_of st1 ?_
  show own_go p e below s _ _ _ (T1.setTop (mkF m 3 #[.val (.ref t), .val (.int 1)] [(.int 1)]))
  have hb3_2 : ¬ ((1 : Int32) = (0 : Int32)) := by decide
  refine own_of (fun tt_ => XS.ifYes X1.here hx rfl (pc0 := 3) (pc' := 28) rfl (hb hby d21_3) rfl ((if0 _ _).trans (feq hb3_2).2) (by decide) (by decide)) ?_
  show own_go p e below s _ _ _ (T1.setTop (mkF m 28 #[.val (.ref t), .val (.int 1)] []))
  refine own_of (fun tt_ => XS.iloadN X1.here hx rfl (hb hby d21_28) rfl) ?_
  refine own_of (fun tt_ => XS.iconst X1.here hx rfl (hb hby d21_29)) ?_
  refine own_of (fun tt_ => XS.ishl X1.here hx rfl (hb hby d21_30) rfl) ?_
  show own_go p e below s _ _ _ (T1.setTop (mkF m 31 #[.val (.ref t), .val (.int 1)] [(.int 2)]))
  refine own_of (fun tt_ => XS.istoreN X1.here hx rfl (hb hby d21_31) rfl (l' := #[.val (.ref t), .val (.int 2)]) rfl) ?_
  refine own_of (fun tt_ => XS.aloadN X1.here hx rfl (hb hby d21_32) rfl rfl) ?_
  refine own_of (fun tt_ => XS.iloadN X1.here hx rfl (hb hby d21_33) rfl) ?_
  refine own_of (fun tt_ => XS.iinc X1.here hx rfl (hb hby d21_34) rfl (l' := #[.val (.ref t), .val (.int 3)]) rfl) ?_
  obtain ⟨cl3, Ar3, q3, S3, Ng3, H3, G3⟩ := id V_t
  have hin3 : ¬ ((2 : Int32) < 0 ∨ cl3.slots.size ≤ ((2 : Int32)).toNatClampNeg) := inb_of S3 ⟨by decide, by decide⟩
  have hat3 : cl3.slots[((2 : Int32)).toNatClampNeg]? = some (.int u2) := H3 2 (by rw [S3]; decide)
  refine own_of (fun tt_ => X1.baloadBytes hx (j := (2 : Int32)) (v := (.int u2)) (by rw [e1]; exact Ar3.1) (State.isArrayOf_alike hZ.alike Ar3.2.1) Ar3.2.2 hin3 hat3 (g := (mkF m 37 #[.val (.ref t), .val (.int 3)] [(.int 2), (.ref t)])) rfl rfl (hb hby d21_37) _) ?_
  show own_go p e below s _ _ _ (T1.setTop (mkF m 38 #[.val (.ref t), .val (.int 3)] [(.int u2)]))
  refine own_of (fun tt_ => XS.sipush X1.here hx rfl (hb hby d21_38)) ?_
  refine own_of (fun tt_ => XS.iand X1.here hx rfl (hb hby d21_41) rfl) ?_
  show own_go p e below s _ _ _ (T1.setTop (mkF m 42 #[.val (.ref t), .val (.int 3)] [(.int (u2 &&& (255 : Int32)))]))
  obtain ⟨T4, X4, e4, st4⟩ := getS2 X1 hx hZ hown (host := "") (Or.inl (hW 93 _ rfl)) Via.refl e1 (S_hi.ext XO0.2) (g := (mkF m 42 #[.val (.ref t), .val (.int 3)] [(.int (u2 &&& (255 : Int32)))])) rfl (hb hby d21_42)
  refine own_of st4 ?_
  show own_go p e below s _ _ _ (T4.setTop (mkF m 45 #[.val (.ref t), .val (.int 3)] [(.int 0), (.int (u2 &&& (255 : Int32)))]))
  refine own_of (fun tt_ => XS.ishl X4.here hx rfl (hb hby d21_45) rfl) ?_
  show own_go p e below s _ _ _ (T4.setTop (mkF m 46 #[.val (.ref t), .val (.int 3)] [(.int ((u2 &&& (255 : Int32)) <<< ((0 : Int32) &&& 31)))]))
  refine own_of (fun tt_ => XS.aloadN X4.here hx rfl (hb hby d21_46) rfl rfl) ?_
  refine own_of (fun tt_ => XS.iloadN X4.here hx rfl (hb hby d21_47) rfl) ?_
  obtain ⟨cl5, Ar5, q5, S5, Ng5, H5, G5⟩ := id V_t
  have hin5 : ¬ ((3 : Int32) < 0 ∨ cl5.slots.size ≤ ((3 : Int32)).toNatClampNeg) := inb_of S5 ⟨by decide, by decide⟩
  have hat5 : cl5.slots[((3 : Int32)).toNatClampNeg]? = some (.int u3) := H5 3 (by rw [S5]; decide)
  refine own_of (fun tt_ => X4.baloadBytes hx (j := (3 : Int32)) (v := (.int u3)) (by rw [e4]; exact Ar5.1) (State.isArrayOf_alike hZ.alike Ar5.2.1) Ar5.2.2 hin5 hat5 (g := (mkF m 48 #[.val (.ref t), .val (.int 3)] [(.int 3), (.ref t), (.int ((u2 &&& (255 : Int32)) <<< ((0 : Int32) &&& 31)))])) rfl rfl (hb hby d21_48) _) ?_
  show own_go p e below s _ _ _ (T4.setTop (mkF m 49 #[.val (.ref t), .val (.int 3)] [(.int u3), (.int ((u2 &&& (255 : Int32)) <<< ((0 : Int32) &&& 31)))]))
  refine own_of (fun tt_ => XS.sipush X4.here hx rfl (hb hby d21_49)) ?_
  refine own_of (fun tt_ => XS.iand X4.here hx rfl (hb hby d21_52) rfl) ?_
  show own_go p e below s _ _ _ (T4.setTop (mkF m 53 #[.val (.ref t), .val (.int 3)] [(.int (u3 &&& (255 : Int32))), (.int ((u2 &&& (255 : Int32)) <<< ((0 : Int32) &&& 31)))]))
  obtain ⟨T6, X6, e6, st6⟩ := getS2 X4 hx hZ hown (host := "") (Or.inl (hW 94 _ rfl)) Via.refl e4 (S_lo.ext XO0.2) (g := (mkF m 53 #[.val (.ref t), .val (.int 3)] [(.int (u3 &&& (255 : Int32))), (.int ((u2 &&& (255 : Int32)) <<< ((0 : Int32) &&& 31)))])) rfl (hb hby d21_53)
  refine own_of st6 ?_
  show own_go p e below s _ _ _ (T6.setTop (mkF m 56 #[.val (.ref t), .val (.int 3)] [(.int 8), (.int (u3 &&& (255 : Int32))), (.int ((u2 &&& (255 : Int32)) <<< ((0 : Int32) &&& 31)))]))
  refine own_of (fun tt_ => XS.ishl X6.here hx rfl (hb hby d21_56) rfl) ?_
  show own_go p e below s _ _ _ (T6.setTop (mkF m 57 #[.val (.ref t), .val (.int 3)] [(.int ((u3 &&& (255 : Int32)) <<< ((8 : Int32) &&& 31))), (.int ((u2 &&& (255 : Int32)) <<< ((0 : Int32) &&& 31)))]))
  refine own_of (fun tt_ => XS.ior X6.here hx rfl (hb hby d21_57) rfl) ?_
  show own_go p e below s _ _ _ (T6.setTop (mkF m 58 #[.val (.ref t), .val (.int 3)] [(.int (((u2 &&& (255 : Int32)) <<< ((0 : Int32) &&& 31)) ||| ((u3 &&& (255 : Int32)) <<< ((8 : Int32) &&& 31))))]))
  refine own_of (fun tt_ => XS.i2c X6.here hx rfl (hb hby d21_58) rfl) ?_
  show own_go p e below s _ _ _ (T6.setTop (mkF m 59 #[.val (.ref t), .val (.int 3)] [(.int ((((u2 &&& (255 : Int32)) <<< ((0 : Int32) &&& 31)) ||| ((u3 &&& (255 : Int32)) <<< ((8 : Int32) &&& 31))).toUInt32.toUInt16.toUInt32.toInt32))]))
  refine own_ret X6 hx hlk hret (XT.narrow_c _) (Or.inl ⟨rfl, by simp, _, rfl⟩) (hb hby d21_59) (by decide) (by decide) ?_
  rw [e6]
  exact ⟨rfl, N0, rfl⟩
theorem ef_rmP_3_0 (m : MethodId) (x0 : Nat) (x1 : Int32) (x2 : Int32) : entryFrame m #[(.ref x0), (.int x1), (.int x2)] 3 = mkF m 0 #[.val (.ref x0), .val (.int x1), .val (.int x2)] [] := by first | (simp [entryFrame, mkF, argsToLocals, Value.category]; done) | rfl
def Q_rmP_3_0 (Z : State) (t : Nat) (kb : ClassId) (cc : Int32) (v0 : Value) (v1 : Value) (v2 : Value) (v3 : Value) (v4 : Value) (v5 : Value) (h0 : Heap) (n0 : Nat) (v : Option Value) (h : Heap) (L : List Loc) : Prop := v = none ∧ Fr n0 L ∧ Keep h0 h [t] ∧ Arv Z h t kb .byte (6 : Int32) [(.int (StrChars.lo8 cc)), (.int (StrChars.hi8 cc)), v2, v3, v4, v5] (.int 0)
set_option maxRecDepth 65536 in
set_option maxHeartbeats 40000000 in
theorem rmP_3_0 (l : Launch) (Z : State) (a0 : Array Value) (hw : own_H Z a0) (ws : List Jvm.Cond) (t : Nat) (kb : ClassId) (cc : Int32) (v0 : Value) (v1 : Value) (v2 : Value) (v3 : Value) (v4 : Value) (v5 : Value) (h0 : Heap) (n0 : Nat) (XO0 : Old Z n0 h0) (S_ad : Sta Z Z.heap "java/lang/StringUTF16" "$assertionsDisabled" "Z" (.int 1)) (S_hi : Sta Z Z.heap "java/lang/StringUTF16" "HI_BYTE_SHIFT" "I" (.int 0)) (S_lo : Sta Z Z.heap "java/lang/StringUTF16" "LO_BYTE_SHIFT" "I" (.int 8)) (g_t : n0 ≤ t) (V_t : Arv Z h0 t kb .byte (6 : Int32) [v0, v1, v2, v3, v4, v5] (.int 0)) :
    own_M l Z ym9 jdk_52_method_4_code ws 3 none (own_R 0 0 0 0) #[(.ref t), (.int 0), (.int cc)] h0 (Q_rmP_3_0 Z t kb cc v0 v1 v2 v3 v4 v5 h0 n0) := by
  refine own_open (plainFor_of_name pn_0) ?_
  intro p e s m below meth c s₁ hx hby hlk hret hml hown hnm hZ X0 e0
  have hW := own_hW hw
  have N0 := Fr.nil n0
  refine own_of (fun tt_ kk_ => castTop (ef_rmP_3_0 m t (0 : Int32) cc) kk_) ?_
  show own_go p e below s _ _ _ (s₁.setTop (mkF m 0 #[.val (.ref t), .val (.int 0), .val (.int cc)] []))
  have K0 : Keep h0 h0 [t] := Keep.refl h0 [t]
  have lt_t := own_lt V_t.lt
  obtain ⟨T1, X1, e1, st1⟩ := getS2 X0 hx hZ hown (host := "") (Or.inl (hW 92 _ rfl)) Via.refl e0 (S_ad.ext XO0.2) (g := (mkF m 0 #[.val (.ref t), .val (.int 0), .val (.int cc)] [])) rfl (hb hby d20_0)
  refine own_of st1 ?_
  show own_go p e below s _ _ _ (T1.setTop (mkF m 3 #[.val (.ref t), .val (.int 0), .val (.int cc)] [(.int 1)]))
  have hb3_2 : ¬ ((1 : Int32) = (0 : Int32)) := by decide
  refine own_of (fun tt_ => XS.ifYes X1.here hx rfl (pc0 := 3) (pc' := 28) rfl (hb hby d20_3) rfl ((if0 _ _).trans (feq hb3_2).2) (by decide) (by decide)) ?_
  show own_go p e below s _ _ _ (T1.setTop (mkF m 28 #[.val (.ref t), .val (.int 0), .val (.int cc)] []))
  refine own_of (fun tt_ => XS.iloadN X1.here hx rfl (hb hby d20_28) rfl) ?_
  refine own_of (fun tt_ => XS.iconst X1.here hx rfl (hb hby d20_29)) ?_
  refine own_of (fun tt_ => XS.ishl X1.here hx rfl (hb hby d20_30) rfl) ?_
  show own_go p e below s _ _ _ (T1.setTop (mkF m 31 #[.val (.ref t), .val (.int 0), .val (.int cc)] [(.int 0)]))
  refine own_of (fun tt_ => XS.istoreN X1.here hx rfl (hb hby d20_31) rfl (l' := #[.val (.ref t), .val (.int 0), .val (.int cc)]) rfl) ?_
  refine own_of (fun tt_ => XS.aloadN X1.here hx rfl (hb hby d20_32) rfl rfl) ?_
  refine own_of (fun tt_ => XS.iloadN X1.here hx rfl (hb hby d20_33) rfl) ?_
  refine own_of (fun tt_ => XS.iinc X1.here hx rfl (hb hby d20_34) rfl (l' := #[.val (.ref t), .val (.int 1), .val (.int cc)]) rfl) ?_
  refine own_of (fun tt_ => XS.iloadN X1.here hx rfl (hb hby d20_37) rfl) ?_
  obtain ⟨T3, X3, e3, st3⟩ := getS2 X1 hx hZ hown (host := "") (Or.inl (hW 93 _ rfl)) Via.refl e1 (S_hi.ext XO0.2) (g := (mkF m 38 #[.val (.ref t), .val (.int 1), .val (.int cc)] [(.int cc), (.int 0), (.ref t)])) rfl (hb hby d20_38)
  refine own_of st3 ?_
  show own_go p e below s _ _ _ (T3.setTop (mkF m 41 #[.val (.ref t), .val (.int 1), .val (.int cc)] [(.int 0), (.int cc), (.int 0), (.ref t)]))
  refine own_of (fun tt_ => XS.ishr X3.here hx rfl (hb hby d20_41) rfl) ?_
  show own_go p e below s _ _ _ (T3.setTop (mkF m 42 #[.val (.ref t), .val (.int 1), .val (.int cc)] [(.int (cc >>> ((0 : Int32) &&& 31))), (.int 0), (.ref t)]))
  refine own_of (fun tt_ => XS.i2b X3.here hx rfl (hb hby d20_42) rfl) ?_
  show own_go p e below s _ _ _ (T3.setTop (mkF m 43 #[.val (.ref t), .val (.int 1), .val (.int cc)] [(.int ((cc >>> ((0 : Int32) &&& 31)).toInt8.toInt32)), (.int 0), (.ref t)]))
  obtain ⟨cl4, Ar4, q4, S4, Ng4, H4, G4⟩ := V_t
  obtain ⟨T4, h4, X4, e4, W4, st4⟩ := stB X3 hx hZ e3 Ar4 (j := (0 : Int32)) (inb_of S4 ⟨by decide, by decide⟩) (g := (mkF m 43 #[.val (.ref t), .val (.int 1), .val (.int cc)] [(.int ((cc >>> ((0 : Int32) &&& 31)).toInt8.toInt32)), (.int 0), (.ref t)])) rfl rfl (hb hby d20_43)
  have V4 : Arv Z h4 t kb .byte (6 : Int32) [(.int (nar .byte ((cc >>> ((0 : Int32) &&& 31)).toInt8.toInt32))), v1, v2, v3, v4, v5] (.int 0) := Arv.set Ar4 q4 S4 Ng4 H4 G4 (fits_nar_byte _) W4 0 rfl (Nat.le_of_ble_eq_true rfl)
  refine own_of st4 ?_
  have N4 := Fr.snoc X4 N0 (by omega : n0 ≤ t)
  have sz4 : h4.size = h0.size := W4.size
  have O4 : Old Z n0 h4 := XO0.wr W4 (by omega)
  have K4 : Keep h0 h4 [t] := K0.wr W4 (Or.inl (List.mem_of_getElem? (i := 0) rfl))
  show own_go p e below s _ _ _ (T4.setTop (mkF m 44 #[.val (.ref t), .val (.int 1), .val (.int cc)] []))
  refine own_of (fun tt_ => XS.aloadN X4.here hx rfl (hb hby d20_44) rfl rfl) ?_
  refine own_of (fun tt_ => XS.iloadN X4.here hx rfl (hb hby d20_45) rfl) ?_
  refine own_of (fun tt_ => XS.iloadN X4.here hx rfl (hb hby d20_46) rfl) ?_
  obtain ⟨T5, X5, e5, st5⟩ := getS2 X4 hx hZ hown (host := "") (Or.inl (hW 94 _ rfl)) Via.refl e4 (S_lo.ext O4.2) (g := (mkF m 47 #[.val (.ref t), .val (.int 1), .val (.int cc)] [(.int cc), (.int 1), (.ref t)])) rfl (hb hby d20_47)
  refine own_of st5 ?_
  show own_go p e below s _ _ _ (T5.setTop (mkF m 50 #[.val (.ref t), .val (.int 1), .val (.int cc)] [(.int 8), (.int cc), (.int 1), (.ref t)]))
  refine own_of (fun tt_ => XS.ishr X5.here hx rfl (hb hby d20_50) rfl) ?_
  show own_go p e below s _ _ _ (T5.setTop (mkF m 51 #[.val (.ref t), .val (.int 1), .val (.int cc)] [(.int (cc >>> ((8 : Int32) &&& 31))), (.int 1), (.ref t)]))
  refine own_of (fun tt_ => XS.i2b X5.here hx rfl (hb hby d20_51) rfl) ?_
  show own_go p e below s _ _ _ (T5.setTop (mkF m 52 #[.val (.ref t), .val (.int 1), .val (.int cc)] [(.int ((cc >>> ((8 : Int32) &&& 31)).toInt8.toInt32)), (.int 1), (.ref t)]))
  obtain ⟨cl6, Ar6, q6, S6, Ng6, H6, G6⟩ := V4
  obtain ⟨T6, h6, X6, e6, W6, st6⟩ := stB X5 hx hZ e5 Ar6 (j := (1 : Int32)) (inb_of S6 ⟨by decide, by decide⟩) (g := (mkF m 52 #[.val (.ref t), .val (.int 1), .val (.int cc)] [(.int ((cc >>> ((8 : Int32) &&& 31)).toInt8.toInt32)), (.int 1), (.ref t)])) rfl rfl (hb hby d20_52)
  have V6 : Arv Z h6 t kb .byte (6 : Int32) [(.int (nar .byte ((cc >>> ((0 : Int32) &&& 31)).toInt8.toInt32))), (.int (nar .byte ((cc >>> ((8 : Int32) &&& 31)).toInt8.toInt32))), v2, v3, v4, v5] (.int 0) := Arv.set Ar6 q6 S6 Ng6 H6 G6 (fits_nar_byte _) W6 1 rfl (Nat.le_of_ble_eq_true rfl)
  refine own_of st6 ?_
  have N6 := Fr.snoc X6 N4 (by omega : n0 ≤ t)
  have sz6 : h6.size = h4.size := W6.size
  have O6 : Old Z n0 h6 := O4.wr W6 (by omega)
  have K6 : Keep h0 h6 [t] := K4.wr W6 (Or.inl (List.mem_of_getElem? (i := 0) rfl))
  show own_go p e below s _ _ _ (T6.setTop (mkF m 53 #[.val (.ref t), .val (.int 1), .val (.int cc)] []))
  refine own_retV X6 hx hlk hret (hb hby d20_53) (by decide) (by decide) ?_
  rw [e6]
  have fin := V6
  rw [own_b0, own_b8] at fin
  exact ⟨rfl, N6, K6, fin⟩
theorem ef_rmG_3_0 (m : MethodId) (x0 : Nat) (x1 : Int32) : entryFrame m #[(.ref x0), (.int x1)] 2 = mkF m 0 #[.val (.ref x0), .val (.int x1)] [] := by first | (simp [entryFrame, mkF, argsToLocals, Value.category]; done) | rfl
def Q_rmG_3_0 (Z : State) (t : Nat) (kb : ClassId) (u0 : Int32) (u1 : Int32) (u2 : Int32) (u3 : Int32) (u4 : Int32) (u5 : Int32) (h0 : Heap) (n0 : Nat) (v : Option Value) (h : Heap) (L : List Loc) : Prop := v = some (.int (StrChars.pairCh u0 u1)) ∧ Fr n0 L ∧ h = h0
set_option maxRecDepth 65536 in
set_option maxHeartbeats 40000000 in
theorem rmG_3_0 (l : Launch) (Z : State) (a0 : Array Value) (hw : own_H Z a0) (ws : List Jvm.Cond) (t : Nat) (kb : ClassId) (u0 : Int32) (u1 : Int32) (u2 : Int32) (u3 : Int32) (u4 : Int32) (u5 : Int32) (h0 : Heap) (n0 : Nat) (XO0 : Old Z n0 h0) (S_ad : Sta Z Z.heap "java/lang/StringUTF16" "$assertionsDisabled" "Z" (.int 1)) (S_hi : Sta Z Z.heap "java/lang/StringUTF16" "HI_BYTE_SHIFT" "I" (.int 0)) (S_lo : Sta Z Z.heap "java/lang/StringUTF16" "LO_BYTE_SHIFT" "I" (.int 8)) (V_t : Arv Z h0 t kb .byte (6 : Int32) [(.int u0), (.int u1), (.int u2), (.int u3), (.int u4), (.int u5)] (.int 0)) :
    own_M l Z ym4 jdk_52_method_5_code ws 2 (some .char) (own_R 0 0 0 0) #[(.ref t), (.int 0)] h0 (Q_rmG_3_0 Z t kb u0 u1 u2 u3 u4 u5 h0 n0) := by
  refine own_open (plainFor_of_name pn_0) ?_
  intro p e s m below meth c s₁ hx hby hlk hret hml hown hnm hZ X0 e0
  have hW := own_hW hw
  have N0 := Fr.nil n0
  refine own_of (fun tt_ kk_ => castTop (ef_rmG_3_0 m t (0 : Int32)) kk_) ?_
  show own_go p e below s _ _ _ (s₁.setTop (mkF m 0 #[.val (.ref t), .val (.int 0)] []))
  obtain ⟨T1, X1, e1, st1⟩ := getS2 X0 hx hZ hown (host := "") (Or.inl (hW 92 _ rfl)) Via.refl e0 (S_ad.ext XO0.2) (g := (mkF m 0 #[.val (.ref t), .val (.int 0)] [])) rfl (hb hby d21_0)
  refine own_of st1 ?_
  show own_go p e below s _ _ _ (T1.setTop (mkF m 3 #[.val (.ref t), .val (.int 0)] [(.int 1)]))
  have hb3_2 : ¬ ((1 : Int32) = (0 : Int32)) := by decide
  refine own_of (fun tt_ => XS.ifYes X1.here hx rfl (pc0 := 3) (pc' := 28) rfl (hb hby d21_3) rfl ((if0 _ _).trans (feq hb3_2).2) (by decide) (by decide)) ?_
  show own_go p e below s _ _ _ (T1.setTop (mkF m 28 #[.val (.ref t), .val (.int 0)] []))
  refine own_of (fun tt_ => XS.iloadN X1.here hx rfl (hb hby d21_28) rfl) ?_
  refine own_of (fun tt_ => XS.iconst X1.here hx rfl (hb hby d21_29)) ?_
  refine own_of (fun tt_ => XS.ishl X1.here hx rfl (hb hby d21_30) rfl) ?_
  show own_go p e below s _ _ _ (T1.setTop (mkF m 31 #[.val (.ref t), .val (.int 0)] [(.int 0)]))
  refine own_of (fun tt_ => XS.istoreN X1.here hx rfl (hb hby d21_31) rfl (l' := #[.val (.ref t), .val (.int 0)]) rfl) ?_
  refine own_of (fun tt_ => XS.aloadN X1.here hx rfl (hb hby d21_32) rfl rfl) ?_
  refine own_of (fun tt_ => XS.iloadN X1.here hx rfl (hb hby d21_33) rfl) ?_
  refine own_of (fun tt_ => XS.iinc X1.here hx rfl (hb hby d21_34) rfl (l' := #[.val (.ref t), .val (.int 1)]) rfl) ?_
  obtain ⟨cl3, Ar3, q3, S3, Ng3, H3, G3⟩ := id V_t
  have hin3 : ¬ ((0 : Int32) < 0 ∨ cl3.slots.size ≤ ((0 : Int32)).toNatClampNeg) := inb_of S3 ⟨by decide, by decide⟩
  have hat3 : cl3.slots[((0 : Int32)).toNatClampNeg]? = some (.int u0) := H3 0 (by rw [S3]; decide)
  refine own_of (fun tt_ => X1.baloadBytes hx (j := (0 : Int32)) (v := (.int u0)) (by rw [e1]; exact Ar3.1) (State.isArrayOf_alike hZ.alike Ar3.2.1) Ar3.2.2 hin3 hat3 (g := (mkF m 37 #[.val (.ref t), .val (.int 1)] [(.int 0), (.ref t)])) rfl rfl (hb hby d21_37) _) ?_
  show own_go p e below s _ _ _ (T1.setTop (mkF m 38 #[.val (.ref t), .val (.int 1)] [(.int u0)]))
  refine own_of (fun tt_ => XS.sipush X1.here hx rfl (hb hby d21_38)) ?_
  refine own_of (fun tt_ => XS.iand X1.here hx rfl (hb hby d21_41) rfl) ?_
  show own_go p e below s _ _ _ (T1.setTop (mkF m 42 #[.val (.ref t), .val (.int 1)] [(.int (u0 &&& (255 : Int32)))]))
  obtain ⟨T4, X4, e4, st4⟩ := getS2 X1 hx hZ hown (host := "") (Or.inl (hW 93 _ rfl)) Via.refl e1 (S_hi.ext XO0.2) (g := (mkF m 42 #[.val (.ref t), .val (.int 1)] [(.int (u0 &&& (255 : Int32)))])) rfl (hb hby d21_42)
  refine own_of st4 ?_
  show own_go p e below s _ _ _ (T4.setTop (mkF m 45 #[.val (.ref t), .val (.int 1)] [(.int 0), (.int (u0 &&& (255 : Int32)))]))
  refine own_of (fun tt_ => XS.ishl X4.here hx rfl (hb hby d21_45) rfl) ?_
  show own_go p e below s _ _ _ (T4.setTop (mkF m 46 #[.val (.ref t), .val (.int 1)] [(.int ((u0 &&& (255 : Int32)) <<< ((0 : Int32) &&& 31)))]))
  refine own_of (fun tt_ => XS.aloadN X4.here hx rfl (hb hby d21_46) rfl rfl) ?_
  refine own_of (fun tt_ => XS.iloadN X4.here hx rfl (hb hby d21_47) rfl) ?_
  obtain ⟨cl5, Ar5, q5, S5, Ng5, H5, G5⟩ := id V_t
  have hin5 : ¬ ((1 : Int32) < 0 ∨ cl5.slots.size ≤ ((1 : Int32)).toNatClampNeg) := inb_of S5 ⟨by decide, by decide⟩
  have hat5 : cl5.slots[((1 : Int32)).toNatClampNeg]? = some (.int u1) := H5 1 (by rw [S5]; decide)
  refine own_of (fun tt_ => X4.baloadBytes hx (j := (1 : Int32)) (v := (.int u1)) (by rw [e4]; exact Ar5.1) (State.isArrayOf_alike hZ.alike Ar5.2.1) Ar5.2.2 hin5 hat5 (g := (mkF m 48 #[.val (.ref t), .val (.int 1)] [(.int 1), (.ref t), (.int ((u0 &&& (255 : Int32)) <<< ((0 : Int32) &&& 31)))])) rfl rfl (hb hby d21_48) _) ?_
  show own_go p e below s _ _ _ (T4.setTop (mkF m 49 #[.val (.ref t), .val (.int 1)] [(.int u1), (.int ((u0 &&& (255 : Int32)) <<< ((0 : Int32) &&& 31)))]))
  refine own_of (fun tt_ => XS.sipush X4.here hx rfl (hb hby d21_49)) ?_
  refine own_of (fun tt_ => XS.iand X4.here hx rfl (hb hby d21_52) rfl) ?_
  show own_go p e below s _ _ _ (T4.setTop (mkF m 53 #[.val (.ref t), .val (.int 1)] [(.int (u1 &&& (255 : Int32))), (.int ((u0 &&& (255 : Int32)) <<< ((0 : Int32) &&& 31)))]))
  obtain ⟨T6, X6, e6, st6⟩ := getS2 X4 hx hZ hown (host := "") (Or.inl (hW 94 _ rfl)) Via.refl e4 (S_lo.ext XO0.2) (g := (mkF m 53 #[.val (.ref t), .val (.int 1)] [(.int (u1 &&& (255 : Int32))), (.int ((u0 &&& (255 : Int32)) <<< ((0 : Int32) &&& 31)))])) rfl (hb hby d21_53)
  refine own_of st6 ?_
  show own_go p e below s _ _ _ (T6.setTop (mkF m 56 #[.val (.ref t), .val (.int 1)] [(.int 8), (.int (u1 &&& (255 : Int32))), (.int ((u0 &&& (255 : Int32)) <<< ((0 : Int32) &&& 31)))]))
  refine own_of (fun tt_ => XS.ishl X6.here hx rfl (hb hby d21_56) rfl) ?_
  show own_go p e below s _ _ _ (T6.setTop (mkF m 57 #[.val (.ref t), .val (.int 1)] [(.int ((u1 &&& (255 : Int32)) <<< ((8 : Int32) &&& 31))), (.int ((u0 &&& (255 : Int32)) <<< ((0 : Int32) &&& 31)))]))
  refine own_of (fun tt_ => XS.ior X6.here hx rfl (hb hby d21_57) rfl) ?_
  show own_go p e below s _ _ _ (T6.setTop (mkF m 58 #[.val (.ref t), .val (.int 1)] [(.int (((u0 &&& (255 : Int32)) <<< ((0 : Int32) &&& 31)) ||| ((u1 &&& (255 : Int32)) <<< ((8 : Int32) &&& 31))))]))
  refine own_of (fun tt_ => XS.i2c X6.here hx rfl (hb hby d21_58) rfl) ?_
  show own_go p e below s _ _ _ (T6.setTop (mkF m 59 #[.val (.ref t), .val (.int 1)] [(.int ((((u0 &&& (255 : Int32)) <<< ((0 : Int32) &&& 31)) ||| ((u1 &&& (255 : Int32)) <<< ((8 : Int32) &&& 31))).toUInt32.toUInt16.toUInt32.toInt32))]))
  refine own_ret X6 hx hlk hret (XT.narrow_c _) (Or.inl ⟨rfl, by simp, _, rfl⟩) (hb hby d21_59) (by decide) (by decide) ?_
  rw [e6]
  exact ⟨rfl, N0, rfl⟩
theorem ef_rmP_3_1 (m : MethodId) (x0 : Nat) (x1 : Int32) (x2 : Int32) : entryFrame m #[(.ref x0), (.int x1), (.int x2)] 3 = mkF m 0 #[.val (.ref x0), .val (.int x1), .val (.int x2)] [] := by first | (simp [entryFrame, mkF, argsToLocals, Value.category]; done) | rfl
def Q_rmP_3_1 (Z : State) (t : Nat) (kb : ClassId) (cc : Int32) (v0 : Value) (v1 : Value) (v2 : Value) (v3 : Value) (v4 : Value) (v5 : Value) (h0 : Heap) (n0 : Nat) (v : Option Value) (h : Heap) (L : List Loc) : Prop := v = none ∧ Fr n0 L ∧ Keep h0 h [t] ∧ Arv Z h t kb .byte (6 : Int32) [v0, v1, (.int (StrChars.lo8 cc)), (.int (StrChars.hi8 cc)), v4, v5] (.int 0)
set_option maxRecDepth 65536 in
set_option maxHeartbeats 40000000 in
theorem rmP_3_1 (l : Launch) (Z : State) (a0 : Array Value) (hw : own_H Z a0) (ws : List Jvm.Cond) (t : Nat) (kb : ClassId) (cc : Int32) (v0 : Value) (v1 : Value) (v2 : Value) (v3 : Value) (v4 : Value) (v5 : Value) (h0 : Heap) (n0 : Nat) (XO0 : Old Z n0 h0) (S_ad : Sta Z Z.heap "java/lang/StringUTF16" "$assertionsDisabled" "Z" (.int 1)) (S_hi : Sta Z Z.heap "java/lang/StringUTF16" "HI_BYTE_SHIFT" "I" (.int 0)) (S_lo : Sta Z Z.heap "java/lang/StringUTF16" "LO_BYTE_SHIFT" "I" (.int 8)) (g_t : n0 ≤ t) (V_t : Arv Z h0 t kb .byte (6 : Int32) [v0, v1, v2, v3, v4, v5] (.int 0)) :
    own_M l Z ym9 jdk_52_method_4_code ws 3 none (own_R 0 0 0 0) #[(.ref t), (.int 1), (.int cc)] h0 (Q_rmP_3_1 Z t kb cc v0 v1 v2 v3 v4 v5 h0 n0) := by
  refine own_open (plainFor_of_name pn_0) ?_
  intro p e s m below meth c s₁ hx hby hlk hret hml hown hnm hZ X0 e0
  have hW := own_hW hw
  have N0 := Fr.nil n0
  refine own_of (fun tt_ kk_ => castTop (ef_rmP_3_1 m t (1 : Int32) cc) kk_) ?_
  show own_go p e below s _ _ _ (s₁.setTop (mkF m 0 #[.val (.ref t), .val (.int 1), .val (.int cc)] []))
  have K0 : Keep h0 h0 [t] := Keep.refl h0 [t]
  have lt_t := own_lt V_t.lt
  obtain ⟨T1, X1, e1, st1⟩ := getS2 X0 hx hZ hown (host := "") (Or.inl (hW 92 _ rfl)) Via.refl e0 (S_ad.ext XO0.2) (g := (mkF m 0 #[.val (.ref t), .val (.int 1), .val (.int cc)] [])) rfl (hb hby d20_0)
  refine own_of st1 ?_
  show own_go p e below s _ _ _ (T1.setTop (mkF m 3 #[.val (.ref t), .val (.int 1), .val (.int cc)] [(.int 1)]))
  have hb3_2 : ¬ ((1 : Int32) = (0 : Int32)) := by decide
  refine own_of (fun tt_ => XS.ifYes X1.here hx rfl (pc0 := 3) (pc' := 28) rfl (hb hby d20_3) rfl ((if0 _ _).trans (feq hb3_2).2) (by decide) (by decide)) ?_
  show own_go p e below s _ _ _ (T1.setTop (mkF m 28 #[.val (.ref t), .val (.int 1), .val (.int cc)] []))
  refine own_of (fun tt_ => XS.iloadN X1.here hx rfl (hb hby d20_28) rfl) ?_
  refine own_of (fun tt_ => XS.iconst X1.here hx rfl (hb hby d20_29)) ?_
  refine own_of (fun tt_ => XS.ishl X1.here hx rfl (hb hby d20_30) rfl) ?_
  show own_go p e below s _ _ _ (T1.setTop (mkF m 31 #[.val (.ref t), .val (.int 1), .val (.int cc)] [(.int 2)]))
  refine own_of (fun tt_ => XS.istoreN X1.here hx rfl (hb hby d20_31) rfl (l' := #[.val (.ref t), .val (.int 2), .val (.int cc)]) rfl) ?_
  refine own_of (fun tt_ => XS.aloadN X1.here hx rfl (hb hby d20_32) rfl rfl) ?_
  refine own_of (fun tt_ => XS.iloadN X1.here hx rfl (hb hby d20_33) rfl) ?_
  refine own_of (fun tt_ => XS.iinc X1.here hx rfl (hb hby d20_34) rfl (l' := #[.val (.ref t), .val (.int 3), .val (.int cc)]) rfl) ?_
  refine own_of (fun tt_ => XS.iloadN X1.here hx rfl (hb hby d20_37) rfl) ?_
  obtain ⟨T3, X3, e3, st3⟩ := getS2 X1 hx hZ hown (host := "") (Or.inl (hW 93 _ rfl)) Via.refl e1 (S_hi.ext XO0.2) (g := (mkF m 38 #[.val (.ref t), .val (.int 3), .val (.int cc)] [(.int cc), (.int 2), (.ref t)])) rfl (hb hby d20_38)
  refine own_of st3 ?_
  show own_go p e below s _ _ _ (T3.setTop (mkF m 41 #[.val (.ref t), .val (.int 3), .val (.int cc)] [(.int 0), (.int cc), (.int 2), (.ref t)]))
  refine own_of (fun tt_ => XS.ishr X3.here hx rfl (hb hby d20_41) rfl) ?_
  show own_go p e below s _ _ _ (T3.setTop (mkF m 42 #[.val (.ref t), .val (.int 3), .val (.int cc)] [(.int (cc >>> ((0 : Int32) &&& 31))), (.int 2), (.ref t)]))
  refine own_of (fun tt_ => XS.i2b X3.here hx rfl (hb hby d20_42) rfl) ?_
  show own_go p e below s _ _ _ (T3.setTop (mkF m 43 #[.val (.ref t), .val (.int 3), .val (.int cc)] [(.int ((cc >>> ((0 : Int32) &&& 31)).toInt8.toInt32)), (.int 2), (.ref t)]))
  obtain ⟨cl4, Ar4, q4, S4, Ng4, H4, G4⟩ := V_t
  obtain ⟨T4, h4, X4, e4, W4, st4⟩ := stB X3 hx hZ e3 Ar4 (j := (2 : Int32)) (inb_of S4 ⟨by decide, by decide⟩) (g := (mkF m 43 #[.val (.ref t), .val (.int 3), .val (.int cc)] [(.int ((cc >>> ((0 : Int32) &&& 31)).toInt8.toInt32)), (.int 2), (.ref t)])) rfl rfl (hb hby d20_43)
  have V4 : Arv Z h4 t kb .byte (6 : Int32) [v0, v1, (.int (nar .byte ((cc >>> ((0 : Int32) &&& 31)).toInt8.toInt32))), v3, v4, v5] (.int 0) := Arv.set Ar4 q4 S4 Ng4 H4 G4 (fits_nar_byte _) W4 2 rfl (Nat.le_of_ble_eq_true rfl)
  refine own_of st4 ?_
  have N4 := Fr.snoc X4 N0 (by omega : n0 ≤ t)
  have sz4 : h4.size = h0.size := W4.size
  have O4 : Old Z n0 h4 := XO0.wr W4 (by omega)
  have K4 : Keep h0 h4 [t] := K0.wr W4 (Or.inl (List.mem_of_getElem? (i := 0) rfl))
  show own_go p e below s _ _ _ (T4.setTop (mkF m 44 #[.val (.ref t), .val (.int 3), .val (.int cc)] []))
  refine own_of (fun tt_ => XS.aloadN X4.here hx rfl (hb hby d20_44) rfl rfl) ?_
  refine own_of (fun tt_ => XS.iloadN X4.here hx rfl (hb hby d20_45) rfl) ?_
  refine own_of (fun tt_ => XS.iloadN X4.here hx rfl (hb hby d20_46) rfl) ?_
  obtain ⟨T5, X5, e5, st5⟩ := getS2 X4 hx hZ hown (host := "") (Or.inl (hW 94 _ rfl)) Via.refl e4 (S_lo.ext O4.2) (g := (mkF m 47 #[.val (.ref t), .val (.int 3), .val (.int cc)] [(.int cc), (.int 3), (.ref t)])) rfl (hb hby d20_47)
  refine own_of st5 ?_
  show own_go p e below s _ _ _ (T5.setTop (mkF m 50 #[.val (.ref t), .val (.int 3), .val (.int cc)] [(.int 8), (.int cc), (.int 3), (.ref t)]))
  refine own_of (fun tt_ => XS.ishr X5.here hx rfl (hb hby d20_50) rfl) ?_
  show own_go p e below s _ _ _ (T5.setTop (mkF m 51 #[.val (.ref t), .val (.int 3), .val (.int cc)] [(.int (cc >>> ((8 : Int32) &&& 31))), (.int 3), (.ref t)]))
  refine own_of (fun tt_ => XS.i2b X5.here hx rfl (hb hby d20_51) rfl) ?_
  show own_go p e below s _ _ _ (T5.setTop (mkF m 52 #[.val (.ref t), .val (.int 3), .val (.int cc)] [(.int ((cc >>> ((8 : Int32) &&& 31)).toInt8.toInt32)), (.int 3), (.ref t)]))
  obtain ⟨cl6, Ar6, q6, S6, Ng6, H6, G6⟩ := V4
  obtain ⟨T6, h6, X6, e6, W6, st6⟩ := stB X5 hx hZ e5 Ar6 (j := (3 : Int32)) (inb_of S6 ⟨by decide, by decide⟩) (g := (mkF m 52 #[.val (.ref t), .val (.int 3), .val (.int cc)] [(.int ((cc >>> ((8 : Int32) &&& 31)).toInt8.toInt32)), (.int 3), (.ref t)])) rfl rfl (hb hby d20_52)
  have V6 : Arv Z h6 t kb .byte (6 : Int32) [v0, v1, (.int (nar .byte ((cc >>> ((0 : Int32) &&& 31)).toInt8.toInt32))), (.int (nar .byte ((cc >>> ((8 : Int32) &&& 31)).toInt8.toInt32))), v4, v5] (.int 0) := Arv.set Ar6 q6 S6 Ng6 H6 G6 (fits_nar_byte _) W6 3 rfl (Nat.le_of_ble_eq_true rfl)
  refine own_of st6 ?_
  have N6 := Fr.snoc X6 N4 (by omega : n0 ≤ t)
  have sz6 : h6.size = h4.size := W6.size
  have O6 : Old Z n0 h6 := O4.wr W6 (by omega)
  have K6 : Keep h0 h6 [t] := K4.wr W6 (Or.inl (List.mem_of_getElem? (i := 0) rfl))
  show own_go p e below s _ _ _ (T6.setTop (mkF m 53 #[.val (.ref t), .val (.int 3), .val (.int cc)] []))
  refine own_retV X6 hx hlk hret (hb hby d20_53) (by decide) (by decide) ?_
  rw [e6]
  have fin := V6
  rw [own_b0, own_b8] at fin
  exact ⟨rfl, N6, K6, fin⟩
theorem ef_rmG_3_1 (m : MethodId) (x0 : Nat) (x1 : Int32) : entryFrame m #[(.ref x0), (.int x1)] 2 = mkF m 0 #[.val (.ref x0), .val (.int x1)] [] := by first | (simp [entryFrame, mkF, argsToLocals, Value.category]; done) | rfl
def Q_rmG_3_1 (Z : State) (t : Nat) (kb : ClassId) (u0 : Int32) (u1 : Int32) (u2 : Int32) (u3 : Int32) (u4 : Int32) (u5 : Int32) (h0 : Heap) (n0 : Nat) (v : Option Value) (h : Heap) (L : List Loc) : Prop := v = some (.int (StrChars.pairCh u2 u3)) ∧ Fr n0 L ∧ h = h0
set_option maxRecDepth 65536 in
set_option maxHeartbeats 40000000 in
theorem rmG_3_1 (l : Launch) (Z : State) (a0 : Array Value) (hw : own_H Z a0) (ws : List Jvm.Cond) (t : Nat) (kb : ClassId) (u0 : Int32) (u1 : Int32) (u2 : Int32) (u3 : Int32) (u4 : Int32) (u5 : Int32) (h0 : Heap) (n0 : Nat) (XO0 : Old Z n0 h0) (S_ad : Sta Z Z.heap "java/lang/StringUTF16" "$assertionsDisabled" "Z" (.int 1)) (S_hi : Sta Z Z.heap "java/lang/StringUTF16" "HI_BYTE_SHIFT" "I" (.int 0)) (S_lo : Sta Z Z.heap "java/lang/StringUTF16" "LO_BYTE_SHIFT" "I" (.int 8)) (V_t : Arv Z h0 t kb .byte (6 : Int32) [(.int u0), (.int u1), (.int u2), (.int u3), (.int u4), (.int u5)] (.int 0)) :
    own_M l Z ym4 jdk_52_method_5_code ws 2 (some .char) (own_R 0 0 0 0) #[(.ref t), (.int 1)] h0 (Q_rmG_3_1 Z t kb u0 u1 u2 u3 u4 u5 h0 n0) := by
  refine own_open (plainFor_of_name pn_0) ?_
  intro p e s m below meth c s₁ hx hby hlk hret hml hown hnm hZ X0 e0
  have hW := own_hW hw
  have N0 := Fr.nil n0
  refine own_of (fun tt_ kk_ => castTop (ef_rmG_3_1 m t (1 : Int32)) kk_) ?_
  show own_go p e below s _ _ _ (s₁.setTop (mkF m 0 #[.val (.ref t), .val (.int 1)] []))
  obtain ⟨T1, X1, e1, st1⟩ := getS2 X0 hx hZ hown (host := "") (Or.inl (hW 92 _ rfl)) Via.refl e0 (S_ad.ext XO0.2) (g := (mkF m 0 #[.val (.ref t), .val (.int 1)] [])) rfl (hb hby d21_0)
  refine own_of st1 ?_
  show own_go p e below s _ _ _ (T1.setTop (mkF m 3 #[.val (.ref t), .val (.int 1)] [(.int 1)]))
  have hb3_2 : ¬ ((1 : Int32) = (0 : Int32)) := by decide
  refine own_of (fun tt_ => XS.ifYes X1.here hx rfl (pc0 := 3) (pc' := 28) rfl (hb hby d21_3) rfl ((if0 _ _).trans (feq hb3_2).2) (by decide) (by decide)) ?_
  show own_go p e below s _ _ _ (T1.setTop (mkF m 28 #[.val (.ref t), .val (.int 1)] []))
  refine own_of (fun tt_ => XS.iloadN X1.here hx rfl (hb hby d21_28) rfl) ?_
  refine own_of (fun tt_ => XS.iconst X1.here hx rfl (hb hby d21_29)) ?_
  refine own_of (fun tt_ => XS.ishl X1.here hx rfl (hb hby d21_30) rfl) ?_
  show own_go p e below s _ _ _ (T1.setTop (mkF m 31 #[.val (.ref t), .val (.int 1)] [(.int 2)]))
  refine own_of (fun tt_ => XS.istoreN X1.here hx rfl (hb hby d21_31) rfl (l' := #[.val (.ref t), .val (.int 2)]) rfl) ?_
  refine own_of (fun tt_ => XS.aloadN X1.here hx rfl (hb hby d21_32) rfl rfl) ?_
  refine own_of (fun tt_ => XS.iloadN X1.here hx rfl (hb hby d21_33) rfl) ?_
  refine own_of (fun tt_ => XS.iinc X1.here hx rfl (hb hby d21_34) rfl (l' := #[.val (.ref t), .val (.int 3)]) rfl) ?_
  obtain ⟨cl3, Ar3, q3, S3, Ng3, H3, G3⟩ := id V_t
  have hin3 : ¬ ((2 : Int32) < 0 ∨ cl3.slots.size ≤ ((2 : Int32)).toNatClampNeg) := inb_of S3 ⟨by decide, by decide⟩
  have hat3 : cl3.slots[((2 : Int32)).toNatClampNeg]? = some (.int u2) := H3 2 (by rw [S3]; decide)
  refine own_of (fun tt_ => X1.baloadBytes hx (j := (2 : Int32)) (v := (.int u2)) (by rw [e1]; exact Ar3.1) (State.isArrayOf_alike hZ.alike Ar3.2.1) Ar3.2.2 hin3 hat3 (g := (mkF m 37 #[.val (.ref t), .val (.int 3)] [(.int 2), (.ref t)])) rfl rfl (hb hby d21_37) _) ?_
  show own_go p e below s _ _ _ (T1.setTop (mkF m 38 #[.val (.ref t), .val (.int 3)] [(.int u2)]))
  refine own_of (fun tt_ => XS.sipush X1.here hx rfl (hb hby d21_38)) ?_
  refine own_of (fun tt_ => XS.iand X1.here hx rfl (hb hby d21_41) rfl) ?_
  show own_go p e below s _ _ _ (T1.setTop (mkF m 42 #[.val (.ref t), .val (.int 3)] [(.int (u2 &&& (255 : Int32)))]))
  obtain ⟨T4, X4, e4, st4⟩ := getS2 X1 hx hZ hown (host := "") (Or.inl (hW 93 _ rfl)) Via.refl e1 (S_hi.ext XO0.2) (g := (mkF m 42 #[.val (.ref t), .val (.int 3)] [(.int (u2 &&& (255 : Int32)))])) rfl (hb hby d21_42)
  refine own_of st4 ?_
  show own_go p e below s _ _ _ (T4.setTop (mkF m 45 #[.val (.ref t), .val (.int 3)] [(.int 0), (.int (u2 &&& (255 : Int32)))]))
  refine own_of (fun tt_ => XS.ishl X4.here hx rfl (hb hby d21_45) rfl) ?_
  show own_go p e below s _ _ _ (T4.setTop (mkF m 46 #[.val (.ref t), .val (.int 3)] [(.int ((u2 &&& (255 : Int32)) <<< ((0 : Int32) &&& 31)))]))
  refine own_of (fun tt_ => XS.aloadN X4.here hx rfl (hb hby d21_46) rfl rfl) ?_
  refine own_of (fun tt_ => XS.iloadN X4.here hx rfl (hb hby d21_47) rfl) ?_
  obtain ⟨cl5, Ar5, q5, S5, Ng5, H5, G5⟩ := id V_t
  have hin5 : ¬ ((3 : Int32) < 0 ∨ cl5.slots.size ≤ ((3 : Int32)).toNatClampNeg) := inb_of S5 ⟨by decide, by decide⟩
  have hat5 : cl5.slots[((3 : Int32)).toNatClampNeg]? = some (.int u3) := H5 3 (by rw [S5]; decide)
  refine own_of (fun tt_ => X4.baloadBytes hx (j := (3 : Int32)) (v := (.int u3)) (by rw [e4]; exact Ar5.1) (State.isArrayOf_alike hZ.alike Ar5.2.1) Ar5.2.2 hin5 hat5 (g := (mkF m 48 #[.val (.ref t), .val (.int 3)] [(.int 3), (.ref t), (.int ((u2 &&& (255 : Int32)) <<< ((0 : Int32) &&& 31)))])) rfl rfl (hb hby d21_48) _) ?_
  show own_go p e below s _ _ _ (T4.setTop (mkF m 49 #[.val (.ref t), .val (.int 3)] [(.int u3), (.int ((u2 &&& (255 : Int32)) <<< ((0 : Int32) &&& 31)))]))
  refine own_of (fun tt_ => XS.sipush X4.here hx rfl (hb hby d21_49)) ?_
  refine own_of (fun tt_ => XS.iand X4.here hx rfl (hb hby d21_52) rfl) ?_
  show own_go p e below s _ _ _ (T4.setTop (mkF m 53 #[.val (.ref t), .val (.int 3)] [(.int (u3 &&& (255 : Int32))), (.int ((u2 &&& (255 : Int32)) <<< ((0 : Int32) &&& 31)))]))
  obtain ⟨T6, X6, e6, st6⟩ := getS2 X4 hx hZ hown (host := "") (Or.inl (hW 94 _ rfl)) Via.refl e4 (S_lo.ext XO0.2) (g := (mkF m 53 #[.val (.ref t), .val (.int 3)] [(.int (u3 &&& (255 : Int32))), (.int ((u2 &&& (255 : Int32)) <<< ((0 : Int32) &&& 31)))])) rfl (hb hby d21_53)
  refine own_of st6 ?_
  show own_go p e below s _ _ _ (T6.setTop (mkF m 56 #[.val (.ref t), .val (.int 3)] [(.int 8), (.int (u3 &&& (255 : Int32))), (.int ((u2 &&& (255 : Int32)) <<< ((0 : Int32) &&& 31)))]))
  refine own_of (fun tt_ => XS.ishl X6.here hx rfl (hb hby d21_56) rfl) ?_
  show own_go p e below s _ _ _ (T6.setTop (mkF m 57 #[.val (.ref t), .val (.int 3)] [(.int ((u3 &&& (255 : Int32)) <<< ((8 : Int32) &&& 31))), (.int ((u2 &&& (255 : Int32)) <<< ((0 : Int32) &&& 31)))]))
  refine own_of (fun tt_ => XS.ior X6.here hx rfl (hb hby d21_57) rfl) ?_
  show own_go p e below s _ _ _ (T6.setTop (mkF m 58 #[.val (.ref t), .val (.int 3)] [(.int (((u2 &&& (255 : Int32)) <<< ((0 : Int32) &&& 31)) ||| ((u3 &&& (255 : Int32)) <<< ((8 : Int32) &&& 31))))]))
  refine own_of (fun tt_ => XS.i2c X6.here hx rfl (hb hby d21_58) rfl) ?_
  show own_go p e below s _ _ _ (T6.setTop (mkF m 59 #[.val (.ref t), .val (.int 3)] [(.int ((((u2 &&& (255 : Int32)) <<< ((0 : Int32) &&& 31)) ||| ((u3 &&& (255 : Int32)) <<< ((8 : Int32) &&& 31))).toUInt32.toUInt16.toUInt32.toInt32))]))
  refine own_ret X6 hx hlk hret (XT.narrow_c _) (Or.inl ⟨rfl, by simp, _, rfl⟩) (hb hby d21_59) (by decide) (by decide) ?_
  rw [e6]
  exact ⟨rfl, N0, rfl⟩
theorem ef_rmP_3_2 (m : MethodId) (x0 : Nat) (x1 : Int32) (x2 : Int32) : entryFrame m #[(.ref x0), (.int x1), (.int x2)] 3 = mkF m 0 #[.val (.ref x0), .val (.int x1), .val (.int x2)] [] := by first | (simp [entryFrame, mkF, argsToLocals, Value.category]; done) | rfl
def Q_rmP_3_2 (Z : State) (t : Nat) (kb : ClassId) (cc : Int32) (v0 : Value) (v1 : Value) (v2 : Value) (v3 : Value) (v4 : Value) (v5 : Value) (h0 : Heap) (n0 : Nat) (v : Option Value) (h : Heap) (L : List Loc) : Prop := v = none ∧ Fr n0 L ∧ Keep h0 h [t] ∧ Arv Z h t kb .byte (6 : Int32) [v0, v1, v2, v3, (.int (StrChars.lo8 cc)), (.int (StrChars.hi8 cc))] (.int 0)
set_option maxRecDepth 65536 in
set_option maxHeartbeats 40000000 in
theorem rmP_3_2 (l : Launch) (Z : State) (a0 : Array Value) (hw : own_H Z a0) (ws : List Jvm.Cond) (t : Nat) (kb : ClassId) (cc : Int32) (v0 : Value) (v1 : Value) (v2 : Value) (v3 : Value) (v4 : Value) (v5 : Value) (h0 : Heap) (n0 : Nat) (XO0 : Old Z n0 h0) (S_ad : Sta Z Z.heap "java/lang/StringUTF16" "$assertionsDisabled" "Z" (.int 1)) (S_hi : Sta Z Z.heap "java/lang/StringUTF16" "HI_BYTE_SHIFT" "I" (.int 0)) (S_lo : Sta Z Z.heap "java/lang/StringUTF16" "LO_BYTE_SHIFT" "I" (.int 8)) (g_t : n0 ≤ t) (V_t : Arv Z h0 t kb .byte (6 : Int32) [v0, v1, v2, v3, v4, v5] (.int 0)) :
    own_M l Z ym9 jdk_52_method_4_code ws 3 none (own_R 0 0 0 0) #[(.ref t), (.int 2), (.int cc)] h0 (Q_rmP_3_2 Z t kb cc v0 v1 v2 v3 v4 v5 h0 n0) := by
  refine own_open (plainFor_of_name pn_0) ?_
  intro p e s m below meth c s₁ hx hby hlk hret hml hown hnm hZ X0 e0
  have hW := own_hW hw
  have N0 := Fr.nil n0
  refine own_of (fun tt_ kk_ => castTop (ef_rmP_3_2 m t (2 : Int32) cc) kk_) ?_
  show own_go p e below s _ _ _ (s₁.setTop (mkF m 0 #[.val (.ref t), .val (.int 2), .val (.int cc)] []))
  have K0 : Keep h0 h0 [t] := Keep.refl h0 [t]
  have lt_t := own_lt V_t.lt
  obtain ⟨T1, X1, e1, st1⟩ := getS2 X0 hx hZ hown (host := "") (Or.inl (hW 92 _ rfl)) Via.refl e0 (S_ad.ext XO0.2) (g := (mkF m 0 #[.val (.ref t), .val (.int 2), .val (.int cc)] [])) rfl (hb hby d20_0)
  refine own_of st1 ?_
  show own_go p e below s _ _ _ (T1.setTop (mkF m 3 #[.val (.ref t), .val (.int 2), .val (.int cc)] [(.int 1)]))
  have hb3_2 : ¬ ((1 : Int32) = (0 : Int32)) := by decide
  refine own_of (fun tt_ => XS.ifYes X1.here hx rfl (pc0 := 3) (pc' := 28) rfl (hb hby d20_3) rfl ((if0 _ _).trans (feq hb3_2).2) (by decide) (by decide)) ?_
  show own_go p e below s _ _ _ (T1.setTop (mkF m 28 #[.val (.ref t), .val (.int 2), .val (.int cc)] []))
  refine own_of (fun tt_ => XS.iloadN X1.here hx rfl (hb hby d20_28) rfl) ?_
  refine own_of (fun tt_ => XS.iconst X1.here hx rfl (hb hby d20_29)) ?_
  refine own_of (fun tt_ => XS.ishl X1.here hx rfl (hb hby d20_30) rfl) ?_
  show own_go p e below s _ _ _ (T1.setTop (mkF m 31 #[.val (.ref t), .val (.int 2), .val (.int cc)] [(.int 4)]))
  refine own_of (fun tt_ => XS.istoreN X1.here hx rfl (hb hby d20_31) rfl (l' := #[.val (.ref t), .val (.int 4), .val (.int cc)]) rfl) ?_
  refine own_of (fun tt_ => XS.aloadN X1.here hx rfl (hb hby d20_32) rfl rfl) ?_
  refine own_of (fun tt_ => XS.iloadN X1.here hx rfl (hb hby d20_33) rfl) ?_
  refine own_of (fun tt_ => XS.iinc X1.here hx rfl (hb hby d20_34) rfl (l' := #[.val (.ref t), .val (.int 5), .val (.int cc)]) rfl) ?_
  refine own_of (fun tt_ => XS.iloadN X1.here hx rfl (hb hby d20_37) rfl) ?_
  obtain ⟨T3, X3, e3, st3⟩ := getS2 X1 hx hZ hown (host := "") (Or.inl (hW 93 _ rfl)) Via.refl e1 (S_hi.ext XO0.2) (g := (mkF m 38 #[.val (.ref t), .val (.int 5), .val (.int cc)] [(.int cc), (.int 4), (.ref t)])) rfl (hb hby d20_38)
  refine own_of st3 ?_
  show own_go p e below s _ _ _ (T3.setTop (mkF m 41 #[.val (.ref t), .val (.int 5), .val (.int cc)] [(.int 0), (.int cc), (.int 4), (.ref t)]))
  refine own_of (fun tt_ => XS.ishr X3.here hx rfl (hb hby d20_41) rfl) ?_
  show own_go p e below s _ _ _ (T3.setTop (mkF m 42 #[.val (.ref t), .val (.int 5), .val (.int cc)] [(.int (cc >>> ((0 : Int32) &&& 31))), (.int 4), (.ref t)]))
  refine own_of (fun tt_ => XS.i2b X3.here hx rfl (hb hby d20_42) rfl) ?_
  show own_go p e below s _ _ _ (T3.setTop (mkF m 43 #[.val (.ref t), .val (.int 5), .val (.int cc)] [(.int ((cc >>> ((0 : Int32) &&& 31)).toInt8.toInt32)), (.int 4), (.ref t)]))
  obtain ⟨cl4, Ar4, q4, S4, Ng4, H4, G4⟩ := V_t
  obtain ⟨T4, h4, X4, e4, W4, st4⟩ := stB X3 hx hZ e3 Ar4 (j := (4 : Int32)) (inb_of S4 ⟨by decide, by decide⟩) (g := (mkF m 43 #[.val (.ref t), .val (.int 5), .val (.int cc)] [(.int ((cc >>> ((0 : Int32) &&& 31)).toInt8.toInt32)), (.int 4), (.ref t)])) rfl rfl (hb hby d20_43)
  have V4 : Arv Z h4 t kb .byte (6 : Int32) [v0, v1, v2, v3, (.int (nar .byte ((cc >>> ((0 : Int32) &&& 31)).toInt8.toInt32))), v5] (.int 0) := Arv.set Ar4 q4 S4 Ng4 H4 G4 (fits_nar_byte _) W4 4 rfl (Nat.le_of_ble_eq_true rfl)
  refine own_of st4 ?_
  have N4 := Fr.snoc X4 N0 (by omega : n0 ≤ t)
  have sz4 : h4.size = h0.size := W4.size
  have O4 : Old Z n0 h4 := XO0.wr W4 (by omega)
  have K4 : Keep h0 h4 [t] := K0.wr W4 (Or.inl (List.mem_of_getElem? (i := 0) rfl))
  show own_go p e below s _ _ _ (T4.setTop (mkF m 44 #[.val (.ref t), .val (.int 5), .val (.int cc)] []))
  refine own_of (fun tt_ => XS.aloadN X4.here hx rfl (hb hby d20_44) rfl rfl) ?_
  refine own_of (fun tt_ => XS.iloadN X4.here hx rfl (hb hby d20_45) rfl) ?_
  refine own_of (fun tt_ => XS.iloadN X4.here hx rfl (hb hby d20_46) rfl) ?_
  obtain ⟨T5, X5, e5, st5⟩ := getS2 X4 hx hZ hown (host := "") (Or.inl (hW 94 _ rfl)) Via.refl e4 (S_lo.ext O4.2) (g := (mkF m 47 #[.val (.ref t), .val (.int 5), .val (.int cc)] [(.int cc), (.int 5), (.ref t)])) rfl (hb hby d20_47)
  refine own_of st5 ?_
  show own_go p e below s _ _ _ (T5.setTop (mkF m 50 #[.val (.ref t), .val (.int 5), .val (.int cc)] [(.int 8), (.int cc), (.int 5), (.ref t)]))
  refine own_of (fun tt_ => XS.ishr X5.here hx rfl (hb hby d20_50) rfl) ?_
  show own_go p e below s _ _ _ (T5.setTop (mkF m 51 #[.val (.ref t), .val (.int 5), .val (.int cc)] [(.int (cc >>> ((8 : Int32) &&& 31))), (.int 5), (.ref t)]))
  refine own_of (fun tt_ => XS.i2b X5.here hx rfl (hb hby d20_51) rfl) ?_
  show own_go p e below s _ _ _ (T5.setTop (mkF m 52 #[.val (.ref t), .val (.int 5), .val (.int cc)] [(.int ((cc >>> ((8 : Int32) &&& 31)).toInt8.toInt32)), (.int 5), (.ref t)]))
  obtain ⟨cl6, Ar6, q6, S6, Ng6, H6, G6⟩ := V4
  obtain ⟨T6, h6, X6, e6, W6, st6⟩ := stB X5 hx hZ e5 Ar6 (j := (5 : Int32)) (inb_of S6 ⟨by decide, by decide⟩) (g := (mkF m 52 #[.val (.ref t), .val (.int 5), .val (.int cc)] [(.int ((cc >>> ((8 : Int32) &&& 31)).toInt8.toInt32)), (.int 5), (.ref t)])) rfl rfl (hb hby d20_52)
  have V6 : Arv Z h6 t kb .byte (6 : Int32) [v0, v1, v2, v3, (.int (nar .byte ((cc >>> ((0 : Int32) &&& 31)).toInt8.toInt32))), (.int (nar .byte ((cc >>> ((8 : Int32) &&& 31)).toInt8.toInt32)))] (.int 0) := Arv.set Ar6 q6 S6 Ng6 H6 G6 (fits_nar_byte _) W6 5 rfl (Nat.le_of_ble_eq_true rfl)
  refine own_of st6 ?_
  have N6 := Fr.snoc X6 N4 (by omega : n0 ≤ t)
  have sz6 : h6.size = h4.size := W6.size
  have O6 : Old Z n0 h6 := O4.wr W6 (by omega)
  have K6 : Keep h0 h6 [t] := K4.wr W6 (Or.inl (List.mem_of_getElem? (i := 0) rfl))
  show own_go p e below s _ _ _ (T6.setTop (mkF m 53 #[.val (.ref t), .val (.int 5), .val (.int cc)] []))
  refine own_retV X6 hx hlk hret (hb hby d20_53) (by decide) (by decide) ?_
  rw [e6]
  have fin := V6
  rw [own_b0, own_b8] at fin
  exact ⟨rfl, N6, K6, fin⟩
theorem ef_rmG_3_2 (m : MethodId) (x0 : Nat) (x1 : Int32) : entryFrame m #[(.ref x0), (.int x1)] 2 = mkF m 0 #[.val (.ref x0), .val (.int x1)] [] := by first | (simp [entryFrame, mkF, argsToLocals, Value.category]; done) | rfl
def Q_rmG_3_2 (Z : State) (t : Nat) (kb : ClassId) (u0 : Int32) (u1 : Int32) (u2 : Int32) (u3 : Int32) (u4 : Int32) (u5 : Int32) (h0 : Heap) (n0 : Nat) (v : Option Value) (h : Heap) (L : List Loc) : Prop := v = some (.int (StrChars.pairCh u4 u5)) ∧ Fr n0 L ∧ h = h0
set_option maxRecDepth 65536 in
set_option maxHeartbeats 40000000 in
theorem rmG_3_2 (l : Launch) (Z : State) (a0 : Array Value) (hw : own_H Z a0) (ws : List Jvm.Cond) (t : Nat) (kb : ClassId) (u0 : Int32) (u1 : Int32) (u2 : Int32) (u3 : Int32) (u4 : Int32) (u5 : Int32) (h0 : Heap) (n0 : Nat) (XO0 : Old Z n0 h0) (S_ad : Sta Z Z.heap "java/lang/StringUTF16" "$assertionsDisabled" "Z" (.int 1)) (S_hi : Sta Z Z.heap "java/lang/StringUTF16" "HI_BYTE_SHIFT" "I" (.int 0)) (S_lo : Sta Z Z.heap "java/lang/StringUTF16" "LO_BYTE_SHIFT" "I" (.int 8)) (V_t : Arv Z h0 t kb .byte (6 : Int32) [(.int u0), (.int u1), (.int u2), (.int u3), (.int u4), (.int u5)] (.int 0)) :
    own_M l Z ym4 jdk_52_method_5_code ws 2 (some .char) (own_R 0 0 0 0) #[(.ref t), (.int 2)] h0 (Q_rmG_3_2 Z t kb u0 u1 u2 u3 u4 u5 h0 n0) := by
  refine own_open (plainFor_of_name pn_0) ?_
  intro p e s m below meth c s₁ hx hby hlk hret hml hown hnm hZ X0 e0
  have hW := own_hW hw
  have N0 := Fr.nil n0
  refine own_of (fun tt_ kk_ => castTop (ef_rmG_3_2 m t (2 : Int32)) kk_) ?_
  show own_go p e below s _ _ _ (s₁.setTop (mkF m 0 #[.val (.ref t), .val (.int 2)] []))
  obtain ⟨T1, X1, e1, st1⟩ := getS2 X0 hx hZ hown (host := "") (Or.inl (hW 92 _ rfl)) Via.refl e0 (S_ad.ext XO0.2) (g := (mkF m 0 #[.val (.ref t), .val (.int 2)] [])) rfl (hb hby d21_0)
  refine own_of st1 ?_
  show own_go p e below s _ _ _ (T1.setTop (mkF m 3 #[.val (.ref t), .val (.int 2)] [(.int 1)]))
  have hb3_2 : ¬ ((1 : Int32) = (0 : Int32)) := by decide
  refine own_of (fun tt_ => XS.ifYes X1.here hx rfl (pc0 := 3) (pc' := 28) rfl (hb hby d21_3) rfl ((if0 _ _).trans (feq hb3_2).2) (by decide) (by decide)) ?_
  show own_go p e below s _ _ _ (T1.setTop (mkF m 28 #[.val (.ref t), .val (.int 2)] []))
  refine own_of (fun tt_ => XS.iloadN X1.here hx rfl (hb hby d21_28) rfl) ?_
  refine own_of (fun tt_ => XS.iconst X1.here hx rfl (hb hby d21_29)) ?_
  refine own_of (fun tt_ => XS.ishl X1.here hx rfl (hb hby d21_30) rfl) ?_
  show own_go p e below s _ _ _ (T1.setTop (mkF m 31 #[.val (.ref t), .val (.int 2)] [(.int 4)]))
  refine own_of (fun tt_ => XS.istoreN X1.here hx rfl (hb hby d21_31) rfl (l' := #[.val (.ref t), .val (.int 4)]) rfl) ?_
  refine own_of (fun tt_ => XS.aloadN X1.here hx rfl (hb hby d21_32) rfl rfl) ?_
  refine own_of (fun tt_ => XS.iloadN X1.here hx rfl (hb hby d21_33) rfl) ?_
  refine own_of (fun tt_ => XS.iinc X1.here hx rfl (hb hby d21_34) rfl (l' := #[.val (.ref t), .val (.int 5)]) rfl) ?_
  obtain ⟨cl3, Ar3, q3, S3, Ng3, H3, G3⟩ := id V_t
  have hin3 : ¬ ((4 : Int32) < 0 ∨ cl3.slots.size ≤ ((4 : Int32)).toNatClampNeg) := inb_of S3 ⟨by decide, by decide⟩
  have hat3 : cl3.slots[((4 : Int32)).toNatClampNeg]? = some (.int u4) := H3 4 (by rw [S3]; decide)
  refine own_of (fun tt_ => X1.baloadBytes hx (j := (4 : Int32)) (v := (.int u4)) (by rw [e1]; exact Ar3.1) (State.isArrayOf_alike hZ.alike Ar3.2.1) Ar3.2.2 hin3 hat3 (g := (mkF m 37 #[.val (.ref t), .val (.int 5)] [(.int 4), (.ref t)])) rfl rfl (hb hby d21_37) _) ?_
  show own_go p e below s _ _ _ (T1.setTop (mkF m 38 #[.val (.ref t), .val (.int 5)] [(.int u4)]))
  refine own_of (fun tt_ => XS.sipush X1.here hx rfl (hb hby d21_38)) ?_
  refine own_of (fun tt_ => XS.iand X1.here hx rfl (hb hby d21_41) rfl) ?_
  show own_go p e below s _ _ _ (T1.setTop (mkF m 42 #[.val (.ref t), .val (.int 5)] [(.int (u4 &&& (255 : Int32)))]))
  obtain ⟨T4, X4, e4, st4⟩ := getS2 X1 hx hZ hown (host := "") (Or.inl (hW 93 _ rfl)) Via.refl e1 (S_hi.ext XO0.2) (g := (mkF m 42 #[.val (.ref t), .val (.int 5)] [(.int (u4 &&& (255 : Int32)))])) rfl (hb hby d21_42)
  refine own_of st4 ?_
  show own_go p e below s _ _ _ (T4.setTop (mkF m 45 #[.val (.ref t), .val (.int 5)] [(.int 0), (.int (u4 &&& (255 : Int32)))]))
  refine own_of (fun tt_ => XS.ishl X4.here hx rfl (hb hby d21_45) rfl) ?_
  show own_go p e below s _ _ _ (T4.setTop (mkF m 46 #[.val (.ref t), .val (.int 5)] [(.int ((u4 &&& (255 : Int32)) <<< ((0 : Int32) &&& 31)))]))
  refine own_of (fun tt_ => XS.aloadN X4.here hx rfl (hb hby d21_46) rfl rfl) ?_
  refine own_of (fun tt_ => XS.iloadN X4.here hx rfl (hb hby d21_47) rfl) ?_
  obtain ⟨cl5, Ar5, q5, S5, Ng5, H5, G5⟩ := id V_t
  have hin5 : ¬ ((5 : Int32) < 0 ∨ cl5.slots.size ≤ ((5 : Int32)).toNatClampNeg) := inb_of S5 ⟨by decide, by decide⟩
  have hat5 : cl5.slots[((5 : Int32)).toNatClampNeg]? = some (.int u5) := H5 5 (by rw [S5]; decide)
  refine own_of (fun tt_ => X4.baloadBytes hx (j := (5 : Int32)) (v := (.int u5)) (by rw [e4]; exact Ar5.1) (State.isArrayOf_alike hZ.alike Ar5.2.1) Ar5.2.2 hin5 hat5 (g := (mkF m 48 #[.val (.ref t), .val (.int 5)] [(.int 5), (.ref t), (.int ((u4 &&& (255 : Int32)) <<< ((0 : Int32) &&& 31)))])) rfl rfl (hb hby d21_48) _) ?_
  show own_go p e below s _ _ _ (T4.setTop (mkF m 49 #[.val (.ref t), .val (.int 5)] [(.int u5), (.int ((u4 &&& (255 : Int32)) <<< ((0 : Int32) &&& 31)))]))
  refine own_of (fun tt_ => XS.sipush X4.here hx rfl (hb hby d21_49)) ?_
  refine own_of (fun tt_ => XS.iand X4.here hx rfl (hb hby d21_52) rfl) ?_
  show own_go p e below s _ _ _ (T4.setTop (mkF m 53 #[.val (.ref t), .val (.int 5)] [(.int (u5 &&& (255 : Int32))), (.int ((u4 &&& (255 : Int32)) <<< ((0 : Int32) &&& 31)))]))
  obtain ⟨T6, X6, e6, st6⟩ := getS2 X4 hx hZ hown (host := "") (Or.inl (hW 94 _ rfl)) Via.refl e4 (S_lo.ext XO0.2) (g := (mkF m 53 #[.val (.ref t), .val (.int 5)] [(.int (u5 &&& (255 : Int32))), (.int ((u4 &&& (255 : Int32)) <<< ((0 : Int32) &&& 31)))])) rfl (hb hby d21_53)
  refine own_of st6 ?_
  show own_go p e below s _ _ _ (T6.setTop (mkF m 56 #[.val (.ref t), .val (.int 5)] [(.int 8), (.int (u5 &&& (255 : Int32))), (.int ((u4 &&& (255 : Int32)) <<< ((0 : Int32) &&& 31)))]))
  refine own_of (fun tt_ => XS.ishl X6.here hx rfl (hb hby d21_56) rfl) ?_
  show own_go p e below s _ _ _ (T6.setTop (mkF m 57 #[.val (.ref t), .val (.int 5)] [(.int ((u5 &&& (255 : Int32)) <<< ((8 : Int32) &&& 31))), (.int ((u4 &&& (255 : Int32)) <<< ((0 : Int32) &&& 31)))]))
  refine own_of (fun tt_ => XS.ior X6.here hx rfl (hb hby d21_57) rfl) ?_
  show own_go p e below s _ _ _ (T6.setTop (mkF m 58 #[.val (.ref t), .val (.int 5)] [(.int (((u4 &&& (255 : Int32)) <<< ((0 : Int32) &&& 31)) ||| ((u5 &&& (255 : Int32)) <<< ((8 : Int32) &&& 31))))]))
  refine own_of (fun tt_ => XS.i2c X6.here hx rfl (hb hby d21_58) rfl) ?_
  show own_go p e below s _ _ _ (T6.setTop (mkF m 59 #[.val (.ref t), .val (.int 5)] [(.int ((((u4 &&& (255 : Int32)) <<< ((0 : Int32) &&& 31)) ||| ((u5 &&& (255 : Int32)) <<< ((8 : Int32) &&& 31))).toUInt32.toUInt16.toUInt32.toInt32))]))
  refine own_ret X6 hx hlk hret (XT.narrow_c _) (Or.inl ⟨rfl, by simp, _, rfl⟩) (hb hby d21_59) (by decide) (by decide) ?_
  rw [e6]
  exact ⟨rfl, N0, rfl⟩
theorem ef_rmL_1 (m : MethodId) (x0 : Int32) : entryFrame m #[(.int x0)] 1 = mkF m 0 #[.val (.int x0)] [] := by first | (simp [entryFrame, mkF, argsToLocals, Value.category]; done) | rfl
theorem d19_0 : decode jdk_52_method_3_code 0 = .ok (.iload_n 0, 1) := by decide +kernel
theorem d19_1 : decode jdk_52_method_3_code 1 = .ok (.ifCond .ge 11, 3) := by decide +kernel
theorem d19_12 : decode jdk_52_method_3_code 12 = .ok (.iload_n 0, 1) := by decide +kernel
theorem d19_13 : decode jdk_52_method_3_code 13 = .ok (.ldc 20, 2) := by decide +kernel
theorem d19_15 : decode jdk_52_method_3_code 15 = .ok (.if_icmp .lt 40, 3) := by decide +kernel
theorem d19_55 : decode jdk_52_method_3_code 55 = .ok (.iload_n 0, 1) := by decide +kernel
theorem d19_56 : decode jdk_52_method_3_code 56 = .ok (.iconst 1, 1) := by decide +kernel
theorem d19_57 : decode jdk_52_method_3_code 57 = .ok (.ishl, 1) := by decide +kernel
theorem d19_58 : decode jdk_52_method_3_code 58 = .ok (.ireturn, 1) := by decide +kernel
def Q_rmL_1 (Z : State)  (h0 : Heap) (n0 : Nat) (v : Option Value) (h : Heap) (L : List Loc) : Prop := v = some (.int 2) ∧ Fr n0 L ∧ h = h0
set_option maxRecDepth 65536 in
set_option maxHeartbeats 40000000 in
theorem rmL_1 (l : Launch) (Z : State) (a0 : Array Value) (hw : own_H Z a0) (ws : List Jvm.Cond)  (h0 : Heap) (n0 : Nat) (XO0 : Old Z n0 h0) :
    own_M l Z ym19 jdk_52_method_3_code ws 1 (some .int) (own_R 0 0 0 0) #[(.int 1)] h0 (Q_rmL_1 Z  h0 n0) := by
  refine own_open (plainFor_of_name pn_0) ?_
  intro p e s m below meth c s₁ hx hby hlk hret hml hown hnm hZ X0 e0
  have hW := own_hW hw
  have N0 := Fr.nil n0
  refine own_of (fun tt_ kk_ => castTop (ef_rmL_1 m (1 : Int32)) kk_) ?_
  show own_go p e below s _ _ _ (s₁.setTop (mkF m 0 #[.val (.int 1)] []))
  refine own_of (fun tt_ => XS.iloadN X0.here hx rfl (hb hby d19_0) rfl) ?_
  have hb1_1 : ¬ ((1 : Int32) < (0 : Int32)) := by decide
  refine own_of (fun tt_ => XS.ifYes X0.here hx rfl (pc0 := 1) (pc' := 12) rfl (hb hby d19_1) rfl ((if0 _ _).trans (flt hb1_1).2.1) (by decide) (by decide)) ?_
  show own_go p e below s _ _ _ (s₁.setTop (mkF m 12 #[.val (.int 1)] []))
  refine own_of (fun tt_ => XS.iloadN X0.here hx rfl (hb hby d19_12) rfl) ?_
  refine own_of (fun tt_ => X0.ldcI hx hown (mvT hZ (hW 88 _ rfl)) rfl (hb hby d19_13)) ?_
  show own_go p e below s _ _ _ (s₁.setTop (mkF m 15 #[.val (.int 1)] [(.int 1073741823), (.int 1)]))
  have hb15_2 : (1 : Int32) < (1073741823 : Int32) := by decide
  refine own_of (fun tt_ => XS.icmpYes X0.here hx rfl (pc0 := 15) (pc' := 55) rfl (hb hby d19_15) rfl (tlt hb15_2).1 (by decide) (by decide)) ?_
  show own_go p e below s _ _ _ (s₁.setTop (mkF m 55 #[.val (.int 1)] []))
  refine own_of (fun tt_ => XS.iloadN X0.here hx rfl (hb hby d19_55) rfl) ?_
  refine own_of (fun tt_ => XS.iconst X0.here hx rfl (hb hby d19_56)) ?_
  refine own_of (fun tt_ => XS.ishl X0.here hx rfl (hb hby d19_57) rfl) ?_
  show own_go p e below s _ _ _ (s₁.setTop (mkF m 58 #[.val (.int 1)] [(.int 2)]))
  refine own_ret X0 hx hlk hret rfl (Or.inl ⟨rfl, by simp, _, rfl⟩) (hb hby d19_58) (by decide) (by decide) ?_
  rw [e0]
  exact ⟨rfl, N0, rfl⟩
theorem ef_rmF_1 (m : MethodId) (x0 : Int32) : entryFrame m #[(.int x0)] 1 = mkF m 0 #[.val (.int x0)] [] := by first | (simp [entryFrame, mkF, argsToLocals, Value.category]; done) | rfl
theorem d18_0 : decode jdk_52_method_2_code 0 = .ok (.iload_n 0, 1) := by decide +kernel
theorem d18_1 : decode jdk_52_method_2_code 1 = .ok (.invokestatic 11, 3) := by decide +kernel
theorem pd_0 : parseMethodDescriptor "(I)I" = some ⟨[.int], some .int⟩ := by decide +kernel
theorem d18_4 : decode jdk_52_method_2_code 4 = .ok (.newarray .byte, 2) := by decide +kernel
theorem d18_6 : decode jdk_52_method_2_code 6 = .ok (.areturn, 1) := by decide +kernel
def Q_rmF_1 (Z : State)  (h0 : Heap) (n0 : Nat) (v : Option Value) (h : Heap) (L : List Loc) : Prop := ∃ (a : Nat) (kb : ClassId), v = some (.ref a) ∧ Fr n0 L ∧ Keep h0 h [] ∧ h0.size ≤ a ∧ Arv Z h a kb .byte (2 : Int32) [(.int 0), (.int 0)] (.int 0)
set_option maxRecDepth 65536 in
set_option maxHeartbeats 40000000 in
theorem rmF_1 (l : Launch) (Z : State) (a0 : Array Value) (hw : own_H Z a0) (ws : List Jvm.Cond)  (h0 : Heap) (n0 : Nat) (XO0 : Old Z n0 h0) :
    own_M l Z ym20 jdk_52_method_2_code ws 1 (some (.array .byte)) (own_R 1 1 2 12) #[(.int 1)] h0 (Q_rmF_1 Z  h0 n0) := by
  refine own_open (plainFor_of_name pn_0) ?_
  intro p e s m below meth c s₁ hx hby hlk hret hml hown hnm hZ X0 e0
  have hW := own_hW hw
  have N0 := Fr.nil n0
  refine own_of (fun tt_ kk_ => castTop (ef_rmF_1 m (1 : Int32)) kk_) ?_
  show own_go p e below s _ _ _ (s₁.setTop (mkF m 0 #[.val (.int 1)] []))
  have K0 : Keep h0 h0 [] := Keep.refl h0 []
  refine own_of (fun tt_ => XS.iloadN X0.here hx rfl (hb hby d18_0) rfl) ?_
  show own_go p e below s _ _ _ (s₁.setTop (mkF m 1 #[.val (.int 1)] [(.int 1)]))
  obtain ⟨_, _, ⟨T1, L1, k1, n1⟩, -, X1, ⟨Lc1, hQ1, l1, y1, z1⟩, st1⟩ := Jvm.LawKit.callS X0 hx (y := ym19) hown (mvT hZ (hW 85 _ rfl)) (mvT hZ (hW 86 _ rfl)) (mvT hZ (hW 35 _ rfl)) (mvT hZ (hW 87 _ rfl)) (by decide) (backOf (W := 0) (rmL_1 l Z a0 hw [] h0 n0 XO0) hZ (hW 87 _ rfl) (hW 35 _ rfl) (by decide) (by decide)) (g := (mkF m 1 #[.val (.int 1)] [(.int 1)])) rfl (by rw [hml]; rfl) (argsL := [(.int 1)]) (rest := []) (lenOf pd_0 rfl) rfl (by show 2 * 0 + _ ≤ _; exact Nat.le_of_eq rfl) (hb hby d18_1) (fun _ _ => ⟨rfl, e0, (by decide : 0 + 0 ≤ _), (by decide : 0 + 0 ≤ _)⟩)
  dsimp only [Pt.U, Pt.locs, Pt.cells, Pt.slots] at X1 l1 y1 z1 st1 hQ1
  subst l1 y1 z1
  obtain ⟨rfl, Nq1, eh1⟩ := hQ1
  have N1 := Fr.app N0 Nq1
  refine own_of st1 ?_
  show own_go p e below s _ _ _ (T1.setTop (mkF m 4 #[.val (.int 1)] [(.int 2)]))
  obtain ⟨T2, h2, k2, X2, e2, E2, A2, st2⟩ := newP X1 hx hZ (hW 16 _ rfl) eh1 (g := (mkF m 4 #[.val (.int 1)] [(.int 2)])) rfl (hb hby d18_4) rfl (by decide) (cap := 2) (by decide) (by decide) (by decide) (by decide)
  obtain ⟨b2, g2⟩ : ∃ z, z = h0.size := ⟨_, rfl⟩
  rw [← g2] at A2 st2
  refine own_of st2 ?_
  have lt2 := own_lt A2.lt
  have sz2 : h0.size ≤ h2.size := E2.1
  have O2 : Old Z n0 h2 := XO0.ext E2
  have z2 : n0 ≤ b2 := by have := XO0.1 ▸ XO0.2.1; omega
  have K2 : Keep h0 h2 [] := K0.ext E2
  have V2 : Arv Z h2 b2 k2 .byte (2 : Int32) [(.int 0), (.int 0)] (.int 0) := (Arv.new A2 (by decide)).pad (pad_rep [] (.int 0) 2)
  show own_go p e below s _ _ _ (T2.setTop (mkF m 6 #[.val (.int 1)] [(.ref b2)]))
  refine own_ret X2 hx hlk hret rfl (Or.inr (Or.inr (Or.inr (Or.inr ⟨rfl, rfl, rfl⟩)))) (hb hby d18_6) (by decide) (by decide) ?_
  rw [e2]
  exact ⟨b2, k2, rfl, N1, K2, by omega, V2⟩
theorem ef_rmL_2 (m : MethodId) (x0 : Int32) : entryFrame m #[(.int x0)] 1 = mkF m 0 #[.val (.int x0)] [] := by first | (simp [entryFrame, mkF, argsToLocals, Value.category]; done) | rfl
def Q_rmL_2 (Z : State)  (h0 : Heap) (n0 : Nat) (v : Option Value) (h : Heap) (L : List Loc) : Prop := v = some (.int 4) ∧ Fr n0 L ∧ h = h0
set_option maxRecDepth 65536 in
set_option maxHeartbeats 40000000 in
theorem rmL_2 (l : Launch) (Z : State) (a0 : Array Value) (hw : own_H Z a0) (ws : List Jvm.Cond)  (h0 : Heap) (n0 : Nat) (XO0 : Old Z n0 h0) :
    own_M l Z ym19 jdk_52_method_3_code ws 1 (some .int) (own_R 0 0 0 0) #[(.int 2)] h0 (Q_rmL_2 Z  h0 n0) := by
  refine own_open (plainFor_of_name pn_0) ?_
  intro p e s m below meth c s₁ hx hby hlk hret hml hown hnm hZ X0 e0
  have hW := own_hW hw
  have N0 := Fr.nil n0
  refine own_of (fun tt_ kk_ => castTop (ef_rmL_2 m (2 : Int32)) kk_) ?_
  show own_go p e below s _ _ _ (s₁.setTop (mkF m 0 #[.val (.int 2)] []))
  refine own_of (fun tt_ => XS.iloadN X0.here hx rfl (hb hby d19_0) rfl) ?_
  have hb1_1 : ¬ ((2 : Int32) < (0 : Int32)) := by decide
  refine own_of (fun tt_ => XS.ifYes X0.here hx rfl (pc0 := 1) (pc' := 12) rfl (hb hby d19_1) rfl ((if0 _ _).trans (flt hb1_1).2.1) (by decide) (by decide)) ?_
  show own_go p e below s _ _ _ (s₁.setTop (mkF m 12 #[.val (.int 2)] []))
  refine own_of (fun tt_ => XS.iloadN X0.here hx rfl (hb hby d19_12) rfl) ?_
  refine own_of (fun tt_ => X0.ldcI hx hown (mvT hZ (hW 88 _ rfl)) rfl (hb hby d19_13)) ?_
  show own_go p e below s _ _ _ (s₁.setTop (mkF m 15 #[.val (.int 2)] [(.int 1073741823), (.int 2)]))
  have hb15_2 : (2 : Int32) < (1073741823 : Int32) := by decide
  refine own_of (fun tt_ => XS.icmpYes X0.here hx rfl (pc0 := 15) (pc' := 55) rfl (hb hby d19_15) rfl (tlt hb15_2).1 (by decide) (by decide)) ?_
  show own_go p e below s _ _ _ (s₁.setTop (mkF m 55 #[.val (.int 2)] []))
  refine own_of (fun tt_ => XS.iloadN X0.here hx rfl (hb hby d19_55) rfl) ?_
  refine own_of (fun tt_ => XS.iconst X0.here hx rfl (hb hby d19_56)) ?_
  refine own_of (fun tt_ => XS.ishl X0.here hx rfl (hb hby d19_57) rfl) ?_
  show own_go p e below s _ _ _ (s₁.setTop (mkF m 58 #[.val (.int 2)] [(.int 4)]))
  refine own_ret X0 hx hlk hret rfl (Or.inl ⟨rfl, by simp, _, rfl⟩) (hb hby d19_58) (by decide) (by decide) ?_
  rw [e0]
  exact ⟨rfl, N0, rfl⟩
theorem ef_rmF_2 (m : MethodId) (x0 : Int32) : entryFrame m #[(.int x0)] 1 = mkF m 0 #[.val (.int x0)] [] := by first | (simp [entryFrame, mkF, argsToLocals, Value.category]; done) | rfl
def Q_rmF_2 (Z : State)  (h0 : Heap) (n0 : Nat) (v : Option Value) (h : Heap) (L : List Loc) : Prop := ∃ (a : Nat) (kb : ClassId), v = some (.ref a) ∧ Fr n0 L ∧ Keep h0 h [] ∧ h0.size ≤ a ∧ Arv Z h a kb .byte (4 : Int32) [(.int 0), (.int 0), (.int 0), (.int 0)] (.int 0)
set_option maxRecDepth 65536 in
set_option maxHeartbeats 40000000 in
theorem rmF_2 (l : Launch) (Z : State) (a0 : Array Value) (hw : own_H Z a0) (ws : List Jvm.Cond)  (h0 : Heap) (n0 : Nat) (XO0 : Old Z n0 h0) :
    own_M l Z ym20 jdk_52_method_2_code ws 1 (some (.array .byte)) (own_R 1 1 4 12) #[(.int 2)] h0 (Q_rmF_2 Z  h0 n0) := by
  refine own_open (plainFor_of_name pn_0) ?_
  intro p e s m below meth c s₁ hx hby hlk hret hml hown hnm hZ X0 e0
  have hW := own_hW hw
  have N0 := Fr.nil n0
  refine own_of (fun tt_ kk_ => castTop (ef_rmF_2 m (2 : Int32)) kk_) ?_
  show own_go p e below s _ _ _ (s₁.setTop (mkF m 0 #[.val (.int 2)] []))
  have K0 : Keep h0 h0 [] := Keep.refl h0 []
  refine own_of (fun tt_ => XS.iloadN X0.here hx rfl (hb hby d18_0) rfl) ?_
  show own_go p e below s _ _ _ (s₁.setTop (mkF m 1 #[.val (.int 2)] [(.int 2)]))
  obtain ⟨_, _, ⟨T1, L1, k1, n1⟩, -, X1, ⟨Lc1, hQ1, l1, y1, z1⟩, st1⟩ := Jvm.LawKit.callS X0 hx (y := ym19) hown (mvT hZ (hW 85 _ rfl)) (mvT hZ (hW 86 _ rfl)) (mvT hZ (hW 35 _ rfl)) (mvT hZ (hW 87 _ rfl)) (by decide) (backOf (W := 0) (rmL_2 l Z a0 hw [] h0 n0 XO0) hZ (hW 87 _ rfl) (hW 35 _ rfl) (by decide) (by decide)) (g := (mkF m 1 #[.val (.int 2)] [(.int 2)])) rfl (by rw [hml]; rfl) (argsL := [(.int 2)]) (rest := []) (lenOf pd_0 rfl) rfl (by show 2 * 0 + _ ≤ _; exact Nat.le_of_eq rfl) (hb hby d18_1) (fun _ _ => ⟨rfl, e0, (by decide : 0 + 0 ≤ _), (by decide : 0 + 0 ≤ _)⟩)
  dsimp only [Pt.U, Pt.locs, Pt.cells, Pt.slots] at X1 l1 y1 z1 st1 hQ1
  subst l1 y1 z1
  obtain ⟨rfl, Nq1, eh1⟩ := hQ1
  have N1 := Fr.app N0 Nq1
  refine own_of st1 ?_
  show own_go p e below s _ _ _ (T1.setTop (mkF m 4 #[.val (.int 2)] [(.int 4)]))
  obtain ⟨T2, h2, k2, X2, e2, E2, A2, st2⟩ := newP X1 hx hZ (hW 16 _ rfl) eh1 (g := (mkF m 4 #[.val (.int 2)] [(.int 4)])) rfl (hb hby d18_4) rfl (by decide) (cap := 4) (by decide) (by decide) (by decide) (by decide)
  obtain ⟨b2, g2⟩ : ∃ z, z = h0.size := ⟨_, rfl⟩
  rw [← g2] at A2 st2
  refine own_of st2 ?_
  have lt2 := own_lt A2.lt
  have sz2 : h0.size ≤ h2.size := E2.1
  have O2 : Old Z n0 h2 := XO0.ext E2
  have z2 : n0 ≤ b2 := by have := XO0.1 ▸ XO0.2.1; omega
  have K2 : Keep h0 h2 [] := K0.ext E2
  have V2 : Arv Z h2 b2 k2 .byte (4 : Int32) [(.int 0), (.int 0), (.int 0), (.int 0)] (.int 0) := (Arv.new A2 (by decide)).pad (pad_rep [] (.int 0) 4)
  show own_go p e below s _ _ _ (T2.setTop (mkF m 6 #[.val (.int 2)] [(.ref b2)]))
  refine own_ret X2 hx hlk hret rfl (Or.inr (Or.inr (Or.inr (Or.inr ⟨rfl, rfl, rfl⟩)))) (hb hby d18_6) (by decide) (by decide) ?_
  rw [e2]
  exact ⟨b2, k2, rfl, N1, K2, by omega, V2⟩
theorem ef_rmL_3 (m : MethodId) (x0 : Int32) : entryFrame m #[(.int x0)] 1 = mkF m 0 #[.val (.int x0)] [] := by first | (simp [entryFrame, mkF, argsToLocals, Value.category]; done) | rfl
def Q_rmL_3 (Z : State)  (h0 : Heap) (n0 : Nat) (v : Option Value) (h : Heap) (L : List Loc) : Prop := v = some (.int 6) ∧ Fr n0 L ∧ h = h0
set_option maxRecDepth 65536 in
set_option maxHeartbeats 40000000 in
theorem rmL_3 (l : Launch) (Z : State) (a0 : Array Value) (hw : own_H Z a0) (ws : List Jvm.Cond)  (h0 : Heap) (n0 : Nat) (XO0 : Old Z n0 h0) :
    own_M l Z ym19 jdk_52_method_3_code ws 1 (some .int) (own_R 0 0 0 0) #[(.int 3)] h0 (Q_rmL_3 Z  h0 n0) := by
  refine own_open (plainFor_of_name pn_0) ?_
  intro p e s m below meth c s₁ hx hby hlk hret hml hown hnm hZ X0 e0
  have hW := own_hW hw
  have N0 := Fr.nil n0
  refine own_of (fun tt_ kk_ => castTop (ef_rmL_3 m (3 : Int32)) kk_) ?_
  show own_go p e below s _ _ _ (s₁.setTop (mkF m 0 #[.val (.int 3)] []))
  refine own_of (fun tt_ => XS.iloadN X0.here hx rfl (hb hby d19_0) rfl) ?_
  have hb1_1 : ¬ ((3 : Int32) < (0 : Int32)) := by decide
  refine own_of (fun tt_ => XS.ifYes X0.here hx rfl (pc0 := 1) (pc' := 12) rfl (hb hby d19_1) rfl ((if0 _ _).trans (flt hb1_1).2.1) (by decide) (by decide)) ?_
  show own_go p e below s _ _ _ (s₁.setTop (mkF m 12 #[.val (.int 3)] []))
  refine own_of (fun tt_ => XS.iloadN X0.here hx rfl (hb hby d19_12) rfl) ?_
  refine own_of (fun tt_ => X0.ldcI hx hown (mvT hZ (hW 88 _ rfl)) rfl (hb hby d19_13)) ?_
  show own_go p e below s _ _ _ (s₁.setTop (mkF m 15 #[.val (.int 3)] [(.int 1073741823), (.int 3)]))
  have hb15_2 : (3 : Int32) < (1073741823 : Int32) := by decide
  refine own_of (fun tt_ => XS.icmpYes X0.here hx rfl (pc0 := 15) (pc' := 55) rfl (hb hby d19_15) rfl (tlt hb15_2).1 (by decide) (by decide)) ?_
  show own_go p e below s _ _ _ (s₁.setTop (mkF m 55 #[.val (.int 3)] []))
  refine own_of (fun tt_ => XS.iloadN X0.here hx rfl (hb hby d19_55) rfl) ?_
  refine own_of (fun tt_ => XS.iconst X0.here hx rfl (hb hby d19_56)) ?_
  refine own_of (fun tt_ => XS.ishl X0.here hx rfl (hb hby d19_57) rfl) ?_
  show own_go p e below s _ _ _ (s₁.setTop (mkF m 58 #[.val (.int 3)] [(.int 6)]))
  refine own_ret X0 hx hlk hret rfl (Or.inl ⟨rfl, by simp, _, rfl⟩) (hb hby d19_58) (by decide) (by decide) ?_
  rw [e0]
  exact ⟨rfl, N0, rfl⟩
theorem ef_rmF_3 (m : MethodId) (x0 : Int32) : entryFrame m #[(.int x0)] 1 = mkF m 0 #[.val (.int x0)] [] := by first | (simp [entryFrame, mkF, argsToLocals, Value.category]; done) | rfl
def Q_rmF_3 (Z : State)  (h0 : Heap) (n0 : Nat) (v : Option Value) (h : Heap) (L : List Loc) : Prop := ∃ (a : Nat) (kb : ClassId), v = some (.ref a) ∧ Fr n0 L ∧ Keep h0 h [] ∧ h0.size ≤ a ∧ Arv Z h a kb .byte (6 : Int32) [(.int 0), (.int 0), (.int 0), (.int 0), (.int 0), (.int 0)] (.int 0)
set_option maxRecDepth 65536 in
set_option maxHeartbeats 40000000 in
theorem rmF_3 (l : Launch) (Z : State) (a0 : Array Value) (hw : own_H Z a0) (ws : List Jvm.Cond)  (h0 : Heap) (n0 : Nat) (XO0 : Old Z n0 h0) :
    own_M l Z ym20 jdk_52_method_2_code ws 1 (some (.array .byte)) (own_R 1 1 6 12) #[(.int 3)] h0 (Q_rmF_3 Z  h0 n0) := by
  refine own_open (plainFor_of_name pn_0) ?_
  intro p e s m below meth c s₁ hx hby hlk hret hml hown hnm hZ X0 e0
  have hW := own_hW hw
  have N0 := Fr.nil n0
  refine own_of (fun tt_ kk_ => castTop (ef_rmF_3 m (3 : Int32)) kk_) ?_
  show own_go p e below s _ _ _ (s₁.setTop (mkF m 0 #[.val (.int 3)] []))
  have K0 : Keep h0 h0 [] := Keep.refl h0 []
  refine own_of (fun tt_ => XS.iloadN X0.here hx rfl (hb hby d18_0) rfl) ?_
  show own_go p e below s _ _ _ (s₁.setTop (mkF m 1 #[.val (.int 3)] [(.int 3)]))
  obtain ⟨_, _, ⟨T1, L1, k1, n1⟩, -, X1, ⟨Lc1, hQ1, l1, y1, z1⟩, st1⟩ := Jvm.LawKit.callS X0 hx (y := ym19) hown (mvT hZ (hW 85 _ rfl)) (mvT hZ (hW 86 _ rfl)) (mvT hZ (hW 35 _ rfl)) (mvT hZ (hW 87 _ rfl)) (by decide) (backOf (W := 0) (rmL_3 l Z a0 hw [] h0 n0 XO0) hZ (hW 87 _ rfl) (hW 35 _ rfl) (by decide) (by decide)) (g := (mkF m 1 #[.val (.int 3)] [(.int 3)])) rfl (by rw [hml]; rfl) (argsL := [(.int 3)]) (rest := []) (lenOf pd_0 rfl) rfl (by show 2 * 0 + _ ≤ _; exact Nat.le_of_eq rfl) (hb hby d18_1) (fun _ _ => ⟨rfl, e0, (by decide : 0 + 0 ≤ _), (by decide : 0 + 0 ≤ _)⟩)
  dsimp only [Pt.U, Pt.locs, Pt.cells, Pt.slots] at X1 l1 y1 z1 st1 hQ1
  subst l1 y1 z1
  obtain ⟨rfl, Nq1, eh1⟩ := hQ1
  have N1 := Fr.app N0 Nq1
  refine own_of st1 ?_
  show own_go p e below s _ _ _ (T1.setTop (mkF m 4 #[.val (.int 3)] [(.int 6)]))
  obtain ⟨T2, h2, k2, X2, e2, E2, A2, st2⟩ := newP X1 hx hZ (hW 16 _ rfl) eh1 (g := (mkF m 4 #[.val (.int 3)] [(.int 6)])) rfl (hb hby d18_4) rfl (by decide) (cap := 6) (by decide) (by decide) (by decide) (by decide)
  obtain ⟨b2, g2⟩ : ∃ z, z = h0.size := ⟨_, rfl⟩
  rw [← g2] at A2 st2
  refine own_of st2 ?_
  have lt2 := own_lt A2.lt
  have sz2 : h0.size ≤ h2.size := E2.1
  have O2 : Old Z n0 h2 := XO0.ext E2
  have z2 : n0 ≤ b2 := by have := XO0.1 ▸ XO0.2.1; omega
  have K2 : Keep h0 h2 [] := K0.ext E2
  have V2 : Arv Z h2 b2 k2 .byte (6 : Int32) [(.int 0), (.int 0), (.int 0), (.int 0), (.int 0), (.int 0)] (.int 0) := (Arv.new A2 (by decide)).pad (pad_rep [] (.int 0) 6)
  show own_go p e below s _ _ _ (T2.setTop (mkF m 6 #[.val (.int 3)] [(.ref b2)]))
  refine own_ret X2 hx hlk hret rfl (Or.inr (Or.inr (Or.inr (Or.inr ⟨rfl, rfl, rfl⟩)))) (hb hby d18_6) (by decide) (by decide) ?_
  rw [e2]
  exact ⟨b2, k2, rfl, N1, K2, by omega, V2⟩
theorem ef_rmT_1 (m : MethodId) (x0 : Nat) (x1 : Int32) (x2 : Int32) : entryFrame m #[(.ref x0), (.int x1), (.int x2)] 5 = mkF m 0 #[.val (.ref x0), .val (.int x1), .val (.int x2), .unset, .unset] [] := by first | (simp [entryFrame, mkF, argsToLocals, Value.category]; done) | rfl
theorem d17_0 : decode jdk_52_method_14_code 0 = .ok (.iload_n 2, 1) := by decide +kernel
theorem d17_1 : decode jdk_52_method_14_code 1 = .ok (.invokestatic 107, 3) := by decide +kernel
theorem pd_1 : parseMethodDescriptor "(I)[B" = some ⟨[.int], some (.array .byte)⟩ := by decide +kernel
theorem d17_4 : decode jdk_52_method_14_code 4 = .ok (.astore_n 3, 1) := by decide +kernel
theorem d17_5 : decode jdk_52_method_14_code 5 = .ok (.iconst 0, 1) := by decide +kernel
theorem d17_6 : decode jdk_52_method_14_code 6 = .ok (.istore 4, 2) := by decide +kernel
theorem d17_8 : decode jdk_52_method_14_code 8 = .ok (.iload 4, 2) := by decide +kernel
theorem d17_10 : decode jdk_52_method_14_code 10 = .ok (.iload_n 2, 1) := by decide +kernel
theorem d17_11 : decode jdk_52_method_14_code 11 = .ok (.if_icmp .ge 21, 3) := by decide +kernel
theorem d17_14 : decode jdk_52_method_14_code 14 = .ok (.aload_n 3, 1) := by decide +kernel
theorem d17_15 : decode jdk_52_method_14_code 15 = .ok (.iload 4, 2) := by decide +kernel
theorem d17_17 : decode jdk_52_method_14_code 17 = .ok (.aload_n 0, 1) := by decide +kernel
theorem d17_18 : decode jdk_52_method_14_code 18 = .ok (.iload_n 1, 1) := by decide +kernel
theorem d17_19 : decode jdk_52_method_14_code 19 = .ok (.caload, 1) := by decide +kernel
theorem d17_20 : decode jdk_52_method_14_code 20 = .ok (.invokestatic 111, 3) := by decide +kernel
theorem pd_2 : parseMethodDescriptor "([BII)V" = some ⟨[(.array .byte), .int, .int], none⟩ := by decide +kernel
theorem d17_23 : decode jdk_52_method_14_code 23 = .ok (.iinc 1 1, 3) := by decide +kernel
theorem d17_26 : decode jdk_52_method_14_code 26 = .ok (.iinc 4 1, 3) := by decide +kernel
theorem d17_29 : decode jdk_52_method_14_code 29 = .ok (.goto (-21), 3) := by decide +kernel
theorem d17_32 : decode jdk_52_method_14_code 32 = .ok (.aload_n 3, 1) := by decide +kernel
theorem d17_33 : decode jdk_52_method_14_code 33 = .ok (.areturn, 1) := by decide +kernel
def Q_rmT_1 (Z : State) (ar : Nat) (k : ClassId) (c0 : Int32) (h0 : Heap) (n0 : Nat) (v : Option Value) (h : Heap) (L : List Loc) : Prop := ∃ (a : Nat) (kb : ClassId), v = some (.ref a) ∧ Fr n0 L ∧ Keep h0 h [] ∧ h0.size ≤ a ∧ Arv Z h a kb .byte (2 : Int32) [(.int (StrChars.lo8 c0)), (.int (StrChars.hi8 c0))] (.int 0)
set_option maxRecDepth 65536 in
set_option maxHeartbeats 40000000 in
theorem rmT_1 (l : Launch) (Z : State) (a0 : Array Value) (hw : own_H Z a0) (ws : List Jvm.Cond) (ar : Nat) (k : ClassId) (c0 : Int32) (h0 : Heap) (n0 : Nat) (XO0 : Old Z n0 h0) (S_ad : Sta Z Z.heap "java/lang/StringUTF16" "$assertionsDisabled" "Z" (.int 1)) (S_hi : Sta Z Z.heap "java/lang/StringUTF16" "HI_BYTE_SHIFT" "I" (.int 0)) (S_lo : Sta Z Z.heap "java/lang/StringUTF16" "LO_BYTE_SHIFT" "I" (.int 8)) (V_a : Arv Z h0 ar k .char (1 : Int32) [(.int c0)] (.int 0)) :
    own_M l Z ym16 jdk_52_method_14_code ws 5 (some (.array .byte)) (own_R 2 1 2 24) #[(.ref ar), (.int 0), (.int 1)] h0 (Q_rmT_1 Z ar k c0 h0 n0) := by
  refine own_open (plainFor_of_name pn_0) ?_
  intro p e s m below meth c s₁ hx hby hlk hret hml hown hnm hZ X0 e0
  have hW := own_hW hw
  have N0 := Fr.nil n0
  refine own_of (fun tt_ kk_ => castTop (ef_rmT_1 m ar (0 : Int32) (1 : Int32)) kk_) ?_
  show own_go p e below s _ _ _ (s₁.setTop (mkF m 0 #[.val (.ref ar), .val (.int 0), .val (.int 1), .unset, .unset] []))
  have K0 : Keep h0 h0 [] := Keep.refl h0 []
  have lt_ar := own_lt V_a.lt
  refine own_of (fun tt_ => XS.iloadN X0.here hx rfl (hb hby d17_0) rfl) ?_
  show own_go p e below s _ _ _ (s₁.setTop (mkF m 1 #[.val (.ref ar), .val (.int 0), .val (.int 1), .unset, .unset] [(.int 1)]))
  obtain ⟨_, _, ⟨T1, L1, k1, n1⟩, -, X1, ⟨Lc1, hQ1, l1, y1, z1⟩, st1⟩ := Jvm.LawKit.callS X0 hx (y := ym20) hown (mvT hZ (hW 82 _ rfl)) (mvT hZ (hW 83 _ rfl)) (mvT hZ (hW 35 _ rfl)) (mvT hZ (hW 84 _ rfl)) (by decide) (backOf (W := 0) (rmF_1 l Z a0 hw [] h0 n0 XO0) hZ (hW 84 _ rfl) (hW 35 _ rfl) (by decide) (by decide)) (g := (mkF m 1 #[.val (.ref ar), .val (.int 0), .val (.int 1), .unset, .unset] [(.int 1)])) rfl (by rw [hml]; rfl) (argsL := [(.int 1)]) (rest := []) (lenOf pd_1 rfl) rfl (by show 2 * 0 + _ ≤ _; exact Nat.le_of_eq rfl) (hb hby d17_1) (fun _ _ => ⟨rfl, e0, (by decide : 0 + 1 ≤ _), (by decide : 0 + 2 ≤ _)⟩)
  dsimp only [Pt.U, Pt.locs, Pt.cells, Pt.slots] at X1 l1 y1 z1 st1 hQ1
  subst l1 y1 z1
  obtain ⟨x1, kb1, rfl, Nq1, Kp1, gx1, Vx1⟩ := hQ1
  have N1 := Fr.app N0 Nq1
  refine own_of st1 ?_
  have sz1 : h0.size ≤ T1.heap.size := Kp1.1
  have O1 : Old Z n0 T1.heap := XO0.keep Kp1 all0
  have K1 : Keep h0 T1.heap [] := K0.trans Kp1 all0
  have ltx1 := own_lt Vx1.lt
  have g0x1 : n0 ≤ x1 := by have := XO0.1 ▸ XO0.2.1; omega
  show own_go p e below s _ _ _ (T1.setTop (mkF m 4 #[.val (.ref ar), .val (.int 0), .val (.int 1), .unset, .unset] [(.ref x1)]))
  refine own_of (fun tt_ => XS.astoreN X1.here hx rfl (hb hby d17_4) rfl rfl (l' := #[.val (.ref ar), .val (.int 0), .val (.int 1), .val (.ref x1), .unset]) rfl) ?_
  refine own_of (fun tt_ => XS.iconst X1.here hx rfl (hb hby d17_5)) ?_
  refine own_of (fun tt_ => XS.istore X1.here hx rfl (hb hby d17_6) rfl (l' := #[.val (.ref ar), .val (.int 0), .val (.int 1), .val (.ref x1), .val (.int 0)]) rfl) ?_
  refine own_of (fun tt_ => XS.iload X1.here hx rfl (hb hby d17_8) rfl) ?_
  refine own_of (fun tt_ => XS.iloadN X1.here hx rfl (hb hby d17_10) rfl) ?_
  have hb11_2 : (0 : Int32) < (1 : Int32) := by decide
  refine own_of (fun tt_ => XS.icmpNo X1.here hx rfl (hb hby d17_11) rfl (tlt hb11_2).2.1) ?_
  show own_go p e below s _ _ _ (T1.setTop (mkF m 14 #[.val (.ref ar), .val (.int 0), .val (.int 1), .val (.ref x1), .val (.int 0)] []))
  refine own_of (fun tt_ => XS.aloadN X1.here hx rfl (hb hby d17_14) rfl rfl) ?_
  refine own_of (fun tt_ => XS.iload X1.here hx rfl (hb hby d17_15) rfl) ?_
  refine own_of (fun tt_ => XS.aloadN X1.here hx rfl (hb hby d17_17) rfl rfl) ?_
  refine own_of (fun tt_ => XS.iloadN X1.here hx rfl (hb hby d17_18) rfl) ?_
  have f3 : Arv Z T1.heap ar k .char (1 : Int32) [(.int c0)] (.int 0) := (V_a.keep Kp1 nin0)
  obtain ⟨cl4, Ar4, q4, S4, Ng4, H4, G4⟩ := id f3
  have hin4 : ¬ ((0 : Int32) < 0 ∨ cl4.slots.size ≤ ((0 : Int32)).toNatClampNeg) := inb_of S4 ⟨by decide, by decide⟩
  have hat4 : cl4.slots[((0 : Int32)).toNatClampNeg]? = some (.int c0) := H4 0 (by rw [S4]; decide)
  refine own_of (fun tt_ => X1.caload hx (j := (0 : Int32)) (v := (.int c0)) Ar4.1 (State.isArrayOf_alike hZ.alike Ar4.2.1) Ar4.2.2 hin4 hat4 (g := (mkF m 19 #[.val (.ref ar), .val (.int 0), .val (.int 1), .val (.ref x1), .val (.int 0)] [(.int 0), (.ref ar), (.int 0), (.ref x1)])) rfl rfl (hb hby d17_19) _) ?_
  show own_go p e below s _ _ _ (T1.setTop (mkF m 20 #[.val (.ref ar), .val (.int 0), .val (.int 1), .val (.ref x1), .val (.int 0)] [(.int c0), (.int 0), (.ref x1)]))
  obtain ⟨_, _, ⟨T5, L5, k5, n5⟩, -, X5, ⟨Lc5, hQ5, l5, y5, z5⟩, st5⟩ := Jvm.LawKit.callS X1 hx (y := ym9) hown (mvT hZ (hW 89 _ rfl)) (mvT hZ (hW 90 _ rfl)) (mvT hZ (hW 35 _ rfl)) (mvT hZ (hW 91 _ rfl)) (by decide) (backOf (W := 0) (rmP_1_0 l Z a0 hw [] x1 kb1 c0 (.int 0) (.int 0) T1.heap n0 O1 S_ad S_hi S_lo (by omega) Vx1) hZ (hW 91 _ rfl) (hW 35 _ rfl) (by decide) (by decide)) (g := (mkF m 20 #[.val (.ref ar), .val (.int 0), .val (.int 1), .val (.ref x1), .val (.int 0)] [(.int c0), (.int 0), (.ref x1)])) rfl (by rw [hml]; rfl) (argsL := [(.ref x1), (.int 0), (.int c0)]) (rest := []) (lenOf pd_2 rfl) rfl (by show 2 * 0 + _ ≤ _; exact Nat.le_of_eq rfl) (hb hby d17_20) (fun _ _ => ⟨rfl, rfl, (by decide : 1 + 0 ≤ _), (by decide : 2 + 0 ≤ _)⟩)
  dsimp only [Pt.U, Pt.locs, Pt.cells, Pt.slots] at X5 l5 y5 z5 st5 hQ5
  subst l5 y5 z5
  obtain ⟨rfl, Nq5, Kp5, Vy5⟩ := hQ5
  have N5 := Fr.app N1 Nq5
  refine own_of st5 ?_
  have sz5 : T1.heap.size ≤ T5.heap.size := Kp5.1
  have O5 : Old Z n0 T5.heap := O1.keep Kp5 (allS (by omega) all0)
  have K5 : Keep h0 T5.heap [] := K1.trans Kp5 (allS (Or.inr (by omega)) all0)
  show own_go p e below s _ _ _ (T5.setTop (mkF m 23 #[.val (.ref ar), .val (.int 0), .val (.int 1), .val (.ref x1), .val (.int 0)] []))
  refine own_of (fun tt_ => XS.iinc X5.here hx rfl (hb hby d17_23) rfl (l' := #[.val (.ref ar), .val (.int 1), .val (.int 1), .val (.ref x1), .val (.int 0)]) rfl) ?_
  refine own_of (fun tt_ => XS.iinc X5.here hx rfl (hb hby d17_26) rfl (l' := #[.val (.ref ar), .val (.int 1), .val (.int 1), .val (.ref x1), .val (.int 1)]) rfl) ?_
  refine own_of (fun tt_ => XS.goto X5.here hx rfl (pc0 := 29) (pc' := 8) rfl (hb hby d17_29) (by decide) (by decide)) ?_
  refine own_of (fun tt_ => XS.iload X5.here hx rfl (hb hby d17_8) rfl) ?_
  refine own_of (fun tt_ => XS.iloadN X5.here hx rfl (hb hby d17_10) rfl) ?_
  have hb11_6 : ¬ ((1 : Int32) < (1 : Int32)) := by decide
  refine own_of (fun tt_ => XS.icmpYes X5.here hx rfl (pc0 := 11) (pc' := 32) rfl (hb hby d17_11) rfl (flt hb11_6).2.1 (by decide) (by decide)) ?_
  show own_go p e below s _ _ _ (T5.setTop (mkF m 32 #[.val (.ref ar), .val (.int 1), .val (.int 1), .val (.ref x1), .val (.int 1)] []))
  refine own_of (fun tt_ => XS.aloadN X5.here hx rfl (hb hby d17_32) rfl rfl) ?_
  show own_go p e below s _ _ _ (T5.setTop (mkF m 33 #[.val (.ref ar), .val (.int 1), .val (.int 1), .val (.ref x1), .val (.int 1)] [(.ref x1)]))
  refine own_ret X5 hx hlk hret rfl (Or.inr (Or.inr (Or.inr (Or.inr ⟨rfl, rfl, rfl⟩)))) (hb hby d17_33) (by decide) (by decide) ?_
  skip
  exact ⟨x1, kb1, rfl, N5, K5, by omega, Vy5⟩
theorem ef_rmT_2 (m : MethodId) (x0 : Nat) (x1 : Int32) (x2 : Int32) : entryFrame m #[(.ref x0), (.int x1), (.int x2)] 5 = mkF m 0 #[.val (.ref x0), .val (.int x1), .val (.int x2), .unset, .unset] [] := by first | (simp [entryFrame, mkF, argsToLocals, Value.category]; done) | rfl
def Q_rmT_2 (Z : State) (ar : Nat) (k : ClassId) (c0 : Int32) (c1 : Int32) (h0 : Heap) (n0 : Nat) (v : Option Value) (h : Heap) (L : List Loc) : Prop := ∃ (a : Nat) (kb : ClassId), v = some (.ref a) ∧ Fr n0 L ∧ Keep h0 h [] ∧ h0.size ≤ a ∧ Arv Z h a kb .byte (4 : Int32) [(.int (StrChars.lo8 c0)), (.int (StrChars.hi8 c0)), (.int (StrChars.lo8 c1)), (.int (StrChars.hi8 c1))] (.int 0)
set_option maxRecDepth 65536 in
set_option maxHeartbeats 40000000 in
theorem rmT_2 (l : Launch) (Z : State) (a0 : Array Value) (hw : own_H Z a0) (ws : List Jvm.Cond) (ar : Nat) (k : ClassId) (c0 : Int32) (c1 : Int32) (h0 : Heap) (n0 : Nat) (XO0 : Old Z n0 h0) (S_ad : Sta Z Z.heap "java/lang/StringUTF16" "$assertionsDisabled" "Z" (.int 1)) (S_hi : Sta Z Z.heap "java/lang/StringUTF16" "HI_BYTE_SHIFT" "I" (.int 0)) (S_lo : Sta Z Z.heap "java/lang/StringUTF16" "LO_BYTE_SHIFT" "I" (.int 8)) (V_a : Arv Z h0 ar k .char (2 : Int32) [(.int c0), (.int c1)] (.int 0)) :
    own_M l Z ym16 jdk_52_method_14_code ws 5 (some (.array .byte)) (own_R 2 1 4 24) #[(.ref ar), (.int 0), (.int 2)] h0 (Q_rmT_2 Z ar k c0 c1 h0 n0) := by
  refine own_open (plainFor_of_name pn_0) ?_
  intro p e s m below meth c s₁ hx hby hlk hret hml hown hnm hZ X0 e0
  have hW := own_hW hw
  have N0 := Fr.nil n0
  refine own_of (fun tt_ kk_ => castTop (ef_rmT_2 m ar (0 : Int32) (2 : Int32)) kk_) ?_
  show own_go p e below s _ _ _ (s₁.setTop (mkF m 0 #[.val (.ref ar), .val (.int 0), .val (.int 2), .unset, .unset] []))
  have K0 : Keep h0 h0 [] := Keep.refl h0 []
  have lt_ar := own_lt V_a.lt
  refine own_of (fun tt_ => XS.iloadN X0.here hx rfl (hb hby d17_0) rfl) ?_
  show own_go p e below s _ _ _ (s₁.setTop (mkF m 1 #[.val (.ref ar), .val (.int 0), .val (.int 2), .unset, .unset] [(.int 2)]))
  obtain ⟨_, _, ⟨T1, L1, k1, n1⟩, -, X1, ⟨Lc1, hQ1, l1, y1, z1⟩, st1⟩ := Jvm.LawKit.callS X0 hx (y := ym20) hown (mvT hZ (hW 82 _ rfl)) (mvT hZ (hW 83 _ rfl)) (mvT hZ (hW 35 _ rfl)) (mvT hZ (hW 84 _ rfl)) (by decide) (backOf (W := 0) (rmF_2 l Z a0 hw [] h0 n0 XO0) hZ (hW 84 _ rfl) (hW 35 _ rfl) (by decide) (by decide)) (g := (mkF m 1 #[.val (.ref ar), .val (.int 0), .val (.int 2), .unset, .unset] [(.int 2)])) rfl (by rw [hml]; rfl) (argsL := [(.int 2)]) (rest := []) (lenOf pd_1 rfl) rfl (by show 2 * 0 + _ ≤ _; exact Nat.le_of_eq rfl) (hb hby d17_1) (fun _ _ => ⟨rfl, e0, (by decide : 0 + 1 ≤ _), (by decide : 0 + 4 ≤ _)⟩)
  dsimp only [Pt.U, Pt.locs, Pt.cells, Pt.slots] at X1 l1 y1 z1 st1 hQ1
  subst l1 y1 z1
  obtain ⟨x1, kb1, rfl, Nq1, Kp1, gx1, Vx1⟩ := hQ1
  have N1 := Fr.app N0 Nq1
  refine own_of st1 ?_
  have sz1 : h0.size ≤ T1.heap.size := Kp1.1
  have O1 : Old Z n0 T1.heap := XO0.keep Kp1 all0
  have K1 : Keep h0 T1.heap [] := K0.trans Kp1 all0
  have ltx1 := own_lt Vx1.lt
  have g0x1 : n0 ≤ x1 := by have := XO0.1 ▸ XO0.2.1; omega
  show own_go p e below s _ _ _ (T1.setTop (mkF m 4 #[.val (.ref ar), .val (.int 0), .val (.int 2), .unset, .unset] [(.ref x1)]))
  refine own_of (fun tt_ => XS.astoreN X1.here hx rfl (hb hby d17_4) rfl rfl (l' := #[.val (.ref ar), .val (.int 0), .val (.int 2), .val (.ref x1), .unset]) rfl) ?_
  refine own_of (fun tt_ => XS.iconst X1.here hx rfl (hb hby d17_5)) ?_
  refine own_of (fun tt_ => XS.istore X1.here hx rfl (hb hby d17_6) rfl (l' := #[.val (.ref ar), .val (.int 0), .val (.int 2), .val (.ref x1), .val (.int 0)]) rfl) ?_
  refine own_of (fun tt_ => XS.iload X1.here hx rfl (hb hby d17_8) rfl) ?_
  refine own_of (fun tt_ => XS.iloadN X1.here hx rfl (hb hby d17_10) rfl) ?_
  have hb11_2 : (0 : Int32) < (2 : Int32) := by decide
  refine own_of (fun tt_ => XS.icmpNo X1.here hx rfl (hb hby d17_11) rfl (tlt hb11_2).2.1) ?_
  show own_go p e below s _ _ _ (T1.setTop (mkF m 14 #[.val (.ref ar), .val (.int 0), .val (.int 2), .val (.ref x1), .val (.int 0)] []))
  refine own_of (fun tt_ => XS.aloadN X1.here hx rfl (hb hby d17_14) rfl rfl) ?_
  refine own_of (fun tt_ => XS.iload X1.here hx rfl (hb hby d17_15) rfl) ?_
  refine own_of (fun tt_ => XS.aloadN X1.here hx rfl (hb hby d17_17) rfl rfl) ?_
  refine own_of (fun tt_ => XS.iloadN X1.here hx rfl (hb hby d17_18) rfl) ?_
  have f3 : Arv Z T1.heap ar k .char (2 : Int32) [(.int c0), (.int c1)] (.int 0) := (V_a.keep Kp1 nin0)
  obtain ⟨cl4, Ar4, q4, S4, Ng4, H4, G4⟩ := id f3
  have hin4 : ¬ ((0 : Int32) < 0 ∨ cl4.slots.size ≤ ((0 : Int32)).toNatClampNeg) := inb_of S4 ⟨by decide, by decide⟩
  have hat4 : cl4.slots[((0 : Int32)).toNatClampNeg]? = some (.int c0) := H4 0 (by rw [S4]; decide)
  refine own_of (fun tt_ => X1.caload hx (j := (0 : Int32)) (v := (.int c0)) Ar4.1 (State.isArrayOf_alike hZ.alike Ar4.2.1) Ar4.2.2 hin4 hat4 (g := (mkF m 19 #[.val (.ref ar), .val (.int 0), .val (.int 2), .val (.ref x1), .val (.int 0)] [(.int 0), (.ref ar), (.int 0), (.ref x1)])) rfl rfl (hb hby d17_19) _) ?_
  show own_go p e below s _ _ _ (T1.setTop (mkF m 20 #[.val (.ref ar), .val (.int 0), .val (.int 2), .val (.ref x1), .val (.int 0)] [(.int c0), (.int 0), (.ref x1)]))
  obtain ⟨_, _, ⟨T5, L5, k5, n5⟩, -, X5, ⟨Lc5, hQ5, l5, y5, z5⟩, st5⟩ := Jvm.LawKit.callS X1 hx (y := ym9) hown (mvT hZ (hW 89 _ rfl)) (mvT hZ (hW 90 _ rfl)) (mvT hZ (hW 35 _ rfl)) (mvT hZ (hW 91 _ rfl)) (by decide) (backOf (W := 0) (rmP_2_0 l Z a0 hw [] x1 kb1 c0 (.int 0) (.int 0) (.int 0) (.int 0) T1.heap n0 O1 S_ad S_hi S_lo (by omega) Vx1) hZ (hW 91 _ rfl) (hW 35 _ rfl) (by decide) (by decide)) (g := (mkF m 20 #[.val (.ref ar), .val (.int 0), .val (.int 2), .val (.ref x1), .val (.int 0)] [(.int c0), (.int 0), (.ref x1)])) rfl (by rw [hml]; rfl) (argsL := [(.ref x1), (.int 0), (.int c0)]) (rest := []) (lenOf pd_2 rfl) rfl (by show 2 * 0 + _ ≤ _; exact Nat.le_of_eq rfl) (hb hby d17_20) (fun _ _ => ⟨rfl, rfl, (by decide : 1 + 0 ≤ _), (by decide : 4 + 0 ≤ _)⟩)
  dsimp only [Pt.U, Pt.locs, Pt.cells, Pt.slots] at X5 l5 y5 z5 st5 hQ5
  subst l5 y5 z5
  obtain ⟨rfl, Nq5, Kp5, Vy5⟩ := hQ5
  have N5 := Fr.app N1 Nq5
  refine own_of st5 ?_
  have sz5 : T1.heap.size ≤ T5.heap.size := Kp5.1
  have O5 : Old Z n0 T5.heap := O1.keep Kp5 (allS (by omega) all0)
  have K5 : Keep h0 T5.heap [] := K1.trans Kp5 (allS (Or.inr (by omega)) all0)
  show own_go p e below s _ _ _ (T5.setTop (mkF m 23 #[.val (.ref ar), .val (.int 0), .val (.int 2), .val (.ref x1), .val (.int 0)] []))
  refine own_of (fun tt_ => XS.iinc X5.here hx rfl (hb hby d17_23) rfl (l' := #[.val (.ref ar), .val (.int 1), .val (.int 2), .val (.ref x1), .val (.int 0)]) rfl) ?_
  refine own_of (fun tt_ => XS.iinc X5.here hx rfl (hb hby d17_26) rfl (l' := #[.val (.ref ar), .val (.int 1), .val (.int 2), .val (.ref x1), .val (.int 1)]) rfl) ?_
  refine own_of (fun tt_ => XS.goto X5.here hx rfl (pc0 := 29) (pc' := 8) rfl (hb hby d17_29) (by decide) (by decide)) ?_
  refine own_of (fun tt_ => XS.iload X5.here hx rfl (hb hby d17_8) rfl) ?_
  refine own_of (fun tt_ => XS.iloadN X5.here hx rfl (hb hby d17_10) rfl) ?_
  have hb11_6 : (1 : Int32) < (2 : Int32) := by decide
  refine own_of (fun tt_ => XS.icmpNo X5.here hx rfl (hb hby d17_11) rfl (tlt hb11_6).2.1) ?_
  show own_go p e below s _ _ _ (T5.setTop (mkF m 14 #[.val (.ref ar), .val (.int 1), .val (.int 2), .val (.ref x1), .val (.int 1)] []))
  refine own_of (fun tt_ => XS.aloadN X5.here hx rfl (hb hby d17_14) rfl rfl) ?_
  refine own_of (fun tt_ => XS.iload X5.here hx rfl (hb hby d17_15) rfl) ?_
  refine own_of (fun tt_ => XS.aloadN X5.here hx rfl (hb hby d17_17) rfl rfl) ?_
  refine own_of (fun tt_ => XS.iloadN X5.here hx rfl (hb hby d17_18) rfl) ?_
  have f7 : Arv Z T5.heap ar k .char (2 : Int32) [(.int c0), (.int c1)] (.int 0) := (f3.keep Kp5 (ninS (own_ne (by omega)) nin0))
  obtain ⟨cl8, Ar8, q8, S8, Ng8, H8, G8⟩ := id f7
  have hin8 : ¬ ((1 : Int32) < 0 ∨ cl8.slots.size ≤ ((1 : Int32)).toNatClampNeg) := inb_of S8 ⟨by decide, by decide⟩
  have hat8 : cl8.slots[((1 : Int32)).toNatClampNeg]? = some (.int c1) := H8 1 (by rw [S8]; decide)
  refine own_of (fun tt_ => X5.caload hx (j := (1 : Int32)) (v := (.int c1)) Ar8.1 (State.isArrayOf_alike hZ.alike Ar8.2.1) Ar8.2.2 hin8 hat8 (g := (mkF m 19 #[.val (.ref ar), .val (.int 1), .val (.int 2), .val (.ref x1), .val (.int 1)] [(.int 1), (.ref ar), (.int 1), (.ref x1)])) rfl rfl (hb hby d17_19) _) ?_
  show own_go p e below s _ _ _ (T5.setTop (mkF m 20 #[.val (.ref ar), .val (.int 1), .val (.int 2), .val (.ref x1), .val (.int 1)] [(.int c1), (.int 1), (.ref x1)]))
  obtain ⟨_, _, ⟨T9, L9, k9, n9⟩, -, X9, ⟨Lc9, hQ9, l9, y9, z9⟩, st9⟩ := Jvm.LawKit.callS X5 hx (y := ym9) hown (mvT hZ (hW 89 _ rfl)) (mvT hZ (hW 90 _ rfl)) (mvT hZ (hW 35 _ rfl)) (mvT hZ (hW 91 _ rfl)) (by decide) (backOf (W := 0) (rmP_2_1 l Z a0 hw [] x1 kb1 c1 (.int (StrChars.lo8 c0)) (.int (StrChars.hi8 c0)) (.int 0) (.int 0) T5.heap n0 O5 S_ad S_hi S_lo (by omega) Vy5) hZ (hW 91 _ rfl) (hW 35 _ rfl) (by decide) (by decide)) (g := (mkF m 20 #[.val (.ref ar), .val (.int 1), .val (.int 2), .val (.ref x1), .val (.int 1)] [(.int c1), (.int 1), (.ref x1)])) rfl (by rw [hml]; rfl) (argsL := [(.ref x1), (.int 1), (.int c1)]) (rest := []) (lenOf pd_2 rfl) rfl (by show 2 * 0 + _ ≤ _; exact Nat.le_of_eq rfl) (hb hby d17_20) (fun _ _ => ⟨rfl, rfl, (by decide : 1 + 0 ≤ _), (by decide : 4 + 0 ≤ _)⟩)
  dsimp only [Pt.U, Pt.locs, Pt.cells, Pt.slots] at X9 l9 y9 z9 st9 hQ9
  subst l9 y9 z9
  obtain ⟨rfl, Nq9, Kp9, Vy9⟩ := hQ9
  have N9 := Fr.app N5 Nq9
  refine own_of st9 ?_
  have sz9 : T5.heap.size ≤ T9.heap.size := Kp9.1
  have O9 : Old Z n0 T9.heap := O5.keep Kp9 (allS (by omega) all0)
  have K9 : Keep h0 T9.heap [] := K5.trans Kp9 (allS (Or.inr (by omega)) all0)
  show own_go p e below s _ _ _ (T9.setTop (mkF m 23 #[.val (.ref ar), .val (.int 1), .val (.int 2), .val (.ref x1), .val (.int 1)] []))
  refine own_of (fun tt_ => XS.iinc X9.here hx rfl (hb hby d17_23) rfl (l' := #[.val (.ref ar), .val (.int 2), .val (.int 2), .val (.ref x1), .val (.int 1)]) rfl) ?_
  refine own_of (fun tt_ => XS.iinc X9.here hx rfl (hb hby d17_26) rfl (l' := #[.val (.ref ar), .val (.int 2), .val (.int 2), .val (.ref x1), .val (.int 2)]) rfl) ?_
  refine own_of (fun tt_ => XS.goto X9.here hx rfl (pc0 := 29) (pc' := 8) rfl (hb hby d17_29) (by decide) (by decide)) ?_
  refine own_of (fun tt_ => XS.iload X9.here hx rfl (hb hby d17_8) rfl) ?_
  refine own_of (fun tt_ => XS.iloadN X9.here hx rfl (hb hby d17_10) rfl) ?_
  have hb11_10 : ¬ ((2 : Int32) < (2 : Int32)) := by decide
  refine own_of (fun tt_ => XS.icmpYes X9.here hx rfl (pc0 := 11) (pc' := 32) rfl (hb hby d17_11) rfl (flt hb11_10).2.1 (by decide) (by decide)) ?_
  show own_go p e below s _ _ _ (T9.setTop (mkF m 32 #[.val (.ref ar), .val (.int 2), .val (.int 2), .val (.ref x1), .val (.int 2)] []))
  refine own_of (fun tt_ => XS.aloadN X9.here hx rfl (hb hby d17_32) rfl rfl) ?_
  show own_go p e below s _ _ _ (T9.setTop (mkF m 33 #[.val (.ref ar), .val (.int 2), .val (.int 2), .val (.ref x1), .val (.int 2)] [(.ref x1)]))
  refine own_ret X9 hx hlk hret rfl (Or.inr (Or.inr (Or.inr (Or.inr ⟨rfl, rfl, rfl⟩)))) (hb hby d17_33) (by decide) (by decide) ?_
  skip
  exact ⟨x1, kb1, rfl, N9, K9, by omega, Vy9⟩
theorem ef_rmT_3 (m : MethodId) (x0 : Nat) (x1 : Int32) (x2 : Int32) : entryFrame m #[(.ref x0), (.int x1), (.int x2)] 5 = mkF m 0 #[.val (.ref x0), .val (.int x1), .val (.int x2), .unset, .unset] [] := by first | (simp [entryFrame, mkF, argsToLocals, Value.category]; done) | rfl
def Q_rmT_3 (Z : State) (ar : Nat) (k : ClassId) (c0 : Int32) (c1 : Int32) (c2 : Int32) (h0 : Heap) (n0 : Nat) (v : Option Value) (h : Heap) (L : List Loc) : Prop := ∃ (a : Nat) (kb : ClassId), v = some (.ref a) ∧ Fr n0 L ∧ Keep h0 h [] ∧ h0.size ≤ a ∧ Arv Z h a kb .byte (6 : Int32) [(.int (StrChars.lo8 c0)), (.int (StrChars.hi8 c0)), (.int (StrChars.lo8 c1)), (.int (StrChars.hi8 c1)), (.int (StrChars.lo8 c2)), (.int (StrChars.hi8 c2))] (.int 0)
set_option maxRecDepth 65536 in
set_option maxHeartbeats 40000000 in
theorem rmT_3 (l : Launch) (Z : State) (a0 : Array Value) (hw : own_H Z a0) (ws : List Jvm.Cond) (ar : Nat) (k : ClassId) (c0 : Int32) (c1 : Int32) (c2 : Int32) (h0 : Heap) (n0 : Nat) (XO0 : Old Z n0 h0) (S_ad : Sta Z Z.heap "java/lang/StringUTF16" "$assertionsDisabled" "Z" (.int 1)) (S_hi : Sta Z Z.heap "java/lang/StringUTF16" "HI_BYTE_SHIFT" "I" (.int 0)) (S_lo : Sta Z Z.heap "java/lang/StringUTF16" "LO_BYTE_SHIFT" "I" (.int 8)) (V_a : Arv Z h0 ar k .char (3 : Int32) [(.int c0), (.int c1), (.int c2)] (.int 0)) :
    own_M l Z ym16 jdk_52_method_14_code ws 5 (some (.array .byte)) (own_R 2 1 6 24) #[(.ref ar), (.int 0), (.int 3)] h0 (Q_rmT_3 Z ar k c0 c1 c2 h0 n0) := by
  refine own_open (plainFor_of_name pn_0) ?_
  intro p e s m below meth c s₁ hx hby hlk hret hml hown hnm hZ X0 e0
  have hW := own_hW hw
  have N0 := Fr.nil n0
  refine own_of (fun tt_ kk_ => castTop (ef_rmT_3 m ar (0 : Int32) (3 : Int32)) kk_) ?_
  show own_go p e below s _ _ _ (s₁.setTop (mkF m 0 #[.val (.ref ar), .val (.int 0), .val (.int 3), .unset, .unset] []))
  have K0 : Keep h0 h0 [] := Keep.refl h0 []
  have lt_ar := own_lt V_a.lt
  refine own_of (fun tt_ => XS.iloadN X0.here hx rfl (hb hby d17_0) rfl) ?_
  show own_go p e below s _ _ _ (s₁.setTop (mkF m 1 #[.val (.ref ar), .val (.int 0), .val (.int 3), .unset, .unset] [(.int 3)]))
  obtain ⟨_, _, ⟨T1, L1, k1, n1⟩, -, X1, ⟨Lc1, hQ1, l1, y1, z1⟩, st1⟩ := Jvm.LawKit.callS X0 hx (y := ym20) hown (mvT hZ (hW 82 _ rfl)) (mvT hZ (hW 83 _ rfl)) (mvT hZ (hW 35 _ rfl)) (mvT hZ (hW 84 _ rfl)) (by decide) (backOf (W := 0) (rmF_3 l Z a0 hw [] h0 n0 XO0) hZ (hW 84 _ rfl) (hW 35 _ rfl) (by decide) (by decide)) (g := (mkF m 1 #[.val (.ref ar), .val (.int 0), .val (.int 3), .unset, .unset] [(.int 3)])) rfl (by rw [hml]; rfl) (argsL := [(.int 3)]) (rest := []) (lenOf pd_1 rfl) rfl (by show 2 * 0 + _ ≤ _; exact Nat.le_of_eq rfl) (hb hby d17_1) (fun _ _ => ⟨rfl, e0, (by decide : 0 + 1 ≤ _), (by decide : 0 + 6 ≤ _)⟩)
  dsimp only [Pt.U, Pt.locs, Pt.cells, Pt.slots] at X1 l1 y1 z1 st1 hQ1
  subst l1 y1 z1
  obtain ⟨x1, kb1, rfl, Nq1, Kp1, gx1, Vx1⟩ := hQ1
  have N1 := Fr.app N0 Nq1
  refine own_of st1 ?_
  have sz1 : h0.size ≤ T1.heap.size := Kp1.1
  have O1 : Old Z n0 T1.heap := XO0.keep Kp1 all0
  have K1 : Keep h0 T1.heap [] := K0.trans Kp1 all0
  have ltx1 := own_lt Vx1.lt
  have g0x1 : n0 ≤ x1 := by have := XO0.1 ▸ XO0.2.1; omega
  show own_go p e below s _ _ _ (T1.setTop (mkF m 4 #[.val (.ref ar), .val (.int 0), .val (.int 3), .unset, .unset] [(.ref x1)]))
  refine own_of (fun tt_ => XS.astoreN X1.here hx rfl (hb hby d17_4) rfl rfl (l' := #[.val (.ref ar), .val (.int 0), .val (.int 3), .val (.ref x1), .unset]) rfl) ?_
  refine own_of (fun tt_ => XS.iconst X1.here hx rfl (hb hby d17_5)) ?_
  refine own_of (fun tt_ => XS.istore X1.here hx rfl (hb hby d17_6) rfl (l' := #[.val (.ref ar), .val (.int 0), .val (.int 3), .val (.ref x1), .val (.int 0)]) rfl) ?_
  refine own_of (fun tt_ => XS.iload X1.here hx rfl (hb hby d17_8) rfl) ?_
  refine own_of (fun tt_ => XS.iloadN X1.here hx rfl (hb hby d17_10) rfl) ?_
  have hb11_2 : (0 : Int32) < (3 : Int32) := by decide
  refine own_of (fun tt_ => XS.icmpNo X1.here hx rfl (hb hby d17_11) rfl (tlt hb11_2).2.1) ?_
  show own_go p e below s _ _ _ (T1.setTop (mkF m 14 #[.val (.ref ar), .val (.int 0), .val (.int 3), .val (.ref x1), .val (.int 0)] []))
  refine own_of (fun tt_ => XS.aloadN X1.here hx rfl (hb hby d17_14) rfl rfl) ?_
  refine own_of (fun tt_ => XS.iload X1.here hx rfl (hb hby d17_15) rfl) ?_
  refine own_of (fun tt_ => XS.aloadN X1.here hx rfl (hb hby d17_17) rfl rfl) ?_
  refine own_of (fun tt_ => XS.iloadN X1.here hx rfl (hb hby d17_18) rfl) ?_
  have f3 : Arv Z T1.heap ar k .char (3 : Int32) [(.int c0), (.int c1), (.int c2)] (.int 0) := (V_a.keep Kp1 nin0)
  obtain ⟨cl4, Ar4, q4, S4, Ng4, H4, G4⟩ := id f3
  have hin4 : ¬ ((0 : Int32) < 0 ∨ cl4.slots.size ≤ ((0 : Int32)).toNatClampNeg) := inb_of S4 ⟨by decide, by decide⟩
  have hat4 : cl4.slots[((0 : Int32)).toNatClampNeg]? = some (.int c0) := H4 0 (by rw [S4]; decide)
  refine own_of (fun tt_ => X1.caload hx (j := (0 : Int32)) (v := (.int c0)) Ar4.1 (State.isArrayOf_alike hZ.alike Ar4.2.1) Ar4.2.2 hin4 hat4 (g := (mkF m 19 #[.val (.ref ar), .val (.int 0), .val (.int 3), .val (.ref x1), .val (.int 0)] [(.int 0), (.ref ar), (.int 0), (.ref x1)])) rfl rfl (hb hby d17_19) _) ?_
  show own_go p e below s _ _ _ (T1.setTop (mkF m 20 #[.val (.ref ar), .val (.int 0), .val (.int 3), .val (.ref x1), .val (.int 0)] [(.int c0), (.int 0), (.ref x1)]))
  obtain ⟨_, _, ⟨T5, L5, k5, n5⟩, -, X5, ⟨Lc5, hQ5, l5, y5, z5⟩, st5⟩ := Jvm.LawKit.callS X1 hx (y := ym9) hown (mvT hZ (hW 89 _ rfl)) (mvT hZ (hW 90 _ rfl)) (mvT hZ (hW 35 _ rfl)) (mvT hZ (hW 91 _ rfl)) (by decide) (backOf (W := 0) (rmP_3_0 l Z a0 hw [] x1 kb1 c0 (.int 0) (.int 0) (.int 0) (.int 0) (.int 0) (.int 0) T1.heap n0 O1 S_ad S_hi S_lo (by omega) Vx1) hZ (hW 91 _ rfl) (hW 35 _ rfl) (by decide) (by decide)) (g := (mkF m 20 #[.val (.ref ar), .val (.int 0), .val (.int 3), .val (.ref x1), .val (.int 0)] [(.int c0), (.int 0), (.ref x1)])) rfl (by rw [hml]; rfl) (argsL := [(.ref x1), (.int 0), (.int c0)]) (rest := []) (lenOf pd_2 rfl) rfl (by show 2 * 0 + _ ≤ _; exact Nat.le_of_eq rfl) (hb hby d17_20) (fun _ _ => ⟨rfl, rfl, (by decide : 1 + 0 ≤ _), (by decide : 6 + 0 ≤ _)⟩)
  dsimp only [Pt.U, Pt.locs, Pt.cells, Pt.slots] at X5 l5 y5 z5 st5 hQ5
  subst l5 y5 z5
  obtain ⟨rfl, Nq5, Kp5, Vy5⟩ := hQ5
  have N5 := Fr.app N1 Nq5
  refine own_of st5 ?_
  have sz5 : T1.heap.size ≤ T5.heap.size := Kp5.1
  have O5 : Old Z n0 T5.heap := O1.keep Kp5 (allS (by omega) all0)
  have K5 : Keep h0 T5.heap [] := K1.trans Kp5 (allS (Or.inr (by omega)) all0)
  show own_go p e below s _ _ _ (T5.setTop (mkF m 23 #[.val (.ref ar), .val (.int 0), .val (.int 3), .val (.ref x1), .val (.int 0)] []))
  refine own_of (fun tt_ => XS.iinc X5.here hx rfl (hb hby d17_23) rfl (l' := #[.val (.ref ar), .val (.int 1), .val (.int 3), .val (.ref x1), .val (.int 0)]) rfl) ?_
  refine own_of (fun tt_ => XS.iinc X5.here hx rfl (hb hby d17_26) rfl (l' := #[.val (.ref ar), .val (.int 1), .val (.int 3), .val (.ref x1), .val (.int 1)]) rfl) ?_
  refine own_of (fun tt_ => XS.goto X5.here hx rfl (pc0 := 29) (pc' := 8) rfl (hb hby d17_29) (by decide) (by decide)) ?_
  refine own_of (fun tt_ => XS.iload X5.here hx rfl (hb hby d17_8) rfl) ?_
  refine own_of (fun tt_ => XS.iloadN X5.here hx rfl (hb hby d17_10) rfl) ?_
  have hb11_6 : (1 : Int32) < (3 : Int32) := by decide
  refine own_of (fun tt_ => XS.icmpNo X5.here hx rfl (hb hby d17_11) rfl (tlt hb11_6).2.1) ?_
  show own_go p e below s _ _ _ (T5.setTop (mkF m 14 #[.val (.ref ar), .val (.int 1), .val (.int 3), .val (.ref x1), .val (.int 1)] []))
  refine own_of (fun tt_ => XS.aloadN X5.here hx rfl (hb hby d17_14) rfl rfl) ?_
  refine own_of (fun tt_ => XS.iload X5.here hx rfl (hb hby d17_15) rfl) ?_
  refine own_of (fun tt_ => XS.aloadN X5.here hx rfl (hb hby d17_17) rfl rfl) ?_
  refine own_of (fun tt_ => XS.iloadN X5.here hx rfl (hb hby d17_18) rfl) ?_
  have f7 : Arv Z T5.heap ar k .char (3 : Int32) [(.int c0), (.int c1), (.int c2)] (.int 0) := (f3.keep Kp5 (ninS (own_ne (by omega)) nin0))
  obtain ⟨cl8, Ar8, q8, S8, Ng8, H8, G8⟩ := id f7
  have hin8 : ¬ ((1 : Int32) < 0 ∨ cl8.slots.size ≤ ((1 : Int32)).toNatClampNeg) := inb_of S8 ⟨by decide, by decide⟩
  have hat8 : cl8.slots[((1 : Int32)).toNatClampNeg]? = some (.int c1) := H8 1 (by rw [S8]; decide)
  refine own_of (fun tt_ => X5.caload hx (j := (1 : Int32)) (v := (.int c1)) Ar8.1 (State.isArrayOf_alike hZ.alike Ar8.2.1) Ar8.2.2 hin8 hat8 (g := (mkF m 19 #[.val (.ref ar), .val (.int 1), .val (.int 3), .val (.ref x1), .val (.int 1)] [(.int 1), (.ref ar), (.int 1), (.ref x1)])) rfl rfl (hb hby d17_19) _) ?_
  show own_go p e below s _ _ _ (T5.setTop (mkF m 20 #[.val (.ref ar), .val (.int 1), .val (.int 3), .val (.ref x1), .val (.int 1)] [(.int c1), (.int 1), (.ref x1)]))
  obtain ⟨_, _, ⟨T9, L9, k9, n9⟩, -, X9, ⟨Lc9, hQ9, l9, y9, z9⟩, st9⟩ := Jvm.LawKit.callS X5 hx (y := ym9) hown (mvT hZ (hW 89 _ rfl)) (mvT hZ (hW 90 _ rfl)) (mvT hZ (hW 35 _ rfl)) (mvT hZ (hW 91 _ rfl)) (by decide) (backOf (W := 0) (rmP_3_1 l Z a0 hw [] x1 kb1 c1 (.int (StrChars.lo8 c0)) (.int (StrChars.hi8 c0)) (.int 0) (.int 0) (.int 0) (.int 0) T5.heap n0 O5 S_ad S_hi S_lo (by omega) Vy5) hZ (hW 91 _ rfl) (hW 35 _ rfl) (by decide) (by decide)) (g := (mkF m 20 #[.val (.ref ar), .val (.int 1), .val (.int 3), .val (.ref x1), .val (.int 1)] [(.int c1), (.int 1), (.ref x1)])) rfl (by rw [hml]; rfl) (argsL := [(.ref x1), (.int 1), (.int c1)]) (rest := []) (lenOf pd_2 rfl) rfl (by show 2 * 0 + _ ≤ _; exact Nat.le_of_eq rfl) (hb hby d17_20) (fun _ _ => ⟨rfl, rfl, (by decide : 1 + 0 ≤ _), (by decide : 6 + 0 ≤ _)⟩)
  dsimp only [Pt.U, Pt.locs, Pt.cells, Pt.slots] at X9 l9 y9 z9 st9 hQ9
  subst l9 y9 z9
  obtain ⟨rfl, Nq9, Kp9, Vy9⟩ := hQ9
  have N9 := Fr.app N5 Nq9
  refine own_of st9 ?_
  have sz9 : T5.heap.size ≤ T9.heap.size := Kp9.1
  have O9 : Old Z n0 T9.heap := O5.keep Kp9 (allS (by omega) all0)
  have K9 : Keep h0 T9.heap [] := K5.trans Kp9 (allS (Or.inr (by omega)) all0)
  show own_go p e below s _ _ _ (T9.setTop (mkF m 23 #[.val (.ref ar), .val (.int 1), .val (.int 3), .val (.ref x1), .val (.int 1)] []))
  refine own_of (fun tt_ => XS.iinc X9.here hx rfl (hb hby d17_23) rfl (l' := #[.val (.ref ar), .val (.int 2), .val (.int 3), .val (.ref x1), .val (.int 1)]) rfl) ?_
  refine own_of (fun tt_ => XS.iinc X9.here hx rfl (hb hby d17_26) rfl (l' := #[.val (.ref ar), .val (.int 2), .val (.int 3), .val (.ref x1), .val (.int 2)]) rfl) ?_
  refine own_of (fun tt_ => XS.goto X9.here hx rfl (pc0 := 29) (pc' := 8) rfl (hb hby d17_29) (by decide) (by decide)) ?_
  refine own_of (fun tt_ => XS.iload X9.here hx rfl (hb hby d17_8) rfl) ?_
  refine own_of (fun tt_ => XS.iloadN X9.here hx rfl (hb hby d17_10) rfl) ?_
  have hb11_10 : (2 : Int32) < (3 : Int32) := by decide
  refine own_of (fun tt_ => XS.icmpNo X9.here hx rfl (hb hby d17_11) rfl (tlt hb11_10).2.1) ?_
  show own_go p e below s _ _ _ (T9.setTop (mkF m 14 #[.val (.ref ar), .val (.int 2), .val (.int 3), .val (.ref x1), .val (.int 2)] []))
  refine own_of (fun tt_ => XS.aloadN X9.here hx rfl (hb hby d17_14) rfl rfl) ?_
  refine own_of (fun tt_ => XS.iload X9.here hx rfl (hb hby d17_15) rfl) ?_
  refine own_of (fun tt_ => XS.aloadN X9.here hx rfl (hb hby d17_17) rfl rfl) ?_
  refine own_of (fun tt_ => XS.iloadN X9.here hx rfl (hb hby d17_18) rfl) ?_
  have f11 : Arv Z T9.heap ar k .char (3 : Int32) [(.int c0), (.int c1), (.int c2)] (.int 0) := (f7.keep Kp9 (ninS (own_ne (by omega)) nin0))
  obtain ⟨cl12, Ar12, q12, S12, Ng12, H12, G12⟩ := id f11
  have hin12 : ¬ ((2 : Int32) < 0 ∨ cl12.slots.size ≤ ((2 : Int32)).toNatClampNeg) := inb_of S12 ⟨by decide, by decide⟩
  have hat12 : cl12.slots[((2 : Int32)).toNatClampNeg]? = some (.int c2) := H12 2 (by rw [S12]; decide)
  refine own_of (fun tt_ => X9.caload hx (j := (2 : Int32)) (v := (.int c2)) Ar12.1 (State.isArrayOf_alike hZ.alike Ar12.2.1) Ar12.2.2 hin12 hat12 (g := (mkF m 19 #[.val (.ref ar), .val (.int 2), .val (.int 3), .val (.ref x1), .val (.int 2)] [(.int 2), (.ref ar), (.int 2), (.ref x1)])) rfl rfl (hb hby d17_19) _) ?_
  show own_go p e below s _ _ _ (T9.setTop (mkF m 20 #[.val (.ref ar), .val (.int 2), .val (.int 3), .val (.ref x1), .val (.int 2)] [(.int c2), (.int 2), (.ref x1)]))
  obtain ⟨_, _, ⟨T13, L13, k13, n13⟩, -, X13, ⟨Lc13, hQ13, l13, y13, z13⟩, st13⟩ := Jvm.LawKit.callS X9 hx (y := ym9) hown (mvT hZ (hW 89 _ rfl)) (mvT hZ (hW 90 _ rfl)) (mvT hZ (hW 35 _ rfl)) (mvT hZ (hW 91 _ rfl)) (by decide) (backOf (W := 0) (rmP_3_2 l Z a0 hw [] x1 kb1 c2 (.int (StrChars.lo8 c0)) (.int (StrChars.hi8 c0)) (.int (StrChars.lo8 c1)) (.int (StrChars.hi8 c1)) (.int 0) (.int 0) T9.heap n0 O9 S_ad S_hi S_lo (by omega) Vy9) hZ (hW 91 _ rfl) (hW 35 _ rfl) (by decide) (by decide)) (g := (mkF m 20 #[.val (.ref ar), .val (.int 2), .val (.int 3), .val (.ref x1), .val (.int 2)] [(.int c2), (.int 2), (.ref x1)])) rfl (by rw [hml]; rfl) (argsL := [(.ref x1), (.int 2), (.int c2)]) (rest := []) (lenOf pd_2 rfl) rfl (by show 2 * 0 + _ ≤ _; exact Nat.le_of_eq rfl) (hb hby d17_20) (fun _ _ => ⟨rfl, rfl, (by decide : 1 + 0 ≤ _), (by decide : 6 + 0 ≤ _)⟩)
  dsimp only [Pt.U, Pt.locs, Pt.cells, Pt.slots] at X13 l13 y13 z13 st13 hQ13
  subst l13 y13 z13
  obtain ⟨rfl, Nq13, Kp13, Vy13⟩ := hQ13
  have N13 := Fr.app N9 Nq13
  refine own_of st13 ?_
  have sz13 : T9.heap.size ≤ T13.heap.size := Kp13.1
  have O13 : Old Z n0 T13.heap := O9.keep Kp13 (allS (by omega) all0)
  have K13 : Keep h0 T13.heap [] := K9.trans Kp13 (allS (Or.inr (by omega)) all0)
  show own_go p e below s _ _ _ (T13.setTop (mkF m 23 #[.val (.ref ar), .val (.int 2), .val (.int 3), .val (.ref x1), .val (.int 2)] []))
  refine own_of (fun tt_ => XS.iinc X13.here hx rfl (hb hby d17_23) rfl (l' := #[.val (.ref ar), .val (.int 3), .val (.int 3), .val (.ref x1), .val (.int 2)]) rfl) ?_
  refine own_of (fun tt_ => XS.iinc X13.here hx rfl (hb hby d17_26) rfl (l' := #[.val (.ref ar), .val (.int 3), .val (.int 3), .val (.ref x1), .val (.int 3)]) rfl) ?_
  refine own_of (fun tt_ => XS.goto X13.here hx rfl (pc0 := 29) (pc' := 8) rfl (hb hby d17_29) (by decide) (by decide)) ?_
  refine own_of (fun tt_ => XS.iload X13.here hx rfl (hb hby d17_8) rfl) ?_
  refine own_of (fun tt_ => XS.iloadN X13.here hx rfl (hb hby d17_10) rfl) ?_
  have hb11_14 : ¬ ((3 : Int32) < (3 : Int32)) := by decide
  refine own_of (fun tt_ => XS.icmpYes X13.here hx rfl (pc0 := 11) (pc' := 32) rfl (hb hby d17_11) rfl (flt hb11_14).2.1 (by decide) (by decide)) ?_
  show own_go p e below s _ _ _ (T13.setTop (mkF m 32 #[.val (.ref ar), .val (.int 3), .val (.int 3), .val (.ref x1), .val (.int 3)] []))
  refine own_of (fun tt_ => XS.aloadN X13.here hx rfl (hb hby d17_32) rfl rfl) ?_
  show own_go p e below s _ _ _ (T13.setTop (mkF m 33 #[.val (.ref ar), .val (.int 3), .val (.int 3), .val (.ref x1), .val (.int 3)] [(.ref x1)]))
  refine own_ret X13 hx hlk hret rfl (Or.inr (Or.inr (Or.inr (Or.inr ⟨rfl, rfl, rfl⟩)))) (hb hby d17_33) (by decide) (by decide) ?_
  skip
  exact ⟨x1, kb1, rfl, N13, K13, by omega, Vy13⟩
theorem ef_rmC_1_0 (m : MethodId) (x0 : Nat) (x1 : Int32) (x2 : Nat) (x3 : Int32) (x4 : Int32) : entryFrame m #[(.ref x0), (.int x1), (.ref x2), (.int x3), (.int x4)] 7 = mkF m 0 #[.val (.ref x0), .val (.int x1), .val (.ref x2), .val (.int x3), .val (.int x4), .unset, .unset] [] := by first | (simp [entryFrame, mkF, argsToLocals, Value.category]; done) | rfl
theorem d7_0 : decode jdk_52_method_21_code 0 = .ok (.iconst 0, 1) := by decide +kernel
theorem d7_1 : decode jdk_52_method_21_code 1 = .ok (.istore 5, 2) := by decide +kernel
theorem d7_3 : decode jdk_52_method_21_code 3 = .ok (.iload 5, 2) := by decide +kernel
theorem d7_5 : decode jdk_52_method_21_code 5 = .ok (.iload 4, 2) := by decide +kernel
theorem d7_7 : decode jdk_52_method_21_code 7 = .ok (.if_icmp .ge 37, 3) := by decide +kernel
theorem d7_10 : decode jdk_52_method_21_code 10 = .ok (.aload_n 0, 1) := by decide +kernel
theorem d7_11 : decode jdk_52_method_21_code 11 = .ok (.iload_n 1, 1) := by decide +kernel
theorem d7_12 : decode jdk_52_method_21_code 12 = .ok (.caload, 1) := by decide +kernel
theorem d7_13 : decode jdk_52_method_21_code 13 = .ok (.istore 6, 2) := by decide +kernel
theorem d7_15 : decode jdk_52_method_21_code 15 = .ok (.iload 6, 2) := by decide +kernel
theorem d7_17 : decode jdk_52_method_21_code 17 = .ok (.sipush 255, 3) := by decide +kernel
theorem d7_20 : decode jdk_52_method_21_code 20 = .ok (.if_icmp .le 6, 3) := by decide +kernel
theorem d7_23 : decode jdk_52_method_21_code 23 = .ok (.iload 5, 2) := by decide +kernel
theorem d7_25 : decode jdk_52_method_21_code 25 = .ok (.ireturn, 1) := by decide +kernel
def Q_rmC_1_0 (Z : State) (ar : Nat) (bt : Nat) (k : ClassId) (kb : ClassId) (c0 : Int32) (h0 : Heap) (n0 : Nat) (v : Option Value) (h : Heap) (L : List Loc) : Prop := v = some (.int 0) ∧ Fr n0 L ∧ Keep h0 h [bt]
set_option maxRecDepth 65536 in
set_option maxHeartbeats 40000000 in
theorem rmC_1_0 (l : Launch) (Z : State) (a0 : Array Value) (hw : own_H Z a0) (ws : List Jvm.Cond) (ar : Nat) (bt : Nat) (k : ClassId) (kb : ClassId) (c0 : Int32) (h0 : Heap) (n0 : Nat) (XO0 : Old Z n0 h0) (V_a : Arv Z h0 ar k .char (1 : Int32) [(.int c0)] (.int 0)) (g_b : n0 ≤ bt) (hne : ar ≠ bt) (V_b : Arv Z h0 bt kb .byte (1 : Int32) [(.int 0)] (.int 0)) (wq0 : (255 : Int32) < c0) :
    own_M l Z ym10 jdk_52_method_21_code ws 7 (some .int) (own_R 0 0 0 0) #[(.ref ar), (.int 0), (.ref bt), (.int 0), (.int 1)] h0 (Q_rmC_1_0 Z ar bt k kb c0 h0 n0) := by
  refine own_open (plainFor_of_name pn_0) ?_
  intro p e s m below meth c s₁ hx hby hlk hret hml hown hnm hZ X0 e0
  have hW := own_hW hw
  have N0 := Fr.nil n0
  refine own_of (fun tt_ kk_ => castTop (ef_rmC_1_0 m ar (0 : Int32) bt (0 : Int32) (1 : Int32)) kk_) ?_
  show own_go p e below s _ _ _ (s₁.setTop (mkF m 0 #[.val (.ref ar), .val (.int 0), .val (.ref bt), .val (.int 0), .val (.int 1), .unset, .unset] []))
  have K0 : Keep h0 h0 [bt] := Keep.refl h0 [bt]
  have lt_ar := own_lt V_a.lt
  have lt_bt := own_lt V_b.lt
  refine own_of (fun tt_ => XS.iconst X0.here hx rfl (hb hby d7_0)) ?_
  refine own_of (fun tt_ => XS.istore X0.here hx rfl (hb hby d7_1) rfl (l' := #[.val (.ref ar), .val (.int 0), .val (.ref bt), .val (.int 0), .val (.int 1), .val (.int 0), .unset]) rfl) ?_
  refine own_of (fun tt_ => XS.iload X0.here hx rfl (hb hby d7_3) rfl) ?_
  refine own_of (fun tt_ => XS.iload X0.here hx rfl (hb hby d7_5) rfl) ?_
  have hb7_1 : (0 : Int32) < (1 : Int32) := by decide
  refine own_of (fun tt_ => XS.icmpNo X0.here hx rfl (hb hby d7_7) rfl (tlt hb7_1).2.1) ?_
  show own_go p e below s _ _ _ (s₁.setTop (mkF m 10 #[.val (.ref ar), .val (.int 0), .val (.ref bt), .val (.int 0), .val (.int 1), .val (.int 0), .unset] []))
  refine own_of (fun tt_ => XS.aloadN X0.here hx rfl (hb hby d7_10) rfl rfl) ?_
  refine own_of (fun tt_ => XS.iloadN X0.here hx rfl (hb hby d7_11) rfl) ?_
  obtain ⟨cl2, Ar2, q2, S2, Ng2, H2, G2⟩ := id V_a
  have hin2 : ¬ ((0 : Int32) < 0 ∨ cl2.slots.size ≤ ((0 : Int32)).toNatClampNeg) := inb_of S2 ⟨by decide, by decide⟩
  have hat2 : cl2.slots[((0 : Int32)).toNatClampNeg]? = some (.int c0) := H2 0 (by rw [S2]; decide)
  refine own_of (fun tt_ => X0.caload hx (j := (0 : Int32)) (v := (.int c0)) (by rw [e0]; exact Ar2.1) (State.isArrayOf_alike hZ.alike Ar2.2.1) Ar2.2.2 hin2 hat2 (g := (mkF m 12 #[.val (.ref ar), .val (.int 0), .val (.ref bt), .val (.int 0), .val (.int 1), .val (.int 0), .unset] [(.int 0), (.ref ar)])) rfl rfl (hb hby d7_12) _) ?_
  show own_go p e below s _ _ _ (s₁.setTop (mkF m 13 #[.val (.ref ar), .val (.int 0), .val (.ref bt), .val (.int 0), .val (.int 1), .val (.int 0), .unset] [(.int c0)]))
  refine own_of (fun tt_ => XS.istore X0.here hx rfl (hb hby d7_13) rfl (l' := #[.val (.ref ar), .val (.int 0), .val (.ref bt), .val (.int 0), .val (.int 1), .val (.int 0), .val (.int c0)]) rfl) ?_
  refine own_of (fun tt_ => XS.iload X0.here hx rfl (hb hby d7_15) rfl) ?_
  refine own_of (fun tt_ => XS.sipush X0.here hx rfl (hb hby d7_17)) ?_
  have hb20_3 : (255 : Int32) < c0 := wq0
  refine own_of (fun tt_ => XS.icmpNo X0.here hx rfl (hb hby d7_20) rfl (tlt hb20_3).2.2.2) ?_
  show own_go p e below s _ _ _ (s₁.setTop (mkF m 23 #[.val (.ref ar), .val (.int 0), .val (.ref bt), .val (.int 0), .val (.int 1), .val (.int 0), .val (.int c0)] []))
  refine own_of (fun tt_ => XS.iload X0.here hx rfl (hb hby d7_23) rfl) ?_
  show own_go p e below s _ _ _ (s₁.setTop (mkF m 25 #[.val (.ref ar), .val (.int 0), .val (.ref bt), .val (.int 0), .val (.int 1), .val (.int 0), .val (.int c0)] [(.int 0)]))
  refine own_ret X0 hx hlk hret rfl (Or.inl ⟨rfl, by simp, _, rfl⟩) (hb hby d7_25) (by decide) (by decide) ?_
  rw [e0]
  exact ⟨rfl, N0, K0⟩
theorem ef_rmC_2_0 (m : MethodId) (x0 : Nat) (x1 : Int32) (x2 : Nat) (x3 : Int32) (x4 : Int32) : entryFrame m #[(.ref x0), (.int x1), (.ref x2), (.int x3), (.int x4)] 7 = mkF m 0 #[.val (.ref x0), .val (.int x1), .val (.ref x2), .val (.int x3), .val (.int x4), .unset, .unset] [] := by first | (simp [entryFrame, mkF, argsToLocals, Value.category]; done) | rfl
def Q_rmC_2_0 (Z : State) (ar : Nat) (bt : Nat) (k : ClassId) (kb : ClassId) (c0 : Int32) (c1 : Int32) (h0 : Heap) (n0 : Nat) (v : Option Value) (h : Heap) (L : List Loc) : Prop := v = some (.int 0) ∧ Fr n0 L ∧ Keep h0 h [bt]
set_option maxRecDepth 65536 in
set_option maxHeartbeats 40000000 in
theorem rmC_2_0 (l : Launch) (Z : State) (a0 : Array Value) (hw : own_H Z a0) (ws : List Jvm.Cond) (ar : Nat) (bt : Nat) (k : ClassId) (kb : ClassId) (c0 : Int32) (c1 : Int32) (h0 : Heap) (n0 : Nat) (XO0 : Old Z n0 h0) (V_a : Arv Z h0 ar k .char (2 : Int32) [(.int c0), (.int c1)] (.int 0)) (g_b : n0 ≤ bt) (hne : ar ≠ bt) (V_b : Arv Z h0 bt kb .byte (2 : Int32) [(.int 0), (.int 0)] (.int 0)) (wq0 : (255 : Int32) < c0) :
    own_M l Z ym10 jdk_52_method_21_code ws 7 (some .int) (own_R 0 0 0 0) #[(.ref ar), (.int 0), (.ref bt), (.int 0), (.int 2)] h0 (Q_rmC_2_0 Z ar bt k kb c0 c1 h0 n0) := by
  refine own_open (plainFor_of_name pn_0) ?_
  intro p e s m below meth c s₁ hx hby hlk hret hml hown hnm hZ X0 e0
  have hW := own_hW hw
  have N0 := Fr.nil n0
  refine own_of (fun tt_ kk_ => castTop (ef_rmC_2_0 m ar (0 : Int32) bt (0 : Int32) (2 : Int32)) kk_) ?_
  show own_go p e below s _ _ _ (s₁.setTop (mkF m 0 #[.val (.ref ar), .val (.int 0), .val (.ref bt), .val (.int 0), .val (.int 2), .unset, .unset] []))
  have K0 : Keep h0 h0 [bt] := Keep.refl h0 [bt]
  have lt_ar := own_lt V_a.lt
  have lt_bt := own_lt V_b.lt
  refine own_of (fun tt_ => XS.iconst X0.here hx rfl (hb hby d7_0)) ?_
  refine own_of (fun tt_ => XS.istore X0.here hx rfl (hb hby d7_1) rfl (l' := #[.val (.ref ar), .val (.int 0), .val (.ref bt), .val (.int 0), .val (.int 2), .val (.int 0), .unset]) rfl) ?_
  refine own_of (fun tt_ => XS.iload X0.here hx rfl (hb hby d7_3) rfl) ?_
  refine own_of (fun tt_ => XS.iload X0.here hx rfl (hb hby d7_5) rfl) ?_
  have hb7_1 : (0 : Int32) < (2 : Int32) := by decide
  refine own_of (fun tt_ => XS.icmpNo X0.here hx rfl (hb hby d7_7) rfl (tlt hb7_1).2.1) ?_
  show own_go p e below s _ _ _ (s₁.setTop (mkF m 10 #[.val (.ref ar), .val (.int 0), .val (.ref bt), .val (.int 0), .val (.int 2), .val (.int 0), .unset] []))
  refine own_of (fun tt_ => XS.aloadN X0.here hx rfl (hb hby d7_10) rfl rfl) ?_
  refine own_of (fun tt_ => XS.iloadN X0.here hx rfl (hb hby d7_11) rfl) ?_
  obtain ⟨cl2, Ar2, q2, S2, Ng2, H2, G2⟩ := id V_a
  have hin2 : ¬ ((0 : Int32) < 0 ∨ cl2.slots.size ≤ ((0 : Int32)).toNatClampNeg) := inb_of S2 ⟨by decide, by decide⟩
  have hat2 : cl2.slots[((0 : Int32)).toNatClampNeg]? = some (.int c0) := H2 0 (by rw [S2]; decide)
  refine own_of (fun tt_ => X0.caload hx (j := (0 : Int32)) (v := (.int c0)) (by rw [e0]; exact Ar2.1) (State.isArrayOf_alike hZ.alike Ar2.2.1) Ar2.2.2 hin2 hat2 (g := (mkF m 12 #[.val (.ref ar), .val (.int 0), .val (.ref bt), .val (.int 0), .val (.int 2), .val (.int 0), .unset] [(.int 0), (.ref ar)])) rfl rfl (hb hby d7_12) _) ?_
  show own_go p e below s _ _ _ (s₁.setTop (mkF m 13 #[.val (.ref ar), .val (.int 0), .val (.ref bt), .val (.int 0), .val (.int 2), .val (.int 0), .unset] [(.int c0)]))
  refine own_of (fun tt_ => XS.istore X0.here hx rfl (hb hby d7_13) rfl (l' := #[.val (.ref ar), .val (.int 0), .val (.ref bt), .val (.int 0), .val (.int 2), .val (.int 0), .val (.int c0)]) rfl) ?_
  refine own_of (fun tt_ => XS.iload X0.here hx rfl (hb hby d7_15) rfl) ?_
  refine own_of (fun tt_ => XS.sipush X0.here hx rfl (hb hby d7_17)) ?_
  have hb20_3 : (255 : Int32) < c0 := wq0
  refine own_of (fun tt_ => XS.icmpNo X0.here hx rfl (hb hby d7_20) rfl (tlt hb20_3).2.2.2) ?_
  show own_go p e below s _ _ _ (s₁.setTop (mkF m 23 #[.val (.ref ar), .val (.int 0), .val (.ref bt), .val (.int 0), .val (.int 2), .val (.int 0), .val (.int c0)] []))
  refine own_of (fun tt_ => XS.iload X0.here hx rfl (hb hby d7_23) rfl) ?_
  show own_go p e below s _ _ _ (s₁.setTop (mkF m 25 #[.val (.ref ar), .val (.int 0), .val (.ref bt), .val (.int 0), .val (.int 2), .val (.int 0), .val (.int c0)] [(.int 0)]))
  refine own_ret X0 hx hlk hret rfl (Or.inl ⟨rfl, by simp, _, rfl⟩) (hb hby d7_25) (by decide) (by decide) ?_
  rw [e0]
  exact ⟨rfl, N0, K0⟩
theorem ef_rmC_2_1 (m : MethodId) (x0 : Nat) (x1 : Int32) (x2 : Nat) (x3 : Int32) (x4 : Int32) : entryFrame m #[(.ref x0), (.int x1), (.ref x2), (.int x3), (.int x4)] 7 = mkF m 0 #[.val (.ref x0), .val (.int x1), .val (.ref x2), .val (.int x3), .val (.int x4), .unset, .unset] [] := by first | (simp [entryFrame, mkF, argsToLocals, Value.category]; done) | rfl
theorem d7_26 : decode jdk_52_method_21_code 26 = .ok (.aload_n 2, 1) := by decide +kernel
theorem d7_27 : decode jdk_52_method_21_code 27 = .ok (.iload_n 3, 1) := by decide +kernel
theorem d7_28 : decode jdk_52_method_21_code 28 = .ok (.iload 6, 2) := by decide +kernel
theorem d7_30 : decode jdk_52_method_21_code 30 = .ok (.i2b, 1) := by decide +kernel
theorem d7_31 : decode jdk_52_method_21_code 31 = .ok (.bastore, 1) := by decide +kernel
theorem d7_32 : decode jdk_52_method_21_code 32 = .ok (.iinc 1 1, 3) := by decide +kernel
theorem d7_35 : decode jdk_52_method_21_code 35 = .ok (.iinc 3 1, 3) := by decide +kernel
theorem d7_38 : decode jdk_52_method_21_code 38 = .ok (.iinc 5 1, 3) := by decide +kernel
theorem d7_41 : decode jdk_52_method_21_code 41 = .ok (.goto (-38), 3) := by decide +kernel
def Q_rmC_2_1 (Z : State) (ar : Nat) (bt : Nat) (k : ClassId) (kb : ClassId) (c0 : Int32) (c1 : Int32) (h0 : Heap) (n0 : Nat) (v : Option Value) (h : Heap) (L : List Loc) : Prop := v = some (.int 1) ∧ Fr n0 L ∧ Keep h0 h [bt]
set_option maxRecDepth 65536 in
set_option maxHeartbeats 40000000 in
theorem rmC_2_1 (l : Launch) (Z : State) (a0 : Array Value) (hw : own_H Z a0) (ws : List Jvm.Cond) (ar : Nat) (bt : Nat) (k : ClassId) (kb : ClassId) (c0 : Int32) (c1 : Int32) (h0 : Heap) (n0 : Nat) (XO0 : Old Z n0 h0) (V_a : Arv Z h0 ar k .char (2 : Int32) [(.int c0), (.int c1)] (.int 0)) (g_b : n0 ≤ bt) (hne : ar ≠ bt) (V_b : Arv Z h0 bt kb .byte (2 : Int32) [(.int 0), (.int 0)] (.int 0)) (wq0 : ¬ (255 : Int32) < c0) (wq1 : (255 : Int32) < c1) :
    own_M l Z ym10 jdk_52_method_21_code ws 7 (some .int) (own_R 0 0 0 0) #[(.ref ar), (.int 0), (.ref bt), (.int 0), (.int 2)] h0 (Q_rmC_2_1 Z ar bt k kb c0 c1 h0 n0) := by
  refine own_open (plainFor_of_name pn_0) ?_
  intro p e s m below meth c s₁ hx hby hlk hret hml hown hnm hZ X0 e0
  have hW := own_hW hw
  have N0 := Fr.nil n0
  refine own_of (fun tt_ kk_ => castTop (ef_rmC_2_1 m ar (0 : Int32) bt (0 : Int32) (2 : Int32)) kk_) ?_
  show own_go p e below s _ _ _ (s₁.setTop (mkF m 0 #[.val (.ref ar), .val (.int 0), .val (.ref bt), .val (.int 0), .val (.int 2), .unset, .unset] []))
  have K0 : Keep h0 h0 [bt] := Keep.refl h0 [bt]
  have lt_ar := own_lt V_a.lt
  have lt_bt := own_lt V_b.lt
  refine own_of (fun tt_ => XS.iconst X0.here hx rfl (hb hby d7_0)) ?_
  refine own_of (fun tt_ => XS.istore X0.here hx rfl (hb hby d7_1) rfl (l' := #[.val (.ref ar), .val (.int 0), .val (.ref bt), .val (.int 0), .val (.int 2), .val (.int 0), .unset]) rfl) ?_
  refine own_of (fun tt_ => XS.iload X0.here hx rfl (hb hby d7_3) rfl) ?_
  refine own_of (fun tt_ => XS.iload X0.here hx rfl (hb hby d7_5) rfl) ?_
  have hb7_1 : (0 : Int32) < (2 : Int32) := by decide
  refine own_of (fun tt_ => XS.icmpNo X0.here hx rfl (hb hby d7_7) rfl (tlt hb7_1).2.1) ?_
  show own_go p e below s _ _ _ (s₁.setTop (mkF m 10 #[.val (.ref ar), .val (.int 0), .val (.ref bt), .val (.int 0), .val (.int 2), .val (.int 0), .unset] []))
  refine own_of (fun tt_ => XS.aloadN X0.here hx rfl (hb hby d7_10) rfl rfl) ?_
  refine own_of (fun tt_ => XS.iloadN X0.here hx rfl (hb hby d7_11) rfl) ?_
  obtain ⟨cl2, Ar2, q2, S2, Ng2, H2, G2⟩ := id V_a
  have hin2 : ¬ ((0 : Int32) < 0 ∨ cl2.slots.size ≤ ((0 : Int32)).toNatClampNeg) := inb_of S2 ⟨by decide, by decide⟩
  have hat2 : cl2.slots[((0 : Int32)).toNatClampNeg]? = some (.int c0) := H2 0 (by rw [S2]; decide)
  refine own_of (fun tt_ => X0.caload hx (j := (0 : Int32)) (v := (.int c0)) (by rw [e0]; exact Ar2.1) (State.isArrayOf_alike hZ.alike Ar2.2.1) Ar2.2.2 hin2 hat2 (g := (mkF m 12 #[.val (.ref ar), .val (.int 0), .val (.ref bt), .val (.int 0), .val (.int 2), .val (.int 0), .unset] [(.int 0), (.ref ar)])) rfl rfl (hb hby d7_12) _) ?_
  show own_go p e below s _ _ _ (s₁.setTop (mkF m 13 #[.val (.ref ar), .val (.int 0), .val (.ref bt), .val (.int 0), .val (.int 2), .val (.int 0), .unset] [(.int c0)]))
  refine own_of (fun tt_ => XS.istore X0.here hx rfl (hb hby d7_13) rfl (l' := #[.val (.ref ar), .val (.int 0), .val (.ref bt), .val (.int 0), .val (.int 2), .val (.int 0), .val (.int c0)]) rfl) ?_
  refine own_of (fun tt_ => XS.iload X0.here hx rfl (hb hby d7_15) rfl) ?_
  refine own_of (fun tt_ => XS.sipush X0.here hx rfl (hb hby d7_17)) ?_
  have hb20_3 : ¬ ((255 : Int32) < c0) := wq0
  refine own_of (fun tt_ => XS.icmpYes X0.here hx rfl (pc0 := 20) (pc' := 26) rfl (hb hby d7_20) rfl (flt hb20_3).2.2.2 (by decide) (by decide)) ?_
  show own_go p e below s _ _ _ (s₁.setTop (mkF m 26 #[.val (.ref ar), .val (.int 0), .val (.ref bt), .val (.int 0), .val (.int 2), .val (.int 0), .val (.int c0)] []))
  refine own_of (fun tt_ => XS.aloadN X0.here hx rfl (hb hby d7_26) rfl rfl) ?_
  refine own_of (fun tt_ => XS.iloadN X0.here hx rfl (hb hby d7_27) rfl) ?_
  refine own_of (fun tt_ => XS.iload X0.here hx rfl (hb hby d7_28) rfl) ?_
  refine own_of (fun tt_ => XS.i2b X0.here hx rfl (hb hby d7_30) rfl) ?_
  show own_go p e below s _ _ _ (s₁.setTop (mkF m 31 #[.val (.ref ar), .val (.int 0), .val (.ref bt), .val (.int 0), .val (.int 2), .val (.int 0), .val (.int c0)] [(.int (c0.toInt8.toInt32)), (.int 0), (.ref bt)]))
  obtain ⟨cl4, Ar4, q4, S4, Ng4, H4, G4⟩ := V_b
  obtain ⟨T4, h4, X4, e4, W4, st4⟩ := stB X0 hx hZ e0 Ar4 (j := (0 : Int32)) (inb_of S4 ⟨by decide, by decide⟩) (g := (mkF m 31 #[.val (.ref ar), .val (.int 0), .val (.ref bt), .val (.int 0), .val (.int 2), .val (.int 0), .val (.int c0)] [(.int (c0.toInt8.toInt32)), (.int 0), (.ref bt)])) rfl rfl (hb hby d7_31)
  have V4 : Arv Z h4 bt kb .byte (2 : Int32) [(.int (nar .byte (c0.toInt8.toInt32))), (.int 0)] (.int 0) := Arv.set Ar4 q4 S4 Ng4 H4 G4 (fits_nar_byte _) W4 0 rfl (Nat.le_of_ble_eq_true rfl)
  refine own_of st4 ?_
  have N4 := Fr.snoc X4 N0 (by omega : n0 ≤ bt)
  have sz4 : h4.size = h0.size := W4.size
  have O4 : Old Z n0 h4 := XO0.wr W4 (by omega)
  have K4 : Keep h0 h4 [bt] := K0.wr W4 (Or.inl (List.mem_of_getElem? (i := 0) rfl))
  show own_go p e below s _ _ _ (T4.setTop (mkF m 32 #[.val (.ref ar), .val (.int 0), .val (.ref bt), .val (.int 0), .val (.int 2), .val (.int 0), .val (.int c0)] []))
  refine own_of (fun tt_ => XS.iinc X4.here hx rfl (hb hby d7_32) rfl (l' := #[.val (.ref ar), .val (.int 1), .val (.ref bt), .val (.int 0), .val (.int 2), .val (.int 0), .val (.int c0)]) rfl) ?_
  refine own_of (fun tt_ => XS.iinc X4.here hx rfl (hb hby d7_35) rfl (l' := #[.val (.ref ar), .val (.int 1), .val (.ref bt), .val (.int 1), .val (.int 2), .val (.int 0), .val (.int c0)]) rfl) ?_
  refine own_of (fun tt_ => XS.iinc X4.here hx rfl (hb hby d7_38) rfl (l' := #[.val (.ref ar), .val (.int 1), .val (.ref bt), .val (.int 1), .val (.int 2), .val (.int 1), .val (.int c0)]) rfl) ?_
  refine own_of (fun tt_ => XS.goto X4.here hx rfl (pc0 := 41) (pc' := 3) rfl (hb hby d7_41) (by decide) (by decide)) ?_
  refine own_of (fun tt_ => XS.iload X4.here hx rfl (hb hby d7_3) rfl) ?_
  refine own_of (fun tt_ => XS.iload X4.here hx rfl (hb hby d7_5) rfl) ?_
  have hb7_5 : (1 : Int32) < (2 : Int32) := by decide
  refine own_of (fun tt_ => XS.icmpNo X4.here hx rfl (hb hby d7_7) rfl (tlt hb7_5).2.1) ?_
  show own_go p e below s _ _ _ (T4.setTop (mkF m 10 #[.val (.ref ar), .val (.int 1), .val (.ref bt), .val (.int 1), .val (.int 2), .val (.int 1), .val (.int c0)] []))
  refine own_of (fun tt_ => XS.aloadN X4.here hx rfl (hb hby d7_10) rfl rfl) ?_
  refine own_of (fun tt_ => XS.iloadN X4.here hx rfl (hb hby d7_11) rfl) ?_
  have f6 : Arv Z h4 ar k .char (2 : Int32) [(.int c0), (.int c1)] (.int 0) := (V_a.other W4 (own_ne (by omega)))
  obtain ⟨cl7, Ar7, q7, S7, Ng7, H7, G7⟩ := id f6
  have hin7 : ¬ ((1 : Int32) < 0 ∨ cl7.slots.size ≤ ((1 : Int32)).toNatClampNeg) := inb_of S7 ⟨by decide, by decide⟩
  have hat7 : cl7.slots[((1 : Int32)).toNatClampNeg]? = some (.int c1) := H7 1 (by rw [S7]; decide)
  refine own_of (fun tt_ => X4.caload hx (j := (1 : Int32)) (v := (.int c1)) (by rw [e4]; exact Ar7.1) (State.isArrayOf_alike hZ.alike Ar7.2.1) Ar7.2.2 hin7 hat7 (g := (mkF m 12 #[.val (.ref ar), .val (.int 1), .val (.ref bt), .val (.int 1), .val (.int 2), .val (.int 1), .val (.int c0)] [(.int 1), (.ref ar)])) rfl rfl (hb hby d7_12) _) ?_
  show own_go p e below s _ _ _ (T4.setTop (mkF m 13 #[.val (.ref ar), .val (.int 1), .val (.ref bt), .val (.int 1), .val (.int 2), .val (.int 1), .val (.int c0)] [(.int c1)]))
  refine own_of (fun tt_ => XS.istore X4.here hx rfl (hb hby d7_13) rfl (l' := #[.val (.ref ar), .val (.int 1), .val (.ref bt), .val (.int 1), .val (.int 2), .val (.int 1), .val (.int c1)]) rfl) ?_
  refine own_of (fun tt_ => XS.iload X4.here hx rfl (hb hby d7_15) rfl) ?_
  refine own_of (fun tt_ => XS.sipush X4.here hx rfl (hb hby d7_17)) ?_
  have hb20_8 : (255 : Int32) < c1 := wq1
  refine own_of (fun tt_ => XS.icmpNo X4.here hx rfl (hb hby d7_20) rfl (tlt hb20_8).2.2.2) ?_
  show own_go p e below s _ _ _ (T4.setTop (mkF m 23 #[.val (.ref ar), .val (.int 1), .val (.ref bt), .val (.int 1), .val (.int 2), .val (.int 1), .val (.int c1)] []))
  refine own_of (fun tt_ => XS.iload X4.here hx rfl (hb hby d7_23) rfl) ?_
  show own_go p e below s _ _ _ (T4.setTop (mkF m 25 #[.val (.ref ar), .val (.int 1), .val (.ref bt), .val (.int 1), .val (.int 2), .val (.int 1), .val (.int c1)] [(.int 1)]))
  refine own_ret X4 hx hlk hret rfl (Or.inl ⟨rfl, by simp, _, rfl⟩) (hb hby d7_25) (by decide) (by decide) ?_
  rw [e4]
  exact ⟨rfl, N4, K4⟩
theorem ef_rmC_3_0 (m : MethodId) (x0 : Nat) (x1 : Int32) (x2 : Nat) (x3 : Int32) (x4 : Int32) : entryFrame m #[(.ref x0), (.int x1), (.ref x2), (.int x3), (.int x4)] 7 = mkF m 0 #[.val (.ref x0), .val (.int x1), .val (.ref x2), .val (.int x3), .val (.int x4), .unset, .unset] [] := by first | (simp [entryFrame, mkF, argsToLocals, Value.category]; done) | rfl
def Q_rmC_3_0 (Z : State) (ar : Nat) (bt : Nat) (k : ClassId) (kb : ClassId) (c0 : Int32) (c1 : Int32) (c2 : Int32) (h0 : Heap) (n0 : Nat) (v : Option Value) (h : Heap) (L : List Loc) : Prop := v = some (.int 0) ∧ Fr n0 L ∧ Keep h0 h [bt]
set_option maxRecDepth 65536 in
set_option maxHeartbeats 40000000 in
theorem rmC_3_0 (l : Launch) (Z : State) (a0 : Array Value) (hw : own_H Z a0) (ws : List Jvm.Cond) (ar : Nat) (bt : Nat) (k : ClassId) (kb : ClassId) (c0 : Int32) (c1 : Int32) (c2 : Int32) (h0 : Heap) (n0 : Nat) (XO0 : Old Z n0 h0) (V_a : Arv Z h0 ar k .char (3 : Int32) [(.int c0), (.int c1), (.int c2)] (.int 0)) (g_b : n0 ≤ bt) (hne : ar ≠ bt) (V_b : Arv Z h0 bt kb .byte (3 : Int32) [(.int 0), (.int 0), (.int 0)] (.int 0)) (wq0 : (255 : Int32) < c0) :
    own_M l Z ym10 jdk_52_method_21_code ws 7 (some .int) (own_R 0 0 0 0) #[(.ref ar), (.int 0), (.ref bt), (.int 0), (.int 3)] h0 (Q_rmC_3_0 Z ar bt k kb c0 c1 c2 h0 n0) := by
  refine own_open (plainFor_of_name pn_0) ?_
  intro p e s m below meth c s₁ hx hby hlk hret hml hown hnm hZ X0 e0
  have hW := own_hW hw
  have N0 := Fr.nil n0
  refine own_of (fun tt_ kk_ => castTop (ef_rmC_3_0 m ar (0 : Int32) bt (0 : Int32) (3 : Int32)) kk_) ?_
  show own_go p e below s _ _ _ (s₁.setTop (mkF m 0 #[.val (.ref ar), .val (.int 0), .val (.ref bt), .val (.int 0), .val (.int 3), .unset, .unset] []))
  have K0 : Keep h0 h0 [bt] := Keep.refl h0 [bt]
  have lt_ar := own_lt V_a.lt
  have lt_bt := own_lt V_b.lt
  refine own_of (fun tt_ => XS.iconst X0.here hx rfl (hb hby d7_0)) ?_
  refine own_of (fun tt_ => XS.istore X0.here hx rfl (hb hby d7_1) rfl (l' := #[.val (.ref ar), .val (.int 0), .val (.ref bt), .val (.int 0), .val (.int 3), .val (.int 0), .unset]) rfl) ?_
  refine own_of (fun tt_ => XS.iload X0.here hx rfl (hb hby d7_3) rfl) ?_
  refine own_of (fun tt_ => XS.iload X0.here hx rfl (hb hby d7_5) rfl) ?_
  have hb7_1 : (0 : Int32) < (3 : Int32) := by decide
  refine own_of (fun tt_ => XS.icmpNo X0.here hx rfl (hb hby d7_7) rfl (tlt hb7_1).2.1) ?_
  show own_go p e below s _ _ _ (s₁.setTop (mkF m 10 #[.val (.ref ar), .val (.int 0), .val (.ref bt), .val (.int 0), .val (.int 3), .val (.int 0), .unset] []))
  refine own_of (fun tt_ => XS.aloadN X0.here hx rfl (hb hby d7_10) rfl rfl) ?_
  refine own_of (fun tt_ => XS.iloadN X0.here hx rfl (hb hby d7_11) rfl) ?_
  obtain ⟨cl2, Ar2, q2, S2, Ng2, H2, G2⟩ := id V_a
  have hin2 : ¬ ((0 : Int32) < 0 ∨ cl2.slots.size ≤ ((0 : Int32)).toNatClampNeg) := inb_of S2 ⟨by decide, by decide⟩
  have hat2 : cl2.slots[((0 : Int32)).toNatClampNeg]? = some (.int c0) := H2 0 (by rw [S2]; decide)
  refine own_of (fun tt_ => X0.caload hx (j := (0 : Int32)) (v := (.int c0)) (by rw [e0]; exact Ar2.1) (State.isArrayOf_alike hZ.alike Ar2.2.1) Ar2.2.2 hin2 hat2 (g := (mkF m 12 #[.val (.ref ar), .val (.int 0), .val (.ref bt), .val (.int 0), .val (.int 3), .val (.int 0), .unset] [(.int 0), (.ref ar)])) rfl rfl (hb hby d7_12) _) ?_
  show own_go p e below s _ _ _ (s₁.setTop (mkF m 13 #[.val (.ref ar), .val (.int 0), .val (.ref bt), .val (.int 0), .val (.int 3), .val (.int 0), .unset] [(.int c0)]))
  refine own_of (fun tt_ => XS.istore X0.here hx rfl (hb hby d7_13) rfl (l' := #[.val (.ref ar), .val (.int 0), .val (.ref bt), .val (.int 0), .val (.int 3), .val (.int 0), .val (.int c0)]) rfl) ?_
  refine own_of (fun tt_ => XS.iload X0.here hx rfl (hb hby d7_15) rfl) ?_
  refine own_of (fun tt_ => XS.sipush X0.here hx rfl (hb hby d7_17)) ?_
  have hb20_3 : (255 : Int32) < c0 := wq0
  refine own_of (fun tt_ => XS.icmpNo X0.here hx rfl (hb hby d7_20) rfl (tlt hb20_3).2.2.2) ?_
  show own_go p e below s _ _ _ (s₁.setTop (mkF m 23 #[.val (.ref ar), .val (.int 0), .val (.ref bt), .val (.int 0), .val (.int 3), .val (.int 0), .val (.int c0)] []))
  refine own_of (fun tt_ => XS.iload X0.here hx rfl (hb hby d7_23) rfl) ?_
  show own_go p e below s _ _ _ (s₁.setTop (mkF m 25 #[.val (.ref ar), .val (.int 0), .val (.ref bt), .val (.int 0), .val (.int 3), .val (.int 0), .val (.int c0)] [(.int 0)]))
  refine own_ret X0 hx hlk hret rfl (Or.inl ⟨rfl, by simp, _, rfl⟩) (hb hby d7_25) (by decide) (by decide) ?_
  rw [e0]
  exact ⟨rfl, N0, K0⟩
theorem ef_rmC_3_1 (m : MethodId) (x0 : Nat) (x1 : Int32) (x2 : Nat) (x3 : Int32) (x4 : Int32) : entryFrame m #[(.ref x0), (.int x1), (.ref x2), (.int x3), (.int x4)] 7 = mkF m 0 #[.val (.ref x0), .val (.int x1), .val (.ref x2), .val (.int x3), .val (.int x4), .unset, .unset] [] := by first | (simp [entryFrame, mkF, argsToLocals, Value.category]; done) | rfl
def Q_rmC_3_1 (Z : State) (ar : Nat) (bt : Nat) (k : ClassId) (kb : ClassId) (c0 : Int32) (c1 : Int32) (c2 : Int32) (h0 : Heap) (n0 : Nat) (v : Option Value) (h : Heap) (L : List Loc) : Prop := v = some (.int 1) ∧ Fr n0 L ∧ Keep h0 h [bt]
set_option maxRecDepth 65536 in
set_option maxHeartbeats 40000000 in
theorem rmC_3_1 (l : Launch) (Z : State) (a0 : Array Value) (hw : own_H Z a0) (ws : List Jvm.Cond) (ar : Nat) (bt : Nat) (k : ClassId) (kb : ClassId) (c0 : Int32) (c1 : Int32) (c2 : Int32) (h0 : Heap) (n0 : Nat) (XO0 : Old Z n0 h0) (V_a : Arv Z h0 ar k .char (3 : Int32) [(.int c0), (.int c1), (.int c2)] (.int 0)) (g_b : n0 ≤ bt) (hne : ar ≠ bt) (V_b : Arv Z h0 bt kb .byte (3 : Int32) [(.int 0), (.int 0), (.int 0)] (.int 0)) (wq0 : ¬ (255 : Int32) < c0) (wq1 : (255 : Int32) < c1) :
    own_M l Z ym10 jdk_52_method_21_code ws 7 (some .int) (own_R 0 0 0 0) #[(.ref ar), (.int 0), (.ref bt), (.int 0), (.int 3)] h0 (Q_rmC_3_1 Z ar bt k kb c0 c1 c2 h0 n0) := by
  refine own_open (plainFor_of_name pn_0) ?_
  intro p e s m below meth c s₁ hx hby hlk hret hml hown hnm hZ X0 e0
  have hW := own_hW hw
  have N0 := Fr.nil n0
  refine own_of (fun tt_ kk_ => castTop (ef_rmC_3_1 m ar (0 : Int32) bt (0 : Int32) (3 : Int32)) kk_) ?_
  show own_go p e below s _ _ _ (s₁.setTop (mkF m 0 #[.val (.ref ar), .val (.int 0), .val (.ref bt), .val (.int 0), .val (.int 3), .unset, .unset] []))
  have K0 : Keep h0 h0 [bt] := Keep.refl h0 [bt]
  have lt_ar := own_lt V_a.lt
  have lt_bt := own_lt V_b.lt
  refine own_of (fun tt_ => XS.iconst X0.here hx rfl (hb hby d7_0)) ?_
  refine own_of (fun tt_ => XS.istore X0.here hx rfl (hb hby d7_1) rfl (l' := #[.val (.ref ar), .val (.int 0), .val (.ref bt), .val (.int 0), .val (.int 3), .val (.int 0), .unset]) rfl) ?_
  refine own_of (fun tt_ => XS.iload X0.here hx rfl (hb hby d7_3) rfl) ?_
  refine own_of (fun tt_ => XS.iload X0.here hx rfl (hb hby d7_5) rfl) ?_
  have hb7_1 : (0 : Int32) < (3 : Int32) := by decide
  refine own_of (fun tt_ => XS.icmpNo X0.here hx rfl (hb hby d7_7) rfl (tlt hb7_1).2.1) ?_
  show own_go p e below s _ _ _ (s₁.setTop (mkF m 10 #[.val (.ref ar), .val (.int 0), .val (.ref bt), .val (.int 0), .val (.int 3), .val (.int 0), .unset] []))
  refine own_of (fun tt_ => XS.aloadN X0.here hx rfl (hb hby d7_10) rfl rfl) ?_
  refine own_of (fun tt_ => XS.iloadN X0.here hx rfl (hb hby d7_11) rfl) ?_
  obtain ⟨cl2, Ar2, q2, S2, Ng2, H2, G2⟩ := id V_a
  have hin2 : ¬ ((0 : Int32) < 0 ∨ cl2.slots.size ≤ ((0 : Int32)).toNatClampNeg) := inb_of S2 ⟨by decide, by decide⟩
  have hat2 : cl2.slots[((0 : Int32)).toNatClampNeg]? = some (.int c0) := H2 0 (by rw [S2]; decide)
  refine own_of (fun tt_ => X0.caload hx (j := (0 : Int32)) (v := (.int c0)) (by rw [e0]; exact Ar2.1) (State.isArrayOf_alike hZ.alike Ar2.2.1) Ar2.2.2 hin2 hat2 (g := (mkF m 12 #[.val (.ref ar), .val (.int 0), .val (.ref bt), .val (.int 0), .val (.int 3), .val (.int 0), .unset] [(.int 0), (.ref ar)])) rfl rfl (hb hby d7_12) _) ?_
  show own_go p e below s _ _ _ (s₁.setTop (mkF m 13 #[.val (.ref ar), .val (.int 0), .val (.ref bt), .val (.int 0), .val (.int 3), .val (.int 0), .unset] [(.int c0)]))
  refine own_of (fun tt_ => XS.istore X0.here hx rfl (hb hby d7_13) rfl (l' := #[.val (.ref ar), .val (.int 0), .val (.ref bt), .val (.int 0), .val (.int 3), .val (.int 0), .val (.int c0)]) rfl) ?_
  refine own_of (fun tt_ => XS.iload X0.here hx rfl (hb hby d7_15) rfl) ?_
  refine own_of (fun tt_ => XS.sipush X0.here hx rfl (hb hby d7_17)) ?_
  have hb20_3 : ¬ ((255 : Int32) < c0) := wq0
  refine own_of (fun tt_ => XS.icmpYes X0.here hx rfl (pc0 := 20) (pc' := 26) rfl (hb hby d7_20) rfl (flt hb20_3).2.2.2 (by decide) (by decide)) ?_
  show own_go p e below s _ _ _ (s₁.setTop (mkF m 26 #[.val (.ref ar), .val (.int 0), .val (.ref bt), .val (.int 0), .val (.int 3), .val (.int 0), .val (.int c0)] []))
  refine own_of (fun tt_ => XS.aloadN X0.here hx rfl (hb hby d7_26) rfl rfl) ?_
  refine own_of (fun tt_ => XS.iloadN X0.here hx rfl (hb hby d7_27) rfl) ?_
  refine own_of (fun tt_ => XS.iload X0.here hx rfl (hb hby d7_28) rfl) ?_
  refine own_of (fun tt_ => XS.i2b X0.here hx rfl (hb hby d7_30) rfl) ?_
  show own_go p e below s _ _ _ (s₁.setTop (mkF m 31 #[.val (.ref ar), .val (.int 0), .val (.ref bt), .val (.int 0), .val (.int 3), .val (.int 0), .val (.int c0)] [(.int (c0.toInt8.toInt32)), (.int 0), (.ref bt)]))
  obtain ⟨cl4, Ar4, q4, S4, Ng4, H4, G4⟩ := V_b
  obtain ⟨T4, h4, X4, e4, W4, st4⟩ := stB X0 hx hZ e0 Ar4 (j := (0 : Int32)) (inb_of S4 ⟨by decide, by decide⟩) (g := (mkF m 31 #[.val (.ref ar), .val (.int 0), .val (.ref bt), .val (.int 0), .val (.int 3), .val (.int 0), .val (.int c0)] [(.int (c0.toInt8.toInt32)), (.int 0), (.ref bt)])) rfl rfl (hb hby d7_31)
  have V4 : Arv Z h4 bt kb .byte (3 : Int32) [(.int (nar .byte (c0.toInt8.toInt32))), (.int 0), (.int 0)] (.int 0) := Arv.set Ar4 q4 S4 Ng4 H4 G4 (fits_nar_byte _) W4 0 rfl (Nat.le_of_ble_eq_true rfl)
  refine own_of st4 ?_
  have N4 := Fr.snoc X4 N0 (by omega : n0 ≤ bt)
  have sz4 : h4.size = h0.size := W4.size
  have O4 : Old Z n0 h4 := XO0.wr W4 (by omega)
  have K4 : Keep h0 h4 [bt] := K0.wr W4 (Or.inl (List.mem_of_getElem? (i := 0) rfl))
  show own_go p e below s _ _ _ (T4.setTop (mkF m 32 #[.val (.ref ar), .val (.int 0), .val (.ref bt), .val (.int 0), .val (.int 3), .val (.int 0), .val (.int c0)] []))
  refine own_of (fun tt_ => XS.iinc X4.here hx rfl (hb hby d7_32) rfl (l' := #[.val (.ref ar), .val (.int 1), .val (.ref bt), .val (.int 0), .val (.int 3), .val (.int 0), .val (.int c0)]) rfl) ?_
  refine own_of (fun tt_ => XS.iinc X4.here hx rfl (hb hby d7_35) rfl (l' := #[.val (.ref ar), .val (.int 1), .val (.ref bt), .val (.int 1), .val (.int 3), .val (.int 0), .val (.int c0)]) rfl) ?_
  refine own_of (fun tt_ => XS.iinc X4.here hx rfl (hb hby d7_38) rfl (l' := #[.val (.ref ar), .val (.int 1), .val (.ref bt), .val (.int 1), .val (.int 3), .val (.int 1), .val (.int c0)]) rfl) ?_
  refine own_of (fun tt_ => XS.goto X4.here hx rfl (pc0 := 41) (pc' := 3) rfl (hb hby d7_41) (by decide) (by decide)) ?_
  refine own_of (fun tt_ => XS.iload X4.here hx rfl (hb hby d7_3) rfl) ?_
  refine own_of (fun tt_ => XS.iload X4.here hx rfl (hb hby d7_5) rfl) ?_
  have hb7_5 : (1 : Int32) < (3 : Int32) := by decide
  refine own_of (fun tt_ => XS.icmpNo X4.here hx rfl (hb hby d7_7) rfl (tlt hb7_5).2.1) ?_
  show own_go p e below s _ _ _ (T4.setTop (mkF m 10 #[.val (.ref ar), .val (.int 1), .val (.ref bt), .val (.int 1), .val (.int 3), .val (.int 1), .val (.int c0)] []))
  refine own_of (fun tt_ => XS.aloadN X4.here hx rfl (hb hby d7_10) rfl rfl) ?_
  refine own_of (fun tt_ => XS.iloadN X4.here hx rfl (hb hby d7_11) rfl) ?_
  have f6 : Arv Z h4 ar k .char (3 : Int32) [(.int c0), (.int c1), (.int c2)] (.int 0) := (V_a.other W4 (own_ne (by omega)))
  obtain ⟨cl7, Ar7, q7, S7, Ng7, H7, G7⟩ := id f6
  have hin7 : ¬ ((1 : Int32) < 0 ∨ cl7.slots.size ≤ ((1 : Int32)).toNatClampNeg) := inb_of S7 ⟨by decide, by decide⟩
  have hat7 : cl7.slots[((1 : Int32)).toNatClampNeg]? = some (.int c1) := H7 1 (by rw [S7]; decide)
  refine own_of (fun tt_ => X4.caload hx (j := (1 : Int32)) (v := (.int c1)) (by rw [e4]; exact Ar7.1) (State.isArrayOf_alike hZ.alike Ar7.2.1) Ar7.2.2 hin7 hat7 (g := (mkF m 12 #[.val (.ref ar), .val (.int 1), .val (.ref bt), .val (.int 1), .val (.int 3), .val (.int 1), .val (.int c0)] [(.int 1), (.ref ar)])) rfl rfl (hb hby d7_12) _) ?_
  show own_go p e below s _ _ _ (T4.setTop (mkF m 13 #[.val (.ref ar), .val (.int 1), .val (.ref bt), .val (.int 1), .val (.int 3), .val (.int 1), .val (.int c0)] [(.int c1)]))
  refine own_of (fun tt_ => XS.istore X4.here hx rfl (hb hby d7_13) rfl (l' := #[.val (.ref ar), .val (.int 1), .val (.ref bt), .val (.int 1), .val (.int 3), .val (.int 1), .val (.int c1)]) rfl) ?_
  refine own_of (fun tt_ => XS.iload X4.here hx rfl (hb hby d7_15) rfl) ?_
  refine own_of (fun tt_ => XS.sipush X4.here hx rfl (hb hby d7_17)) ?_
  have hb20_8 : (255 : Int32) < c1 := wq1
  refine own_of (fun tt_ => XS.icmpNo X4.here hx rfl (hb hby d7_20) rfl (tlt hb20_8).2.2.2) ?_
  show own_go p e below s _ _ _ (T4.setTop (mkF m 23 #[.val (.ref ar), .val (.int 1), .val (.ref bt), .val (.int 1), .val (.int 3), .val (.int 1), .val (.int c1)] []))
  refine own_of (fun tt_ => XS.iload X4.here hx rfl (hb hby d7_23) rfl) ?_
  show own_go p e below s _ _ _ (T4.setTop (mkF m 25 #[.val (.ref ar), .val (.int 1), .val (.ref bt), .val (.int 1), .val (.int 3), .val (.int 1), .val (.int c1)] [(.int 1)]))
  refine own_ret X4 hx hlk hret rfl (Or.inl ⟨rfl, by simp, _, rfl⟩) (hb hby d7_25) (by decide) (by decide) ?_
  rw [e4]
  exact ⟨rfl, N4, K4⟩
theorem ef_rmC_3_2 (m : MethodId) (x0 : Nat) (x1 : Int32) (x2 : Nat) (x3 : Int32) (x4 : Int32) : entryFrame m #[(.ref x0), (.int x1), (.ref x2), (.int x3), (.int x4)] 7 = mkF m 0 #[.val (.ref x0), .val (.int x1), .val (.ref x2), .val (.int x3), .val (.int x4), .unset, .unset] [] := by first | (simp [entryFrame, mkF, argsToLocals, Value.category]; done) | rfl
def Q_rmC_3_2 (Z : State) (ar : Nat) (bt : Nat) (k : ClassId) (kb : ClassId) (c0 : Int32) (c1 : Int32) (c2 : Int32) (h0 : Heap) (n0 : Nat) (v : Option Value) (h : Heap) (L : List Loc) : Prop := v = some (.int 2) ∧ Fr n0 L ∧ Keep h0 h [bt]
set_option maxRecDepth 65536 in
set_option maxHeartbeats 40000000 in
theorem rmC_3_2 (l : Launch) (Z : State) (a0 : Array Value) (hw : own_H Z a0) (ws : List Jvm.Cond) (ar : Nat) (bt : Nat) (k : ClassId) (kb : ClassId) (c0 : Int32) (c1 : Int32) (c2 : Int32) (h0 : Heap) (n0 : Nat) (XO0 : Old Z n0 h0) (V_a : Arv Z h0 ar k .char (3 : Int32) [(.int c0), (.int c1), (.int c2)] (.int 0)) (g_b : n0 ≤ bt) (hne : ar ≠ bt) (V_b : Arv Z h0 bt kb .byte (3 : Int32) [(.int 0), (.int 0), (.int 0)] (.int 0)) (wq0 : ¬ (255 : Int32) < c0) (wq1 : ¬ (255 : Int32) < c1) (wq2 : (255 : Int32) < c2) :
    own_M l Z ym10 jdk_52_method_21_code ws 7 (some .int) (own_R 0 0 0 0) #[(.ref ar), (.int 0), (.ref bt), (.int 0), (.int 3)] h0 (Q_rmC_3_2 Z ar bt k kb c0 c1 c2 h0 n0) := by
  refine own_open (plainFor_of_name pn_0) ?_
  intro p e s m below meth c s₁ hx hby hlk hret hml hown hnm hZ X0 e0
  have hW := own_hW hw
  have N0 := Fr.nil n0
  refine own_of (fun tt_ kk_ => castTop (ef_rmC_3_2 m ar (0 : Int32) bt (0 : Int32) (3 : Int32)) kk_) ?_
  show own_go p e below s _ _ _ (s₁.setTop (mkF m 0 #[.val (.ref ar), .val (.int 0), .val (.ref bt), .val (.int 0), .val (.int 3), .unset, .unset] []))
  have K0 : Keep h0 h0 [bt] := Keep.refl h0 [bt]
  have lt_ar := own_lt V_a.lt
  have lt_bt := own_lt V_b.lt
  refine own_of (fun tt_ => XS.iconst X0.here hx rfl (hb hby d7_0)) ?_
  refine own_of (fun tt_ => XS.istore X0.here hx rfl (hb hby d7_1) rfl (l' := #[.val (.ref ar), .val (.int 0), .val (.ref bt), .val (.int 0), .val (.int 3), .val (.int 0), .unset]) rfl) ?_
  refine own_of (fun tt_ => XS.iload X0.here hx rfl (hb hby d7_3) rfl) ?_
  refine own_of (fun tt_ => XS.iload X0.here hx rfl (hb hby d7_5) rfl) ?_
  have hb7_1 : (0 : Int32) < (3 : Int32) := by decide
  refine own_of (fun tt_ => XS.icmpNo X0.here hx rfl (hb hby d7_7) rfl (tlt hb7_1).2.1) ?_
  show own_go p e below s _ _ _ (s₁.setTop (mkF m 10 #[.val (.ref ar), .val (.int 0), .val (.ref bt), .val (.int 0), .val (.int 3), .val (.int 0), .unset] []))
  refine own_of (fun tt_ => XS.aloadN X0.here hx rfl (hb hby d7_10) rfl rfl) ?_
  refine own_of (fun tt_ => XS.iloadN X0.here hx rfl (hb hby d7_11) rfl) ?_
  obtain ⟨cl2, Ar2, q2, S2, Ng2, H2, G2⟩ := id V_a
  have hin2 : ¬ ((0 : Int32) < 0 ∨ cl2.slots.size ≤ ((0 : Int32)).toNatClampNeg) := inb_of S2 ⟨by decide, by decide⟩
  have hat2 : cl2.slots[((0 : Int32)).toNatClampNeg]? = some (.int c0) := H2 0 (by rw [S2]; decide)
  refine own_of (fun tt_ => X0.caload hx (j := (0 : Int32)) (v := (.int c0)) (by rw [e0]; exact Ar2.1) (State.isArrayOf_alike hZ.alike Ar2.2.1) Ar2.2.2 hin2 hat2 (g := (mkF m 12 #[.val (.ref ar), .val (.int 0), .val (.ref bt), .val (.int 0), .val (.int 3), .val (.int 0), .unset] [(.int 0), (.ref ar)])) rfl rfl (hb hby d7_12) _) ?_
  show own_go p e below s _ _ _ (s₁.setTop (mkF m 13 #[.val (.ref ar), .val (.int 0), .val (.ref bt), .val (.int 0), .val (.int 3), .val (.int 0), .unset] [(.int c0)]))
  refine own_of (fun tt_ => XS.istore X0.here hx rfl (hb hby d7_13) rfl (l' := #[.val (.ref ar), .val (.int 0), .val (.ref bt), .val (.int 0), .val (.int 3), .val (.int 0), .val (.int c0)]) rfl) ?_
  refine own_of (fun tt_ => XS.iload X0.here hx rfl (hb hby d7_15) rfl) ?_
  refine own_of (fun tt_ => XS.sipush X0.here hx rfl (hb hby d7_17)) ?_
  have hb20_3 : ¬ ((255 : Int32) < c0) := wq0
  refine own_of (fun tt_ => XS.icmpYes X0.here hx rfl (pc0 := 20) (pc' := 26) rfl (hb hby d7_20) rfl (flt hb20_3).2.2.2 (by decide) (by decide)) ?_
  show own_go p e below s _ _ _ (s₁.setTop (mkF m 26 #[.val (.ref ar), .val (.int 0), .val (.ref bt), .val (.int 0), .val (.int 3), .val (.int 0), .val (.int c0)] []))
  refine own_of (fun tt_ => XS.aloadN X0.here hx rfl (hb hby d7_26) rfl rfl) ?_
  refine own_of (fun tt_ => XS.iloadN X0.here hx rfl (hb hby d7_27) rfl) ?_
  refine own_of (fun tt_ => XS.iload X0.here hx rfl (hb hby d7_28) rfl) ?_
  refine own_of (fun tt_ => XS.i2b X0.here hx rfl (hb hby d7_30) rfl) ?_
  show own_go p e below s _ _ _ (s₁.setTop (mkF m 31 #[.val (.ref ar), .val (.int 0), .val (.ref bt), .val (.int 0), .val (.int 3), .val (.int 0), .val (.int c0)] [(.int (c0.toInt8.toInt32)), (.int 0), (.ref bt)]))
  obtain ⟨cl4, Ar4, q4, S4, Ng4, H4, G4⟩ := V_b
  obtain ⟨T4, h4, X4, e4, W4, st4⟩ := stB X0 hx hZ e0 Ar4 (j := (0 : Int32)) (inb_of S4 ⟨by decide, by decide⟩) (g := (mkF m 31 #[.val (.ref ar), .val (.int 0), .val (.ref bt), .val (.int 0), .val (.int 3), .val (.int 0), .val (.int c0)] [(.int (c0.toInt8.toInt32)), (.int 0), (.ref bt)])) rfl rfl (hb hby d7_31)
  have V4 : Arv Z h4 bt kb .byte (3 : Int32) [(.int (nar .byte (c0.toInt8.toInt32))), (.int 0), (.int 0)] (.int 0) := Arv.set Ar4 q4 S4 Ng4 H4 G4 (fits_nar_byte _) W4 0 rfl (Nat.le_of_ble_eq_true rfl)
  refine own_of st4 ?_
  have N4 := Fr.snoc X4 N0 (by omega : n0 ≤ bt)
  have sz4 : h4.size = h0.size := W4.size
  have O4 : Old Z n0 h4 := XO0.wr W4 (by omega)
  have K4 : Keep h0 h4 [bt] := K0.wr W4 (Or.inl (List.mem_of_getElem? (i := 0) rfl))
  show own_go p e below s _ _ _ (T4.setTop (mkF m 32 #[.val (.ref ar), .val (.int 0), .val (.ref bt), .val (.int 0), .val (.int 3), .val (.int 0), .val (.int c0)] []))
  refine own_of (fun tt_ => XS.iinc X4.here hx rfl (hb hby d7_32) rfl (l' := #[.val (.ref ar), .val (.int 1), .val (.ref bt), .val (.int 0), .val (.int 3), .val (.int 0), .val (.int c0)]) rfl) ?_
  refine own_of (fun tt_ => XS.iinc X4.here hx rfl (hb hby d7_35) rfl (l' := #[.val (.ref ar), .val (.int 1), .val (.ref bt), .val (.int 1), .val (.int 3), .val (.int 0), .val (.int c0)]) rfl) ?_
  refine own_of (fun tt_ => XS.iinc X4.here hx rfl (hb hby d7_38) rfl (l' := #[.val (.ref ar), .val (.int 1), .val (.ref bt), .val (.int 1), .val (.int 3), .val (.int 1), .val (.int c0)]) rfl) ?_
  refine own_of (fun tt_ => XS.goto X4.here hx rfl (pc0 := 41) (pc' := 3) rfl (hb hby d7_41) (by decide) (by decide)) ?_
  refine own_of (fun tt_ => XS.iload X4.here hx rfl (hb hby d7_3) rfl) ?_
  refine own_of (fun tt_ => XS.iload X4.here hx rfl (hb hby d7_5) rfl) ?_
  have hb7_5 : (1 : Int32) < (3 : Int32) := by decide
  refine own_of (fun tt_ => XS.icmpNo X4.here hx rfl (hb hby d7_7) rfl (tlt hb7_5).2.1) ?_
  show own_go p e below s _ _ _ (T4.setTop (mkF m 10 #[.val (.ref ar), .val (.int 1), .val (.ref bt), .val (.int 1), .val (.int 3), .val (.int 1), .val (.int c0)] []))
  refine own_of (fun tt_ => XS.aloadN X4.here hx rfl (hb hby d7_10) rfl rfl) ?_
  refine own_of (fun tt_ => XS.iloadN X4.here hx rfl (hb hby d7_11) rfl) ?_
  have f6 : Arv Z h4 ar k .char (3 : Int32) [(.int c0), (.int c1), (.int c2)] (.int 0) := (V_a.other W4 (own_ne (by omega)))
  obtain ⟨cl7, Ar7, q7, S7, Ng7, H7, G7⟩ := id f6
  have hin7 : ¬ ((1 : Int32) < 0 ∨ cl7.slots.size ≤ ((1 : Int32)).toNatClampNeg) := inb_of S7 ⟨by decide, by decide⟩
  have hat7 : cl7.slots[((1 : Int32)).toNatClampNeg]? = some (.int c1) := H7 1 (by rw [S7]; decide)
  refine own_of (fun tt_ => X4.caload hx (j := (1 : Int32)) (v := (.int c1)) (by rw [e4]; exact Ar7.1) (State.isArrayOf_alike hZ.alike Ar7.2.1) Ar7.2.2 hin7 hat7 (g := (mkF m 12 #[.val (.ref ar), .val (.int 1), .val (.ref bt), .val (.int 1), .val (.int 3), .val (.int 1), .val (.int c0)] [(.int 1), (.ref ar)])) rfl rfl (hb hby d7_12) _) ?_
  show own_go p e below s _ _ _ (T4.setTop (mkF m 13 #[.val (.ref ar), .val (.int 1), .val (.ref bt), .val (.int 1), .val (.int 3), .val (.int 1), .val (.int c0)] [(.int c1)]))
  refine own_of (fun tt_ => XS.istore X4.here hx rfl (hb hby d7_13) rfl (l' := #[.val (.ref ar), .val (.int 1), .val (.ref bt), .val (.int 1), .val (.int 3), .val (.int 1), .val (.int c1)]) rfl) ?_
  refine own_of (fun tt_ => XS.iload X4.here hx rfl (hb hby d7_15) rfl) ?_
  refine own_of (fun tt_ => XS.sipush X4.here hx rfl (hb hby d7_17)) ?_
  have hb20_8 : ¬ ((255 : Int32) < c1) := wq1
  refine own_of (fun tt_ => XS.icmpYes X4.here hx rfl (pc0 := 20) (pc' := 26) rfl (hb hby d7_20) rfl (flt hb20_8).2.2.2 (by decide) (by decide)) ?_
  show own_go p e below s _ _ _ (T4.setTop (mkF m 26 #[.val (.ref ar), .val (.int 1), .val (.ref bt), .val (.int 1), .val (.int 3), .val (.int 1), .val (.int c1)] []))
  refine own_of (fun tt_ => XS.aloadN X4.here hx rfl (hb hby d7_26) rfl rfl) ?_
  refine own_of (fun tt_ => XS.iloadN X4.here hx rfl (hb hby d7_27) rfl) ?_
  refine own_of (fun tt_ => XS.iload X4.here hx rfl (hb hby d7_28) rfl) ?_
  refine own_of (fun tt_ => XS.i2b X4.here hx rfl (hb hby d7_30) rfl) ?_
  show own_go p e below s _ _ _ (T4.setTop (mkF m 31 #[.val (.ref ar), .val (.int 1), .val (.ref bt), .val (.int 1), .val (.int 3), .val (.int 1), .val (.int c1)] [(.int (c1.toInt8.toInt32)), (.int 1), (.ref bt)]))
  obtain ⟨cl9, Ar9, q9, S9, Ng9, H9, G9⟩ := V4
  obtain ⟨T9, h9, X9, e9, W9, st9⟩ := stB X4 hx hZ e4 Ar9 (j := (1 : Int32)) (inb_of S9 ⟨by decide, by decide⟩) (g := (mkF m 31 #[.val (.ref ar), .val (.int 1), .val (.ref bt), .val (.int 1), .val (.int 3), .val (.int 1), .val (.int c1)] [(.int (c1.toInt8.toInt32)), (.int 1), (.ref bt)])) rfl rfl (hb hby d7_31)
  have V9 : Arv Z h9 bt kb .byte (3 : Int32) [(.int (nar .byte (c0.toInt8.toInt32))), (.int (nar .byte (c1.toInt8.toInt32))), (.int 0)] (.int 0) := Arv.set Ar9 q9 S9 Ng9 H9 G9 (fits_nar_byte _) W9 1 rfl (Nat.le_of_ble_eq_true rfl)
  refine own_of st9 ?_
  have N9 := Fr.snoc X9 N4 (by omega : n0 ≤ bt)
  have sz9 : h9.size = h4.size := W9.size
  have O9 : Old Z n0 h9 := O4.wr W9 (by omega)
  have K9 : Keep h0 h9 [bt] := K4.wr W9 (Or.inl (List.mem_of_getElem? (i := 0) rfl))
  show own_go p e below s _ _ _ (T9.setTop (mkF m 32 #[.val (.ref ar), .val (.int 1), .val (.ref bt), .val (.int 1), .val (.int 3), .val (.int 1), .val (.int c1)] []))
  refine own_of (fun tt_ => XS.iinc X9.here hx rfl (hb hby d7_32) rfl (l' := #[.val (.ref ar), .val (.int 2), .val (.ref bt), .val (.int 1), .val (.int 3), .val (.int 1), .val (.int c1)]) rfl) ?_
  refine own_of (fun tt_ => XS.iinc X9.here hx rfl (hb hby d7_35) rfl (l' := #[.val (.ref ar), .val (.int 2), .val (.ref bt), .val (.int 2), .val (.int 3), .val (.int 1), .val (.int c1)]) rfl) ?_
  refine own_of (fun tt_ => XS.iinc X9.here hx rfl (hb hby d7_38) rfl (l' := #[.val (.ref ar), .val (.int 2), .val (.ref bt), .val (.int 2), .val (.int 3), .val (.int 2), .val (.int c1)]) rfl) ?_
  refine own_of (fun tt_ => XS.goto X9.here hx rfl (pc0 := 41) (pc' := 3) rfl (hb hby d7_41) (by decide) (by decide)) ?_
  refine own_of (fun tt_ => XS.iload X9.here hx rfl (hb hby d7_3) rfl) ?_
  refine own_of (fun tt_ => XS.iload X9.here hx rfl (hb hby d7_5) rfl) ?_
  have hb7_10 : (2 : Int32) < (3 : Int32) := by decide
  refine own_of (fun tt_ => XS.icmpNo X9.here hx rfl (hb hby d7_7) rfl (tlt hb7_10).2.1) ?_
  show own_go p e below s _ _ _ (T9.setTop (mkF m 10 #[.val (.ref ar), .val (.int 2), .val (.ref bt), .val (.int 2), .val (.int 3), .val (.int 2), .val (.int c1)] []))
  refine own_of (fun tt_ => XS.aloadN X9.here hx rfl (hb hby d7_10) rfl rfl) ?_
  refine own_of (fun tt_ => XS.iloadN X9.here hx rfl (hb hby d7_11) rfl) ?_
  have f11 : Arv Z h9 ar k .char (3 : Int32) [(.int c0), (.int c1), (.int c2)] (.int 0) := (f6.other W9 (own_ne (by omega)))
  obtain ⟨cl12, Ar12, q12, S12, Ng12, H12, G12⟩ := id f11
  have hin12 : ¬ ((2 : Int32) < 0 ∨ cl12.slots.size ≤ ((2 : Int32)).toNatClampNeg) := inb_of S12 ⟨by decide, by decide⟩
  have hat12 : cl12.slots[((2 : Int32)).toNatClampNeg]? = some (.int c2) := H12 2 (by rw [S12]; decide)
  refine own_of (fun tt_ => X9.caload hx (j := (2 : Int32)) (v := (.int c2)) (by rw [e9]; exact Ar12.1) (State.isArrayOf_alike hZ.alike Ar12.2.1) Ar12.2.2 hin12 hat12 (g := (mkF m 12 #[.val (.ref ar), .val (.int 2), .val (.ref bt), .val (.int 2), .val (.int 3), .val (.int 2), .val (.int c1)] [(.int 2), (.ref ar)])) rfl rfl (hb hby d7_12) _) ?_
  show own_go p e below s _ _ _ (T9.setTop (mkF m 13 #[.val (.ref ar), .val (.int 2), .val (.ref bt), .val (.int 2), .val (.int 3), .val (.int 2), .val (.int c1)] [(.int c2)]))
  refine own_of (fun tt_ => XS.istore X9.here hx rfl (hb hby d7_13) rfl (l' := #[.val (.ref ar), .val (.int 2), .val (.ref bt), .val (.int 2), .val (.int 3), .val (.int 2), .val (.int c2)]) rfl) ?_
  refine own_of (fun tt_ => XS.iload X9.here hx rfl (hb hby d7_15) rfl) ?_
  refine own_of (fun tt_ => XS.sipush X9.here hx rfl (hb hby d7_17)) ?_
  have hb20_13 : (255 : Int32) < c2 := wq2
  refine own_of (fun tt_ => XS.icmpNo X9.here hx rfl (hb hby d7_20) rfl (tlt hb20_13).2.2.2) ?_
  show own_go p e below s _ _ _ (T9.setTop (mkF m 23 #[.val (.ref ar), .val (.int 2), .val (.ref bt), .val (.int 2), .val (.int 3), .val (.int 2), .val (.int c2)] []))
  refine own_of (fun tt_ => XS.iload X9.here hx rfl (hb hby d7_23) rfl) ?_
  show own_go p e below s _ _ _ (T9.setTop (mkF m 25 #[.val (.ref ar), .val (.int 2), .val (.ref bt), .val (.int 2), .val (.int 3), .val (.int 2), .val (.int c2)] [(.int 2)]))
  refine own_ret X9 hx hlk hret rfl (Or.inl ⟨rfl, by simp, _, rfl⟩) (hb hby d7_25) (by decide) (by decide) ?_
  rw [e9]
  exact ⟨rfl, N9, K9⟩
def Q_rmK_1 (Z : State) (ar : Nat) (k : ClassId) (c0 : Int32) (h0 : Heap) (n0 : Nat) (v : Option Value) (h : Heap) (L : List Loc) : Prop := ∃ (a : Nat) (kb : ClassId), v = some (.ref a) ∧ Fr n0 L ∧ Keep h0 h [] ∧ h0.size ≤ a ∧ Arv Z h a kb .byte (2 : Int32) [(.int (StrChars.lo8 c0)), (.int (StrChars.hi8 c0))] (.int 0)
theorem ef_rmK_1_0 (m : MethodId) (x0 : Nat) (x1 : Int32) (x2 : Int32) : entryFrame m #[(.ref x0), (.int x1), (.int x2)] 6 = mkF m 0 #[.val (.ref x0), .val (.int x1), .val (.int x2), .unset, .unset, .unset] [] := by first | (simp [entryFrame, mkF, argsToLocals, Value.category]; done) | rfl
theorem d6_0 : decode jdk_52_method_16_code 0 = .ok (.iload_n 2, 1) := by decide +kernel
theorem d6_1 : decode jdk_52_method_16_code 1 = .ok (.newarray .byte, 2) := by decide +kernel
theorem d6_3 : decode jdk_52_method_16_code 3 = .ok (.astore_n 3, 1) := by decide +kernel
theorem d6_4 : decode jdk_52_method_16_code 4 = .ok (.aload_n 0, 1) := by decide +kernel
theorem d6_5 : decode jdk_52_method_16_code 5 = .ok (.iload_n 1, 1) := by decide +kernel
theorem d6_6 : decode jdk_52_method_16_code 6 = .ok (.aload_n 3, 1) := by decide +kernel
theorem d6_7 : decode jdk_52_method_16_code 7 = .ok (.iconst 0, 1) := by decide +kernel
theorem d6_8 : decode jdk_52_method_16_code 8 = .ok (.iload_n 2, 1) := by decide +kernel
theorem d6_9 : decode jdk_52_method_16_code 9 = .ok (.invokestatic 115, 3) := by decide +kernel
theorem pd_3 : parseMethodDescriptor "([CI[BII)I" = some ⟨[(.array .char), .int, (.array .byte), .int, .int], some .int⟩ := by decide +kernel
theorem d6_12 : decode jdk_52_method_16_code 12 = .ok (.istore 4, 2) := by decide +kernel
theorem d6_14 : decode jdk_52_method_16_code 14 = .ok (.iload 4, 2) := by decide +kernel
theorem d6_16 : decode jdk_52_method_16_code 16 = .ok (.iload_n 2, 1) := by decide +kernel
theorem d6_17 : decode jdk_52_method_16_code 17 = .ok (.if_icmp .eq 40, 3) := by decide +kernel
theorem d6_20 : decode jdk_52_method_16_code 20 = .ok (.aload_n 0, 1) := by decide +kernel
theorem d6_21 : decode jdk_52_method_16_code 21 = .ok (.iload_n 1, 1) := by decide +kernel
theorem d6_22 : decode jdk_52_method_16_code 22 = .ok (.iload_n 2, 1) := by decide +kernel
theorem d6_23 : decode jdk_52_method_16_code 23 = .ok (.invokestatic 119, 3) := by decide +kernel
theorem pd_4 : parseMethodDescriptor "([CII)[B" = some ⟨[(.array .char), .int, .int], some (.array .byte)⟩ := by decide +kernel
theorem d6_26 : decode jdk_52_method_16_code 26 = .ok (.astore 5, 2) := by decide +kernel
theorem d6_28 : decode jdk_52_method_16_code 28 = .ok (.aload 5, 2) := by decide +kernel
theorem d6_30 : decode jdk_52_method_16_code 30 = .ok (.iload 4, 2) := by decide +kernel
theorem d6_32 : decode jdk_52_method_16_code 32 = .ok (.invokestatic 71, 3) := by decide +kernel
theorem pd_5 : parseMethodDescriptor "([BI)C" = some ⟨[(.array .byte), .int], some .char⟩ := by decide +kernel
theorem d6_35 : decode jdk_52_method_16_code 35 = .ok (.sipush 255, 3) := by decide +kernel
theorem d6_38 : decode jdk_52_method_16_code 38 = .ok (.if_icmp .gt 16, 3) := by decide +kernel
theorem d6_54 : decode jdk_52_method_16_code 54 = .ok (.aload 5, 2) := by decide +kernel
theorem d6_56 : decode jdk_52_method_16_code 56 = .ok (.areturn, 1) := by decide +kernel
set_option maxRecDepth 65536 in
set_option maxHeartbeats 40000000 in
theorem rmK_1_0 (l : Launch) (Z : State) (a0 : Array Value) (hw : own_H Z a0) (ws : List Jvm.Cond) (ar : Nat) (k : ClassId) (c0 : Int32) (h0 : Heap) (n0 : Nat) (XO0 : Old Z n0 h0) (S_ad : Sta Z Z.heap "java/lang/StringUTF16" "$assertionsDisabled" "Z" (.int 1)) (S_hi : Sta Z Z.heap "java/lang/StringUTF16" "HI_BYTE_SHIFT" "I" (.int 0)) (S_lo : Sta Z Z.heap "java/lang/StringUTF16" "LO_BYTE_SHIFT" "I" (.int 8)) (V_a : Arv Z h0 ar k .char (1 : Int32) [(.int c0)] (.int 0)) (r0 : own_c16 c0) (wq0 : (255 : Int32) < c0) :
    own_M l Z ym11 jdk_52_method_16_code ws 6 (some (.array .byte)) (own_R 3 2 3 40) #[(.ref ar), (.int 0), (.int 1)] h0 (Q_rmK_1 Z ar k c0 h0 n0) := by
  refine own_open (plainFor_of_name pn_0) ?_
  intro p e s m below meth c s₁ hx hby hlk hret hml hown hnm hZ X0 e0
  have hW := own_hW hw
  have N0 := Fr.nil n0
  refine own_of (fun tt_ kk_ => castTop (ef_rmK_1_0 m ar (0 : Int32) (1 : Int32)) kk_) ?_
  show own_go p e below s _ _ _ (s₁.setTop (mkF m 0 #[.val (.ref ar), .val (.int 0), .val (.int 1), .unset, .unset, .unset] []))
  have K0 : Keep h0 h0 [] := Keep.refl h0 []
  have lt_ar := own_lt V_a.lt
  refine own_of (fun tt_ => XS.iloadN X0.here hx rfl (hb hby d6_0) rfl) ?_
  obtain ⟨T1, h1, k1, X1, e1, E1, A1, st1⟩ := newP X0 hx hZ (hW 16 _ rfl) e0 (g := (mkF m 1 #[.val (.ref ar), .val (.int 0), .val (.int 1), .unset, .unset, .unset] [(.int 1)])) rfl (hb hby d6_1) rfl (by decide) (cap := 1) (by decide) (by decide) (by decide) (by decide)
  obtain ⟨b1, g1⟩ : ∃ z, z = h0.size := ⟨_, rfl⟩
  rw [← g1] at A1 st1
  refine own_of st1 ?_
  have lt1 := own_lt A1.lt
  have sz1 : h0.size ≤ h1.size := E1.1
  have O1 : Old Z n0 h1 := XO0.ext E1
  have z1 : n0 ≤ b1 := by have := XO0.1 ▸ XO0.2.1; omega
  have K1 : Keep h0 h1 [] := K0.ext E1
  have V1 : Arv Z h1 b1 k1 .byte (1 : Int32) [(.int 0)] (.int 0) := (Arv.new A1 (by decide)).pad (pad_rep [] (.int 0) 1)
  show own_go p e below s _ _ _ (T1.setTop (mkF m 3 #[.val (.ref ar), .val (.int 0), .val (.int 1), .unset, .unset, .unset] [(.ref b1)]))
  refine own_of (fun tt_ => XS.astoreN X1.here hx rfl (hb hby d6_3) rfl rfl (l' := #[.val (.ref ar), .val (.int 0), .val (.int 1), .val (.ref b1), .unset, .unset]) rfl) ?_
  refine own_of (fun tt_ => XS.aloadN X1.here hx rfl (hb hby d6_4) rfl rfl) ?_
  refine own_of (fun tt_ => XS.iloadN X1.here hx rfl (hb hby d6_5) rfl) ?_
  refine own_of (fun tt_ => XS.aloadN X1.here hx rfl (hb hby d6_6) rfl rfl) ?_
  refine own_of (fun tt_ => XS.iconst X1.here hx rfl (hb hby d6_7)) ?_
  refine own_of (fun tt_ => XS.iloadN X1.here hx rfl (hb hby d6_8) rfl) ?_
  show own_go p e below s _ _ _ (T1.setTop (mkF m 9 #[.val (.ref ar), .val (.int 0), .val (.int 1), .val (.ref b1), .unset, .unset] [(.int 1), (.int 0), (.ref b1), (.int 0), (.ref ar)]))
  have f2 : Arv Z h1 ar k .char (1 : Int32) [(.int c0)] (.int 0) := (V_a.ext E1)
  obtain ⟨_, _, ⟨T3, L3, k3, n3⟩, -, X3, ⟨Lc3, hQ3, l3, y3, z3⟩, st3⟩ := Jvm.LawKit.callS X1 hx (y := ym10) hown (mvT hZ (hW 37 _ rfl)) (mvT hZ (hW 38 _ rfl)) (mvT hZ (hW 35 _ rfl)) (mvT hZ (hW 39 _ rfl)) (by decide) (backOf (W := 0) (rmC_1_0 l Z a0 hw [] ar b1 k k1 c0 h1 n0 O1 f2 (by omega) (by omega) V1 wq0) hZ (hW 39 _ rfl) (hW 35 _ rfl) (by decide) (by decide)) (g := (mkF m 9 #[.val (.ref ar), .val (.int 0), .val (.int 1), .val (.ref b1), .unset, .unset] [(.int 1), (.int 0), (.ref b1), (.int 0), (.ref ar)])) rfl (by rw [hml]; rfl) (argsL := [(.ref ar), (.int 0), (.ref b1), (.int 0), (.int 1)]) (rest := []) (lenOf pd_3 rfl) rfl (by show 2 * 0 + _ ≤ _; exact Nat.le_of_eq rfl) (hb hby d6_9) (fun _ _ => ⟨rfl, e1, (by decide : 1 + 0 ≤ _), (by decide : 1 + 0 ≤ _)⟩)
  dsimp only [Pt.U, Pt.locs, Pt.cells, Pt.slots] at X3 l3 y3 z3 st3 hQ3
  subst l3 y3 z3
  obtain ⟨rfl, Nq3, Kp3⟩ := hQ3
  have N3 := Fr.app N0 Nq3
  refine own_of st3 ?_
  have sz3 : h1.size ≤ T3.heap.size := Kp3.1
  have O3 : Old Z n0 T3.heap := O1.keep Kp3 (allS (by omega) all0)
  have K3 : Keep h0 T3.heap [] := K1.trans Kp3 (allS (Or.inr (by omega)) all0)
  show own_go p e below s _ _ _ (T3.setTop (mkF m 12 #[.val (.ref ar), .val (.int 0), .val (.int 1), .val (.ref b1), .unset, .unset] [(.int 0)]))
  refine own_of (fun tt_ => XS.istore X3.here hx rfl (hb hby d6_12) rfl (l' := #[.val (.ref ar), .val (.int 0), .val (.int 1), .val (.ref b1), .val (.int 0), .unset]) rfl) ?_
  refine own_of (fun tt_ => XS.iload X3.here hx rfl (hb hby d6_14) rfl) ?_
  refine own_of (fun tt_ => XS.iloadN X3.here hx rfl (hb hby d6_16) rfl) ?_
  have hb17_4 : ¬ ((0 : Int32) = (1 : Int32)) := by decide
  refine own_of (fun tt_ => XS.icmpNo X3.here hx rfl (hb hby d6_17) rfl (feq hb17_4).1) ?_
  show own_go p e below s _ _ _ (T3.setTop (mkF m 20 #[.val (.ref ar), .val (.int 0), .val (.int 1), .val (.ref b1), .val (.int 0), .unset] []))
  refine own_of (fun tt_ => XS.aloadN X3.here hx rfl (hb hby d6_20) rfl rfl) ?_
  refine own_of (fun tt_ => XS.iloadN X3.here hx rfl (hb hby d6_21) rfl) ?_
  refine own_of (fun tt_ => XS.iloadN X3.here hx rfl (hb hby d6_22) rfl) ?_
  show own_go p e below s _ _ _ (T3.setTop (mkF m 23 #[.val (.ref ar), .val (.int 0), .val (.int 1), .val (.ref b1), .val (.int 0), .unset] [(.int 1), (.int 0), (.ref ar)]))
  have f5 : Arv Z T3.heap ar k .char (1 : Int32) [(.int c0)] (.int 0) := (f2.keep Kp3 (ninS (own_ne (by omega)) nin0))
  obtain ⟨_, _, ⟨T6, L6, k6, n6⟩, -, X6, ⟨Lc6, hQ6, l6, y6, z6⟩, st6⟩ := Jvm.LawKit.callS X3 hx (y := ym16) hown (mvT hZ (hW 79 _ rfl)) (mvT hZ (hW 80 _ rfl)) (mvT hZ (hW 35 _ rfl)) (mvT hZ (hW 81 _ rfl)) (by decide) (backOf (W := 0) (rmT_1 l Z a0 hw [] ar k c0 T3.heap n0 O3 S_ad S_hi S_lo f5) hZ (hW 81 _ rfl) (hW 35 _ rfl) (by decide) (by decide)) (g := (mkF m 23 #[.val (.ref ar), .val (.int 0), .val (.int 1), .val (.ref b1), .val (.int 0), .unset] [(.int 1), (.int 0), (.ref ar)])) rfl (by rw [hml]; rfl) (argsL := [(.ref ar), (.int 0), (.int 1)]) (rest := []) (lenOf pd_4 rfl) rfl (by show 2 * 0 + _ ≤ _; exact Nat.le_of_eq rfl) (hb hby d6_23) (fun _ _ => ⟨rfl, rfl, (by decide : 1 + 1 ≤ _), (by decide : 1 + 2 ≤ _)⟩)
  dsimp only [Pt.U, Pt.locs, Pt.cells, Pt.slots] at X6 l6 y6 z6 st6 hQ6
  subst l6 y6 z6
  obtain ⟨x6, kx6, rfl, Nq6, Kp6, gx6, Vx6⟩ := hQ6
  have N6 := Fr.app N3 Nq6
  refine own_of st6 ?_
  have sz6 : T3.heap.size ≤ T6.heap.size := Kp6.1
  have O6 : Old Z n0 T6.heap := O3.keep Kp6 all0
  have K6 : Keep h0 T6.heap [] := K3.trans Kp6 all0
  have ltx6 := own_lt Vx6.lt
  show own_go p e below s _ _ _ (T6.setTop (mkF m 26 #[.val (.ref ar), .val (.int 0), .val (.int 1), .val (.ref b1), .val (.int 0), .unset] [(.ref x6)]))
  refine own_of (fun tt_ => XS.astore X6.here hx rfl (hb hby d6_26) rfl rfl (l' := #[.val (.ref ar), .val (.int 0), .val (.int 1), .val (.ref b1), .val (.int 0), .val (.ref x6)]) rfl) ?_
  refine own_of (fun tt_ => XS.aload X6.here hx rfl (hb hby d6_28) rfl rfl) ?_
  refine own_of (fun tt_ => XS.iload X6.here hx rfl (hb hby d6_30) rfl) ?_
  show own_go p e below s _ _ _ (T6.setTop (mkF m 32 #[.val (.ref ar), .val (.int 0), .val (.int 1), .val (.ref b1), .val (.int 0), .val (.ref x6)] [(.int 0), (.ref x6)]))
  obtain ⟨_, _, ⟨T7, L7, k7, n7⟩, -, X7, ⟨Lc7, hQ7, l7, y7, z7⟩, st7⟩ := Jvm.LawKit.callS X6 hx (y := ym4) hown (mvT hZ (hW 95 _ rfl)) (mvT hZ (hW 96 _ rfl)) (mvT hZ (hW 35 _ rfl)) (mvT hZ (hW 97 _ rfl)) (by decide) (backOf (W := 0) (rmG_1_0 l Z a0 hw [] x6 kx6 (StrChars.lo8 c0) (StrChars.hi8 c0) T6.heap n0 O6 S_ad S_hi S_lo Vx6) hZ (hW 97 _ rfl) (hW 35 _ rfl) (by decide) (by decide)) (g := (mkF m 32 #[.val (.ref ar), .val (.int 0), .val (.int 1), .val (.ref b1), .val (.int 0), .val (.ref x6)] [(.int 0), (.ref x6)])) rfl (by rw [hml]; rfl) (argsL := [(.ref x6), (.int 0)]) (rest := []) (lenOf pd_5 rfl) rfl (by show 2 * 0 + _ ≤ _; exact Nat.le_of_eq rfl) (hb hby d6_32) (fun _ _ => ⟨rfl, rfl, (by decide : 2 + 0 ≤ _), (by decide : 3 + 0 ≤ _)⟩)
  dsimp only [Pt.U, Pt.locs, Pt.cells, Pt.slots] at X7 l7 y7 z7 st7 hQ7
  subst l7 y7 z7
  obtain ⟨rfl, Nq7, eh7⟩ := hQ7
  have N7 := Fr.app N6 Nq7
  refine own_of st7 ?_
  rw [StrChars.pair_says r0.1 r0.2]
  show own_go p e below s _ _ _ (T7.setTop (mkF m 35 #[.val (.ref ar), .val (.int 0), .val (.int 1), .val (.ref b1), .val (.int 0), .val (.ref x6)] [(.int c0)]))
  refine own_of (fun tt_ => XS.sipush X7.here hx rfl (hb hby d6_35)) ?_
  have hb38_8 : (255 : Int32) < c0 := wq0
  refine own_of (fun tt_ => XS.icmpYes X7.here hx rfl (pc0 := 38) (pc' := 54) rfl (hb hby d6_38) rfl (tlt hb38_8).2.2.1 (by decide) (by decide)) ?_
  show own_go p e below s _ _ _ (T7.setTop (mkF m 54 #[.val (.ref ar), .val (.int 0), .val (.int 1), .val (.ref b1), .val (.int 0), .val (.ref x6)] []))
  refine own_of (fun tt_ => XS.aload X7.here hx rfl (hb hby d6_54) rfl rfl) ?_
  show own_go p e below s _ _ _ (T7.setTop (mkF m 56 #[.val (.ref ar), .val (.int 0), .val (.int 1), .val (.ref b1), .val (.int 0), .val (.ref x6)] [(.ref x6)]))
  refine own_ret X7 hx hlk hret rfl (Or.inr (Or.inr (Or.inr (Or.inr ⟨rfl, rfl, rfl⟩)))) (hb hby d6_56) (by decide) (by decide) ?_
  rw [eh7]
  exact ⟨x6, kx6, rfl, N7, K6, by omega, Vx6⟩
theorem rmK_1 (l : Launch) (Z : State) (a0 : Array Value) (hw : own_H Z a0) (ws : List Jvm.Cond) (ar : Nat) (k : ClassId) (c0 : Int32) (h0 : Heap) (n0 : Nat) (XO0 : Old Z n0 h0) (S_ad : Sta Z Z.heap "java/lang/StringUTF16" "$assertionsDisabled" "Z" (.int 1)) (S_hi : Sta Z Z.heap "java/lang/StringUTF16" "HI_BYTE_SHIFT" "I" (.int 0)) (S_lo : Sta Z Z.heap "java/lang/StringUTF16" "LO_BYTE_SHIFT" "I" (.int 8)) (V_a : Arv Z h0 ar k .char (1 : Int32) [(.int c0)] (.int 0)) (r0 : own_c16 c0) (hbig : (255 : Int32) < c0) :
    own_M l Z ym11 jdk_52_method_16_code ws 6 (some (.array .byte)) (own_R 3 2 3 40) #[(.ref ar), (.int 0), (.int 1)] h0 (Q_rmK_1 Z ar k c0 h0 n0) := by
  by_cases wq0 : (255 : Int32) < c0
  · exact rmK_1_0 l Z a0 hw ws ar k c0 h0 n0 XO0 S_ad S_hi S_lo V_a r0 wq0
  · simp_all
def Q_rmK_2 (Z : State) (ar : Nat) (k : ClassId) (c0 : Int32) (c1 : Int32) (h0 : Heap) (n0 : Nat) (v : Option Value) (h : Heap) (L : List Loc) : Prop := ∃ (a : Nat) (kb : ClassId), v = some (.ref a) ∧ Fr n0 L ∧ Keep h0 h [] ∧ h0.size ≤ a ∧ Arv Z h a kb .byte (4 : Int32) [(.int (StrChars.lo8 c0)), (.int (StrChars.hi8 c0)), (.int (StrChars.lo8 c1)), (.int (StrChars.hi8 c1))] (.int 0)
theorem ef_rmK_2_0 (m : MethodId) (x0 : Nat) (x1 : Int32) (x2 : Int32) : entryFrame m #[(.ref x0), (.int x1), (.int x2)] 6 = mkF m 0 #[.val (.ref x0), .val (.int x1), .val (.int x2), .unset, .unset, .unset] [] := by first | (simp [entryFrame, mkF, argsToLocals, Value.category]; done) | rfl
set_option maxRecDepth 65536 in
set_option maxHeartbeats 40000000 in
theorem rmK_2_0 (l : Launch) (Z : State) (a0 : Array Value) (hw : own_H Z a0) (ws : List Jvm.Cond) (ar : Nat) (k : ClassId) (c0 : Int32) (c1 : Int32) (h0 : Heap) (n0 : Nat) (XO0 : Old Z n0 h0) (S_ad : Sta Z Z.heap "java/lang/StringUTF16" "$assertionsDisabled" "Z" (.int 1)) (S_hi : Sta Z Z.heap "java/lang/StringUTF16" "HI_BYTE_SHIFT" "I" (.int 0)) (S_lo : Sta Z Z.heap "java/lang/StringUTF16" "LO_BYTE_SHIFT" "I" (.int 8)) (V_a : Arv Z h0 ar k .char (2 : Int32) [(.int c0), (.int c1)] (.int 0)) (r0 : own_c16 c0) (r1 : own_c16 c1) (wq0 : (255 : Int32) < c0) :
    own_M l Z ym11 jdk_52_method_16_code ws 6 (some (.array .byte)) (own_R 3 2 6 40) #[(.ref ar), (.int 0), (.int 2)] h0 (Q_rmK_2 Z ar k c0 c1 h0 n0) := by
  refine own_open (plainFor_of_name pn_0) ?_
  intro p e s m below meth c s₁ hx hby hlk hret hml hown hnm hZ X0 e0
  have hW := own_hW hw
  have N0 := Fr.nil n0
  refine own_of (fun tt_ kk_ => castTop (ef_rmK_2_0 m ar (0 : Int32) (2 : Int32)) kk_) ?_
  show own_go p e below s _ _ _ (s₁.setTop (mkF m 0 #[.val (.ref ar), .val (.int 0), .val (.int 2), .unset, .unset, .unset] []))
  have K0 : Keep h0 h0 [] := Keep.refl h0 []
  have lt_ar := own_lt V_a.lt
  refine own_of (fun tt_ => XS.iloadN X0.here hx rfl (hb hby d6_0) rfl) ?_
  obtain ⟨T1, h1, k1, X1, e1, E1, A1, st1⟩ := newP X0 hx hZ (hW 16 _ rfl) e0 (g := (mkF m 1 #[.val (.ref ar), .val (.int 0), .val (.int 2), .unset, .unset, .unset] [(.int 2)])) rfl (hb hby d6_1) rfl (by decide) (cap := 2) (by decide) (by decide) (by decide) (by decide)
  obtain ⟨b1, g1⟩ : ∃ z, z = h0.size := ⟨_, rfl⟩
  rw [← g1] at A1 st1
  refine own_of st1 ?_
  have lt1 := own_lt A1.lt
  have sz1 : h0.size ≤ h1.size := E1.1
  have O1 : Old Z n0 h1 := XO0.ext E1
  have z1 : n0 ≤ b1 := by have := XO0.1 ▸ XO0.2.1; omega
  have K1 : Keep h0 h1 [] := K0.ext E1
  have V1 : Arv Z h1 b1 k1 .byte (2 : Int32) [(.int 0), (.int 0)] (.int 0) := (Arv.new A1 (by decide)).pad (pad_rep [] (.int 0) 2)
  show own_go p e below s _ _ _ (T1.setTop (mkF m 3 #[.val (.ref ar), .val (.int 0), .val (.int 2), .unset, .unset, .unset] [(.ref b1)]))
  refine own_of (fun tt_ => XS.astoreN X1.here hx rfl (hb hby d6_3) rfl rfl (l' := #[.val (.ref ar), .val (.int 0), .val (.int 2), .val (.ref b1), .unset, .unset]) rfl) ?_
  refine own_of (fun tt_ => XS.aloadN X1.here hx rfl (hb hby d6_4) rfl rfl) ?_
  refine own_of (fun tt_ => XS.iloadN X1.here hx rfl (hb hby d6_5) rfl) ?_
  refine own_of (fun tt_ => XS.aloadN X1.here hx rfl (hb hby d6_6) rfl rfl) ?_
  refine own_of (fun tt_ => XS.iconst X1.here hx rfl (hb hby d6_7)) ?_
  refine own_of (fun tt_ => XS.iloadN X1.here hx rfl (hb hby d6_8) rfl) ?_
  show own_go p e below s _ _ _ (T1.setTop (mkF m 9 #[.val (.ref ar), .val (.int 0), .val (.int 2), .val (.ref b1), .unset, .unset] [(.int 2), (.int 0), (.ref b1), (.int 0), (.ref ar)]))
  have f2 : Arv Z h1 ar k .char (2 : Int32) [(.int c0), (.int c1)] (.int 0) := (V_a.ext E1)
  obtain ⟨_, _, ⟨T3, L3, k3, n3⟩, -, X3, ⟨Lc3, hQ3, l3, y3, z3⟩, st3⟩ := Jvm.LawKit.callS X1 hx (y := ym10) hown (mvT hZ (hW 37 _ rfl)) (mvT hZ (hW 38 _ rfl)) (mvT hZ (hW 35 _ rfl)) (mvT hZ (hW 39 _ rfl)) (by decide) (backOf (W := 0) (rmC_2_0 l Z a0 hw [] ar b1 k k1 c0 c1 h1 n0 O1 f2 (by omega) (by omega) V1 wq0) hZ (hW 39 _ rfl) (hW 35 _ rfl) (by decide) (by decide)) (g := (mkF m 9 #[.val (.ref ar), .val (.int 0), .val (.int 2), .val (.ref b1), .unset, .unset] [(.int 2), (.int 0), (.ref b1), (.int 0), (.ref ar)])) rfl (by rw [hml]; rfl) (argsL := [(.ref ar), (.int 0), (.ref b1), (.int 0), (.int 2)]) (rest := []) (lenOf pd_3 rfl) rfl (by show 2 * 0 + _ ≤ _; exact Nat.le_of_eq rfl) (hb hby d6_9) (fun _ _ => ⟨rfl, e1, (by decide : 1 + 0 ≤ _), (by decide : 2 + 0 ≤ _)⟩)
  dsimp only [Pt.U, Pt.locs, Pt.cells, Pt.slots] at X3 l3 y3 z3 st3 hQ3
  subst l3 y3 z3
  obtain ⟨rfl, Nq3, Kp3⟩ := hQ3
  have N3 := Fr.app N0 Nq3
  refine own_of st3 ?_
  have sz3 : h1.size ≤ T3.heap.size := Kp3.1
  have O3 : Old Z n0 T3.heap := O1.keep Kp3 (allS (by omega) all0)
  have K3 : Keep h0 T3.heap [] := K1.trans Kp3 (allS (Or.inr (by omega)) all0)
  show own_go p e below s _ _ _ (T3.setTop (mkF m 12 #[.val (.ref ar), .val (.int 0), .val (.int 2), .val (.ref b1), .unset, .unset] [(.int 0)]))
  refine own_of (fun tt_ => XS.istore X3.here hx rfl (hb hby d6_12) rfl (l' := #[.val (.ref ar), .val (.int 0), .val (.int 2), .val (.ref b1), .val (.int 0), .unset]) rfl) ?_
  refine own_of (fun tt_ => XS.iload X3.here hx rfl (hb hby d6_14) rfl) ?_
  refine own_of (fun tt_ => XS.iloadN X3.here hx rfl (hb hby d6_16) rfl) ?_
  have hb17_4 : ¬ ((0 : Int32) = (2 : Int32)) := by decide
  refine own_of (fun tt_ => XS.icmpNo X3.here hx rfl (hb hby d6_17) rfl (feq hb17_4).1) ?_
  show own_go p e below s _ _ _ (T3.setTop (mkF m 20 #[.val (.ref ar), .val (.int 0), .val (.int 2), .val (.ref b1), .val (.int 0), .unset] []))
  refine own_of (fun tt_ => XS.aloadN X3.here hx rfl (hb hby d6_20) rfl rfl) ?_
  refine own_of (fun tt_ => XS.iloadN X3.here hx rfl (hb hby d6_21) rfl) ?_
  refine own_of (fun tt_ => XS.iloadN X3.here hx rfl (hb hby d6_22) rfl) ?_
  show own_go p e below s _ _ _ (T3.setTop (mkF m 23 #[.val (.ref ar), .val (.int 0), .val (.int 2), .val (.ref b1), .val (.int 0), .unset] [(.int 2), (.int 0), (.ref ar)]))
  have f5 : Arv Z T3.heap ar k .char (2 : Int32) [(.int c0), (.int c1)] (.int 0) := (f2.keep Kp3 (ninS (own_ne (by omega)) nin0))
  obtain ⟨_, _, ⟨T6, L6, k6, n6⟩, -, X6, ⟨Lc6, hQ6, l6, y6, z6⟩, st6⟩ := Jvm.LawKit.callS X3 hx (y := ym16) hown (mvT hZ (hW 79 _ rfl)) (mvT hZ (hW 80 _ rfl)) (mvT hZ (hW 35 _ rfl)) (mvT hZ (hW 81 _ rfl)) (by decide) (backOf (W := 0) (rmT_2 l Z a0 hw [] ar k c0 c1 T3.heap n0 O3 S_ad S_hi S_lo f5) hZ (hW 81 _ rfl) (hW 35 _ rfl) (by decide) (by decide)) (g := (mkF m 23 #[.val (.ref ar), .val (.int 0), .val (.int 2), .val (.ref b1), .val (.int 0), .unset] [(.int 2), (.int 0), (.ref ar)])) rfl (by rw [hml]; rfl) (argsL := [(.ref ar), (.int 0), (.int 2)]) (rest := []) (lenOf pd_4 rfl) rfl (by show 2 * 0 + _ ≤ _; exact Nat.le_of_eq rfl) (hb hby d6_23) (fun _ _ => ⟨rfl, rfl, (by decide : 1 + 1 ≤ _), (by decide : 2 + 4 ≤ _)⟩)
  dsimp only [Pt.U, Pt.locs, Pt.cells, Pt.slots] at X6 l6 y6 z6 st6 hQ6
  subst l6 y6 z6
  obtain ⟨x6, kx6, rfl, Nq6, Kp6, gx6, Vx6⟩ := hQ6
  have N6 := Fr.app N3 Nq6
  refine own_of st6 ?_
  have sz6 : T3.heap.size ≤ T6.heap.size := Kp6.1
  have O6 : Old Z n0 T6.heap := O3.keep Kp6 all0
  have K6 : Keep h0 T6.heap [] := K3.trans Kp6 all0
  have ltx6 := own_lt Vx6.lt
  show own_go p e below s _ _ _ (T6.setTop (mkF m 26 #[.val (.ref ar), .val (.int 0), .val (.int 2), .val (.ref b1), .val (.int 0), .unset] [(.ref x6)]))
  refine own_of (fun tt_ => XS.astore X6.here hx rfl (hb hby d6_26) rfl rfl (l' := #[.val (.ref ar), .val (.int 0), .val (.int 2), .val (.ref b1), .val (.int 0), .val (.ref x6)]) rfl) ?_
  refine own_of (fun tt_ => XS.aload X6.here hx rfl (hb hby d6_28) rfl rfl) ?_
  refine own_of (fun tt_ => XS.iload X6.here hx rfl (hb hby d6_30) rfl) ?_
  show own_go p e below s _ _ _ (T6.setTop (mkF m 32 #[.val (.ref ar), .val (.int 0), .val (.int 2), .val (.ref b1), .val (.int 0), .val (.ref x6)] [(.int 0), (.ref x6)]))
  obtain ⟨_, _, ⟨T7, L7, k7, n7⟩, -, X7, ⟨Lc7, hQ7, l7, y7, z7⟩, st7⟩ := Jvm.LawKit.callS X6 hx (y := ym4) hown (mvT hZ (hW 95 _ rfl)) (mvT hZ (hW 96 _ rfl)) (mvT hZ (hW 35 _ rfl)) (mvT hZ (hW 97 _ rfl)) (by decide) (backOf (W := 0) (rmG_2_0 l Z a0 hw [] x6 kx6 (StrChars.lo8 c0) (StrChars.hi8 c0) (StrChars.lo8 c1) (StrChars.hi8 c1) T6.heap n0 O6 S_ad S_hi S_lo Vx6) hZ (hW 97 _ rfl) (hW 35 _ rfl) (by decide) (by decide)) (g := (mkF m 32 #[.val (.ref ar), .val (.int 0), .val (.int 2), .val (.ref b1), .val (.int 0), .val (.ref x6)] [(.int 0), (.ref x6)])) rfl (by rw [hml]; rfl) (argsL := [(.ref x6), (.int 0)]) (rest := []) (lenOf pd_5 rfl) rfl (by show 2 * 0 + _ ≤ _; exact Nat.le_of_eq rfl) (hb hby d6_32) (fun _ _ => ⟨rfl, rfl, (by decide : 2 + 0 ≤ _), (by decide : 6 + 0 ≤ _)⟩)
  dsimp only [Pt.U, Pt.locs, Pt.cells, Pt.slots] at X7 l7 y7 z7 st7 hQ7
  subst l7 y7 z7
  obtain ⟨rfl, Nq7, eh7⟩ := hQ7
  have N7 := Fr.app N6 Nq7
  refine own_of st7 ?_
  rw [StrChars.pair_says r0.1 r0.2]
  show own_go p e below s _ _ _ (T7.setTop (mkF m 35 #[.val (.ref ar), .val (.int 0), .val (.int 2), .val (.ref b1), .val (.int 0), .val (.ref x6)] [(.int c0)]))
  refine own_of (fun tt_ => XS.sipush X7.here hx rfl (hb hby d6_35)) ?_
  have hb38_8 : (255 : Int32) < c0 := wq0
  refine own_of (fun tt_ => XS.icmpYes X7.here hx rfl (pc0 := 38) (pc' := 54) rfl (hb hby d6_38) rfl (tlt hb38_8).2.2.1 (by decide) (by decide)) ?_
  show own_go p e below s _ _ _ (T7.setTop (mkF m 54 #[.val (.ref ar), .val (.int 0), .val (.int 2), .val (.ref b1), .val (.int 0), .val (.ref x6)] []))
  refine own_of (fun tt_ => XS.aload X7.here hx rfl (hb hby d6_54) rfl rfl) ?_
  show own_go p e below s _ _ _ (T7.setTop (mkF m 56 #[.val (.ref ar), .val (.int 0), .val (.int 2), .val (.ref b1), .val (.int 0), .val (.ref x6)] [(.ref x6)]))
  refine own_ret X7 hx hlk hret rfl (Or.inr (Or.inr (Or.inr (Or.inr ⟨rfl, rfl, rfl⟩)))) (hb hby d6_56) (by decide) (by decide) ?_
  rw [eh7]
  exact ⟨x6, kx6, rfl, N7, K6, by omega, Vx6⟩
theorem ef_rmK_2_1 (m : MethodId) (x0 : Nat) (x1 : Int32) (x2 : Int32) : entryFrame m #[(.ref x0), (.int x1), (.int x2)] 6 = mkF m 0 #[.val (.ref x0), .val (.int x1), .val (.int x2), .unset, .unset, .unset] [] := by first | (simp [entryFrame, mkF, argsToLocals, Value.category]; done) | rfl
set_option maxRecDepth 65536 in
set_option maxHeartbeats 40000000 in
theorem rmK_2_1 (l : Launch) (Z : State) (a0 : Array Value) (hw : own_H Z a0) (ws : List Jvm.Cond) (ar : Nat) (k : ClassId) (c0 : Int32) (c1 : Int32) (h0 : Heap) (n0 : Nat) (XO0 : Old Z n0 h0) (S_ad : Sta Z Z.heap "java/lang/StringUTF16" "$assertionsDisabled" "Z" (.int 1)) (S_hi : Sta Z Z.heap "java/lang/StringUTF16" "HI_BYTE_SHIFT" "I" (.int 0)) (S_lo : Sta Z Z.heap "java/lang/StringUTF16" "LO_BYTE_SHIFT" "I" (.int 8)) (V_a : Arv Z h0 ar k .char (2 : Int32) [(.int c0), (.int c1)] (.int 0)) (r0 : own_c16 c0) (r1 : own_c16 c1) (wq0 : ¬ (255 : Int32) < c0) (wq1 : (255 : Int32) < c1) :
    own_M l Z ym11 jdk_52_method_16_code ws 6 (some (.array .byte)) (own_R 3 2 6 40) #[(.ref ar), (.int 0), (.int 2)] h0 (Q_rmK_2 Z ar k c0 c1 h0 n0) := by
  refine own_open (plainFor_of_name pn_0) ?_
  intro p e s m below meth c s₁ hx hby hlk hret hml hown hnm hZ X0 e0
  have hW := own_hW hw
  have N0 := Fr.nil n0
  refine own_of (fun tt_ kk_ => castTop (ef_rmK_2_1 m ar (0 : Int32) (2 : Int32)) kk_) ?_
  show own_go p e below s _ _ _ (s₁.setTop (mkF m 0 #[.val (.ref ar), .val (.int 0), .val (.int 2), .unset, .unset, .unset] []))
  have K0 : Keep h0 h0 [] := Keep.refl h0 []
  have lt_ar := own_lt V_a.lt
  refine own_of (fun tt_ => XS.iloadN X0.here hx rfl (hb hby d6_0) rfl) ?_
  obtain ⟨T1, h1, k1, X1, e1, E1, A1, st1⟩ := newP X0 hx hZ (hW 16 _ rfl) e0 (g := (mkF m 1 #[.val (.ref ar), .val (.int 0), .val (.int 2), .unset, .unset, .unset] [(.int 2)])) rfl (hb hby d6_1) rfl (by decide) (cap := 2) (by decide) (by decide) (by decide) (by decide)
  obtain ⟨b1, g1⟩ : ∃ z, z = h0.size := ⟨_, rfl⟩
  rw [← g1] at A1 st1
  refine own_of st1 ?_
  have lt1 := own_lt A1.lt
  have sz1 : h0.size ≤ h1.size := E1.1
  have O1 : Old Z n0 h1 := XO0.ext E1
  have z1 : n0 ≤ b1 := by have := XO0.1 ▸ XO0.2.1; omega
  have K1 : Keep h0 h1 [] := K0.ext E1
  have V1 : Arv Z h1 b1 k1 .byte (2 : Int32) [(.int 0), (.int 0)] (.int 0) := (Arv.new A1 (by decide)).pad (pad_rep [] (.int 0) 2)
  show own_go p e below s _ _ _ (T1.setTop (mkF m 3 #[.val (.ref ar), .val (.int 0), .val (.int 2), .unset, .unset, .unset] [(.ref b1)]))
  refine own_of (fun tt_ => XS.astoreN X1.here hx rfl (hb hby d6_3) rfl rfl (l' := #[.val (.ref ar), .val (.int 0), .val (.int 2), .val (.ref b1), .unset, .unset]) rfl) ?_
  refine own_of (fun tt_ => XS.aloadN X1.here hx rfl (hb hby d6_4) rfl rfl) ?_
  refine own_of (fun tt_ => XS.iloadN X1.here hx rfl (hb hby d6_5) rfl) ?_
  refine own_of (fun tt_ => XS.aloadN X1.here hx rfl (hb hby d6_6) rfl rfl) ?_
  refine own_of (fun tt_ => XS.iconst X1.here hx rfl (hb hby d6_7)) ?_
  refine own_of (fun tt_ => XS.iloadN X1.here hx rfl (hb hby d6_8) rfl) ?_
  show own_go p e below s _ _ _ (T1.setTop (mkF m 9 #[.val (.ref ar), .val (.int 0), .val (.int 2), .val (.ref b1), .unset, .unset] [(.int 2), (.int 0), (.ref b1), (.int 0), (.ref ar)]))
  have f2 : Arv Z h1 ar k .char (2 : Int32) [(.int c0), (.int c1)] (.int 0) := (V_a.ext E1)
  obtain ⟨_, _, ⟨T3, L3, k3, n3⟩, -, X3, ⟨Lc3, hQ3, l3, y3, z3⟩, st3⟩ := Jvm.LawKit.callS X1 hx (y := ym10) hown (mvT hZ (hW 37 _ rfl)) (mvT hZ (hW 38 _ rfl)) (mvT hZ (hW 35 _ rfl)) (mvT hZ (hW 39 _ rfl)) (by decide) (backOf (W := 0) (rmC_2_1 l Z a0 hw [] ar b1 k k1 c0 c1 h1 n0 O1 f2 (by omega) (by omega) V1 wq0 wq1) hZ (hW 39 _ rfl) (hW 35 _ rfl) (by decide) (by decide)) (g := (mkF m 9 #[.val (.ref ar), .val (.int 0), .val (.int 2), .val (.ref b1), .unset, .unset] [(.int 2), (.int 0), (.ref b1), (.int 0), (.ref ar)])) rfl (by rw [hml]; rfl) (argsL := [(.ref ar), (.int 0), (.ref b1), (.int 0), (.int 2)]) (rest := []) (lenOf pd_3 rfl) rfl (by show 2 * 0 + _ ≤ _; exact Nat.le_of_eq rfl) (hb hby d6_9) (fun _ _ => ⟨rfl, e1, (by decide : 1 + 0 ≤ _), (by decide : 2 + 0 ≤ _)⟩)
  dsimp only [Pt.U, Pt.locs, Pt.cells, Pt.slots] at X3 l3 y3 z3 st3 hQ3
  subst l3 y3 z3
  obtain ⟨rfl, Nq3, Kp3⟩ := hQ3
  have N3 := Fr.app N0 Nq3
  refine own_of st3 ?_
  have sz3 : h1.size ≤ T3.heap.size := Kp3.1
  have O3 : Old Z n0 T3.heap := O1.keep Kp3 (allS (by omega) all0)
  have K3 : Keep h0 T3.heap [] := K1.trans Kp3 (allS (Or.inr (by omega)) all0)
  show own_go p e below s _ _ _ (T3.setTop (mkF m 12 #[.val (.ref ar), .val (.int 0), .val (.int 2), .val (.ref b1), .unset, .unset] [(.int 1)]))
  refine own_of (fun tt_ => XS.istore X3.here hx rfl (hb hby d6_12) rfl (l' := #[.val (.ref ar), .val (.int 0), .val (.int 2), .val (.ref b1), .val (.int 1), .unset]) rfl) ?_
  refine own_of (fun tt_ => XS.iload X3.here hx rfl (hb hby d6_14) rfl) ?_
  refine own_of (fun tt_ => XS.iloadN X3.here hx rfl (hb hby d6_16) rfl) ?_
  have hb17_4 : ¬ ((1 : Int32) = (2 : Int32)) := by decide
  refine own_of (fun tt_ => XS.icmpNo X3.here hx rfl (hb hby d6_17) rfl (feq hb17_4).1) ?_
  show own_go p e below s _ _ _ (T3.setTop (mkF m 20 #[.val (.ref ar), .val (.int 0), .val (.int 2), .val (.ref b1), .val (.int 1), .unset] []))
  refine own_of (fun tt_ => XS.aloadN X3.here hx rfl (hb hby d6_20) rfl rfl) ?_
  refine own_of (fun tt_ => XS.iloadN X3.here hx rfl (hb hby d6_21) rfl) ?_
  refine own_of (fun tt_ => XS.iloadN X3.here hx rfl (hb hby d6_22) rfl) ?_
  show own_go p e below s _ _ _ (T3.setTop (mkF m 23 #[.val (.ref ar), .val (.int 0), .val (.int 2), .val (.ref b1), .val (.int 1), .unset] [(.int 2), (.int 0), (.ref ar)]))
  have f5 : Arv Z T3.heap ar k .char (2 : Int32) [(.int c0), (.int c1)] (.int 0) := (f2.keep Kp3 (ninS (own_ne (by omega)) nin0))
  obtain ⟨_, _, ⟨T6, L6, k6, n6⟩, -, X6, ⟨Lc6, hQ6, l6, y6, z6⟩, st6⟩ := Jvm.LawKit.callS X3 hx (y := ym16) hown (mvT hZ (hW 79 _ rfl)) (mvT hZ (hW 80 _ rfl)) (mvT hZ (hW 35 _ rfl)) (mvT hZ (hW 81 _ rfl)) (by decide) (backOf (W := 0) (rmT_2 l Z a0 hw [] ar k c0 c1 T3.heap n0 O3 S_ad S_hi S_lo f5) hZ (hW 81 _ rfl) (hW 35 _ rfl) (by decide) (by decide)) (g := (mkF m 23 #[.val (.ref ar), .val (.int 0), .val (.int 2), .val (.ref b1), .val (.int 1), .unset] [(.int 2), (.int 0), (.ref ar)])) rfl (by rw [hml]; rfl) (argsL := [(.ref ar), (.int 0), (.int 2)]) (rest := []) (lenOf pd_4 rfl) rfl (by show 2 * 0 + _ ≤ _; exact Nat.le_of_eq rfl) (hb hby d6_23) (fun _ _ => ⟨rfl, rfl, (by decide : 1 + 1 ≤ _), (by decide : 2 + 4 ≤ _)⟩)
  dsimp only [Pt.U, Pt.locs, Pt.cells, Pt.slots] at X6 l6 y6 z6 st6 hQ6
  subst l6 y6 z6
  obtain ⟨x6, kx6, rfl, Nq6, Kp6, gx6, Vx6⟩ := hQ6
  have N6 := Fr.app N3 Nq6
  refine own_of st6 ?_
  have sz6 : T3.heap.size ≤ T6.heap.size := Kp6.1
  have O6 : Old Z n0 T6.heap := O3.keep Kp6 all0
  have K6 : Keep h0 T6.heap [] := K3.trans Kp6 all0
  have ltx6 := own_lt Vx6.lt
  show own_go p e below s _ _ _ (T6.setTop (mkF m 26 #[.val (.ref ar), .val (.int 0), .val (.int 2), .val (.ref b1), .val (.int 1), .unset] [(.ref x6)]))
  refine own_of (fun tt_ => XS.astore X6.here hx rfl (hb hby d6_26) rfl rfl (l' := #[.val (.ref ar), .val (.int 0), .val (.int 2), .val (.ref b1), .val (.int 1), .val (.ref x6)]) rfl) ?_
  refine own_of (fun tt_ => XS.aload X6.here hx rfl (hb hby d6_28) rfl rfl) ?_
  refine own_of (fun tt_ => XS.iload X6.here hx rfl (hb hby d6_30) rfl) ?_
  show own_go p e below s _ _ _ (T6.setTop (mkF m 32 #[.val (.ref ar), .val (.int 0), .val (.int 2), .val (.ref b1), .val (.int 1), .val (.ref x6)] [(.int 1), (.ref x6)]))
  obtain ⟨_, _, ⟨T7, L7, k7, n7⟩, -, X7, ⟨Lc7, hQ7, l7, y7, z7⟩, st7⟩ := Jvm.LawKit.callS X6 hx (y := ym4) hown (mvT hZ (hW 95 _ rfl)) (mvT hZ (hW 96 _ rfl)) (mvT hZ (hW 35 _ rfl)) (mvT hZ (hW 97 _ rfl)) (by decide) (backOf (W := 0) (rmG_2_1 l Z a0 hw [] x6 kx6 (StrChars.lo8 c0) (StrChars.hi8 c0) (StrChars.lo8 c1) (StrChars.hi8 c1) T6.heap n0 O6 S_ad S_hi S_lo Vx6) hZ (hW 97 _ rfl) (hW 35 _ rfl) (by decide) (by decide)) (g := (mkF m 32 #[.val (.ref ar), .val (.int 0), .val (.int 2), .val (.ref b1), .val (.int 1), .val (.ref x6)] [(.int 1), (.ref x6)])) rfl (by rw [hml]; rfl) (argsL := [(.ref x6), (.int 1)]) (rest := []) (lenOf pd_5 rfl) rfl (by show 2 * 0 + _ ≤ _; exact Nat.le_of_eq rfl) (hb hby d6_32) (fun _ _ => ⟨rfl, rfl, (by decide : 2 + 0 ≤ _), (by decide : 6 + 0 ≤ _)⟩)
  dsimp only [Pt.U, Pt.locs, Pt.cells, Pt.slots] at X7 l7 y7 z7 st7 hQ7
  subst l7 y7 z7
  obtain ⟨rfl, Nq7, eh7⟩ := hQ7
  have N7 := Fr.app N6 Nq7
  refine own_of st7 ?_
  rw [StrChars.pair_says r1.1 r1.2]
  show own_go p e below s _ _ _ (T7.setTop (mkF m 35 #[.val (.ref ar), .val (.int 0), .val (.int 2), .val (.ref b1), .val (.int 1), .val (.ref x6)] [(.int c1)]))
  refine own_of (fun tt_ => XS.sipush X7.here hx rfl (hb hby d6_35)) ?_
  have hb38_8 : (255 : Int32) < c1 := wq1
  refine own_of (fun tt_ => XS.icmpYes X7.here hx rfl (pc0 := 38) (pc' := 54) rfl (hb hby d6_38) rfl (tlt hb38_8).2.2.1 (by decide) (by decide)) ?_
  show own_go p e below s _ _ _ (T7.setTop (mkF m 54 #[.val (.ref ar), .val (.int 0), .val (.int 2), .val (.ref b1), .val (.int 1), .val (.ref x6)] []))
  refine own_of (fun tt_ => XS.aload X7.here hx rfl (hb hby d6_54) rfl rfl) ?_
  show own_go p e below s _ _ _ (T7.setTop (mkF m 56 #[.val (.ref ar), .val (.int 0), .val (.int 2), .val (.ref b1), .val (.int 1), .val (.ref x6)] [(.ref x6)]))
  refine own_ret X7 hx hlk hret rfl (Or.inr (Or.inr (Or.inr (Or.inr ⟨rfl, rfl, rfl⟩)))) (hb hby d6_56) (by decide) (by decide) ?_
  rw [eh7]
  exact ⟨x6, kx6, rfl, N7, K6, by omega, Vx6⟩
theorem rmK_2 (l : Launch) (Z : State) (a0 : Array Value) (hw : own_H Z a0) (ws : List Jvm.Cond) (ar : Nat) (k : ClassId) (c0 : Int32) (c1 : Int32) (h0 : Heap) (n0 : Nat) (XO0 : Old Z n0 h0) (S_ad : Sta Z Z.heap "java/lang/StringUTF16" "$assertionsDisabled" "Z" (.int 1)) (S_hi : Sta Z Z.heap "java/lang/StringUTF16" "HI_BYTE_SHIFT" "I" (.int 0)) (S_lo : Sta Z Z.heap "java/lang/StringUTF16" "LO_BYTE_SHIFT" "I" (.int 8)) (V_a : Arv Z h0 ar k .char (2 : Int32) [(.int c0), (.int c1)] (.int 0)) (r0 : own_c16 c0) (r1 : own_c16 c1) (hbig : (255 : Int32) < c0 ∨ (255 : Int32) < c1) :
    own_M l Z ym11 jdk_52_method_16_code ws 6 (some (.array .byte)) (own_R 3 2 6 40) #[(.ref ar), (.int 0), (.int 2)] h0 (Q_rmK_2 Z ar k c0 c1 h0 n0) := by
  by_cases wq0 : (255 : Int32) < c0
  · exact rmK_2_0 l Z a0 hw ws ar k c0 c1 h0 n0 XO0 S_ad S_hi S_lo V_a r0 r1 wq0
  by_cases wq1 : (255 : Int32) < c1
  · exact rmK_2_1 l Z a0 hw ws ar k c0 c1 h0 n0 XO0 S_ad S_hi S_lo V_a r0 r1 wq0 wq1
  · simp_all
def Q_rmK_3 (Z : State) (ar : Nat) (k : ClassId) (c0 : Int32) (c1 : Int32) (c2 : Int32) (h0 : Heap) (n0 : Nat) (v : Option Value) (h : Heap) (L : List Loc) : Prop := ∃ (a : Nat) (kb : ClassId), v = some (.ref a) ∧ Fr n0 L ∧ Keep h0 h [] ∧ h0.size ≤ a ∧ Arv Z h a kb .byte (6 : Int32) [(.int (StrChars.lo8 c0)), (.int (StrChars.hi8 c0)), (.int (StrChars.lo8 c1)), (.int (StrChars.hi8 c1)), (.int (StrChars.lo8 c2)), (.int (StrChars.hi8 c2))] (.int 0)
theorem ef_rmK_3_0 (m : MethodId) (x0 : Nat) (x1 : Int32) (x2 : Int32) : entryFrame m #[(.ref x0), (.int x1), (.int x2)] 6 = mkF m 0 #[.val (.ref x0), .val (.int x1), .val (.int x2), .unset, .unset, .unset] [] := by first | (simp [entryFrame, mkF, argsToLocals, Value.category]; done) | rfl
set_option maxRecDepth 65536 in
set_option maxHeartbeats 40000000 in
theorem rmK_3_0 (l : Launch) (Z : State) (a0 : Array Value) (hw : own_H Z a0) (ws : List Jvm.Cond) (ar : Nat) (k : ClassId) (c0 : Int32) (c1 : Int32) (c2 : Int32) (h0 : Heap) (n0 : Nat) (XO0 : Old Z n0 h0) (S_ad : Sta Z Z.heap "java/lang/StringUTF16" "$assertionsDisabled" "Z" (.int 1)) (S_hi : Sta Z Z.heap "java/lang/StringUTF16" "HI_BYTE_SHIFT" "I" (.int 0)) (S_lo : Sta Z Z.heap "java/lang/StringUTF16" "LO_BYTE_SHIFT" "I" (.int 8)) (V_a : Arv Z h0 ar k .char (3 : Int32) [(.int c0), (.int c1), (.int c2)] (.int 0)) (r0 : own_c16 c0) (r1 : own_c16 c1) (r2 : own_c16 c2) (wq0 : (255 : Int32) < c0) :
    own_M l Z ym11 jdk_52_method_16_code ws 6 (some (.array .byte)) (own_R 3 2 9 40) #[(.ref ar), (.int 0), (.int 3)] h0 (Q_rmK_3 Z ar k c0 c1 c2 h0 n0) := by
  refine own_open (plainFor_of_name pn_0) ?_
  intro p e s m below meth c s₁ hx hby hlk hret hml hown hnm hZ X0 e0
  have hW := own_hW hw
  have N0 := Fr.nil n0
  refine own_of (fun tt_ kk_ => castTop (ef_rmK_3_0 m ar (0 : Int32) (3 : Int32)) kk_) ?_
  show own_go p e below s _ _ _ (s₁.setTop (mkF m 0 #[.val (.ref ar), .val (.int 0), .val (.int 3), .unset, .unset, .unset] []))
  have K0 : Keep h0 h0 [] := Keep.refl h0 []
  have lt_ar := own_lt V_a.lt
  refine own_of (fun tt_ => XS.iloadN X0.here hx rfl (hb hby d6_0) rfl) ?_
  obtain ⟨T1, h1, k1, X1, e1, E1, A1, st1⟩ := newP X0 hx hZ (hW 16 _ rfl) e0 (g := (mkF m 1 #[.val (.ref ar), .val (.int 0), .val (.int 3), .unset, .unset, .unset] [(.int 3)])) rfl (hb hby d6_1) rfl (by decide) (cap := 3) (by decide) (by decide) (by decide) (by decide)
  obtain ⟨b1, g1⟩ : ∃ z, z = h0.size := ⟨_, rfl⟩
  rw [← g1] at A1 st1
  refine own_of st1 ?_
  have lt1 := own_lt A1.lt
  have sz1 : h0.size ≤ h1.size := E1.1
  have O1 : Old Z n0 h1 := XO0.ext E1
  have z1 : n0 ≤ b1 := by have := XO0.1 ▸ XO0.2.1; omega
  have K1 : Keep h0 h1 [] := K0.ext E1
  have V1 : Arv Z h1 b1 k1 .byte (3 : Int32) [(.int 0), (.int 0), (.int 0)] (.int 0) := (Arv.new A1 (by decide)).pad (pad_rep [] (.int 0) 3)
  show own_go p e below s _ _ _ (T1.setTop (mkF m 3 #[.val (.ref ar), .val (.int 0), .val (.int 3), .unset, .unset, .unset] [(.ref b1)]))
  refine own_of (fun tt_ => XS.astoreN X1.here hx rfl (hb hby d6_3) rfl rfl (l' := #[.val (.ref ar), .val (.int 0), .val (.int 3), .val (.ref b1), .unset, .unset]) rfl) ?_
  refine own_of (fun tt_ => XS.aloadN X1.here hx rfl (hb hby d6_4) rfl rfl) ?_
  refine own_of (fun tt_ => XS.iloadN X1.here hx rfl (hb hby d6_5) rfl) ?_
  refine own_of (fun tt_ => XS.aloadN X1.here hx rfl (hb hby d6_6) rfl rfl) ?_
  refine own_of (fun tt_ => XS.iconst X1.here hx rfl (hb hby d6_7)) ?_
  refine own_of (fun tt_ => XS.iloadN X1.here hx rfl (hb hby d6_8) rfl) ?_
  show own_go p e below s _ _ _ (T1.setTop (mkF m 9 #[.val (.ref ar), .val (.int 0), .val (.int 3), .val (.ref b1), .unset, .unset] [(.int 3), (.int 0), (.ref b1), (.int 0), (.ref ar)]))
  have f2 : Arv Z h1 ar k .char (3 : Int32) [(.int c0), (.int c1), (.int c2)] (.int 0) := (V_a.ext E1)
  obtain ⟨_, _, ⟨T3, L3, k3, n3⟩, -, X3, ⟨Lc3, hQ3, l3, y3, z3⟩, st3⟩ := Jvm.LawKit.callS X1 hx (y := ym10) hown (mvT hZ (hW 37 _ rfl)) (mvT hZ (hW 38 _ rfl)) (mvT hZ (hW 35 _ rfl)) (mvT hZ (hW 39 _ rfl)) (by decide) (backOf (W := 0) (rmC_3_0 l Z a0 hw [] ar b1 k k1 c0 c1 c2 h1 n0 O1 f2 (by omega) (by omega) V1 wq0) hZ (hW 39 _ rfl) (hW 35 _ rfl) (by decide) (by decide)) (g := (mkF m 9 #[.val (.ref ar), .val (.int 0), .val (.int 3), .val (.ref b1), .unset, .unset] [(.int 3), (.int 0), (.ref b1), (.int 0), (.ref ar)])) rfl (by rw [hml]; rfl) (argsL := [(.ref ar), (.int 0), (.ref b1), (.int 0), (.int 3)]) (rest := []) (lenOf pd_3 rfl) rfl (by show 2 * 0 + _ ≤ _; exact Nat.le_of_eq rfl) (hb hby d6_9) (fun _ _ => ⟨rfl, e1, (by decide : 1 + 0 ≤ _), (by decide : 3 + 0 ≤ _)⟩)
  dsimp only [Pt.U, Pt.locs, Pt.cells, Pt.slots] at X3 l3 y3 z3 st3 hQ3
  subst l3 y3 z3
  obtain ⟨rfl, Nq3, Kp3⟩ := hQ3
  have N3 := Fr.app N0 Nq3
  refine own_of st3 ?_
  have sz3 : h1.size ≤ T3.heap.size := Kp3.1
  have O3 : Old Z n0 T3.heap := O1.keep Kp3 (allS (by omega) all0)
  have K3 : Keep h0 T3.heap [] := K1.trans Kp3 (allS (Or.inr (by omega)) all0)
  show own_go p e below s _ _ _ (T3.setTop (mkF m 12 #[.val (.ref ar), .val (.int 0), .val (.int 3), .val (.ref b1), .unset, .unset] [(.int 0)]))
  refine own_of (fun tt_ => XS.istore X3.here hx rfl (hb hby d6_12) rfl (l' := #[.val (.ref ar), .val (.int 0), .val (.int 3), .val (.ref b1), .val (.int 0), .unset]) rfl) ?_
  refine own_of (fun tt_ => XS.iload X3.here hx rfl (hb hby d6_14) rfl) ?_
  refine own_of (fun tt_ => XS.iloadN X3.here hx rfl (hb hby d6_16) rfl) ?_
  have hb17_4 : ¬ ((0 : Int32) = (3 : Int32)) := by decide
  refine own_of (fun tt_ => XS.icmpNo X3.here hx rfl (hb hby d6_17) rfl (feq hb17_4).1) ?_
  show own_go p e below s _ _ _ (T3.setTop (mkF m 20 #[.val (.ref ar), .val (.int 0), .val (.int 3), .val (.ref b1), .val (.int 0), .unset] []))
  refine own_of (fun tt_ => XS.aloadN X3.here hx rfl (hb hby d6_20) rfl rfl) ?_
  refine own_of (fun tt_ => XS.iloadN X3.here hx rfl (hb hby d6_21) rfl) ?_
  refine own_of (fun tt_ => XS.iloadN X3.here hx rfl (hb hby d6_22) rfl) ?_
  show own_go p e below s _ _ _ (T3.setTop (mkF m 23 #[.val (.ref ar), .val (.int 0), .val (.int 3), .val (.ref b1), .val (.int 0), .unset] [(.int 3), (.int 0), (.ref ar)]))
  have f5 : Arv Z T3.heap ar k .char (3 : Int32) [(.int c0), (.int c1), (.int c2)] (.int 0) := (f2.keep Kp3 (ninS (own_ne (by omega)) nin0))
  obtain ⟨_, _, ⟨T6, L6, k6, n6⟩, -, X6, ⟨Lc6, hQ6, l6, y6, z6⟩, st6⟩ := Jvm.LawKit.callS X3 hx (y := ym16) hown (mvT hZ (hW 79 _ rfl)) (mvT hZ (hW 80 _ rfl)) (mvT hZ (hW 35 _ rfl)) (mvT hZ (hW 81 _ rfl)) (by decide) (backOf (W := 0) (rmT_3 l Z a0 hw [] ar k c0 c1 c2 T3.heap n0 O3 S_ad S_hi S_lo f5) hZ (hW 81 _ rfl) (hW 35 _ rfl) (by decide) (by decide)) (g := (mkF m 23 #[.val (.ref ar), .val (.int 0), .val (.int 3), .val (.ref b1), .val (.int 0), .unset] [(.int 3), (.int 0), (.ref ar)])) rfl (by rw [hml]; rfl) (argsL := [(.ref ar), (.int 0), (.int 3)]) (rest := []) (lenOf pd_4 rfl) rfl (by show 2 * 0 + _ ≤ _; exact Nat.le_of_eq rfl) (hb hby d6_23) (fun _ _ => ⟨rfl, rfl, (by decide : 1 + 1 ≤ _), (by decide : 3 + 6 ≤ _)⟩)
  dsimp only [Pt.U, Pt.locs, Pt.cells, Pt.slots] at X6 l6 y6 z6 st6 hQ6
  subst l6 y6 z6
  obtain ⟨x6, kx6, rfl, Nq6, Kp6, gx6, Vx6⟩ := hQ6
  have N6 := Fr.app N3 Nq6
  refine own_of st6 ?_
  have sz6 : T3.heap.size ≤ T6.heap.size := Kp6.1
  have O6 : Old Z n0 T6.heap := O3.keep Kp6 all0
  have K6 : Keep h0 T6.heap [] := K3.trans Kp6 all0
  have ltx6 := own_lt Vx6.lt
  show own_go p e below s _ _ _ (T6.setTop (mkF m 26 #[.val (.ref ar), .val (.int 0), .val (.int 3), .val (.ref b1), .val (.int 0), .unset] [(.ref x6)]))
  refine own_of (fun tt_ => XS.astore X6.here hx rfl (hb hby d6_26) rfl rfl (l' := #[.val (.ref ar), .val (.int 0), .val (.int 3), .val (.ref b1), .val (.int 0), .val (.ref x6)]) rfl) ?_
  refine own_of (fun tt_ => XS.aload X6.here hx rfl (hb hby d6_28) rfl rfl) ?_
  refine own_of (fun tt_ => XS.iload X6.here hx rfl (hb hby d6_30) rfl) ?_
  show own_go p e below s _ _ _ (T6.setTop (mkF m 32 #[.val (.ref ar), .val (.int 0), .val (.int 3), .val (.ref b1), .val (.int 0), .val (.ref x6)] [(.int 0), (.ref x6)]))
  obtain ⟨_, _, ⟨T7, L7, k7, n7⟩, -, X7, ⟨Lc7, hQ7, l7, y7, z7⟩, st7⟩ := Jvm.LawKit.callS X6 hx (y := ym4) hown (mvT hZ (hW 95 _ rfl)) (mvT hZ (hW 96 _ rfl)) (mvT hZ (hW 35 _ rfl)) (mvT hZ (hW 97 _ rfl)) (by decide) (backOf (W := 0) (rmG_3_0 l Z a0 hw [] x6 kx6 (StrChars.lo8 c0) (StrChars.hi8 c0) (StrChars.lo8 c1) (StrChars.hi8 c1) (StrChars.lo8 c2) (StrChars.hi8 c2) T6.heap n0 O6 S_ad S_hi S_lo Vx6) hZ (hW 97 _ rfl) (hW 35 _ rfl) (by decide) (by decide)) (g := (mkF m 32 #[.val (.ref ar), .val (.int 0), .val (.int 3), .val (.ref b1), .val (.int 0), .val (.ref x6)] [(.int 0), (.ref x6)])) rfl (by rw [hml]; rfl) (argsL := [(.ref x6), (.int 0)]) (rest := []) (lenOf pd_5 rfl) rfl (by show 2 * 0 + _ ≤ _; exact Nat.le_of_eq rfl) (hb hby d6_32) (fun _ _ => ⟨rfl, rfl, (by decide : 2 + 0 ≤ _), (by decide : 9 + 0 ≤ _)⟩)
  dsimp only [Pt.U, Pt.locs, Pt.cells, Pt.slots] at X7 l7 y7 z7 st7 hQ7
  subst l7 y7 z7
  obtain ⟨rfl, Nq7, eh7⟩ := hQ7
  have N7 := Fr.app N6 Nq7
  refine own_of st7 ?_
  rw [StrChars.pair_says r0.1 r0.2]
  show own_go p e below s _ _ _ (T7.setTop (mkF m 35 #[.val (.ref ar), .val (.int 0), .val (.int 3), .val (.ref b1), .val (.int 0), .val (.ref x6)] [(.int c0)]))
  refine own_of (fun tt_ => XS.sipush X7.here hx rfl (hb hby d6_35)) ?_
  have hb38_8 : (255 : Int32) < c0 := wq0
  refine own_of (fun tt_ => XS.icmpYes X7.here hx rfl (pc0 := 38) (pc' := 54) rfl (hb hby d6_38) rfl (tlt hb38_8).2.2.1 (by decide) (by decide)) ?_
  show own_go p e below s _ _ _ (T7.setTop (mkF m 54 #[.val (.ref ar), .val (.int 0), .val (.int 3), .val (.ref b1), .val (.int 0), .val (.ref x6)] []))
  refine own_of (fun tt_ => XS.aload X7.here hx rfl (hb hby d6_54) rfl rfl) ?_
  show own_go p e below s _ _ _ (T7.setTop (mkF m 56 #[.val (.ref ar), .val (.int 0), .val (.int 3), .val (.ref b1), .val (.int 0), .val (.ref x6)] [(.ref x6)]))
  refine own_ret X7 hx hlk hret rfl (Or.inr (Or.inr (Or.inr (Or.inr ⟨rfl, rfl, rfl⟩)))) (hb hby d6_56) (by decide) (by decide) ?_
  rw [eh7]
  exact ⟨x6, kx6, rfl, N7, K6, by omega, Vx6⟩
theorem ef_rmK_3_1 (m : MethodId) (x0 : Nat) (x1 : Int32) (x2 : Int32) : entryFrame m #[(.ref x0), (.int x1), (.int x2)] 6 = mkF m 0 #[.val (.ref x0), .val (.int x1), .val (.int x2), .unset, .unset, .unset] [] := by first | (simp [entryFrame, mkF, argsToLocals, Value.category]; done) | rfl
set_option maxRecDepth 65536 in
set_option maxHeartbeats 40000000 in
theorem rmK_3_1 (l : Launch) (Z : State) (a0 : Array Value) (hw : own_H Z a0) (ws : List Jvm.Cond) (ar : Nat) (k : ClassId) (c0 : Int32) (c1 : Int32) (c2 : Int32) (h0 : Heap) (n0 : Nat) (XO0 : Old Z n0 h0) (S_ad : Sta Z Z.heap "java/lang/StringUTF16" "$assertionsDisabled" "Z" (.int 1)) (S_hi : Sta Z Z.heap "java/lang/StringUTF16" "HI_BYTE_SHIFT" "I" (.int 0)) (S_lo : Sta Z Z.heap "java/lang/StringUTF16" "LO_BYTE_SHIFT" "I" (.int 8)) (V_a : Arv Z h0 ar k .char (3 : Int32) [(.int c0), (.int c1), (.int c2)] (.int 0)) (r0 : own_c16 c0) (r1 : own_c16 c1) (r2 : own_c16 c2) (wq0 : ¬ (255 : Int32) < c0) (wq1 : (255 : Int32) < c1) :
    own_M l Z ym11 jdk_52_method_16_code ws 6 (some (.array .byte)) (own_R 3 2 9 40) #[(.ref ar), (.int 0), (.int 3)] h0 (Q_rmK_3 Z ar k c0 c1 c2 h0 n0) := by
  refine own_open (plainFor_of_name pn_0) ?_
  intro p e s m below meth c s₁ hx hby hlk hret hml hown hnm hZ X0 e0
  have hW := own_hW hw
  have N0 := Fr.nil n0
  refine own_of (fun tt_ kk_ => castTop (ef_rmK_3_1 m ar (0 : Int32) (3 : Int32)) kk_) ?_
  show own_go p e below s _ _ _ (s₁.setTop (mkF m 0 #[.val (.ref ar), .val (.int 0), .val (.int 3), .unset, .unset, .unset] []))
  have K0 : Keep h0 h0 [] := Keep.refl h0 []
  have lt_ar := own_lt V_a.lt
  refine own_of (fun tt_ => XS.iloadN X0.here hx rfl (hb hby d6_0) rfl) ?_
  obtain ⟨T1, h1, k1, X1, e1, E1, A1, st1⟩ := newP X0 hx hZ (hW 16 _ rfl) e0 (g := (mkF m 1 #[.val (.ref ar), .val (.int 0), .val (.int 3), .unset, .unset, .unset] [(.int 3)])) rfl (hb hby d6_1) rfl (by decide) (cap := 3) (by decide) (by decide) (by decide) (by decide)
  obtain ⟨b1, g1⟩ : ∃ z, z = h0.size := ⟨_, rfl⟩
  rw [← g1] at A1 st1
  refine own_of st1 ?_
  have lt1 := own_lt A1.lt
  have sz1 : h0.size ≤ h1.size := E1.1
  have O1 : Old Z n0 h1 := XO0.ext E1
  have z1 : n0 ≤ b1 := by have := XO0.1 ▸ XO0.2.1; omega
  have K1 : Keep h0 h1 [] := K0.ext E1
  have V1 : Arv Z h1 b1 k1 .byte (3 : Int32) [(.int 0), (.int 0), (.int 0)] (.int 0) := (Arv.new A1 (by decide)).pad (pad_rep [] (.int 0) 3)
  show own_go p e below s _ _ _ (T1.setTop (mkF m 3 #[.val (.ref ar), .val (.int 0), .val (.int 3), .unset, .unset, .unset] [(.ref b1)]))
  refine own_of (fun tt_ => XS.astoreN X1.here hx rfl (hb hby d6_3) rfl rfl (l' := #[.val (.ref ar), .val (.int 0), .val (.int 3), .val (.ref b1), .unset, .unset]) rfl) ?_
  refine own_of (fun tt_ => XS.aloadN X1.here hx rfl (hb hby d6_4) rfl rfl) ?_
  refine own_of (fun tt_ => XS.iloadN X1.here hx rfl (hb hby d6_5) rfl) ?_
  refine own_of (fun tt_ => XS.aloadN X1.here hx rfl (hb hby d6_6) rfl rfl) ?_
  refine own_of (fun tt_ => XS.iconst X1.here hx rfl (hb hby d6_7)) ?_
  refine own_of (fun tt_ => XS.iloadN X1.here hx rfl (hb hby d6_8) rfl) ?_
  show own_go p e below s _ _ _ (T1.setTop (mkF m 9 #[.val (.ref ar), .val (.int 0), .val (.int 3), .val (.ref b1), .unset, .unset] [(.int 3), (.int 0), (.ref b1), (.int 0), (.ref ar)]))
  have f2 : Arv Z h1 ar k .char (3 : Int32) [(.int c0), (.int c1), (.int c2)] (.int 0) := (V_a.ext E1)
  obtain ⟨_, _, ⟨T3, L3, k3, n3⟩, -, X3, ⟨Lc3, hQ3, l3, y3, z3⟩, st3⟩ := Jvm.LawKit.callS X1 hx (y := ym10) hown (mvT hZ (hW 37 _ rfl)) (mvT hZ (hW 38 _ rfl)) (mvT hZ (hW 35 _ rfl)) (mvT hZ (hW 39 _ rfl)) (by decide) (backOf (W := 0) (rmC_3_1 l Z a0 hw [] ar b1 k k1 c0 c1 c2 h1 n0 O1 f2 (by omega) (by omega) V1 wq0 wq1) hZ (hW 39 _ rfl) (hW 35 _ rfl) (by decide) (by decide)) (g := (mkF m 9 #[.val (.ref ar), .val (.int 0), .val (.int 3), .val (.ref b1), .unset, .unset] [(.int 3), (.int 0), (.ref b1), (.int 0), (.ref ar)])) rfl (by rw [hml]; rfl) (argsL := [(.ref ar), (.int 0), (.ref b1), (.int 0), (.int 3)]) (rest := []) (lenOf pd_3 rfl) rfl (by show 2 * 0 + _ ≤ _; exact Nat.le_of_eq rfl) (hb hby d6_9) (fun _ _ => ⟨rfl, e1, (by decide : 1 + 0 ≤ _), (by decide : 3 + 0 ≤ _)⟩)
  dsimp only [Pt.U, Pt.locs, Pt.cells, Pt.slots] at X3 l3 y3 z3 st3 hQ3
  subst l3 y3 z3
  obtain ⟨rfl, Nq3, Kp3⟩ := hQ3
  have N3 := Fr.app N0 Nq3
  refine own_of st3 ?_
  have sz3 : h1.size ≤ T3.heap.size := Kp3.1
  have O3 : Old Z n0 T3.heap := O1.keep Kp3 (allS (by omega) all0)
  have K3 : Keep h0 T3.heap [] := K1.trans Kp3 (allS (Or.inr (by omega)) all0)
  show own_go p e below s _ _ _ (T3.setTop (mkF m 12 #[.val (.ref ar), .val (.int 0), .val (.int 3), .val (.ref b1), .unset, .unset] [(.int 1)]))
  refine own_of (fun tt_ => XS.istore X3.here hx rfl (hb hby d6_12) rfl (l' := #[.val (.ref ar), .val (.int 0), .val (.int 3), .val (.ref b1), .val (.int 1), .unset]) rfl) ?_
  refine own_of (fun tt_ => XS.iload X3.here hx rfl (hb hby d6_14) rfl) ?_
  refine own_of (fun tt_ => XS.iloadN X3.here hx rfl (hb hby d6_16) rfl) ?_
  have hb17_4 : ¬ ((1 : Int32) = (3 : Int32)) := by decide
  refine own_of (fun tt_ => XS.icmpNo X3.here hx rfl (hb hby d6_17) rfl (feq hb17_4).1) ?_
  show own_go p e below s _ _ _ (T3.setTop (mkF m 20 #[.val (.ref ar), .val (.int 0), .val (.int 3), .val (.ref b1), .val (.int 1), .unset] []))
  refine own_of (fun tt_ => XS.aloadN X3.here hx rfl (hb hby d6_20) rfl rfl) ?_
  refine own_of (fun tt_ => XS.iloadN X3.here hx rfl (hb hby d6_21) rfl) ?_
  refine own_of (fun tt_ => XS.iloadN X3.here hx rfl (hb hby d6_22) rfl) ?_
  show own_go p e below s _ _ _ (T3.setTop (mkF m 23 #[.val (.ref ar), .val (.int 0), .val (.int 3), .val (.ref b1), .val (.int 1), .unset] [(.int 3), (.int 0), (.ref ar)]))
  have f5 : Arv Z T3.heap ar k .char (3 : Int32) [(.int c0), (.int c1), (.int c2)] (.int 0) := (f2.keep Kp3 (ninS (own_ne (by omega)) nin0))
  obtain ⟨_, _, ⟨T6, L6, k6, n6⟩, -, X6, ⟨Lc6, hQ6, l6, y6, z6⟩, st6⟩ := Jvm.LawKit.callS X3 hx (y := ym16) hown (mvT hZ (hW 79 _ rfl)) (mvT hZ (hW 80 _ rfl)) (mvT hZ (hW 35 _ rfl)) (mvT hZ (hW 81 _ rfl)) (by decide) (backOf (W := 0) (rmT_3 l Z a0 hw [] ar k c0 c1 c2 T3.heap n0 O3 S_ad S_hi S_lo f5) hZ (hW 81 _ rfl) (hW 35 _ rfl) (by decide) (by decide)) (g := (mkF m 23 #[.val (.ref ar), .val (.int 0), .val (.int 3), .val (.ref b1), .val (.int 1), .unset] [(.int 3), (.int 0), (.ref ar)])) rfl (by rw [hml]; rfl) (argsL := [(.ref ar), (.int 0), (.int 3)]) (rest := []) (lenOf pd_4 rfl) rfl (by show 2 * 0 + _ ≤ _; exact Nat.le_of_eq rfl) (hb hby d6_23) (fun _ _ => ⟨rfl, rfl, (by decide : 1 + 1 ≤ _), (by decide : 3 + 6 ≤ _)⟩)
  dsimp only [Pt.U, Pt.locs, Pt.cells, Pt.slots] at X6 l6 y6 z6 st6 hQ6
  subst l6 y6 z6
  obtain ⟨x6, kx6, rfl, Nq6, Kp6, gx6, Vx6⟩ := hQ6
  have N6 := Fr.app N3 Nq6
  refine own_of st6 ?_
  have sz6 : T3.heap.size ≤ T6.heap.size := Kp6.1
  have O6 : Old Z n0 T6.heap := O3.keep Kp6 all0
  have K6 : Keep h0 T6.heap [] := K3.trans Kp6 all0
  have ltx6 := own_lt Vx6.lt
  show own_go p e below s _ _ _ (T6.setTop (mkF m 26 #[.val (.ref ar), .val (.int 0), .val (.int 3), .val (.ref b1), .val (.int 1), .unset] [(.ref x6)]))
  refine own_of (fun tt_ => XS.astore X6.here hx rfl (hb hby d6_26) rfl rfl (l' := #[.val (.ref ar), .val (.int 0), .val (.int 3), .val (.ref b1), .val (.int 1), .val (.ref x6)]) rfl) ?_
  refine own_of (fun tt_ => XS.aload X6.here hx rfl (hb hby d6_28) rfl rfl) ?_
  refine own_of (fun tt_ => XS.iload X6.here hx rfl (hb hby d6_30) rfl) ?_
  show own_go p e below s _ _ _ (T6.setTop (mkF m 32 #[.val (.ref ar), .val (.int 0), .val (.int 3), .val (.ref b1), .val (.int 1), .val (.ref x6)] [(.int 1), (.ref x6)]))
  obtain ⟨_, _, ⟨T7, L7, k7, n7⟩, -, X7, ⟨Lc7, hQ7, l7, y7, z7⟩, st7⟩ := Jvm.LawKit.callS X6 hx (y := ym4) hown (mvT hZ (hW 95 _ rfl)) (mvT hZ (hW 96 _ rfl)) (mvT hZ (hW 35 _ rfl)) (mvT hZ (hW 97 _ rfl)) (by decide) (backOf (W := 0) (rmG_3_1 l Z a0 hw [] x6 kx6 (StrChars.lo8 c0) (StrChars.hi8 c0) (StrChars.lo8 c1) (StrChars.hi8 c1) (StrChars.lo8 c2) (StrChars.hi8 c2) T6.heap n0 O6 S_ad S_hi S_lo Vx6) hZ (hW 97 _ rfl) (hW 35 _ rfl) (by decide) (by decide)) (g := (mkF m 32 #[.val (.ref ar), .val (.int 0), .val (.int 3), .val (.ref b1), .val (.int 1), .val (.ref x6)] [(.int 1), (.ref x6)])) rfl (by rw [hml]; rfl) (argsL := [(.ref x6), (.int 1)]) (rest := []) (lenOf pd_5 rfl) rfl (by show 2 * 0 + _ ≤ _; exact Nat.le_of_eq rfl) (hb hby d6_32) (fun _ _ => ⟨rfl, rfl, (by decide : 2 + 0 ≤ _), (by decide : 9 + 0 ≤ _)⟩)
  dsimp only [Pt.U, Pt.locs, Pt.cells, Pt.slots] at X7 l7 y7 z7 st7 hQ7
  subst l7 y7 z7
  obtain ⟨rfl, Nq7, eh7⟩ := hQ7
  have N7 := Fr.app N6 Nq7
  refine own_of st7 ?_
  rw [StrChars.pair_says r1.1 r1.2]
  show own_go p e below s _ _ _ (T7.setTop (mkF m 35 #[.val (.ref ar), .val (.int 0), .val (.int 3), .val (.ref b1), .val (.int 1), .val (.ref x6)] [(.int c1)]))
  refine own_of (fun tt_ => XS.sipush X7.here hx rfl (hb hby d6_35)) ?_
  have hb38_8 : (255 : Int32) < c1 := wq1
  refine own_of (fun tt_ => XS.icmpYes X7.here hx rfl (pc0 := 38) (pc' := 54) rfl (hb hby d6_38) rfl (tlt hb38_8).2.2.1 (by decide) (by decide)) ?_
  show own_go p e below s _ _ _ (T7.setTop (mkF m 54 #[.val (.ref ar), .val (.int 0), .val (.int 3), .val (.ref b1), .val (.int 1), .val (.ref x6)] []))
  refine own_of (fun tt_ => XS.aload X7.here hx rfl (hb hby d6_54) rfl rfl) ?_
  show own_go p e below s _ _ _ (T7.setTop (mkF m 56 #[.val (.ref ar), .val (.int 0), .val (.int 3), .val (.ref b1), .val (.int 1), .val (.ref x6)] [(.ref x6)]))
  refine own_ret X7 hx hlk hret rfl (Or.inr (Or.inr (Or.inr (Or.inr ⟨rfl, rfl, rfl⟩)))) (hb hby d6_56) (by decide) (by decide) ?_
  rw [eh7]
  exact ⟨x6, kx6, rfl, N7, K6, by omega, Vx6⟩
theorem ef_rmK_3_2 (m : MethodId) (x0 : Nat) (x1 : Int32) (x2 : Int32) : entryFrame m #[(.ref x0), (.int x1), (.int x2)] 6 = mkF m 0 #[.val (.ref x0), .val (.int x1), .val (.int x2), .unset, .unset, .unset] [] := by first | (simp [entryFrame, mkF, argsToLocals, Value.category]; done) | rfl
set_option maxRecDepth 65536 in
set_option maxHeartbeats 40000000 in
theorem rmK_3_2 (l : Launch) (Z : State) (a0 : Array Value) (hw : own_H Z a0) (ws : List Jvm.Cond) (ar : Nat) (k : ClassId) (c0 : Int32) (c1 : Int32) (c2 : Int32) (h0 : Heap) (n0 : Nat) (XO0 : Old Z n0 h0) (S_ad : Sta Z Z.heap "java/lang/StringUTF16" "$assertionsDisabled" "Z" (.int 1)) (S_hi : Sta Z Z.heap "java/lang/StringUTF16" "HI_BYTE_SHIFT" "I" (.int 0)) (S_lo : Sta Z Z.heap "java/lang/StringUTF16" "LO_BYTE_SHIFT" "I" (.int 8)) (V_a : Arv Z h0 ar k .char (3 : Int32) [(.int c0), (.int c1), (.int c2)] (.int 0)) (r0 : own_c16 c0) (r1 : own_c16 c1) (r2 : own_c16 c2) (wq0 : ¬ (255 : Int32) < c0) (wq1 : ¬ (255 : Int32) < c1) (wq2 : (255 : Int32) < c2) :
    own_M l Z ym11 jdk_52_method_16_code ws 6 (some (.array .byte)) (own_R 3 2 9 40) #[(.ref ar), (.int 0), (.int 3)] h0 (Q_rmK_3 Z ar k c0 c1 c2 h0 n0) := by
  refine own_open (plainFor_of_name pn_0) ?_
  intro p e s m below meth c s₁ hx hby hlk hret hml hown hnm hZ X0 e0
  have hW := own_hW hw
  have N0 := Fr.nil n0
  refine own_of (fun tt_ kk_ => castTop (ef_rmK_3_2 m ar (0 : Int32) (3 : Int32)) kk_) ?_
  show own_go p e below s _ _ _ (s₁.setTop (mkF m 0 #[.val (.ref ar), .val (.int 0), .val (.int 3), .unset, .unset, .unset] []))
  have K0 : Keep h0 h0 [] := Keep.refl h0 []
  have lt_ar := own_lt V_a.lt
  refine own_of (fun tt_ => XS.iloadN X0.here hx rfl (hb hby d6_0) rfl) ?_
  obtain ⟨T1, h1, k1, X1, e1, E1, A1, st1⟩ := newP X0 hx hZ (hW 16 _ rfl) e0 (g := (mkF m 1 #[.val (.ref ar), .val (.int 0), .val (.int 3), .unset, .unset, .unset] [(.int 3)])) rfl (hb hby d6_1) rfl (by decide) (cap := 3) (by decide) (by decide) (by decide) (by decide)
  obtain ⟨b1, g1⟩ : ∃ z, z = h0.size := ⟨_, rfl⟩
  rw [← g1] at A1 st1
  refine own_of st1 ?_
  have lt1 := own_lt A1.lt
  have sz1 : h0.size ≤ h1.size := E1.1
  have O1 : Old Z n0 h1 := XO0.ext E1
  have z1 : n0 ≤ b1 := by have := XO0.1 ▸ XO0.2.1; omega
  have K1 : Keep h0 h1 [] := K0.ext E1
  have V1 : Arv Z h1 b1 k1 .byte (3 : Int32) [(.int 0), (.int 0), (.int 0)] (.int 0) := (Arv.new A1 (by decide)).pad (pad_rep [] (.int 0) 3)
  show own_go p e below s _ _ _ (T1.setTop (mkF m 3 #[.val (.ref ar), .val (.int 0), .val (.int 3), .unset, .unset, .unset] [(.ref b1)]))
  refine own_of (fun tt_ => XS.astoreN X1.here hx rfl (hb hby d6_3) rfl rfl (l' := #[.val (.ref ar), .val (.int 0), .val (.int 3), .val (.ref b1), .unset, .unset]) rfl) ?_
  refine own_of (fun tt_ => XS.aloadN X1.here hx rfl (hb hby d6_4) rfl rfl) ?_
  refine own_of (fun tt_ => XS.iloadN X1.here hx rfl (hb hby d6_5) rfl) ?_
  refine own_of (fun tt_ => XS.aloadN X1.here hx rfl (hb hby d6_6) rfl rfl) ?_
  refine own_of (fun tt_ => XS.iconst X1.here hx rfl (hb hby d6_7)) ?_
  refine own_of (fun tt_ => XS.iloadN X1.here hx rfl (hb hby d6_8) rfl) ?_
  show own_go p e below s _ _ _ (T1.setTop (mkF m 9 #[.val (.ref ar), .val (.int 0), .val (.int 3), .val (.ref b1), .unset, .unset] [(.int 3), (.int 0), (.ref b1), (.int 0), (.ref ar)]))
  have f2 : Arv Z h1 ar k .char (3 : Int32) [(.int c0), (.int c1), (.int c2)] (.int 0) := (V_a.ext E1)
  obtain ⟨_, _, ⟨T3, L3, k3, n3⟩, -, X3, ⟨Lc3, hQ3, l3, y3, z3⟩, st3⟩ := Jvm.LawKit.callS X1 hx (y := ym10) hown (mvT hZ (hW 37 _ rfl)) (mvT hZ (hW 38 _ rfl)) (mvT hZ (hW 35 _ rfl)) (mvT hZ (hW 39 _ rfl)) (by decide) (backOf (W := 0) (rmC_3_2 l Z a0 hw [] ar b1 k k1 c0 c1 c2 h1 n0 O1 f2 (by omega) (by omega) V1 wq0 wq1 wq2) hZ (hW 39 _ rfl) (hW 35 _ rfl) (by decide) (by decide)) (g := (mkF m 9 #[.val (.ref ar), .val (.int 0), .val (.int 3), .val (.ref b1), .unset, .unset] [(.int 3), (.int 0), (.ref b1), (.int 0), (.ref ar)])) rfl (by rw [hml]; rfl) (argsL := [(.ref ar), (.int 0), (.ref b1), (.int 0), (.int 3)]) (rest := []) (lenOf pd_3 rfl) rfl (by show 2 * 0 + _ ≤ _; exact Nat.le_of_eq rfl) (hb hby d6_9) (fun _ _ => ⟨rfl, e1, (by decide : 1 + 0 ≤ _), (by decide : 3 + 0 ≤ _)⟩)
  dsimp only [Pt.U, Pt.locs, Pt.cells, Pt.slots] at X3 l3 y3 z3 st3 hQ3
  subst l3 y3 z3
  obtain ⟨rfl, Nq3, Kp3⟩ := hQ3
  have N3 := Fr.app N0 Nq3
  refine own_of st3 ?_
  have sz3 : h1.size ≤ T3.heap.size := Kp3.1
  have O3 : Old Z n0 T3.heap := O1.keep Kp3 (allS (by omega) all0)
  have K3 : Keep h0 T3.heap [] := K1.trans Kp3 (allS (Or.inr (by omega)) all0)
  show own_go p e below s _ _ _ (T3.setTop (mkF m 12 #[.val (.ref ar), .val (.int 0), .val (.int 3), .val (.ref b1), .unset, .unset] [(.int 2)]))
  refine own_of (fun tt_ => XS.istore X3.here hx rfl (hb hby d6_12) rfl (l' := #[.val (.ref ar), .val (.int 0), .val (.int 3), .val (.ref b1), .val (.int 2), .unset]) rfl) ?_
  refine own_of (fun tt_ => XS.iload X3.here hx rfl (hb hby d6_14) rfl) ?_
  refine own_of (fun tt_ => XS.iloadN X3.here hx rfl (hb hby d6_16) rfl) ?_
  have hb17_4 : ¬ ((2 : Int32) = (3 : Int32)) := by decide
  refine own_of (fun tt_ => XS.icmpNo X3.here hx rfl (hb hby d6_17) rfl (feq hb17_4).1) ?_
  show own_go p e below s _ _ _ (T3.setTop (mkF m 20 #[.val (.ref ar), .val (.int 0), .val (.int 3), .val (.ref b1), .val (.int 2), .unset] []))
  refine own_of (fun tt_ => XS.aloadN X3.here hx rfl (hb hby d6_20) rfl rfl) ?_
  refine own_of (fun tt_ => XS.iloadN X3.here hx rfl (hb hby d6_21) rfl) ?_
  refine own_of (fun tt_ => XS.iloadN X3.here hx rfl (hb hby d6_22) rfl) ?_
  show own_go p e below s _ _ _ (T3.setTop (mkF m 23 #[.val (.ref ar), .val (.int 0), .val (.int 3), .val (.ref b1), .val (.int 2), .unset] [(.int 3), (.int 0), (.ref ar)]))
  have f5 : Arv Z T3.heap ar k .char (3 : Int32) [(.int c0), (.int c1), (.int c2)] (.int 0) := (f2.keep Kp3 (ninS (own_ne (by omega)) nin0))
  obtain ⟨_, _, ⟨T6, L6, k6, n6⟩, -, X6, ⟨Lc6, hQ6, l6, y6, z6⟩, st6⟩ := Jvm.LawKit.callS X3 hx (y := ym16) hown (mvT hZ (hW 79 _ rfl)) (mvT hZ (hW 80 _ rfl)) (mvT hZ (hW 35 _ rfl)) (mvT hZ (hW 81 _ rfl)) (by decide) (backOf (W := 0) (rmT_3 l Z a0 hw [] ar k c0 c1 c2 T3.heap n0 O3 S_ad S_hi S_lo f5) hZ (hW 81 _ rfl) (hW 35 _ rfl) (by decide) (by decide)) (g := (mkF m 23 #[.val (.ref ar), .val (.int 0), .val (.int 3), .val (.ref b1), .val (.int 2), .unset] [(.int 3), (.int 0), (.ref ar)])) rfl (by rw [hml]; rfl) (argsL := [(.ref ar), (.int 0), (.int 3)]) (rest := []) (lenOf pd_4 rfl) rfl (by show 2 * 0 + _ ≤ _; exact Nat.le_of_eq rfl) (hb hby d6_23) (fun _ _ => ⟨rfl, rfl, (by decide : 1 + 1 ≤ _), (by decide : 3 + 6 ≤ _)⟩)
  dsimp only [Pt.U, Pt.locs, Pt.cells, Pt.slots] at X6 l6 y6 z6 st6 hQ6
  subst l6 y6 z6
  obtain ⟨x6, kx6, rfl, Nq6, Kp6, gx6, Vx6⟩ := hQ6
  have N6 := Fr.app N3 Nq6
  refine own_of st6 ?_
  have sz6 : T3.heap.size ≤ T6.heap.size := Kp6.1
  have O6 : Old Z n0 T6.heap := O3.keep Kp6 all0
  have K6 : Keep h0 T6.heap [] := K3.trans Kp6 all0
  have ltx6 := own_lt Vx6.lt
  show own_go p e below s _ _ _ (T6.setTop (mkF m 26 #[.val (.ref ar), .val (.int 0), .val (.int 3), .val (.ref b1), .val (.int 2), .unset] [(.ref x6)]))
  refine own_of (fun tt_ => XS.astore X6.here hx rfl (hb hby d6_26) rfl rfl (l' := #[.val (.ref ar), .val (.int 0), .val (.int 3), .val (.ref b1), .val (.int 2), .val (.ref x6)]) rfl) ?_
  refine own_of (fun tt_ => XS.aload X6.here hx rfl (hb hby d6_28) rfl rfl) ?_
  refine own_of (fun tt_ => XS.iload X6.here hx rfl (hb hby d6_30) rfl) ?_
  show own_go p e below s _ _ _ (T6.setTop (mkF m 32 #[.val (.ref ar), .val (.int 0), .val (.int 3), .val (.ref b1), .val (.int 2), .val (.ref x6)] [(.int 2), (.ref x6)]))
  obtain ⟨_, _, ⟨T7, L7, k7, n7⟩, -, X7, ⟨Lc7, hQ7, l7, y7, z7⟩, st7⟩ := Jvm.LawKit.callS X6 hx (y := ym4) hown (mvT hZ (hW 95 _ rfl)) (mvT hZ (hW 96 _ rfl)) (mvT hZ (hW 35 _ rfl)) (mvT hZ (hW 97 _ rfl)) (by decide) (backOf (W := 0) (rmG_3_2 l Z a0 hw [] x6 kx6 (StrChars.lo8 c0) (StrChars.hi8 c0) (StrChars.lo8 c1) (StrChars.hi8 c1) (StrChars.lo8 c2) (StrChars.hi8 c2) T6.heap n0 O6 S_ad S_hi S_lo Vx6) hZ (hW 97 _ rfl) (hW 35 _ rfl) (by decide) (by decide)) (g := (mkF m 32 #[.val (.ref ar), .val (.int 0), .val (.int 3), .val (.ref b1), .val (.int 2), .val (.ref x6)] [(.int 2), (.ref x6)])) rfl (by rw [hml]; rfl) (argsL := [(.ref x6), (.int 2)]) (rest := []) (lenOf pd_5 rfl) rfl (by show 2 * 0 + _ ≤ _; exact Nat.le_of_eq rfl) (hb hby d6_32) (fun _ _ => ⟨rfl, rfl, (by decide : 2 + 0 ≤ _), (by decide : 9 + 0 ≤ _)⟩)
  dsimp only [Pt.U, Pt.locs, Pt.cells, Pt.slots] at X7 l7 y7 z7 st7 hQ7
  subst l7 y7 z7
  obtain ⟨rfl, Nq7, eh7⟩ := hQ7
  have N7 := Fr.app N6 Nq7
  refine own_of st7 ?_
  rw [StrChars.pair_says r2.1 r2.2]
  show own_go p e below s _ _ _ (T7.setTop (mkF m 35 #[.val (.ref ar), .val (.int 0), .val (.int 3), .val (.ref b1), .val (.int 2), .val (.ref x6)] [(.int c2)]))
  refine own_of (fun tt_ => XS.sipush X7.here hx rfl (hb hby d6_35)) ?_
  have hb38_8 : (255 : Int32) < c2 := wq2
  refine own_of (fun tt_ => XS.icmpYes X7.here hx rfl (pc0 := 38) (pc' := 54) rfl (hb hby d6_38) rfl (tlt hb38_8).2.2.1 (by decide) (by decide)) ?_
  show own_go p e below s _ _ _ (T7.setTop (mkF m 54 #[.val (.ref ar), .val (.int 0), .val (.int 3), .val (.ref b1), .val (.int 2), .val (.ref x6)] []))
  refine own_of (fun tt_ => XS.aload X7.here hx rfl (hb hby d6_54) rfl rfl) ?_
  show own_go p e below s _ _ _ (T7.setTop (mkF m 56 #[.val (.ref ar), .val (.int 0), .val (.int 3), .val (.ref b1), .val (.int 2), .val (.ref x6)] [(.ref x6)]))
  refine own_ret X7 hx hlk hret rfl (Or.inr (Or.inr (Or.inr (Or.inr ⟨rfl, rfl, rfl⟩)))) (hb hby d6_56) (by decide) (by decide) ?_
  rw [eh7]
  exact ⟨x6, kx6, rfl, N7, K6, by omega, Vx6⟩
theorem rmK_3 (l : Launch) (Z : State) (a0 : Array Value) (hw : own_H Z a0) (ws : List Jvm.Cond) (ar : Nat) (k : ClassId) (c0 : Int32) (c1 : Int32) (c2 : Int32) (h0 : Heap) (n0 : Nat) (XO0 : Old Z n0 h0) (S_ad : Sta Z Z.heap "java/lang/StringUTF16" "$assertionsDisabled" "Z" (.int 1)) (S_hi : Sta Z Z.heap "java/lang/StringUTF16" "HI_BYTE_SHIFT" "I" (.int 0)) (S_lo : Sta Z Z.heap "java/lang/StringUTF16" "LO_BYTE_SHIFT" "I" (.int 8)) (V_a : Arv Z h0 ar k .char (3 : Int32) [(.int c0), (.int c1), (.int c2)] (.int 0)) (r0 : own_c16 c0) (r1 : own_c16 c1) (r2 : own_c16 c2) (hbig : (255 : Int32) < c0 ∨ (255 : Int32) < c1 ∨ (255 : Int32) < c2) :
    own_M l Z ym11 jdk_52_method_16_code ws 6 (some (.array .byte)) (own_R 3 2 9 40) #[(.ref ar), (.int 0), (.int 3)] h0 (Q_rmK_3 Z ar k c0 c1 c2 h0 n0) := by
  by_cases wq0 : (255 : Int32) < c0
  · exact rmK_3_0 l Z a0 hw ws ar k c0 c1 c2 h0 n0 XO0 S_ad S_hi S_lo V_a r0 r1 r2 wq0
  by_cases wq1 : (255 : Int32) < c1
  · exact rmK_3_1 l Z a0 hw ws ar k c0 c1 c2 h0 n0 XO0 S_ad S_hi S_lo V_a r0 r1 r2 wq0 wq1
  by_cases wq2 : (255 : Int32) < c2
  · exact rmK_3_2 l Z a0 hw ws ar k c0 c1 c2 h0 n0 XO0 S_ad S_hi S_lo V_a r0 r1 r2 wq0 wq1 wq2
  · simp_all
theorem ef_rmD_1 (m : MethodId) (x0 : Nat) (x1 : Int32) : entryFrame m #[(.ref x0), (.int x1)] 2 = mkF m 0 #[.val (.ref x0), .val (.int x1)] [] := by first | (simp [entryFrame, mkF, argsToLocals, Value.category]; done) | rfl
theorem d8_0 : decode jdk_52_method_15_code 0 = .ok (.iload_n 1, 1) := by decide +kernel
theorem d8_1 : decode jdk_52_method_15_code 1 = .ok (.aload_n 0, 1) := by decide +kernel
theorem d8_2 : decode jdk_52_method_15_code 2 = .ok (.arraylength, 1) := by decide +kernel
theorem d8_3 : decode jdk_52_method_15_code 3 = .ok (.isub, 1) := by decide +kernel
theorem d8_4 : decode jdk_52_method_15_code 4 = .ok (.bipush 31, 2) := by decide +kernel
theorem d8_6 : decode jdk_52_method_15_code 6 = .ok (.iushr, 1) := by decide +kernel
theorem d8_7 : decode jdk_52_method_15_code 7 = .ok (.i2b, 1) := by decide +kernel
theorem d8_8 : decode jdk_52_method_15_code 8 = .ok (.ireturn, 1) := by decide +kernel
def Q_rmD_1 (Z : State) (t : Nat) (kb : ClassId) (vs : List Value) (h0 : Heap) (n0 : Nat) (v : Option Value) (h : Heap) (L : List Loc) : Prop := v = some (.int 1) ∧ Fr n0 L ∧ h = h0
set_option maxRecDepth 65536 in
set_option maxHeartbeats 40000000 in
theorem rmD_1 (l : Launch) (Z : State) (a0 : Array Value) (hw : own_H Z a0) (ws : List Jvm.Cond) (t : Nat) (kb : ClassId) (vs : List Value) (h0 : Heap) (n0 : Nat) (XO0 : Old Z n0 h0) (V_t : Arv Z h0 t kb .byte (2 : Int32) vs (.int 0)) :
    own_M l Z ym21 jdk_52_method_15_code ws 2 (some .byte) (own_R 0 0 0 0) #[(.ref t), (.int 1)] h0 (Q_rmD_1 Z t kb vs h0 n0) := by
  refine own_open (plainFor_of_name pn_0) ?_
  intro p e s m below meth c s₁ hx hby hlk hret hml hown hnm hZ X0 e0
  have hW := own_hW hw
  have N0 := Fr.nil n0
  refine own_of (fun tt_ kk_ => castTop (ef_rmD_1 m t (1 : Int32)) kk_) ?_
  show own_go p e below s _ _ _ (s₁.setTop (mkF m 0 #[.val (.ref t), .val (.int 1)] []))
  refine own_of (fun tt_ => XS.iloadN X0.here hx rfl (hb hby d8_0) rfl) ?_
  refine own_of (fun tt_ => XS.aloadN X0.here hx rfl (hb hby d8_1) rfl rfl) ?_
  obtain ⟨cl1, Ar1, q1, S1, Ng1, H1, G1⟩ := id V_t
  refine own_of (fun tt_ kk => X0.arraylength hx (by rw [e0]; exact Ar1.1) (State.isArrayOf_alike hZ.alike Ar1.2.1) (g := (mkF m 2 #[.val (.ref t), .val (.int 1)] [(.ref t), (.int 1)])) rfl rfl (hb hby d8_2) _ (by rw [len_of S1 Ng1]; exact kk)) ?_
  show own_go p e below s _ _ _ (s₁.setTop (mkF m 3 #[.val (.ref t), .val (.int 1)] [(.int 2), (.int 1)]))
  refine own_of (fun tt_ => XS.isub X0.here hx rfl (hb hby d8_3) rfl) ?_
  show own_go p e below s _ _ _ (s₁.setTop (mkF m 4 #[.val (.ref t), .val (.int 1)] [(.int (-1))]))
  refine own_of (fun tt_ => XS.bipush X0.here hx rfl (hb hby d8_4)) ?_
  refine own_of (fun tt_ => XS.iushr X0.here hx rfl (hb hby d8_6) rfl) ?_
  show own_go p e below s _ _ _ (s₁.setTop (mkF m 7 #[.val (.ref t), .val (.int 1)] [(.int 1)]))
  refine own_of (fun tt_ => XS.i2b X0.here hx rfl (hb hby d8_7) rfl) ?_
  show own_go p e below s _ _ _ (s₁.setTop (mkF m 8 #[.val (.ref t), .val (.int 1)] [(.int 1)]))
  refine own_ret X0 hx hlk hret rfl (Or.inl ⟨rfl, by simp, _, rfl⟩) (hb hby d8_8) (by decide) (by decide) ?_
  rw [e0]
  exact ⟨rfl, N0, rfl⟩
theorem ef_rmD_2 (m : MethodId) (x0 : Nat) (x1 : Int32) : entryFrame m #[(.ref x0), (.int x1)] 2 = mkF m 0 #[.val (.ref x0), .val (.int x1)] [] := by first | (simp [entryFrame, mkF, argsToLocals, Value.category]; done) | rfl
def Q_rmD_2 (Z : State) (t : Nat) (kb : ClassId) (vs : List Value) (h0 : Heap) (n0 : Nat) (v : Option Value) (h : Heap) (L : List Loc) : Prop := v = some (.int 1) ∧ Fr n0 L ∧ h = h0
set_option maxRecDepth 65536 in
set_option maxHeartbeats 40000000 in
theorem rmD_2 (l : Launch) (Z : State) (a0 : Array Value) (hw : own_H Z a0) (ws : List Jvm.Cond) (t : Nat) (kb : ClassId) (vs : List Value) (h0 : Heap) (n0 : Nat) (XO0 : Old Z n0 h0) (V_t : Arv Z h0 t kb .byte (4 : Int32) vs (.int 0)) :
    own_M l Z ym21 jdk_52_method_15_code ws 2 (some .byte) (own_R 0 0 0 0) #[(.ref t), (.int 2)] h0 (Q_rmD_2 Z t kb vs h0 n0) := by
  refine own_open (plainFor_of_name pn_0) ?_
  intro p e s m below meth c s₁ hx hby hlk hret hml hown hnm hZ X0 e0
  have hW := own_hW hw
  have N0 := Fr.nil n0
  refine own_of (fun tt_ kk_ => castTop (ef_rmD_2 m t (2 : Int32)) kk_) ?_
  show own_go p e below s _ _ _ (s₁.setTop (mkF m 0 #[.val (.ref t), .val (.int 2)] []))
  refine own_of (fun tt_ => XS.iloadN X0.here hx rfl (hb hby d8_0) rfl) ?_
  refine own_of (fun tt_ => XS.aloadN X0.here hx rfl (hb hby d8_1) rfl rfl) ?_
  obtain ⟨cl1, Ar1, q1, S1, Ng1, H1, G1⟩ := id V_t
  refine own_of (fun tt_ kk => X0.arraylength hx (by rw [e0]; exact Ar1.1) (State.isArrayOf_alike hZ.alike Ar1.2.1) (g := (mkF m 2 #[.val (.ref t), .val (.int 2)] [(.ref t), (.int 2)])) rfl rfl (hb hby d8_2) _ (by rw [len_of S1 Ng1]; exact kk)) ?_
  show own_go p e below s _ _ _ (s₁.setTop (mkF m 3 #[.val (.ref t), .val (.int 2)] [(.int 4), (.int 2)]))
  refine own_of (fun tt_ => XS.isub X0.here hx rfl (hb hby d8_3) rfl) ?_
  show own_go p e below s _ _ _ (s₁.setTop (mkF m 4 #[.val (.ref t), .val (.int 2)] [(.int (-2))]))
  refine own_of (fun tt_ => XS.bipush X0.here hx rfl (hb hby d8_4)) ?_
  refine own_of (fun tt_ => XS.iushr X0.here hx rfl (hb hby d8_6) rfl) ?_
  show own_go p e below s _ _ _ (s₁.setTop (mkF m 7 #[.val (.ref t), .val (.int 2)] [(.int 1)]))
  refine own_of (fun tt_ => XS.i2b X0.here hx rfl (hb hby d8_7) rfl) ?_
  show own_go p e below s _ _ _ (s₁.setTop (mkF m 8 #[.val (.ref t), .val (.int 2)] [(.int 1)]))
  refine own_ret X0 hx hlk hret rfl (Or.inl ⟨rfl, by simp, _, rfl⟩) (hb hby d8_8) (by decide) (by decide) ?_
  rw [e0]
  exact ⟨rfl, N0, rfl⟩
theorem ef_rmD_3 (m : MethodId) (x0 : Nat) (x1 : Int32) : entryFrame m #[(.ref x0), (.int x1)] 2 = mkF m 0 #[.val (.ref x0), .val (.int x1)] [] := by first | (simp [entryFrame, mkF, argsToLocals, Value.category]; done) | rfl
def Q_rmD_3 (Z : State) (t : Nat) (kb : ClassId) (vs : List Value) (h0 : Heap) (n0 : Nat) (v : Option Value) (h : Heap) (L : List Loc) : Prop := v = some (.int 1) ∧ Fr n0 L ∧ h = h0
set_option maxRecDepth 65536 in
set_option maxHeartbeats 40000000 in
theorem rmD_3 (l : Launch) (Z : State) (a0 : Array Value) (hw : own_H Z a0) (ws : List Jvm.Cond) (t : Nat) (kb : ClassId) (vs : List Value) (h0 : Heap) (n0 : Nat) (XO0 : Old Z n0 h0) (V_t : Arv Z h0 t kb .byte (6 : Int32) vs (.int 0)) :
    own_M l Z ym21 jdk_52_method_15_code ws 2 (some .byte) (own_R 0 0 0 0) #[(.ref t), (.int 3)] h0 (Q_rmD_3 Z t kb vs h0 n0) := by
  refine own_open (plainFor_of_name pn_0) ?_
  intro p e s m below meth c s₁ hx hby hlk hret hml hown hnm hZ X0 e0
  have hW := own_hW hw
  have N0 := Fr.nil n0
  refine own_of (fun tt_ kk_ => castTop (ef_rmD_3 m t (3 : Int32)) kk_) ?_
  show own_go p e below s _ _ _ (s₁.setTop (mkF m 0 #[.val (.ref t), .val (.int 3)] []))
  refine own_of (fun tt_ => XS.iloadN X0.here hx rfl (hb hby d8_0) rfl) ?_
  refine own_of (fun tt_ => XS.aloadN X0.here hx rfl (hb hby d8_1) rfl rfl) ?_
  obtain ⟨cl1, Ar1, q1, S1, Ng1, H1, G1⟩ := id V_t
  refine own_of (fun tt_ kk => X0.arraylength hx (by rw [e0]; exact Ar1.1) (State.isArrayOf_alike hZ.alike Ar1.2.1) (g := (mkF m 2 #[.val (.ref t), .val (.int 3)] [(.ref t), (.int 3)])) rfl rfl (hb hby d8_2) _ (by rw [len_of S1 Ng1]; exact kk)) ?_
  show own_go p e below s _ _ _ (s₁.setTop (mkF m 3 #[.val (.ref t), .val (.int 3)] [(.int 6), (.int 3)]))
  refine own_of (fun tt_ => XS.isub X0.here hx rfl (hb hby d8_3) rfl) ?_
  show own_go p e below s _ _ _ (s₁.setTop (mkF m 4 #[.val (.ref t), .val (.int 3)] [(.int (-3))]))
  refine own_of (fun tt_ => XS.bipush X0.here hx rfl (hb hby d8_4)) ?_
  refine own_of (fun tt_ => XS.iushr X0.here hx rfl (hb hby d8_6) rfl) ?_
  show own_go p e below s _ _ _ (s₁.setTop (mkF m 7 #[.val (.ref t), .val (.int 3)] [(.int 1)]))
  refine own_of (fun tt_ => XS.i2b X0.here hx rfl (hb hby d8_7) rfl) ?_
  show own_go p e below s _ _ _ (s₁.setTop (mkF m 8 #[.val (.ref t), .val (.int 3)] [(.int 1)]))
  refine own_ret X0 hx hlk hret rfl (Or.inl ⟨rfl, by simp, _, rfl⟩) (hb hby d8_8) (by decide) (by decide) ?_
  rw [e0]
  exact ⟨rfl, N0, rfl⟩
def own_okv (z : Int32) : Int32 := if ¬ (32 : Int32) < z then 0 else if ¬ z < (127 : Int32) then 0 else if z = (34 : Int32) then 0 else if z = (92 : Int32) then 0 else 1
theorem own_okv01 (z : Int32) : own_okv z = 0 ∨ own_okv z = 1 := by
  unfold own_okv
  repeat' split
  all_goals simp
theorem own_okb {z : Int32} (h : z < (33 : Int32) ∨ (126 : Int32) < z ∨ z = (34 : Int32) ∨ z = (92 : Int32)) : own_okv z = 0 := by
  unfold own_okv
  simp only [Int32.lt_iff_toInt_lt, ← Int32.toInt_inj, show (32 : Int32).toInt = 32 from rfl, show (33 : Int32).toInt = 33 from rfl, show (34 : Int32).toInt = 34 from rfl, show (92 : Int32).toInt = 92 from rfl, show (126 : Int32).toInt = 126 from rfl, show (127 : Int32).toInt = 127 from rfl] at h ⊢
  repeat' split
  all_goals first | rfl | (exfalso; omega)
theorem own_okg {z : Int32} (h1 : ¬ z < (33 : Int32)) (h2 : ¬ (126 : Int32) < z) (h3 : ¬ z = (34 : Int32)) (h4 : ¬ z = (92 : Int32)) : own_okv z = 1 := by
  unfold own_okv
  simp only [Int32.lt_iff_toInt_lt, ← Int32.toInt_inj, show (32 : Int32).toInt = 32 from rfl, show (33 : Int32).toInt = 33 from rfl, show (34 : Int32).toInt = 34 from rfl, show (92 : Int32).toInt = 92 from rfl, show (126 : Int32).toInt = 126 from rfl, show (127 : Int32).toInt = 127 from rfl] at h1 h2 h3 h4 ⊢
  repeat' split
  all_goals first | rfl | (exfalso; omega)
def own_okn (cs : List Int32) : Int32 := if ∀ z ∈ cs, own_okv z = 1 then 1 else 0
theorem own_okn0 {cs : List Int32} {z : Int32} (h : z ∈ cs) (q : own_okv z = 0) : own_okn cs = 0 := by
  unfold own_okn
  rw [if_neg]
  intro w
  rw [w z h] at q
  exact absurd q (by decide)
theorem own_c65 (y : Int32) : own_c16 (y.toUInt32.toUInt16.toUInt32.toInt32) := by
  have hb := y.toUInt32.toUInt16.toNat_lt
  have e : (y.toUInt32.toUInt16.toUInt32.toInt32).toInt = (y.toUInt32.toUInt16.toNat : Int) := by
    show (BitVec.toInt _) = _
    have e2 : y.toUInt32.toUInt16.toUInt32.toInt32.toBitVec.toNat = y.toUInt32.toUInt16.toNat := by simp; rfl
    rw [BitVec.toInt_eq_toNat_of_lt (by rw [e2]; omega), e2]
  refine ⟨?_, ?_⟩ <;> rw [Int32.lt_iff_toInt_lt, e]
  · have e0 : (0 : Int32).toInt = 0 := rfl
    omega
  · have e0 : (65535 : Int32).toInt = 65535 := rfl
    omega
theorem own_nar16 {z : Int32} (h : own_c16 z) : nar .char z = z := by
  have q := StrChars.narrow_ch h.1 h.2
  have q2 : narrow .char (.int z) = .int (nar .char z) := rfl
  rw [q2] at q
  exact Value.int.inj q
theorem own_str.opened {Z : State} {h : Heap} {x : Addr} {cs : List Int32} (S : own_str Z h x cs) : ∃ (t : Addr) (kb : ClassId), Exa Z h x "java/lang/String" ∧ Fld Z h x "java/lang/String" "value" "[B" (.ref t) ∧ Fld Z h x "java/lang/String" "coder" "B" (.int 0) ∧ Arv Z h t kb .byte (Int32.ofNat cs.length) (cs.map fun c => Value.int (StrChars.lo8 c)) (.int 0) := by
  obtain ⟨t, kb, N, vs, h1, h2, h3, h4, h5⟩ := S
  rcases h5 with ⟨-, rfl, rfl, -⟩ | ⟨q, -⟩
  · exact ⟨t, kb, h1, h2, h3, h4⟩
  · exact absurd q (by decide)
theorem own_si {s : State} {args : Array Value} {t : Term} {k : Int32} (h : (Jvm.Cond.eq t (Term.int k)).value args s none s [] = some true) : t.eval args s none [] s = some (.int k) := by
  obtain ⟨x, y, h1, h2, h3, h4⟩ := cmp_v (Or.inl h)
  have e2 := Option.some.inj ((Term.int_eval k).symm.trans h2)
  subst e2
  obtain ⟨z, rfl⟩ := h4
  have : z = k := by simpa [Cond.value, h1, Term.int_eval] using h
  rw [h1, this]
theorem ef_rmW4_1 (m : MethodId) (x0 : Nat) (x1 : Nat) (x2 : Int32) (x3 : Int32) : entryFrame m #[(.ref x0), (.ref x1), (.int x2), (.int x3), .null] 6 = mkF m 0 #[.val (.ref x0), .val (.ref x1), .val (.int x2), .val (.int x3), .val .null, .unset] [] := by first | (simp [entryFrame, mkF, argsToLocals, Value.category]; done) | rfl
theorem pn_1 : plainName "java/lang/String" = true := by first | (simp [plainName, overriddenIn]; done) | decide +kernel
theorem d2_0 : decode jdk_42_method_149_code 0 = .ok (.aload_n 0, 1) := by decide +kernel
theorem d2_1 : decode jdk_42_method_149_code 1 = .ok (.invokespecial 1, 3) := by decide +kernel
theorem d2_4 : decode jdk_42_method_149_code 4 = .ok (.iload_n 3, 1) := by decide +kernel
theorem d2_5 : decode jdk_42_method_149_code 5 = .ok (.ifCond .ne 22, 3) := by decide +kernel
theorem d2_27 : decode jdk_42_method_149_code 27 = .ok (.getstatic 38, 3) := by decide +kernel
theorem d2_30 : decode jdk_42_method_149_code 30 = .ok (.ifCond .eq 28, 3) := by decide +kernel
theorem d2_33 : decode jdk_42_method_149_code 33 = .ok (.aload_n 1, 1) := by decide +kernel
theorem d2_34 : decode jdk_42_method_149_code 34 = .ok (.iload_n 2, 1) := by decide +kernel
theorem d2_35 : decode jdk_42_method_149_code 35 = .ok (.iload_n 3, 1) := by decide +kernel
theorem d2_36 : decode jdk_42_method_149_code 36 = .ok (.invokestatic 177, 3) := by decide +kernel
theorem d2_39 : decode jdk_42_method_149_code 39 = .ok (.astore 5, 2) := by decide +kernel
theorem d2_41 : decode jdk_42_method_149_code 41 = .ok (.aload_n 0, 1) := by decide +kernel
theorem d2_42 : decode jdk_42_method_149_code 42 = .ok (.aload 5, 2) := by decide +kernel
theorem d2_44 : decode jdk_42_method_149_code 44 = .ok (.iload_n 3, 1) := by decide +kernel
theorem d2_45 : decode jdk_42_method_149_code 45 = .ok (.invokestatic 47, 3) := by decide +kernel
theorem pd_6 : parseMethodDescriptor "([BI)B" = some ⟨[(.array .byte), .int], some .byte⟩ := by decide +kernel
theorem d2_48 : decode jdk_42_method_149_code 48 = .ok (.putfield 15, 3) := by decide +kernel
theorem pf_0 : parseFieldDescriptor "B" = some .byte := by decide +kernel
theorem d2_51 : decode jdk_42_method_149_code 51 = .ok (.aload_n 0, 1) := by decide +kernel
theorem d2_52 : decode jdk_42_method_149_code 52 = .ok (.aload 5, 2) := by decide +kernel
theorem d2_54 : decode jdk_42_method_149_code 54 = .ok (.putfield 9, 3) := by decide +kernel
theorem pf_1 : parseFieldDescriptor "[B" = some (.array .byte) := by decide +kernel
theorem d2_57 : decode jdk_42_method_149_code 57 = .ok (.return_, 1) := by decide +kernel
def Q_rmW4_1 (Z : State) (x : Nat) (ar : Nat) (k : ClassId) (c0 : Int32) (Gc : Int32) (h0 : Heap) (n0 : Nat) (v : Option Value) (h : Heap) (L : List Loc) : Prop := v = none ∧ Fr n0 L ∧ Keep h0 h [x] ∧ ∃ (t : Nat) (kb : ClassId), Exa Z h x "java/lang/String" ∧ Fld Z h x "java/lang/String" "value" "[B" (.ref t) ∧ Fld Z h x "java/lang/String" "coder" "B" (.int 1) ∧ Arv Z h t kb .byte (2 : Int32) [(.int (StrChars.lo8 c0)), (.int (StrChars.hi8 c0))] (.int 0) ∧ n0 ≤ t ∧ t ≠ x
set_option maxRecDepth 65536 in
set_option maxHeartbeats 40000000 in
theorem rmW4_1 (l : Launch) (Z : State) (a0 : Array Value) (hw : own_H Z a0) (ws : List Jvm.Cond) (x : Nat) (ar : Nat) (k : ClassId) (c0 : Int32) (Gc : Int32) (h0 : Heap) (n0 : Nat) (XO0 : Old Z n0 h0) (S_ad : Sta Z Z.heap "java/lang/StringUTF16" "$assertionsDisabled" "Z" (.int 1)) (S_hi : Sta Z Z.heap "java/lang/StringUTF16" "HI_BYTE_SHIFT" "I" (.int 0)) (S_lo : Sta Z Z.heap "java/lang/StringUTF16" "LO_BYTE_SHIFT" "I" (.int 8)) (Oc : Sta Z Z.heap "java/lang/String" "COMPACT_STRINGS" "Z" (.int Gc)) (Pc : ¬ (Gc = (0 : Int32))) (g_x : n0 ≤ x) (E_x : Exa Z h0 x "java/lang/String") (F_v : Fld Z h0 x "java/lang/String" "value" "[B" .null) (F_c : Fld Z h0 x "java/lang/String" "coder" "B" (.int 0)) (V_a : Arv Z h0 ar k .char (1 : Int32) [(.int c0)] (.int 0)) (r0 : own_c16 c0) (hbig : (255 : Int32) < c0) :
    own_M l Z ym17 jdk_42_method_149_code ws 6 none (own_R 4 2 3 57) #[(.ref x), (.ref ar), (.int 0), (.int 1), .null] h0 (Q_rmW4_1 Z x ar k c0 Gc h0 n0) := by
  refine own_open (plainFor_of_name pn_1) ?_
  intro p e s m below meth c s₁ hx hby hlk hret hml hown hnm hZ X0 e0
  have hW := own_hW hw
  have N0 := Fr.nil n0
  refine own_of (fun tt_ kk_ => castTop (ef_rmW4_1 m x ar (0 : Int32) (1 : Int32)) kk_) ?_
  show own_go p e below s _ _ _ (s₁.setTop (mkF m 0 #[.val (.ref x), .val (.ref ar), .val (.int 0), .val (.int 1), .val .null, .unset] []))
  have K0 : Keep h0 h0 [x] := Keep.refl h0 [x]
  have lt_x := own_lt E_x.lt
  have lt_ar := own_lt V_a.lt
  refine own_of (fun tt_ => XS.aloadN X0.here hx rfl (hb hby d2_0) rfl rfl) ?_
  obtain ⟨T1, X1, e1, st1⟩ := initO X0 hx hZ hown (hW 12 _ rfl) (hW 13 _ rfl) (hW 14 _ rfl) e0 (g := (mkF m 1 #[.val (.ref x), .val (.ref ar), .val (.int 0), .val (.int 1), .val .null, .unset] [(.ref x)])) rfl (by rw [hml]; rfl) rfl (hb hby d2_1) (by decide) (W := 0) (by show 2 * 0 + _ ≤ _; exact Nat.le_of_eq rfl) (by decide)
  refine own_of st1 ?_
  show own_go p e below s _ _ _ (T1.setTop (mkF m 4 #[.val (.ref x), .val (.ref ar), .val (.int 0), .val (.int 1), .val .null, .unset] []))
  refine own_of (fun tt_ => XS.iloadN X1.here hx rfl (hb hby d2_4) rfl) ?_
  have hb5_2 : ¬ ((1 : Int32) = (0 : Int32)) := by decide
  refine own_of (fun tt_ => XS.ifYes X1.here hx rfl (pc0 := 5) (pc' := 27) rfl (hb hby d2_5) rfl ((if0 _ _).trans (feq hb5_2).2) (by decide) (by decide)) ?_
  show own_go p e below s _ _ _ (T1.setTop (mkF m 27 #[.val (.ref x), .val (.ref ar), .val (.int 0), .val (.int 1), .val .null, .unset] []))
  obtain ⟨T3, X3, e3, st3⟩ := getS2 X1 hx hZ hown (host := "") (Or.inl (hW 32 _ rfl)) Via.refl e1 (Oc.ext XO0.2) (g := (mkF m 27 #[.val (.ref x), .val (.ref ar), .val (.int 0), .val (.int 1), .val .null, .unset] [])) rfl (hb hby d2_27)
  refine own_of st3 ?_
  show own_go p e below s _ _ _ (T3.setTop (mkF m 30 #[.val (.ref x), .val (.ref ar), .val (.int 0), .val (.int 1), .val .null, .unset] [(.int Gc)]))
  have hb30_4 : ¬ (Gc = (0 : Int32)) := Pc
  refine own_of (fun tt_ => XS.ifNo X3.here hx rfl (hb hby d2_30) rfl ((if0 _ _).trans (feq hb30_4).1)) ?_
  show own_go p e below s _ _ _ (T3.setTop (mkF m 33 #[.val (.ref x), .val (.ref ar), .val (.int 0), .val (.int 1), .val .null, .unset] []))
  refine own_of (fun tt_ => XS.aloadN X3.here hx rfl (hb hby d2_33) rfl rfl) ?_
  refine own_of (fun tt_ => XS.iloadN X3.here hx rfl (hb hby d2_34) rfl) ?_
  refine own_of (fun tt_ => XS.iloadN X3.here hx rfl (hb hby d2_35) rfl) ?_
  show own_go p e below s _ _ _ (T3.setTop (mkF m 36 #[.val (.ref x), .val (.ref ar), .val (.int 0), .val (.int 1), .val .null, .unset] [(.int 1), (.int 0), (.ref ar)]))
  obtain ⟨_, _, ⟨T5, L5, k5, n5⟩, -, X5, ⟨Lc5, hQ5, l5, y5, z5⟩, st5⟩ := Jvm.LawKit.callS X3 hx (y := ym11) hown (mvT hZ (hW 33 _ rfl)) (mvT hZ (hW 34 _ rfl)) (mvT hZ (hW 35 _ rfl)) (mvT hZ (hW 36 _ rfl)) (by decide) (backOf (W := 0) (rmK_1 l Z a0 hw [] ar k c0 h0 n0 XO0 S_ad S_hi S_lo V_a r0 hbig) hZ (hW 36 _ rfl) (hW 35 _ rfl) (by decide) (by decide)) (g := (mkF m 36 #[.val (.ref x), .val (.ref ar), .val (.int 0), .val (.int 1), .val .null, .unset] [(.int 1), (.int 0), (.ref ar)])) rfl (by rw [hml]; rfl) (argsL := [(.ref ar), (.int 0), (.int 1)]) (rest := []) (lenOf pd_4 rfl) rfl (by show 2 * 0 + _ ≤ _; exact Nat.le_of_eq rfl) (hb hby d2_36) (fun _ _ => ⟨rfl, e3, (by decide : 0 + 2 ≤ _), (by decide : 0 + 3 ≤ _)⟩)
  dsimp only [Pt.U, Pt.locs, Pt.cells, Pt.slots] at X5 l5 y5 z5 st5 hQ5
  subst l5 y5 z5
  obtain ⟨t5, kt5, rfl, Nq5, Kp5, gt5, Vt5⟩ := hQ5
  have N5 := Fr.app N0 Nq5
  refine own_of st5 ?_
  have sz5 : h0.size ≤ T5.heap.size := Kp5.1
  have O5 : Old Z n0 T5.heap := XO0.keep Kp5 all0
  have K5 : Keep h0 T5.heap [x] := K0.trans Kp5 all0
  have ltt5 := own_lt Vt5.lt
  show own_go p e below s _ _ _ (T5.setTop (mkF m 39 #[.val (.ref x), .val (.ref ar), .val (.int 0), .val (.int 1), .val .null, .unset] [(.ref t5)]))
  refine own_of (fun tt_ => XS.astore X5.here hx rfl (hb hby d2_39) rfl rfl (l' := #[.val (.ref x), .val (.ref ar), .val (.int 0), .val (.int 1), .val .null, .val (.ref t5)]) rfl) ?_
  refine own_of (fun tt_ => XS.aloadN X5.here hx rfl (hb hby d2_41) rfl rfl) ?_
  refine own_of (fun tt_ => XS.aload X5.here hx rfl (hb hby d2_42) rfl rfl) ?_
  refine own_of (fun tt_ => XS.iloadN X5.here hx rfl (hb hby d2_44) rfl) ?_
  show own_go p e below s _ _ _ (T5.setTop (mkF m 45 #[.val (.ref x), .val (.ref ar), .val (.int 0), .val (.int 1), .val .null, .val (.ref t5)] [(.int 1), (.ref t5), (.ref x)]))
  obtain ⟨_, _, ⟨T6, L6, k6, n6⟩, -, X6, ⟨Lc6, hQ6, l6, y6, z6⟩, st6⟩ := Jvm.LawKit.callS X5 hx (y := ym21) hown (mvT hZ (hW 40 _ rfl)) (mvT hZ (hW 41 _ rfl)) (mvT hZ (hW 35 _ rfl)) (mvT hZ (hW 42 _ rfl)) (by decide) (backOf (W := 1) (rmD_1 l Z a0 hw [] t5 kt5 [(.int (StrChars.lo8 c0)), (.int (StrChars.hi8 c0))] T5.heap n0 O5 Vt5) hZ (hW 42 _ rfl) (hW 35 _ rfl) (by decide) (by decide)) (g := (mkF m 45 #[.val (.ref x), .val (.ref ar), .val (.int 0), .val (.int 1), .val .null, .val (.ref t5)] [(.int 1), (.ref t5), (.ref x)])) rfl (by rw [hml]; rfl) (argsL := [(.ref t5), (.int 1)]) (rest := [(.ref x)]) (lenOf pd_6 rfl) rfl (by show 2 * 0 + _ ≤ _; exact Nat.le_of_eq rfl) (hb hby d2_45) (fun _ _ => ⟨rfl, rfl, (by decide : 2 + 0 ≤ _), (by decide : 3 + 0 ≤ _)⟩)
  dsimp only [Pt.U, Pt.locs, Pt.cells, Pt.slots] at X6 l6 y6 z6 st6 hQ6
  subst l6 y6 z6
  obtain ⟨rfl, Nq6, eh6⟩ := hQ6
  have N6 := Fr.app N5 Nq6
  refine own_of st6 ?_
  show own_go p e below s _ _ _ (T6.setTop (mkF m 48 #[.val (.ref x), .val (.ref ar), .val (.int 0), .val (.int 1), .val .null, .val (.ref t5)] [(.int 1), (.ref x)]))
  have f7 : Exa Z T5.heap x "java/lang/String" := (E_x.keep Kp5)
  have f8 : Fld Z T5.heap x "java/lang/String" "coder" "B" (.int 0) := (F_c.keep Kp5 nin0)
  obtain ⟨T9, h9, X9, e9, W9, st9⟩ := putFN X6 hx hZ hown (hW 22 _ rfl) Via.refl eh6 f8 f7 (Or.inr ⟨(hW 18 _ rfl), rfl, hnm⟩) (hW 2 _ rfl) (ty := .byte) (v' := .int (nar .byte (1 : Int32))) pf_0 rfl (fits_nar_byte _) (g := (mkF m 48 #[.val (.ref x), .val (.ref ar), .val (.int 0), .val (.int 1), .val .null, .val (.ref t5)] [(.int 1), (.ref x)])) rfl rfl (hb hby d2_48)
  refine own_of st9 ?_
  have N9 := Fr.snoc X9 N6 (by omega : n0 ≤ x)
  have sz9 : h9.size = T5.heap.size := W9.size
  have O9 : Old Z n0 h9 := O5.wr W9 (by omega)
  have K9 : Keep h0 h9 [x] := K5.wr W9 (Or.inl (List.mem_of_getElem? (i := 0) rfl))
  have Fw9 := f8.same W9
  show own_go p e below s _ _ _ (T9.setTop (mkF m 51 #[.val (.ref x), .val (.ref ar), .val (.int 0), .val (.int 1), .val .null, .val (.ref t5)] []))
  refine own_of (fun tt_ => XS.aloadN X9.here hx rfl (hb hby d2_51) rfl rfl) ?_
  refine own_of (fun tt_ => XS.aload X9.here hx rfl (hb hby d2_52) rfl rfl) ?_
  have f10 : Exa Z h9 x "java/lang/String" := (f7.wr W9)
  have f11 : Fld Z h9 x "java/lang/String" "value" "[B" .null := ((F_v.keep Kp5 nin0).other W9 (Or.inr (slot_ne (Or.inr (hW 17 _ rfl)) (Or.inr (hW 18 _ rfl)) (by decide) pf_1 pf_0)))
  obtain ⟨T12, h12, X12, e12, W12, st12⟩ := putF X9 hx hZ hown (host := "") (Or.inl (hW 21 _ rfl)) Via.refl e9 f11 f10 (Or.inr ⟨(hW 17 _ rfl), rfl, hnm⟩) (hW 2 _ rfl) (ty := (.array .byte)) pf_1 rfl rfl (g := (mkF m 54 #[.val (.ref x), .val (.ref ar), .val (.int 0), .val (.int 1), .val .null, .val (.ref t5)] [(.ref t5), (.ref x)])) rfl rfl (hb hby d2_54)
  refine own_of st12 ?_
  have N12 := Fr.snoc X12 N9 (by omega : n0 ≤ x)
  have sz12 : h12.size = h9.size := W12.size
  have O12 : Old Z n0 h12 := O9.wr W12 (by omega)
  have K12 : Keep h0 h12 [x] := K9.wr W12 (Or.inl (List.mem_of_getElem? (i := 0) rfl))
  have Fw12 := f11.same W12
  show own_go p e below s _ _ _ (T12.setTop (mkF m 57 #[.val (.ref x), .val (.ref ar), .val (.int 0), .val (.int 1), .val .null, .val (.ref t5)] []))
  refine own_retV X12 hx hlk hret (hb hby d2_57) (by decide) (by decide) ?_
  rw [e12]
  have hn0 : n0 ≤ t5 := by have := XO0.1 ▸ XO0.2.1; omega
  have f13 : Exa Z h12 x "java/lang/String" := (f10.wr W12)
  have f14 : Fld Z h12 x "java/lang/String" "coder" "B" (.int (nar .byte (1 : Int32))) := (Fw9.other W12 (Or.inr (slot_ne (Or.inr (hW 18 _ rfl)) (Or.inr (hW 17 _ rfl)) (by decide) pf_0 pf_1)))
  have f15 : Arv Z h12 t5 kt5 .byte (2 : Int32) [(.int (StrChars.lo8 c0)), (.int (StrChars.hi8 c0))] (.int 0) := ((Vt5.other W9 (own_ne (by omega))).other W12 (own_ne (by omega)))
  exact ⟨rfl, N12, K12, t5, kt5, f13, Fw12, f14, f15, hn0, by omega⟩
theorem ef_rmW1_1 (m : MethodId) (x0 : Nat) (x1 : Nat) : entryFrame m #[(.ref x0), (.ref x1)] 2 = mkF m 0 #[.val (.ref x0), .val (.ref x1)] [] := by first | (simp [entryFrame, mkF, argsToLocals, Value.category]; done) | rfl
theorem d1_0 : decode jdk_42_method_3_code 0 = .ok (.aload_n 0, 1) := by decide +kernel
theorem d1_1 : decode jdk_42_method_3_code 1 = .ok (.aload_n 1, 1) := by decide +kernel
theorem d1_2 : decode jdk_42_method_3_code 2 = .ok (.iconst 0, 1) := by decide +kernel
theorem d1_3 : decode jdk_42_method_3_code 3 = .ok (.aload_n 1, 1) := by decide +kernel
theorem d1_4 : decode jdk_42_method_3_code 4 = .ok (.arraylength, 1) := by decide +kernel
theorem d1_5 : decode jdk_42_method_3_code 5 = .ok (.aconst_null, 1) := by decide +kernel
theorem d1_6 : decode jdk_42_method_3_code 6 = .ok (.invokespecial 27, 3) := by decide +kernel
theorem pd_7 : parseMethodDescriptor "([CIILjava/lang/Void;)V" = some ⟨[(.array .char), .int, .int, (.object "java/lang/Void")], none⟩ := by decide +kernel
theorem d1_9 : decode jdk_42_method_3_code 9 = .ok (.return_, 1) := by decide +kernel
def Q_rmW1_1 (Z : State) (x : Nat) (ar : Nat) (k : ClassId) (c0 : Int32) (Gc : Int32) (h0 : Heap) (n0 : Nat) (v : Option Value) (h : Heap) (L : List Loc) : Prop := v = none ∧ Fr n0 L ∧ Keep h0 h [x] ∧ ∃ (t : Nat) (kb : ClassId), Exa Z h x "java/lang/String" ∧ Fld Z h x "java/lang/String" "value" "[B" (.ref t) ∧ Fld Z h x "java/lang/String" "coder" "B" (.int 1) ∧ Arv Z h t kb .byte (2 : Int32) [(.int (StrChars.lo8 c0)), (.int (StrChars.hi8 c0))] (.int 0) ∧ n0 ≤ t ∧ t ≠ x
set_option maxRecDepth 65536 in
set_option maxHeartbeats 40000000 in
theorem rmW1_1 (l : Launch) (Z : State) (a0 : Array Value) (hw : own_H Z a0) (ws : List Jvm.Cond) (x : Nat) (ar : Nat) (k : ClassId) (c0 : Int32) (Gc : Int32) (h0 : Heap) (n0 : Nat) (XO0 : Old Z n0 h0) (S_ad : Sta Z Z.heap "java/lang/StringUTF16" "$assertionsDisabled" "Z" (.int 1)) (S_hi : Sta Z Z.heap "java/lang/StringUTF16" "HI_BYTE_SHIFT" "I" (.int 0)) (S_lo : Sta Z Z.heap "java/lang/StringUTF16" "LO_BYTE_SHIFT" "I" (.int 8)) (Oc : Sta Z Z.heap "java/lang/String" "COMPACT_STRINGS" "Z" (.int Gc)) (Pc : ¬ (Gc = (0 : Int32))) (g_x : n0 ≤ x) (E_x : Exa Z h0 x "java/lang/String") (F_v : Fld Z h0 x "java/lang/String" "value" "[B" .null) (F_c : Fld Z h0 x "java/lang/String" "coder" "B" (.int 0)) (V_a : Arv Z h0 ar k .char (1 : Int32) [(.int c0)] (.int 0)) (r0 : own_c16 c0) (hbig : (255 : Int32) < c0) :
    own_M l Z ym12 jdk_42_method_3_code ws 2 none (own_R 5 2 3 74) #[(.ref x), (.ref ar)] h0 (Q_rmW1_1 Z x ar k c0 Gc h0 n0) := by
  refine own_open (plainFor_of_name pn_1) ?_
  intro p e s m below meth c s₁ hx hby hlk hret hml hown hnm hZ X0 e0
  have hW := own_hW hw
  have N0 := Fr.nil n0
  refine own_of (fun tt_ kk_ => castTop (ef_rmW1_1 m x ar) kk_) ?_
  show own_go p e below s _ _ _ (s₁.setTop (mkF m 0 #[.val (.ref x), .val (.ref ar)] []))
  have K0 : Keep h0 h0 [x] := Keep.refl h0 [x]
  have lt_x := own_lt E_x.lt
  refine own_of (fun tt_ => XS.aloadN X0.here hx rfl (hb hby d1_0) rfl rfl) ?_
  refine own_of (fun tt_ => XS.aloadN X0.here hx rfl (hb hby d1_1) rfl rfl) ?_
  refine own_of (fun tt_ => XS.iconst X0.here hx rfl (hb hby d1_2)) ?_
  refine own_of (fun tt_ => XS.aloadN X0.here hx rfl (hb hby d1_3) rfl rfl) ?_
  obtain ⟨cl1, Ar1, q1, S1, Ng1, H1, G1⟩ := id V_a
  refine own_of (fun tt_ kk => X0.arraylength hx (by rw [e0]; exact Ar1.1) (State.isArrayOf_alike hZ.alike Ar1.2.1) (g := (mkF m 4 #[.val (.ref x), .val (.ref ar)] [(.ref ar), (.int 0), (.ref ar), (.ref x)])) rfl rfl (hb hby d1_4) _ (by rw [len_of S1 Ng1]; exact kk)) ?_
  show own_go p e below s _ _ _ (s₁.setTop (mkF m 5 #[.val (.ref x), .val (.ref ar)] [(.int 1), (.int 0), (.ref ar), (.ref x)]))
  refine own_of (fun tt_ => XS.aconstNull X0.here hx rfl (hb hby d1_5)) ?_
  show own_go p e below s _ _ _ (s₁.setTop (mkF m 6 #[.val (.ref x), .val (.ref ar)] [.null, (.int 1), (.int 0), (.ref ar), (.ref x)]))
  obtain ⟨_, _, ⟨T2, L2, k2, n2⟩, -, X2, ⟨Lc2, hQ2, l2, y2, z2⟩, st2⟩ := X0.specialBack hx (y := ym17) rfl hown (mvT hZ (hW 8 _ rfl)) (mvT hZ (hW 9 _ rfl)) (mvT hZ (hW 11 _ rfl)) (by decide) (backOf (W := 0) (rmW4_1 l Z a0 hw [] x ar k c0 Gc h0 n0 XO0 S_ad S_hi S_lo Oc Pc g_x E_x F_v F_c V_a r0 hbig) hZ (hW 11 _ rfl) (hW 3 _ rfl) (by decide) (by decide)) (g := (mkF m 6 #[.val (.ref x), .val (.ref ar)] [.null, (.int 1), (.int 0), (.ref ar), (.ref x)])) rfl (by rw [hml]; rfl) (Steps.refl _) (a := x) (argsL := [(.ref ar), (.int 0), (.int 1), .null]) (rest := []) (lenOf pd_7 rfl) rfl (by show 2 * 0 + _ ≤ _; exact Nat.le_of_eq rfl) (hb hby d1_6) (fun _ _ => ⟨rfl, e0, (by decide : 0 + 2 ≤ _), (by decide : 0 + 3 ≤ _)⟩)
  dsimp only [Pt.U, Pt.locs, Pt.cells, Pt.slots] at X2 l2 y2 z2 st2 hQ2
  subst l2 y2 z2
  obtain ⟨rfl, Nq2, Kp2, Wq2⟩ := hQ2
  have N2 := Fr.app N0 Nq2
  refine own_of (fun tt_ kk_ => st2.trans kk_) ?_
  have sz2 : h0.size ≤ T2.heap.size := Kp2.1
  have O2 : Old Z n0 T2.heap := XO0.keep Kp2 (allS (by omega) all0)
  have K2 : Keep h0 T2.heap [x] := K0.trans Kp2 (allS (Or.inl (List.mem_of_getElem? (i := 0) rfl)) all0)
  show own_go p e below s _ _ _ (T2.setTop (mkF m 9 #[.val (.ref x), .val (.ref ar)] []))
  refine own_retV X2 hx hlk hret (hb hby d1_9) (by decide) (by decide) ?_
  skip
  exact ⟨rfl, N2, K2, Wq2⟩
theorem ef_rmW4_2 (m : MethodId) (x0 : Nat) (x1 : Nat) (x2 : Int32) (x3 : Int32) : entryFrame m #[(.ref x0), (.ref x1), (.int x2), (.int x3), .null] 6 = mkF m 0 #[.val (.ref x0), .val (.ref x1), .val (.int x2), .val (.int x3), .val .null, .unset] [] := by first | (simp [entryFrame, mkF, argsToLocals, Value.category]; done) | rfl
def Q_rmW4_2 (Z : State) (x : Nat) (ar : Nat) (k : ClassId) (c0 : Int32) (c1 : Int32) (Gc : Int32) (h0 : Heap) (n0 : Nat) (v : Option Value) (h : Heap) (L : List Loc) : Prop := v = none ∧ Fr n0 L ∧ Keep h0 h [x] ∧ ∃ (t : Nat) (kb : ClassId), Exa Z h x "java/lang/String" ∧ Fld Z h x "java/lang/String" "value" "[B" (.ref t) ∧ Fld Z h x "java/lang/String" "coder" "B" (.int 1) ∧ Arv Z h t kb .byte (4 : Int32) [(.int (StrChars.lo8 c0)), (.int (StrChars.hi8 c0)), (.int (StrChars.lo8 c1)), (.int (StrChars.hi8 c1))] (.int 0) ∧ n0 ≤ t ∧ t ≠ x
set_option maxRecDepth 65536 in
set_option maxHeartbeats 40000000 in
theorem rmW4_2 (l : Launch) (Z : State) (a0 : Array Value) (hw : own_H Z a0) (ws : List Jvm.Cond) (x : Nat) (ar : Nat) (k : ClassId) (c0 : Int32) (c1 : Int32) (Gc : Int32) (h0 : Heap) (n0 : Nat) (XO0 : Old Z n0 h0) (S_ad : Sta Z Z.heap "java/lang/StringUTF16" "$assertionsDisabled" "Z" (.int 1)) (S_hi : Sta Z Z.heap "java/lang/StringUTF16" "HI_BYTE_SHIFT" "I" (.int 0)) (S_lo : Sta Z Z.heap "java/lang/StringUTF16" "LO_BYTE_SHIFT" "I" (.int 8)) (Oc : Sta Z Z.heap "java/lang/String" "COMPACT_STRINGS" "Z" (.int Gc)) (Pc : ¬ (Gc = (0 : Int32))) (g_x : n0 ≤ x) (E_x : Exa Z h0 x "java/lang/String") (F_v : Fld Z h0 x "java/lang/String" "value" "[B" .null) (F_c : Fld Z h0 x "java/lang/String" "coder" "B" (.int 0)) (V_a : Arv Z h0 ar k .char (2 : Int32) [(.int c0), (.int c1)] (.int 0)) (r0 : own_c16 c0) (r1 : own_c16 c1) (hbig : (255 : Int32) < c0 ∨ (255 : Int32) < c1) :
    own_M l Z ym17 jdk_42_method_149_code ws 6 none (own_R 4 2 6 57) #[(.ref x), (.ref ar), (.int 0), (.int 2), .null] h0 (Q_rmW4_2 Z x ar k c0 c1 Gc h0 n0) := by
  refine own_open (plainFor_of_name pn_1) ?_
  intro p e s m below meth c s₁ hx hby hlk hret hml hown hnm hZ X0 e0
  have hW := own_hW hw
  have N0 := Fr.nil n0
  refine own_of (fun tt_ kk_ => castTop (ef_rmW4_2 m x ar (0 : Int32) (2 : Int32)) kk_) ?_
  show own_go p e below s _ _ _ (s₁.setTop (mkF m 0 #[.val (.ref x), .val (.ref ar), .val (.int 0), .val (.int 2), .val .null, .unset] []))
  have K0 : Keep h0 h0 [x] := Keep.refl h0 [x]
  have lt_x := own_lt E_x.lt
  have lt_ar := own_lt V_a.lt
  refine own_of (fun tt_ => XS.aloadN X0.here hx rfl (hb hby d2_0) rfl rfl) ?_
  obtain ⟨T1, X1, e1, st1⟩ := initO X0 hx hZ hown (hW 12 _ rfl) (hW 13 _ rfl) (hW 14 _ rfl) e0 (g := (mkF m 1 #[.val (.ref x), .val (.ref ar), .val (.int 0), .val (.int 2), .val .null, .unset] [(.ref x)])) rfl (by rw [hml]; rfl) rfl (hb hby d2_1) (by decide) (W := 0) (by show 2 * 0 + _ ≤ _; exact Nat.le_of_eq rfl) (by decide)
  refine own_of st1 ?_
  show own_go p e below s _ _ _ (T1.setTop (mkF m 4 #[.val (.ref x), .val (.ref ar), .val (.int 0), .val (.int 2), .val .null, .unset] []))
  refine own_of (fun tt_ => XS.iloadN X1.here hx rfl (hb hby d2_4) rfl) ?_
  have hb5_2 : ¬ ((2 : Int32) = (0 : Int32)) := by decide
  refine own_of (fun tt_ => XS.ifYes X1.here hx rfl (pc0 := 5) (pc' := 27) rfl (hb hby d2_5) rfl ((if0 _ _).trans (feq hb5_2).2) (by decide) (by decide)) ?_
  show own_go p e below s _ _ _ (T1.setTop (mkF m 27 #[.val (.ref x), .val (.ref ar), .val (.int 0), .val (.int 2), .val .null, .unset] []))
  obtain ⟨T3, X3, e3, st3⟩ := getS2 X1 hx hZ hown (host := "") (Or.inl (hW 32 _ rfl)) Via.refl e1 (Oc.ext XO0.2) (g := (mkF m 27 #[.val (.ref x), .val (.ref ar), .val (.int 0), .val (.int 2), .val .null, .unset] [])) rfl (hb hby d2_27)
  refine own_of st3 ?_
  show own_go p e below s _ _ _ (T3.setTop (mkF m 30 #[.val (.ref x), .val (.ref ar), .val (.int 0), .val (.int 2), .val .null, .unset] [(.int Gc)]))
  have hb30_4 : ¬ (Gc = (0 : Int32)) := Pc
  refine own_of (fun tt_ => XS.ifNo X3.here hx rfl (hb hby d2_30) rfl ((if0 _ _).trans (feq hb30_4).1)) ?_
  show own_go p e below s _ _ _ (T3.setTop (mkF m 33 #[.val (.ref x), .val (.ref ar), .val (.int 0), .val (.int 2), .val .null, .unset] []))
  refine own_of (fun tt_ => XS.aloadN X3.here hx rfl (hb hby d2_33) rfl rfl) ?_
  refine own_of (fun tt_ => XS.iloadN X3.here hx rfl (hb hby d2_34) rfl) ?_
  refine own_of (fun tt_ => XS.iloadN X3.here hx rfl (hb hby d2_35) rfl) ?_
  show own_go p e below s _ _ _ (T3.setTop (mkF m 36 #[.val (.ref x), .val (.ref ar), .val (.int 0), .val (.int 2), .val .null, .unset] [(.int 2), (.int 0), (.ref ar)]))
  obtain ⟨_, _, ⟨T5, L5, k5, n5⟩, -, X5, ⟨Lc5, hQ5, l5, y5, z5⟩, st5⟩ := Jvm.LawKit.callS X3 hx (y := ym11) hown (mvT hZ (hW 33 _ rfl)) (mvT hZ (hW 34 _ rfl)) (mvT hZ (hW 35 _ rfl)) (mvT hZ (hW 36 _ rfl)) (by decide) (backOf (W := 0) (rmK_2 l Z a0 hw [] ar k c0 c1 h0 n0 XO0 S_ad S_hi S_lo V_a r0 r1 hbig) hZ (hW 36 _ rfl) (hW 35 _ rfl) (by decide) (by decide)) (g := (mkF m 36 #[.val (.ref x), .val (.ref ar), .val (.int 0), .val (.int 2), .val .null, .unset] [(.int 2), (.int 0), (.ref ar)])) rfl (by rw [hml]; rfl) (argsL := [(.ref ar), (.int 0), (.int 2)]) (rest := []) (lenOf pd_4 rfl) rfl (by show 2 * 0 + _ ≤ _; exact Nat.le_of_eq rfl) (hb hby d2_36) (fun _ _ => ⟨rfl, e3, (by decide : 0 + 2 ≤ _), (by decide : 0 + 6 ≤ _)⟩)
  dsimp only [Pt.U, Pt.locs, Pt.cells, Pt.slots] at X5 l5 y5 z5 st5 hQ5
  subst l5 y5 z5
  obtain ⟨t5, kt5, rfl, Nq5, Kp5, gt5, Vt5⟩ := hQ5
  have N5 := Fr.app N0 Nq5
  refine own_of st5 ?_
  have sz5 : h0.size ≤ T5.heap.size := Kp5.1
  have O5 : Old Z n0 T5.heap := XO0.keep Kp5 all0
  have K5 : Keep h0 T5.heap [x] := K0.trans Kp5 all0
  have ltt5 := own_lt Vt5.lt
  show own_go p e below s _ _ _ (T5.setTop (mkF m 39 #[.val (.ref x), .val (.ref ar), .val (.int 0), .val (.int 2), .val .null, .unset] [(.ref t5)]))
  refine own_of (fun tt_ => XS.astore X5.here hx rfl (hb hby d2_39) rfl rfl (l' := #[.val (.ref x), .val (.ref ar), .val (.int 0), .val (.int 2), .val .null, .val (.ref t5)]) rfl) ?_
  refine own_of (fun tt_ => XS.aloadN X5.here hx rfl (hb hby d2_41) rfl rfl) ?_
  refine own_of (fun tt_ => XS.aload X5.here hx rfl (hb hby d2_42) rfl rfl) ?_
  refine own_of (fun tt_ => XS.iloadN X5.here hx rfl (hb hby d2_44) rfl) ?_
  show own_go p e below s _ _ _ (T5.setTop (mkF m 45 #[.val (.ref x), .val (.ref ar), .val (.int 0), .val (.int 2), .val .null, .val (.ref t5)] [(.int 2), (.ref t5), (.ref x)]))
  obtain ⟨_, _, ⟨T6, L6, k6, n6⟩, -, X6, ⟨Lc6, hQ6, l6, y6, z6⟩, st6⟩ := Jvm.LawKit.callS X5 hx (y := ym21) hown (mvT hZ (hW 40 _ rfl)) (mvT hZ (hW 41 _ rfl)) (mvT hZ (hW 35 _ rfl)) (mvT hZ (hW 42 _ rfl)) (by decide) (backOf (W := 1) (rmD_2 l Z a0 hw [] t5 kt5 [(.int (StrChars.lo8 c0)), (.int (StrChars.hi8 c0)), (.int (StrChars.lo8 c1)), (.int (StrChars.hi8 c1))] T5.heap n0 O5 Vt5) hZ (hW 42 _ rfl) (hW 35 _ rfl) (by decide) (by decide)) (g := (mkF m 45 #[.val (.ref x), .val (.ref ar), .val (.int 0), .val (.int 2), .val .null, .val (.ref t5)] [(.int 2), (.ref t5), (.ref x)])) rfl (by rw [hml]; rfl) (argsL := [(.ref t5), (.int 2)]) (rest := [(.ref x)]) (lenOf pd_6 rfl) rfl (by show 2 * 0 + _ ≤ _; exact Nat.le_of_eq rfl) (hb hby d2_45) (fun _ _ => ⟨rfl, rfl, (by decide : 2 + 0 ≤ _), (by decide : 6 + 0 ≤ _)⟩)
  dsimp only [Pt.U, Pt.locs, Pt.cells, Pt.slots] at X6 l6 y6 z6 st6 hQ6
  subst l6 y6 z6
  obtain ⟨rfl, Nq6, eh6⟩ := hQ6
  have N6 := Fr.app N5 Nq6
  refine own_of st6 ?_
  show own_go p e below s _ _ _ (T6.setTop (mkF m 48 #[.val (.ref x), .val (.ref ar), .val (.int 0), .val (.int 2), .val .null, .val (.ref t5)] [(.int 1), (.ref x)]))
  have f7 : Exa Z T5.heap x "java/lang/String" := (E_x.keep Kp5)
  have f8 : Fld Z T5.heap x "java/lang/String" "coder" "B" (.int 0) := (F_c.keep Kp5 nin0)
  obtain ⟨T9, h9, X9, e9, W9, st9⟩ := putFN X6 hx hZ hown (hW 22 _ rfl) Via.refl eh6 f8 f7 (Or.inr ⟨(hW 18 _ rfl), rfl, hnm⟩) (hW 2 _ rfl) (ty := .byte) (v' := .int (nar .byte (1 : Int32))) pf_0 rfl (fits_nar_byte _) (g := (mkF m 48 #[.val (.ref x), .val (.ref ar), .val (.int 0), .val (.int 2), .val .null, .val (.ref t5)] [(.int 1), (.ref x)])) rfl rfl (hb hby d2_48)
  refine own_of st9 ?_
  have N9 := Fr.snoc X9 N6 (by omega : n0 ≤ x)
  have sz9 : h9.size = T5.heap.size := W9.size
  have O9 : Old Z n0 h9 := O5.wr W9 (by omega)
  have K9 : Keep h0 h9 [x] := K5.wr W9 (Or.inl (List.mem_of_getElem? (i := 0) rfl))
  have Fw9 := f8.same W9
  show own_go p e below s _ _ _ (T9.setTop (mkF m 51 #[.val (.ref x), .val (.ref ar), .val (.int 0), .val (.int 2), .val .null, .val (.ref t5)] []))
  refine own_of (fun tt_ => XS.aloadN X9.here hx rfl (hb hby d2_51) rfl rfl) ?_
  refine own_of (fun tt_ => XS.aload X9.here hx rfl (hb hby d2_52) rfl rfl) ?_
  have f10 : Exa Z h9 x "java/lang/String" := (f7.wr W9)
  have f11 : Fld Z h9 x "java/lang/String" "value" "[B" .null := ((F_v.keep Kp5 nin0).other W9 (Or.inr (slot_ne (Or.inr (hW 17 _ rfl)) (Or.inr (hW 18 _ rfl)) (by decide) pf_1 pf_0)))
  obtain ⟨T12, h12, X12, e12, W12, st12⟩ := putF X9 hx hZ hown (host := "") (Or.inl (hW 21 _ rfl)) Via.refl e9 f11 f10 (Or.inr ⟨(hW 17 _ rfl), rfl, hnm⟩) (hW 2 _ rfl) (ty := (.array .byte)) pf_1 rfl rfl (g := (mkF m 54 #[.val (.ref x), .val (.ref ar), .val (.int 0), .val (.int 2), .val .null, .val (.ref t5)] [(.ref t5), (.ref x)])) rfl rfl (hb hby d2_54)
  refine own_of st12 ?_
  have N12 := Fr.snoc X12 N9 (by omega : n0 ≤ x)
  have sz12 : h12.size = h9.size := W12.size
  have O12 : Old Z n0 h12 := O9.wr W12 (by omega)
  have K12 : Keep h0 h12 [x] := K9.wr W12 (Or.inl (List.mem_of_getElem? (i := 0) rfl))
  have Fw12 := f11.same W12
  show own_go p e below s _ _ _ (T12.setTop (mkF m 57 #[.val (.ref x), .val (.ref ar), .val (.int 0), .val (.int 2), .val .null, .val (.ref t5)] []))
  refine own_retV X12 hx hlk hret (hb hby d2_57) (by decide) (by decide) ?_
  rw [e12]
  have hn0 : n0 ≤ t5 := by have := XO0.1 ▸ XO0.2.1; omega
  have f13 : Exa Z h12 x "java/lang/String" := (f10.wr W12)
  have f14 : Fld Z h12 x "java/lang/String" "coder" "B" (.int (nar .byte (1 : Int32))) := (Fw9.other W12 (Or.inr (slot_ne (Or.inr (hW 18 _ rfl)) (Or.inr (hW 17 _ rfl)) (by decide) pf_0 pf_1)))
  have f15 : Arv Z h12 t5 kt5 .byte (4 : Int32) [(.int (StrChars.lo8 c0)), (.int (StrChars.hi8 c0)), (.int (StrChars.lo8 c1)), (.int (StrChars.hi8 c1))] (.int 0) := ((Vt5.other W9 (own_ne (by omega))).other W12 (own_ne (by omega)))
  exact ⟨rfl, N12, K12, t5, kt5, f13, Fw12, f14, f15, hn0, by omega⟩
theorem ef_rmW1_2 (m : MethodId) (x0 : Nat) (x1 : Nat) : entryFrame m #[(.ref x0), (.ref x1)] 2 = mkF m 0 #[.val (.ref x0), .val (.ref x1)] [] := by first | (simp [entryFrame, mkF, argsToLocals, Value.category]; done) | rfl
def Q_rmW1_2 (Z : State) (x : Nat) (ar : Nat) (k : ClassId) (c0 : Int32) (c1 : Int32) (Gc : Int32) (h0 : Heap) (n0 : Nat) (v : Option Value) (h : Heap) (L : List Loc) : Prop := v = none ∧ Fr n0 L ∧ Keep h0 h [x] ∧ ∃ (t : Nat) (kb : ClassId), Exa Z h x "java/lang/String" ∧ Fld Z h x "java/lang/String" "value" "[B" (.ref t) ∧ Fld Z h x "java/lang/String" "coder" "B" (.int 1) ∧ Arv Z h t kb .byte (4 : Int32) [(.int (StrChars.lo8 c0)), (.int (StrChars.hi8 c0)), (.int (StrChars.lo8 c1)), (.int (StrChars.hi8 c1))] (.int 0) ∧ n0 ≤ t ∧ t ≠ x
set_option maxRecDepth 65536 in
set_option maxHeartbeats 40000000 in
theorem rmW1_2 (l : Launch) (Z : State) (a0 : Array Value) (hw : own_H Z a0) (ws : List Jvm.Cond) (x : Nat) (ar : Nat) (k : ClassId) (c0 : Int32) (c1 : Int32) (Gc : Int32) (h0 : Heap) (n0 : Nat) (XO0 : Old Z n0 h0) (S_ad : Sta Z Z.heap "java/lang/StringUTF16" "$assertionsDisabled" "Z" (.int 1)) (S_hi : Sta Z Z.heap "java/lang/StringUTF16" "HI_BYTE_SHIFT" "I" (.int 0)) (S_lo : Sta Z Z.heap "java/lang/StringUTF16" "LO_BYTE_SHIFT" "I" (.int 8)) (Oc : Sta Z Z.heap "java/lang/String" "COMPACT_STRINGS" "Z" (.int Gc)) (Pc : ¬ (Gc = (0 : Int32))) (g_x : n0 ≤ x) (E_x : Exa Z h0 x "java/lang/String") (F_v : Fld Z h0 x "java/lang/String" "value" "[B" .null) (F_c : Fld Z h0 x "java/lang/String" "coder" "B" (.int 0)) (V_a : Arv Z h0 ar k .char (2 : Int32) [(.int c0), (.int c1)] (.int 0)) (r0 : own_c16 c0) (r1 : own_c16 c1) (hbig : (255 : Int32) < c0 ∨ (255 : Int32) < c1) :
    own_M l Z ym12 jdk_42_method_3_code ws 2 none (own_R 5 2 6 74) #[(.ref x), (.ref ar)] h0 (Q_rmW1_2 Z x ar k c0 c1 Gc h0 n0) := by
  refine own_open (plainFor_of_name pn_1) ?_
  intro p e s m below meth c s₁ hx hby hlk hret hml hown hnm hZ X0 e0
  have hW := own_hW hw
  have N0 := Fr.nil n0
  refine own_of (fun tt_ kk_ => castTop (ef_rmW1_2 m x ar) kk_) ?_
  show own_go p e below s _ _ _ (s₁.setTop (mkF m 0 #[.val (.ref x), .val (.ref ar)] []))
  have K0 : Keep h0 h0 [x] := Keep.refl h0 [x]
  have lt_x := own_lt E_x.lt
  refine own_of (fun tt_ => XS.aloadN X0.here hx rfl (hb hby d1_0) rfl rfl) ?_
  refine own_of (fun tt_ => XS.aloadN X0.here hx rfl (hb hby d1_1) rfl rfl) ?_
  refine own_of (fun tt_ => XS.iconst X0.here hx rfl (hb hby d1_2)) ?_
  refine own_of (fun tt_ => XS.aloadN X0.here hx rfl (hb hby d1_3) rfl rfl) ?_
  obtain ⟨cl1, Ar1, q1, S1, Ng1, H1, G1⟩ := id V_a
  refine own_of (fun tt_ kk => X0.arraylength hx (by rw [e0]; exact Ar1.1) (State.isArrayOf_alike hZ.alike Ar1.2.1) (g := (mkF m 4 #[.val (.ref x), .val (.ref ar)] [(.ref ar), (.int 0), (.ref ar), (.ref x)])) rfl rfl (hb hby d1_4) _ (by rw [len_of S1 Ng1]; exact kk)) ?_
  show own_go p e below s _ _ _ (s₁.setTop (mkF m 5 #[.val (.ref x), .val (.ref ar)] [(.int 2), (.int 0), (.ref ar), (.ref x)]))
  refine own_of (fun tt_ => XS.aconstNull X0.here hx rfl (hb hby d1_5)) ?_
  show own_go p e below s _ _ _ (s₁.setTop (mkF m 6 #[.val (.ref x), .val (.ref ar)] [.null, (.int 2), (.int 0), (.ref ar), (.ref x)]))
  obtain ⟨_, _, ⟨T2, L2, k2, n2⟩, -, X2, ⟨Lc2, hQ2, l2, y2, z2⟩, st2⟩ := X0.specialBack hx (y := ym17) rfl hown (mvT hZ (hW 8 _ rfl)) (mvT hZ (hW 9 _ rfl)) (mvT hZ (hW 11 _ rfl)) (by decide) (backOf (W := 0) (rmW4_2 l Z a0 hw [] x ar k c0 c1 Gc h0 n0 XO0 S_ad S_hi S_lo Oc Pc g_x E_x F_v F_c V_a r0 r1 hbig) hZ (hW 11 _ rfl) (hW 3 _ rfl) (by decide) (by decide)) (g := (mkF m 6 #[.val (.ref x), .val (.ref ar)] [.null, (.int 2), (.int 0), (.ref ar), (.ref x)])) rfl (by rw [hml]; rfl) (Steps.refl _) (a := x) (argsL := [(.ref ar), (.int 0), (.int 2), .null]) (rest := []) (lenOf pd_7 rfl) rfl (by show 2 * 0 + _ ≤ _; exact Nat.le_of_eq rfl) (hb hby d1_6) (fun _ _ => ⟨rfl, e0, (by decide : 0 + 2 ≤ _), (by decide : 0 + 6 ≤ _)⟩)
  dsimp only [Pt.U, Pt.locs, Pt.cells, Pt.slots] at X2 l2 y2 z2 st2 hQ2
  subst l2 y2 z2
  obtain ⟨rfl, Nq2, Kp2, Wq2⟩ := hQ2
  have N2 := Fr.app N0 Nq2
  refine own_of (fun tt_ kk_ => st2.trans kk_) ?_
  have sz2 : h0.size ≤ T2.heap.size := Kp2.1
  have O2 : Old Z n0 T2.heap := XO0.keep Kp2 (allS (by omega) all0)
  have K2 : Keep h0 T2.heap [x] := K0.trans Kp2 (allS (Or.inl (List.mem_of_getElem? (i := 0) rfl)) all0)
  show own_go p e below s _ _ _ (T2.setTop (mkF m 9 #[.val (.ref x), .val (.ref ar)] []))
  refine own_retV X2 hx hlk hret (hb hby d1_9) (by decide) (by decide) ?_
  skip
  exact ⟨rfl, N2, K2, Wq2⟩
theorem ef_rmW4_3 (m : MethodId) (x0 : Nat) (x1 : Nat) (x2 : Int32) (x3 : Int32) : entryFrame m #[(.ref x0), (.ref x1), (.int x2), (.int x3), .null] 6 = mkF m 0 #[.val (.ref x0), .val (.ref x1), .val (.int x2), .val (.int x3), .val .null, .unset] [] := by first | (simp [entryFrame, mkF, argsToLocals, Value.category]; done) | rfl
def Q_rmW4_3 (Z : State) (x : Nat) (ar : Nat) (k : ClassId) (c0 : Int32) (c1 : Int32) (c2 : Int32) (Gc : Int32) (h0 : Heap) (n0 : Nat) (v : Option Value) (h : Heap) (L : List Loc) : Prop := v = none ∧ Fr n0 L ∧ Keep h0 h [x] ∧ ∃ (t : Nat) (kb : ClassId), Exa Z h x "java/lang/String" ∧ Fld Z h x "java/lang/String" "value" "[B" (.ref t) ∧ Fld Z h x "java/lang/String" "coder" "B" (.int 1) ∧ Arv Z h t kb .byte (6 : Int32) [(.int (StrChars.lo8 c0)), (.int (StrChars.hi8 c0)), (.int (StrChars.lo8 c1)), (.int (StrChars.hi8 c1)), (.int (StrChars.lo8 c2)), (.int (StrChars.hi8 c2))] (.int 0) ∧ n0 ≤ t ∧ t ≠ x
set_option maxRecDepth 65536 in
set_option maxHeartbeats 40000000 in
theorem rmW4_3 (l : Launch) (Z : State) (a0 : Array Value) (hw : own_H Z a0) (ws : List Jvm.Cond) (x : Nat) (ar : Nat) (k : ClassId) (c0 : Int32) (c1 : Int32) (c2 : Int32) (Gc : Int32) (h0 : Heap) (n0 : Nat) (XO0 : Old Z n0 h0) (S_ad : Sta Z Z.heap "java/lang/StringUTF16" "$assertionsDisabled" "Z" (.int 1)) (S_hi : Sta Z Z.heap "java/lang/StringUTF16" "HI_BYTE_SHIFT" "I" (.int 0)) (S_lo : Sta Z Z.heap "java/lang/StringUTF16" "LO_BYTE_SHIFT" "I" (.int 8)) (Oc : Sta Z Z.heap "java/lang/String" "COMPACT_STRINGS" "Z" (.int Gc)) (Pc : ¬ (Gc = (0 : Int32))) (g_x : n0 ≤ x) (E_x : Exa Z h0 x "java/lang/String") (F_v : Fld Z h0 x "java/lang/String" "value" "[B" .null) (F_c : Fld Z h0 x "java/lang/String" "coder" "B" (.int 0)) (V_a : Arv Z h0 ar k .char (3 : Int32) [(.int c0), (.int c1), (.int c2)] (.int 0)) (r0 : own_c16 c0) (r1 : own_c16 c1) (r2 : own_c16 c2) (hbig : (255 : Int32) < c0 ∨ (255 : Int32) < c1 ∨ (255 : Int32) < c2) :
    own_M l Z ym17 jdk_42_method_149_code ws 6 none (own_R 4 2 9 57) #[(.ref x), (.ref ar), (.int 0), (.int 3), .null] h0 (Q_rmW4_3 Z x ar k c0 c1 c2 Gc h0 n0) := by
  refine own_open (plainFor_of_name pn_1) ?_
  intro p e s m below meth c s₁ hx hby hlk hret hml hown hnm hZ X0 e0
  have hW := own_hW hw
  have N0 := Fr.nil n0
  refine own_of (fun tt_ kk_ => castTop (ef_rmW4_3 m x ar (0 : Int32) (3 : Int32)) kk_) ?_
  show own_go p e below s _ _ _ (s₁.setTop (mkF m 0 #[.val (.ref x), .val (.ref ar), .val (.int 0), .val (.int 3), .val .null, .unset] []))
  have K0 : Keep h0 h0 [x] := Keep.refl h0 [x]
  have lt_x := own_lt E_x.lt
  have lt_ar := own_lt V_a.lt
  refine own_of (fun tt_ => XS.aloadN X0.here hx rfl (hb hby d2_0) rfl rfl) ?_
  obtain ⟨T1, X1, e1, st1⟩ := initO X0 hx hZ hown (hW 12 _ rfl) (hW 13 _ rfl) (hW 14 _ rfl) e0 (g := (mkF m 1 #[.val (.ref x), .val (.ref ar), .val (.int 0), .val (.int 3), .val .null, .unset] [(.ref x)])) rfl (by rw [hml]; rfl) rfl (hb hby d2_1) (by decide) (W := 0) (by show 2 * 0 + _ ≤ _; exact Nat.le_of_eq rfl) (by decide)
  refine own_of st1 ?_
  show own_go p e below s _ _ _ (T1.setTop (mkF m 4 #[.val (.ref x), .val (.ref ar), .val (.int 0), .val (.int 3), .val .null, .unset] []))
  refine own_of (fun tt_ => XS.iloadN X1.here hx rfl (hb hby d2_4) rfl) ?_
  have hb5_2 : ¬ ((3 : Int32) = (0 : Int32)) := by decide
  refine own_of (fun tt_ => XS.ifYes X1.here hx rfl (pc0 := 5) (pc' := 27) rfl (hb hby d2_5) rfl ((if0 _ _).trans (feq hb5_2).2) (by decide) (by decide)) ?_
  show own_go p e below s _ _ _ (T1.setTop (mkF m 27 #[.val (.ref x), .val (.ref ar), .val (.int 0), .val (.int 3), .val .null, .unset] []))
  obtain ⟨T3, X3, e3, st3⟩ := getS2 X1 hx hZ hown (host := "") (Or.inl (hW 32 _ rfl)) Via.refl e1 (Oc.ext XO0.2) (g := (mkF m 27 #[.val (.ref x), .val (.ref ar), .val (.int 0), .val (.int 3), .val .null, .unset] [])) rfl (hb hby d2_27)
  refine own_of st3 ?_
  show own_go p e below s _ _ _ (T3.setTop (mkF m 30 #[.val (.ref x), .val (.ref ar), .val (.int 0), .val (.int 3), .val .null, .unset] [(.int Gc)]))
  have hb30_4 : ¬ (Gc = (0 : Int32)) := Pc
  refine own_of (fun tt_ => XS.ifNo X3.here hx rfl (hb hby d2_30) rfl ((if0 _ _).trans (feq hb30_4).1)) ?_
  show own_go p e below s _ _ _ (T3.setTop (mkF m 33 #[.val (.ref x), .val (.ref ar), .val (.int 0), .val (.int 3), .val .null, .unset] []))
  refine own_of (fun tt_ => XS.aloadN X3.here hx rfl (hb hby d2_33) rfl rfl) ?_
  refine own_of (fun tt_ => XS.iloadN X3.here hx rfl (hb hby d2_34) rfl) ?_
  refine own_of (fun tt_ => XS.iloadN X3.here hx rfl (hb hby d2_35) rfl) ?_
  show own_go p e below s _ _ _ (T3.setTop (mkF m 36 #[.val (.ref x), .val (.ref ar), .val (.int 0), .val (.int 3), .val .null, .unset] [(.int 3), (.int 0), (.ref ar)]))
  obtain ⟨_, _, ⟨T5, L5, k5, n5⟩, -, X5, ⟨Lc5, hQ5, l5, y5, z5⟩, st5⟩ := Jvm.LawKit.callS X3 hx (y := ym11) hown (mvT hZ (hW 33 _ rfl)) (mvT hZ (hW 34 _ rfl)) (mvT hZ (hW 35 _ rfl)) (mvT hZ (hW 36 _ rfl)) (by decide) (backOf (W := 0) (rmK_3 l Z a0 hw [] ar k c0 c1 c2 h0 n0 XO0 S_ad S_hi S_lo V_a r0 r1 r2 hbig) hZ (hW 36 _ rfl) (hW 35 _ rfl) (by decide) (by decide)) (g := (mkF m 36 #[.val (.ref x), .val (.ref ar), .val (.int 0), .val (.int 3), .val .null, .unset] [(.int 3), (.int 0), (.ref ar)])) rfl (by rw [hml]; rfl) (argsL := [(.ref ar), (.int 0), (.int 3)]) (rest := []) (lenOf pd_4 rfl) rfl (by show 2 * 0 + _ ≤ _; exact Nat.le_of_eq rfl) (hb hby d2_36) (fun _ _ => ⟨rfl, e3, (by decide : 0 + 2 ≤ _), (by decide : 0 + 9 ≤ _)⟩)
  dsimp only [Pt.U, Pt.locs, Pt.cells, Pt.slots] at X5 l5 y5 z5 st5 hQ5
  subst l5 y5 z5
  obtain ⟨t5, kt5, rfl, Nq5, Kp5, gt5, Vt5⟩ := hQ5
  have N5 := Fr.app N0 Nq5
  refine own_of st5 ?_
  have sz5 : h0.size ≤ T5.heap.size := Kp5.1
  have O5 : Old Z n0 T5.heap := XO0.keep Kp5 all0
  have K5 : Keep h0 T5.heap [x] := K0.trans Kp5 all0
  have ltt5 := own_lt Vt5.lt
  show own_go p e below s _ _ _ (T5.setTop (mkF m 39 #[.val (.ref x), .val (.ref ar), .val (.int 0), .val (.int 3), .val .null, .unset] [(.ref t5)]))
  refine own_of (fun tt_ => XS.astore X5.here hx rfl (hb hby d2_39) rfl rfl (l' := #[.val (.ref x), .val (.ref ar), .val (.int 0), .val (.int 3), .val .null, .val (.ref t5)]) rfl) ?_
  refine own_of (fun tt_ => XS.aloadN X5.here hx rfl (hb hby d2_41) rfl rfl) ?_
  refine own_of (fun tt_ => XS.aload X5.here hx rfl (hb hby d2_42) rfl rfl) ?_
  refine own_of (fun tt_ => XS.iloadN X5.here hx rfl (hb hby d2_44) rfl) ?_
  show own_go p e below s _ _ _ (T5.setTop (mkF m 45 #[.val (.ref x), .val (.ref ar), .val (.int 0), .val (.int 3), .val .null, .val (.ref t5)] [(.int 3), (.ref t5), (.ref x)]))
  obtain ⟨_, _, ⟨T6, L6, k6, n6⟩, -, X6, ⟨Lc6, hQ6, l6, y6, z6⟩, st6⟩ := Jvm.LawKit.callS X5 hx (y := ym21) hown (mvT hZ (hW 40 _ rfl)) (mvT hZ (hW 41 _ rfl)) (mvT hZ (hW 35 _ rfl)) (mvT hZ (hW 42 _ rfl)) (by decide) (backOf (W := 1) (rmD_3 l Z a0 hw [] t5 kt5 [(.int (StrChars.lo8 c0)), (.int (StrChars.hi8 c0)), (.int (StrChars.lo8 c1)), (.int (StrChars.hi8 c1)), (.int (StrChars.lo8 c2)), (.int (StrChars.hi8 c2))] T5.heap n0 O5 Vt5) hZ (hW 42 _ rfl) (hW 35 _ rfl) (by decide) (by decide)) (g := (mkF m 45 #[.val (.ref x), .val (.ref ar), .val (.int 0), .val (.int 3), .val .null, .val (.ref t5)] [(.int 3), (.ref t5), (.ref x)])) rfl (by rw [hml]; rfl) (argsL := [(.ref t5), (.int 3)]) (rest := [(.ref x)]) (lenOf pd_6 rfl) rfl (by show 2 * 0 + _ ≤ _; exact Nat.le_of_eq rfl) (hb hby d2_45) (fun _ _ => ⟨rfl, rfl, (by decide : 2 + 0 ≤ _), (by decide : 9 + 0 ≤ _)⟩)
  dsimp only [Pt.U, Pt.locs, Pt.cells, Pt.slots] at X6 l6 y6 z6 st6 hQ6
  subst l6 y6 z6
  obtain ⟨rfl, Nq6, eh6⟩ := hQ6
  have N6 := Fr.app N5 Nq6
  refine own_of st6 ?_
  show own_go p e below s _ _ _ (T6.setTop (mkF m 48 #[.val (.ref x), .val (.ref ar), .val (.int 0), .val (.int 3), .val .null, .val (.ref t5)] [(.int 1), (.ref x)]))
  have f7 : Exa Z T5.heap x "java/lang/String" := (E_x.keep Kp5)
  have f8 : Fld Z T5.heap x "java/lang/String" "coder" "B" (.int 0) := (F_c.keep Kp5 nin0)
  obtain ⟨T9, h9, X9, e9, W9, st9⟩ := putFN X6 hx hZ hown (hW 22 _ rfl) Via.refl eh6 f8 f7 (Or.inr ⟨(hW 18 _ rfl), rfl, hnm⟩) (hW 2 _ rfl) (ty := .byte) (v' := .int (nar .byte (1 : Int32))) pf_0 rfl (fits_nar_byte _) (g := (mkF m 48 #[.val (.ref x), .val (.ref ar), .val (.int 0), .val (.int 3), .val .null, .val (.ref t5)] [(.int 1), (.ref x)])) rfl rfl (hb hby d2_48)
  refine own_of st9 ?_
  have N9 := Fr.snoc X9 N6 (by omega : n0 ≤ x)
  have sz9 : h9.size = T5.heap.size := W9.size
  have O9 : Old Z n0 h9 := O5.wr W9 (by omega)
  have K9 : Keep h0 h9 [x] := K5.wr W9 (Or.inl (List.mem_of_getElem? (i := 0) rfl))
  have Fw9 := f8.same W9
  show own_go p e below s _ _ _ (T9.setTop (mkF m 51 #[.val (.ref x), .val (.ref ar), .val (.int 0), .val (.int 3), .val .null, .val (.ref t5)] []))
  refine own_of (fun tt_ => XS.aloadN X9.here hx rfl (hb hby d2_51) rfl rfl) ?_
  refine own_of (fun tt_ => XS.aload X9.here hx rfl (hb hby d2_52) rfl rfl) ?_
  have f10 : Exa Z h9 x "java/lang/String" := (f7.wr W9)
  have f11 : Fld Z h9 x "java/lang/String" "value" "[B" .null := ((F_v.keep Kp5 nin0).other W9 (Or.inr (slot_ne (Or.inr (hW 17 _ rfl)) (Or.inr (hW 18 _ rfl)) (by decide) pf_1 pf_0)))
  obtain ⟨T12, h12, X12, e12, W12, st12⟩ := putF X9 hx hZ hown (host := "") (Or.inl (hW 21 _ rfl)) Via.refl e9 f11 f10 (Or.inr ⟨(hW 17 _ rfl), rfl, hnm⟩) (hW 2 _ rfl) (ty := (.array .byte)) pf_1 rfl rfl (g := (mkF m 54 #[.val (.ref x), .val (.ref ar), .val (.int 0), .val (.int 3), .val .null, .val (.ref t5)] [(.ref t5), (.ref x)])) rfl rfl (hb hby d2_54)
  refine own_of st12 ?_
  have N12 := Fr.snoc X12 N9 (by omega : n0 ≤ x)
  have sz12 : h12.size = h9.size := W12.size
  have O12 : Old Z n0 h12 := O9.wr W12 (by omega)
  have K12 : Keep h0 h12 [x] := K9.wr W12 (Or.inl (List.mem_of_getElem? (i := 0) rfl))
  have Fw12 := f11.same W12
  show own_go p e below s _ _ _ (T12.setTop (mkF m 57 #[.val (.ref x), .val (.ref ar), .val (.int 0), .val (.int 3), .val .null, .val (.ref t5)] []))
  refine own_retV X12 hx hlk hret (hb hby d2_57) (by decide) (by decide) ?_
  rw [e12]
  have hn0 : n0 ≤ t5 := by have := XO0.1 ▸ XO0.2.1; omega
  have f13 : Exa Z h12 x "java/lang/String" := (f10.wr W12)
  have f14 : Fld Z h12 x "java/lang/String" "coder" "B" (.int (nar .byte (1 : Int32))) := (Fw9.other W12 (Or.inr (slot_ne (Or.inr (hW 18 _ rfl)) (Or.inr (hW 17 _ rfl)) (by decide) pf_0 pf_1)))
  have f15 : Arv Z h12 t5 kt5 .byte (6 : Int32) [(.int (StrChars.lo8 c0)), (.int (StrChars.hi8 c0)), (.int (StrChars.lo8 c1)), (.int (StrChars.hi8 c1)), (.int (StrChars.lo8 c2)), (.int (StrChars.hi8 c2))] (.int 0) := ((Vt5.other W9 (own_ne (by omega))).other W12 (own_ne (by omega)))
  exact ⟨rfl, N12, K12, t5, kt5, f13, Fw12, f14, f15, hn0, by omega⟩
theorem ef_rmW1_3 (m : MethodId) (x0 : Nat) (x1 : Nat) : entryFrame m #[(.ref x0), (.ref x1)] 2 = mkF m 0 #[.val (.ref x0), .val (.ref x1)] [] := by first | (simp [entryFrame, mkF, argsToLocals, Value.category]; done) | rfl
def Q_rmW1_3 (Z : State) (x : Nat) (ar : Nat) (k : ClassId) (c0 : Int32) (c1 : Int32) (c2 : Int32) (Gc : Int32) (h0 : Heap) (n0 : Nat) (v : Option Value) (h : Heap) (L : List Loc) : Prop := v = none ∧ Fr n0 L ∧ Keep h0 h [x] ∧ ∃ (t : Nat) (kb : ClassId), Exa Z h x "java/lang/String" ∧ Fld Z h x "java/lang/String" "value" "[B" (.ref t) ∧ Fld Z h x "java/lang/String" "coder" "B" (.int 1) ∧ Arv Z h t kb .byte (6 : Int32) [(.int (StrChars.lo8 c0)), (.int (StrChars.hi8 c0)), (.int (StrChars.lo8 c1)), (.int (StrChars.hi8 c1)), (.int (StrChars.lo8 c2)), (.int (StrChars.hi8 c2))] (.int 0) ∧ n0 ≤ t ∧ t ≠ x
set_option maxRecDepth 65536 in
set_option maxHeartbeats 40000000 in
theorem rmW1_3 (l : Launch) (Z : State) (a0 : Array Value) (hw : own_H Z a0) (ws : List Jvm.Cond) (x : Nat) (ar : Nat) (k : ClassId) (c0 : Int32) (c1 : Int32) (c2 : Int32) (Gc : Int32) (h0 : Heap) (n0 : Nat) (XO0 : Old Z n0 h0) (S_ad : Sta Z Z.heap "java/lang/StringUTF16" "$assertionsDisabled" "Z" (.int 1)) (S_hi : Sta Z Z.heap "java/lang/StringUTF16" "HI_BYTE_SHIFT" "I" (.int 0)) (S_lo : Sta Z Z.heap "java/lang/StringUTF16" "LO_BYTE_SHIFT" "I" (.int 8)) (Oc : Sta Z Z.heap "java/lang/String" "COMPACT_STRINGS" "Z" (.int Gc)) (Pc : ¬ (Gc = (0 : Int32))) (g_x : n0 ≤ x) (E_x : Exa Z h0 x "java/lang/String") (F_v : Fld Z h0 x "java/lang/String" "value" "[B" .null) (F_c : Fld Z h0 x "java/lang/String" "coder" "B" (.int 0)) (V_a : Arv Z h0 ar k .char (3 : Int32) [(.int c0), (.int c1), (.int c2)] (.int 0)) (r0 : own_c16 c0) (r1 : own_c16 c1) (r2 : own_c16 c2) (hbig : (255 : Int32) < c0 ∨ (255 : Int32) < c1 ∨ (255 : Int32) < c2) :
    own_M l Z ym12 jdk_42_method_3_code ws 2 none (own_R 5 2 9 74) #[(.ref x), (.ref ar)] h0 (Q_rmW1_3 Z x ar k c0 c1 c2 Gc h0 n0) := by
  refine own_open (plainFor_of_name pn_1) ?_
  intro p e s m below meth c s₁ hx hby hlk hret hml hown hnm hZ X0 e0
  have hW := own_hW hw
  have N0 := Fr.nil n0
  refine own_of (fun tt_ kk_ => castTop (ef_rmW1_3 m x ar) kk_) ?_
  show own_go p e below s _ _ _ (s₁.setTop (mkF m 0 #[.val (.ref x), .val (.ref ar)] []))
  have K0 : Keep h0 h0 [x] := Keep.refl h0 [x]
  have lt_x := own_lt E_x.lt
  refine own_of (fun tt_ => XS.aloadN X0.here hx rfl (hb hby d1_0) rfl rfl) ?_
  refine own_of (fun tt_ => XS.aloadN X0.here hx rfl (hb hby d1_1) rfl rfl) ?_
  refine own_of (fun tt_ => XS.iconst X0.here hx rfl (hb hby d1_2)) ?_
  refine own_of (fun tt_ => XS.aloadN X0.here hx rfl (hb hby d1_3) rfl rfl) ?_
  obtain ⟨cl1, Ar1, q1, S1, Ng1, H1, G1⟩ := id V_a
  refine own_of (fun tt_ kk => X0.arraylength hx (by rw [e0]; exact Ar1.1) (State.isArrayOf_alike hZ.alike Ar1.2.1) (g := (mkF m 4 #[.val (.ref x), .val (.ref ar)] [(.ref ar), (.int 0), (.ref ar), (.ref x)])) rfl rfl (hb hby d1_4) _ (by rw [len_of S1 Ng1]; exact kk)) ?_
  show own_go p e below s _ _ _ (s₁.setTop (mkF m 5 #[.val (.ref x), .val (.ref ar)] [(.int 3), (.int 0), (.ref ar), (.ref x)]))
  refine own_of (fun tt_ => XS.aconstNull X0.here hx rfl (hb hby d1_5)) ?_
  show own_go p e below s _ _ _ (s₁.setTop (mkF m 6 #[.val (.ref x), .val (.ref ar)] [.null, (.int 3), (.int 0), (.ref ar), (.ref x)]))
  obtain ⟨_, _, ⟨T2, L2, k2, n2⟩, -, X2, ⟨Lc2, hQ2, l2, y2, z2⟩, st2⟩ := X0.specialBack hx (y := ym17) rfl hown (mvT hZ (hW 8 _ rfl)) (mvT hZ (hW 9 _ rfl)) (mvT hZ (hW 11 _ rfl)) (by decide) (backOf (W := 0) (rmW4_3 l Z a0 hw [] x ar k c0 c1 c2 Gc h0 n0 XO0 S_ad S_hi S_lo Oc Pc g_x E_x F_v F_c V_a r0 r1 r2 hbig) hZ (hW 11 _ rfl) (hW 3 _ rfl) (by decide) (by decide)) (g := (mkF m 6 #[.val (.ref x), .val (.ref ar)] [.null, (.int 3), (.int 0), (.ref ar), (.ref x)])) rfl (by rw [hml]; rfl) (Steps.refl _) (a := x) (argsL := [(.ref ar), (.int 0), (.int 3), .null]) (rest := []) (lenOf pd_7 rfl) rfl (by show 2 * 0 + _ ≤ _; exact Nat.le_of_eq rfl) (hb hby d1_6) (fun _ _ => ⟨rfl, e0, (by decide : 0 + 2 ≤ _), (by decide : 0 + 9 ≤ _)⟩)
  dsimp only [Pt.U, Pt.locs, Pt.cells, Pt.slots] at X2 l2 y2 z2 st2 hQ2
  subst l2 y2 z2
  obtain ⟨rfl, Nq2, Kp2, Wq2⟩ := hQ2
  have N2 := Fr.app N0 Nq2
  refine own_of (fun tt_ kk_ => st2.trans kk_) ?_
  have sz2 : h0.size ≤ T2.heap.size := Kp2.1
  have O2 : Old Z n0 T2.heap := XO0.keep Kp2 (allS (by omega) all0)
  have K2 : Keep h0 T2.heap [x] := K0.trans Kp2 (allS (Or.inl (List.mem_of_getElem? (i := 0) rfl)) all0)
  show own_go p e below s _ _ _ (T2.setTop (mkF m 9 #[.val (.ref x), .val (.ref ar)] []))
  refine own_retV X2 hx hlk hret (hb hby d1_9) (by decide) (by decide) ?_
  skip
  exact ⟨rfl, N2, K2, Wq2⟩
theorem ef_rmX1 (m : MethodId) (x0 : Int32) (x1 : Int32) (x2 : Value) (hx2 : x2.isRef = true) : entryFrame m #[(.int x0), (.int x1), x2] 3 = mkF m 0 #[.val (.int x0), .val (.int x1), .val x2] [] := by rcases ref_cases hx2 with rfl | ⟨_, rfl⟩ <;> first | (simp [entryFrame, mkF, argsToLocals, Value.category]; done) | rfl
theorem pn_2 : plainName "jdk/internal/util/Preconditions" = true := by first | (simp [plainName, overriddenIn]; done) | decide +kernel
theorem d16_0 : decode jdk_41_method_11_code 0 = .ok (.iload_n 0, 1) := by decide +kernel
theorem d16_1 : decode jdk_41_method_11_code 1 = .ok (.ifCond .lt 8, 3) := by decide +kernel
theorem d16_4 : decode jdk_41_method_11_code 4 = .ok (.iload_n 0, 1) := by decide +kernel
theorem d16_5 : decode jdk_41_method_11_code 5 = .ok (.iload_n 1, 1) := by decide +kernel
theorem d16_6 : decode jdk_41_method_11_code 6 = .ok (.if_icmp .lt 10, 3) := by decide +kernel
theorem d16_16 : decode jdk_41_method_11_code 16 = .ok (.iload_n 0, 1) := by decide +kernel
theorem d16_17 : decode jdk_41_method_11_code 17 = .ok (.ireturn, 1) := by decide +kernel
def Q_rmX1 (Z : State) (ix : Int32) (nx : Int32) (fm : Value) (h0 : Heap) (n0 : Nat) (v : Option Value) (h : Heap) (L : List Loc) : Prop := v = some (.int ix) ∧ Fr n0 L ∧ h = h0
set_option maxRecDepth 65536 in
set_option maxHeartbeats 40000000 in
theorem rmX1 (l : Launch) (Z : State) (a0 : Array Value) (hw : own_H Z a0) (ws : List Jvm.Cond) (ix : Int32) (nx : Int32) (fm : Value) (h0 : Heap) (n0 : Nat) (XO0 : Old Z n0 h0) (r_f : fm.isRef = true) (q_0 : ¬ ix < (0 : Int32)) (q_n : ix < nx) :
    own_M l Z (⟨"jdk/internal/util/Preconditions", "checkIndex", "(IILjava/util/function/BiFunction;)I"⟩ : MethodName) jdk_41_method_11_code ws 3 (some .int) (own_R 0 0 0 0) #[(.int ix), (.int nx), fm] h0 (Q_rmX1 Z ix nx fm h0 n0) := by
  refine own_open (plainFor_of_name pn_2) ?_
  intro p e s m below meth c s₁ hx hby hlk hret hml hown hnm hZ X0 e0
  have hW := own_hW hw
  have N0 := Fr.nil n0
  refine own_of (fun tt_ kk_ => castTop (ef_rmX1 m ix nx fm r_f) kk_) ?_
  show own_go p e below s _ _ _ (s₁.setTop (mkF m 0 #[.val (.int ix), .val (.int nx), .val fm] []))
  refine own_of (fun tt_ => XS.iloadN X0.here hx rfl (hb hby d16_0) rfl) ?_
  have hb1_1 : ¬ (ix < (0 : Int32)) := q_0
  refine own_of (fun tt_ => XS.ifNo X0.here hx rfl (hb hby d16_1) rfl ((if0 _ _).trans (flt hb1_1).1)) ?_
  show own_go p e below s _ _ _ (s₁.setTop (mkF m 4 #[.val (.int ix), .val (.int nx), .val fm] []))
  refine own_of (fun tt_ => XS.iloadN X0.here hx rfl (hb hby d16_4) rfl) ?_
  refine own_of (fun tt_ => XS.iloadN X0.here hx rfl (hb hby d16_5) rfl) ?_
  have hb6_2 : ix < nx := q_n
  refine own_of (fun tt_ => XS.icmpYes X0.here hx rfl (pc0 := 6) (pc' := 16) rfl (hb hby d16_6) rfl (tlt hb6_2).1 (by decide) (by decide)) ?_
  show own_go p e below s _ _ _ (s₁.setTop (mkF m 16 #[.val (.int ix), .val (.int nx), .val fm] []))
  refine own_of (fun tt_ => XS.iloadN X0.here hx rfl (hb hby d16_16) rfl) ?_
  show own_go p e below s _ _ _ (s₁.setTop (mkF m 17 #[.val (.int ix), .val (.int nx), .val fm] [(.int ix)]))
  refine own_ret X0 hx hlk hret rfl (Or.inl ⟨rfl, by simp, _, rfl⟩) (hb hby d16_17) (by decide) (by decide) ?_
  rw [e0]
  exact ⟨rfl, N0, rfl⟩
theorem ef_rmX2 (m : MethodId) (x0 : Int32) (x1 : Int32) : entryFrame m #[(.int x0), (.int x1)] 2 = mkF m 0 #[.val (.int x0), .val (.int x1)] [] := by first | (simp [entryFrame, mkF, argsToLocals, Value.category]; done) | rfl
theorem d15_0 : decode jdk_42_method_155_code 0 = .ok (.iload_n 0, 1) := by decide +kernel
theorem d15_1 : decode jdk_42_method_155_code 1 = .ok (.iload_n 1, 1) := by decide +kernel
theorem d15_2 : decode jdk_42_method_155_code 2 = .ok (.getstatic 1053, 3) := by decide +kernel
theorem d15_5 : decode jdk_42_method_155_code 5 = .ok (.invokestatic 1059, 3) := by decide +kernel
theorem pd_8 : parseMethodDescriptor "(IILjava/util/function/BiFunction;)I" = some ⟨[.int, .int, (.object "java/util/function/BiFunction")], some .int⟩ := by decide +kernel
theorem d15_8 : decode jdk_42_method_155_code 8 = .ok (.pop, 1) := by decide +kernel
theorem d15_9 : decode jdk_42_method_155_code 9 = .ok (.return_, 1) := by decide +kernel
def Q_rmX2 (Z : State) (ix : Int32) (nx : Int32) (fm : Value) (h0 : Heap) (n0 : Nat) (v : Option Value) (h : Heap) (L : List Loc) : Prop := v = none ∧ Fr n0 L ∧ h = h0
set_option maxRecDepth 65536 in
set_option maxHeartbeats 40000000 in
theorem rmX2 (l : Launch) (Z : State) (a0 : Array Value) (hw : own_H Z a0) (ws : List Jvm.Cond) (ix : Int32) (nx : Int32) (fm : Value) (h0 : Heap) (n0 : Nat) (XO0 : Old Z n0 h0) (S_f : Sta Z Z.heap "jdk/internal/util/Preconditions" "SIOOBE_FORMATTER" "Ljava/util/function/BiFunction;" fm) (r_f : fm.isRef = true) (q_0 : ¬ ix < (0 : Int32)) (q_n : ix < nx) :
    own_M l Z ym7 jdk_42_method_155_code ws 2 none (own_R 1 0 0 14) #[(.int ix), (.int nx)] h0 (Q_rmX2 Z ix nx fm h0 n0) := by
  refine own_open (plainFor_of_name pn_1) ?_
  intro p e s m below meth c s₁ hx hby hlk hret hml hown hnm hZ X0 e0
  have hW := own_hW hw
  have N0 := Fr.nil n0
  refine own_of (fun tt_ kk_ => castTop (ef_rmX2 m ix nx) kk_) ?_
  show own_go p e below s _ _ _ (s₁.setTop (mkF m 0 #[.val (.int ix), .val (.int nx)] []))
  refine own_of (fun tt_ => XS.iloadN X0.here hx rfl (hb hby d15_0) rfl) ?_
  refine own_of (fun tt_ => XS.iloadN X0.here hx rfl (hb hby d15_1) rfl) ?_
  obtain ⟨T1, X1, e1, st1⟩ := getS2 X0 hx hZ hown (host := "") (Or.inl (hW 74 _ rfl)) Via.refl e0 (S_f.ext XO0.2) (g := (mkF m 2 #[.val (.int ix), .val (.int nx)] [(.int nx), (.int ix)])) rfl (hb hby d15_2)
  refine own_of st1 ?_
  show own_go p e below s _ _ _ (T1.setTop (mkF m 5 #[.val (.int ix), .val (.int nx)] [fm, (.int nx), (.int ix)]))
  obtain ⟨_, _, ⟨T2, L2, k2, n2⟩, -, X2, ⟨Lc2, hQ2, l2, y2, z2⟩, st2⟩ := Jvm.LawKit.callS X1 hx (y := (⟨"jdk/internal/util/Preconditions", "checkIndex", "(IILjava/util/function/BiFunction;)I"⟩ : MethodName)) hown (mvT hZ (hW 76 _ rfl)) (mvT hZ (hW 77 _ rfl)) (mvT hZ (hW 75 _ rfl)) (mvT hZ (hW 78 _ rfl)) (by decide) (backOf (W := 0) (rmX1 l Z a0 hw [] ix nx fm h0 n0 XO0 r_f q_0 q_n) hZ (hW 78 _ rfl) (hW 75 _ rfl) (by decide) (by decide)) (g := (mkF m 5 #[.val (.int ix), .val (.int nx)] [fm, (.int nx), (.int ix)])) rfl (by rw [hml]; rfl) (argsL := [(.int ix), (.int nx), fm]) (rest := []) (lenOf pd_8 rfl) rfl (by show 2 * 0 + _ ≤ _; exact Nat.le_of_eq rfl) (hb hby d15_5) (fun _ _ => ⟨rfl, e1, (by decide : 0 + 0 ≤ _), (by decide : 0 + 0 ≤ _)⟩)
  dsimp only [Pt.U, Pt.locs, Pt.cells, Pt.slots] at X2 l2 y2 z2 st2 hQ2
  subst l2 y2 z2
  obtain ⟨rfl, Nq2, eh2⟩ := hQ2
  have N2 := Fr.app N0 Nq2
  refine own_of st2 ?_
  show own_go p e below s _ _ _ (T2.setTop (mkF m 8 #[.val (.int ix), .val (.int nx)] [(.int ix)]))
  refine own_of (fun tt_ => XS.pop X2.here hx rfl (hb hby d15_8) rfl rfl) ?_
  show own_go p e below s _ _ _ (T2.setTop (mkF m 9 #[.val (.int ix), .val (.int nx)] []))
  refine own_retV X2 hx hlk hret (hb hby d15_9) (by decide) (by decide) ?_
  rw [eh2]
  exact ⟨rfl, N2, rfl⟩
theorem ef_rmX3_1 (m : MethodId) (x0 : Nat) : entryFrame m #[(.ref x0)] 1 = mkF m 0 #[.val (.ref x0)] [] := by first | (simp [entryFrame, mkF, argsToLocals, Value.category]; done) | rfl
theorem d24_0 : decode jdk_52_method_6_code 0 = .ok (.aload_n 0, 1) := by decide +kernel
theorem d24_1 : decode jdk_52_method_6_code 1 = .ok (.arraylength, 1) := by decide +kernel
theorem d24_2 : decode jdk_52_method_6_code 2 = .ok (.iconst 1, 1) := by decide +kernel
theorem d24_3 : decode jdk_52_method_6_code 3 = .ok (.ishr, 1) := by decide +kernel
theorem d24_4 : decode jdk_52_method_6_code 4 = .ok (.ireturn, 1) := by decide +kernel
def Q_rmX3_1 (Z : State) (t : Nat) (kb : ClassId) (c0 : Int32) (h0 : Heap) (n0 : Nat) (v : Option Value) (h : Heap) (L : List Loc) : Prop := v = some (.int 1) ∧ Fr n0 L ∧ h = h0
set_option maxRecDepth 65536 in
set_option maxHeartbeats 40000000 in
theorem rmX3_1 (l : Launch) (Z : State) (a0 : Array Value) (hw : own_H Z a0) (ws : List Jvm.Cond) (t : Nat) (kb : ClassId) (c0 : Int32) (h0 : Heap) (n0 : Nat) (XO0 : Old Z n0 h0) (V_t : Arv Z h0 t kb .byte (2 : Int32) [(.int (StrChars.lo8 c0)), (.int (StrChars.hi8 c0))] (.int 0)) :
    own_M l Z ym18 jdk_52_method_6_code ws 1 (some .int) (own_R 0 0 0 0) #[(.ref t)] h0 (Q_rmX3_1 Z t kb c0 h0 n0) := by
  refine own_open (plainFor_of_name pn_0) ?_
  intro p e s m below meth c s₁ hx hby hlk hret hml hown hnm hZ X0 e0
  have hW := own_hW hw
  have N0 := Fr.nil n0
  refine own_of (fun tt_ kk_ => castTop (ef_rmX3_1 m t) kk_) ?_
  show own_go p e below s _ _ _ (s₁.setTop (mkF m 0 #[.val (.ref t)] []))
  refine own_of (fun tt_ => XS.aloadN X0.here hx rfl (hb hby d24_0) rfl rfl) ?_
  obtain ⟨cl1, Ar1, q1, S1, Ng1, H1, G1⟩ := id V_t
  refine own_of (fun tt_ kk => X0.arraylength hx (by rw [e0]; exact Ar1.1) (State.isArrayOf_alike hZ.alike Ar1.2.1) (g := (mkF m 1 #[.val (.ref t)] [(.ref t)])) rfl rfl (hb hby d24_1) _ (by rw [len_of S1 Ng1]; exact kk)) ?_
  show own_go p e below s _ _ _ (s₁.setTop (mkF m 2 #[.val (.ref t)] [(.int 2)]))
  refine own_of (fun tt_ => XS.iconst X0.here hx rfl (hb hby d24_2)) ?_
  refine own_of (fun tt_ => XS.ishr X0.here hx rfl (hb hby d24_3) rfl) ?_
  show own_go p e below s _ _ _ (s₁.setTop (mkF m 4 #[.val (.ref t)] [(.int 1)]))
  refine own_ret X0 hx hlk hret rfl (Or.inl ⟨rfl, by simp, _, rfl⟩) (hb hby d24_4) (by decide) (by decide) ?_
  rw [e0]
  exact ⟨rfl, N0, rfl⟩
theorem ef_rmX4_1_0 (m : MethodId) (x0 : Int32) (x1 : Nat) : entryFrame m #[(.int x0), (.ref x1)] 2 = mkF m 0 #[.val (.int x0), .val (.ref x1)] [] := by first | (simp [entryFrame, mkF, argsToLocals, Value.category]; done) | rfl
theorem d23_0 : decode jdk_52_method_91_code 0 = .ok (.iload_n 0, 1) := by decide +kernel
theorem d23_1 : decode jdk_52_method_91_code 1 = .ok (.aload_n 1, 1) := by decide +kernel
theorem d23_2 : decode jdk_52_method_91_code 2 = .ok (.invokestatic 48, 3) := by decide +kernel
theorem pd_9 : parseMethodDescriptor "([B)I" = some ⟨[(.array .byte)], some .int⟩ := by decide +kernel
theorem d23_5 : decode jdk_52_method_91_code 5 = .ok (.invokestatic 414, 3) := by decide +kernel
theorem pd_10 : parseMethodDescriptor "(II)V" = some ⟨[.int, .int], none⟩ := by decide +kernel
theorem d23_8 : decode jdk_52_method_91_code 8 = .ok (.return_, 1) := by decide +kernel
def Q_rmX4_1_0 (Z : State) (t : Nat) (kb : ClassId) (c0 : Int32) (fm : Value) (h0 : Heap) (n0 : Nat) (v : Option Value) (h : Heap) (L : List Loc) : Prop := v = none ∧ Fr n0 L ∧ h = h0
set_option maxRecDepth 65536 in
set_option maxHeartbeats 40000000 in
theorem rmX4_1_0 (l : Launch) (Z : State) (a0 : Array Value) (hw : own_H Z a0) (ws : List Jvm.Cond) (t : Nat) (kb : ClassId) (c0 : Int32) (fm : Value) (h0 : Heap) (n0 : Nat) (XO0 : Old Z n0 h0) (S_f : Sta Z Z.heap "jdk/internal/util/Preconditions" "SIOOBE_FORMATTER" "Ljava/util/function/BiFunction;" fm) (r_f : fm.isRef = true) (V_t : Arv Z h0 t kb .byte (2 : Int32) [(.int (StrChars.lo8 c0)), (.int (StrChars.hi8 c0))] (.int 0)) :
    own_M l Z ym13 jdk_52_method_91_code ws 2 none (own_R 2 0 0 27) #[(.int 0), (.ref t)] h0 (Q_rmX4_1_0 Z t kb c0 fm h0 n0) := by
  refine own_open (plainFor_of_name pn_0) ?_
  intro p e s m below meth c s₁ hx hby hlk hret hml hown hnm hZ X0 e0
  have hW := own_hW hw
  have N0 := Fr.nil n0
  refine own_of (fun tt_ kk_ => castTop (ef_rmX4_1_0 m (0 : Int32) t) kk_) ?_
  show own_go p e below s _ _ _ (s₁.setTop (mkF m 0 #[.val (.int 0), .val (.ref t)] []))
  refine own_of (fun tt_ => XS.iloadN X0.here hx rfl (hb hby d23_0) rfl) ?_
  refine own_of (fun tt_ => XS.aloadN X0.here hx rfl (hb hby d23_1) rfl rfl) ?_
  show own_go p e below s _ _ _ (s₁.setTop (mkF m 2 #[.val (.int 0), .val (.ref t)] [(.ref t), (.int 0)]))
  obtain ⟨_, _, ⟨T1, L1, k1, n1⟩, -, X1, ⟨Lc1, hQ1, l1, y1, z1⟩, st1⟩ := Jvm.LawKit.callS X0 hx (y := ym18) hown (mvT hZ (hW 104 _ rfl)) (mvT hZ (hW 105 _ rfl)) (mvT hZ (hW 35 _ rfl)) (mvT hZ (hW 106 _ rfl)) (by decide) (backOf (W := 1) (rmX3_1 l Z a0 hw [] t kb c0 h0 n0 XO0 V_t) hZ (hW 106 _ rfl) (hW 35 _ rfl) (by decide) (by decide)) (g := (mkF m 2 #[.val (.int 0), .val (.ref t)] [(.ref t), (.int 0)])) rfl (by rw [hml]; rfl) (argsL := [(.ref t)]) (rest := [(.int 0)]) (lenOf pd_9 rfl) rfl (by show 2 * 0 + _ ≤ _; exact Nat.le_of_eq rfl) (hb hby d23_2) (fun _ _ => ⟨rfl, e0, (by decide : 0 + 0 ≤ _), (by decide : 0 + 0 ≤ _)⟩)
  dsimp only [Pt.U, Pt.locs, Pt.cells, Pt.slots] at X1 l1 y1 z1 st1 hQ1
  subst l1 y1 z1
  obtain ⟨rfl, Nq1, eh1⟩ := hQ1
  have N1 := Fr.app N0 Nq1
  refine own_of st1 ?_
  show own_go p e below s _ _ _ (T1.setTop (mkF m 5 #[.val (.int 0), .val (.ref t)] [(.int 1), (.int 0)]))
  obtain ⟨_, _, ⟨T2, L2, k2, n2⟩, -, X2, ⟨Lc2, hQ2, l2, y2, z2⟩, st2⟩ := Jvm.LawKit.callS X1 hx (y := ym7) hown (mvT hZ (hW 107 _ rfl)) (mvT hZ (hW 72 _ rfl)) (mvT hZ (hW 3 _ rfl)) (mvT hZ (hW 73 _ rfl)) (by decide) (backOf (W := 0) (rmX2 l Z a0 hw [] (0 : Int32) (1 : Int32) fm h0 n0 XO0 S_f r_f (by decide) (by decide)) hZ (hW 73 _ rfl) (hW 3 _ rfl) (by decide) (by decide)) (g := (mkF m 5 #[.val (.int 0), .val (.ref t)] [(.int 1), (.int 0)])) rfl (by rw [hml]; rfl) (argsL := [(.int 0), (.int 1)]) (rest := []) (lenOf pd_10 rfl) rfl (by show 2 * 0 + _ ≤ _; exact Nat.le_of_eq rfl) (hb hby d23_5) (fun _ _ => ⟨rfl, eh1, (by decide : 0 + 0 ≤ _), (by decide : 0 + 0 ≤ _)⟩)
  dsimp only [Pt.U, Pt.locs, Pt.cells, Pt.slots] at X2 l2 y2 z2 st2 hQ2
  subst l2 y2 z2
  obtain ⟨rfl, Nq2, eh2⟩ := hQ2
  have N2 := Fr.app N1 Nq2
  refine own_of st2 ?_
  show own_go p e below s _ _ _ (T2.setTop (mkF m 8 #[.val (.int 0), .val (.ref t)] []))
  refine own_retV X2 hx hlk hret (hb hby d23_8) (by decide) (by decide) ?_
  rw [eh2]
  exact ⟨rfl, N2, rfl⟩
theorem ef_rmX5_1_0 (m : MethodId) (x0 : Nat) (x1 : Int32) : entryFrame m #[(.ref x0), (.int x1)] 2 = mkF m 0 #[.val (.ref x0), .val (.int x1)] [] := by first | (simp [entryFrame, mkF, argsToLocals, Value.category]; done) | rfl
theorem d22_0 : decode jdk_52_method_83_code 0 = .ok (.iload_n 1, 1) := by decide +kernel
theorem d22_1 : decode jdk_52_method_83_code 1 = .ok (.aload_n 0, 1) := by decide +kernel
theorem d22_2 : decode jdk_52_method_83_code 2 = .ok (.invokestatic 67, 3) := by decide +kernel
theorem pd_11 : parseMethodDescriptor "(I[B)V" = some ⟨[.int, (.array .byte)], none⟩ := by decide +kernel
theorem d22_5 : decode jdk_52_method_83_code 5 = .ok (.aload_n 0, 1) := by decide +kernel
theorem d22_6 : decode jdk_52_method_83_code 6 = .ok (.iload_n 1, 1) := by decide +kernel
theorem d22_7 : decode jdk_52_method_83_code 7 = .ok (.invokestatic 71, 3) := by decide +kernel
theorem d22_10 : decode jdk_52_method_83_code 10 = .ok (.ireturn, 1) := by decide +kernel
def Q_rmX5_1_0 (Z : State) (t : Nat) (kb : ClassId) (c0 : Int32) (fm : Value) (h0 : Heap) (n0 : Nat) (v : Option Value) (h : Heap) (L : List Loc) : Prop := v = some (.int c0) ∧ Fr n0 L ∧ h = h0
set_option maxRecDepth 65536 in
set_option maxHeartbeats 40000000 in
theorem rmX5_1_0 (l : Launch) (Z : State) (a0 : Array Value) (hw : own_H Z a0) (ws : List Jvm.Cond) (t : Nat) (kb : ClassId) (c0 : Int32) (fm : Value) (h0 : Heap) (n0 : Nat) (XO0 : Old Z n0 h0) (S_ad : Sta Z Z.heap "java/lang/StringUTF16" "$assertionsDisabled" "Z" (.int 1)) (S_hi : Sta Z Z.heap "java/lang/StringUTF16" "HI_BYTE_SHIFT" "I" (.int 0)) (S_lo : Sta Z Z.heap "java/lang/StringUTF16" "LO_BYTE_SHIFT" "I" (.int 8)) (S_f : Sta Z Z.heap "jdk/internal/util/Preconditions" "SIOOBE_FORMATTER" "Ljava/util/function/BiFunction;" fm) (r_f : fm.isRef = true) (V_t : Arv Z h0 t kb .byte (2 : Int32) [(.int (StrChars.lo8 c0)), (.int (StrChars.hi8 c0))] (.int 0)) (r0 : own_c16 c0) :
    own_M l Z ym14 jdk_52_method_83_code ws 2 (some .char) (own_R 3 0 0 40) #[(.ref t), (.int 0)] h0 (Q_rmX5_1_0 Z t kb c0 fm h0 n0) := by
  refine own_open (plainFor_of_name pn_0) ?_
  intro p e s m below meth c s₁ hx hby hlk hret hml hown hnm hZ X0 e0
  have hW := own_hW hw
  have N0 := Fr.nil n0
  refine own_of (fun tt_ kk_ => castTop (ef_rmX5_1_0 m t (0 : Int32)) kk_) ?_
  show own_go p e below s _ _ _ (s₁.setTop (mkF m 0 #[.val (.ref t), .val (.int 0)] []))
  refine own_of (fun tt_ => XS.iloadN X0.here hx rfl (hb hby d22_0) rfl) ?_
  refine own_of (fun tt_ => XS.aloadN X0.here hx rfl (hb hby d22_1) rfl rfl) ?_
  show own_go p e below s _ _ _ (s₁.setTop (mkF m 2 #[.val (.ref t), .val (.int 0)] [(.ref t), (.int 0)]))
  obtain ⟨_, _, ⟨T1, L1, k1, n1⟩, -, X1, ⟨Lc1, hQ1, l1, y1, z1⟩, st1⟩ := Jvm.LawKit.callS X0 hx (y := ym13) hown (mvT hZ (hW 101 _ rfl)) (mvT hZ (hW 102 _ rfl)) (mvT hZ (hW 35 _ rfl)) (mvT hZ (hW 103 _ rfl)) (by decide) (backOf (W := 0) (rmX4_1_0 l Z a0 hw [] t kb c0 fm h0 n0 XO0 S_f r_f V_t) hZ (hW 103 _ rfl) (hW 35 _ rfl) (by decide) (by decide)) (g := (mkF m 2 #[.val (.ref t), .val (.int 0)] [(.ref t), (.int 0)])) rfl (by rw [hml]; rfl) (argsL := [(.int 0), (.ref t)]) (rest := []) (lenOf pd_11 rfl) rfl (by show 2 * 0 + _ ≤ _; exact Nat.le_of_eq rfl) (hb hby d22_2) (fun _ _ => ⟨rfl, e0, (by decide : 0 + 0 ≤ _), (by decide : 0 + 0 ≤ _)⟩)
  dsimp only [Pt.U, Pt.locs, Pt.cells, Pt.slots] at X1 l1 y1 z1 st1 hQ1
  subst l1 y1 z1
  obtain ⟨rfl, Nq1, eh1⟩ := hQ1
  have N1 := Fr.app N0 Nq1
  refine own_of st1 ?_
  show own_go p e below s _ _ _ (T1.setTop (mkF m 5 #[.val (.ref t), .val (.int 0)] []))
  refine own_of (fun tt_ => XS.aloadN X1.here hx rfl (hb hby d22_5) rfl rfl) ?_
  refine own_of (fun tt_ => XS.iloadN X1.here hx rfl (hb hby d22_6) rfl) ?_
  show own_go p e below s _ _ _ (T1.setTop (mkF m 7 #[.val (.ref t), .val (.int 0)] [(.int 0), (.ref t)]))
  obtain ⟨_, _, ⟨T2, L2, k2, n2⟩, -, X2, ⟨Lc2, hQ2, l2, y2, z2⟩, st2⟩ := Jvm.LawKit.callS X1 hx (y := ym4) hown (mvT hZ (hW 95 _ rfl)) (mvT hZ (hW 96 _ rfl)) (mvT hZ (hW 35 _ rfl)) (mvT hZ (hW 97 _ rfl)) (by decide) (backOf (W := 0) (rmG_1_0 l Z a0 hw [] t kb (StrChars.lo8 c0) (StrChars.hi8 c0) h0 n0 XO0 S_ad S_hi S_lo V_t) hZ (hW 97 _ rfl) (hW 35 _ rfl) (by decide) (by decide)) (g := (mkF m 7 #[.val (.ref t), .val (.int 0)] [(.int 0), (.ref t)])) rfl (by rw [hml]; rfl) (argsL := [(.ref t), (.int 0)]) (rest := []) (lenOf pd_5 rfl) rfl (by show 2 * 0 + _ ≤ _; exact Nat.le_of_eq rfl) (hb hby d22_7) (fun _ _ => ⟨rfl, eh1, (by decide : 0 + 0 ≤ _), (by decide : 0 + 0 ≤ _)⟩)
  dsimp only [Pt.U, Pt.locs, Pt.cells, Pt.slots] at X2 l2 y2 z2 st2 hQ2
  subst l2 y2 z2
  obtain ⟨rfl, Nq2, eh2⟩ := hQ2
  have N2 := Fr.app N1 Nq2
  refine own_of st2 ?_
  rw [StrChars.pair_says r0.1 r0.2]
  show own_go p e below s _ _ _ (T2.setTop (mkF m 10 #[.val (.ref t), .val (.int 0)] [(.int c0)]))
  refine own_ret X2 hx hlk hret (StrChars.narrow_ch r0.1 r0.2) (Or.inl ⟨rfl, by simp, _, rfl⟩) (hb hby d22_10) (by decide) (by decide) ?_
  rw [eh2]
  exact ⟨rfl, N2, rfl⟩
theorem ef_rmX7_1_0 (m : MethodId) (x0 : Nat) (x1 : Int32) : entryFrame m #[(.ref x0), (.int x1)] 2 = mkF m 0 #[.val (.ref x0), .val (.int x1)] [] := by first | (simp [entryFrame, mkF, argsToLocals, Value.category]; done) | rfl
theorem pn_3 : plainName "java/lang/StringLatin1" = true := by first | (simp [plainName, overriddenIn]; done) | decide +kernel
theorem d14_0 : decode jdk_43_method_2_code 0 = .ok (.iload_n 1, 1) := by decide +kernel
theorem d14_1 : decode jdk_43_method_2_code 1 = .ok (.aload_n 0, 1) := by decide +kernel
theorem d14_2 : decode jdk_43_method_2_code 2 = .ok (.arraylength, 1) := by decide +kernel
theorem d14_3 : decode jdk_43_method_2_code 3 = .ok (.invokestatic 9, 3) := by decide +kernel
theorem d14_6 : decode jdk_43_method_2_code 6 = .ok (.aload_n 0, 1) := by decide +kernel
theorem d14_7 : decode jdk_43_method_2_code 7 = .ok (.iload_n 1, 1) := by decide +kernel
theorem d14_8 : decode jdk_43_method_2_code 8 = .ok (.baload, 1) := by decide +kernel
theorem d14_9 : decode jdk_43_method_2_code 9 = .ok (.sipush 255, 3) := by decide +kernel
theorem d14_12 : decode jdk_43_method_2_code 12 = .ok (.iand, 1) := by decide +kernel
theorem d14_13 : decode jdk_43_method_2_code 13 = .ok (.i2c, 1) := by decide +kernel
theorem d14_14 : decode jdk_43_method_2_code 14 = .ok (.ireturn, 1) := by decide +kernel
def Q_rmX7_1_0 (Z : State) (t : Nat) (kb : ClassId) (c0 : Int32) (fm : Value) (h0 : Heap) (n0 : Nat) (v : Option Value) (h : Heap) (L : List Loc) : Prop := v = some (.int c0) ∧ Fr n0 L ∧ h = h0
set_option maxRecDepth 65536 in
set_option maxHeartbeats 40000000 in
theorem rmX7_1_0 (l : Launch) (Z : State) (a0 : Array Value) (hw : own_H Z a0) (ws : List Jvm.Cond) (t : Nat) (kb : ClassId) (c0 : Int32) (fm : Value) (h0 : Heap) (n0 : Nat) (XO0 : Old Z n0 h0) (S_f : Sta Z Z.heap "jdk/internal/util/Preconditions" "SIOOBE_FORMATTER" "Ljava/util/function/BiFunction;" fm) (r_f : fm.isRef = true) (V_t : Arv Z h0 t kb .byte (1 : Int32) [(.int (StrChars.lo8 c0))] (.int 0)) (r0 : own_c16 c0) (l0 : ¬ (255 : Int32) < c0) :
    own_M l Z ym15 jdk_43_method_2_code ws 2 (some .char) (own_R 2 0 0 27) #[(.ref t), (.int 0)] h0 (Q_rmX7_1_0 Z t kb c0 fm h0 n0) := by
  refine own_open (plainFor_of_name pn_3) ?_
  intro p e s m below meth c s₁ hx hby hlk hret hml hown hnm hZ X0 e0
  have hW := own_hW hw
  have N0 := Fr.nil n0
  refine own_of (fun tt_ kk_ => castTop (ef_rmX7_1_0 m t (0 : Int32)) kk_) ?_
  show own_go p e below s _ _ _ (s₁.setTop (mkF m 0 #[.val (.ref t), .val (.int 0)] []))
  refine own_of (fun tt_ => XS.iloadN X0.here hx rfl (hb hby d14_0) rfl) ?_
  refine own_of (fun tt_ => XS.aloadN X0.here hx rfl (hb hby d14_1) rfl rfl) ?_
  obtain ⟨cl1, Ar1, q1, S1, Ng1, H1, G1⟩ := id V_t
  refine own_of (fun tt_ kk => X0.arraylength hx (by rw [e0]; exact Ar1.1) (State.isArrayOf_alike hZ.alike Ar1.2.1) (g := (mkF m 2 #[.val (.ref t), .val (.int 0)] [(.ref t), (.int 0)])) rfl rfl (hb hby d14_2) _ (by rw [len_of S1 Ng1]; exact kk)) ?_
  show own_go p e below s _ _ _ (s₁.setTop (mkF m 3 #[.val (.ref t), .val (.int 0)] [(.int 1), (.int 0)]))
  obtain ⟨_, _, ⟨T2, L2, k2, n2⟩, -, X2, ⟨Lc2, hQ2, l2, y2, z2⟩, st2⟩ := Jvm.LawKit.callS X0 hx (y := ym7) hown (mvT hZ (hW 71 _ rfl)) (mvT hZ (hW 72 _ rfl)) (mvT hZ (hW 3 _ rfl)) (mvT hZ (hW 73 _ rfl)) (by decide) (backOf (W := 0) (rmX2 l Z a0 hw [] (0 : Int32) (1 : Int32) fm h0 n0 XO0 S_f r_f (by decide) (by decide)) hZ (hW 73 _ rfl) (hW 3 _ rfl) (by decide) (by decide)) (g := (mkF m 3 #[.val (.ref t), .val (.int 0)] [(.int 1), (.int 0)])) rfl (by rw [hml]; rfl) (argsL := [(.int 0), (.int 1)]) (rest := []) (lenOf pd_10 rfl) rfl (by show 2 * 0 + _ ≤ _; exact Nat.le_of_eq rfl) (hb hby d14_3) (fun _ _ => ⟨rfl, e0, (by decide : 0 + 0 ≤ _), (by decide : 0 + 0 ≤ _)⟩)
  dsimp only [Pt.U, Pt.locs, Pt.cells, Pt.slots] at X2 l2 y2 z2 st2 hQ2
  subst l2 y2 z2
  obtain ⟨rfl, Nq2, eh2⟩ := hQ2
  have N2 := Fr.app N0 Nq2
  refine own_of st2 ?_
  show own_go p e below s _ _ _ (T2.setTop (mkF m 6 #[.val (.ref t), .val (.int 0)] []))
  refine own_of (fun tt_ => XS.aloadN X2.here hx rfl (hb hby d14_6) rfl rfl) ?_
  refine own_of (fun tt_ => XS.iloadN X2.here hx rfl (hb hby d14_7) rfl) ?_
  obtain ⟨cl3, Ar3, q3, S3, Ng3, H3, G3⟩ := id V_t
  have hin3 : ¬ ((0 : Int32) < 0 ∨ cl3.slots.size ≤ ((0 : Int32)).toNatClampNeg) := inb_of S3 ⟨by decide, by decide⟩
  have hat3 : cl3.slots[((0 : Int32)).toNatClampNeg]? = some (.int (StrChars.lo8 c0)) := H3 0 (by rw [S3]; decide)
  refine own_of (fun tt_ => X2.baloadBytes hx (j := (0 : Int32)) (v := (.int (StrChars.lo8 c0))) (by rw [eh2]; exact Ar3.1) (State.isArrayOf_alike hZ.alike Ar3.2.1) Ar3.2.2 hin3 hat3 (g := (mkF m 8 #[.val (.ref t), .val (.int 0)] [(.int 0), (.ref t)])) rfl rfl (hb hby d14_8) _) ?_
  show own_go p e below s _ _ _ (T2.setTop (mkF m 9 #[.val (.ref t), .val (.int 0)] [(.int (StrChars.lo8 c0))]))
  refine own_of (fun tt_ => XS.sipush X2.here hx rfl (hb hby d14_9)) ?_
  refine own_of (fun tt_ => XS.iand X2.here hx rfl (hb hby d14_12) rfl) ?_
  show own_go p e below s _ _ _ (T2.setTop (mkF m 13 #[.val (.ref t), .val (.int 0)] [(.int ((StrChars.lo8 c0) &&& (255 : Int32)))]))
  refine own_of (fun tt_ => XS.i2c X2.here hx rfl (hb hby d14_13) rfl) ?_
  show own_go p e below s _ _ _ (T2.setTop (mkF m 14 #[.val (.ref t), .val (.int 0)] [(.int (((StrChars.lo8 c0) &&& (255 : Int32)).toUInt32.toUInt16.toUInt32.toInt32))]))
  refine own_ret X2 hx hlk hret (XT.narrow_c _) (Or.inl ⟨rfl, by simp, _, rfl⟩) (hb hby d14_14) (by decide) (by decide) ?_
  rw [eh2]
  exact ⟨congrArg (fun z => some (Value.int z)) (StrChars.chr8_lo8 r0.1 l0), N2, rfl⟩
theorem ef_rmX3_2 (m : MethodId) (x0 : Nat) : entryFrame m #[(.ref x0)] 1 = mkF m 0 #[.val (.ref x0)] [] := by first | (simp [entryFrame, mkF, argsToLocals, Value.category]; done) | rfl
def Q_rmX3_2 (Z : State) (t : Nat) (kb : ClassId) (c0 : Int32) (c1 : Int32) (h0 : Heap) (n0 : Nat) (v : Option Value) (h : Heap) (L : List Loc) : Prop := v = some (.int 2) ∧ Fr n0 L ∧ h = h0
set_option maxRecDepth 65536 in
set_option maxHeartbeats 40000000 in
theorem rmX3_2 (l : Launch) (Z : State) (a0 : Array Value) (hw : own_H Z a0) (ws : List Jvm.Cond) (t : Nat) (kb : ClassId) (c0 : Int32) (c1 : Int32) (h0 : Heap) (n0 : Nat) (XO0 : Old Z n0 h0) (V_t : Arv Z h0 t kb .byte (4 : Int32) [(.int (StrChars.lo8 c0)), (.int (StrChars.hi8 c0)), (.int (StrChars.lo8 c1)), (.int (StrChars.hi8 c1))] (.int 0)) :
    own_M l Z ym18 jdk_52_method_6_code ws 1 (some .int) (own_R 0 0 0 0) #[(.ref t)] h0 (Q_rmX3_2 Z t kb c0 c1 h0 n0) := by
  refine own_open (plainFor_of_name pn_0) ?_
  intro p e s m below meth c s₁ hx hby hlk hret hml hown hnm hZ X0 e0
  have hW := own_hW hw
  have N0 := Fr.nil n0
  refine own_of (fun tt_ kk_ => castTop (ef_rmX3_2 m t) kk_) ?_
  show own_go p e below s _ _ _ (s₁.setTop (mkF m 0 #[.val (.ref t)] []))
  refine own_of (fun tt_ => XS.aloadN X0.here hx rfl (hb hby d24_0) rfl rfl) ?_
  obtain ⟨cl1, Ar1, q1, S1, Ng1, H1, G1⟩ := id V_t
  refine own_of (fun tt_ kk => X0.arraylength hx (by rw [e0]; exact Ar1.1) (State.isArrayOf_alike hZ.alike Ar1.2.1) (g := (mkF m 1 #[.val (.ref t)] [(.ref t)])) rfl rfl (hb hby d24_1) _ (by rw [len_of S1 Ng1]; exact kk)) ?_
  show own_go p e below s _ _ _ (s₁.setTop (mkF m 2 #[.val (.ref t)] [(.int 4)]))
  refine own_of (fun tt_ => XS.iconst X0.here hx rfl (hb hby d24_2)) ?_
  refine own_of (fun tt_ => XS.ishr X0.here hx rfl (hb hby d24_3) rfl) ?_
  show own_go p e below s _ _ _ (s₁.setTop (mkF m 4 #[.val (.ref t)] [(.int 2)]))
  refine own_ret X0 hx hlk hret rfl (Or.inl ⟨rfl, by simp, _, rfl⟩) (hb hby d24_4) (by decide) (by decide) ?_
  rw [e0]
  exact ⟨rfl, N0, rfl⟩
theorem ef_rmX4_2_0 (m : MethodId) (x0 : Int32) (x1 : Nat) : entryFrame m #[(.int x0), (.ref x1)] 2 = mkF m 0 #[.val (.int x0), .val (.ref x1)] [] := by first | (simp [entryFrame, mkF, argsToLocals, Value.category]; done) | rfl
def Q_rmX4_2_0 (Z : State) (t : Nat) (kb : ClassId) (c0 : Int32) (c1 : Int32) (fm : Value) (h0 : Heap) (n0 : Nat) (v : Option Value) (h : Heap) (L : List Loc) : Prop := v = none ∧ Fr n0 L ∧ h = h0
set_option maxRecDepth 65536 in
set_option maxHeartbeats 40000000 in
theorem rmX4_2_0 (l : Launch) (Z : State) (a0 : Array Value) (hw : own_H Z a0) (ws : List Jvm.Cond) (t : Nat) (kb : ClassId) (c0 : Int32) (c1 : Int32) (fm : Value) (h0 : Heap) (n0 : Nat) (XO0 : Old Z n0 h0) (S_f : Sta Z Z.heap "jdk/internal/util/Preconditions" "SIOOBE_FORMATTER" "Ljava/util/function/BiFunction;" fm) (r_f : fm.isRef = true) (V_t : Arv Z h0 t kb .byte (4 : Int32) [(.int (StrChars.lo8 c0)), (.int (StrChars.hi8 c0)), (.int (StrChars.lo8 c1)), (.int (StrChars.hi8 c1))] (.int 0)) :
    own_M l Z ym13 jdk_52_method_91_code ws 2 none (own_R 2 0 0 27) #[(.int 0), (.ref t)] h0 (Q_rmX4_2_0 Z t kb c0 c1 fm h0 n0) := by
  refine own_open (plainFor_of_name pn_0) ?_
  intro p e s m below meth c s₁ hx hby hlk hret hml hown hnm hZ X0 e0
  have hW := own_hW hw
  have N0 := Fr.nil n0
  refine own_of (fun tt_ kk_ => castTop (ef_rmX4_2_0 m (0 : Int32) t) kk_) ?_
  show own_go p e below s _ _ _ (s₁.setTop (mkF m 0 #[.val (.int 0), .val (.ref t)] []))
  refine own_of (fun tt_ => XS.iloadN X0.here hx rfl (hb hby d23_0) rfl) ?_
  refine own_of (fun tt_ => XS.aloadN X0.here hx rfl (hb hby d23_1) rfl rfl) ?_
  show own_go p e below s _ _ _ (s₁.setTop (mkF m 2 #[.val (.int 0), .val (.ref t)] [(.ref t), (.int 0)]))
  obtain ⟨_, _, ⟨T1, L1, k1, n1⟩, -, X1, ⟨Lc1, hQ1, l1, y1, z1⟩, st1⟩ := Jvm.LawKit.callS X0 hx (y := ym18) hown (mvT hZ (hW 104 _ rfl)) (mvT hZ (hW 105 _ rfl)) (mvT hZ (hW 35 _ rfl)) (mvT hZ (hW 106 _ rfl)) (by decide) (backOf (W := 1) (rmX3_2 l Z a0 hw [] t kb c0 c1 h0 n0 XO0 V_t) hZ (hW 106 _ rfl) (hW 35 _ rfl) (by decide) (by decide)) (g := (mkF m 2 #[.val (.int 0), .val (.ref t)] [(.ref t), (.int 0)])) rfl (by rw [hml]; rfl) (argsL := [(.ref t)]) (rest := [(.int 0)]) (lenOf pd_9 rfl) rfl (by show 2 * 0 + _ ≤ _; exact Nat.le_of_eq rfl) (hb hby d23_2) (fun _ _ => ⟨rfl, e0, (by decide : 0 + 0 ≤ _), (by decide : 0 + 0 ≤ _)⟩)
  dsimp only [Pt.U, Pt.locs, Pt.cells, Pt.slots] at X1 l1 y1 z1 st1 hQ1
  subst l1 y1 z1
  obtain ⟨rfl, Nq1, eh1⟩ := hQ1
  have N1 := Fr.app N0 Nq1
  refine own_of st1 ?_
  show own_go p e below s _ _ _ (T1.setTop (mkF m 5 #[.val (.int 0), .val (.ref t)] [(.int 2), (.int 0)]))
  obtain ⟨_, _, ⟨T2, L2, k2, n2⟩, -, X2, ⟨Lc2, hQ2, l2, y2, z2⟩, st2⟩ := Jvm.LawKit.callS X1 hx (y := ym7) hown (mvT hZ (hW 107 _ rfl)) (mvT hZ (hW 72 _ rfl)) (mvT hZ (hW 3 _ rfl)) (mvT hZ (hW 73 _ rfl)) (by decide) (backOf (W := 0) (rmX2 l Z a0 hw [] (0 : Int32) (2 : Int32) fm h0 n0 XO0 S_f r_f (by decide) (by decide)) hZ (hW 73 _ rfl) (hW 3 _ rfl) (by decide) (by decide)) (g := (mkF m 5 #[.val (.int 0), .val (.ref t)] [(.int 2), (.int 0)])) rfl (by rw [hml]; rfl) (argsL := [(.int 0), (.int 2)]) (rest := []) (lenOf pd_10 rfl) rfl (by show 2 * 0 + _ ≤ _; exact Nat.le_of_eq rfl) (hb hby d23_5) (fun _ _ => ⟨rfl, eh1, (by decide : 0 + 0 ≤ _), (by decide : 0 + 0 ≤ _)⟩)
  dsimp only [Pt.U, Pt.locs, Pt.cells, Pt.slots] at X2 l2 y2 z2 st2 hQ2
  subst l2 y2 z2
  obtain ⟨rfl, Nq2, eh2⟩ := hQ2
  have N2 := Fr.app N1 Nq2
  refine own_of st2 ?_
  show own_go p e below s _ _ _ (T2.setTop (mkF m 8 #[.val (.int 0), .val (.ref t)] []))
  refine own_retV X2 hx hlk hret (hb hby d23_8) (by decide) (by decide) ?_
  rw [eh2]
  exact ⟨rfl, N2, rfl⟩
theorem ef_rmX5_2_0 (m : MethodId) (x0 : Nat) (x1 : Int32) : entryFrame m #[(.ref x0), (.int x1)] 2 = mkF m 0 #[.val (.ref x0), .val (.int x1)] [] := by first | (simp [entryFrame, mkF, argsToLocals, Value.category]; done) | rfl
def Q_rmX5_2_0 (Z : State) (t : Nat) (kb : ClassId) (c0 : Int32) (c1 : Int32) (fm : Value) (h0 : Heap) (n0 : Nat) (v : Option Value) (h : Heap) (L : List Loc) : Prop := v = some (.int c0) ∧ Fr n0 L ∧ h = h0
set_option maxRecDepth 65536 in
set_option maxHeartbeats 40000000 in
theorem rmX5_2_0 (l : Launch) (Z : State) (a0 : Array Value) (hw : own_H Z a0) (ws : List Jvm.Cond) (t : Nat) (kb : ClassId) (c0 : Int32) (c1 : Int32) (fm : Value) (h0 : Heap) (n0 : Nat) (XO0 : Old Z n0 h0) (S_ad : Sta Z Z.heap "java/lang/StringUTF16" "$assertionsDisabled" "Z" (.int 1)) (S_hi : Sta Z Z.heap "java/lang/StringUTF16" "HI_BYTE_SHIFT" "I" (.int 0)) (S_lo : Sta Z Z.heap "java/lang/StringUTF16" "LO_BYTE_SHIFT" "I" (.int 8)) (S_f : Sta Z Z.heap "jdk/internal/util/Preconditions" "SIOOBE_FORMATTER" "Ljava/util/function/BiFunction;" fm) (r_f : fm.isRef = true) (V_t : Arv Z h0 t kb .byte (4 : Int32) [(.int (StrChars.lo8 c0)), (.int (StrChars.hi8 c0)), (.int (StrChars.lo8 c1)), (.int (StrChars.hi8 c1))] (.int 0)) (r0 : own_c16 c0) (r1 : own_c16 c1) :
    own_M l Z ym14 jdk_52_method_83_code ws 2 (some .char) (own_R 3 0 0 40) #[(.ref t), (.int 0)] h0 (Q_rmX5_2_0 Z t kb c0 c1 fm h0 n0) := by
  refine own_open (plainFor_of_name pn_0) ?_
  intro p e s m below meth c s₁ hx hby hlk hret hml hown hnm hZ X0 e0
  have hW := own_hW hw
  have N0 := Fr.nil n0
  refine own_of (fun tt_ kk_ => castTop (ef_rmX5_2_0 m t (0 : Int32)) kk_) ?_
  show own_go p e below s _ _ _ (s₁.setTop (mkF m 0 #[.val (.ref t), .val (.int 0)] []))
  refine own_of (fun tt_ => XS.iloadN X0.here hx rfl (hb hby d22_0) rfl) ?_
  refine own_of (fun tt_ => XS.aloadN X0.here hx rfl (hb hby d22_1) rfl rfl) ?_
  show own_go p e below s _ _ _ (s₁.setTop (mkF m 2 #[.val (.ref t), .val (.int 0)] [(.ref t), (.int 0)]))
  obtain ⟨_, _, ⟨T1, L1, k1, n1⟩, -, X1, ⟨Lc1, hQ1, l1, y1, z1⟩, st1⟩ := Jvm.LawKit.callS X0 hx (y := ym13) hown (mvT hZ (hW 101 _ rfl)) (mvT hZ (hW 102 _ rfl)) (mvT hZ (hW 35 _ rfl)) (mvT hZ (hW 103 _ rfl)) (by decide) (backOf (W := 0) (rmX4_2_0 l Z a0 hw [] t kb c0 c1 fm h0 n0 XO0 S_f r_f V_t) hZ (hW 103 _ rfl) (hW 35 _ rfl) (by decide) (by decide)) (g := (mkF m 2 #[.val (.ref t), .val (.int 0)] [(.ref t), (.int 0)])) rfl (by rw [hml]; rfl) (argsL := [(.int 0), (.ref t)]) (rest := []) (lenOf pd_11 rfl) rfl (by show 2 * 0 + _ ≤ _; exact Nat.le_of_eq rfl) (hb hby d22_2) (fun _ _ => ⟨rfl, e0, (by decide : 0 + 0 ≤ _), (by decide : 0 + 0 ≤ _)⟩)
  dsimp only [Pt.U, Pt.locs, Pt.cells, Pt.slots] at X1 l1 y1 z1 st1 hQ1
  subst l1 y1 z1
  obtain ⟨rfl, Nq1, eh1⟩ := hQ1
  have N1 := Fr.app N0 Nq1
  refine own_of st1 ?_
  show own_go p e below s _ _ _ (T1.setTop (mkF m 5 #[.val (.ref t), .val (.int 0)] []))
  refine own_of (fun tt_ => XS.aloadN X1.here hx rfl (hb hby d22_5) rfl rfl) ?_
  refine own_of (fun tt_ => XS.iloadN X1.here hx rfl (hb hby d22_6) rfl) ?_
  show own_go p e below s _ _ _ (T1.setTop (mkF m 7 #[.val (.ref t), .val (.int 0)] [(.int 0), (.ref t)]))
  obtain ⟨_, _, ⟨T2, L2, k2, n2⟩, -, X2, ⟨Lc2, hQ2, l2, y2, z2⟩, st2⟩ := Jvm.LawKit.callS X1 hx (y := ym4) hown (mvT hZ (hW 95 _ rfl)) (mvT hZ (hW 96 _ rfl)) (mvT hZ (hW 35 _ rfl)) (mvT hZ (hW 97 _ rfl)) (by decide) (backOf (W := 0) (rmG_2_0 l Z a0 hw [] t kb (StrChars.lo8 c0) (StrChars.hi8 c0) (StrChars.lo8 c1) (StrChars.hi8 c1) h0 n0 XO0 S_ad S_hi S_lo V_t) hZ (hW 97 _ rfl) (hW 35 _ rfl) (by decide) (by decide)) (g := (mkF m 7 #[.val (.ref t), .val (.int 0)] [(.int 0), (.ref t)])) rfl (by rw [hml]; rfl) (argsL := [(.ref t), (.int 0)]) (rest := []) (lenOf pd_5 rfl) rfl (by show 2 * 0 + _ ≤ _; exact Nat.le_of_eq rfl) (hb hby d22_7) (fun _ _ => ⟨rfl, eh1, (by decide : 0 + 0 ≤ _), (by decide : 0 + 0 ≤ _)⟩)
  dsimp only [Pt.U, Pt.locs, Pt.cells, Pt.slots] at X2 l2 y2 z2 st2 hQ2
  subst l2 y2 z2
  obtain ⟨rfl, Nq2, eh2⟩ := hQ2
  have N2 := Fr.app N1 Nq2
  refine own_of st2 ?_
  rw [StrChars.pair_says r0.1 r0.2]
  show own_go p e below s _ _ _ (T2.setTop (mkF m 10 #[.val (.ref t), .val (.int 0)] [(.int c0)]))
  refine own_ret X2 hx hlk hret (StrChars.narrow_ch r0.1 r0.2) (Or.inl ⟨rfl, by simp, _, rfl⟩) (hb hby d22_10) (by decide) (by decide) ?_
  rw [eh2]
  exact ⟨rfl, N2, rfl⟩
theorem ef_rmX7_2_0 (m : MethodId) (x0 : Nat) (x1 : Int32) : entryFrame m #[(.ref x0), (.int x1)] 2 = mkF m 0 #[.val (.ref x0), .val (.int x1)] [] := by first | (simp [entryFrame, mkF, argsToLocals, Value.category]; done) | rfl
def Q_rmX7_2_0 (Z : State) (t : Nat) (kb : ClassId) (c0 : Int32) (c1 : Int32) (fm : Value) (h0 : Heap) (n0 : Nat) (v : Option Value) (h : Heap) (L : List Loc) : Prop := v = some (.int c0) ∧ Fr n0 L ∧ h = h0
set_option maxRecDepth 65536 in
set_option maxHeartbeats 40000000 in
theorem rmX7_2_0 (l : Launch) (Z : State) (a0 : Array Value) (hw : own_H Z a0) (ws : List Jvm.Cond) (t : Nat) (kb : ClassId) (c0 : Int32) (c1 : Int32) (fm : Value) (h0 : Heap) (n0 : Nat) (XO0 : Old Z n0 h0) (S_f : Sta Z Z.heap "jdk/internal/util/Preconditions" "SIOOBE_FORMATTER" "Ljava/util/function/BiFunction;" fm) (r_f : fm.isRef = true) (V_t : Arv Z h0 t kb .byte (2 : Int32) [(.int (StrChars.lo8 c0)), (.int (StrChars.lo8 c1))] (.int 0)) (r0 : own_c16 c0) (r1 : own_c16 c1) (l0 : ¬ (255 : Int32) < c0) (l1 : ¬ (255 : Int32) < c1) :
    own_M l Z ym15 jdk_43_method_2_code ws 2 (some .char) (own_R 2 0 0 27) #[(.ref t), (.int 0)] h0 (Q_rmX7_2_0 Z t kb c0 c1 fm h0 n0) := by
  refine own_open (plainFor_of_name pn_3) ?_
  intro p e s m below meth c s₁ hx hby hlk hret hml hown hnm hZ X0 e0
  have hW := own_hW hw
  have N0 := Fr.nil n0
  refine own_of (fun tt_ kk_ => castTop (ef_rmX7_2_0 m t (0 : Int32)) kk_) ?_
  show own_go p e below s _ _ _ (s₁.setTop (mkF m 0 #[.val (.ref t), .val (.int 0)] []))
  refine own_of (fun tt_ => XS.iloadN X0.here hx rfl (hb hby d14_0) rfl) ?_
  refine own_of (fun tt_ => XS.aloadN X0.here hx rfl (hb hby d14_1) rfl rfl) ?_
  obtain ⟨cl1, Ar1, q1, S1, Ng1, H1, G1⟩ := id V_t
  refine own_of (fun tt_ kk => X0.arraylength hx (by rw [e0]; exact Ar1.1) (State.isArrayOf_alike hZ.alike Ar1.2.1) (g := (mkF m 2 #[.val (.ref t), .val (.int 0)] [(.ref t), (.int 0)])) rfl rfl (hb hby d14_2) _ (by rw [len_of S1 Ng1]; exact kk)) ?_
  show own_go p e below s _ _ _ (s₁.setTop (mkF m 3 #[.val (.ref t), .val (.int 0)] [(.int 2), (.int 0)]))
  obtain ⟨_, _, ⟨T2, L2, k2, n2⟩, -, X2, ⟨Lc2, hQ2, l2, y2, z2⟩, st2⟩ := Jvm.LawKit.callS X0 hx (y := ym7) hown (mvT hZ (hW 71 _ rfl)) (mvT hZ (hW 72 _ rfl)) (mvT hZ (hW 3 _ rfl)) (mvT hZ (hW 73 _ rfl)) (by decide) (backOf (W := 0) (rmX2 l Z a0 hw [] (0 : Int32) (2 : Int32) fm h0 n0 XO0 S_f r_f (by decide) (by decide)) hZ (hW 73 _ rfl) (hW 3 _ rfl) (by decide) (by decide)) (g := (mkF m 3 #[.val (.ref t), .val (.int 0)] [(.int 2), (.int 0)])) rfl (by rw [hml]; rfl) (argsL := [(.int 0), (.int 2)]) (rest := []) (lenOf pd_10 rfl) rfl (by show 2 * 0 + _ ≤ _; exact Nat.le_of_eq rfl) (hb hby d14_3) (fun _ _ => ⟨rfl, e0, (by decide : 0 + 0 ≤ _), (by decide : 0 + 0 ≤ _)⟩)
  dsimp only [Pt.U, Pt.locs, Pt.cells, Pt.slots] at X2 l2 y2 z2 st2 hQ2
  subst l2 y2 z2
  obtain ⟨rfl, Nq2, eh2⟩ := hQ2
  have N2 := Fr.app N0 Nq2
  refine own_of st2 ?_
  show own_go p e below s _ _ _ (T2.setTop (mkF m 6 #[.val (.ref t), .val (.int 0)] []))
  refine own_of (fun tt_ => XS.aloadN X2.here hx rfl (hb hby d14_6) rfl rfl) ?_
  refine own_of (fun tt_ => XS.iloadN X2.here hx rfl (hb hby d14_7) rfl) ?_
  obtain ⟨cl3, Ar3, q3, S3, Ng3, H3, G3⟩ := id V_t
  have hin3 : ¬ ((0 : Int32) < 0 ∨ cl3.slots.size ≤ ((0 : Int32)).toNatClampNeg) := inb_of S3 ⟨by decide, by decide⟩
  have hat3 : cl3.slots[((0 : Int32)).toNatClampNeg]? = some (.int (StrChars.lo8 c0)) := H3 0 (by rw [S3]; decide)
  refine own_of (fun tt_ => X2.baloadBytes hx (j := (0 : Int32)) (v := (.int (StrChars.lo8 c0))) (by rw [eh2]; exact Ar3.1) (State.isArrayOf_alike hZ.alike Ar3.2.1) Ar3.2.2 hin3 hat3 (g := (mkF m 8 #[.val (.ref t), .val (.int 0)] [(.int 0), (.ref t)])) rfl rfl (hb hby d14_8) _) ?_
  show own_go p e below s _ _ _ (T2.setTop (mkF m 9 #[.val (.ref t), .val (.int 0)] [(.int (StrChars.lo8 c0))]))
  refine own_of (fun tt_ => XS.sipush X2.here hx rfl (hb hby d14_9)) ?_
  refine own_of (fun tt_ => XS.iand X2.here hx rfl (hb hby d14_12) rfl) ?_
  show own_go p e below s _ _ _ (T2.setTop (mkF m 13 #[.val (.ref t), .val (.int 0)] [(.int ((StrChars.lo8 c0) &&& (255 : Int32)))]))
  refine own_of (fun tt_ => XS.i2c X2.here hx rfl (hb hby d14_13) rfl) ?_
  show own_go p e below s _ _ _ (T2.setTop (mkF m 14 #[.val (.ref t), .val (.int 0)] [(.int (((StrChars.lo8 c0) &&& (255 : Int32)).toUInt32.toUInt16.toUInt32.toInt32))]))
  refine own_ret X2 hx hlk hret (XT.narrow_c _) (Or.inl ⟨rfl, by simp, _, rfl⟩) (hb hby d14_14) (by decide) (by decide) ?_
  rw [eh2]
  exact ⟨congrArg (fun z => some (Value.int z)) (StrChars.chr8_lo8 r0.1 l0), N2, rfl⟩
theorem ef_rmX4_2_1 (m : MethodId) (x0 : Int32) (x1 : Nat) : entryFrame m #[(.int x0), (.ref x1)] 2 = mkF m 0 #[.val (.int x0), .val (.ref x1)] [] := by first | (simp [entryFrame, mkF, argsToLocals, Value.category]; done) | rfl
def Q_rmX4_2_1 (Z : State) (t : Nat) (kb : ClassId) (c0 : Int32) (c1 : Int32) (fm : Value) (h0 : Heap) (n0 : Nat) (v : Option Value) (h : Heap) (L : List Loc) : Prop := v = none ∧ Fr n0 L ∧ h = h0
set_option maxRecDepth 65536 in
set_option maxHeartbeats 40000000 in
theorem rmX4_2_1 (l : Launch) (Z : State) (a0 : Array Value) (hw : own_H Z a0) (ws : List Jvm.Cond) (t : Nat) (kb : ClassId) (c0 : Int32) (c1 : Int32) (fm : Value) (h0 : Heap) (n0 : Nat) (XO0 : Old Z n0 h0) (S_f : Sta Z Z.heap "jdk/internal/util/Preconditions" "SIOOBE_FORMATTER" "Ljava/util/function/BiFunction;" fm) (r_f : fm.isRef = true) (V_t : Arv Z h0 t kb .byte (4 : Int32) [(.int (StrChars.lo8 c0)), (.int (StrChars.hi8 c0)), (.int (StrChars.lo8 c1)), (.int (StrChars.hi8 c1))] (.int 0)) :
    own_M l Z ym13 jdk_52_method_91_code ws 2 none (own_R 2 0 0 27) #[(.int 1), (.ref t)] h0 (Q_rmX4_2_1 Z t kb c0 c1 fm h0 n0) := by
  refine own_open (plainFor_of_name pn_0) ?_
  intro p e s m below meth c s₁ hx hby hlk hret hml hown hnm hZ X0 e0
  have hW := own_hW hw
  have N0 := Fr.nil n0
  refine own_of (fun tt_ kk_ => castTop (ef_rmX4_2_1 m (1 : Int32) t) kk_) ?_
  show own_go p e below s _ _ _ (s₁.setTop (mkF m 0 #[.val (.int 1), .val (.ref t)] []))
  refine own_of (fun tt_ => XS.iloadN X0.here hx rfl (hb hby d23_0) rfl) ?_
  refine own_of (fun tt_ => XS.aloadN X0.here hx rfl (hb hby d23_1) rfl rfl) ?_
  show own_go p e below s _ _ _ (s₁.setTop (mkF m 2 #[.val (.int 1), .val (.ref t)] [(.ref t), (.int 1)]))
  obtain ⟨_, _, ⟨T1, L1, k1, n1⟩, -, X1, ⟨Lc1, hQ1, l1, y1, z1⟩, st1⟩ := Jvm.LawKit.callS X0 hx (y := ym18) hown (mvT hZ (hW 104 _ rfl)) (mvT hZ (hW 105 _ rfl)) (mvT hZ (hW 35 _ rfl)) (mvT hZ (hW 106 _ rfl)) (by decide) (backOf (W := 1) (rmX3_2 l Z a0 hw [] t kb c0 c1 h0 n0 XO0 V_t) hZ (hW 106 _ rfl) (hW 35 _ rfl) (by decide) (by decide)) (g := (mkF m 2 #[.val (.int 1), .val (.ref t)] [(.ref t), (.int 1)])) rfl (by rw [hml]; rfl) (argsL := [(.ref t)]) (rest := [(.int 1)]) (lenOf pd_9 rfl) rfl (by show 2 * 0 + _ ≤ _; exact Nat.le_of_eq rfl) (hb hby d23_2) (fun _ _ => ⟨rfl, e0, (by decide : 0 + 0 ≤ _), (by decide : 0 + 0 ≤ _)⟩)
  dsimp only [Pt.U, Pt.locs, Pt.cells, Pt.slots] at X1 l1 y1 z1 st1 hQ1
  subst l1 y1 z1
  obtain ⟨rfl, Nq1, eh1⟩ := hQ1
  have N1 := Fr.app N0 Nq1
  refine own_of st1 ?_
  show own_go p e below s _ _ _ (T1.setTop (mkF m 5 #[.val (.int 1), .val (.ref t)] [(.int 2), (.int 1)]))
  obtain ⟨_, _, ⟨T2, L2, k2, n2⟩, -, X2, ⟨Lc2, hQ2, l2, y2, z2⟩, st2⟩ := Jvm.LawKit.callS X1 hx (y := ym7) hown (mvT hZ (hW 107 _ rfl)) (mvT hZ (hW 72 _ rfl)) (mvT hZ (hW 3 _ rfl)) (mvT hZ (hW 73 _ rfl)) (by decide) (backOf (W := 0) (rmX2 l Z a0 hw [] (1 : Int32) (2 : Int32) fm h0 n0 XO0 S_f r_f (by decide) (by decide)) hZ (hW 73 _ rfl) (hW 3 _ rfl) (by decide) (by decide)) (g := (mkF m 5 #[.val (.int 1), .val (.ref t)] [(.int 2), (.int 1)])) rfl (by rw [hml]; rfl) (argsL := [(.int 1), (.int 2)]) (rest := []) (lenOf pd_10 rfl) rfl (by show 2 * 0 + _ ≤ _; exact Nat.le_of_eq rfl) (hb hby d23_5) (fun _ _ => ⟨rfl, eh1, (by decide : 0 + 0 ≤ _), (by decide : 0 + 0 ≤ _)⟩)
  dsimp only [Pt.U, Pt.locs, Pt.cells, Pt.slots] at X2 l2 y2 z2 st2 hQ2
  subst l2 y2 z2
  obtain ⟨rfl, Nq2, eh2⟩ := hQ2
  have N2 := Fr.app N1 Nq2
  refine own_of st2 ?_
  show own_go p e below s _ _ _ (T2.setTop (mkF m 8 #[.val (.int 1), .val (.ref t)] []))
  refine own_retV X2 hx hlk hret (hb hby d23_8) (by decide) (by decide) ?_
  rw [eh2]
  exact ⟨rfl, N2, rfl⟩
theorem ef_rmX5_2_1 (m : MethodId) (x0 : Nat) (x1 : Int32) : entryFrame m #[(.ref x0), (.int x1)] 2 = mkF m 0 #[.val (.ref x0), .val (.int x1)] [] := by first | (simp [entryFrame, mkF, argsToLocals, Value.category]; done) | rfl
def Q_rmX5_2_1 (Z : State) (t : Nat) (kb : ClassId) (c0 : Int32) (c1 : Int32) (fm : Value) (h0 : Heap) (n0 : Nat) (v : Option Value) (h : Heap) (L : List Loc) : Prop := v = some (.int c1) ∧ Fr n0 L ∧ h = h0
set_option maxRecDepth 65536 in
set_option maxHeartbeats 40000000 in
theorem rmX5_2_1 (l : Launch) (Z : State) (a0 : Array Value) (hw : own_H Z a0) (ws : List Jvm.Cond) (t : Nat) (kb : ClassId) (c0 : Int32) (c1 : Int32) (fm : Value) (h0 : Heap) (n0 : Nat) (XO0 : Old Z n0 h0) (S_ad : Sta Z Z.heap "java/lang/StringUTF16" "$assertionsDisabled" "Z" (.int 1)) (S_hi : Sta Z Z.heap "java/lang/StringUTF16" "HI_BYTE_SHIFT" "I" (.int 0)) (S_lo : Sta Z Z.heap "java/lang/StringUTF16" "LO_BYTE_SHIFT" "I" (.int 8)) (S_f : Sta Z Z.heap "jdk/internal/util/Preconditions" "SIOOBE_FORMATTER" "Ljava/util/function/BiFunction;" fm) (r_f : fm.isRef = true) (V_t : Arv Z h0 t kb .byte (4 : Int32) [(.int (StrChars.lo8 c0)), (.int (StrChars.hi8 c0)), (.int (StrChars.lo8 c1)), (.int (StrChars.hi8 c1))] (.int 0)) (r0 : own_c16 c0) (r1 : own_c16 c1) :
    own_M l Z ym14 jdk_52_method_83_code ws 2 (some .char) (own_R 3 0 0 40) #[(.ref t), (.int 1)] h0 (Q_rmX5_2_1 Z t kb c0 c1 fm h0 n0) := by
  refine own_open (plainFor_of_name pn_0) ?_
  intro p e s m below meth c s₁ hx hby hlk hret hml hown hnm hZ X0 e0
  have hW := own_hW hw
  have N0 := Fr.nil n0
  refine own_of (fun tt_ kk_ => castTop (ef_rmX5_2_1 m t (1 : Int32)) kk_) ?_
  show own_go p e below s _ _ _ (s₁.setTop (mkF m 0 #[.val (.ref t), .val (.int 1)] []))
  refine own_of (fun tt_ => XS.iloadN X0.here hx rfl (hb hby d22_0) rfl) ?_
  refine own_of (fun tt_ => XS.aloadN X0.here hx rfl (hb hby d22_1) rfl rfl) ?_
  show own_go p e below s _ _ _ (s₁.setTop (mkF m 2 #[.val (.ref t), .val (.int 1)] [(.ref t), (.int 1)]))
  obtain ⟨_, _, ⟨T1, L1, k1, n1⟩, -, X1, ⟨Lc1, hQ1, l1, y1, z1⟩, st1⟩ := Jvm.LawKit.callS X0 hx (y := ym13) hown (mvT hZ (hW 101 _ rfl)) (mvT hZ (hW 102 _ rfl)) (mvT hZ (hW 35 _ rfl)) (mvT hZ (hW 103 _ rfl)) (by decide) (backOf (W := 0) (rmX4_2_1 l Z a0 hw [] t kb c0 c1 fm h0 n0 XO0 S_f r_f V_t) hZ (hW 103 _ rfl) (hW 35 _ rfl) (by decide) (by decide)) (g := (mkF m 2 #[.val (.ref t), .val (.int 1)] [(.ref t), (.int 1)])) rfl (by rw [hml]; rfl) (argsL := [(.int 1), (.ref t)]) (rest := []) (lenOf pd_11 rfl) rfl (by show 2 * 0 + _ ≤ _; exact Nat.le_of_eq rfl) (hb hby d22_2) (fun _ _ => ⟨rfl, e0, (by decide : 0 + 0 ≤ _), (by decide : 0 + 0 ≤ _)⟩)
  dsimp only [Pt.U, Pt.locs, Pt.cells, Pt.slots] at X1 l1 y1 z1 st1 hQ1
  subst l1 y1 z1
  obtain ⟨rfl, Nq1, eh1⟩ := hQ1
  have N1 := Fr.app N0 Nq1
  refine own_of st1 ?_
  show own_go p e below s _ _ _ (T1.setTop (mkF m 5 #[.val (.ref t), .val (.int 1)] []))
  refine own_of (fun tt_ => XS.aloadN X1.here hx rfl (hb hby d22_5) rfl rfl) ?_
  refine own_of (fun tt_ => XS.iloadN X1.here hx rfl (hb hby d22_6) rfl) ?_
  show own_go p e below s _ _ _ (T1.setTop (mkF m 7 #[.val (.ref t), .val (.int 1)] [(.int 1), (.ref t)]))
  obtain ⟨_, _, ⟨T2, L2, k2, n2⟩, -, X2, ⟨Lc2, hQ2, l2, y2, z2⟩, st2⟩ := Jvm.LawKit.callS X1 hx (y := ym4) hown (mvT hZ (hW 95 _ rfl)) (mvT hZ (hW 96 _ rfl)) (mvT hZ (hW 35 _ rfl)) (mvT hZ (hW 97 _ rfl)) (by decide) (backOf (W := 0) (rmG_2_1 l Z a0 hw [] t kb (StrChars.lo8 c0) (StrChars.hi8 c0) (StrChars.lo8 c1) (StrChars.hi8 c1) h0 n0 XO0 S_ad S_hi S_lo V_t) hZ (hW 97 _ rfl) (hW 35 _ rfl) (by decide) (by decide)) (g := (mkF m 7 #[.val (.ref t), .val (.int 1)] [(.int 1), (.ref t)])) rfl (by rw [hml]; rfl) (argsL := [(.ref t), (.int 1)]) (rest := []) (lenOf pd_5 rfl) rfl (by show 2 * 0 + _ ≤ _; exact Nat.le_of_eq rfl) (hb hby d22_7) (fun _ _ => ⟨rfl, eh1, (by decide : 0 + 0 ≤ _), (by decide : 0 + 0 ≤ _)⟩)
  dsimp only [Pt.U, Pt.locs, Pt.cells, Pt.slots] at X2 l2 y2 z2 st2 hQ2
  subst l2 y2 z2
  obtain ⟨rfl, Nq2, eh2⟩ := hQ2
  have N2 := Fr.app N1 Nq2
  refine own_of st2 ?_
  rw [StrChars.pair_says r1.1 r1.2]
  show own_go p e below s _ _ _ (T2.setTop (mkF m 10 #[.val (.ref t), .val (.int 1)] [(.int c1)]))
  refine own_ret X2 hx hlk hret (StrChars.narrow_ch r1.1 r1.2) (Or.inl ⟨rfl, by simp, _, rfl⟩) (hb hby d22_10) (by decide) (by decide) ?_
  rw [eh2]
  exact ⟨rfl, N2, rfl⟩
theorem ef_rmX7_2_1 (m : MethodId) (x0 : Nat) (x1 : Int32) : entryFrame m #[(.ref x0), (.int x1)] 2 = mkF m 0 #[.val (.ref x0), .val (.int x1)] [] := by first | (simp [entryFrame, mkF, argsToLocals, Value.category]; done) | rfl
def Q_rmX7_2_1 (Z : State) (t : Nat) (kb : ClassId) (c0 : Int32) (c1 : Int32) (fm : Value) (h0 : Heap) (n0 : Nat) (v : Option Value) (h : Heap) (L : List Loc) : Prop := v = some (.int c1) ∧ Fr n0 L ∧ h = h0
set_option maxRecDepth 65536 in
set_option maxHeartbeats 40000000 in
theorem rmX7_2_1 (l : Launch) (Z : State) (a0 : Array Value) (hw : own_H Z a0) (ws : List Jvm.Cond) (t : Nat) (kb : ClassId) (c0 : Int32) (c1 : Int32) (fm : Value) (h0 : Heap) (n0 : Nat) (XO0 : Old Z n0 h0) (S_f : Sta Z Z.heap "jdk/internal/util/Preconditions" "SIOOBE_FORMATTER" "Ljava/util/function/BiFunction;" fm) (r_f : fm.isRef = true) (V_t : Arv Z h0 t kb .byte (2 : Int32) [(.int (StrChars.lo8 c0)), (.int (StrChars.lo8 c1))] (.int 0)) (r0 : own_c16 c0) (r1 : own_c16 c1) (l0 : ¬ (255 : Int32) < c0) (l1 : ¬ (255 : Int32) < c1) :
    own_M l Z ym15 jdk_43_method_2_code ws 2 (some .char) (own_R 2 0 0 27) #[(.ref t), (.int 1)] h0 (Q_rmX7_2_1 Z t kb c0 c1 fm h0 n0) := by
  refine own_open (plainFor_of_name pn_3) ?_
  intro p e s m below meth c s₁ hx hby hlk hret hml hown hnm hZ X0 e0
  have hW := own_hW hw
  have N0 := Fr.nil n0
  refine own_of (fun tt_ kk_ => castTop (ef_rmX7_2_1 m t (1 : Int32)) kk_) ?_
  show own_go p e below s _ _ _ (s₁.setTop (mkF m 0 #[.val (.ref t), .val (.int 1)] []))
  refine own_of (fun tt_ => XS.iloadN X0.here hx rfl (hb hby d14_0) rfl) ?_
  refine own_of (fun tt_ => XS.aloadN X0.here hx rfl (hb hby d14_1) rfl rfl) ?_
  obtain ⟨cl1, Ar1, q1, S1, Ng1, H1, G1⟩ := id V_t
  refine own_of (fun tt_ kk => X0.arraylength hx (by rw [e0]; exact Ar1.1) (State.isArrayOf_alike hZ.alike Ar1.2.1) (g := (mkF m 2 #[.val (.ref t), .val (.int 1)] [(.ref t), (.int 1)])) rfl rfl (hb hby d14_2) _ (by rw [len_of S1 Ng1]; exact kk)) ?_
  show own_go p e below s _ _ _ (s₁.setTop (mkF m 3 #[.val (.ref t), .val (.int 1)] [(.int 2), (.int 1)]))
  obtain ⟨_, _, ⟨T2, L2, k2, n2⟩, -, X2, ⟨Lc2, hQ2, l2, y2, z2⟩, st2⟩ := Jvm.LawKit.callS X0 hx (y := ym7) hown (mvT hZ (hW 71 _ rfl)) (mvT hZ (hW 72 _ rfl)) (mvT hZ (hW 3 _ rfl)) (mvT hZ (hW 73 _ rfl)) (by decide) (backOf (W := 0) (rmX2 l Z a0 hw [] (1 : Int32) (2 : Int32) fm h0 n0 XO0 S_f r_f (by decide) (by decide)) hZ (hW 73 _ rfl) (hW 3 _ rfl) (by decide) (by decide)) (g := (mkF m 3 #[.val (.ref t), .val (.int 1)] [(.int 2), (.int 1)])) rfl (by rw [hml]; rfl) (argsL := [(.int 1), (.int 2)]) (rest := []) (lenOf pd_10 rfl) rfl (by show 2 * 0 + _ ≤ _; exact Nat.le_of_eq rfl) (hb hby d14_3) (fun _ _ => ⟨rfl, e0, (by decide : 0 + 0 ≤ _), (by decide : 0 + 0 ≤ _)⟩)
  dsimp only [Pt.U, Pt.locs, Pt.cells, Pt.slots] at X2 l2 y2 z2 st2 hQ2
  subst l2 y2 z2
  obtain ⟨rfl, Nq2, eh2⟩ := hQ2
  have N2 := Fr.app N0 Nq2
  refine own_of st2 ?_
  show own_go p e below s _ _ _ (T2.setTop (mkF m 6 #[.val (.ref t), .val (.int 1)] []))
  refine own_of (fun tt_ => XS.aloadN X2.here hx rfl (hb hby d14_6) rfl rfl) ?_
  refine own_of (fun tt_ => XS.iloadN X2.here hx rfl (hb hby d14_7) rfl) ?_
  obtain ⟨cl3, Ar3, q3, S3, Ng3, H3, G3⟩ := id V_t
  have hin3 : ¬ ((1 : Int32) < 0 ∨ cl3.slots.size ≤ ((1 : Int32)).toNatClampNeg) := inb_of S3 ⟨by decide, by decide⟩
  have hat3 : cl3.slots[((1 : Int32)).toNatClampNeg]? = some (.int (StrChars.lo8 c1)) := H3 1 (by rw [S3]; decide)
  refine own_of (fun tt_ => X2.baloadBytes hx (j := (1 : Int32)) (v := (.int (StrChars.lo8 c1))) (by rw [eh2]; exact Ar3.1) (State.isArrayOf_alike hZ.alike Ar3.2.1) Ar3.2.2 hin3 hat3 (g := (mkF m 8 #[.val (.ref t), .val (.int 1)] [(.int 1), (.ref t)])) rfl rfl (hb hby d14_8) _) ?_
  show own_go p e below s _ _ _ (T2.setTop (mkF m 9 #[.val (.ref t), .val (.int 1)] [(.int (StrChars.lo8 c1))]))
  refine own_of (fun tt_ => XS.sipush X2.here hx rfl (hb hby d14_9)) ?_
  refine own_of (fun tt_ => XS.iand X2.here hx rfl (hb hby d14_12) rfl) ?_
  show own_go p e below s _ _ _ (T2.setTop (mkF m 13 #[.val (.ref t), .val (.int 1)] [(.int ((StrChars.lo8 c1) &&& (255 : Int32)))]))
  refine own_of (fun tt_ => XS.i2c X2.here hx rfl (hb hby d14_13) rfl) ?_
  show own_go p e below s _ _ _ (T2.setTop (mkF m 14 #[.val (.ref t), .val (.int 1)] [(.int (((StrChars.lo8 c1) &&& (255 : Int32)).toUInt32.toUInt16.toUInt32.toInt32))]))
  refine own_ret X2 hx hlk hret (XT.narrow_c _) (Or.inl ⟨rfl, by simp, _, rfl⟩) (hb hby d14_14) (by decide) (by decide) ?_
  rw [eh2]
  exact ⟨congrArg (fun z => some (Value.int z)) (StrChars.chr8_lo8 r1.1 l1), N2, rfl⟩
theorem ef_rmX3_3 (m : MethodId) (x0 : Nat) : entryFrame m #[(.ref x0)] 1 = mkF m 0 #[.val (.ref x0)] [] := by first | (simp [entryFrame, mkF, argsToLocals, Value.category]; done) | rfl
def Q_rmX3_3 (Z : State) (t : Nat) (kb : ClassId) (c0 : Int32) (c1 : Int32) (c2 : Int32) (h0 : Heap) (n0 : Nat) (v : Option Value) (h : Heap) (L : List Loc) : Prop := v = some (.int 3) ∧ Fr n0 L ∧ h = h0
set_option maxRecDepth 65536 in
set_option maxHeartbeats 40000000 in
theorem rmX3_3 (l : Launch) (Z : State) (a0 : Array Value) (hw : own_H Z a0) (ws : List Jvm.Cond) (t : Nat) (kb : ClassId) (c0 : Int32) (c1 : Int32) (c2 : Int32) (h0 : Heap) (n0 : Nat) (XO0 : Old Z n0 h0) (V_t : Arv Z h0 t kb .byte (6 : Int32) [(.int (StrChars.lo8 c0)), (.int (StrChars.hi8 c0)), (.int (StrChars.lo8 c1)), (.int (StrChars.hi8 c1)), (.int (StrChars.lo8 c2)), (.int (StrChars.hi8 c2))] (.int 0)) :
    own_M l Z ym18 jdk_52_method_6_code ws 1 (some .int) (own_R 0 0 0 0) #[(.ref t)] h0 (Q_rmX3_3 Z t kb c0 c1 c2 h0 n0) := by
  refine own_open (plainFor_of_name pn_0) ?_
  intro p e s m below meth c s₁ hx hby hlk hret hml hown hnm hZ X0 e0
  have hW := own_hW hw
  have N0 := Fr.nil n0
  refine own_of (fun tt_ kk_ => castTop (ef_rmX3_3 m t) kk_) ?_
  show own_go p e below s _ _ _ (s₁.setTop (mkF m 0 #[.val (.ref t)] []))
  refine own_of (fun tt_ => XS.aloadN X0.here hx rfl (hb hby d24_0) rfl rfl) ?_
  obtain ⟨cl1, Ar1, q1, S1, Ng1, H1, G1⟩ := id V_t
  refine own_of (fun tt_ kk => X0.arraylength hx (by rw [e0]; exact Ar1.1) (State.isArrayOf_alike hZ.alike Ar1.2.1) (g := (mkF m 1 #[.val (.ref t)] [(.ref t)])) rfl rfl (hb hby d24_1) _ (by rw [len_of S1 Ng1]; exact kk)) ?_
  show own_go p e below s _ _ _ (s₁.setTop (mkF m 2 #[.val (.ref t)] [(.int 6)]))
  refine own_of (fun tt_ => XS.iconst X0.here hx rfl (hb hby d24_2)) ?_
  refine own_of (fun tt_ => XS.ishr X0.here hx rfl (hb hby d24_3) rfl) ?_
  show own_go p e below s _ _ _ (s₁.setTop (mkF m 4 #[.val (.ref t)] [(.int 3)]))
  refine own_ret X0 hx hlk hret rfl (Or.inl ⟨rfl, by simp, _, rfl⟩) (hb hby d24_4) (by decide) (by decide) ?_
  rw [e0]
  exact ⟨rfl, N0, rfl⟩
theorem ef_rmX4_3_0 (m : MethodId) (x0 : Int32) (x1 : Nat) : entryFrame m #[(.int x0), (.ref x1)] 2 = mkF m 0 #[.val (.int x0), .val (.ref x1)] [] := by first | (simp [entryFrame, mkF, argsToLocals, Value.category]; done) | rfl
def Q_rmX4_3_0 (Z : State) (t : Nat) (kb : ClassId) (c0 : Int32) (c1 : Int32) (c2 : Int32) (fm : Value) (h0 : Heap) (n0 : Nat) (v : Option Value) (h : Heap) (L : List Loc) : Prop := v = none ∧ Fr n0 L ∧ h = h0
set_option maxRecDepth 65536 in
set_option maxHeartbeats 40000000 in
theorem rmX4_3_0 (l : Launch) (Z : State) (a0 : Array Value) (hw : own_H Z a0) (ws : List Jvm.Cond) (t : Nat) (kb : ClassId) (c0 : Int32) (c1 : Int32) (c2 : Int32) (fm : Value) (h0 : Heap) (n0 : Nat) (XO0 : Old Z n0 h0) (S_f : Sta Z Z.heap "jdk/internal/util/Preconditions" "SIOOBE_FORMATTER" "Ljava/util/function/BiFunction;" fm) (r_f : fm.isRef = true) (V_t : Arv Z h0 t kb .byte (6 : Int32) [(.int (StrChars.lo8 c0)), (.int (StrChars.hi8 c0)), (.int (StrChars.lo8 c1)), (.int (StrChars.hi8 c1)), (.int (StrChars.lo8 c2)), (.int (StrChars.hi8 c2))] (.int 0)) :
    own_M l Z ym13 jdk_52_method_91_code ws 2 none (own_R 2 0 0 27) #[(.int 0), (.ref t)] h0 (Q_rmX4_3_0 Z t kb c0 c1 c2 fm h0 n0) := by
  refine own_open (plainFor_of_name pn_0) ?_
  intro p e s m below meth c s₁ hx hby hlk hret hml hown hnm hZ X0 e0
  have hW := own_hW hw
  have N0 := Fr.nil n0
  refine own_of (fun tt_ kk_ => castTop (ef_rmX4_3_0 m (0 : Int32) t) kk_) ?_
  show own_go p e below s _ _ _ (s₁.setTop (mkF m 0 #[.val (.int 0), .val (.ref t)] []))
  refine own_of (fun tt_ => XS.iloadN X0.here hx rfl (hb hby d23_0) rfl) ?_
  refine own_of (fun tt_ => XS.aloadN X0.here hx rfl (hb hby d23_1) rfl rfl) ?_
  show own_go p e below s _ _ _ (s₁.setTop (mkF m 2 #[.val (.int 0), .val (.ref t)] [(.ref t), (.int 0)]))
  obtain ⟨_, _, ⟨T1, L1, k1, n1⟩, -, X1, ⟨Lc1, hQ1, l1, y1, z1⟩, st1⟩ := Jvm.LawKit.callS X0 hx (y := ym18) hown (mvT hZ (hW 104 _ rfl)) (mvT hZ (hW 105 _ rfl)) (mvT hZ (hW 35 _ rfl)) (mvT hZ (hW 106 _ rfl)) (by decide) (backOf (W := 1) (rmX3_3 l Z a0 hw [] t kb c0 c1 c2 h0 n0 XO0 V_t) hZ (hW 106 _ rfl) (hW 35 _ rfl) (by decide) (by decide)) (g := (mkF m 2 #[.val (.int 0), .val (.ref t)] [(.ref t), (.int 0)])) rfl (by rw [hml]; rfl) (argsL := [(.ref t)]) (rest := [(.int 0)]) (lenOf pd_9 rfl) rfl (by show 2 * 0 + _ ≤ _; exact Nat.le_of_eq rfl) (hb hby d23_2) (fun _ _ => ⟨rfl, e0, (by decide : 0 + 0 ≤ _), (by decide : 0 + 0 ≤ _)⟩)
  dsimp only [Pt.U, Pt.locs, Pt.cells, Pt.slots] at X1 l1 y1 z1 st1 hQ1
  subst l1 y1 z1
  obtain ⟨rfl, Nq1, eh1⟩ := hQ1
  have N1 := Fr.app N0 Nq1
  refine own_of st1 ?_
  show own_go p e below s _ _ _ (T1.setTop (mkF m 5 #[.val (.int 0), .val (.ref t)] [(.int 3), (.int 0)]))
  obtain ⟨_, _, ⟨T2, L2, k2, n2⟩, -, X2, ⟨Lc2, hQ2, l2, y2, z2⟩, st2⟩ := Jvm.LawKit.callS X1 hx (y := ym7) hown (mvT hZ (hW 107 _ rfl)) (mvT hZ (hW 72 _ rfl)) (mvT hZ (hW 3 _ rfl)) (mvT hZ (hW 73 _ rfl)) (by decide) (backOf (W := 0) (rmX2 l Z a0 hw [] (0 : Int32) (3 : Int32) fm h0 n0 XO0 S_f r_f (by decide) (by decide)) hZ (hW 73 _ rfl) (hW 3 _ rfl) (by decide) (by decide)) (g := (mkF m 5 #[.val (.int 0), .val (.ref t)] [(.int 3), (.int 0)])) rfl (by rw [hml]; rfl) (argsL := [(.int 0), (.int 3)]) (rest := []) (lenOf pd_10 rfl) rfl (by show 2 * 0 + _ ≤ _; exact Nat.le_of_eq rfl) (hb hby d23_5) (fun _ _ => ⟨rfl, eh1, (by decide : 0 + 0 ≤ _), (by decide : 0 + 0 ≤ _)⟩)
  dsimp only [Pt.U, Pt.locs, Pt.cells, Pt.slots] at X2 l2 y2 z2 st2 hQ2
  subst l2 y2 z2
  obtain ⟨rfl, Nq2, eh2⟩ := hQ2
  have N2 := Fr.app N1 Nq2
  refine own_of st2 ?_
  show own_go p e below s _ _ _ (T2.setTop (mkF m 8 #[.val (.int 0), .val (.ref t)] []))
  refine own_retV X2 hx hlk hret (hb hby d23_8) (by decide) (by decide) ?_
  rw [eh2]
  exact ⟨rfl, N2, rfl⟩
theorem ef_rmX5_3_0 (m : MethodId) (x0 : Nat) (x1 : Int32) : entryFrame m #[(.ref x0), (.int x1)] 2 = mkF m 0 #[.val (.ref x0), .val (.int x1)] [] := by first | (simp [entryFrame, mkF, argsToLocals, Value.category]; done) | rfl
def Q_rmX5_3_0 (Z : State) (t : Nat) (kb : ClassId) (c0 : Int32) (c1 : Int32) (c2 : Int32) (fm : Value) (h0 : Heap) (n0 : Nat) (v : Option Value) (h : Heap) (L : List Loc) : Prop := v = some (.int c0) ∧ Fr n0 L ∧ h = h0
set_option maxRecDepth 65536 in
set_option maxHeartbeats 40000000 in
theorem rmX5_3_0 (l : Launch) (Z : State) (a0 : Array Value) (hw : own_H Z a0) (ws : List Jvm.Cond) (t : Nat) (kb : ClassId) (c0 : Int32) (c1 : Int32) (c2 : Int32) (fm : Value) (h0 : Heap) (n0 : Nat) (XO0 : Old Z n0 h0) (S_ad : Sta Z Z.heap "java/lang/StringUTF16" "$assertionsDisabled" "Z" (.int 1)) (S_hi : Sta Z Z.heap "java/lang/StringUTF16" "HI_BYTE_SHIFT" "I" (.int 0)) (S_lo : Sta Z Z.heap "java/lang/StringUTF16" "LO_BYTE_SHIFT" "I" (.int 8)) (S_f : Sta Z Z.heap "jdk/internal/util/Preconditions" "SIOOBE_FORMATTER" "Ljava/util/function/BiFunction;" fm) (r_f : fm.isRef = true) (V_t : Arv Z h0 t kb .byte (6 : Int32) [(.int (StrChars.lo8 c0)), (.int (StrChars.hi8 c0)), (.int (StrChars.lo8 c1)), (.int (StrChars.hi8 c1)), (.int (StrChars.lo8 c2)), (.int (StrChars.hi8 c2))] (.int 0)) (r0 : own_c16 c0) (r1 : own_c16 c1) (r2 : own_c16 c2) :
    own_M l Z ym14 jdk_52_method_83_code ws 2 (some .char) (own_R 3 0 0 40) #[(.ref t), (.int 0)] h0 (Q_rmX5_3_0 Z t kb c0 c1 c2 fm h0 n0) := by
  refine own_open (plainFor_of_name pn_0) ?_
  intro p e s m below meth c s₁ hx hby hlk hret hml hown hnm hZ X0 e0
  have hW := own_hW hw
  have N0 := Fr.nil n0
  refine own_of (fun tt_ kk_ => castTop (ef_rmX5_3_0 m t (0 : Int32)) kk_) ?_
  show own_go p e below s _ _ _ (s₁.setTop (mkF m 0 #[.val (.ref t), .val (.int 0)] []))
  refine own_of (fun tt_ => XS.iloadN X0.here hx rfl (hb hby d22_0) rfl) ?_
  refine own_of (fun tt_ => XS.aloadN X0.here hx rfl (hb hby d22_1) rfl rfl) ?_
  show own_go p e below s _ _ _ (s₁.setTop (mkF m 2 #[.val (.ref t), .val (.int 0)] [(.ref t), (.int 0)]))
  obtain ⟨_, _, ⟨T1, L1, k1, n1⟩, -, X1, ⟨Lc1, hQ1, l1, y1, z1⟩, st1⟩ := Jvm.LawKit.callS X0 hx (y := ym13) hown (mvT hZ (hW 101 _ rfl)) (mvT hZ (hW 102 _ rfl)) (mvT hZ (hW 35 _ rfl)) (mvT hZ (hW 103 _ rfl)) (by decide) (backOf (W := 0) (rmX4_3_0 l Z a0 hw [] t kb c0 c1 c2 fm h0 n0 XO0 S_f r_f V_t) hZ (hW 103 _ rfl) (hW 35 _ rfl) (by decide) (by decide)) (g := (mkF m 2 #[.val (.ref t), .val (.int 0)] [(.ref t), (.int 0)])) rfl (by rw [hml]; rfl) (argsL := [(.int 0), (.ref t)]) (rest := []) (lenOf pd_11 rfl) rfl (by show 2 * 0 + _ ≤ _; exact Nat.le_of_eq rfl) (hb hby d22_2) (fun _ _ => ⟨rfl, e0, (by decide : 0 + 0 ≤ _), (by decide : 0 + 0 ≤ _)⟩)
  dsimp only [Pt.U, Pt.locs, Pt.cells, Pt.slots] at X1 l1 y1 z1 st1 hQ1
  subst l1 y1 z1
  obtain ⟨rfl, Nq1, eh1⟩ := hQ1
  have N1 := Fr.app N0 Nq1
  refine own_of st1 ?_
  show own_go p e below s _ _ _ (T1.setTop (mkF m 5 #[.val (.ref t), .val (.int 0)] []))
  refine own_of (fun tt_ => XS.aloadN X1.here hx rfl (hb hby d22_5) rfl rfl) ?_
  refine own_of (fun tt_ => XS.iloadN X1.here hx rfl (hb hby d22_6) rfl) ?_
  show own_go p e below s _ _ _ (T1.setTop (mkF m 7 #[.val (.ref t), .val (.int 0)] [(.int 0), (.ref t)]))
  obtain ⟨_, _, ⟨T2, L2, k2, n2⟩, -, X2, ⟨Lc2, hQ2, l2, y2, z2⟩, st2⟩ := Jvm.LawKit.callS X1 hx (y := ym4) hown (mvT hZ (hW 95 _ rfl)) (mvT hZ (hW 96 _ rfl)) (mvT hZ (hW 35 _ rfl)) (mvT hZ (hW 97 _ rfl)) (by decide) (backOf (W := 0) (rmG_3_0 l Z a0 hw [] t kb (StrChars.lo8 c0) (StrChars.hi8 c0) (StrChars.lo8 c1) (StrChars.hi8 c1) (StrChars.lo8 c2) (StrChars.hi8 c2) h0 n0 XO0 S_ad S_hi S_lo V_t) hZ (hW 97 _ rfl) (hW 35 _ rfl) (by decide) (by decide)) (g := (mkF m 7 #[.val (.ref t), .val (.int 0)] [(.int 0), (.ref t)])) rfl (by rw [hml]; rfl) (argsL := [(.ref t), (.int 0)]) (rest := []) (lenOf pd_5 rfl) rfl (by show 2 * 0 + _ ≤ _; exact Nat.le_of_eq rfl) (hb hby d22_7) (fun _ _ => ⟨rfl, eh1, (by decide : 0 + 0 ≤ _), (by decide : 0 + 0 ≤ _)⟩)
  dsimp only [Pt.U, Pt.locs, Pt.cells, Pt.slots] at X2 l2 y2 z2 st2 hQ2
  subst l2 y2 z2
  obtain ⟨rfl, Nq2, eh2⟩ := hQ2
  have N2 := Fr.app N1 Nq2
  refine own_of st2 ?_
  rw [StrChars.pair_says r0.1 r0.2]
  show own_go p e below s _ _ _ (T2.setTop (mkF m 10 #[.val (.ref t), .val (.int 0)] [(.int c0)]))
  refine own_ret X2 hx hlk hret (StrChars.narrow_ch r0.1 r0.2) (Or.inl ⟨rfl, by simp, _, rfl⟩) (hb hby d22_10) (by decide) (by decide) ?_
  rw [eh2]
  exact ⟨rfl, N2, rfl⟩
theorem ef_rmX7_3_0 (m : MethodId) (x0 : Nat) (x1 : Int32) : entryFrame m #[(.ref x0), (.int x1)] 2 = mkF m 0 #[.val (.ref x0), .val (.int x1)] [] := by first | (simp [entryFrame, mkF, argsToLocals, Value.category]; done) | rfl
def Q_rmX7_3_0 (Z : State) (t : Nat) (kb : ClassId) (c0 : Int32) (c1 : Int32) (c2 : Int32) (fm : Value) (h0 : Heap) (n0 : Nat) (v : Option Value) (h : Heap) (L : List Loc) : Prop := v = some (.int c0) ∧ Fr n0 L ∧ h = h0
set_option maxRecDepth 65536 in
set_option maxHeartbeats 40000000 in
theorem rmX7_3_0 (l : Launch) (Z : State) (a0 : Array Value) (hw : own_H Z a0) (ws : List Jvm.Cond) (t : Nat) (kb : ClassId) (c0 : Int32) (c1 : Int32) (c2 : Int32) (fm : Value) (h0 : Heap) (n0 : Nat) (XO0 : Old Z n0 h0) (S_f : Sta Z Z.heap "jdk/internal/util/Preconditions" "SIOOBE_FORMATTER" "Ljava/util/function/BiFunction;" fm) (r_f : fm.isRef = true) (V_t : Arv Z h0 t kb .byte (3 : Int32) [(.int (StrChars.lo8 c0)), (.int (StrChars.lo8 c1)), (.int (StrChars.lo8 c2))] (.int 0)) (r0 : own_c16 c0) (r1 : own_c16 c1) (r2 : own_c16 c2) (l0 : ¬ (255 : Int32) < c0) (l1 : ¬ (255 : Int32) < c1) (l2 : ¬ (255 : Int32) < c2) :
    own_M l Z ym15 jdk_43_method_2_code ws 2 (some .char) (own_R 2 0 0 27) #[(.ref t), (.int 0)] h0 (Q_rmX7_3_0 Z t kb c0 c1 c2 fm h0 n0) := by
  refine own_open (plainFor_of_name pn_3) ?_
  intro p e s m below meth c s₁ hx hby hlk hret hml hown hnm hZ X0 e0
  have hW := own_hW hw
  have N0 := Fr.nil n0
  refine own_of (fun tt_ kk_ => castTop (ef_rmX7_3_0 m t (0 : Int32)) kk_) ?_
  show own_go p e below s _ _ _ (s₁.setTop (mkF m 0 #[.val (.ref t), .val (.int 0)] []))
  refine own_of (fun tt_ => XS.iloadN X0.here hx rfl (hb hby d14_0) rfl) ?_
  refine own_of (fun tt_ => XS.aloadN X0.here hx rfl (hb hby d14_1) rfl rfl) ?_
  obtain ⟨cl1, Ar1, q1, S1, Ng1, H1, G1⟩ := id V_t
  refine own_of (fun tt_ kk => X0.arraylength hx (by rw [e0]; exact Ar1.1) (State.isArrayOf_alike hZ.alike Ar1.2.1) (g := (mkF m 2 #[.val (.ref t), .val (.int 0)] [(.ref t), (.int 0)])) rfl rfl (hb hby d14_2) _ (by rw [len_of S1 Ng1]; exact kk)) ?_
  show own_go p e below s _ _ _ (s₁.setTop (mkF m 3 #[.val (.ref t), .val (.int 0)] [(.int 3), (.int 0)]))
  obtain ⟨_, _, ⟨T2, L2, k2, n2⟩, -, X2, ⟨Lc2, hQ2, l2, y2, z2⟩, st2⟩ := Jvm.LawKit.callS X0 hx (y := ym7) hown (mvT hZ (hW 71 _ rfl)) (mvT hZ (hW 72 _ rfl)) (mvT hZ (hW 3 _ rfl)) (mvT hZ (hW 73 _ rfl)) (by decide) (backOf (W := 0) (rmX2 l Z a0 hw [] (0 : Int32) (3 : Int32) fm h0 n0 XO0 S_f r_f (by decide) (by decide)) hZ (hW 73 _ rfl) (hW 3 _ rfl) (by decide) (by decide)) (g := (mkF m 3 #[.val (.ref t), .val (.int 0)] [(.int 3), (.int 0)])) rfl (by rw [hml]; rfl) (argsL := [(.int 0), (.int 3)]) (rest := []) (lenOf pd_10 rfl) rfl (by show 2 * 0 + _ ≤ _; exact Nat.le_of_eq rfl) (hb hby d14_3) (fun _ _ => ⟨rfl, e0, (by decide : 0 + 0 ≤ _), (by decide : 0 + 0 ≤ _)⟩)
  dsimp only [Pt.U, Pt.locs, Pt.cells, Pt.slots] at X2 l2 y2 z2 st2 hQ2
  subst l2 y2 z2
  obtain ⟨rfl, Nq2, eh2⟩ := hQ2
  have N2 := Fr.app N0 Nq2
  refine own_of st2 ?_
  show own_go p e below s _ _ _ (T2.setTop (mkF m 6 #[.val (.ref t), .val (.int 0)] []))
  refine own_of (fun tt_ => XS.aloadN X2.here hx rfl (hb hby d14_6) rfl rfl) ?_
  refine own_of (fun tt_ => XS.iloadN X2.here hx rfl (hb hby d14_7) rfl) ?_
  obtain ⟨cl3, Ar3, q3, S3, Ng3, H3, G3⟩ := id V_t
  have hin3 : ¬ ((0 : Int32) < 0 ∨ cl3.slots.size ≤ ((0 : Int32)).toNatClampNeg) := inb_of S3 ⟨by decide, by decide⟩
  have hat3 : cl3.slots[((0 : Int32)).toNatClampNeg]? = some (.int (StrChars.lo8 c0)) := H3 0 (by rw [S3]; decide)
  refine own_of (fun tt_ => X2.baloadBytes hx (j := (0 : Int32)) (v := (.int (StrChars.lo8 c0))) (by rw [eh2]; exact Ar3.1) (State.isArrayOf_alike hZ.alike Ar3.2.1) Ar3.2.2 hin3 hat3 (g := (mkF m 8 #[.val (.ref t), .val (.int 0)] [(.int 0), (.ref t)])) rfl rfl (hb hby d14_8) _) ?_
  show own_go p e below s _ _ _ (T2.setTop (mkF m 9 #[.val (.ref t), .val (.int 0)] [(.int (StrChars.lo8 c0))]))
  refine own_of (fun tt_ => XS.sipush X2.here hx rfl (hb hby d14_9)) ?_
  refine own_of (fun tt_ => XS.iand X2.here hx rfl (hb hby d14_12) rfl) ?_
  show own_go p e below s _ _ _ (T2.setTop (mkF m 13 #[.val (.ref t), .val (.int 0)] [(.int ((StrChars.lo8 c0) &&& (255 : Int32)))]))
  refine own_of (fun tt_ => XS.i2c X2.here hx rfl (hb hby d14_13) rfl) ?_
  show own_go p e below s _ _ _ (T2.setTop (mkF m 14 #[.val (.ref t), .val (.int 0)] [(.int (((StrChars.lo8 c0) &&& (255 : Int32)).toUInt32.toUInt16.toUInt32.toInt32))]))
  refine own_ret X2 hx hlk hret (XT.narrow_c _) (Or.inl ⟨rfl, by simp, _, rfl⟩) (hb hby d14_14) (by decide) (by decide) ?_
  rw [eh2]
  exact ⟨congrArg (fun z => some (Value.int z)) (StrChars.chr8_lo8 r0.1 l0), N2, rfl⟩
theorem ef_rmX4_3_1 (m : MethodId) (x0 : Int32) (x1 : Nat) : entryFrame m #[(.int x0), (.ref x1)] 2 = mkF m 0 #[.val (.int x0), .val (.ref x1)] [] := by first | (simp [entryFrame, mkF, argsToLocals, Value.category]; done) | rfl
def Q_rmX4_3_1 (Z : State) (t : Nat) (kb : ClassId) (c0 : Int32) (c1 : Int32) (c2 : Int32) (fm : Value) (h0 : Heap) (n0 : Nat) (v : Option Value) (h : Heap) (L : List Loc) : Prop := v = none ∧ Fr n0 L ∧ h = h0
set_option maxRecDepth 65536 in
set_option maxHeartbeats 40000000 in
theorem rmX4_3_1 (l : Launch) (Z : State) (a0 : Array Value) (hw : own_H Z a0) (ws : List Jvm.Cond) (t : Nat) (kb : ClassId) (c0 : Int32) (c1 : Int32) (c2 : Int32) (fm : Value) (h0 : Heap) (n0 : Nat) (XO0 : Old Z n0 h0) (S_f : Sta Z Z.heap "jdk/internal/util/Preconditions" "SIOOBE_FORMATTER" "Ljava/util/function/BiFunction;" fm) (r_f : fm.isRef = true) (V_t : Arv Z h0 t kb .byte (6 : Int32) [(.int (StrChars.lo8 c0)), (.int (StrChars.hi8 c0)), (.int (StrChars.lo8 c1)), (.int (StrChars.hi8 c1)), (.int (StrChars.lo8 c2)), (.int (StrChars.hi8 c2))] (.int 0)) :
    own_M l Z ym13 jdk_52_method_91_code ws 2 none (own_R 2 0 0 27) #[(.int 1), (.ref t)] h0 (Q_rmX4_3_1 Z t kb c0 c1 c2 fm h0 n0) := by
  refine own_open (plainFor_of_name pn_0) ?_
  intro p e s m below meth c s₁ hx hby hlk hret hml hown hnm hZ X0 e0
  have hW := own_hW hw
  have N0 := Fr.nil n0
  refine own_of (fun tt_ kk_ => castTop (ef_rmX4_3_1 m (1 : Int32) t) kk_) ?_
  show own_go p e below s _ _ _ (s₁.setTop (mkF m 0 #[.val (.int 1), .val (.ref t)] []))
  refine own_of (fun tt_ => XS.iloadN X0.here hx rfl (hb hby d23_0) rfl) ?_
  refine own_of (fun tt_ => XS.aloadN X0.here hx rfl (hb hby d23_1) rfl rfl) ?_
  show own_go p e below s _ _ _ (s₁.setTop (mkF m 2 #[.val (.int 1), .val (.ref t)] [(.ref t), (.int 1)]))
  obtain ⟨_, _, ⟨T1, L1, k1, n1⟩, -, X1, ⟨Lc1, hQ1, l1, y1, z1⟩, st1⟩ := Jvm.LawKit.callS X0 hx (y := ym18) hown (mvT hZ (hW 104 _ rfl)) (mvT hZ (hW 105 _ rfl)) (mvT hZ (hW 35 _ rfl)) (mvT hZ (hW 106 _ rfl)) (by decide) (backOf (W := 1) (rmX3_3 l Z a0 hw [] t kb c0 c1 c2 h0 n0 XO0 V_t) hZ (hW 106 _ rfl) (hW 35 _ rfl) (by decide) (by decide)) (g := (mkF m 2 #[.val (.int 1), .val (.ref t)] [(.ref t), (.int 1)])) rfl (by rw [hml]; rfl) (argsL := [(.ref t)]) (rest := [(.int 1)]) (lenOf pd_9 rfl) rfl (by show 2 * 0 + _ ≤ _; exact Nat.le_of_eq rfl) (hb hby d23_2) (fun _ _ => ⟨rfl, e0, (by decide : 0 + 0 ≤ _), (by decide : 0 + 0 ≤ _)⟩)
  dsimp only [Pt.U, Pt.locs, Pt.cells, Pt.slots] at X1 l1 y1 z1 st1 hQ1
  subst l1 y1 z1
  obtain ⟨rfl, Nq1, eh1⟩ := hQ1
  have N1 := Fr.app N0 Nq1
  refine own_of st1 ?_
  show own_go p e below s _ _ _ (T1.setTop (mkF m 5 #[.val (.int 1), .val (.ref t)] [(.int 3), (.int 1)]))
  obtain ⟨_, _, ⟨T2, L2, k2, n2⟩, -, X2, ⟨Lc2, hQ2, l2, y2, z2⟩, st2⟩ := Jvm.LawKit.callS X1 hx (y := ym7) hown (mvT hZ (hW 107 _ rfl)) (mvT hZ (hW 72 _ rfl)) (mvT hZ (hW 3 _ rfl)) (mvT hZ (hW 73 _ rfl)) (by decide) (backOf (W := 0) (rmX2 l Z a0 hw [] (1 : Int32) (3 : Int32) fm h0 n0 XO0 S_f r_f (by decide) (by decide)) hZ (hW 73 _ rfl) (hW 3 _ rfl) (by decide) (by decide)) (g := (mkF m 5 #[.val (.int 1), .val (.ref t)] [(.int 3), (.int 1)])) rfl (by rw [hml]; rfl) (argsL := [(.int 1), (.int 3)]) (rest := []) (lenOf pd_10 rfl) rfl (by show 2 * 0 + _ ≤ _; exact Nat.le_of_eq rfl) (hb hby d23_5) (fun _ _ => ⟨rfl, eh1, (by decide : 0 + 0 ≤ _), (by decide : 0 + 0 ≤ _)⟩)
  dsimp only [Pt.U, Pt.locs, Pt.cells, Pt.slots] at X2 l2 y2 z2 st2 hQ2
  subst l2 y2 z2
  obtain ⟨rfl, Nq2, eh2⟩ := hQ2
  have N2 := Fr.app N1 Nq2
  refine own_of st2 ?_
  show own_go p e below s _ _ _ (T2.setTop (mkF m 8 #[.val (.int 1), .val (.ref t)] []))
  refine own_retV X2 hx hlk hret (hb hby d23_8) (by decide) (by decide) ?_
  rw [eh2]
  exact ⟨rfl, N2, rfl⟩
theorem ef_rmX5_3_1 (m : MethodId) (x0 : Nat) (x1 : Int32) : entryFrame m #[(.ref x0), (.int x1)] 2 = mkF m 0 #[.val (.ref x0), .val (.int x1)] [] := by first | (simp [entryFrame, mkF, argsToLocals, Value.category]; done) | rfl
def Q_rmX5_3_1 (Z : State) (t : Nat) (kb : ClassId) (c0 : Int32) (c1 : Int32) (c2 : Int32) (fm : Value) (h0 : Heap) (n0 : Nat) (v : Option Value) (h : Heap) (L : List Loc) : Prop := v = some (.int c1) ∧ Fr n0 L ∧ h = h0
set_option maxRecDepth 65536 in
set_option maxHeartbeats 40000000 in
theorem rmX5_3_1 (l : Launch) (Z : State) (a0 : Array Value) (hw : own_H Z a0) (ws : List Jvm.Cond) (t : Nat) (kb : ClassId) (c0 : Int32) (c1 : Int32) (c2 : Int32) (fm : Value) (h0 : Heap) (n0 : Nat) (XO0 : Old Z n0 h0) (S_ad : Sta Z Z.heap "java/lang/StringUTF16" "$assertionsDisabled" "Z" (.int 1)) (S_hi : Sta Z Z.heap "java/lang/StringUTF16" "HI_BYTE_SHIFT" "I" (.int 0)) (S_lo : Sta Z Z.heap "java/lang/StringUTF16" "LO_BYTE_SHIFT" "I" (.int 8)) (S_f : Sta Z Z.heap "jdk/internal/util/Preconditions" "SIOOBE_FORMATTER" "Ljava/util/function/BiFunction;" fm) (r_f : fm.isRef = true) (V_t : Arv Z h0 t kb .byte (6 : Int32) [(.int (StrChars.lo8 c0)), (.int (StrChars.hi8 c0)), (.int (StrChars.lo8 c1)), (.int (StrChars.hi8 c1)), (.int (StrChars.lo8 c2)), (.int (StrChars.hi8 c2))] (.int 0)) (r0 : own_c16 c0) (r1 : own_c16 c1) (r2 : own_c16 c2) :
    own_M l Z ym14 jdk_52_method_83_code ws 2 (some .char) (own_R 3 0 0 40) #[(.ref t), (.int 1)] h0 (Q_rmX5_3_1 Z t kb c0 c1 c2 fm h0 n0) := by
  refine own_open (plainFor_of_name pn_0) ?_
  intro p e s m below meth c s₁ hx hby hlk hret hml hown hnm hZ X0 e0
  have hW := own_hW hw
  have N0 := Fr.nil n0
  refine own_of (fun tt_ kk_ => castTop (ef_rmX5_3_1 m t (1 : Int32)) kk_) ?_
  show own_go p e below s _ _ _ (s₁.setTop (mkF m 0 #[.val (.ref t), .val (.int 1)] []))
  refine own_of (fun tt_ => XS.iloadN X0.here hx rfl (hb hby d22_0) rfl) ?_
  refine own_of (fun tt_ => XS.aloadN X0.here hx rfl (hb hby d22_1) rfl rfl) ?_
  show own_go p e below s _ _ _ (s₁.setTop (mkF m 2 #[.val (.ref t), .val (.int 1)] [(.ref t), (.int 1)]))
  obtain ⟨_, _, ⟨T1, L1, k1, n1⟩, -, X1, ⟨Lc1, hQ1, l1, y1, z1⟩, st1⟩ := Jvm.LawKit.callS X0 hx (y := ym13) hown (mvT hZ (hW 101 _ rfl)) (mvT hZ (hW 102 _ rfl)) (mvT hZ (hW 35 _ rfl)) (mvT hZ (hW 103 _ rfl)) (by decide) (backOf (W := 0) (rmX4_3_1 l Z a0 hw [] t kb c0 c1 c2 fm h0 n0 XO0 S_f r_f V_t) hZ (hW 103 _ rfl) (hW 35 _ rfl) (by decide) (by decide)) (g := (mkF m 2 #[.val (.ref t), .val (.int 1)] [(.ref t), (.int 1)])) rfl (by rw [hml]; rfl) (argsL := [(.int 1), (.ref t)]) (rest := []) (lenOf pd_11 rfl) rfl (by show 2 * 0 + _ ≤ _; exact Nat.le_of_eq rfl) (hb hby d22_2) (fun _ _ => ⟨rfl, e0, (by decide : 0 + 0 ≤ _), (by decide : 0 + 0 ≤ _)⟩)
  dsimp only [Pt.U, Pt.locs, Pt.cells, Pt.slots] at X1 l1 y1 z1 st1 hQ1
  subst l1 y1 z1
  obtain ⟨rfl, Nq1, eh1⟩ := hQ1
  have N1 := Fr.app N0 Nq1
  refine own_of st1 ?_
  show own_go p e below s _ _ _ (T1.setTop (mkF m 5 #[.val (.ref t), .val (.int 1)] []))
  refine own_of (fun tt_ => XS.aloadN X1.here hx rfl (hb hby d22_5) rfl rfl) ?_
  refine own_of (fun tt_ => XS.iloadN X1.here hx rfl (hb hby d22_6) rfl) ?_
  show own_go p e below s _ _ _ (T1.setTop (mkF m 7 #[.val (.ref t), .val (.int 1)] [(.int 1), (.ref t)]))
  obtain ⟨_, _, ⟨T2, L2, k2, n2⟩, -, X2, ⟨Lc2, hQ2, l2, y2, z2⟩, st2⟩ := Jvm.LawKit.callS X1 hx (y := ym4) hown (mvT hZ (hW 95 _ rfl)) (mvT hZ (hW 96 _ rfl)) (mvT hZ (hW 35 _ rfl)) (mvT hZ (hW 97 _ rfl)) (by decide) (backOf (W := 0) (rmG_3_1 l Z a0 hw [] t kb (StrChars.lo8 c0) (StrChars.hi8 c0) (StrChars.lo8 c1) (StrChars.hi8 c1) (StrChars.lo8 c2) (StrChars.hi8 c2) h0 n0 XO0 S_ad S_hi S_lo V_t) hZ (hW 97 _ rfl) (hW 35 _ rfl) (by decide) (by decide)) (g := (mkF m 7 #[.val (.ref t), .val (.int 1)] [(.int 1), (.ref t)])) rfl (by rw [hml]; rfl) (argsL := [(.ref t), (.int 1)]) (rest := []) (lenOf pd_5 rfl) rfl (by show 2 * 0 + _ ≤ _; exact Nat.le_of_eq rfl) (hb hby d22_7) (fun _ _ => ⟨rfl, eh1, (by decide : 0 + 0 ≤ _), (by decide : 0 + 0 ≤ _)⟩)
  dsimp only [Pt.U, Pt.locs, Pt.cells, Pt.slots] at X2 l2 y2 z2 st2 hQ2
  subst l2 y2 z2
  obtain ⟨rfl, Nq2, eh2⟩ := hQ2
  have N2 := Fr.app N1 Nq2
  refine own_of st2 ?_
  rw [StrChars.pair_says r1.1 r1.2]
  show own_go p e below s _ _ _ (T2.setTop (mkF m 10 #[.val (.ref t), .val (.int 1)] [(.int c1)]))
  refine own_ret X2 hx hlk hret (StrChars.narrow_ch r1.1 r1.2) (Or.inl ⟨rfl, by simp, _, rfl⟩) (hb hby d22_10) (by decide) (by decide) ?_
  rw [eh2]
  exact ⟨rfl, N2, rfl⟩
theorem ef_rmX7_3_1 (m : MethodId) (x0 : Nat) (x1 : Int32) : entryFrame m #[(.ref x0), (.int x1)] 2 = mkF m 0 #[.val (.ref x0), .val (.int x1)] [] := by first | (simp [entryFrame, mkF, argsToLocals, Value.category]; done) | rfl
def Q_rmX7_3_1 (Z : State) (t : Nat) (kb : ClassId) (c0 : Int32) (c1 : Int32) (c2 : Int32) (fm : Value) (h0 : Heap) (n0 : Nat) (v : Option Value) (h : Heap) (L : List Loc) : Prop := v = some (.int c1) ∧ Fr n0 L ∧ h = h0
set_option maxRecDepth 65536 in
set_option maxHeartbeats 40000000 in
theorem rmX7_3_1 (l : Launch) (Z : State) (a0 : Array Value) (hw : own_H Z a0) (ws : List Jvm.Cond) (t : Nat) (kb : ClassId) (c0 : Int32) (c1 : Int32) (c2 : Int32) (fm : Value) (h0 : Heap) (n0 : Nat) (XO0 : Old Z n0 h0) (S_f : Sta Z Z.heap "jdk/internal/util/Preconditions" "SIOOBE_FORMATTER" "Ljava/util/function/BiFunction;" fm) (r_f : fm.isRef = true) (V_t : Arv Z h0 t kb .byte (3 : Int32) [(.int (StrChars.lo8 c0)), (.int (StrChars.lo8 c1)), (.int (StrChars.lo8 c2))] (.int 0)) (r0 : own_c16 c0) (r1 : own_c16 c1) (r2 : own_c16 c2) (l0 : ¬ (255 : Int32) < c0) (l1 : ¬ (255 : Int32) < c1) (l2 : ¬ (255 : Int32) < c2) :
    own_M l Z ym15 jdk_43_method_2_code ws 2 (some .char) (own_R 2 0 0 27) #[(.ref t), (.int 1)] h0 (Q_rmX7_3_1 Z t kb c0 c1 c2 fm h0 n0) := by
  refine own_open (plainFor_of_name pn_3) ?_
  intro p e s m below meth c s₁ hx hby hlk hret hml hown hnm hZ X0 e0
  have hW := own_hW hw
  have N0 := Fr.nil n0
  refine own_of (fun tt_ kk_ => castTop (ef_rmX7_3_1 m t (1 : Int32)) kk_) ?_
  show own_go p e below s _ _ _ (s₁.setTop (mkF m 0 #[.val (.ref t), .val (.int 1)] []))
  refine own_of (fun tt_ => XS.iloadN X0.here hx rfl (hb hby d14_0) rfl) ?_
  refine own_of (fun tt_ => XS.aloadN X0.here hx rfl (hb hby d14_1) rfl rfl) ?_
  obtain ⟨cl1, Ar1, q1, S1, Ng1, H1, G1⟩ := id V_t
  refine own_of (fun tt_ kk => X0.arraylength hx (by rw [e0]; exact Ar1.1) (State.isArrayOf_alike hZ.alike Ar1.2.1) (g := (mkF m 2 #[.val (.ref t), .val (.int 1)] [(.ref t), (.int 1)])) rfl rfl (hb hby d14_2) _ (by rw [len_of S1 Ng1]; exact kk)) ?_
  show own_go p e below s _ _ _ (s₁.setTop (mkF m 3 #[.val (.ref t), .val (.int 1)] [(.int 3), (.int 1)]))
  obtain ⟨_, _, ⟨T2, L2, k2, n2⟩, -, X2, ⟨Lc2, hQ2, l2, y2, z2⟩, st2⟩ := Jvm.LawKit.callS X0 hx (y := ym7) hown (mvT hZ (hW 71 _ rfl)) (mvT hZ (hW 72 _ rfl)) (mvT hZ (hW 3 _ rfl)) (mvT hZ (hW 73 _ rfl)) (by decide) (backOf (W := 0) (rmX2 l Z a0 hw [] (1 : Int32) (3 : Int32) fm h0 n0 XO0 S_f r_f (by decide) (by decide)) hZ (hW 73 _ rfl) (hW 3 _ rfl) (by decide) (by decide)) (g := (mkF m 3 #[.val (.ref t), .val (.int 1)] [(.int 3), (.int 1)])) rfl (by rw [hml]; rfl) (argsL := [(.int 1), (.int 3)]) (rest := []) (lenOf pd_10 rfl) rfl (by show 2 * 0 + _ ≤ _; exact Nat.le_of_eq rfl) (hb hby d14_3) (fun _ _ => ⟨rfl, e0, (by decide : 0 + 0 ≤ _), (by decide : 0 + 0 ≤ _)⟩)
  dsimp only [Pt.U, Pt.locs, Pt.cells, Pt.slots] at X2 l2 y2 z2 st2 hQ2
  subst l2 y2 z2
  obtain ⟨rfl, Nq2, eh2⟩ := hQ2
  have N2 := Fr.app N0 Nq2
  refine own_of st2 ?_
  show own_go p e below s _ _ _ (T2.setTop (mkF m 6 #[.val (.ref t), .val (.int 1)] []))
  refine own_of (fun tt_ => XS.aloadN X2.here hx rfl (hb hby d14_6) rfl rfl) ?_
  refine own_of (fun tt_ => XS.iloadN X2.here hx rfl (hb hby d14_7) rfl) ?_
  obtain ⟨cl3, Ar3, q3, S3, Ng3, H3, G3⟩ := id V_t
  have hin3 : ¬ ((1 : Int32) < 0 ∨ cl3.slots.size ≤ ((1 : Int32)).toNatClampNeg) := inb_of S3 ⟨by decide, by decide⟩
  have hat3 : cl3.slots[((1 : Int32)).toNatClampNeg]? = some (.int (StrChars.lo8 c1)) := H3 1 (by rw [S3]; decide)
  refine own_of (fun tt_ => X2.baloadBytes hx (j := (1 : Int32)) (v := (.int (StrChars.lo8 c1))) (by rw [eh2]; exact Ar3.1) (State.isArrayOf_alike hZ.alike Ar3.2.1) Ar3.2.2 hin3 hat3 (g := (mkF m 8 #[.val (.ref t), .val (.int 1)] [(.int 1), (.ref t)])) rfl rfl (hb hby d14_8) _) ?_
  show own_go p e below s _ _ _ (T2.setTop (mkF m 9 #[.val (.ref t), .val (.int 1)] [(.int (StrChars.lo8 c1))]))
  refine own_of (fun tt_ => XS.sipush X2.here hx rfl (hb hby d14_9)) ?_
  refine own_of (fun tt_ => XS.iand X2.here hx rfl (hb hby d14_12) rfl) ?_
  show own_go p e below s _ _ _ (T2.setTop (mkF m 13 #[.val (.ref t), .val (.int 1)] [(.int ((StrChars.lo8 c1) &&& (255 : Int32)))]))
  refine own_of (fun tt_ => XS.i2c X2.here hx rfl (hb hby d14_13) rfl) ?_
  show own_go p e below s _ _ _ (T2.setTop (mkF m 14 #[.val (.ref t), .val (.int 1)] [(.int (((StrChars.lo8 c1) &&& (255 : Int32)).toUInt32.toUInt16.toUInt32.toInt32))]))
  refine own_ret X2 hx hlk hret (XT.narrow_c _) (Or.inl ⟨rfl, by simp, _, rfl⟩) (hb hby d14_14) (by decide) (by decide) ?_
  rw [eh2]
  exact ⟨congrArg (fun z => some (Value.int z)) (StrChars.chr8_lo8 r1.1 l1), N2, rfl⟩
theorem ef_rmX4_3_2 (m : MethodId) (x0 : Int32) (x1 : Nat) : entryFrame m #[(.int x0), (.ref x1)] 2 = mkF m 0 #[.val (.int x0), .val (.ref x1)] [] := by first | (simp [entryFrame, mkF, argsToLocals, Value.category]; done) | rfl
def Q_rmX4_3_2 (Z : State) (t : Nat) (kb : ClassId) (c0 : Int32) (c1 : Int32) (c2 : Int32) (fm : Value) (h0 : Heap) (n0 : Nat) (v : Option Value) (h : Heap) (L : List Loc) : Prop := v = none ∧ Fr n0 L ∧ h = h0
set_option maxRecDepth 65536 in
set_option maxHeartbeats 40000000 in
theorem rmX4_3_2 (l : Launch) (Z : State) (a0 : Array Value) (hw : own_H Z a0) (ws : List Jvm.Cond) (t : Nat) (kb : ClassId) (c0 : Int32) (c1 : Int32) (c2 : Int32) (fm : Value) (h0 : Heap) (n0 : Nat) (XO0 : Old Z n0 h0) (S_f : Sta Z Z.heap "jdk/internal/util/Preconditions" "SIOOBE_FORMATTER" "Ljava/util/function/BiFunction;" fm) (r_f : fm.isRef = true) (V_t : Arv Z h0 t kb .byte (6 : Int32) [(.int (StrChars.lo8 c0)), (.int (StrChars.hi8 c0)), (.int (StrChars.lo8 c1)), (.int (StrChars.hi8 c1)), (.int (StrChars.lo8 c2)), (.int (StrChars.hi8 c2))] (.int 0)) :
    own_M l Z ym13 jdk_52_method_91_code ws 2 none (own_R 2 0 0 27) #[(.int 2), (.ref t)] h0 (Q_rmX4_3_2 Z t kb c0 c1 c2 fm h0 n0) := by
  refine own_open (plainFor_of_name pn_0) ?_
  intro p e s m below meth c s₁ hx hby hlk hret hml hown hnm hZ X0 e0
  have hW := own_hW hw
  have N0 := Fr.nil n0
  refine own_of (fun tt_ kk_ => castTop (ef_rmX4_3_2 m (2 : Int32) t) kk_) ?_
  show own_go p e below s _ _ _ (s₁.setTop (mkF m 0 #[.val (.int 2), .val (.ref t)] []))
  refine own_of (fun tt_ => XS.iloadN X0.here hx rfl (hb hby d23_0) rfl) ?_
  refine own_of (fun tt_ => XS.aloadN X0.here hx rfl (hb hby d23_1) rfl rfl) ?_
  show own_go p e below s _ _ _ (s₁.setTop (mkF m 2 #[.val (.int 2), .val (.ref t)] [(.ref t), (.int 2)]))
  obtain ⟨_, _, ⟨T1, L1, k1, n1⟩, -, X1, ⟨Lc1, hQ1, l1, y1, z1⟩, st1⟩ := Jvm.LawKit.callS X0 hx (y := ym18) hown (mvT hZ (hW 104 _ rfl)) (mvT hZ (hW 105 _ rfl)) (mvT hZ (hW 35 _ rfl)) (mvT hZ (hW 106 _ rfl)) (by decide) (backOf (W := 1) (rmX3_3 l Z a0 hw [] t kb c0 c1 c2 h0 n0 XO0 V_t) hZ (hW 106 _ rfl) (hW 35 _ rfl) (by decide) (by decide)) (g := (mkF m 2 #[.val (.int 2), .val (.ref t)] [(.ref t), (.int 2)])) rfl (by rw [hml]; rfl) (argsL := [(.ref t)]) (rest := [(.int 2)]) (lenOf pd_9 rfl) rfl (by show 2 * 0 + _ ≤ _; exact Nat.le_of_eq rfl) (hb hby d23_2) (fun _ _ => ⟨rfl, e0, (by decide : 0 + 0 ≤ _), (by decide : 0 + 0 ≤ _)⟩)
  dsimp only [Pt.U, Pt.locs, Pt.cells, Pt.slots] at X1 l1 y1 z1 st1 hQ1
  subst l1 y1 z1
  obtain ⟨rfl, Nq1, eh1⟩ := hQ1
  have N1 := Fr.app N0 Nq1
  refine own_of st1 ?_
  show own_go p e below s _ _ _ (T1.setTop (mkF m 5 #[.val (.int 2), .val (.ref t)] [(.int 3), (.int 2)]))
  obtain ⟨_, _, ⟨T2, L2, k2, n2⟩, -, X2, ⟨Lc2, hQ2, l2, y2, z2⟩, st2⟩ := Jvm.LawKit.callS X1 hx (y := ym7) hown (mvT hZ (hW 107 _ rfl)) (mvT hZ (hW 72 _ rfl)) (mvT hZ (hW 3 _ rfl)) (mvT hZ (hW 73 _ rfl)) (by decide) (backOf (W := 0) (rmX2 l Z a0 hw [] (2 : Int32) (3 : Int32) fm h0 n0 XO0 S_f r_f (by decide) (by decide)) hZ (hW 73 _ rfl) (hW 3 _ rfl) (by decide) (by decide)) (g := (mkF m 5 #[.val (.int 2), .val (.ref t)] [(.int 3), (.int 2)])) rfl (by rw [hml]; rfl) (argsL := [(.int 2), (.int 3)]) (rest := []) (lenOf pd_10 rfl) rfl (by show 2 * 0 + _ ≤ _; exact Nat.le_of_eq rfl) (hb hby d23_5) (fun _ _ => ⟨rfl, eh1, (by decide : 0 + 0 ≤ _), (by decide : 0 + 0 ≤ _)⟩)
  dsimp only [Pt.U, Pt.locs, Pt.cells, Pt.slots] at X2 l2 y2 z2 st2 hQ2
  subst l2 y2 z2
  obtain ⟨rfl, Nq2, eh2⟩ := hQ2
  have N2 := Fr.app N1 Nq2
  refine own_of st2 ?_
  show own_go p e below s _ _ _ (T2.setTop (mkF m 8 #[.val (.int 2), .val (.ref t)] []))
  refine own_retV X2 hx hlk hret (hb hby d23_8) (by decide) (by decide) ?_
  rw [eh2]
  exact ⟨rfl, N2, rfl⟩
theorem ef_rmX5_3_2 (m : MethodId) (x0 : Nat) (x1 : Int32) : entryFrame m #[(.ref x0), (.int x1)] 2 = mkF m 0 #[.val (.ref x0), .val (.int x1)] [] := by first | (simp [entryFrame, mkF, argsToLocals, Value.category]; done) | rfl
def Q_rmX5_3_2 (Z : State) (t : Nat) (kb : ClassId) (c0 : Int32) (c1 : Int32) (c2 : Int32) (fm : Value) (h0 : Heap) (n0 : Nat) (v : Option Value) (h : Heap) (L : List Loc) : Prop := v = some (.int c2) ∧ Fr n0 L ∧ h = h0
set_option maxRecDepth 65536 in
set_option maxHeartbeats 40000000 in
theorem rmX5_3_2 (l : Launch) (Z : State) (a0 : Array Value) (hw : own_H Z a0) (ws : List Jvm.Cond) (t : Nat) (kb : ClassId) (c0 : Int32) (c1 : Int32) (c2 : Int32) (fm : Value) (h0 : Heap) (n0 : Nat) (XO0 : Old Z n0 h0) (S_ad : Sta Z Z.heap "java/lang/StringUTF16" "$assertionsDisabled" "Z" (.int 1)) (S_hi : Sta Z Z.heap "java/lang/StringUTF16" "HI_BYTE_SHIFT" "I" (.int 0)) (S_lo : Sta Z Z.heap "java/lang/StringUTF16" "LO_BYTE_SHIFT" "I" (.int 8)) (S_f : Sta Z Z.heap "jdk/internal/util/Preconditions" "SIOOBE_FORMATTER" "Ljava/util/function/BiFunction;" fm) (r_f : fm.isRef = true) (V_t : Arv Z h0 t kb .byte (6 : Int32) [(.int (StrChars.lo8 c0)), (.int (StrChars.hi8 c0)), (.int (StrChars.lo8 c1)), (.int (StrChars.hi8 c1)), (.int (StrChars.lo8 c2)), (.int (StrChars.hi8 c2))] (.int 0)) (r0 : own_c16 c0) (r1 : own_c16 c1) (r2 : own_c16 c2) :
    own_M l Z ym14 jdk_52_method_83_code ws 2 (some .char) (own_R 3 0 0 40) #[(.ref t), (.int 2)] h0 (Q_rmX5_3_2 Z t kb c0 c1 c2 fm h0 n0) := by
  refine own_open (plainFor_of_name pn_0) ?_
  intro p e s m below meth c s₁ hx hby hlk hret hml hown hnm hZ X0 e0
  have hW := own_hW hw
  have N0 := Fr.nil n0
  refine own_of (fun tt_ kk_ => castTop (ef_rmX5_3_2 m t (2 : Int32)) kk_) ?_
  show own_go p e below s _ _ _ (s₁.setTop (mkF m 0 #[.val (.ref t), .val (.int 2)] []))
  refine own_of (fun tt_ => XS.iloadN X0.here hx rfl (hb hby d22_0) rfl) ?_
  refine own_of (fun tt_ => XS.aloadN X0.here hx rfl (hb hby d22_1) rfl rfl) ?_
  show own_go p e below s _ _ _ (s₁.setTop (mkF m 2 #[.val (.ref t), .val (.int 2)] [(.ref t), (.int 2)]))
  obtain ⟨_, _, ⟨T1, L1, k1, n1⟩, -, X1, ⟨Lc1, hQ1, l1, y1, z1⟩, st1⟩ := Jvm.LawKit.callS X0 hx (y := ym13) hown (mvT hZ (hW 101 _ rfl)) (mvT hZ (hW 102 _ rfl)) (mvT hZ (hW 35 _ rfl)) (mvT hZ (hW 103 _ rfl)) (by decide) (backOf (W := 0) (rmX4_3_2 l Z a0 hw [] t kb c0 c1 c2 fm h0 n0 XO0 S_f r_f V_t) hZ (hW 103 _ rfl) (hW 35 _ rfl) (by decide) (by decide)) (g := (mkF m 2 #[.val (.ref t), .val (.int 2)] [(.ref t), (.int 2)])) rfl (by rw [hml]; rfl) (argsL := [(.int 2), (.ref t)]) (rest := []) (lenOf pd_11 rfl) rfl (by show 2 * 0 + _ ≤ _; exact Nat.le_of_eq rfl) (hb hby d22_2) (fun _ _ => ⟨rfl, e0, (by decide : 0 + 0 ≤ _), (by decide : 0 + 0 ≤ _)⟩)
  dsimp only [Pt.U, Pt.locs, Pt.cells, Pt.slots] at X1 l1 y1 z1 st1 hQ1
  subst l1 y1 z1
  obtain ⟨rfl, Nq1, eh1⟩ := hQ1
  have N1 := Fr.app N0 Nq1
  refine own_of st1 ?_
  show own_go p e below s _ _ _ (T1.setTop (mkF m 5 #[.val (.ref t), .val (.int 2)] []))
  refine own_of (fun tt_ => XS.aloadN X1.here hx rfl (hb hby d22_5) rfl rfl) ?_
  refine own_of (fun tt_ => XS.iloadN X1.here hx rfl (hb hby d22_6) rfl) ?_
  show own_go p e below s _ _ _ (T1.setTop (mkF m 7 #[.val (.ref t), .val (.int 2)] [(.int 2), (.ref t)]))
  obtain ⟨_, _, ⟨T2, L2, k2, n2⟩, -, X2, ⟨Lc2, hQ2, l2, y2, z2⟩, st2⟩ := Jvm.LawKit.callS X1 hx (y := ym4) hown (mvT hZ (hW 95 _ rfl)) (mvT hZ (hW 96 _ rfl)) (mvT hZ (hW 35 _ rfl)) (mvT hZ (hW 97 _ rfl)) (by decide) (backOf (W := 0) (rmG_3_2 l Z a0 hw [] t kb (StrChars.lo8 c0) (StrChars.hi8 c0) (StrChars.lo8 c1) (StrChars.hi8 c1) (StrChars.lo8 c2) (StrChars.hi8 c2) h0 n0 XO0 S_ad S_hi S_lo V_t) hZ (hW 97 _ rfl) (hW 35 _ rfl) (by decide) (by decide)) (g := (mkF m 7 #[.val (.ref t), .val (.int 2)] [(.int 2), (.ref t)])) rfl (by rw [hml]; rfl) (argsL := [(.ref t), (.int 2)]) (rest := []) (lenOf pd_5 rfl) rfl (by show 2 * 0 + _ ≤ _; exact Nat.le_of_eq rfl) (hb hby d22_7) (fun _ _ => ⟨rfl, eh1, (by decide : 0 + 0 ≤ _), (by decide : 0 + 0 ≤ _)⟩)
  dsimp only [Pt.U, Pt.locs, Pt.cells, Pt.slots] at X2 l2 y2 z2 st2 hQ2
  subst l2 y2 z2
  obtain ⟨rfl, Nq2, eh2⟩ := hQ2
  have N2 := Fr.app N1 Nq2
  refine own_of st2 ?_
  rw [StrChars.pair_says r2.1 r2.2]
  show own_go p e below s _ _ _ (T2.setTop (mkF m 10 #[.val (.ref t), .val (.int 2)] [(.int c2)]))
  refine own_ret X2 hx hlk hret (StrChars.narrow_ch r2.1 r2.2) (Or.inl ⟨rfl, by simp, _, rfl⟩) (hb hby d22_10) (by decide) (by decide) ?_
  rw [eh2]
  exact ⟨rfl, N2, rfl⟩
theorem ef_rmX7_3_2 (m : MethodId) (x0 : Nat) (x1 : Int32) : entryFrame m #[(.ref x0), (.int x1)] 2 = mkF m 0 #[.val (.ref x0), .val (.int x1)] [] := by first | (simp [entryFrame, mkF, argsToLocals, Value.category]; done) | rfl
def Q_rmX7_3_2 (Z : State) (t : Nat) (kb : ClassId) (c0 : Int32) (c1 : Int32) (c2 : Int32) (fm : Value) (h0 : Heap) (n0 : Nat) (v : Option Value) (h : Heap) (L : List Loc) : Prop := v = some (.int c2) ∧ Fr n0 L ∧ h = h0
set_option maxRecDepth 65536 in
set_option maxHeartbeats 40000000 in
theorem rmX7_3_2 (l : Launch) (Z : State) (a0 : Array Value) (hw : own_H Z a0) (ws : List Jvm.Cond) (t : Nat) (kb : ClassId) (c0 : Int32) (c1 : Int32) (c2 : Int32) (fm : Value) (h0 : Heap) (n0 : Nat) (XO0 : Old Z n0 h0) (S_f : Sta Z Z.heap "jdk/internal/util/Preconditions" "SIOOBE_FORMATTER" "Ljava/util/function/BiFunction;" fm) (r_f : fm.isRef = true) (V_t : Arv Z h0 t kb .byte (3 : Int32) [(.int (StrChars.lo8 c0)), (.int (StrChars.lo8 c1)), (.int (StrChars.lo8 c2))] (.int 0)) (r0 : own_c16 c0) (r1 : own_c16 c1) (r2 : own_c16 c2) (l0 : ¬ (255 : Int32) < c0) (l1 : ¬ (255 : Int32) < c1) (l2 : ¬ (255 : Int32) < c2) :
    own_M l Z ym15 jdk_43_method_2_code ws 2 (some .char) (own_R 2 0 0 27) #[(.ref t), (.int 2)] h0 (Q_rmX7_3_2 Z t kb c0 c1 c2 fm h0 n0) := by
  refine own_open (plainFor_of_name pn_3) ?_
  intro p e s m below meth c s₁ hx hby hlk hret hml hown hnm hZ X0 e0
  have hW := own_hW hw
  have N0 := Fr.nil n0
  refine own_of (fun tt_ kk_ => castTop (ef_rmX7_3_2 m t (2 : Int32)) kk_) ?_
  show own_go p e below s _ _ _ (s₁.setTop (mkF m 0 #[.val (.ref t), .val (.int 2)] []))
  refine own_of (fun tt_ => XS.iloadN X0.here hx rfl (hb hby d14_0) rfl) ?_
  refine own_of (fun tt_ => XS.aloadN X0.here hx rfl (hb hby d14_1) rfl rfl) ?_
  obtain ⟨cl1, Ar1, q1, S1, Ng1, H1, G1⟩ := id V_t
  refine own_of (fun tt_ kk => X0.arraylength hx (by rw [e0]; exact Ar1.1) (State.isArrayOf_alike hZ.alike Ar1.2.1) (g := (mkF m 2 #[.val (.ref t), .val (.int 2)] [(.ref t), (.int 2)])) rfl rfl (hb hby d14_2) _ (by rw [len_of S1 Ng1]; exact kk)) ?_
  show own_go p e below s _ _ _ (s₁.setTop (mkF m 3 #[.val (.ref t), .val (.int 2)] [(.int 3), (.int 2)]))
  obtain ⟨_, _, ⟨T2, L2, k2, n2⟩, -, X2, ⟨Lc2, hQ2, l2, y2, z2⟩, st2⟩ := Jvm.LawKit.callS X0 hx (y := ym7) hown (mvT hZ (hW 71 _ rfl)) (mvT hZ (hW 72 _ rfl)) (mvT hZ (hW 3 _ rfl)) (mvT hZ (hW 73 _ rfl)) (by decide) (backOf (W := 0) (rmX2 l Z a0 hw [] (2 : Int32) (3 : Int32) fm h0 n0 XO0 S_f r_f (by decide) (by decide)) hZ (hW 73 _ rfl) (hW 3 _ rfl) (by decide) (by decide)) (g := (mkF m 3 #[.val (.ref t), .val (.int 2)] [(.int 3), (.int 2)])) rfl (by rw [hml]; rfl) (argsL := [(.int 2), (.int 3)]) (rest := []) (lenOf pd_10 rfl) rfl (by show 2 * 0 + _ ≤ _; exact Nat.le_of_eq rfl) (hb hby d14_3) (fun _ _ => ⟨rfl, e0, (by decide : 0 + 0 ≤ _), (by decide : 0 + 0 ≤ _)⟩)
  dsimp only [Pt.U, Pt.locs, Pt.cells, Pt.slots] at X2 l2 y2 z2 st2 hQ2
  subst l2 y2 z2
  obtain ⟨rfl, Nq2, eh2⟩ := hQ2
  have N2 := Fr.app N0 Nq2
  refine own_of st2 ?_
  show own_go p e below s _ _ _ (T2.setTop (mkF m 6 #[.val (.ref t), .val (.int 2)] []))
  refine own_of (fun tt_ => XS.aloadN X2.here hx rfl (hb hby d14_6) rfl rfl) ?_
  refine own_of (fun tt_ => XS.iloadN X2.here hx rfl (hb hby d14_7) rfl) ?_
  obtain ⟨cl3, Ar3, q3, S3, Ng3, H3, G3⟩ := id V_t
  have hin3 : ¬ ((2 : Int32) < 0 ∨ cl3.slots.size ≤ ((2 : Int32)).toNatClampNeg) := inb_of S3 ⟨by decide, by decide⟩
  have hat3 : cl3.slots[((2 : Int32)).toNatClampNeg]? = some (.int (StrChars.lo8 c2)) := H3 2 (by rw [S3]; decide)
  refine own_of (fun tt_ => X2.baloadBytes hx (j := (2 : Int32)) (v := (.int (StrChars.lo8 c2))) (by rw [eh2]; exact Ar3.1) (State.isArrayOf_alike hZ.alike Ar3.2.1) Ar3.2.2 hin3 hat3 (g := (mkF m 8 #[.val (.ref t), .val (.int 2)] [(.int 2), (.ref t)])) rfl rfl (hb hby d14_8) _) ?_
  show own_go p e below s _ _ _ (T2.setTop (mkF m 9 #[.val (.ref t), .val (.int 2)] [(.int (StrChars.lo8 c2))]))
  refine own_of (fun tt_ => XS.sipush X2.here hx rfl (hb hby d14_9)) ?_
  refine own_of (fun tt_ => XS.iand X2.here hx rfl (hb hby d14_12) rfl) ?_
  show own_go p e below s _ _ _ (T2.setTop (mkF m 13 #[.val (.ref t), .val (.int 2)] [(.int ((StrChars.lo8 c2) &&& (255 : Int32)))]))
  refine own_of (fun tt_ => XS.i2c X2.here hx rfl (hb hby d14_13) rfl) ?_
  show own_go p e below s _ _ _ (T2.setTop (mkF m 14 #[.val (.ref t), .val (.int 2)] [(.int (((StrChars.lo8 c2) &&& (255 : Int32)).toUInt32.toUInt16.toUInt32.toInt32))]))
  refine own_ret X2 hx hlk hret (XT.narrow_c _) (Or.inl ⟨rfl, by simp, _, rfl⟩) (hb hby d14_14) (by decide) (by decide) ?_
  rw [eh2]
  exact ⟨congrArg (fun z => some (Value.int z)) (StrChars.chr8_lo8 r2.1 l2), N2, rfl⟩
def own_qv (z : Int32) (h0 : Heap) (n0 : Nat) (v : Option Value) (h : Heap) (L : List Loc) : Prop := v = some (.int z) ∧ Fr n0 L ∧ h = h0
theorem ef_rmY_0 (m : MethodId) (x0 : Nat) : entryFrame m #[(.ref x0)] 1 = mkF m 0 #[.val (.ref x0)] [] := by first | (simp [entryFrame, mkF, argsToLocals, Value.category]; done) | rfl
theorem d13_0 : decode jdk_42_method_154_code 0 = .ok (.getstatic 38, 3) := by decide +kernel
theorem d13_3 : decode jdk_42_method_154_code 3 = .ok (.ifCond .eq 14, 3) := by decide +kernel
theorem d13_6 : decode jdk_42_method_154_code 6 = .ok (.aload_n 0, 1) := by decide +kernel
theorem d13_7 : decode jdk_42_method_154_code 7 = .ok (.getfield 15, 3) := by decide +kernel
theorem d13_10 : decode jdk_42_method_154_code 10 = .ok (.ifCond .ne 7, 3) := by decide +kernel
theorem d13_13 : decode jdk_42_method_154_code 13 = .ok (.iconst 1, 1) := by decide +kernel
theorem d13_14 : decode jdk_42_method_154_code 14 = .ok (.goto 4, 3) := by decide +kernel
theorem d13_18 : decode jdk_42_method_154_code 18 = .ok (.ireturn, 1) := by decide +kernel
def Q_rmY_0 (Z : State) (x : Nat) (Gc : Int32) (h0 : Heap) (n0 : Nat) (v : Option Value) (h : Heap) (L : List Loc) : Prop := v = some (.int 1) ∧ Fr n0 L ∧ h = h0
set_option maxRecDepth 65536 in
set_option maxHeartbeats 40000000 in
theorem rmY_0 (l : Launch) (Z : State) (a0 : Array Value) (hw : own_H Z a0) (ws : List Jvm.Cond) (x : Nat) (Gc : Int32) (h0 : Heap) (n0 : Nat) (XO0 : Old Z n0 h0) (Oc : Sta Z Z.heap "java/lang/String" "COMPACT_STRINGS" "Z" (.int Gc)) (Pc : ¬ (Gc = (0 : Int32))) (F_c : Fld Z h0 x "java/lang/String" "coder" "B" (.int 0)) :
    own_M l Z ym2 jdk_42_method_154_code ws 1 (some .boolean) (own_R 0 0 0 0) #[(.ref x)] h0 (Q_rmY_0 Z x Gc h0 n0) := by
  refine own_open (plainFor_of_name pn_1) ?_
  intro p e s m below meth c s₁ hx hby hlk hret hml hown hnm hZ X0 e0
  have hW := own_hW hw
  have N0 := Fr.nil n0
  refine own_of (fun tt_ kk_ => castTop (ef_rmY_0 m x) kk_) ?_
  show own_go p e below s _ _ _ (s₁.setTop (mkF m 0 #[.val (.ref x)] []))
  obtain ⟨T1, X1, e1, st1⟩ := getS2 X0 hx hZ hown (host := "") (Or.inl (hW 32 _ rfl)) Via.refl e0 (Oc.ext XO0.2) (g := (mkF m 0 #[.val (.ref x)] [])) rfl (hb hby d13_0)
  refine own_of st1 ?_
  show own_go p e below s _ _ _ (T1.setTop (mkF m 3 #[.val (.ref x)] [(.int Gc)]))
  have hb3_2 : ¬ (Gc = (0 : Int32)) := Pc
  refine own_of (fun tt_ => XS.ifNo X1.here hx rfl (hb hby d13_3) rfl ((if0 _ _).trans (feq hb3_2).1)) ?_
  show own_go p e below s _ _ _ (T1.setTop (mkF m 6 #[.val (.ref x)] []))
  refine own_of (fun tt_ => XS.aloadN X1.here hx rfl (hb hby d13_6) rfl rfl) ?_
  obtain ⟨T3, X3, e3, st3⟩ := getF X1 hx hZ hown (host := "") (Or.inl (hW 22 _ rfl)) Via.refl e1 F_c (g := (mkF m 7 #[.val (.ref x)] [(.ref x)])) rfl rfl (hb hby d13_7)
  refine own_of st3 ?_
  show own_go p e below s _ _ _ (T3.setTop (mkF m 10 #[.val (.ref x)] [(.int 0)]))
  have hb10_4 : (0 : Int32) = (0 : Int32) := by decide
  refine own_of (fun tt_ => XS.ifNo X3.here hx rfl (hb hby d13_10) rfl ((if0 _ _).trans (teq hb10_4).2)) ?_
  show own_go p e below s _ _ _ (T3.setTop (mkF m 13 #[.val (.ref x)] []))
  refine own_of (fun tt_ => XS.iconst X3.here hx rfl (hb hby d13_13)) ?_
  refine own_of (fun tt_ => XS.goto X3.here hx rfl (pc0 := 14) (pc' := 18) rfl (hb hby d13_14) (by decide) (by decide)) ?_
  show own_go p e below s _ _ _ (T3.setTop (mkF m 18 #[.val (.ref x)] [(.int 1)]))
  refine own_ret X3 hx hlk hret rfl (Or.inl ⟨rfl, by simp, _, rfl⟩) (hb hby d13_18) (by decide) (by decide) ?_
  rw [e3]
  exact ⟨rfl, N0, rfl⟩
theorem ef_rmO_0 (m : MethodId) (x0 : Nat) : entryFrame m #[(.ref x0)] 1 = mkF m 0 #[.val (.ref x0)] [] := by first | (simp [entryFrame, mkF, argsToLocals, Value.category]; done) | rfl
theorem d11_0 : decode jdk_42_method_152_code 0 = .ok (.getstatic 38, 3) := by decide +kernel
theorem d11_3 : decode jdk_42_method_152_code 3 = .ok (.ifCond .eq 10, 3) := by decide +kernel
theorem d11_6 : decode jdk_42_method_152_code 6 = .ok (.aload_n 0, 1) := by decide +kernel
theorem d11_7 : decode jdk_42_method_152_code 7 = .ok (.getfield 15, 3) := by decide +kernel
theorem d11_10 : decode jdk_42_method_152_code 10 = .ok (.goto 4, 3) := by decide +kernel
theorem d11_14 : decode jdk_42_method_152_code 14 = .ok (.ireturn, 1) := by decide +kernel
def Q_rmO_0 (Z : State) (x : Nat) (Gc : Int32) (h0 : Heap) (n0 : Nat) (v : Option Value) (h : Heap) (L : List Loc) : Prop := v = some (.int 0) ∧ Fr n0 L ∧ h = h0
set_option maxRecDepth 65536 in
set_option maxHeartbeats 40000000 in
theorem rmO_0 (l : Launch) (Z : State) (a0 : Array Value) (hw : own_H Z a0) (ws : List Jvm.Cond) (x : Nat) (Gc : Int32) (h0 : Heap) (n0 : Nat) (XO0 : Old Z n0 h0) (Oc : Sta Z Z.heap "java/lang/String" "COMPACT_STRINGS" "Z" (.int Gc)) (Pc : ¬ (Gc = (0 : Int32))) (F_c : Fld Z h0 x "java/lang/String" "coder" "B" (.int 0)) :
    own_M l Z ym6 jdk_42_method_152_code ws 1 (some .byte) (own_R 0 0 0 0) #[(.ref x)] h0 (Q_rmO_0 Z x Gc h0 n0) := by
  refine own_open (plainFor_of_name pn_1) ?_
  intro p e s m below meth c s₁ hx hby hlk hret hml hown hnm hZ X0 e0
  have hW := own_hW hw
  have N0 := Fr.nil n0
  refine own_of (fun tt_ kk_ => castTop (ef_rmO_0 m x) kk_) ?_
  show own_go p e below s _ _ _ (s₁.setTop (mkF m 0 #[.val (.ref x)] []))
  obtain ⟨T1, X1, e1, st1⟩ := getS2 X0 hx hZ hown (host := "") (Or.inl (hW 32 _ rfl)) Via.refl e0 (Oc.ext XO0.2) (g := (mkF m 0 #[.val (.ref x)] [])) rfl (hb hby d11_0)
  refine own_of st1 ?_
  show own_go p e below s _ _ _ (T1.setTop (mkF m 3 #[.val (.ref x)] [(.int Gc)]))
  have hb3_2 : ¬ (Gc = (0 : Int32)) := Pc
  refine own_of (fun tt_ => XS.ifNo X1.here hx rfl (hb hby d11_3) rfl ((if0 _ _).trans (feq hb3_2).1)) ?_
  show own_go p e below s _ _ _ (T1.setTop (mkF m 6 #[.val (.ref x)] []))
  refine own_of (fun tt_ => XS.aloadN X1.here hx rfl (hb hby d11_6) rfl rfl) ?_
  obtain ⟨T3, X3, e3, st3⟩ := getF X1 hx hZ hown (host := "") (Or.inl (hW 22 _ rfl)) Via.refl e1 F_c (g := (mkF m 7 #[.val (.ref x)] [(.ref x)])) rfl rfl (hb hby d11_7)
  refine own_of st3 ?_
  show own_go p e below s _ _ _ (T3.setTop (mkF m 10 #[.val (.ref x)] [(.int 0)]))
  refine own_of (fun tt_ => XS.goto X3.here hx rfl (pc0 := 10) (pc' := 14) rfl (hb hby d11_10) (by decide) (by decide)) ?_
  show own_go p e below s _ _ _ (T3.setTop (mkF m 14 #[.val (.ref x)] [(.int 0)]))
  refine own_ret X3 hx hlk hret rfl (Or.inl ⟨rfl, by simp, _, rfl⟩) (hb hby d11_14) (by decide) (by decide) ?_
  rw [e3]
  exact ⟨rfl, N0, rfl⟩
theorem ef_rmY_1 (m : MethodId) (x0 : Nat) : entryFrame m #[(.ref x0)] 1 = mkF m 0 #[.val (.ref x0)] [] := by first | (simp [entryFrame, mkF, argsToLocals, Value.category]; done) | rfl
theorem d13_17 : decode jdk_42_method_154_code 17 = .ok (.iconst 0, 1) := by decide +kernel
def Q_rmY_1 (Z : State) (x : Nat) (Gc : Int32) (h0 : Heap) (n0 : Nat) (v : Option Value) (h : Heap) (L : List Loc) : Prop := v = some (.int 0) ∧ Fr n0 L ∧ h = h0
set_option maxRecDepth 65536 in
set_option maxHeartbeats 40000000 in
theorem rmY_1 (l : Launch) (Z : State) (a0 : Array Value) (hw : own_H Z a0) (ws : List Jvm.Cond) (x : Nat) (Gc : Int32) (h0 : Heap) (n0 : Nat) (XO0 : Old Z n0 h0) (Oc : Sta Z Z.heap "java/lang/String" "COMPACT_STRINGS" "Z" (.int Gc)) (Pc : ¬ (Gc = (0 : Int32))) (F_c : Fld Z h0 x "java/lang/String" "coder" "B" (.int 1)) :
    own_M l Z ym2 jdk_42_method_154_code ws 1 (some .boolean) (own_R 0 0 0 0) #[(.ref x)] h0 (Q_rmY_1 Z x Gc h0 n0) := by
  refine own_open (plainFor_of_name pn_1) ?_
  intro p e s m below meth c s₁ hx hby hlk hret hml hown hnm hZ X0 e0
  have hW := own_hW hw
  have N0 := Fr.nil n0
  refine own_of (fun tt_ kk_ => castTop (ef_rmY_1 m x) kk_) ?_
  show own_go p e below s _ _ _ (s₁.setTop (mkF m 0 #[.val (.ref x)] []))
  obtain ⟨T1, X1, e1, st1⟩ := getS2 X0 hx hZ hown (host := "") (Or.inl (hW 32 _ rfl)) Via.refl e0 (Oc.ext XO0.2) (g := (mkF m 0 #[.val (.ref x)] [])) rfl (hb hby d13_0)
  refine own_of st1 ?_
  show own_go p e below s _ _ _ (T1.setTop (mkF m 3 #[.val (.ref x)] [(.int Gc)]))
  have hb3_2 : ¬ (Gc = (0 : Int32)) := Pc
  refine own_of (fun tt_ => XS.ifNo X1.here hx rfl (hb hby d13_3) rfl ((if0 _ _).trans (feq hb3_2).1)) ?_
  show own_go p e below s _ _ _ (T1.setTop (mkF m 6 #[.val (.ref x)] []))
  refine own_of (fun tt_ => XS.aloadN X1.here hx rfl (hb hby d13_6) rfl rfl) ?_
  obtain ⟨T3, X3, e3, st3⟩ := getF X1 hx hZ hown (host := "") (Or.inl (hW 22 _ rfl)) Via.refl e1 F_c (g := (mkF m 7 #[.val (.ref x)] [(.ref x)])) rfl rfl (hb hby d13_7)
  refine own_of st3 ?_
  show own_go p e below s _ _ _ (T3.setTop (mkF m 10 #[.val (.ref x)] [(.int 1)]))
  have hb10_4 : ¬ ((1 : Int32) = (0 : Int32)) := by decide
  refine own_of (fun tt_ => XS.ifYes X3.here hx rfl (pc0 := 10) (pc' := 17) rfl (hb hby d13_10) rfl ((if0 _ _).trans (feq hb10_4).2) (by decide) (by decide)) ?_
  show own_go p e below s _ _ _ (T3.setTop (mkF m 17 #[.val (.ref x)] []))
  refine own_of (fun tt_ => XS.iconst X3.here hx rfl (hb hby d13_17)) ?_
  show own_go p e below s _ _ _ (T3.setTop (mkF m 18 #[.val (.ref x)] [(.int 0)]))
  refine own_ret X3 hx hlk hret rfl (Or.inl ⟨rfl, by simp, _, rfl⟩) (hb hby d13_18) (by decide) (by decide) ?_
  rw [e3]
  exact ⟨rfl, N0, rfl⟩
theorem ef_rmO_1 (m : MethodId) (x0 : Nat) : entryFrame m #[(.ref x0)] 1 = mkF m 0 #[.val (.ref x0)] [] := by first | (simp [entryFrame, mkF, argsToLocals, Value.category]; done) | rfl
def Q_rmO_1 (Z : State) (x : Nat) (Gc : Int32) (h0 : Heap) (n0 : Nat) (v : Option Value) (h : Heap) (L : List Loc) : Prop := v = some (.int 1) ∧ Fr n0 L ∧ h = h0
set_option maxRecDepth 65536 in
set_option maxHeartbeats 40000000 in
theorem rmO_1 (l : Launch) (Z : State) (a0 : Array Value) (hw : own_H Z a0) (ws : List Jvm.Cond) (x : Nat) (Gc : Int32) (h0 : Heap) (n0 : Nat) (XO0 : Old Z n0 h0) (Oc : Sta Z Z.heap "java/lang/String" "COMPACT_STRINGS" "Z" (.int Gc)) (Pc : ¬ (Gc = (0 : Int32))) (F_c : Fld Z h0 x "java/lang/String" "coder" "B" (.int 1)) :
    own_M l Z ym6 jdk_42_method_152_code ws 1 (some .byte) (own_R 0 0 0 0) #[(.ref x)] h0 (Q_rmO_1 Z x Gc h0 n0) := by
  refine own_open (plainFor_of_name pn_1) ?_
  intro p e s m below meth c s₁ hx hby hlk hret hml hown hnm hZ X0 e0
  have hW := own_hW hw
  have N0 := Fr.nil n0
  refine own_of (fun tt_ kk_ => castTop (ef_rmO_1 m x) kk_) ?_
  show own_go p e below s _ _ _ (s₁.setTop (mkF m 0 #[.val (.ref x)] []))
  obtain ⟨T1, X1, e1, st1⟩ := getS2 X0 hx hZ hown (host := "") (Or.inl (hW 32 _ rfl)) Via.refl e0 (Oc.ext XO0.2) (g := (mkF m 0 #[.val (.ref x)] [])) rfl (hb hby d11_0)
  refine own_of st1 ?_
  show own_go p e below s _ _ _ (T1.setTop (mkF m 3 #[.val (.ref x)] [(.int Gc)]))
  have hb3_2 : ¬ (Gc = (0 : Int32)) := Pc
  refine own_of (fun tt_ => XS.ifNo X1.here hx rfl (hb hby d11_3) rfl ((if0 _ _).trans (feq hb3_2).1)) ?_
  show own_go p e below s _ _ _ (T1.setTop (mkF m 6 #[.val (.ref x)] []))
  refine own_of (fun tt_ => XS.aloadN X1.here hx rfl (hb hby d11_6) rfl rfl) ?_
  obtain ⟨T3, X3, e3, st3⟩ := getF X1 hx hZ hown (host := "") (Or.inl (hW 22 _ rfl)) Via.refl e1 F_c (g := (mkF m 7 #[.val (.ref x)] [(.ref x)])) rfl rfl (hb hby d11_7)
  refine own_of st3 ?_
  show own_go p e below s _ _ _ (T3.setTop (mkF m 10 #[.val (.ref x)] [(.int 1)]))
  refine own_of (fun tt_ => XS.goto X3.here hx rfl (pc0 := 10) (pc' := 14) rfl (hb hby d11_10) (by decide) (by decide)) ?_
  show own_go p e below s _ _ _ (T3.setTop (mkF m 14 #[.val (.ref x)] [(.int 1)]))
  refine own_ret X3 hx hlk hret rfl (Or.inl ⟨rfl, by simp, _, rfl⟩) (hb hby d11_14) (by decide) (by decide) ?_
  rw [e3]
  exact ⟨rfl, N0, rfl⟩
theorem ef_rmI_0_0 (m : MethodId) (x0 : Nat) : entryFrame m #[(.ref x0)] 1 = mkF m 0 #[.val (.ref x0)] [] := by first | (simp [entryFrame, mkF, argsToLocals, Value.category]; done) | rfl
theorem d5_0 : decode jdk_42_method_55_code 0 = .ok (.aload_n 0, 1) := by decide +kernel
theorem d5_1 : decode jdk_42_method_55_code 1 = .ok (.getfield 9, 3) := by decide +kernel
theorem d5_4 : decode jdk_42_method_55_code 4 = .ok (.arraylength, 1) := by decide +kernel
theorem d5_5 : decode jdk_42_method_55_code 5 = .ok (.ifCond .ne 7, 3) := by decide +kernel
theorem d5_8 : decode jdk_42_method_55_code 8 = .ok (.iconst 1, 1) := by decide +kernel
theorem d5_9 : decode jdk_42_method_55_code 9 = .ok (.goto 4, 3) := by decide +kernel
theorem d5_13 : decode jdk_42_method_55_code 13 = .ok (.ireturn, 1) := by decide +kernel
set_option maxRecDepth 65536 in
set_option maxHeartbeats 40000000 in
theorem rmI_0_0 (l : Launch) (Z : State) (a0 : Array Value) (hw : own_H Z a0) (ws : List Jvm.Cond) (x : Nat) (t : Nat) (kb : ClassId) (h0 : Heap) (n0 : Nat) (XO0 : Old Z n0 h0) (E_x : Exa Z h0 x "java/lang/String") (F_v : Fld Z h0 x "java/lang/String" "value" "[B" (.ref t)) (F_c : Fld Z h0 x "java/lang/String" "coder" "B" (.int 0)) (V_t : Arv Z h0 t kb .byte (0 : Int32) [] (.int 0)) :
    own_M l Z ym5 jdk_42_method_55_code ws 1 (some .boolean) (own_R 0 0 0 0) #[(.ref x)] h0 (own_qv (1 : Int32) h0 n0) := by
  refine own_open (plainFor_of_name pn_1) ?_
  intro p e s m below meth c s₁ hx hby hlk hret hml hown hnm hZ X0 e0
  have hW := own_hW hw
  have N0 := Fr.nil n0
  refine own_of (fun tt_ kk_ => castTop (ef_rmI_0_0 m x) kk_) ?_
  show own_go p e below s _ _ _ (s₁.setTop (mkF m 0 #[.val (.ref x)] []))
  refine own_of (fun tt_ => XS.aloadN X0.here hx rfl (hb hby d5_0) rfl rfl) ?_
  obtain ⟨T1, X1, e1, st1⟩ := getF X0 hx hZ hown (host := "") (Or.inl (hW 21 _ rfl)) Via.refl e0 F_v (g := (mkF m 1 #[.val (.ref x)] [(.ref x)])) rfl rfl (hb hby d5_1)
  refine own_of st1 ?_
  show own_go p e below s _ _ _ (T1.setTop (mkF m 4 #[.val (.ref x)] [(.ref t)]))
  obtain ⟨cl2, Ar2, q2, S2, Ng2, H2, G2⟩ := id V_t
  refine own_of (fun tt_ kk => X1.arraylength hx (by rw [e1]; exact Ar2.1) (State.isArrayOf_alike hZ.alike Ar2.2.1) (g := (mkF m 4 #[.val (.ref x)] [(.ref t)])) rfl rfl (hb hby d5_4) _ (by rw [len_of S2 Ng2]; exact kk)) ?_
  show own_go p e below s _ _ _ (T1.setTop (mkF m 5 #[.val (.ref x)] [(.int 0)]))
  have hb5_3 : (0 : Int32) = (0 : Int32) := by decide
  refine own_of (fun tt_ => XS.ifNo X1.here hx rfl (hb hby d5_5) rfl ((if0 _ _).trans (teq hb5_3).2)) ?_
  show own_go p e below s _ _ _ (T1.setTop (mkF m 8 #[.val (.ref x)] []))
  refine own_of (fun tt_ => XS.iconst X1.here hx rfl (hb hby d5_8)) ?_
  refine own_of (fun tt_ => XS.goto X1.here hx rfl (pc0 := 9) (pc' := 13) rfl (hb hby d5_9) (by decide) (by decide)) ?_
  show own_go p e below s _ _ _ (T1.setTop (mkF m 13 #[.val (.ref x)] [(.int 1)]))
  refine own_ret X1 hx hlk hret rfl (Or.inl ⟨rfl, by simp, _, rfl⟩) (hb hby d5_13) (by decide) (by decide) ?_
  rw [e1]
  exact ⟨rfl, N0, rfl⟩
theorem ef_rmZ_0 (m : MethodId) (x0 : Nat) : entryFrame m #[(.ref x0)] 3 = mkF m 0 #[.val (.ref x0), .unset, .unset] [] := by first | (simp [entryFrame, mkF, argsToLocals, Value.category]; done) | rfl
theorem pn_4 : plainName "com/example/grantway/grantway/protocol/Scopes" = true := by first | (simp [plainName, overriddenIn]; done) | decide +kernel
theorem d4_0 : decode prog_43_method_2_code 0 = .ok (.aload_n 0, 1) := by decide +kernel
theorem d4_1 : decode prog_43_method_2_code 1 = .ok (.invokevirtual 7, 3) := by decide +kernel
theorem pd_12 : parseMethodDescriptor "()Z" = some ⟨[], some .boolean⟩ := by decide +kernel
theorem d4_4 : decode prog_43_method_2_code 4 = .ok (.ifCond .eq 5, 3) := by decide +kernel
theorem d4_7 : decode prog_43_method_2_code 7 = .ok (.iconst 0, 1) := by decide +kernel
theorem d4_8 : decode prog_43_method_2_code 8 = .ok (.ireturn, 1) := by decide +kernel
def Q_rmZ_0 (Z : State) (x : Nat) (t : Nat) (kb : ClassId) (Gc : Int32) (fm : Value) (h0 : Heap) (n0 : Nat) (v : Option Value) (h : Heap) (L : List Loc) : Prop := v = some (.int 0) ∧ Fr n0 L ∧ h = h0
set_option maxRecDepth 65536 in
set_option maxHeartbeats 40000000 in
theorem rmZ_0 (l : Launch) (Z : State) (a0 : Array Value) (hw : own_H Z a0) (ws : List Jvm.Cond) (x : Nat) (t : Nat) (kb : ClassId) (Gc : Int32) (fm : Value) (h0 : Heap) (n0 : Nat) (XO0 : Old Z n0 h0) (S_ad : Sta Z Z.heap "java/lang/StringUTF16" "$assertionsDisabled" "Z" (.int 1)) (S_hi : Sta Z Z.heap "java/lang/StringUTF16" "HI_BYTE_SHIFT" "I" (.int 0)) (S_lo : Sta Z Z.heap "java/lang/StringUTF16" "LO_BYTE_SHIFT" "I" (.int 8)) (Oc : Sta Z Z.heap "java/lang/String" "COMPACT_STRINGS" "Z" (.int Gc)) (Pc : ¬ (Gc = (0 : Int32))) (S_f : Sta Z Z.heap "jdk/internal/util/Preconditions" "SIOOBE_FORMATTER" "Ljava/util/function/BiFunction;" fm) (r_f : fm.isRef = true) (E_x : Exa Z h0 x "java/lang/String") (F_v : Fld Z h0 x "java/lang/String" "value" "[B" (.ref t)) (TX : Fld Z h0 x "java/lang/String" "coder" "B" (.int 0) ∧ Arv Z h0 t kb .byte (0 : Int32) [] (.int 0)) :
    own_M l Z ym3 prog_43_method_2_code ws 3 (some .boolean) (own_R 1 0 0 12) #[(.ref x)] h0 (Q_rmZ_0 Z x t kb Gc fm h0 n0) := by
  refine own_open (plainFor_of_name pn_4) ?_
  intro p e s m below meth c s₁ hx hby hlk hret hml hown hnm hZ X0 e0
  have hW := own_hW hw
  have N0 := Fr.nil n0
  refine own_of (fun tt_ kk_ => castTop (ef_rmZ_0 m x) kk_) ?_
  show own_go p e below s _ _ _ (s₁.setTop (mkF m 0 #[.val (.ref x), .unset, .unset] []))
  refine own_of (fun tt_ => XS.aloadN X0.here hx rfl (hb hby d4_0) rfl rfl) ?_
  show own_go p e below s _ _ _ (s₁.setTop (mkF m 1 #[.val (.ref x), .unset, .unset] [(.ref x)]))
  obtain ⟨cq1, kq1, q1a, q1b, q1c⟩ := isOf hZ e0 E_x
  obtain ⟨_, _, ⟨T1, L1, k1, n1⟩, -, X1, ⟨Lc1, hQ1, l1, y1, z1⟩, st1⟩ := X0.virtualBack hx (y := ym5) (z := ym5) hown (mvT hZ (hW 27 _ rfl)) (mvT hZ (hW 28 _ rfl)) (notFace_of_selects (args := #[]) (mvT hZ (hW 30 _ rfl))) (mvT hZ (hW 30 _ rfl)) (mvT hZ (hW 29 _ rfl)) (by decide) (backOf (W := 0) (rmI_0_0 l Z a0 hw [] x t kb  h0 n0 XO0 E_x F_v TX.1 TX.2) hZ (hW 31 _ rfl) (hW 3 _ rfl) (by decide) (by decide)) q1a q1c (g := (mkF m 1 #[.val (.ref x), .unset, .unset] [(.ref x)])) rfl (by rw [hml]; rfl) (Steps.refl _) (argsL := []) (rest := []) (lenOf pd_12 rfl) rfl (by show 2 * 0 + _ ≤ _; exact Nat.le_of_eq rfl) (hb hby d4_1) (fun _ _ => ⟨rfl, e0, (by decide : 0 + 0 ≤ _), (by decide : 0 + 0 ≤ _)⟩)
  dsimp only [Pt.U, Pt.locs, Pt.cells, Pt.slots] at X1 l1 y1 z1 st1 hQ1
  subst l1 y1 z1
  obtain ⟨rfl, Nq1, eh1⟩ := hQ1
  have N1 := Fr.app N0 Nq1
  refine own_of (fun tt_ kk_ => st1.trans kk_) ?_
  show own_go p e below s _ _ _ (T1.setTop (mkF m 4 #[.val (.ref x), .unset, .unset] [(.int 1)]))
  have hb4_2 : ¬ ((1 : Int32) = (0 : Int32)) := by decide
  refine own_of (fun tt_ => XS.ifNo X1.here hx rfl (hb hby d4_4) rfl ((if0 _ _).trans (feq hb4_2).1)) ?_
  show own_go p e below s _ _ _ (T1.setTop (mkF m 7 #[.val (.ref x), .unset, .unset] []))
  refine own_of (fun tt_ => XS.iconst X1.here hx rfl (hb hby d4_7)) ?_
  show own_go p e below s _ _ _ (T1.setTop (mkF m 8 #[.val (.ref x), .unset, .unset] [(.int 0)]))
  refine own_ret X1 hx hlk hret rfl (Or.inl ⟨rfl, by simp, _, rfl⟩) (hb hby d4_8) (by decide) (by decide) ?_
  rw [eh1]
  exact ⟨rfl, N1, rfl⟩
theorem ef_rmI_1_0 (m : MethodId) (x0 : Nat) : entryFrame m #[(.ref x0)] 1 = mkF m 0 #[.val (.ref x0)] [] := by first | (simp [entryFrame, mkF, argsToLocals, Value.category]; done) | rfl
theorem d5_12 : decode jdk_42_method_55_code 12 = .ok (.iconst 0, 1) := by decide +kernel
set_option maxRecDepth 65536 in
set_option maxHeartbeats 40000000 in
theorem rmI_1_0 (l : Launch) (Z : State) (a0 : Array Value) (hw : own_H Z a0) (ws : List Jvm.Cond) (x : Nat) (t : Nat) (kb : ClassId) (c0 : Int32) (h0 : Heap) (n0 : Nat) (XO0 : Old Z n0 h0) (E_x : Exa Z h0 x "java/lang/String") (F_v : Fld Z h0 x "java/lang/String" "value" "[B" (.ref t)) (F_c : Fld Z h0 x "java/lang/String" "coder" "B" (.int 0)) (V_t : Arv Z h0 t kb .byte (1 : Int32) [(.int (StrChars.lo8 c0))] (.int 0)) :
    own_M l Z ym5 jdk_42_method_55_code ws 1 (some .boolean) (own_R 0 0 0 0) #[(.ref x)] h0 (own_qv (0 : Int32) h0 n0) := by
  refine own_open (plainFor_of_name pn_1) ?_
  intro p e s m below meth c s₁ hx hby hlk hret hml hown hnm hZ X0 e0
  have hW := own_hW hw
  have N0 := Fr.nil n0
  refine own_of (fun tt_ kk_ => castTop (ef_rmI_1_0 m x) kk_) ?_
  show own_go p e below s _ _ _ (s₁.setTop (mkF m 0 #[.val (.ref x)] []))
  refine own_of (fun tt_ => XS.aloadN X0.here hx rfl (hb hby d5_0) rfl rfl) ?_
  obtain ⟨T1, X1, e1, st1⟩ := getF X0 hx hZ hown (host := "") (Or.inl (hW 21 _ rfl)) Via.refl e0 F_v (g := (mkF m 1 #[.val (.ref x)] [(.ref x)])) rfl rfl (hb hby d5_1)
  refine own_of st1 ?_
  show own_go p e below s _ _ _ (T1.setTop (mkF m 4 #[.val (.ref x)] [(.ref t)]))
  obtain ⟨cl2, Ar2, q2, S2, Ng2, H2, G2⟩ := id V_t
  refine own_of (fun tt_ kk => X1.arraylength hx (by rw [e1]; exact Ar2.1) (State.isArrayOf_alike hZ.alike Ar2.2.1) (g := (mkF m 4 #[.val (.ref x)] [(.ref t)])) rfl rfl (hb hby d5_4) _ (by rw [len_of S2 Ng2]; exact kk)) ?_
  show own_go p e below s _ _ _ (T1.setTop (mkF m 5 #[.val (.ref x)] [(.int 1)]))
  have hb5_3 : ¬ ((1 : Int32) = (0 : Int32)) := by decide
  refine own_of (fun tt_ => XS.ifYes X1.here hx rfl (pc0 := 5) (pc' := 12) rfl (hb hby d5_5) rfl ((if0 _ _).trans (feq hb5_3).2) (by decide) (by decide)) ?_
  show own_go p e below s _ _ _ (T1.setTop (mkF m 12 #[.val (.ref x)] []))
  refine own_of (fun tt_ => XS.iconst X1.here hx rfl (hb hby d5_12)) ?_
  show own_go p e below s _ _ _ (T1.setTop (mkF m 13 #[.val (.ref x)] [(.int 0)]))
  refine own_ret X1 hx hlk hret rfl (Or.inl ⟨rfl, by simp, _, rfl⟩) (hb hby d5_13) (by decide) (by decide) ?_
  rw [e1]
  exact ⟨rfl, N0, rfl⟩
theorem ef_rmN_1_0 (m : MethodId) (x0 : Nat) : entryFrame m #[(.ref x0)] 1 = mkF m 0 #[.val (.ref x0)] [] := by first | (simp [entryFrame, mkF, argsToLocals, Value.category]; done) | rfl
theorem d10_0 : decode jdk_42_method_54_code 0 = .ok (.aload_n 0, 1) := by decide +kernel
theorem d10_1 : decode jdk_42_method_54_code 1 = .ok (.getfield 9, 3) := by decide +kernel
theorem d10_4 : decode jdk_42_method_54_code 4 = .ok (.arraylength, 1) := by decide +kernel
theorem d10_5 : decode jdk_42_method_54_code 5 = .ok (.aload_n 0, 1) := by decide +kernel
theorem d10_6 : decode jdk_42_method_54_code 6 = .ok (.invokevirtual 335, 3) := by decide +kernel
theorem pd_13 : parseMethodDescriptor "()B" = some ⟨[], some .byte⟩ := by decide +kernel
theorem d10_9 : decode jdk_42_method_54_code 9 = .ok (.ishr, 1) := by decide +kernel
theorem d10_10 : decode jdk_42_method_54_code 10 = .ok (.ireturn, 1) := by decide +kernel
set_option maxRecDepth 65536 in
set_option maxHeartbeats 40000000 in
theorem rmN_1_0 (l : Launch) (Z : State) (a0 : Array Value) (hw : own_H Z a0) (ws : List Jvm.Cond) (x : Nat) (t : Nat) (kb : ClassId) (c0 : Int32) (Gc : Int32) (h0 : Heap) (n0 : Nat) (XO0 : Old Z n0 h0) (Oc : Sta Z Z.heap "java/lang/String" "COMPACT_STRINGS" "Z" (.int Gc)) (Pc : ¬ (Gc = (0 : Int32))) (E_x : Exa Z h0 x "java/lang/String") (F_v : Fld Z h0 x "java/lang/String" "value" "[B" (.ref t)) (F_c : Fld Z h0 x "java/lang/String" "coder" "B" (.int 0)) (V_t : Arv Z h0 t kb .byte (1 : Int32) [(.int (StrChars.lo8 c0))] (.int 0)) :
    own_M l Z ym1 jdk_42_method_54_code ws 1 (some .int) (own_R 1 0 0 13) #[(.ref x)] h0 (own_qv (1 : Int32) h0 n0) := by
  refine own_open (plainFor_of_name pn_1) ?_
  intro p e s m below meth c s₁ hx hby hlk hret hml hown hnm hZ X0 e0
  have hW := own_hW hw
  have N0 := Fr.nil n0
  refine own_of (fun tt_ kk_ => castTop (ef_rmN_1_0 m x) kk_) ?_
  show own_go p e below s _ _ _ (s₁.setTop (mkF m 0 #[.val (.ref x)] []))
  refine own_of (fun tt_ => XS.aloadN X0.here hx rfl (hb hby d10_0) rfl rfl) ?_
  obtain ⟨T1, X1, e1, st1⟩ := getF X0 hx hZ hown (host := "") (Or.inl (hW 21 _ rfl)) Via.refl e0 F_v (g := (mkF m 1 #[.val (.ref x)] [(.ref x)])) rfl rfl (hb hby d10_1)
  refine own_of st1 ?_
  show own_go p e below s _ _ _ (T1.setTop (mkF m 4 #[.val (.ref x)] [(.ref t)]))
  obtain ⟨cl2, Ar2, q2, S2, Ng2, H2, G2⟩ := id V_t
  refine own_of (fun tt_ kk => X1.arraylength hx (by rw [e1]; exact Ar2.1) (State.isArrayOf_alike hZ.alike Ar2.2.1) (g := (mkF m 4 #[.val (.ref x)] [(.ref t)])) rfl rfl (hb hby d10_4) _ (by rw [len_of S2 Ng2]; exact kk)) ?_
  show own_go p e below s _ _ _ (T1.setTop (mkF m 5 #[.val (.ref x)] [(.int 1)]))
  refine own_of (fun tt_ => XS.aloadN X1.here hx rfl (hb hby d10_5) rfl rfl) ?_
  show own_go p e below s _ _ _ (T1.setTop (mkF m 6 #[.val (.ref x)] [(.ref x), (.int 1)]))
  obtain ⟨cq3, kq3, q3a, q3b, q3c⟩ := isOf hZ e1 E_x
  obtain ⟨_, _, ⟨T3, L3, k3, n3⟩, -, X3, ⟨Lc3, hQ3, l3, y3, z3⟩, st3⟩ := X1.virtualBack hx (y := ym6) (z := ym6) hown (mvT hZ (hW 52 _ rfl)) (mvT hZ (hW 53 _ rfl)) (notFace_of_selects (args := #[]) (mvT hZ (hW 55 _ rfl))) (mvT hZ (hW 55 _ rfl)) (mvT hZ (hW 54 _ rfl)) (by decide) (backOf (W := 1) (rmO_0 l Z a0 hw [] x Gc h0 n0 XO0 Oc Pc F_c) hZ (hW 56 _ rfl) (hW 3 _ rfl) (by decide) (by decide)) q3a q3c (g := (mkF m 6 #[.val (.ref x)] [(.ref x), (.int 1)])) rfl (by rw [hml]; rfl) (Steps.refl _) (argsL := []) (rest := [(.int 1)]) (lenOf pd_13 rfl) rfl (by show 2 * 0 + _ ≤ _; exact Nat.le_of_eq rfl) (hb hby d10_6) (fun _ _ => ⟨rfl, e1, (by decide : 0 + 0 ≤ _), (by decide : 0 + 0 ≤ _)⟩)
  dsimp only [Pt.U, Pt.locs, Pt.cells, Pt.slots] at X3 l3 y3 z3 st3 hQ3
  subst l3 y3 z3
  obtain ⟨rfl, Nq3, eh3⟩ := hQ3
  have N3 := Fr.app N0 Nq3
  refine own_of (fun tt_ kk_ => st3.trans kk_) ?_
  show own_go p e below s _ _ _ (T3.setTop (mkF m 9 #[.val (.ref x)] [(.int 0), (.int 1)]))
  refine own_of (fun tt_ => XS.ishr X3.here hx rfl (hb hby d10_9) rfl) ?_
  show own_go p e below s _ _ _ (T3.setTop (mkF m 10 #[.val (.ref x)] [(.int 1)]))
  refine own_ret X3 hx hlk hret rfl (Or.inl ⟨rfl, by simp, _, rfl⟩) (hb hby d10_10) (by decide) (by decide) ?_
  rw [eh3]
  exact ⟨rfl, N3, rfl⟩
theorem ef_rmI_1_1 (m : MethodId) (x0 : Nat) : entryFrame m #[(.ref x0)] 1 = mkF m 0 #[.val (.ref x0)] [] := by first | (simp [entryFrame, mkF, argsToLocals, Value.category]; done) | rfl
set_option maxRecDepth 65536 in
set_option maxHeartbeats 40000000 in
theorem rmI_1_1 (l : Launch) (Z : State) (a0 : Array Value) (hw : own_H Z a0) (ws : List Jvm.Cond) (x : Nat) (t : Nat) (kb : ClassId) (c0 : Int32) (h0 : Heap) (n0 : Nat) (XO0 : Old Z n0 h0) (E_x : Exa Z h0 x "java/lang/String") (F_v : Fld Z h0 x "java/lang/String" "value" "[B" (.ref t)) (F_c : Fld Z h0 x "java/lang/String" "coder" "B" (.int 1)) (V_t : Arv Z h0 t kb .byte (2 : Int32) [(.int (StrChars.lo8 c0)), (.int (StrChars.hi8 c0))] (.int 0)) :
    own_M l Z ym5 jdk_42_method_55_code ws 1 (some .boolean) (own_R 0 0 0 0) #[(.ref x)] h0 (own_qv (0 : Int32) h0 n0) := by
  refine own_open (plainFor_of_name pn_1) ?_
  intro p e s m below meth c s₁ hx hby hlk hret hml hown hnm hZ X0 e0
  have hW := own_hW hw
  have N0 := Fr.nil n0
  refine own_of (fun tt_ kk_ => castTop (ef_rmI_1_1 m x) kk_) ?_
  show own_go p e below s _ _ _ (s₁.setTop (mkF m 0 #[.val (.ref x)] []))
  refine own_of (fun tt_ => XS.aloadN X0.here hx rfl (hb hby d5_0) rfl rfl) ?_
  obtain ⟨T1, X1, e1, st1⟩ := getF X0 hx hZ hown (host := "") (Or.inl (hW 21 _ rfl)) Via.refl e0 F_v (g := (mkF m 1 #[.val (.ref x)] [(.ref x)])) rfl rfl (hb hby d5_1)
  refine own_of st1 ?_
  show own_go p e below s _ _ _ (T1.setTop (mkF m 4 #[.val (.ref x)] [(.ref t)]))
  obtain ⟨cl2, Ar2, q2, S2, Ng2, H2, G2⟩ := id V_t
  refine own_of (fun tt_ kk => X1.arraylength hx (by rw [e1]; exact Ar2.1) (State.isArrayOf_alike hZ.alike Ar2.2.1) (g := (mkF m 4 #[.val (.ref x)] [(.ref t)])) rfl rfl (hb hby d5_4) _ (by rw [len_of S2 Ng2]; exact kk)) ?_
  show own_go p e below s _ _ _ (T1.setTop (mkF m 5 #[.val (.ref x)] [(.int 2)]))
  have hb5_3 : ¬ ((2 : Int32) = (0 : Int32)) := by decide
  refine own_of (fun tt_ => XS.ifYes X1.here hx rfl (pc0 := 5) (pc' := 12) rfl (hb hby d5_5) rfl ((if0 _ _).trans (feq hb5_3).2) (by decide) (by decide)) ?_
  show own_go p e below s _ _ _ (T1.setTop (mkF m 12 #[.val (.ref x)] []))
  refine own_of (fun tt_ => XS.iconst X1.here hx rfl (hb hby d5_12)) ?_
  show own_go p e below s _ _ _ (T1.setTop (mkF m 13 #[.val (.ref x)] [(.int 0)]))
  refine own_ret X1 hx hlk hret rfl (Or.inl ⟨rfl, by simp, _, rfl⟩) (hb hby d5_13) (by decide) (by decide) ?_
  rw [e1]
  exact ⟨rfl, N0, rfl⟩
theorem ef_rmN_1_1 (m : MethodId) (x0 : Nat) : entryFrame m #[(.ref x0)] 1 = mkF m 0 #[.val (.ref x0)] [] := by first | (simp [entryFrame, mkF, argsToLocals, Value.category]; done) | rfl
set_option maxRecDepth 65536 in
set_option maxHeartbeats 40000000 in
theorem rmN_1_1 (l : Launch) (Z : State) (a0 : Array Value) (hw : own_H Z a0) (ws : List Jvm.Cond) (x : Nat) (t : Nat) (kb : ClassId) (c0 : Int32) (Gc : Int32) (h0 : Heap) (n0 : Nat) (XO0 : Old Z n0 h0) (Oc : Sta Z Z.heap "java/lang/String" "COMPACT_STRINGS" "Z" (.int Gc)) (Pc : ¬ (Gc = (0 : Int32))) (E_x : Exa Z h0 x "java/lang/String") (F_v : Fld Z h0 x "java/lang/String" "value" "[B" (.ref t)) (F_c : Fld Z h0 x "java/lang/String" "coder" "B" (.int 1)) (V_t : Arv Z h0 t kb .byte (2 : Int32) [(.int (StrChars.lo8 c0)), (.int (StrChars.hi8 c0))] (.int 0)) :
    own_M l Z ym1 jdk_42_method_54_code ws 1 (some .int) (own_R 1 0 0 13) #[(.ref x)] h0 (own_qv (1 : Int32) h0 n0) := by
  refine own_open (plainFor_of_name pn_1) ?_
  intro p e s m below meth c s₁ hx hby hlk hret hml hown hnm hZ X0 e0
  have hW := own_hW hw
  have N0 := Fr.nil n0
  refine own_of (fun tt_ kk_ => castTop (ef_rmN_1_1 m x) kk_) ?_
  show own_go p e below s _ _ _ (s₁.setTop (mkF m 0 #[.val (.ref x)] []))
  refine own_of (fun tt_ => XS.aloadN X0.here hx rfl (hb hby d10_0) rfl rfl) ?_
  obtain ⟨T1, X1, e1, st1⟩ := getF X0 hx hZ hown (host := "") (Or.inl (hW 21 _ rfl)) Via.refl e0 F_v (g := (mkF m 1 #[.val (.ref x)] [(.ref x)])) rfl rfl (hb hby d10_1)
  refine own_of st1 ?_
  show own_go p e below s _ _ _ (T1.setTop (mkF m 4 #[.val (.ref x)] [(.ref t)]))
  obtain ⟨cl2, Ar2, q2, S2, Ng2, H2, G2⟩ := id V_t
  refine own_of (fun tt_ kk => X1.arraylength hx (by rw [e1]; exact Ar2.1) (State.isArrayOf_alike hZ.alike Ar2.2.1) (g := (mkF m 4 #[.val (.ref x)] [(.ref t)])) rfl rfl (hb hby d10_4) _ (by rw [len_of S2 Ng2]; exact kk)) ?_
  show own_go p e below s _ _ _ (T1.setTop (mkF m 5 #[.val (.ref x)] [(.int 2)]))
  refine own_of (fun tt_ => XS.aloadN X1.here hx rfl (hb hby d10_5) rfl rfl) ?_
  show own_go p e below s _ _ _ (T1.setTop (mkF m 6 #[.val (.ref x)] [(.ref x), (.int 2)]))
  obtain ⟨cq3, kq3, q3a, q3b, q3c⟩ := isOf hZ e1 E_x
  obtain ⟨_, _, ⟨T3, L3, k3, n3⟩, -, X3, ⟨Lc3, hQ3, l3, y3, z3⟩, st3⟩ := X1.virtualBack hx (y := ym6) (z := ym6) hown (mvT hZ (hW 52 _ rfl)) (mvT hZ (hW 53 _ rfl)) (notFace_of_selects (args := #[]) (mvT hZ (hW 55 _ rfl))) (mvT hZ (hW 55 _ rfl)) (mvT hZ (hW 54 _ rfl)) (by decide) (backOf (W := 1) (rmO_1 l Z a0 hw [] x Gc h0 n0 XO0 Oc Pc F_c) hZ (hW 56 _ rfl) (hW 3 _ rfl) (by decide) (by decide)) q3a q3c (g := (mkF m 6 #[.val (.ref x)] [(.ref x), (.int 2)])) rfl (by rw [hml]; rfl) (Steps.refl _) (argsL := []) (rest := [(.int 2)]) (lenOf pd_13 rfl) rfl (by show 2 * 0 + _ ≤ _; exact Nat.le_of_eq rfl) (hb hby d10_6) (fun _ _ => ⟨rfl, e1, (by decide : 0 + 0 ≤ _), (by decide : 0 + 0 ≤ _)⟩)
  dsimp only [Pt.U, Pt.locs, Pt.cells, Pt.slots] at X3 l3 y3 z3 st3 hQ3
  subst l3 y3 z3
  obtain ⟨rfl, Nq3, eh3⟩ := hQ3
  have N3 := Fr.app N0 Nq3
  refine own_of (fun tt_ kk_ => st3.trans kk_) ?_
  show own_go p e below s _ _ _ (T3.setTop (mkF m 9 #[.val (.ref x)] [(.int 1), (.int 2)]))
  refine own_of (fun tt_ => XS.ishr X3.here hx rfl (hb hby d10_9) rfl) ?_
  show own_go p e below s _ _ _ (T3.setTop (mkF m 10 #[.val (.ref x)] [(.int 1)]))
  refine own_ret X3 hx hlk hret rfl (Or.inl ⟨rfl, by simp, _, rfl⟩) (hb hby d10_10) (by decide) (by decide) ?_
  rw [eh3]
  exact ⟨rfl, N3, rfl⟩
theorem rmI_1 (l : Launch) (Z : State) (a0 : Array Value) (hw : own_H Z a0) (ws : List Jvm.Cond) (x : Nat) (t : Nat) (kb : ClassId) (c0 : Int32) (h0 : Heap) (n0 : Nat) (XO0 : Old Z n0 h0) (E_x : Exa Z h0 x "java/lang/String") (F_v : Fld Z h0 x "java/lang/String" "value" "[B" (.ref t)) (TX : (Fld Z h0 x "java/lang/String" "coder" "B" (.int 0) ∧ Arv Z h0 t kb .byte (1 : Int32) [(.int (StrChars.lo8 c0))] (.int 0) ∧ ¬ (255 : Int32) < c0) ∨ (Fld Z h0 x "java/lang/String" "coder" "B" (.int 1) ∧ Arv Z h0 t kb .byte (2 : Int32) [(.int (StrChars.lo8 c0)), (.int (StrChars.hi8 c0))] (.int 0))) :
    own_M l Z ym5 jdk_42_method_55_code ws 1 (some .boolean) (own_R 0 0 0 0) #[(.ref x)] h0 (own_qv (0 : Int32) h0 n0) := by
  rcases TX with ⟨F_c, V_t, l0⟩ | ⟨F_c, V_t⟩
  · exact rmI_1_0 l Z a0 hw ws x t kb c0 h0 n0 XO0 E_x F_v F_c V_t 
  · exact rmI_1_1 l Z a0 hw ws x t kb c0 h0 n0 XO0 E_x F_v F_c V_t 
theorem rmN_1 (l : Launch) (Z : State) (a0 : Array Value) (hw : own_H Z a0) (ws : List Jvm.Cond) (x : Nat) (t : Nat) (kb : ClassId) (c0 : Int32) (Gc : Int32) (h0 : Heap) (n0 : Nat) (XO0 : Old Z n0 h0) (Oc : Sta Z Z.heap "java/lang/String" "COMPACT_STRINGS" "Z" (.int Gc)) (Pc : ¬ (Gc = (0 : Int32))) (E_x : Exa Z h0 x "java/lang/String") (F_v : Fld Z h0 x "java/lang/String" "value" "[B" (.ref t)) (TX : (Fld Z h0 x "java/lang/String" "coder" "B" (.int 0) ∧ Arv Z h0 t kb .byte (1 : Int32) [(.int (StrChars.lo8 c0))] (.int 0) ∧ ¬ (255 : Int32) < c0) ∨ (Fld Z h0 x "java/lang/String" "coder" "B" (.int 1) ∧ Arv Z h0 t kb .byte (2 : Int32) [(.int (StrChars.lo8 c0)), (.int (StrChars.hi8 c0))] (.int 0))) :
    own_M l Z ym1 jdk_42_method_54_code ws 1 (some .int) (own_R 1 0 0 13) #[(.ref x)] h0 (own_qv (1 : Int32) h0 n0) := by
  rcases TX with ⟨F_c, V_t, l0⟩ | ⟨F_c, V_t⟩
  · exact rmN_1_0 l Z a0 hw ws x t kb c0 Gc h0 n0 XO0 Oc Pc E_x F_v F_c V_t 
  · exact rmN_1_1 l Z a0 hw ws x t kb c0 Gc h0 n0 XO0 Oc Pc E_x F_v F_c V_t 
theorem ef_rmA_1_0_0 (m : MethodId) (x0 : Nat) (x1 : Int32) : entryFrame m #[(.ref x0), (.int x1)] 2 = mkF m 0 #[.val (.ref x0), .val (.int x1)] [] := by first | (simp [entryFrame, mkF, argsToLocals, Value.category]; done) | rfl
theorem d12_0 : decode jdk_42_method_56_code 0 = .ok (.aload_n 0, 1) := by decide +kernel
theorem d12_1 : decode jdk_42_method_56_code 1 = .ok (.invokevirtual 492, 3) := by decide +kernel
theorem d12_4 : decode jdk_42_method_56_code 4 = .ok (.ifCond .eq 12, 3) := by decide +kernel
theorem d12_7 : decode jdk_42_method_56_code 7 = .ok (.aload_n 0, 1) := by decide +kernel
theorem d12_8 : decode jdk_42_method_56_code 8 = .ok (.getfield 9, 3) := by decide +kernel
theorem d12_11 : decode jdk_42_method_56_code 11 = .ok (.iload_n 1, 1) := by decide +kernel
theorem d12_12 : decode jdk_42_method_56_code 12 = .ok (.invokestatic 495, 3) := by decide +kernel
theorem d12_15 : decode jdk_42_method_56_code 15 = .ok (.ireturn, 1) := by decide +kernel
set_option maxRecDepth 65536 in
set_option maxHeartbeats 40000000 in
theorem rmA_1_0_0 (l : Launch) (Z : State) (a0 : Array Value) (hw : own_H Z a0) (ws : List Jvm.Cond) (x : Nat) (t : Nat) (kb : ClassId) (c0 : Int32) (Gc : Int32) (fm : Value) (h0 : Heap) (n0 : Nat) (XO0 : Old Z n0 h0) (S_ad : Sta Z Z.heap "java/lang/StringUTF16" "$assertionsDisabled" "Z" (.int 1)) (S_hi : Sta Z Z.heap "java/lang/StringUTF16" "HI_BYTE_SHIFT" "I" (.int 0)) (S_lo : Sta Z Z.heap "java/lang/StringUTF16" "LO_BYTE_SHIFT" "I" (.int 8)) (Oc : Sta Z Z.heap "java/lang/String" "COMPACT_STRINGS" "Z" (.int Gc)) (Pc : ¬ (Gc = (0 : Int32))) (S_f : Sta Z Z.heap "jdk/internal/util/Preconditions" "SIOOBE_FORMATTER" "Ljava/util/function/BiFunction;" fm) (r_f : fm.isRef = true) (E_x : Exa Z h0 x "java/lang/String") (F_v : Fld Z h0 x "java/lang/String" "value" "[B" (.ref t)) (F_c : Fld Z h0 x "java/lang/String" "coder" "B" (.int 0)) (V_t : Arv Z h0 t kb .byte (1 : Int32) [(.int (StrChars.lo8 c0))] (.int 0)) (r0 : own_c16 c0) (l0 : ¬ (255 : Int32) < c0) :
    own_M l Z ym0 jdk_42_method_56_code ws 2 (some .char) (own_R 4 0 0 53) #[(.ref x), (.int 0)] h0 (own_qv c0 h0 n0) := by
  refine own_open (plainFor_of_name pn_1) ?_
  intro p e s m below meth c s₁ hx hby hlk hret hml hown hnm hZ X0 e0
  have hW := own_hW hw
  have N0 := Fr.nil n0
  refine own_of (fun tt_ kk_ => castTop (ef_rmA_1_0_0 m x (0 : Int32)) kk_) ?_
  show own_go p e below s _ _ _ (s₁.setTop (mkF m 0 #[.val (.ref x), .val (.int 0)] []))
  refine own_of (fun tt_ => XS.aloadN X0.here hx rfl (hb hby d12_0) rfl rfl) ?_
  show own_go p e below s _ _ _ (s₁.setTop (mkF m 1 #[.val (.ref x), .val (.int 0)] [(.ref x)]))
  obtain ⟨cq1, kq1, q1a, q1b, q1c⟩ := isOf hZ e0 E_x
  obtain ⟨_, _, ⟨T1, L1, k1, n1⟩, -, X1, ⟨Lc1, hQ1, l1, y1, z1⟩, st1⟩ := X0.virtualBack hx (y := ym2) (z := ym2) hown (mvT hZ (hW 62 _ rfl)) (mvT hZ (hW 63 _ rfl)) (notFace_of_selects (args := #[]) (mvT hZ (hW 65 _ rfl))) (mvT hZ (hW 65 _ rfl)) (mvT hZ (hW 64 _ rfl)) (by decide) (backOf (W := 0) (rmY_0 l Z a0 hw [] x Gc h0 n0 XO0 Oc Pc F_c) hZ (hW 66 _ rfl) (hW 3 _ rfl) (by decide) (by decide)) q1a q1c (g := (mkF m 1 #[.val (.ref x), .val (.int 0)] [(.ref x)])) rfl (by rw [hml]; rfl) (Steps.refl _) (argsL := []) (rest := []) (lenOf pd_12 rfl) rfl (by show 2 * 0 + _ ≤ _; exact Nat.le_of_eq rfl) (hb hby d12_1) (fun _ _ => ⟨rfl, e0, (by decide : 0 + 0 ≤ _), (by decide : 0 + 0 ≤ _)⟩)
  dsimp only [Pt.U, Pt.locs, Pt.cells, Pt.slots] at X1 l1 y1 z1 st1 hQ1
  subst l1 y1 z1
  obtain ⟨rfl, Nq1, eh1⟩ := hQ1
  have N1 := Fr.app N0 Nq1
  refine own_of (fun tt_ kk_ => st1.trans kk_) ?_
  show own_go p e below s _ _ _ (T1.setTop (mkF m 4 #[.val (.ref x), .val (.int 0)] [(.int 1)]))
  have hb4_2 : ¬ ((1 : Int32) = (0 : Int32)) := by decide
  refine own_of (fun tt_ => XS.ifNo X1.here hx rfl (hb hby d12_4) rfl ((if0 _ _).trans (feq hb4_2).1)) ?_
  show own_go p e below s _ _ _ (T1.setTop (mkF m 7 #[.val (.ref x), .val (.int 0)] []))
  refine own_of (fun tt_ => XS.aloadN X1.here hx rfl (hb hby d12_7) rfl rfl) ?_
  obtain ⟨T3, X3, e3, st3⟩ := getF X1 hx hZ hown (host := "") (Or.inl (hW 21 _ rfl)) Via.refl eh1 F_v (g := (mkF m 8 #[.val (.ref x), .val (.int 0)] [(.ref x)])) rfl rfl (hb hby d12_8)
  refine own_of st3 ?_
  show own_go p e below s _ _ _ (T3.setTop (mkF m 11 #[.val (.ref x), .val (.int 0)] [(.ref t)]))
  refine own_of (fun tt_ => XS.iloadN X3.here hx rfl (hb hby d12_11) rfl) ?_
  show own_go p e below s _ _ _ (T3.setTop (mkF m 12 #[.val (.ref x), .val (.int 0)] [(.int 0), (.ref t)]))
  obtain ⟨_, _, ⟨T4, L4, k4, n4⟩, -, X4, ⟨Lc4, hQ4, l4, y4, z4⟩, st4⟩ := Jvm.LawKit.callS X3 hx (y := ym15) hown (mvT hZ (hW 67 _ rfl)) (mvT hZ (hW 68 _ rfl)) (mvT hZ (hW 69 _ rfl)) (mvT hZ (hW 70 _ rfl)) (by decide) (backOf (W := 0) (rmX7_1_0 l Z a0 hw [] t kb c0 fm h0 n0 XO0 S_f r_f V_t r0 l0) hZ (hW 70 _ rfl) (hW 69 _ rfl) (by decide) (by decide)) (g := (mkF m 12 #[.val (.ref x), .val (.int 0)] [(.int 0), (.ref t)])) rfl (by rw [hml]; rfl) (argsL := [(.ref t), (.int 0)]) (rest := []) (lenOf pd_5 rfl) rfl (by show 2 * 0 + _ ≤ _; exact Nat.le_of_eq rfl) (hb hby d12_12) (fun _ _ => ⟨rfl, e3, (by decide : 0 + 0 ≤ _), (by decide : 0 + 0 ≤ _)⟩)
  dsimp only [Pt.U, Pt.locs, Pt.cells, Pt.slots] at X4 l4 y4 z4 st4 hQ4
  subst l4 y4 z4
  obtain ⟨rfl, Nq4, eh4⟩ := hQ4
  have N4 := Fr.app N1 Nq4
  refine own_of st4 ?_
  show own_go p e below s _ _ _ (T4.setTop (mkF m 15 #[.val (.ref x), .val (.int 0)] [(.int c0)]))
  refine own_ret X4 hx hlk hret (StrChars.narrow_ch r0.1 r0.2) (Or.inl ⟨rfl, by simp, _, rfl⟩) (hb hby d12_15) (by decide) (by decide) ?_
  rw [eh4]
  exact ⟨rfl, N4, rfl⟩
theorem ef_rmA_1_0_1 (m : MethodId) (x0 : Nat) (x1 : Int32) : entryFrame m #[(.ref x0), (.int x1)] 2 = mkF m 0 #[.val (.ref x0), .val (.int x1)] [] := by first | (simp [entryFrame, mkF, argsToLocals, Value.category]; done) | rfl
theorem d12_16 : decode jdk_42_method_56_code 16 = .ok (.aload_n 0, 1) := by decide +kernel
theorem d12_17 : decode jdk_42_method_56_code 17 = .ok (.getfield 9, 3) := by decide +kernel
theorem d12_20 : decode jdk_42_method_56_code 20 = .ok (.iload_n 1, 1) := by decide +kernel
theorem d12_21 : decode jdk_42_method_56_code 21 = .ok (.invokestatic 498, 3) := by decide +kernel
theorem d12_24 : decode jdk_42_method_56_code 24 = .ok (.ireturn, 1) := by decide +kernel
set_option maxRecDepth 65536 in
set_option maxHeartbeats 40000000 in
theorem rmA_1_0_1 (l : Launch) (Z : State) (a0 : Array Value) (hw : own_H Z a0) (ws : List Jvm.Cond) (x : Nat) (t : Nat) (kb : ClassId) (c0 : Int32) (Gc : Int32) (fm : Value) (h0 : Heap) (n0 : Nat) (XO0 : Old Z n0 h0) (S_ad : Sta Z Z.heap "java/lang/StringUTF16" "$assertionsDisabled" "Z" (.int 1)) (S_hi : Sta Z Z.heap "java/lang/StringUTF16" "HI_BYTE_SHIFT" "I" (.int 0)) (S_lo : Sta Z Z.heap "java/lang/StringUTF16" "LO_BYTE_SHIFT" "I" (.int 8)) (Oc : Sta Z Z.heap "java/lang/String" "COMPACT_STRINGS" "Z" (.int Gc)) (Pc : ¬ (Gc = (0 : Int32))) (S_f : Sta Z Z.heap "jdk/internal/util/Preconditions" "SIOOBE_FORMATTER" "Ljava/util/function/BiFunction;" fm) (r_f : fm.isRef = true) (E_x : Exa Z h0 x "java/lang/String") (F_v : Fld Z h0 x "java/lang/String" "value" "[B" (.ref t)) (F_c : Fld Z h0 x "java/lang/String" "coder" "B" (.int 1)) (V_t : Arv Z h0 t kb .byte (2 : Int32) [(.int (StrChars.lo8 c0)), (.int (StrChars.hi8 c0))] (.int 0)) (r0 : own_c16 c0) :
    own_M l Z ym0 jdk_42_method_56_code ws 2 (some .char) (own_R 4 0 0 53) #[(.ref x), (.int 0)] h0 (own_qv c0 h0 n0) := by
  refine own_open (plainFor_of_name pn_1) ?_
  intro p e s m below meth c s₁ hx hby hlk hret hml hown hnm hZ X0 e0
  have hW := own_hW hw
  have N0 := Fr.nil n0
  refine own_of (fun tt_ kk_ => castTop (ef_rmA_1_0_1 m x (0 : Int32)) kk_) ?_
  show own_go p e below s _ _ _ (s₁.setTop (mkF m 0 #[.val (.ref x), .val (.int 0)] []))
  refine own_of (fun tt_ => XS.aloadN X0.here hx rfl (hb hby d12_0) rfl rfl) ?_
  show own_go p e below s _ _ _ (s₁.setTop (mkF m 1 #[.val (.ref x), .val (.int 0)] [(.ref x)]))
  obtain ⟨cq1, kq1, q1a, q1b, q1c⟩ := isOf hZ e0 E_x
  obtain ⟨_, _, ⟨T1, L1, k1, n1⟩, -, X1, ⟨Lc1, hQ1, l1, y1, z1⟩, st1⟩ := X0.virtualBack hx (y := ym2) (z := ym2) hown (mvT hZ (hW 62 _ rfl)) (mvT hZ (hW 63 _ rfl)) (notFace_of_selects (args := #[]) (mvT hZ (hW 65 _ rfl))) (mvT hZ (hW 65 _ rfl)) (mvT hZ (hW 64 _ rfl)) (by decide) (backOf (W := 0) (rmY_1 l Z a0 hw [] x Gc h0 n0 XO0 Oc Pc F_c) hZ (hW 66 _ rfl) (hW 3 _ rfl) (by decide) (by decide)) q1a q1c (g := (mkF m 1 #[.val (.ref x), .val (.int 0)] [(.ref x)])) rfl (by rw [hml]; rfl) (Steps.refl _) (argsL := []) (rest := []) (lenOf pd_12 rfl) rfl (by show 2 * 0 + _ ≤ _; exact Nat.le_of_eq rfl) (hb hby d12_1) (fun _ _ => ⟨rfl, e0, (by decide : 0 + 0 ≤ _), (by decide : 0 + 0 ≤ _)⟩)
  dsimp only [Pt.U, Pt.locs, Pt.cells, Pt.slots] at X1 l1 y1 z1 st1 hQ1
  subst l1 y1 z1
  obtain ⟨rfl, Nq1, eh1⟩ := hQ1
  have N1 := Fr.app N0 Nq1
  refine own_of (fun tt_ kk_ => st1.trans kk_) ?_
  show own_go p e below s _ _ _ (T1.setTop (mkF m 4 #[.val (.ref x), .val (.int 0)] [(.int 0)]))
  have hb4_2 : (0 : Int32) = (0 : Int32) := by decide
  refine own_of (fun tt_ => XS.ifYes X1.here hx rfl (pc0 := 4) (pc' := 16) rfl (hb hby d12_4) rfl ((if0 _ _).trans (teq hb4_2).1) (by decide) (by decide)) ?_
  show own_go p e below s _ _ _ (T1.setTop (mkF m 16 #[.val (.ref x), .val (.int 0)] []))
  refine own_of (fun tt_ => XS.aloadN X1.here hx rfl (hb hby d12_16) rfl rfl) ?_
  obtain ⟨T3, X3, e3, st3⟩ := getF X1 hx hZ hown (host := "") (Or.inl (hW 21 _ rfl)) Via.refl eh1 F_v (g := (mkF m 17 #[.val (.ref x), .val (.int 0)] [(.ref x)])) rfl rfl (hb hby d12_17)
  refine own_of st3 ?_
  show own_go p e below s _ _ _ (T3.setTop (mkF m 20 #[.val (.ref x), .val (.int 0)] [(.ref t)]))
  refine own_of (fun tt_ => XS.iloadN X3.here hx rfl (hb hby d12_20) rfl) ?_
  show own_go p e below s _ _ _ (T3.setTop (mkF m 21 #[.val (.ref x), .val (.int 0)] [(.int 0), (.ref t)]))
  obtain ⟨_, _, ⟨T4, L4, k4, n4⟩, -, X4, ⟨Lc4, hQ4, l4, y4, z4⟩, st4⟩ := Jvm.LawKit.callS X3 hx (y := ym14) hown (mvT hZ (hW 98 _ rfl)) (mvT hZ (hW 99 _ rfl)) (mvT hZ (hW 35 _ rfl)) (mvT hZ (hW 100 _ rfl)) (by decide) (backOf (W := 0) (rmX5_1_0 l Z a0 hw [] t kb c0 fm h0 n0 XO0 S_ad S_hi S_lo S_f r_f V_t r0) hZ (hW 100 _ rfl) (hW 35 _ rfl) (by decide) (by decide)) (g := (mkF m 21 #[.val (.ref x), .val (.int 0)] [(.int 0), (.ref t)])) rfl (by rw [hml]; rfl) (argsL := [(.ref t), (.int 0)]) (rest := []) (lenOf pd_5 rfl) rfl (by show 2 * 0 + _ ≤ _; exact Nat.le_of_eq rfl) (hb hby d12_21) (fun _ _ => ⟨rfl, e3, (by decide : 0 + 0 ≤ _), (by decide : 0 + 0 ≤ _)⟩)
  dsimp only [Pt.U, Pt.locs, Pt.cells, Pt.slots] at X4 l4 y4 z4 st4 hQ4
  subst l4 y4 z4
  obtain ⟨rfl, Nq4, eh4⟩ := hQ4
  have N4 := Fr.app N1 Nq4
  refine own_of st4 ?_
  show own_go p e below s _ _ _ (T4.setTop (mkF m 24 #[.val (.ref x), .val (.int 0)] [(.int c0)]))
  refine own_ret X4 hx hlk hret (StrChars.narrow_ch r0.1 r0.2) (Or.inl ⟨rfl, by simp, _, rfl⟩) (hb hby d12_24) (by decide) (by decide) ?_
  rw [eh4]
  exact ⟨rfl, N4, rfl⟩
theorem rmA_1_0 (l : Launch) (Z : State) (a0 : Array Value) (hw : own_H Z a0) (ws : List Jvm.Cond) (x : Nat) (t : Nat) (kb : ClassId) (c0 : Int32) (Gc : Int32) (fm : Value) (h0 : Heap) (n0 : Nat) (XO0 : Old Z n0 h0) (S_ad : Sta Z Z.heap "java/lang/StringUTF16" "$assertionsDisabled" "Z" (.int 1)) (S_hi : Sta Z Z.heap "java/lang/StringUTF16" "HI_BYTE_SHIFT" "I" (.int 0)) (S_lo : Sta Z Z.heap "java/lang/StringUTF16" "LO_BYTE_SHIFT" "I" (.int 8)) (Oc : Sta Z Z.heap "java/lang/String" "COMPACT_STRINGS" "Z" (.int Gc)) (Pc : ¬ (Gc = (0 : Int32))) (S_f : Sta Z Z.heap "jdk/internal/util/Preconditions" "SIOOBE_FORMATTER" "Ljava/util/function/BiFunction;" fm) (r_f : fm.isRef = true) (E_x : Exa Z h0 x "java/lang/String") (F_v : Fld Z h0 x "java/lang/String" "value" "[B" (.ref t)) (TX : (Fld Z h0 x "java/lang/String" "coder" "B" (.int 0) ∧ Arv Z h0 t kb .byte (1 : Int32) [(.int (StrChars.lo8 c0))] (.int 0) ∧ ¬ (255 : Int32) < c0) ∨ (Fld Z h0 x "java/lang/String" "coder" "B" (.int 1) ∧ Arv Z h0 t kb .byte (2 : Int32) [(.int (StrChars.lo8 c0)), (.int (StrChars.hi8 c0))] (.int 0))) (r0 : own_c16 c0) :
    own_M l Z ym0 jdk_42_method_56_code ws 2 (some .char) (own_R 4 0 0 53) #[(.ref x), (.int 0)] h0 (own_qv c0 h0 n0) := by
  rcases TX with ⟨F_c, V_t, l0⟩ | ⟨F_c, V_t⟩
  · exact rmA_1_0_0 l Z a0 hw ws x t kb c0 Gc fm h0 n0 XO0 S_ad S_hi S_lo Oc Pc S_f r_f E_x F_v F_c V_t r0 l0
  · exact rmA_1_0_1 l Z a0 hw ws x t kb c0 Gc fm h0 n0 XO0 S_ad S_hi S_lo Oc Pc S_f r_f E_x F_v F_c V_t r0
theorem ef_rmZ_1 (m : MethodId) (x0 : Nat) : entryFrame m #[(.ref x0)] 3 = mkF m 0 #[.val (.ref x0), .unset, .unset] [] := by first | (simp [entryFrame, mkF, argsToLocals, Value.category]; done) | rfl
theorem d4_9 : decode prog_43_method_2_code 9 = .ok (.iconst 0, 1) := by decide +kernel
theorem d4_10 : decode prog_43_method_2_code 10 = .ok (.istore_n 1, 1) := by decide +kernel
theorem d4_11 : decode prog_43_method_2_code 11 = .ok (.iload_n 1, 1) := by decide +kernel
theorem d4_12 : decode prog_43_method_2_code 12 = .ok (.aload_n 0, 1) := by decide +kernel
theorem d4_13 : decode prog_43_method_2_code 13 = .ok (.invokevirtual 13, 3) := by decide +kernel
theorem pd_14 : parseMethodDescriptor "()I" = some ⟨[], some .int⟩ := by decide +kernel
theorem d4_16 : decode prog_43_method_2_code 16 = .ok (.if_icmp .ge 41, 3) := by decide +kernel
theorem d4_19 : decode prog_43_method_2_code 19 = .ok (.aload_n 0, 1) := by decide +kernel
theorem d4_20 : decode prog_43_method_2_code 20 = .ok (.iload_n 1, 1) := by decide +kernel
theorem d4_21 : decode prog_43_method_2_code 21 = .ok (.invokevirtual 17, 3) := by decide +kernel
theorem pd_15 : parseMethodDescriptor "(I)C" = some ⟨[.int], some .char⟩ := by decide +kernel
theorem d4_24 : decode prog_43_method_2_code 24 = .ok (.istore_n 2, 1) := by decide +kernel
theorem d4_25 : decode prog_43_method_2_code 25 = .ok (.iload_n 2, 1) := by decide +kernel
theorem d4_26 : decode prog_43_method_2_code 26 = .ok (.bipush 33, 2) := by decide +kernel
theorem d4_28 : decode prog_43_method_2_code 28 = .ok (.if_icmp .lt 21, 3) := by decide +kernel
theorem d4_49 : decode prog_43_method_2_code 49 = .ok (.iconst 0, 1) := by decide +kernel
theorem d4_50 : decode prog_43_method_2_code 50 = .ok (.ireturn, 1) := by decide +kernel
theorem d4_31 : decode prog_43_method_2_code 31 = .ok (.iload_n 2, 1) := by decide +kernel
theorem d4_32 : decode prog_43_method_2_code 32 = .ok (.bipush 126, 2) := by decide +kernel
theorem d4_34 : decode prog_43_method_2_code 34 = .ok (.if_icmp .gt 15, 3) := by decide +kernel
theorem d4_37 : decode prog_43_method_2_code 37 = .ok (.iload_n 2, 1) := by decide +kernel
theorem d4_38 : decode prog_43_method_2_code 38 = .ok (.bipush 34, 2) := by decide +kernel
theorem d4_40 : decode prog_43_method_2_code 40 = .ok (.if_icmp .eq 9, 3) := by decide +kernel
theorem d4_43 : decode prog_43_method_2_code 43 = .ok (.iload_n 2, 1) := by decide +kernel
theorem d4_44 : decode prog_43_method_2_code 44 = .ok (.bipush 92, 2) := by decide +kernel
theorem d4_46 : decode prog_43_method_2_code 46 = .ok (.if_icmp .ne 5, 3) := by decide +kernel
theorem d4_51 : decode prog_43_method_2_code 51 = .ok (.iinc 1 1, 3) := by decide +kernel
theorem d4_54 : decode prog_43_method_2_code 54 = .ok (.goto (-43), 3) := by decide +kernel
theorem d4_57 : decode prog_43_method_2_code 57 = .ok (.iconst 1, 1) := by decide +kernel
theorem d4_58 : decode prog_43_method_2_code 58 = .ok (.ireturn, 1) := by decide +kernel
def Q_rmZ_1 (Z : State) (x : Nat) (t : Nat) (kb : ClassId) (c0 : Int32) (Gc : Int32) (fm : Value) (h0 : Heap) (n0 : Nat) (v : Option Value) (h : Heap) (L : List Loc) : Prop := v = some (.int (own_okn [c0])) ∧ Fr n0 L ∧ h = h0
set_option maxRecDepth 65536 in
set_option maxHeartbeats 40000000 in
theorem rmZ_1 (l : Launch) (Z : State) (a0 : Array Value) (hw : own_H Z a0) (ws : List Jvm.Cond) (x : Nat) (t : Nat) (kb : ClassId) (c0 : Int32) (Gc : Int32) (fm : Value) (h0 : Heap) (n0 : Nat) (XO0 : Old Z n0 h0) (S_ad : Sta Z Z.heap "java/lang/StringUTF16" "$assertionsDisabled" "Z" (.int 1)) (S_hi : Sta Z Z.heap "java/lang/StringUTF16" "HI_BYTE_SHIFT" "I" (.int 0)) (S_lo : Sta Z Z.heap "java/lang/StringUTF16" "LO_BYTE_SHIFT" "I" (.int 8)) (Oc : Sta Z Z.heap "java/lang/String" "COMPACT_STRINGS" "Z" (.int Gc)) (Pc : ¬ (Gc = (0 : Int32))) (S_f : Sta Z Z.heap "jdk/internal/util/Preconditions" "SIOOBE_FORMATTER" "Ljava/util/function/BiFunction;" fm) (r_f : fm.isRef = true) (E_x : Exa Z h0 x "java/lang/String") (F_v : Fld Z h0 x "java/lang/String" "value" "[B" (.ref t)) (TX : (Fld Z h0 x "java/lang/String" "coder" "B" (.int 0) ∧ Arv Z h0 t kb .byte (1 : Int32) [(.int (StrChars.lo8 c0))] (.int 0) ∧ ¬ (255 : Int32) < c0) ∨ (Fld Z h0 x "java/lang/String" "coder" "B" (.int 1) ∧ Arv Z h0 t kb .byte (2 : Int32) [(.int (StrChars.lo8 c0)), (.int (StrChars.hi8 c0))] (.int 0))) (r0 : own_c16 c0) :
    own_M l Z ym3 prog_43_method_2_code ws 3 (some .boolean) (own_R 5 0 0 66) #[(.ref x)] h0 (Q_rmZ_1 Z x t kb c0 Gc fm h0 n0) := by
  refine own_open (plainFor_of_name pn_4) ?_
  intro p e s m below meth c s₁ hx hby hlk hret hml hown hnm hZ X0 e0
  have hW := own_hW hw
  have N0 := Fr.nil n0
  refine own_of (fun tt_ kk_ => castTop (ef_rmZ_1 m x) kk_) ?_
  show own_go p e below s _ _ _ (s₁.setTop (mkF m 0 #[.val (.ref x), .unset, .unset] []))
  refine own_of (fun tt_ => XS.aloadN X0.here hx rfl (hb hby d4_0) rfl rfl) ?_
  show own_go p e below s _ _ _ (s₁.setTop (mkF m 1 #[.val (.ref x), .unset, .unset] [(.ref x)]))
  obtain ⟨cq1, kq1, q1a, q1b, q1c⟩ := isOf hZ e0 E_x
  obtain ⟨_, _, ⟨T1, L1, k1, n1⟩, -, X1, ⟨Lc1, hQ1, l1, y1, z1⟩, st1⟩ := X0.virtualBack hx (y := ym5) (z := ym5) hown (mvT hZ (hW 27 _ rfl)) (mvT hZ (hW 28 _ rfl)) (notFace_of_selects (args := #[]) (mvT hZ (hW 30 _ rfl))) (mvT hZ (hW 30 _ rfl)) (mvT hZ (hW 29 _ rfl)) (by decide) (backOf (W := 0) (rmI_1 l Z a0 hw [] x t kb c0 h0 n0 XO0 E_x F_v TX) hZ (hW 31 _ rfl) (hW 3 _ rfl) (by decide) (by decide)) q1a q1c (g := (mkF m 1 #[.val (.ref x), .unset, .unset] [(.ref x)])) rfl (by rw [hml]; rfl) (Steps.refl _) (argsL := []) (rest := []) (lenOf pd_12 rfl) rfl (by show 2 * 0 + _ ≤ _; exact Nat.le_of_eq rfl) (hb hby d4_1) (fun _ _ => ⟨rfl, e0, (by decide : 0 + 0 ≤ _), (by decide : 0 + 0 ≤ _)⟩)
  dsimp only [Pt.U, Pt.locs, Pt.cells, Pt.slots] at X1 l1 y1 z1 st1 hQ1
  subst l1 y1 z1
  obtain ⟨rfl, Nq1, eh1⟩ := hQ1
  have N1 := Fr.app N0 Nq1
  refine own_of (fun tt_ kk_ => st1.trans kk_) ?_
  show own_go p e below s _ _ _ (T1.setTop (mkF m 4 #[.val (.ref x), .unset, .unset] [(.int 0)]))
  have hb4_2 : (0 : Int32) = (0 : Int32) := by decide
  refine own_of (fun tt_ => XS.ifYes X1.here hx rfl (pc0 := 4) (pc' := 9) rfl (hb hby d4_4) rfl ((if0 _ _).trans (teq hb4_2).1) (by decide) (by decide)) ?_
  show own_go p e below s _ _ _ (T1.setTop (mkF m 9 #[.val (.ref x), .unset, .unset] []))
  refine own_of (fun tt_ => XS.iconst X1.here hx rfl (hb hby d4_9)) ?_
  refine own_of (fun tt_ => XS.istoreN X1.here hx rfl (hb hby d4_10) rfl (l' := #[.val (.ref x), .val (.int 0), .unset]) rfl) ?_
  refine own_of (fun tt_ => XS.iloadN X1.here hx rfl (hb hby d4_11) rfl) ?_
  refine own_of (fun tt_ => XS.aloadN X1.here hx rfl (hb hby d4_12) rfl rfl) ?_
  show own_go p e below s _ _ _ (T1.setTop (mkF m 13 #[.val (.ref x), .val (.int 0), .unset] [(.ref x), (.int 0)]))
  obtain ⟨cq3, kq3, q3a, q3b, q3c⟩ := isOf hZ eh1 E_x
  obtain ⟨_, _, ⟨T3, L3, k3, n3⟩, -, X3, ⟨Lc3, hQ3, l3, y3, z3⟩, st3⟩ := X1.virtualBack hx (y := ym1) (z := ym1) hown (mvT hZ (hW 47 _ rfl)) (mvT hZ (hW 48 _ rfl)) (notFace_of_selects (args := #[]) (mvT hZ (hW 50 _ rfl))) (mvT hZ (hW 50 _ rfl)) (mvT hZ (hW 49 _ rfl)) (by decide) (backOf (W := 1) (rmN_1 l Z a0 hw [] x t kb c0 Gc h0 n0 XO0 Oc Pc E_x F_v TX) hZ (hW 51 _ rfl) (hW 3 _ rfl) (by decide) (by decide)) q3a q3c (g := (mkF m 13 #[.val (.ref x), .val (.int 0), .unset] [(.ref x), (.int 0)])) rfl (by rw [hml]; rfl) (Steps.refl _) (argsL := []) (rest := [(.int 0)]) (lenOf pd_14 rfl) rfl (by show 2 * 0 + _ ≤ _; exact Nat.le_of_eq rfl) (hb hby d4_13) (fun _ _ => ⟨rfl, eh1, (by decide : 0 + 0 ≤ _), (by decide : 0 + 0 ≤ _)⟩)
  dsimp only [Pt.U, Pt.locs, Pt.cells, Pt.slots] at X3 l3 y3 z3 st3 hQ3
  subst l3 y3 z3
  obtain ⟨rfl, Nq3, eh3⟩ := hQ3
  have N3 := Fr.app N1 Nq3
  refine own_of (fun tt_ kk_ => st3.trans kk_) ?_
  show own_go p e below s _ _ _ (T3.setTop (mkF m 16 #[.val (.ref x), .val (.int 0), .unset] [(.int 1), (.int 0)]))
  have hb16_4 : (0 : Int32) < (1 : Int32) := by decide
  refine own_of (fun tt_ => XS.icmpNo X3.here hx rfl (hb hby d4_16) rfl (tlt hb16_4).2.1) ?_
  show own_go p e below s _ _ _ (T3.setTop (mkF m 19 #[.val (.ref x), .val (.int 0), .unset] []))
  refine own_of (fun tt_ => XS.aloadN X3.here hx rfl (hb hby d4_19) rfl rfl) ?_
  refine own_of (fun tt_ => XS.iloadN X3.here hx rfl (hb hby d4_20) rfl) ?_
  show own_go p e below s _ _ _ (T3.setTop (mkF m 21 #[.val (.ref x), .val (.int 0), .unset] [(.int 0), (.ref x)]))
  obtain ⟨cq5, kq5, q5a, q5b, q5c⟩ := isOf hZ eh3 E_x
  obtain ⟨_, _, ⟨T5, L5, k5, n5⟩, -, X5, ⟨Lc5, hQ5, l5, y5, z5⟩, st5⟩ := X3.virtualBack hx (y := ym0) (z := ym0) hown (mvT hZ (hW 57 _ rfl)) (mvT hZ (hW 58 _ rfl)) (notFace_of_selects (args := #[]) (mvT hZ (hW 60 _ rfl))) (mvT hZ (hW 60 _ rfl)) (mvT hZ (hW 59 _ rfl)) (by decide) (backOf (W := 0) (rmA_1_0 l Z a0 hw [] x t kb c0 Gc fm h0 n0 XO0 S_ad S_hi S_lo Oc Pc S_f r_f E_x F_v TX r0) hZ (hW 61 _ rfl) (hW 3 _ rfl) (by decide) (by decide)) q5a q5c (g := (mkF m 21 #[.val (.ref x), .val (.int 0), .unset] [(.int 0), (.ref x)])) rfl (by rw [hml]; rfl) (Steps.refl _) (argsL := [(.int 0)]) (rest := []) (lenOf pd_15 rfl) rfl (by show 2 * 0 + _ ≤ _; exact Nat.le_of_eq rfl) (hb hby d4_21) (fun _ _ => ⟨rfl, eh3, (by decide : 0 + 0 ≤ _), (by decide : 0 + 0 ≤ _)⟩)
  dsimp only [Pt.U, Pt.locs, Pt.cells, Pt.slots] at X5 l5 y5 z5 st5 hQ5
  subst l5 y5 z5
  obtain ⟨rfl, Nq5, eh5⟩ := hQ5
  have N5 := Fr.app N3 Nq5
  refine own_of (fun tt_ kk_ => st5.trans kk_) ?_
  show own_go p e below s _ _ _ (T5.setTop (mkF m 24 #[.val (.ref x), .val (.int 0), .unset] [(.int c0)]))
  refine own_of (fun tt_ => XS.istoreN X5.here hx rfl (hb hby d4_24) rfl (l' := #[.val (.ref x), .val (.int 0), .val (.int c0)]) rfl) ?_
  refine own_of (fun tt_ => XS.iloadN X5.here hx rfl (hb hby d4_25) rfl) ?_
  refine own_of (fun tt_ => XS.bipush X5.here hx rfl (hb hby d4_26)) ?_
  by_cases hb28_6 : c0 < (33 : Int32)
  · refine own_of (fun tt_ => XS.icmpYes X5.here hx rfl (pc0 := 28) (pc' := 49) rfl (hb hby d4_28) rfl (tlt hb28_6).1 (by decide) (by decide)) ?_
    show own_go p e below s _ _ _ (T5.setTop (mkF m 49 #[.val (.ref x), .val (.int 0), .val (.int c0)] []))
    refine own_of (fun tt_ => XS.iconst X5.here hx rfl (hb hby d4_49)) ?_
    show own_go p e below s _ _ _ (T5.setTop (mkF m 50 #[.val (.ref x), .val (.int 0), .val (.int c0)] [(.int 0)]))
    refine own_ret X5 hx hlk hret rfl (Or.inl ⟨rfl, by simp, _, rfl⟩) (hb hby d4_50) (by decide) (by decide) ?_
    rw [eh5]
    have fin : own_okn [c0] = 0 := own_okn0 (z := c0) (by simp) (own_okb (by first | exact Or.inl hb28_6))
    exact ⟨by rw [fin], N5, rfl⟩
  · refine own_of (fun tt_ => XS.icmpNo X5.here hx rfl (hb hby d4_28) rfl (flt hb28_6).1) ?_
    show own_go p e below s _ _ _ (T5.setTop (mkF m 31 #[.val (.ref x), .val (.int 0), .val (.int c0)] []))
    refine own_of (fun tt_ => XS.iloadN X5.here hx rfl (hb hby d4_31) rfl) ?_
    refine own_of (fun tt_ => XS.bipush X5.here hx rfl (hb hby d4_32)) ?_
    by_cases hb34_7 : (126 : Int32) < c0
    · refine own_of (fun tt_ => XS.icmpYes X5.here hx rfl (pc0 := 34) (pc' := 49) rfl (hb hby d4_34) rfl (tlt hb34_7).2.2.1 (by decide) (by decide)) ?_
      show own_go p e below s _ _ _ (T5.setTop (mkF m 49 #[.val (.ref x), .val (.int 0), .val (.int c0)] []))
      refine own_of (fun tt_ => XS.iconst X5.here hx rfl (hb hby d4_49)) ?_
      show own_go p e below s _ _ _ (T5.setTop (mkF m 50 #[.val (.ref x), .val (.int 0), .val (.int c0)] [(.int 0)]))
      refine own_ret X5 hx hlk hret rfl (Or.inl ⟨rfl, by simp, _, rfl⟩) (hb hby d4_50) (by decide) (by decide) ?_
      rw [eh5]
      have fin : own_okn [c0] = 0 := own_okn0 (z := c0) (by simp) (own_okb (by first | exact Or.inl hb28_6 | exact Or.inr (Or.inl hb34_7)))
      exact ⟨by rw [fin], N5, rfl⟩
    · refine own_of (fun tt_ => XS.icmpNo X5.here hx rfl (hb hby d4_34) rfl (flt hb34_7).2.2.1) ?_
      show own_go p e below s _ _ _ (T5.setTop (mkF m 37 #[.val (.ref x), .val (.int 0), .val (.int c0)] []))
      refine own_of (fun tt_ => XS.iloadN X5.here hx rfl (hb hby d4_37) rfl) ?_
      refine own_of (fun tt_ => XS.bipush X5.here hx rfl (hb hby d4_38)) ?_
      by_cases hb40_8 : c0 = (34 : Int32)
      · refine own_of (fun tt_ => XS.icmpYes X5.here hx rfl (pc0 := 40) (pc' := 49) rfl (hb hby d4_40) rfl (teq hb40_8).1 (by decide) (by decide)) ?_
        show own_go p e below s _ _ _ (T5.setTop (mkF m 49 #[.val (.ref x), .val (.int 0), .val (.int c0)] []))
        refine own_of (fun tt_ => XS.iconst X5.here hx rfl (hb hby d4_49)) ?_
        show own_go p e below s _ _ _ (T5.setTop (mkF m 50 #[.val (.ref x), .val (.int 0), .val (.int c0)] [(.int 0)]))
        refine own_ret X5 hx hlk hret rfl (Or.inl ⟨rfl, by simp, _, rfl⟩) (hb hby d4_50) (by decide) (by decide) ?_
        rw [eh5]
        have fin : own_okn [c0] = 0 := own_okn0 (z := c0) (by simp) (own_okb (by first | exact Or.inl hb28_6 | exact Or.inr (Or.inl hb34_7) | exact Or.inr (Or.inr (Or.inl hb40_8))))
        exact ⟨by rw [fin], N5, rfl⟩
      · refine own_of (fun tt_ => XS.icmpNo X5.here hx rfl (hb hby d4_40) rfl (feq hb40_8).1) ?_
        show own_go p e below s _ _ _ (T5.setTop (mkF m 43 #[.val (.ref x), .val (.int 0), .val (.int c0)] []))
        refine own_of (fun tt_ => XS.iloadN X5.here hx rfl (hb hby d4_43) rfl) ?_
        show own_go p e below s _ _ _ (T5.setTop (mkF m 44 #[.val (.ref x), .val (.int 0), .val (.int c0)] [(.int c0)]))
        refine own_of (fun tt_ => XS.bipush X5.here hx rfl (hb hby d4_44)) ?_
        by_cases hb46_9 : c0 = (92 : Int32)
        · refine own_of (fun tt_ => XS.icmpNo X5.here hx rfl (hb hby d4_46) rfl (teq hb46_9).2) ?_
          show own_go p e below s _ _ _ (T5.setTop (mkF m 49 #[.val (.ref x), .val (.int 0), .val (.int c0)] []))
          refine own_of (fun tt_ => XS.iconst X5.here hx rfl (hb hby d4_49)) ?_
          show own_go p e below s _ _ _ (T5.setTop (mkF m 50 #[.val (.ref x), .val (.int 0), .val (.int c0)] [(.int 0)]))
          refine own_ret X5 hx hlk hret rfl (Or.inl ⟨rfl, by simp, _, rfl⟩) (hb hby d4_50) (by decide) (by decide) ?_
          rw [eh5]
          have fin : own_okn [c0] = 0 := own_okn0 (z := c0) (by simp) (own_okb (by first | exact Or.inl hb28_6 | exact Or.inr (Or.inl hb34_7) | exact Or.inr (Or.inr (Or.inl hb40_8)) | exact Or.inr (Or.inr (Or.inr hb46_9))))
          exact ⟨by rw [fin], N5, rfl⟩
        · refine own_of (fun tt_ => XS.icmpYes X5.here hx rfl (pc0 := 46) (pc' := 51) rfl (hb hby d4_46) rfl (feq hb46_9).2 (by decide) (by decide)) ?_
          show own_go p e below s _ _ _ (T5.setTop (mkF m 51 #[.val (.ref x), .val (.int 0), .val (.int c0)] []))
          have gd_c0 := own_okg hb28_6 hb34_7 hb40_8 hb46_9
          refine own_of (fun tt_ => XS.iinc X5.here hx rfl (hb hby d4_51) rfl (l' := #[.val (.ref x), .val (.int 1), .val (.int c0)]) rfl) ?_
          refine own_of (fun tt_ => XS.goto X5.here hx rfl (pc0 := 54) (pc' := 11) rfl (hb hby d4_54) (by decide) (by decide)) ?_
          refine own_of (fun tt_ => XS.iloadN X5.here hx rfl (hb hby d4_11) rfl) ?_
          refine own_of (fun tt_ => XS.aloadN X5.here hx rfl (hb hby d4_12) rfl rfl) ?_
          show own_go p e below s _ _ _ (T5.setTop (mkF m 13 #[.val (.ref x), .val (.int 1), .val (.int c0)] [(.ref x), (.int 1)]))
          obtain ⟨cq10, kq10, q10a, q10b, q10c⟩ := isOf hZ eh5 E_x
          obtain ⟨_, _, ⟨T10, L10, k10, n10⟩, -, X10, ⟨Lc10, hQ10, l10, y10, z10⟩, st10⟩ := X5.virtualBack hx (y := ym1) (z := ym1) hown (mvT hZ (hW 47 _ rfl)) (mvT hZ (hW 48 _ rfl)) (notFace_of_selects (args := #[]) (mvT hZ (hW 50 _ rfl))) (mvT hZ (hW 50 _ rfl)) (mvT hZ (hW 49 _ rfl)) (by decide) (backOf (W := 1) (rmN_1 l Z a0 hw [] x t kb c0 Gc h0 n0 XO0 Oc Pc E_x F_v TX) hZ (hW 51 _ rfl) (hW 3 _ rfl) (by decide) (by decide)) q10a q10c (g := (mkF m 13 #[.val (.ref x), .val (.int 1), .val (.int c0)] [(.ref x), (.int 1)])) rfl (by rw [hml]; rfl) (Steps.refl _) (argsL := []) (rest := [(.int 1)]) (lenOf pd_14 rfl) rfl (by show 2 * 0 + _ ≤ _; exact Nat.le_of_eq rfl) (hb hby d4_13) (fun _ _ => ⟨rfl, eh5, (by decide : 0 + 0 ≤ _), (by decide : 0 + 0 ≤ _)⟩)
          dsimp only [Pt.U, Pt.locs, Pt.cells, Pt.slots] at X10 l10 y10 z10 st10 hQ10
          subst l10 y10 z10
          obtain ⟨rfl, Nq10, eh10⟩ := hQ10
          have N10 := Fr.app N5 Nq10
          refine own_of (fun tt_ kk_ => st10.trans kk_) ?_
          show own_go p e below s _ _ _ (T10.setTop (mkF m 16 #[.val (.ref x), .val (.int 1), .val (.int c0)] [(.int 1), (.int 1)]))
          have hb16_11 : ¬ ((1 : Int32) < (1 : Int32)) := by decide
          refine own_of (fun tt_ => XS.icmpYes X10.here hx rfl (pc0 := 16) (pc' := 57) rfl (hb hby d4_16) rfl (flt hb16_11).2.1 (by decide) (by decide)) ?_
          show own_go p e below s _ _ _ (T10.setTop (mkF m 57 #[.val (.ref x), .val (.int 1), .val (.int c0)] []))
          refine own_of (fun tt_ => XS.iconst X10.here hx rfl (hb hby d4_57)) ?_
          show own_go p e below s _ _ _ (T10.setTop (mkF m 58 #[.val (.ref x), .val (.int 1), .val (.int c0)] [(.int 1)]))
          refine own_ret X10 hx hlk hret rfl (Or.inl ⟨rfl, by simp, _, rfl⟩) (hb hby d4_58) (by decide) (by decide) ?_
          rw [eh10]
          have fin : own_okn [c0] = 1 := by simp [own_okn, gd_c0]
          exact ⟨by rw [fin], N10, rfl⟩
theorem ef_rmI_2_0 (m : MethodId) (x0 : Nat) : entryFrame m #[(.ref x0)] 1 = mkF m 0 #[.val (.ref x0)] [] := by first | (simp [entryFrame, mkF, argsToLocals, Value.category]; done) | rfl
set_option maxRecDepth 65536 in
set_option maxHeartbeats 40000000 in
theorem rmI_2_0 (l : Launch) (Z : State) (a0 : Array Value) (hw : own_H Z a0) (ws : List Jvm.Cond) (x : Nat) (t : Nat) (kb : ClassId) (c0 : Int32) (c1 : Int32) (h0 : Heap) (n0 : Nat) (XO0 : Old Z n0 h0) (E_x : Exa Z h0 x "java/lang/String") (F_v : Fld Z h0 x "java/lang/String" "value" "[B" (.ref t)) (F_c : Fld Z h0 x "java/lang/String" "coder" "B" (.int 0)) (V_t : Arv Z h0 t kb .byte (2 : Int32) [(.int (StrChars.lo8 c0)), (.int (StrChars.lo8 c1))] (.int 0)) :
    own_M l Z ym5 jdk_42_method_55_code ws 1 (some .boolean) (own_R 0 0 0 0) #[(.ref x)] h0 (own_qv (0 : Int32) h0 n0) := by
  refine own_open (plainFor_of_name pn_1) ?_
  intro p e s m below meth c s₁ hx hby hlk hret hml hown hnm hZ X0 e0
  have hW := own_hW hw
  have N0 := Fr.nil n0
  refine own_of (fun tt_ kk_ => castTop (ef_rmI_2_0 m x) kk_) ?_
  show own_go p e below s _ _ _ (s₁.setTop (mkF m 0 #[.val (.ref x)] []))
  refine own_of (fun tt_ => XS.aloadN X0.here hx rfl (hb hby d5_0) rfl rfl) ?_
  obtain ⟨T1, X1, e1, st1⟩ := getF X0 hx hZ hown (host := "") (Or.inl (hW 21 _ rfl)) Via.refl e0 F_v (g := (mkF m 1 #[.val (.ref x)] [(.ref x)])) rfl rfl (hb hby d5_1)
  refine own_of st1 ?_
  show own_go p e below s _ _ _ (T1.setTop (mkF m 4 #[.val (.ref x)] [(.ref t)]))
  obtain ⟨cl2, Ar2, q2, S2, Ng2, H2, G2⟩ := id V_t
  refine own_of (fun tt_ kk => X1.arraylength hx (by rw [e1]; exact Ar2.1) (State.isArrayOf_alike hZ.alike Ar2.2.1) (g := (mkF m 4 #[.val (.ref x)] [(.ref t)])) rfl rfl (hb hby d5_4) _ (by rw [len_of S2 Ng2]; exact kk)) ?_
  show own_go p e below s _ _ _ (T1.setTop (mkF m 5 #[.val (.ref x)] [(.int 2)]))
  have hb5_3 : ¬ ((2 : Int32) = (0 : Int32)) := by decide
  refine own_of (fun tt_ => XS.ifYes X1.here hx rfl (pc0 := 5) (pc' := 12) rfl (hb hby d5_5) rfl ((if0 _ _).trans (feq hb5_3).2) (by decide) (by decide)) ?_
  show own_go p e below s _ _ _ (T1.setTop (mkF m 12 #[.val (.ref x)] []))
  refine own_of (fun tt_ => XS.iconst X1.here hx rfl (hb hby d5_12)) ?_
  show own_go p e below s _ _ _ (T1.setTop (mkF m 13 #[.val (.ref x)] [(.int 0)]))
  refine own_ret X1 hx hlk hret rfl (Or.inl ⟨rfl, by simp, _, rfl⟩) (hb hby d5_13) (by decide) (by decide) ?_
  rw [e1]
  exact ⟨rfl, N0, rfl⟩
theorem ef_rmN_2_0 (m : MethodId) (x0 : Nat) : entryFrame m #[(.ref x0)] 1 = mkF m 0 #[.val (.ref x0)] [] := by first | (simp [entryFrame, mkF, argsToLocals, Value.category]; done) | rfl
set_option maxRecDepth 65536 in
set_option maxHeartbeats 40000000 in
theorem rmN_2_0 (l : Launch) (Z : State) (a0 : Array Value) (hw : own_H Z a0) (ws : List Jvm.Cond) (x : Nat) (t : Nat) (kb : ClassId) (c0 : Int32) (c1 : Int32) (Gc : Int32) (h0 : Heap) (n0 : Nat) (XO0 : Old Z n0 h0) (Oc : Sta Z Z.heap "java/lang/String" "COMPACT_STRINGS" "Z" (.int Gc)) (Pc : ¬ (Gc = (0 : Int32))) (E_x : Exa Z h0 x "java/lang/String") (F_v : Fld Z h0 x "java/lang/String" "value" "[B" (.ref t)) (F_c : Fld Z h0 x "java/lang/String" "coder" "B" (.int 0)) (V_t : Arv Z h0 t kb .byte (2 : Int32) [(.int (StrChars.lo8 c0)), (.int (StrChars.lo8 c1))] (.int 0)) :
    own_M l Z ym1 jdk_42_method_54_code ws 1 (some .int) (own_R 1 0 0 13) #[(.ref x)] h0 (own_qv (2 : Int32) h0 n0) := by
  refine own_open (plainFor_of_name pn_1) ?_
  intro p e s m below meth c s₁ hx hby hlk hret hml hown hnm hZ X0 e0
  have hW := own_hW hw
  have N0 := Fr.nil n0
  refine own_of (fun tt_ kk_ => castTop (ef_rmN_2_0 m x) kk_) ?_
  show own_go p e below s _ _ _ (s₁.setTop (mkF m 0 #[.val (.ref x)] []))
  refine own_of (fun tt_ => XS.aloadN X0.here hx rfl (hb hby d10_0) rfl rfl) ?_
  obtain ⟨T1, X1, e1, st1⟩ := getF X0 hx hZ hown (host := "") (Or.inl (hW 21 _ rfl)) Via.refl e0 F_v (g := (mkF m 1 #[.val (.ref x)] [(.ref x)])) rfl rfl (hb hby d10_1)
  refine own_of st1 ?_
  show own_go p e below s _ _ _ (T1.setTop (mkF m 4 #[.val (.ref x)] [(.ref t)]))
  obtain ⟨cl2, Ar2, q2, S2, Ng2, H2, G2⟩ := id V_t
  refine own_of (fun tt_ kk => X1.arraylength hx (by rw [e1]; exact Ar2.1) (State.isArrayOf_alike hZ.alike Ar2.2.1) (g := (mkF m 4 #[.val (.ref x)] [(.ref t)])) rfl rfl (hb hby d10_4) _ (by rw [len_of S2 Ng2]; exact kk)) ?_
  show own_go p e below s _ _ _ (T1.setTop (mkF m 5 #[.val (.ref x)] [(.int 2)]))
  refine own_of (fun tt_ => XS.aloadN X1.here hx rfl (hb hby d10_5) rfl rfl) ?_
  show own_go p e below s _ _ _ (T1.setTop (mkF m 6 #[.val (.ref x)] [(.ref x), (.int 2)]))
  obtain ⟨cq3, kq3, q3a, q3b, q3c⟩ := isOf hZ e1 E_x
  obtain ⟨_, _, ⟨T3, L3, k3, n3⟩, -, X3, ⟨Lc3, hQ3, l3, y3, z3⟩, st3⟩ := X1.virtualBack hx (y := ym6) (z := ym6) hown (mvT hZ (hW 52 _ rfl)) (mvT hZ (hW 53 _ rfl)) (notFace_of_selects (args := #[]) (mvT hZ (hW 55 _ rfl))) (mvT hZ (hW 55 _ rfl)) (mvT hZ (hW 54 _ rfl)) (by decide) (backOf (W := 1) (rmO_0 l Z a0 hw [] x Gc h0 n0 XO0 Oc Pc F_c) hZ (hW 56 _ rfl) (hW 3 _ rfl) (by decide) (by decide)) q3a q3c (g := (mkF m 6 #[.val (.ref x)] [(.ref x), (.int 2)])) rfl (by rw [hml]; rfl) (Steps.refl _) (argsL := []) (rest := [(.int 2)]) (lenOf pd_13 rfl) rfl (by show 2 * 0 + _ ≤ _; exact Nat.le_of_eq rfl) (hb hby d10_6) (fun _ _ => ⟨rfl, e1, (by decide : 0 + 0 ≤ _), (by decide : 0 + 0 ≤ _)⟩)
  dsimp only [Pt.U, Pt.locs, Pt.cells, Pt.slots] at X3 l3 y3 z3 st3 hQ3
  subst l3 y3 z3
  obtain ⟨rfl, Nq3, eh3⟩ := hQ3
  have N3 := Fr.app N0 Nq3
  refine own_of (fun tt_ kk_ => st3.trans kk_) ?_
  show own_go p e below s _ _ _ (T3.setTop (mkF m 9 #[.val (.ref x)] [(.int 0), (.int 2)]))
  refine own_of (fun tt_ => XS.ishr X3.here hx rfl (hb hby d10_9) rfl) ?_
  show own_go p e below s _ _ _ (T3.setTop (mkF m 10 #[.val (.ref x)] [(.int 2)]))
  refine own_ret X3 hx hlk hret rfl (Or.inl ⟨rfl, by simp, _, rfl⟩) (hb hby d10_10) (by decide) (by decide) ?_
  rw [eh3]
  exact ⟨rfl, N3, rfl⟩
theorem ef_rmI_2_1 (m : MethodId) (x0 : Nat) : entryFrame m #[(.ref x0)] 1 = mkF m 0 #[.val (.ref x0)] [] := by first | (simp [entryFrame, mkF, argsToLocals, Value.category]; done) | rfl
set_option maxRecDepth 65536 in
set_option maxHeartbeats 40000000 in
theorem rmI_2_1 (l : Launch) (Z : State) (a0 : Array Value) (hw : own_H Z a0) (ws : List Jvm.Cond) (x : Nat) (t : Nat) (kb : ClassId) (c0 : Int32) (c1 : Int32) (h0 : Heap) (n0 : Nat) (XO0 : Old Z n0 h0) (E_x : Exa Z h0 x "java/lang/String") (F_v : Fld Z h0 x "java/lang/String" "value" "[B" (.ref t)) (F_c : Fld Z h0 x "java/lang/String" "coder" "B" (.int 1)) (V_t : Arv Z h0 t kb .byte (4 : Int32) [(.int (StrChars.lo8 c0)), (.int (StrChars.hi8 c0)), (.int (StrChars.lo8 c1)), (.int (StrChars.hi8 c1))] (.int 0)) :
    own_M l Z ym5 jdk_42_method_55_code ws 1 (some .boolean) (own_R 0 0 0 0) #[(.ref x)] h0 (own_qv (0 : Int32) h0 n0) := by
  refine own_open (plainFor_of_name pn_1) ?_
  intro p e s m below meth c s₁ hx hby hlk hret hml hown hnm hZ X0 e0
  have hW := own_hW hw
  have N0 := Fr.nil n0
  refine own_of (fun tt_ kk_ => castTop (ef_rmI_2_1 m x) kk_) ?_
  show own_go p e below s _ _ _ (s₁.setTop (mkF m 0 #[.val (.ref x)] []))
  refine own_of (fun tt_ => XS.aloadN X0.here hx rfl (hb hby d5_0) rfl rfl) ?_
  obtain ⟨T1, X1, e1, st1⟩ := getF X0 hx hZ hown (host := "") (Or.inl (hW 21 _ rfl)) Via.refl e0 F_v (g := (mkF m 1 #[.val (.ref x)] [(.ref x)])) rfl rfl (hb hby d5_1)
  refine own_of st1 ?_
  show own_go p e below s _ _ _ (T1.setTop (mkF m 4 #[.val (.ref x)] [(.ref t)]))
  obtain ⟨cl2, Ar2, q2, S2, Ng2, H2, G2⟩ := id V_t
  refine own_of (fun tt_ kk => X1.arraylength hx (by rw [e1]; exact Ar2.1) (State.isArrayOf_alike hZ.alike Ar2.2.1) (g := (mkF m 4 #[.val (.ref x)] [(.ref t)])) rfl rfl (hb hby d5_4) _ (by rw [len_of S2 Ng2]; exact kk)) ?_
  show own_go p e below s _ _ _ (T1.setTop (mkF m 5 #[.val (.ref x)] [(.int 4)]))
  have hb5_3 : ¬ ((4 : Int32) = (0 : Int32)) := by decide
  refine own_of (fun tt_ => XS.ifYes X1.here hx rfl (pc0 := 5) (pc' := 12) rfl (hb hby d5_5) rfl ((if0 _ _).trans (feq hb5_3).2) (by decide) (by decide)) ?_
  show own_go p e below s _ _ _ (T1.setTop (mkF m 12 #[.val (.ref x)] []))
  refine own_of (fun tt_ => XS.iconst X1.here hx rfl (hb hby d5_12)) ?_
  show own_go p e below s _ _ _ (T1.setTop (mkF m 13 #[.val (.ref x)] [(.int 0)]))
  refine own_ret X1 hx hlk hret rfl (Or.inl ⟨rfl, by simp, _, rfl⟩) (hb hby d5_13) (by decide) (by decide) ?_
  rw [e1]
  exact ⟨rfl, N0, rfl⟩
theorem ef_rmN_2_1 (m : MethodId) (x0 : Nat) : entryFrame m #[(.ref x0)] 1 = mkF m 0 #[.val (.ref x0)] [] := by first | (simp [entryFrame, mkF, argsToLocals, Value.category]; done) | rfl
set_option maxRecDepth 65536 in
set_option maxHeartbeats 40000000 in
theorem rmN_2_1 (l : Launch) (Z : State) (a0 : Array Value) (hw : own_H Z a0) (ws : List Jvm.Cond) (x : Nat) (t : Nat) (kb : ClassId) (c0 : Int32) (c1 : Int32) (Gc : Int32) (h0 : Heap) (n0 : Nat) (XO0 : Old Z n0 h0) (Oc : Sta Z Z.heap "java/lang/String" "COMPACT_STRINGS" "Z" (.int Gc)) (Pc : ¬ (Gc = (0 : Int32))) (E_x : Exa Z h0 x "java/lang/String") (F_v : Fld Z h0 x "java/lang/String" "value" "[B" (.ref t)) (F_c : Fld Z h0 x "java/lang/String" "coder" "B" (.int 1)) (V_t : Arv Z h0 t kb .byte (4 : Int32) [(.int (StrChars.lo8 c0)), (.int (StrChars.hi8 c0)), (.int (StrChars.lo8 c1)), (.int (StrChars.hi8 c1))] (.int 0)) :
    own_M l Z ym1 jdk_42_method_54_code ws 1 (some .int) (own_R 1 0 0 13) #[(.ref x)] h0 (own_qv (2 : Int32) h0 n0) := by
  refine own_open (plainFor_of_name pn_1) ?_
  intro p e s m below meth c s₁ hx hby hlk hret hml hown hnm hZ X0 e0
  have hW := own_hW hw
  have N0 := Fr.nil n0
  refine own_of (fun tt_ kk_ => castTop (ef_rmN_2_1 m x) kk_) ?_
  show own_go p e below s _ _ _ (s₁.setTop (mkF m 0 #[.val (.ref x)] []))
  refine own_of (fun tt_ => XS.aloadN X0.here hx rfl (hb hby d10_0) rfl rfl) ?_
  obtain ⟨T1, X1, e1, st1⟩ := getF X0 hx hZ hown (host := "") (Or.inl (hW 21 _ rfl)) Via.refl e0 F_v (g := (mkF m 1 #[.val (.ref x)] [(.ref x)])) rfl rfl (hb hby d10_1)
  refine own_of st1 ?_
  show own_go p e below s _ _ _ (T1.setTop (mkF m 4 #[.val (.ref x)] [(.ref t)]))
  obtain ⟨cl2, Ar2, q2, S2, Ng2, H2, G2⟩ := id V_t
  refine own_of (fun tt_ kk => X1.arraylength hx (by rw [e1]; exact Ar2.1) (State.isArrayOf_alike hZ.alike Ar2.2.1) (g := (mkF m 4 #[.val (.ref x)] [(.ref t)])) rfl rfl (hb hby d10_4) _ (by rw [len_of S2 Ng2]; exact kk)) ?_
  show own_go p e below s _ _ _ (T1.setTop (mkF m 5 #[.val (.ref x)] [(.int 4)]))
  refine own_of (fun tt_ => XS.aloadN X1.here hx rfl (hb hby d10_5) rfl rfl) ?_
  show own_go p e below s _ _ _ (T1.setTop (mkF m 6 #[.val (.ref x)] [(.ref x), (.int 4)]))
  obtain ⟨cq3, kq3, q3a, q3b, q3c⟩ := isOf hZ e1 E_x
  obtain ⟨_, _, ⟨T3, L3, k3, n3⟩, -, X3, ⟨Lc3, hQ3, l3, y3, z3⟩, st3⟩ := X1.virtualBack hx (y := ym6) (z := ym6) hown (mvT hZ (hW 52 _ rfl)) (mvT hZ (hW 53 _ rfl)) (notFace_of_selects (args := #[]) (mvT hZ (hW 55 _ rfl))) (mvT hZ (hW 55 _ rfl)) (mvT hZ (hW 54 _ rfl)) (by decide) (backOf (W := 1) (rmO_1 l Z a0 hw [] x Gc h0 n0 XO0 Oc Pc F_c) hZ (hW 56 _ rfl) (hW 3 _ rfl) (by decide) (by decide)) q3a q3c (g := (mkF m 6 #[.val (.ref x)] [(.ref x), (.int 4)])) rfl (by rw [hml]; rfl) (Steps.refl _) (argsL := []) (rest := [(.int 4)]) (lenOf pd_13 rfl) rfl (by show 2 * 0 + _ ≤ _; exact Nat.le_of_eq rfl) (hb hby d10_6) (fun _ _ => ⟨rfl, e1, (by decide : 0 + 0 ≤ _), (by decide : 0 + 0 ≤ _)⟩)
  dsimp only [Pt.U, Pt.locs, Pt.cells, Pt.slots] at X3 l3 y3 z3 st3 hQ3
  subst l3 y3 z3
  obtain ⟨rfl, Nq3, eh3⟩ := hQ3
  have N3 := Fr.app N0 Nq3
  refine own_of (fun tt_ kk_ => st3.trans kk_) ?_
  show own_go p e below s _ _ _ (T3.setTop (mkF m 9 #[.val (.ref x)] [(.int 1), (.int 4)]))
  refine own_of (fun tt_ => XS.ishr X3.here hx rfl (hb hby d10_9) rfl) ?_
  show own_go p e below s _ _ _ (T3.setTop (mkF m 10 #[.val (.ref x)] [(.int 2)]))
  refine own_ret X3 hx hlk hret rfl (Or.inl ⟨rfl, by simp, _, rfl⟩) (hb hby d10_10) (by decide) (by decide) ?_
  rw [eh3]
  exact ⟨rfl, N3, rfl⟩
theorem rmI_2 (l : Launch) (Z : State) (a0 : Array Value) (hw : own_H Z a0) (ws : List Jvm.Cond) (x : Nat) (t : Nat) (kb : ClassId) (c0 : Int32) (c1 : Int32) (h0 : Heap) (n0 : Nat) (XO0 : Old Z n0 h0) (E_x : Exa Z h0 x "java/lang/String") (F_v : Fld Z h0 x "java/lang/String" "value" "[B" (.ref t)) (TX : (Fld Z h0 x "java/lang/String" "coder" "B" (.int 0) ∧ Arv Z h0 t kb .byte (2 : Int32) [(.int (StrChars.lo8 c0)), (.int (StrChars.lo8 c1))] (.int 0) ∧ ¬ (255 : Int32) < c0 ∧ ¬ (255 : Int32) < c1) ∨ (Fld Z h0 x "java/lang/String" "coder" "B" (.int 1) ∧ Arv Z h0 t kb .byte (4 : Int32) [(.int (StrChars.lo8 c0)), (.int (StrChars.hi8 c0)), (.int (StrChars.lo8 c1)), (.int (StrChars.hi8 c1))] (.int 0))) :
    own_M l Z ym5 jdk_42_method_55_code ws 1 (some .boolean) (own_R 0 0 0 0) #[(.ref x)] h0 (own_qv (0 : Int32) h0 n0) := by
  rcases TX with ⟨F_c, V_t, l0, l1⟩ | ⟨F_c, V_t⟩
  · exact rmI_2_0 l Z a0 hw ws x t kb c0 c1 h0 n0 XO0 E_x F_v F_c V_t 
  · exact rmI_2_1 l Z a0 hw ws x t kb c0 c1 h0 n0 XO0 E_x F_v F_c V_t 
theorem rmN_2 (l : Launch) (Z : State) (a0 : Array Value) (hw : own_H Z a0) (ws : List Jvm.Cond) (x : Nat) (t : Nat) (kb : ClassId) (c0 : Int32) (c1 : Int32) (Gc : Int32) (h0 : Heap) (n0 : Nat) (XO0 : Old Z n0 h0) (Oc : Sta Z Z.heap "java/lang/String" "COMPACT_STRINGS" "Z" (.int Gc)) (Pc : ¬ (Gc = (0 : Int32))) (E_x : Exa Z h0 x "java/lang/String") (F_v : Fld Z h0 x "java/lang/String" "value" "[B" (.ref t)) (TX : (Fld Z h0 x "java/lang/String" "coder" "B" (.int 0) ∧ Arv Z h0 t kb .byte (2 : Int32) [(.int (StrChars.lo8 c0)), (.int (StrChars.lo8 c1))] (.int 0) ∧ ¬ (255 : Int32) < c0 ∧ ¬ (255 : Int32) < c1) ∨ (Fld Z h0 x "java/lang/String" "coder" "B" (.int 1) ∧ Arv Z h0 t kb .byte (4 : Int32) [(.int (StrChars.lo8 c0)), (.int (StrChars.hi8 c0)), (.int (StrChars.lo8 c1)), (.int (StrChars.hi8 c1))] (.int 0))) :
    own_M l Z ym1 jdk_42_method_54_code ws 1 (some .int) (own_R 1 0 0 13) #[(.ref x)] h0 (own_qv (2 : Int32) h0 n0) := by
  rcases TX with ⟨F_c, V_t, l0, l1⟩ | ⟨F_c, V_t⟩
  · exact rmN_2_0 l Z a0 hw ws x t kb c0 c1 Gc h0 n0 XO0 Oc Pc E_x F_v F_c V_t 
  · exact rmN_2_1 l Z a0 hw ws x t kb c0 c1 Gc h0 n0 XO0 Oc Pc E_x F_v F_c V_t 
theorem ef_rmA_2_0_0 (m : MethodId) (x0 : Nat) (x1 : Int32) : entryFrame m #[(.ref x0), (.int x1)] 2 = mkF m 0 #[.val (.ref x0), .val (.int x1)] [] := by first | (simp [entryFrame, mkF, argsToLocals, Value.category]; done) | rfl
set_option maxRecDepth 65536 in
set_option maxHeartbeats 40000000 in
theorem rmA_2_0_0 (l : Launch) (Z : State) (a0 : Array Value) (hw : own_H Z a0) (ws : List Jvm.Cond) (x : Nat) (t : Nat) (kb : ClassId) (c0 : Int32) (c1 : Int32) (Gc : Int32) (fm : Value) (h0 : Heap) (n0 : Nat) (XO0 : Old Z n0 h0) (S_ad : Sta Z Z.heap "java/lang/StringUTF16" "$assertionsDisabled" "Z" (.int 1)) (S_hi : Sta Z Z.heap "java/lang/StringUTF16" "HI_BYTE_SHIFT" "I" (.int 0)) (S_lo : Sta Z Z.heap "java/lang/StringUTF16" "LO_BYTE_SHIFT" "I" (.int 8)) (Oc : Sta Z Z.heap "java/lang/String" "COMPACT_STRINGS" "Z" (.int Gc)) (Pc : ¬ (Gc = (0 : Int32))) (S_f : Sta Z Z.heap "jdk/internal/util/Preconditions" "SIOOBE_FORMATTER" "Ljava/util/function/BiFunction;" fm) (r_f : fm.isRef = true) (E_x : Exa Z h0 x "java/lang/String") (F_v : Fld Z h0 x "java/lang/String" "value" "[B" (.ref t)) (F_c : Fld Z h0 x "java/lang/String" "coder" "B" (.int 0)) (V_t : Arv Z h0 t kb .byte (2 : Int32) [(.int (StrChars.lo8 c0)), (.int (StrChars.lo8 c1))] (.int 0)) (r0 : own_c16 c0) (r1 : own_c16 c1) (l0 : ¬ (255 : Int32) < c0) (l1 : ¬ (255 : Int32) < c1) :
    own_M l Z ym0 jdk_42_method_56_code ws 2 (some .char) (own_R 4 0 0 53) #[(.ref x), (.int 0)] h0 (own_qv c0 h0 n0) := by
  refine own_open (plainFor_of_name pn_1) ?_
  intro p e s m below meth c s₁ hx hby hlk hret hml hown hnm hZ X0 e0
  have hW := own_hW hw
  have N0 := Fr.nil n0
  refine own_of (fun tt_ kk_ => castTop (ef_rmA_2_0_0 m x (0 : Int32)) kk_) ?_
  show own_go p e below s _ _ _ (s₁.setTop (mkF m 0 #[.val (.ref x), .val (.int 0)] []))
  refine own_of (fun tt_ => XS.aloadN X0.here hx rfl (hb hby d12_0) rfl rfl) ?_
  show own_go p e below s _ _ _ (s₁.setTop (mkF m 1 #[.val (.ref x), .val (.int 0)] [(.ref x)]))
  obtain ⟨cq1, kq1, q1a, q1b, q1c⟩ := isOf hZ e0 E_x
  obtain ⟨_, _, ⟨T1, L1, k1, n1⟩, -, X1, ⟨Lc1, hQ1, l1, y1, z1⟩, st1⟩ := X0.virtualBack hx (y := ym2) (z := ym2) hown (mvT hZ (hW 62 _ rfl)) (mvT hZ (hW 63 _ rfl)) (notFace_of_selects (args := #[]) (mvT hZ (hW 65 _ rfl))) (mvT hZ (hW 65 _ rfl)) (mvT hZ (hW 64 _ rfl)) (by decide) (backOf (W := 0) (rmY_0 l Z a0 hw [] x Gc h0 n0 XO0 Oc Pc F_c) hZ (hW 66 _ rfl) (hW 3 _ rfl) (by decide) (by decide)) q1a q1c (g := (mkF m 1 #[.val (.ref x), .val (.int 0)] [(.ref x)])) rfl (by rw [hml]; rfl) (Steps.refl _) (argsL := []) (rest := []) (lenOf pd_12 rfl) rfl (by show 2 * 0 + _ ≤ _; exact Nat.le_of_eq rfl) (hb hby d12_1) (fun _ _ => ⟨rfl, e0, (by decide : 0 + 0 ≤ _), (by decide : 0 + 0 ≤ _)⟩)
  dsimp only [Pt.U, Pt.locs, Pt.cells, Pt.slots] at X1 l1 y1 z1 st1 hQ1
  subst l1 y1 z1
  obtain ⟨rfl, Nq1, eh1⟩ := hQ1
  have N1 := Fr.app N0 Nq1
  refine own_of (fun tt_ kk_ => st1.trans kk_) ?_
  show own_go p e below s _ _ _ (T1.setTop (mkF m 4 #[.val (.ref x), .val (.int 0)] [(.int 1)]))
  have hb4_2 : ¬ ((1 : Int32) = (0 : Int32)) := by decide
  refine own_of (fun tt_ => XS.ifNo X1.here hx rfl (hb hby d12_4) rfl ((if0 _ _).trans (feq hb4_2).1)) ?_
  show own_go p e below s _ _ _ (T1.setTop (mkF m 7 #[.val (.ref x), .val (.int 0)] []))
  refine own_of (fun tt_ => XS.aloadN X1.here hx rfl (hb hby d12_7) rfl rfl) ?_
  obtain ⟨T3, X3, e3, st3⟩ := getF X1 hx hZ hown (host := "") (Or.inl (hW 21 _ rfl)) Via.refl eh1 F_v (g := (mkF m 8 #[.val (.ref x), .val (.int 0)] [(.ref x)])) rfl rfl (hb hby d12_8)
  refine own_of st3 ?_
  show own_go p e below s _ _ _ (T3.setTop (mkF m 11 #[.val (.ref x), .val (.int 0)] [(.ref t)]))
  refine own_of (fun tt_ => XS.iloadN X3.here hx rfl (hb hby d12_11) rfl) ?_
  show own_go p e below s _ _ _ (T3.setTop (mkF m 12 #[.val (.ref x), .val (.int 0)] [(.int 0), (.ref t)]))
  obtain ⟨_, _, ⟨T4, L4, k4, n4⟩, -, X4, ⟨Lc4, hQ4, l4, y4, z4⟩, st4⟩ := Jvm.LawKit.callS X3 hx (y := ym15) hown (mvT hZ (hW 67 _ rfl)) (mvT hZ (hW 68 _ rfl)) (mvT hZ (hW 69 _ rfl)) (mvT hZ (hW 70 _ rfl)) (by decide) (backOf (W := 0) (rmX7_2_0 l Z a0 hw [] t kb c0 c1 fm h0 n0 XO0 S_f r_f V_t r0 r1 l0 l1) hZ (hW 70 _ rfl) (hW 69 _ rfl) (by decide) (by decide)) (g := (mkF m 12 #[.val (.ref x), .val (.int 0)] [(.int 0), (.ref t)])) rfl (by rw [hml]; rfl) (argsL := [(.ref t), (.int 0)]) (rest := []) (lenOf pd_5 rfl) rfl (by show 2 * 0 + _ ≤ _; exact Nat.le_of_eq rfl) (hb hby d12_12) (fun _ _ => ⟨rfl, e3, (by decide : 0 + 0 ≤ _), (by decide : 0 + 0 ≤ _)⟩)
  dsimp only [Pt.U, Pt.locs, Pt.cells, Pt.slots] at X4 l4 y4 z4 st4 hQ4
  subst l4 y4 z4
  obtain ⟨rfl, Nq4, eh4⟩ := hQ4
  have N4 := Fr.app N1 Nq4
  refine own_of st4 ?_
  show own_go p e below s _ _ _ (T4.setTop (mkF m 15 #[.val (.ref x), .val (.int 0)] [(.int c0)]))
  refine own_ret X4 hx hlk hret (StrChars.narrow_ch r0.1 r0.2) (Or.inl ⟨rfl, by simp, _, rfl⟩) (hb hby d12_15) (by decide) (by decide) ?_
  rw [eh4]
  exact ⟨rfl, N4, rfl⟩
theorem ef_rmA_2_0_1 (m : MethodId) (x0 : Nat) (x1 : Int32) : entryFrame m #[(.ref x0), (.int x1)] 2 = mkF m 0 #[.val (.ref x0), .val (.int x1)] [] := by first | (simp [entryFrame, mkF, argsToLocals, Value.category]; done) | rfl
set_option maxRecDepth 65536 in
set_option maxHeartbeats 40000000 in
theorem rmA_2_0_1 (l : Launch) (Z : State) (a0 : Array Value) (hw : own_H Z a0) (ws : List Jvm.Cond) (x : Nat) (t : Nat) (kb : ClassId) (c0 : Int32) (c1 : Int32) (Gc : Int32) (fm : Value) (h0 : Heap) (n0 : Nat) (XO0 : Old Z n0 h0) (S_ad : Sta Z Z.heap "java/lang/StringUTF16" "$assertionsDisabled" "Z" (.int 1)) (S_hi : Sta Z Z.heap "java/lang/StringUTF16" "HI_BYTE_SHIFT" "I" (.int 0)) (S_lo : Sta Z Z.heap "java/lang/StringUTF16" "LO_BYTE_SHIFT" "I" (.int 8)) (Oc : Sta Z Z.heap "java/lang/String" "COMPACT_STRINGS" "Z" (.int Gc)) (Pc : ¬ (Gc = (0 : Int32))) (S_f : Sta Z Z.heap "jdk/internal/util/Preconditions" "SIOOBE_FORMATTER" "Ljava/util/function/BiFunction;" fm) (r_f : fm.isRef = true) (E_x : Exa Z h0 x "java/lang/String") (F_v : Fld Z h0 x "java/lang/String" "value" "[B" (.ref t)) (F_c : Fld Z h0 x "java/lang/String" "coder" "B" (.int 1)) (V_t : Arv Z h0 t kb .byte (4 : Int32) [(.int (StrChars.lo8 c0)), (.int (StrChars.hi8 c0)), (.int (StrChars.lo8 c1)), (.int (StrChars.hi8 c1))] (.int 0)) (r0 : own_c16 c0) (r1 : own_c16 c1) :
    own_M l Z ym0 jdk_42_method_56_code ws 2 (some .char) (own_R 4 0 0 53) #[(.ref x), (.int 0)] h0 (own_qv c0 h0 n0) := by
  refine own_open (plainFor_of_name pn_1) ?_
  intro p e s m below meth c s₁ hx hby hlk hret hml hown hnm hZ X0 e0
  have hW := own_hW hw
  have N0 := Fr.nil n0
  refine own_of (fun tt_ kk_ => castTop (ef_rmA_2_0_1 m x (0 : Int32)) kk_) ?_
  show own_go p e below s _ _ _ (s₁.setTop (mkF m 0 #[.val (.ref x), .val (.int 0)] []))
  refine own_of (fun tt_ => XS.aloadN X0.here hx rfl (hb hby d12_0) rfl rfl) ?_
  show own_go p e below s _ _ _ (s₁.setTop (mkF m 1 #[.val (.ref x), .val (.int 0)] [(.ref x)]))
  obtain ⟨cq1, kq1, q1a, q1b, q1c⟩ := isOf hZ e0 E_x
  obtain ⟨_, _, ⟨T1, L1, k1, n1⟩, -, X1, ⟨Lc1, hQ1, l1, y1, z1⟩, st1⟩ := X0.virtualBack hx (y := ym2) (z := ym2) hown (mvT hZ (hW 62 _ rfl)) (mvT hZ (hW 63 _ rfl)) (notFace_of_selects (args := #[]) (mvT hZ (hW 65 _ rfl))) (mvT hZ (hW 65 _ rfl)) (mvT hZ (hW 64 _ rfl)) (by decide) (backOf (W := 0) (rmY_1 l Z a0 hw [] x Gc h0 n0 XO0 Oc Pc F_c) hZ (hW 66 _ rfl) (hW 3 _ rfl) (by decide) (by decide)) q1a q1c (g := (mkF m 1 #[.val (.ref x), .val (.int 0)] [(.ref x)])) rfl (by rw [hml]; rfl) (Steps.refl _) (argsL := []) (rest := []) (lenOf pd_12 rfl) rfl (by show 2 * 0 + _ ≤ _; exact Nat.le_of_eq rfl) (hb hby d12_1) (fun _ _ => ⟨rfl, e0, (by decide : 0 + 0 ≤ _), (by decide : 0 + 0 ≤ _)⟩)
  dsimp only [Pt.U, Pt.locs, Pt.cells, Pt.slots] at X1 l1 y1 z1 st1 hQ1
  subst l1 y1 z1
  obtain ⟨rfl, Nq1, eh1⟩ := hQ1
  have N1 := Fr.app N0 Nq1
  refine own_of (fun tt_ kk_ => st1.trans kk_) ?_
  show own_go p e below s _ _ _ (T1.setTop (mkF m 4 #[.val (.ref x), .val (.int 0)] [(.int 0)]))
  have hb4_2 : (0 : Int32) = (0 : Int32) := by decide
  refine own_of (fun tt_ => XS.ifYes X1.here hx rfl (pc0 := 4) (pc' := 16) rfl (hb hby d12_4) rfl ((if0 _ _).trans (teq hb4_2).1) (by decide) (by decide)) ?_
  show own_go p e below s _ _ _ (T1.setTop (mkF m 16 #[.val (.ref x), .val (.int 0)] []))
  refine own_of (fun tt_ => XS.aloadN X1.here hx rfl (hb hby d12_16) rfl rfl) ?_
  obtain ⟨T3, X3, e3, st3⟩ := getF X1 hx hZ hown (host := "") (Or.inl (hW 21 _ rfl)) Via.refl eh1 F_v (g := (mkF m 17 #[.val (.ref x), .val (.int 0)] [(.ref x)])) rfl rfl (hb hby d12_17)
  refine own_of st3 ?_
  show own_go p e below s _ _ _ (T3.setTop (mkF m 20 #[.val (.ref x), .val (.int 0)] [(.ref t)]))
  refine own_of (fun tt_ => XS.iloadN X3.here hx rfl (hb hby d12_20) rfl) ?_
  show own_go p e below s _ _ _ (T3.setTop (mkF m 21 #[.val (.ref x), .val (.int 0)] [(.int 0), (.ref t)]))
  obtain ⟨_, _, ⟨T4, L4, k4, n4⟩, -, X4, ⟨Lc4, hQ4, l4, y4, z4⟩, st4⟩ := Jvm.LawKit.callS X3 hx (y := ym14) hown (mvT hZ (hW 98 _ rfl)) (mvT hZ (hW 99 _ rfl)) (mvT hZ (hW 35 _ rfl)) (mvT hZ (hW 100 _ rfl)) (by decide) (backOf (W := 0) (rmX5_2_0 l Z a0 hw [] t kb c0 c1 fm h0 n0 XO0 S_ad S_hi S_lo S_f r_f V_t r0 r1) hZ (hW 100 _ rfl) (hW 35 _ rfl) (by decide) (by decide)) (g := (mkF m 21 #[.val (.ref x), .val (.int 0)] [(.int 0), (.ref t)])) rfl (by rw [hml]; rfl) (argsL := [(.ref t), (.int 0)]) (rest := []) (lenOf pd_5 rfl) rfl (by show 2 * 0 + _ ≤ _; exact Nat.le_of_eq rfl) (hb hby d12_21) (fun _ _ => ⟨rfl, e3, (by decide : 0 + 0 ≤ _), (by decide : 0 + 0 ≤ _)⟩)
  dsimp only [Pt.U, Pt.locs, Pt.cells, Pt.slots] at X4 l4 y4 z4 st4 hQ4
  subst l4 y4 z4
  obtain ⟨rfl, Nq4, eh4⟩ := hQ4
  have N4 := Fr.app N1 Nq4
  refine own_of st4 ?_
  show own_go p e below s _ _ _ (T4.setTop (mkF m 24 #[.val (.ref x), .val (.int 0)] [(.int c0)]))
  refine own_ret X4 hx hlk hret (StrChars.narrow_ch r0.1 r0.2) (Or.inl ⟨rfl, by simp, _, rfl⟩) (hb hby d12_24) (by decide) (by decide) ?_
  rw [eh4]
  exact ⟨rfl, N4, rfl⟩
theorem rmA_2_0 (l : Launch) (Z : State) (a0 : Array Value) (hw : own_H Z a0) (ws : List Jvm.Cond) (x : Nat) (t : Nat) (kb : ClassId) (c0 : Int32) (c1 : Int32) (Gc : Int32) (fm : Value) (h0 : Heap) (n0 : Nat) (XO0 : Old Z n0 h0) (S_ad : Sta Z Z.heap "java/lang/StringUTF16" "$assertionsDisabled" "Z" (.int 1)) (S_hi : Sta Z Z.heap "java/lang/StringUTF16" "HI_BYTE_SHIFT" "I" (.int 0)) (S_lo : Sta Z Z.heap "java/lang/StringUTF16" "LO_BYTE_SHIFT" "I" (.int 8)) (Oc : Sta Z Z.heap "java/lang/String" "COMPACT_STRINGS" "Z" (.int Gc)) (Pc : ¬ (Gc = (0 : Int32))) (S_f : Sta Z Z.heap "jdk/internal/util/Preconditions" "SIOOBE_FORMATTER" "Ljava/util/function/BiFunction;" fm) (r_f : fm.isRef = true) (E_x : Exa Z h0 x "java/lang/String") (F_v : Fld Z h0 x "java/lang/String" "value" "[B" (.ref t)) (TX : (Fld Z h0 x "java/lang/String" "coder" "B" (.int 0) ∧ Arv Z h0 t kb .byte (2 : Int32) [(.int (StrChars.lo8 c0)), (.int (StrChars.lo8 c1))] (.int 0) ∧ ¬ (255 : Int32) < c0 ∧ ¬ (255 : Int32) < c1) ∨ (Fld Z h0 x "java/lang/String" "coder" "B" (.int 1) ∧ Arv Z h0 t kb .byte (4 : Int32) [(.int (StrChars.lo8 c0)), (.int (StrChars.hi8 c0)), (.int (StrChars.lo8 c1)), (.int (StrChars.hi8 c1))] (.int 0))) (r0 : own_c16 c0) (r1 : own_c16 c1) :
    own_M l Z ym0 jdk_42_method_56_code ws 2 (some .char) (own_R 4 0 0 53) #[(.ref x), (.int 0)] h0 (own_qv c0 h0 n0) := by
  rcases TX with ⟨F_c, V_t, l0, l1⟩ | ⟨F_c, V_t⟩
  · exact rmA_2_0_0 l Z a0 hw ws x t kb c0 c1 Gc fm h0 n0 XO0 S_ad S_hi S_lo Oc Pc S_f r_f E_x F_v F_c V_t r0 r1 l0 l1
  · exact rmA_2_0_1 l Z a0 hw ws x t kb c0 c1 Gc fm h0 n0 XO0 S_ad S_hi S_lo Oc Pc S_f r_f E_x F_v F_c V_t r0 r1
theorem ef_rmA_2_1_0 (m : MethodId) (x0 : Nat) (x1 : Int32) : entryFrame m #[(.ref x0), (.int x1)] 2 = mkF m 0 #[.val (.ref x0), .val (.int x1)] [] := by first | (simp [entryFrame, mkF, argsToLocals, Value.category]; done) | rfl
set_option maxRecDepth 65536 in
set_option maxHeartbeats 40000000 in
theorem rmA_2_1_0 (l : Launch) (Z : State) (a0 : Array Value) (hw : own_H Z a0) (ws : List Jvm.Cond) (x : Nat) (t : Nat) (kb : ClassId) (c0 : Int32) (c1 : Int32) (Gc : Int32) (fm : Value) (h0 : Heap) (n0 : Nat) (XO0 : Old Z n0 h0) (S_ad : Sta Z Z.heap "java/lang/StringUTF16" "$assertionsDisabled" "Z" (.int 1)) (S_hi : Sta Z Z.heap "java/lang/StringUTF16" "HI_BYTE_SHIFT" "I" (.int 0)) (S_lo : Sta Z Z.heap "java/lang/StringUTF16" "LO_BYTE_SHIFT" "I" (.int 8)) (Oc : Sta Z Z.heap "java/lang/String" "COMPACT_STRINGS" "Z" (.int Gc)) (Pc : ¬ (Gc = (0 : Int32))) (S_f : Sta Z Z.heap "jdk/internal/util/Preconditions" "SIOOBE_FORMATTER" "Ljava/util/function/BiFunction;" fm) (r_f : fm.isRef = true) (E_x : Exa Z h0 x "java/lang/String") (F_v : Fld Z h0 x "java/lang/String" "value" "[B" (.ref t)) (F_c : Fld Z h0 x "java/lang/String" "coder" "B" (.int 0)) (V_t : Arv Z h0 t kb .byte (2 : Int32) [(.int (StrChars.lo8 c0)), (.int (StrChars.lo8 c1))] (.int 0)) (r0 : own_c16 c0) (r1 : own_c16 c1) (l0 : ¬ (255 : Int32) < c0) (l1 : ¬ (255 : Int32) < c1) :
    own_M l Z ym0 jdk_42_method_56_code ws 2 (some .char) (own_R 4 0 0 53) #[(.ref x), (.int 1)] h0 (own_qv c1 h0 n0) := by
  refine own_open (plainFor_of_name pn_1) ?_
  intro p e s m below meth c s₁ hx hby hlk hret hml hown hnm hZ X0 e0
  have hW := own_hW hw
  have N0 := Fr.nil n0
  refine own_of (fun tt_ kk_ => castTop (ef_rmA_2_1_0 m x (1 : Int32)) kk_) ?_
  show own_go p e below s _ _ _ (s₁.setTop (mkF m 0 #[.val (.ref x), .val (.int 1)] []))
  refine own_of (fun tt_ => XS.aloadN X0.here hx rfl (hb hby d12_0) rfl rfl) ?_
  show own_go p e below s _ _ _ (s₁.setTop (mkF m 1 #[.val (.ref x), .val (.int 1)] [(.ref x)]))
  obtain ⟨cq1, kq1, q1a, q1b, q1c⟩ := isOf hZ e0 E_x
  obtain ⟨_, _, ⟨T1, L1, k1, n1⟩, -, X1, ⟨Lc1, hQ1, l1, y1, z1⟩, st1⟩ := X0.virtualBack hx (y := ym2) (z := ym2) hown (mvT hZ (hW 62 _ rfl)) (mvT hZ (hW 63 _ rfl)) (notFace_of_selects (args := #[]) (mvT hZ (hW 65 _ rfl))) (mvT hZ (hW 65 _ rfl)) (mvT hZ (hW 64 _ rfl)) (by decide) (backOf (W := 0) (rmY_0 l Z a0 hw [] x Gc h0 n0 XO0 Oc Pc F_c) hZ (hW 66 _ rfl) (hW 3 _ rfl) (by decide) (by decide)) q1a q1c (g := (mkF m 1 #[.val (.ref x), .val (.int 1)] [(.ref x)])) rfl (by rw [hml]; rfl) (Steps.refl _) (argsL := []) (rest := []) (lenOf pd_12 rfl) rfl (by show 2 * 0 + _ ≤ _; exact Nat.le_of_eq rfl) (hb hby d12_1) (fun _ _ => ⟨rfl, e0, (by decide : 0 + 0 ≤ _), (by decide : 0 + 0 ≤ _)⟩)
  dsimp only [Pt.U, Pt.locs, Pt.cells, Pt.slots] at X1 l1 y1 z1 st1 hQ1
  subst l1 y1 z1
  obtain ⟨rfl, Nq1, eh1⟩ := hQ1
  have N1 := Fr.app N0 Nq1
  refine own_of (fun tt_ kk_ => st1.trans kk_) ?_
  show own_go p e below s _ _ _ (T1.setTop (mkF m 4 #[.val (.ref x), .val (.int 1)] [(.int 1)]))
  have hb4_2 : ¬ ((1 : Int32) = (0 : Int32)) := by decide
  refine own_of (fun tt_ => XS.ifNo X1.here hx rfl (hb hby d12_4) rfl ((if0 _ _).trans (feq hb4_2).1)) ?_
  show own_go p e below s _ _ _ (T1.setTop (mkF m 7 #[.val (.ref x), .val (.int 1)] []))
  refine own_of (fun tt_ => XS.aloadN X1.here hx rfl (hb hby d12_7) rfl rfl) ?_
  obtain ⟨T3, X3, e3, st3⟩ := getF X1 hx hZ hown (host := "") (Or.inl (hW 21 _ rfl)) Via.refl eh1 F_v (g := (mkF m 8 #[.val (.ref x), .val (.int 1)] [(.ref x)])) rfl rfl (hb hby d12_8)
  refine own_of st3 ?_
  show own_go p e below s _ _ _ (T3.setTop (mkF m 11 #[.val (.ref x), .val (.int 1)] [(.ref t)]))
  refine own_of (fun tt_ => XS.iloadN X3.here hx rfl (hb hby d12_11) rfl) ?_
  show own_go p e below s _ _ _ (T3.setTop (mkF m 12 #[.val (.ref x), .val (.int 1)] [(.int 1), (.ref t)]))
  obtain ⟨_, _, ⟨T4, L4, k4, n4⟩, -, X4, ⟨Lc4, hQ4, l4, y4, z4⟩, st4⟩ := Jvm.LawKit.callS X3 hx (y := ym15) hown (mvT hZ (hW 67 _ rfl)) (mvT hZ (hW 68 _ rfl)) (mvT hZ (hW 69 _ rfl)) (mvT hZ (hW 70 _ rfl)) (by decide) (backOf (W := 0) (rmX7_2_1 l Z a0 hw [] t kb c0 c1 fm h0 n0 XO0 S_f r_f V_t r0 r1 l0 l1) hZ (hW 70 _ rfl) (hW 69 _ rfl) (by decide) (by decide)) (g := (mkF m 12 #[.val (.ref x), .val (.int 1)] [(.int 1), (.ref t)])) rfl (by rw [hml]; rfl) (argsL := [(.ref t), (.int 1)]) (rest := []) (lenOf pd_5 rfl) rfl (by show 2 * 0 + _ ≤ _; exact Nat.le_of_eq rfl) (hb hby d12_12) (fun _ _ => ⟨rfl, e3, (by decide : 0 + 0 ≤ _), (by decide : 0 + 0 ≤ _)⟩)
  dsimp only [Pt.U, Pt.locs, Pt.cells, Pt.slots] at X4 l4 y4 z4 st4 hQ4
  subst l4 y4 z4
  obtain ⟨rfl, Nq4, eh4⟩ := hQ4
  have N4 := Fr.app N1 Nq4
  refine own_of st4 ?_
  show own_go p e below s _ _ _ (T4.setTop (mkF m 15 #[.val (.ref x), .val (.int 1)] [(.int c1)]))
  refine own_ret X4 hx hlk hret (StrChars.narrow_ch r1.1 r1.2) (Or.inl ⟨rfl, by simp, _, rfl⟩) (hb hby d12_15) (by decide) (by decide) ?_
  rw [eh4]
  exact ⟨rfl, N4, rfl⟩
theorem ef_rmA_2_1_1 (m : MethodId) (x0 : Nat) (x1 : Int32) : entryFrame m #[(.ref x0), (.int x1)] 2 = mkF m 0 #[.val (.ref x0), .val (.int x1)] [] := by first | (simp [entryFrame, mkF, argsToLocals, Value.category]; done) | rfl
set_option maxRecDepth 65536 in
set_option maxHeartbeats 40000000 in
theorem rmA_2_1_1 (l : Launch) (Z : State) (a0 : Array Value) (hw : own_H Z a0) (ws : List Jvm.Cond) (x : Nat) (t : Nat) (kb : ClassId) (c0 : Int32) (c1 : Int32) (Gc : Int32) (fm : Value) (h0 : Heap) (n0 : Nat) (XO0 : Old Z n0 h0) (S_ad : Sta Z Z.heap "java/lang/StringUTF16" "$assertionsDisabled" "Z" (.int 1)) (S_hi : Sta Z Z.heap "java/lang/StringUTF16" "HI_BYTE_SHIFT" "I" (.int 0)) (S_lo : Sta Z Z.heap "java/lang/StringUTF16" "LO_BYTE_SHIFT" "I" (.int 8)) (Oc : Sta Z Z.heap "java/lang/String" "COMPACT_STRINGS" "Z" (.int Gc)) (Pc : ¬ (Gc = (0 : Int32))) (S_f : Sta Z Z.heap "jdk/internal/util/Preconditions" "SIOOBE_FORMATTER" "Ljava/util/function/BiFunction;" fm) (r_f : fm.isRef = true) (E_x : Exa Z h0 x "java/lang/String") (F_v : Fld Z h0 x "java/lang/String" "value" "[B" (.ref t)) (F_c : Fld Z h0 x "java/lang/String" "coder" "B" (.int 1)) (V_t : Arv Z h0 t kb .byte (4 : Int32) [(.int (StrChars.lo8 c0)), (.int (StrChars.hi8 c0)), (.int (StrChars.lo8 c1)), (.int (StrChars.hi8 c1))] (.int 0)) (r0 : own_c16 c0) (r1 : own_c16 c1) :
    own_M l Z ym0 jdk_42_method_56_code ws 2 (some .char) (own_R 4 0 0 53) #[(.ref x), (.int 1)] h0 (own_qv c1 h0 n0) := by
  refine own_open (plainFor_of_name pn_1) ?_
  intro p e s m below meth c s₁ hx hby hlk hret hml hown hnm hZ X0 e0
  have hW := own_hW hw
  have N0 := Fr.nil n0
  refine own_of (fun tt_ kk_ => castTop (ef_rmA_2_1_1 m x (1 : Int32)) kk_) ?_
  show own_go p e below s _ _ _ (s₁.setTop (mkF m 0 #[.val (.ref x), .val (.int 1)] []))
  refine own_of (fun tt_ => XS.aloadN X0.here hx rfl (hb hby d12_0) rfl rfl) ?_
  show own_go p e below s _ _ _ (s₁.setTop (mkF m 1 #[.val (.ref x), .val (.int 1)] [(.ref x)]))
  obtain ⟨cq1, kq1, q1a, q1b, q1c⟩ := isOf hZ e0 E_x
  obtain ⟨_, _, ⟨T1, L1, k1, n1⟩, -, X1, ⟨Lc1, hQ1, l1, y1, z1⟩, st1⟩ := X0.virtualBack hx (y := ym2) (z := ym2) hown (mvT hZ (hW 62 _ rfl)) (mvT hZ (hW 63 _ rfl)) (notFace_of_selects (args := #[]) (mvT hZ (hW 65 _ rfl))) (mvT hZ (hW 65 _ rfl)) (mvT hZ (hW 64 _ rfl)) (by decide) (backOf (W := 0) (rmY_1 l Z a0 hw [] x Gc h0 n0 XO0 Oc Pc F_c) hZ (hW 66 _ rfl) (hW 3 _ rfl) (by decide) (by decide)) q1a q1c (g := (mkF m 1 #[.val (.ref x), .val (.int 1)] [(.ref x)])) rfl (by rw [hml]; rfl) (Steps.refl _) (argsL := []) (rest := []) (lenOf pd_12 rfl) rfl (by show 2 * 0 + _ ≤ _; exact Nat.le_of_eq rfl) (hb hby d12_1) (fun _ _ => ⟨rfl, e0, (by decide : 0 + 0 ≤ _), (by decide : 0 + 0 ≤ _)⟩)
  dsimp only [Pt.U, Pt.locs, Pt.cells, Pt.slots] at X1 l1 y1 z1 st1 hQ1
  subst l1 y1 z1
  obtain ⟨rfl, Nq1, eh1⟩ := hQ1
  have N1 := Fr.app N0 Nq1
  refine own_of (fun tt_ kk_ => st1.trans kk_) ?_
  show own_go p e below s _ _ _ (T1.setTop (mkF m 4 #[.val (.ref x), .val (.int 1)] [(.int 0)]))
  have hb4_2 : (0 : Int32) = (0 : Int32) := by decide
  refine own_of (fun tt_ => XS.ifYes X1.here hx rfl (pc0 := 4) (pc' := 16) rfl (hb hby d12_4) rfl ((if0 _ _).trans (teq hb4_2).1) (by decide) (by decide)) ?_
  show own_go p e below s _ _ _ (T1.setTop (mkF m 16 #[.val (.ref x), .val (.int 1)] []))
  refine own_of (fun tt_ => XS.aloadN X1.here hx rfl (hb hby d12_16) rfl rfl) ?_
  obtain ⟨T3, X3, e3, st3⟩ := getF X1 hx hZ hown (host := "") (Or.inl (hW 21 _ rfl)) Via.refl eh1 F_v (g := (mkF m 17 #[.val (.ref x), .val (.int 1)] [(.ref x)])) rfl rfl (hb hby d12_17)
  refine own_of st3 ?_
  show own_go p e below s _ _ _ (T3.setTop (mkF m 20 #[.val (.ref x), .val (.int 1)] [(.ref t)]))
  refine own_of (fun tt_ => XS.iloadN X3.here hx rfl (hb hby d12_20) rfl) ?_
  show own_go p e below s _ _ _ (T3.setTop (mkF m 21 #[.val (.ref x), .val (.int 1)] [(.int 1), (.ref t)]))
  obtain ⟨_, _, ⟨T4, L4, k4, n4⟩, -, X4, ⟨Lc4, hQ4, l4, y4, z4⟩, st4⟩ := Jvm.LawKit.callS X3 hx (y := ym14) hown (mvT hZ (hW 98 _ rfl)) (mvT hZ (hW 99 _ rfl)) (mvT hZ (hW 35 _ rfl)) (mvT hZ (hW 100 _ rfl)) (by decide) (backOf (W := 0) (rmX5_2_1 l Z a0 hw [] t kb c0 c1 fm h0 n0 XO0 S_ad S_hi S_lo S_f r_f V_t r0 r1) hZ (hW 100 _ rfl) (hW 35 _ rfl) (by decide) (by decide)) (g := (mkF m 21 #[.val (.ref x), .val (.int 1)] [(.int 1), (.ref t)])) rfl (by rw [hml]; rfl) (argsL := [(.ref t), (.int 1)]) (rest := []) (lenOf pd_5 rfl) rfl (by show 2 * 0 + _ ≤ _; exact Nat.le_of_eq rfl) (hb hby d12_21) (fun _ _ => ⟨rfl, e3, (by decide : 0 + 0 ≤ _), (by decide : 0 + 0 ≤ _)⟩)
  dsimp only [Pt.U, Pt.locs, Pt.cells, Pt.slots] at X4 l4 y4 z4 st4 hQ4
  subst l4 y4 z4
  obtain ⟨rfl, Nq4, eh4⟩ := hQ4
  have N4 := Fr.app N1 Nq4
  refine own_of st4 ?_
  show own_go p e below s _ _ _ (T4.setTop (mkF m 24 #[.val (.ref x), .val (.int 1)] [(.int c1)]))
  refine own_ret X4 hx hlk hret (StrChars.narrow_ch r1.1 r1.2) (Or.inl ⟨rfl, by simp, _, rfl⟩) (hb hby d12_24) (by decide) (by decide) ?_
  rw [eh4]
  exact ⟨rfl, N4, rfl⟩
theorem rmA_2_1 (l : Launch) (Z : State) (a0 : Array Value) (hw : own_H Z a0) (ws : List Jvm.Cond) (x : Nat) (t : Nat) (kb : ClassId) (c0 : Int32) (c1 : Int32) (Gc : Int32) (fm : Value) (h0 : Heap) (n0 : Nat) (XO0 : Old Z n0 h0) (S_ad : Sta Z Z.heap "java/lang/StringUTF16" "$assertionsDisabled" "Z" (.int 1)) (S_hi : Sta Z Z.heap "java/lang/StringUTF16" "HI_BYTE_SHIFT" "I" (.int 0)) (S_lo : Sta Z Z.heap "java/lang/StringUTF16" "LO_BYTE_SHIFT" "I" (.int 8)) (Oc : Sta Z Z.heap "java/lang/String" "COMPACT_STRINGS" "Z" (.int Gc)) (Pc : ¬ (Gc = (0 : Int32))) (S_f : Sta Z Z.heap "jdk/internal/util/Preconditions" "SIOOBE_FORMATTER" "Ljava/util/function/BiFunction;" fm) (r_f : fm.isRef = true) (E_x : Exa Z h0 x "java/lang/String") (F_v : Fld Z h0 x "java/lang/String" "value" "[B" (.ref t)) (TX : (Fld Z h0 x "java/lang/String" "coder" "B" (.int 0) ∧ Arv Z h0 t kb .byte (2 : Int32) [(.int (StrChars.lo8 c0)), (.int (StrChars.lo8 c1))] (.int 0) ∧ ¬ (255 : Int32) < c0 ∧ ¬ (255 : Int32) < c1) ∨ (Fld Z h0 x "java/lang/String" "coder" "B" (.int 1) ∧ Arv Z h0 t kb .byte (4 : Int32) [(.int (StrChars.lo8 c0)), (.int (StrChars.hi8 c0)), (.int (StrChars.lo8 c1)), (.int (StrChars.hi8 c1))] (.int 0))) (r0 : own_c16 c0) (r1 : own_c16 c1) :
    own_M l Z ym0 jdk_42_method_56_code ws 2 (some .char) (own_R 4 0 0 53) #[(.ref x), (.int 1)] h0 (own_qv c1 h0 n0) := by
  rcases TX with ⟨F_c, V_t, l0, l1⟩ | ⟨F_c, V_t⟩
  · exact rmA_2_1_0 l Z a0 hw ws x t kb c0 c1 Gc fm h0 n0 XO0 S_ad S_hi S_lo Oc Pc S_f r_f E_x F_v F_c V_t r0 r1 l0 l1
  · exact rmA_2_1_1 l Z a0 hw ws x t kb c0 c1 Gc fm h0 n0 XO0 S_ad S_hi S_lo Oc Pc S_f r_f E_x F_v F_c V_t r0 r1
theorem ef_rmZ_2 (m : MethodId) (x0 : Nat) : entryFrame m #[(.ref x0)] 3 = mkF m 0 #[.val (.ref x0), .unset, .unset] [] := by first | (simp [entryFrame, mkF, argsToLocals, Value.category]; done) | rfl
def Q_rmZ_2 (Z : State) (x : Nat) (t : Nat) (kb : ClassId) (c0 : Int32) (c1 : Int32) (Gc : Int32) (fm : Value) (h0 : Heap) (n0 : Nat) (v : Option Value) (h : Heap) (L : List Loc) : Prop := v = some (.int (own_okn [c0, c1])) ∧ Fr n0 L ∧ h = h0
set_option maxRecDepth 65536 in
set_option maxHeartbeats 40000000 in
theorem rmZ_2 (l : Launch) (Z : State) (a0 : Array Value) (hw : own_H Z a0) (ws : List Jvm.Cond) (x : Nat) (t : Nat) (kb : ClassId) (c0 : Int32) (c1 : Int32) (Gc : Int32) (fm : Value) (h0 : Heap) (n0 : Nat) (XO0 : Old Z n0 h0) (S_ad : Sta Z Z.heap "java/lang/StringUTF16" "$assertionsDisabled" "Z" (.int 1)) (S_hi : Sta Z Z.heap "java/lang/StringUTF16" "HI_BYTE_SHIFT" "I" (.int 0)) (S_lo : Sta Z Z.heap "java/lang/StringUTF16" "LO_BYTE_SHIFT" "I" (.int 8)) (Oc : Sta Z Z.heap "java/lang/String" "COMPACT_STRINGS" "Z" (.int Gc)) (Pc : ¬ (Gc = (0 : Int32))) (S_f : Sta Z Z.heap "jdk/internal/util/Preconditions" "SIOOBE_FORMATTER" "Ljava/util/function/BiFunction;" fm) (r_f : fm.isRef = true) (E_x : Exa Z h0 x "java/lang/String") (F_v : Fld Z h0 x "java/lang/String" "value" "[B" (.ref t)) (TX : (Fld Z h0 x "java/lang/String" "coder" "B" (.int 0) ∧ Arv Z h0 t kb .byte (2 : Int32) [(.int (StrChars.lo8 c0)), (.int (StrChars.lo8 c1))] (.int 0) ∧ ¬ (255 : Int32) < c0 ∧ ¬ (255 : Int32) < c1) ∨ (Fld Z h0 x "java/lang/String" "coder" "B" (.int 1) ∧ Arv Z h0 t kb .byte (4 : Int32) [(.int (StrChars.lo8 c0)), (.int (StrChars.hi8 c0)), (.int (StrChars.lo8 c1)), (.int (StrChars.hi8 c1))] (.int 0))) (r0 : own_c16 c0) (r1 : own_c16 c1) :
    own_M l Z ym3 prog_43_method_2_code ws 3 (some .boolean) (own_R 5 0 0 66) #[(.ref x)] h0 (Q_rmZ_2 Z x t kb c0 c1 Gc fm h0 n0) := by
  refine own_open (plainFor_of_name pn_4) ?_
  intro p e s m below meth c s₁ hx hby hlk hret hml hown hnm hZ X0 e0
  have hW := own_hW hw
  have N0 := Fr.nil n0
  refine own_of (fun tt_ kk_ => castTop (ef_rmZ_2 m x) kk_) ?_
  show own_go p e below s _ _ _ (s₁.setTop (mkF m 0 #[.val (.ref x), .unset, .unset] []))
  refine own_of (fun tt_ => XS.aloadN X0.here hx rfl (hb hby d4_0) rfl rfl) ?_
  show own_go p e below s _ _ _ (s₁.setTop (mkF m 1 #[.val (.ref x), .unset, .unset] [(.ref x)]))
  obtain ⟨cq1, kq1, q1a, q1b, q1c⟩ := isOf hZ e0 E_x
  obtain ⟨_, _, ⟨T1, L1, k1, n1⟩, -, X1, ⟨Lc1, hQ1, l1, y1, z1⟩, st1⟩ := X0.virtualBack hx (y := ym5) (z := ym5) hown (mvT hZ (hW 27 _ rfl)) (mvT hZ (hW 28 _ rfl)) (notFace_of_selects (args := #[]) (mvT hZ (hW 30 _ rfl))) (mvT hZ (hW 30 _ rfl)) (mvT hZ (hW 29 _ rfl)) (by decide) (backOf (W := 0) (rmI_2 l Z a0 hw [] x t kb c0 c1 h0 n0 XO0 E_x F_v TX) hZ (hW 31 _ rfl) (hW 3 _ rfl) (by decide) (by decide)) q1a q1c (g := (mkF m 1 #[.val (.ref x), .unset, .unset] [(.ref x)])) rfl (by rw [hml]; rfl) (Steps.refl _) (argsL := []) (rest := []) (lenOf pd_12 rfl) rfl (by show 2 * 0 + _ ≤ _; exact Nat.le_of_eq rfl) (hb hby d4_1) (fun _ _ => ⟨rfl, e0, (by decide : 0 + 0 ≤ _), (by decide : 0 + 0 ≤ _)⟩)
  dsimp only [Pt.U, Pt.locs, Pt.cells, Pt.slots] at X1 l1 y1 z1 st1 hQ1
  subst l1 y1 z1
  obtain ⟨rfl, Nq1, eh1⟩ := hQ1
  have N1 := Fr.app N0 Nq1
  refine own_of (fun tt_ kk_ => st1.trans kk_) ?_
  show own_go p e below s _ _ _ (T1.setTop (mkF m 4 #[.val (.ref x), .unset, .unset] [(.int 0)]))
  have hb4_2 : (0 : Int32) = (0 : Int32) := by decide
  refine own_of (fun tt_ => XS.ifYes X1.here hx rfl (pc0 := 4) (pc' := 9) rfl (hb hby d4_4) rfl ((if0 _ _).trans (teq hb4_2).1) (by decide) (by decide)) ?_
  show own_go p e below s _ _ _ (T1.setTop (mkF m 9 #[.val (.ref x), .unset, .unset] []))
  refine own_of (fun tt_ => XS.iconst X1.here hx rfl (hb hby d4_9)) ?_
  refine own_of (fun tt_ => XS.istoreN X1.here hx rfl (hb hby d4_10) rfl (l' := #[.val (.ref x), .val (.int 0), .unset]) rfl) ?_
  refine own_of (fun tt_ => XS.iloadN X1.here hx rfl (hb hby d4_11) rfl) ?_
  refine own_of (fun tt_ => XS.aloadN X1.here hx rfl (hb hby d4_12) rfl rfl) ?_
  show own_go p e below s _ _ _ (T1.setTop (mkF m 13 #[.val (.ref x), .val (.int 0), .unset] [(.ref x), (.int 0)]))
  obtain ⟨cq3, kq3, q3a, q3b, q3c⟩ := isOf hZ eh1 E_x
  obtain ⟨_, _, ⟨T3, L3, k3, n3⟩, -, X3, ⟨Lc3, hQ3, l3, y3, z3⟩, st3⟩ := X1.virtualBack hx (y := ym1) (z := ym1) hown (mvT hZ (hW 47 _ rfl)) (mvT hZ (hW 48 _ rfl)) (notFace_of_selects (args := #[]) (mvT hZ (hW 50 _ rfl))) (mvT hZ (hW 50 _ rfl)) (mvT hZ (hW 49 _ rfl)) (by decide) (backOf (W := 1) (rmN_2 l Z a0 hw [] x t kb c0 c1 Gc h0 n0 XO0 Oc Pc E_x F_v TX) hZ (hW 51 _ rfl) (hW 3 _ rfl) (by decide) (by decide)) q3a q3c (g := (mkF m 13 #[.val (.ref x), .val (.int 0), .unset] [(.ref x), (.int 0)])) rfl (by rw [hml]; rfl) (Steps.refl _) (argsL := []) (rest := [(.int 0)]) (lenOf pd_14 rfl) rfl (by show 2 * 0 + _ ≤ _; exact Nat.le_of_eq rfl) (hb hby d4_13) (fun _ _ => ⟨rfl, eh1, (by decide : 0 + 0 ≤ _), (by decide : 0 + 0 ≤ _)⟩)
  dsimp only [Pt.U, Pt.locs, Pt.cells, Pt.slots] at X3 l3 y3 z3 st3 hQ3
  subst l3 y3 z3
  obtain ⟨rfl, Nq3, eh3⟩ := hQ3
  have N3 := Fr.app N1 Nq3
  refine own_of (fun tt_ kk_ => st3.trans kk_) ?_
  show own_go p e below s _ _ _ (T3.setTop (mkF m 16 #[.val (.ref x), .val (.int 0), .unset] [(.int 2), (.int 0)]))
  have hb16_4 : (0 : Int32) < (2 : Int32) := by decide
  refine own_of (fun tt_ => XS.icmpNo X3.here hx rfl (hb hby d4_16) rfl (tlt hb16_4).2.1) ?_
  show own_go p e below s _ _ _ (T3.setTop (mkF m 19 #[.val (.ref x), .val (.int 0), .unset] []))
  refine own_of (fun tt_ => XS.aloadN X3.here hx rfl (hb hby d4_19) rfl rfl) ?_
  refine own_of (fun tt_ => XS.iloadN X3.here hx rfl (hb hby d4_20) rfl) ?_
  show own_go p e below s _ _ _ (T3.setTop (mkF m 21 #[.val (.ref x), .val (.int 0), .unset] [(.int 0), (.ref x)]))
  obtain ⟨cq5, kq5, q5a, q5b, q5c⟩ := isOf hZ eh3 E_x
  obtain ⟨_, _, ⟨T5, L5, k5, n5⟩, -, X5, ⟨Lc5, hQ5, l5, y5, z5⟩, st5⟩ := X3.virtualBack hx (y := ym0) (z := ym0) hown (mvT hZ (hW 57 _ rfl)) (mvT hZ (hW 58 _ rfl)) (notFace_of_selects (args := #[]) (mvT hZ (hW 60 _ rfl))) (mvT hZ (hW 60 _ rfl)) (mvT hZ (hW 59 _ rfl)) (by decide) (backOf (W := 0) (rmA_2_0 l Z a0 hw [] x t kb c0 c1 Gc fm h0 n0 XO0 S_ad S_hi S_lo Oc Pc S_f r_f E_x F_v TX r0 r1) hZ (hW 61 _ rfl) (hW 3 _ rfl) (by decide) (by decide)) q5a q5c (g := (mkF m 21 #[.val (.ref x), .val (.int 0), .unset] [(.int 0), (.ref x)])) rfl (by rw [hml]; rfl) (Steps.refl _) (argsL := [(.int 0)]) (rest := []) (lenOf pd_15 rfl) rfl (by show 2 * 0 + _ ≤ _; exact Nat.le_of_eq rfl) (hb hby d4_21) (fun _ _ => ⟨rfl, eh3, (by decide : 0 + 0 ≤ _), (by decide : 0 + 0 ≤ _)⟩)
  dsimp only [Pt.U, Pt.locs, Pt.cells, Pt.slots] at X5 l5 y5 z5 st5 hQ5
  subst l5 y5 z5
  obtain ⟨rfl, Nq5, eh5⟩ := hQ5
  have N5 := Fr.app N3 Nq5
  refine own_of (fun tt_ kk_ => st5.trans kk_) ?_
  show own_go p e below s _ _ _ (T5.setTop (mkF m 24 #[.val (.ref x), .val (.int 0), .unset] [(.int c0)]))
  refine own_of (fun tt_ => XS.istoreN X5.here hx rfl (hb hby d4_24) rfl (l' := #[.val (.ref x), .val (.int 0), .val (.int c0)]) rfl) ?_
  refine own_of (fun tt_ => XS.iloadN X5.here hx rfl (hb hby d4_25) rfl) ?_
  refine own_of (fun tt_ => XS.bipush X5.here hx rfl (hb hby d4_26)) ?_
  by_cases hb28_6 : c0 < (33 : Int32)
  · refine own_of (fun tt_ => XS.icmpYes X5.here hx rfl (pc0 := 28) (pc' := 49) rfl (hb hby d4_28) rfl (tlt hb28_6).1 (by decide) (by decide)) ?_
    show own_go p e below s _ _ _ (T5.setTop (mkF m 49 #[.val (.ref x), .val (.int 0), .val (.int c0)] []))
    refine own_of (fun tt_ => XS.iconst X5.here hx rfl (hb hby d4_49)) ?_
    show own_go p e below s _ _ _ (T5.setTop (mkF m 50 #[.val (.ref x), .val (.int 0), .val (.int c0)] [(.int 0)]))
    refine own_ret X5 hx hlk hret rfl (Or.inl ⟨rfl, by simp, _, rfl⟩) (hb hby d4_50) (by decide) (by decide) ?_
    rw [eh5]
    have fin : own_okn [c0, c1] = 0 := own_okn0 (z := c0) (by simp) (own_okb (by first | exact Or.inl hb28_6))
    exact ⟨by rw [fin], N5, rfl⟩
  · refine own_of (fun tt_ => XS.icmpNo X5.here hx rfl (hb hby d4_28) rfl (flt hb28_6).1) ?_
    show own_go p e below s _ _ _ (T5.setTop (mkF m 31 #[.val (.ref x), .val (.int 0), .val (.int c0)] []))
    refine own_of (fun tt_ => XS.iloadN X5.here hx rfl (hb hby d4_31) rfl) ?_
    refine own_of (fun tt_ => XS.bipush X5.here hx rfl (hb hby d4_32)) ?_
    by_cases hb34_7 : (126 : Int32) < c0
    · refine own_of (fun tt_ => XS.icmpYes X5.here hx rfl (pc0 := 34) (pc' := 49) rfl (hb hby d4_34) rfl (tlt hb34_7).2.2.1 (by decide) (by decide)) ?_
      show own_go p e below s _ _ _ (T5.setTop (mkF m 49 #[.val (.ref x), .val (.int 0), .val (.int c0)] []))
      refine own_of (fun tt_ => XS.iconst X5.here hx rfl (hb hby d4_49)) ?_
      show own_go p e below s _ _ _ (T5.setTop (mkF m 50 #[.val (.ref x), .val (.int 0), .val (.int c0)] [(.int 0)]))
      refine own_ret X5 hx hlk hret rfl (Or.inl ⟨rfl, by simp, _, rfl⟩) (hb hby d4_50) (by decide) (by decide) ?_
      rw [eh5]
      have fin : own_okn [c0, c1] = 0 := own_okn0 (z := c0) (by simp) (own_okb (by first | exact Or.inl hb28_6 | exact Or.inr (Or.inl hb34_7)))
      exact ⟨by rw [fin], N5, rfl⟩
    · refine own_of (fun tt_ => XS.icmpNo X5.here hx rfl (hb hby d4_34) rfl (flt hb34_7).2.2.1) ?_
      show own_go p e below s _ _ _ (T5.setTop (mkF m 37 #[.val (.ref x), .val (.int 0), .val (.int c0)] []))
      refine own_of (fun tt_ => XS.iloadN X5.here hx rfl (hb hby d4_37) rfl) ?_
      refine own_of (fun tt_ => XS.bipush X5.here hx rfl (hb hby d4_38)) ?_
      by_cases hb40_8 : c0 = (34 : Int32)
      · refine own_of (fun tt_ => XS.icmpYes X5.here hx rfl (pc0 := 40) (pc' := 49) rfl (hb hby d4_40) rfl (teq hb40_8).1 (by decide) (by decide)) ?_
        show own_go p e below s _ _ _ (T5.setTop (mkF m 49 #[.val (.ref x), .val (.int 0), .val (.int c0)] []))
        refine own_of (fun tt_ => XS.iconst X5.here hx rfl (hb hby d4_49)) ?_
        show own_go p e below s _ _ _ (T5.setTop (mkF m 50 #[.val (.ref x), .val (.int 0), .val (.int c0)] [(.int 0)]))
        refine own_ret X5 hx hlk hret rfl (Or.inl ⟨rfl, by simp, _, rfl⟩) (hb hby d4_50) (by decide) (by decide) ?_
        rw [eh5]
        have fin : own_okn [c0, c1] = 0 := own_okn0 (z := c0) (by simp) (own_okb (by first | exact Or.inl hb28_6 | exact Or.inr (Or.inl hb34_7) | exact Or.inr (Or.inr (Or.inl hb40_8))))
        exact ⟨by rw [fin], N5, rfl⟩
      · refine own_of (fun tt_ => XS.icmpNo X5.here hx rfl (hb hby d4_40) rfl (feq hb40_8).1) ?_
        show own_go p e below s _ _ _ (T5.setTop (mkF m 43 #[.val (.ref x), .val (.int 0), .val (.int c0)] []))
        refine own_of (fun tt_ => XS.iloadN X5.here hx rfl (hb hby d4_43) rfl) ?_
        show own_go p e below s _ _ _ (T5.setTop (mkF m 44 #[.val (.ref x), .val (.int 0), .val (.int c0)] [(.int c0)]))
        refine own_of (fun tt_ => XS.bipush X5.here hx rfl (hb hby d4_44)) ?_
        by_cases hb46_9 : c0 = (92 : Int32)
        · refine own_of (fun tt_ => XS.icmpNo X5.here hx rfl (hb hby d4_46) rfl (teq hb46_9).2) ?_
          show own_go p e below s _ _ _ (T5.setTop (mkF m 49 #[.val (.ref x), .val (.int 0), .val (.int c0)] []))
          refine own_of (fun tt_ => XS.iconst X5.here hx rfl (hb hby d4_49)) ?_
          show own_go p e below s _ _ _ (T5.setTop (mkF m 50 #[.val (.ref x), .val (.int 0), .val (.int c0)] [(.int 0)]))
          refine own_ret X5 hx hlk hret rfl (Or.inl ⟨rfl, by simp, _, rfl⟩) (hb hby d4_50) (by decide) (by decide) ?_
          rw [eh5]
          have fin : own_okn [c0, c1] = 0 := own_okn0 (z := c0) (by simp) (own_okb (by first | exact Or.inl hb28_6 | exact Or.inr (Or.inl hb34_7) | exact Or.inr (Or.inr (Or.inl hb40_8)) | exact Or.inr (Or.inr (Or.inr hb46_9))))
          exact ⟨by rw [fin], N5, rfl⟩
        · refine own_of (fun tt_ => XS.icmpYes X5.here hx rfl (pc0 := 46) (pc' := 51) rfl (hb hby d4_46) rfl (feq hb46_9).2 (by decide) (by decide)) ?_
          show own_go p e below s _ _ _ (T5.setTop (mkF m 51 #[.val (.ref x), .val (.int 0), .val (.int c0)] []))
          have gd_c0 := own_okg hb28_6 hb34_7 hb40_8 hb46_9
          refine own_of (fun tt_ => XS.iinc X5.here hx rfl (hb hby d4_51) rfl (l' := #[.val (.ref x), .val (.int 1), .val (.int c0)]) rfl) ?_
          refine own_of (fun tt_ => XS.goto X5.here hx rfl (pc0 := 54) (pc' := 11) rfl (hb hby d4_54) (by decide) (by decide)) ?_
          refine own_of (fun tt_ => XS.iloadN X5.here hx rfl (hb hby d4_11) rfl) ?_
          refine own_of (fun tt_ => XS.aloadN X5.here hx rfl (hb hby d4_12) rfl rfl) ?_
          show own_go p e below s _ _ _ (T5.setTop (mkF m 13 #[.val (.ref x), .val (.int 1), .val (.int c0)] [(.ref x), (.int 1)]))
          obtain ⟨cq10, kq10, q10a, q10b, q10c⟩ := isOf hZ eh5 E_x
          obtain ⟨_, _, ⟨T10, L10, k10, n10⟩, -, X10, ⟨Lc10, hQ10, l10, y10, z10⟩, st10⟩ := X5.virtualBack hx (y := ym1) (z := ym1) hown (mvT hZ (hW 47 _ rfl)) (mvT hZ (hW 48 _ rfl)) (notFace_of_selects (args := #[]) (mvT hZ (hW 50 _ rfl))) (mvT hZ (hW 50 _ rfl)) (mvT hZ (hW 49 _ rfl)) (by decide) (backOf (W := 1) (rmN_2 l Z a0 hw [] x t kb c0 c1 Gc h0 n0 XO0 Oc Pc E_x F_v TX) hZ (hW 51 _ rfl) (hW 3 _ rfl) (by decide) (by decide)) q10a q10c (g := (mkF m 13 #[.val (.ref x), .val (.int 1), .val (.int c0)] [(.ref x), (.int 1)])) rfl (by rw [hml]; rfl) (Steps.refl _) (argsL := []) (rest := [(.int 1)]) (lenOf pd_14 rfl) rfl (by show 2 * 0 + _ ≤ _; exact Nat.le_of_eq rfl) (hb hby d4_13) (fun _ _ => ⟨rfl, eh5, (by decide : 0 + 0 ≤ _), (by decide : 0 + 0 ≤ _)⟩)
          dsimp only [Pt.U, Pt.locs, Pt.cells, Pt.slots] at X10 l10 y10 z10 st10 hQ10
          subst l10 y10 z10
          obtain ⟨rfl, Nq10, eh10⟩ := hQ10
          have N10 := Fr.app N5 Nq10
          refine own_of (fun tt_ kk_ => st10.trans kk_) ?_
          show own_go p e below s _ _ _ (T10.setTop (mkF m 16 #[.val (.ref x), .val (.int 1), .val (.int c0)] [(.int 2), (.int 1)]))
          have hb16_11 : (1 : Int32) < (2 : Int32) := by decide
          refine own_of (fun tt_ => XS.icmpNo X10.here hx rfl (hb hby d4_16) rfl (tlt hb16_11).2.1) ?_
          show own_go p e below s _ _ _ (T10.setTop (mkF m 19 #[.val (.ref x), .val (.int 1), .val (.int c0)] []))
          refine own_of (fun tt_ => XS.aloadN X10.here hx rfl (hb hby d4_19) rfl rfl) ?_
          refine own_of (fun tt_ => XS.iloadN X10.here hx rfl (hb hby d4_20) rfl) ?_
          show own_go p e below s _ _ _ (T10.setTop (mkF m 21 #[.val (.ref x), .val (.int 1), .val (.int c0)] [(.int 1), (.ref x)]))
          obtain ⟨cq12, kq12, q12a, q12b, q12c⟩ := isOf hZ eh10 E_x
          obtain ⟨_, _, ⟨T12, L12, k12, n12⟩, -, X12, ⟨Lc12, hQ12, l12, y12, z12⟩, st12⟩ := X10.virtualBack hx (y := ym0) (z := ym0) hown (mvT hZ (hW 57 _ rfl)) (mvT hZ (hW 58 _ rfl)) (notFace_of_selects (args := #[]) (mvT hZ (hW 60 _ rfl))) (mvT hZ (hW 60 _ rfl)) (mvT hZ (hW 59 _ rfl)) (by decide) (backOf (W := 0) (rmA_2_1 l Z a0 hw [] x t kb c0 c1 Gc fm h0 n0 XO0 S_ad S_hi S_lo Oc Pc S_f r_f E_x F_v TX r0 r1) hZ (hW 61 _ rfl) (hW 3 _ rfl) (by decide) (by decide)) q12a q12c (g := (mkF m 21 #[.val (.ref x), .val (.int 1), .val (.int c0)] [(.int 1), (.ref x)])) rfl (by rw [hml]; rfl) (Steps.refl _) (argsL := [(.int 1)]) (rest := []) (lenOf pd_15 rfl) rfl (by show 2 * 0 + _ ≤ _; exact Nat.le_of_eq rfl) (hb hby d4_21) (fun _ _ => ⟨rfl, eh10, (by decide : 0 + 0 ≤ _), (by decide : 0 + 0 ≤ _)⟩)
          dsimp only [Pt.U, Pt.locs, Pt.cells, Pt.slots] at X12 l12 y12 z12 st12 hQ12
          subst l12 y12 z12
          obtain ⟨rfl, Nq12, eh12⟩ := hQ12
          have N12 := Fr.app N10 Nq12
          refine own_of (fun tt_ kk_ => st12.trans kk_) ?_
          show own_go p e below s _ _ _ (T12.setTop (mkF m 24 #[.val (.ref x), .val (.int 1), .val (.int c0)] [(.int c1)]))
          refine own_of (fun tt_ => XS.istoreN X12.here hx rfl (hb hby d4_24) rfl (l' := #[.val (.ref x), .val (.int 1), .val (.int c1)]) rfl) ?_
          refine own_of (fun tt_ => XS.iloadN X12.here hx rfl (hb hby d4_25) rfl) ?_
          refine own_of (fun tt_ => XS.bipush X12.here hx rfl (hb hby d4_26)) ?_
          by_cases hb28_13 : c1 < (33 : Int32)
          · refine own_of (fun tt_ => XS.icmpYes X12.here hx rfl (pc0 := 28) (pc' := 49) rfl (hb hby d4_28) rfl (tlt hb28_13).1 (by decide) (by decide)) ?_
            show own_go p e below s _ _ _ (T12.setTop (mkF m 49 #[.val (.ref x), .val (.int 1), .val (.int c1)] []))
            refine own_of (fun tt_ => XS.iconst X12.here hx rfl (hb hby d4_49)) ?_
            show own_go p e below s _ _ _ (T12.setTop (mkF m 50 #[.val (.ref x), .val (.int 1), .val (.int c1)] [(.int 0)]))
            refine own_ret X12 hx hlk hret rfl (Or.inl ⟨rfl, by simp, _, rfl⟩) (hb hby d4_50) (by decide) (by decide) ?_
            rw [eh12]
            have fin : own_okn [c0, c1] = 0 := own_okn0 (z := c1) (by simp) (own_okb (by first | exact Or.inl hb28_13 | exact Or.inr (Or.inl hb34_7) | exact Or.inr (Or.inr (Or.inl hb40_8)) | exact Or.inr (Or.inr (Or.inr hb46_9))))
            exact ⟨by rw [fin], N12, rfl⟩
          · refine own_of (fun tt_ => XS.icmpNo X12.here hx rfl (hb hby d4_28) rfl (flt hb28_13).1) ?_
            show own_go p e below s _ _ _ (T12.setTop (mkF m 31 #[.val (.ref x), .val (.int 1), .val (.int c1)] []))
            refine own_of (fun tt_ => XS.iloadN X12.here hx rfl (hb hby d4_31) rfl) ?_
            refine own_of (fun tt_ => XS.bipush X12.here hx rfl (hb hby d4_32)) ?_
            by_cases hb34_14 : (126 : Int32) < c1
            · refine own_of (fun tt_ => XS.icmpYes X12.here hx rfl (pc0 := 34) (pc' := 49) rfl (hb hby d4_34) rfl (tlt hb34_14).2.2.1 (by decide) (by decide)) ?_
              show own_go p e below s _ _ _ (T12.setTop (mkF m 49 #[.val (.ref x), .val (.int 1), .val (.int c1)] []))
              refine own_of (fun tt_ => XS.iconst X12.here hx rfl (hb hby d4_49)) ?_
              show own_go p e below s _ _ _ (T12.setTop (mkF m 50 #[.val (.ref x), .val (.int 1), .val (.int c1)] [(.int 0)]))
              refine own_ret X12 hx hlk hret rfl (Or.inl ⟨rfl, by simp, _, rfl⟩) (hb hby d4_50) (by decide) (by decide) ?_
              rw [eh12]
              have fin : own_okn [c0, c1] = 0 := own_okn0 (z := c1) (by simp) (own_okb (by first | exact Or.inl hb28_13 | exact Or.inr (Or.inl hb34_14) | exact Or.inr (Or.inr (Or.inl hb40_8)) | exact Or.inr (Or.inr (Or.inr hb46_9))))
              exact ⟨by rw [fin], N12, rfl⟩
            · refine own_of (fun tt_ => XS.icmpNo X12.here hx rfl (hb hby d4_34) rfl (flt hb34_14).2.2.1) ?_
              show own_go p e below s _ _ _ (T12.setTop (mkF m 37 #[.val (.ref x), .val (.int 1), .val (.int c1)] []))
              refine own_of (fun tt_ => XS.iloadN X12.here hx rfl (hb hby d4_37) rfl) ?_
              refine own_of (fun tt_ => XS.bipush X12.here hx rfl (hb hby d4_38)) ?_
              by_cases hb40_15 : c1 = (34 : Int32)
              · refine own_of (fun tt_ => XS.icmpYes X12.here hx rfl (pc0 := 40) (pc' := 49) rfl (hb hby d4_40) rfl (teq hb40_15).1 (by decide) (by decide)) ?_
                show own_go p e below s _ _ _ (T12.setTop (mkF m 49 #[.val (.ref x), .val (.int 1), .val (.int c1)] []))
                refine own_of (fun tt_ => XS.iconst X12.here hx rfl (hb hby d4_49)) ?_
                show own_go p e below s _ _ _ (T12.setTop (mkF m 50 #[.val (.ref x), .val (.int 1), .val (.int c1)] [(.int 0)]))
                refine own_ret X12 hx hlk hret rfl (Or.inl ⟨rfl, by simp, _, rfl⟩) (hb hby d4_50) (by decide) (by decide) ?_
                rw [eh12]
                have fin : own_okn [c0, c1] = 0 := own_okn0 (z := c1) (by simp) (own_okb (by first | exact Or.inl hb28_13 | exact Or.inr (Or.inl hb34_14) | exact Or.inr (Or.inr (Or.inl hb40_15)) | exact Or.inr (Or.inr (Or.inr hb46_9))))
                exact ⟨by rw [fin], N12, rfl⟩
              · refine own_of (fun tt_ => XS.icmpNo X12.here hx rfl (hb hby d4_40) rfl (feq hb40_15).1) ?_
                show own_go p e below s _ _ _ (T12.setTop (mkF m 43 #[.val (.ref x), .val (.int 1), .val (.int c1)] []))
                refine own_of (fun tt_ => XS.iloadN X12.here hx rfl (hb hby d4_43) rfl) ?_
                show own_go p e below s _ _ _ (T12.setTop (mkF m 44 #[.val (.ref x), .val (.int 1), .val (.int c1)] [(.int c1)]))
                refine own_of (fun tt_ => XS.bipush X12.here hx rfl (hb hby d4_44)) ?_
                by_cases hb46_16 : c1 = (92 : Int32)
                · refine own_of (fun tt_ => XS.icmpNo X12.here hx rfl (hb hby d4_46) rfl (teq hb46_16).2) ?_
                  show own_go p e below s _ _ _ (T12.setTop (mkF m 49 #[.val (.ref x), .val (.int 1), .val (.int c1)] []))
                  refine own_of (fun tt_ => XS.iconst X12.here hx rfl (hb hby d4_49)) ?_
                  show own_go p e below s _ _ _ (T12.setTop (mkF m 50 #[.val (.ref x), .val (.int 1), .val (.int c1)] [(.int 0)]))
                  refine own_ret X12 hx hlk hret rfl (Or.inl ⟨rfl, by simp, _, rfl⟩) (hb hby d4_50) (by decide) (by decide) ?_
                  rw [eh12]
                  have fin : own_okn [c0, c1] = 0 := own_okn0 (z := c1) (by simp) (own_okb (by first | exact Or.inl hb28_13 | exact Or.inr (Or.inl hb34_14) | exact Or.inr (Or.inr (Or.inl hb40_15)) | exact Or.inr (Or.inr (Or.inr hb46_16))))
                  exact ⟨by rw [fin], N12, rfl⟩
                · refine own_of (fun tt_ => XS.icmpYes X12.here hx rfl (pc0 := 46) (pc' := 51) rfl (hb hby d4_46) rfl (feq hb46_16).2 (by decide) (by decide)) ?_
                  show own_go p e below s _ _ _ (T12.setTop (mkF m 51 #[.val (.ref x), .val (.int 1), .val (.int c1)] []))
                  have gd_c1 := own_okg hb28_13 hb34_14 hb40_15 hb46_16
                  refine own_of (fun tt_ => XS.iinc X12.here hx rfl (hb hby d4_51) rfl (l' := #[.val (.ref x), .val (.int 2), .val (.int c1)]) rfl) ?_
                  refine own_of (fun tt_ => XS.goto X12.here hx rfl (pc0 := 54) (pc' := 11) rfl (hb hby d4_54) (by decide) (by decide)) ?_
                  refine own_of (fun tt_ => XS.iloadN X12.here hx rfl (hb hby d4_11) rfl) ?_
                  refine own_of (fun tt_ => XS.aloadN X12.here hx rfl (hb hby d4_12) rfl rfl) ?_
                  show own_go p e below s _ _ _ (T12.setTop (mkF m 13 #[.val (.ref x), .val (.int 2), .val (.int c1)] [(.ref x), (.int 2)]))
                  obtain ⟨cq17, kq17, q17a, q17b, q17c⟩ := isOf hZ eh12 E_x
                  obtain ⟨_, _, ⟨T17, L17, k17, n17⟩, -, X17, ⟨Lc17, hQ17, l17, y17, z17⟩, st17⟩ := X12.virtualBack hx (y := ym1) (z := ym1) hown (mvT hZ (hW 47 _ rfl)) (mvT hZ (hW 48 _ rfl)) (notFace_of_selects (args := #[]) (mvT hZ (hW 50 _ rfl))) (mvT hZ (hW 50 _ rfl)) (mvT hZ (hW 49 _ rfl)) (by decide) (backOf (W := 1) (rmN_2 l Z a0 hw [] x t kb c0 c1 Gc h0 n0 XO0 Oc Pc E_x F_v TX) hZ (hW 51 _ rfl) (hW 3 _ rfl) (by decide) (by decide)) q17a q17c (g := (mkF m 13 #[.val (.ref x), .val (.int 2), .val (.int c1)] [(.ref x), (.int 2)])) rfl (by rw [hml]; rfl) (Steps.refl _) (argsL := []) (rest := [(.int 2)]) (lenOf pd_14 rfl) rfl (by show 2 * 0 + _ ≤ _; exact Nat.le_of_eq rfl) (hb hby d4_13) (fun _ _ => ⟨rfl, eh12, (by decide : 0 + 0 ≤ _), (by decide : 0 + 0 ≤ _)⟩)
                  dsimp only [Pt.U, Pt.locs, Pt.cells, Pt.slots] at X17 l17 y17 z17 st17 hQ17
                  subst l17 y17 z17
                  obtain ⟨rfl, Nq17, eh17⟩ := hQ17
                  have N17 := Fr.app N12 Nq17
                  refine own_of (fun tt_ kk_ => st17.trans kk_) ?_
                  show own_go p e below s _ _ _ (T17.setTop (mkF m 16 #[.val (.ref x), .val (.int 2), .val (.int c1)] [(.int 2), (.int 2)]))
                  have hb16_18 : ¬ ((2 : Int32) < (2 : Int32)) := by decide
                  refine own_of (fun tt_ => XS.icmpYes X17.here hx rfl (pc0 := 16) (pc' := 57) rfl (hb hby d4_16) rfl (flt hb16_18).2.1 (by decide) (by decide)) ?_
                  show own_go p e below s _ _ _ (T17.setTop (mkF m 57 #[.val (.ref x), .val (.int 2), .val (.int c1)] []))
                  refine own_of (fun tt_ => XS.iconst X17.here hx rfl (hb hby d4_57)) ?_
                  show own_go p e below s _ _ _ (T17.setTop (mkF m 58 #[.val (.ref x), .val (.int 2), .val (.int c1)] [(.int 1)]))
                  refine own_ret X17 hx hlk hret rfl (Or.inl ⟨rfl, by simp, _, rfl⟩) (hb hby d4_58) (by decide) (by decide) ?_
                  rw [eh17]
                  have fin : own_okn [c0, c1] = 1 := by simp [own_okn, gd_c0, gd_c1]
                  exact ⟨by rw [fin], N17, rfl⟩
theorem ef_rmI_3_0 (m : MethodId) (x0 : Nat) : entryFrame m #[(.ref x0)] 1 = mkF m 0 #[.val (.ref x0)] [] := by first | (simp [entryFrame, mkF, argsToLocals, Value.category]; done) | rfl
set_option maxRecDepth 65536 in
set_option maxHeartbeats 40000000 in
theorem rmI_3_0 (l : Launch) (Z : State) (a0 : Array Value) (hw : own_H Z a0) (ws : List Jvm.Cond) (x : Nat) (t : Nat) (kb : ClassId) (c0 : Int32) (c1 : Int32) (c2 : Int32) (h0 : Heap) (n0 : Nat) (XO0 : Old Z n0 h0) (E_x : Exa Z h0 x "java/lang/String") (F_v : Fld Z h0 x "java/lang/String" "value" "[B" (.ref t)) (F_c : Fld Z h0 x "java/lang/String" "coder" "B" (.int 0)) (V_t : Arv Z h0 t kb .byte (3 : Int32) [(.int (StrChars.lo8 c0)), (.int (StrChars.lo8 c1)), (.int (StrChars.lo8 c2))] (.int 0)) :
    own_M l Z ym5 jdk_42_method_55_code ws 1 (some .boolean) (own_R 0 0 0 0) #[(.ref x)] h0 (own_qv (0 : Int32) h0 n0) := by
  refine own_open (plainFor_of_name pn_1) ?_
  intro p e s m below meth c s₁ hx hby hlk hret hml hown hnm hZ X0 e0
  have hW := own_hW hw
  have N0 := Fr.nil n0
  refine own_of (fun tt_ kk_ => castTop (ef_rmI_3_0 m x) kk_) ?_
  show own_go p e below s _ _ _ (s₁.setTop (mkF m 0 #[.val (.ref x)] []))
  refine own_of (fun tt_ => XS.aloadN X0.here hx rfl (hb hby d5_0) rfl rfl) ?_
  obtain ⟨T1, X1, e1, st1⟩ := getF X0 hx hZ hown (host := "") (Or.inl (hW 21 _ rfl)) Via.refl e0 F_v (g := (mkF m 1 #[.val (.ref x)] [(.ref x)])) rfl rfl (hb hby d5_1)
  refine own_of st1 ?_
  show own_go p e below s _ _ _ (T1.setTop (mkF m 4 #[.val (.ref x)] [(.ref t)]))
  obtain ⟨cl2, Ar2, q2, S2, Ng2, H2, G2⟩ := id V_t
  refine own_of (fun tt_ kk => X1.arraylength hx (by rw [e1]; exact Ar2.1) (State.isArrayOf_alike hZ.alike Ar2.2.1) (g := (mkF m 4 #[.val (.ref x)] [(.ref t)])) rfl rfl (hb hby d5_4) _ (by rw [len_of S2 Ng2]; exact kk)) ?_
  show own_go p e below s _ _ _ (T1.setTop (mkF m 5 #[.val (.ref x)] [(.int 3)]))
  have hb5_3 : ¬ ((3 : Int32) = (0 : Int32)) := by decide
  refine own_of (fun tt_ => XS.ifYes X1.here hx rfl (pc0 := 5) (pc' := 12) rfl (hb hby d5_5) rfl ((if0 _ _).trans (feq hb5_3).2) (by decide) (by decide)) ?_
  show own_go p e below s _ _ _ (T1.setTop (mkF m 12 #[.val (.ref x)] []))
  refine own_of (fun tt_ => XS.iconst X1.here hx rfl (hb hby d5_12)) ?_
  show own_go p e below s _ _ _ (T1.setTop (mkF m 13 #[.val (.ref x)] [(.int 0)]))
  refine own_ret X1 hx hlk hret rfl (Or.inl ⟨rfl, by simp, _, rfl⟩) (hb hby d5_13) (by decide) (by decide) ?_
  rw [e1]
  exact ⟨rfl, N0, rfl⟩
theorem ef_rmN_3_0 (m : MethodId) (x0 : Nat) : entryFrame m #[(.ref x0)] 1 = mkF m 0 #[.val (.ref x0)] [] := by first | (simp [entryFrame, mkF, argsToLocals, Value.category]; done) | rfl
set_option maxRecDepth 65536 in
set_option maxHeartbeats 40000000 in
theorem rmN_3_0 (l : Launch) (Z : State) (a0 : Array Value) (hw : own_H Z a0) (ws : List Jvm.Cond) (x : Nat) (t : Nat) (kb : ClassId) (c0 : Int32) (c1 : Int32) (c2 : Int32) (Gc : Int32) (h0 : Heap) (n0 : Nat) (XO0 : Old Z n0 h0) (Oc : Sta Z Z.heap "java/lang/String" "COMPACT_STRINGS" "Z" (.int Gc)) (Pc : ¬ (Gc = (0 : Int32))) (E_x : Exa Z h0 x "java/lang/String") (F_v : Fld Z h0 x "java/lang/String" "value" "[B" (.ref t)) (F_c : Fld Z h0 x "java/lang/String" "coder" "B" (.int 0)) (V_t : Arv Z h0 t kb .byte (3 : Int32) [(.int (StrChars.lo8 c0)), (.int (StrChars.lo8 c1)), (.int (StrChars.lo8 c2))] (.int 0)) :
    own_M l Z ym1 jdk_42_method_54_code ws 1 (some .int) (own_R 1 0 0 13) #[(.ref x)] h0 (own_qv (3 : Int32) h0 n0) := by
  refine own_open (plainFor_of_name pn_1) ?_
  intro p e s m below meth c s₁ hx hby hlk hret hml hown hnm hZ X0 e0
  have hW := own_hW hw
  have N0 := Fr.nil n0
  refine own_of (fun tt_ kk_ => castTop (ef_rmN_3_0 m x) kk_) ?_
  show own_go p e below s _ _ _ (s₁.setTop (mkF m 0 #[.val (.ref x)] []))
  refine own_of (fun tt_ => XS.aloadN X0.here hx rfl (hb hby d10_0) rfl rfl) ?_
  obtain ⟨T1, X1, e1, st1⟩ := getF X0 hx hZ hown (host := "") (Or.inl (hW 21 _ rfl)) Via.refl e0 F_v (g := (mkF m 1 #[.val (.ref x)] [(.ref x)])) rfl rfl (hb hby d10_1)
  refine own_of st1 ?_
  show own_go p e below s _ _ _ (T1.setTop (mkF m 4 #[.val (.ref x)] [(.ref t)]))
  obtain ⟨cl2, Ar2, q2, S2, Ng2, H2, G2⟩ := id V_t
  refine own_of (fun tt_ kk => X1.arraylength hx (by rw [e1]; exact Ar2.1) (State.isArrayOf_alike hZ.alike Ar2.2.1) (g := (mkF m 4 #[.val (.ref x)] [(.ref t)])) rfl rfl (hb hby d10_4) _ (by rw [len_of S2 Ng2]; exact kk)) ?_
  show own_go p e below s _ _ _ (T1.setTop (mkF m 5 #[.val (.ref x)] [(.int 3)]))
  refine own_of (fun tt_ => XS.aloadN X1.here hx rfl (hb hby d10_5) rfl rfl) ?_
  show own_go p e below s _ _ _ (T1.setTop (mkF m 6 #[.val (.ref x)] [(.ref x), (.int 3)]))
  obtain ⟨cq3, kq3, q3a, q3b, q3c⟩ := isOf hZ e1 E_x
  obtain ⟨_, _, ⟨T3, L3, k3, n3⟩, -, X3, ⟨Lc3, hQ3, l3, y3, z3⟩, st3⟩ := X1.virtualBack hx (y := ym6) (z := ym6) hown (mvT hZ (hW 52 _ rfl)) (mvT hZ (hW 53 _ rfl)) (notFace_of_selects (args := #[]) (mvT hZ (hW 55 _ rfl))) (mvT hZ (hW 55 _ rfl)) (mvT hZ (hW 54 _ rfl)) (by decide) (backOf (W := 1) (rmO_0 l Z a0 hw [] x Gc h0 n0 XO0 Oc Pc F_c) hZ (hW 56 _ rfl) (hW 3 _ rfl) (by decide) (by decide)) q3a q3c (g := (mkF m 6 #[.val (.ref x)] [(.ref x), (.int 3)])) rfl (by rw [hml]; rfl) (Steps.refl _) (argsL := []) (rest := [(.int 3)]) (lenOf pd_13 rfl) rfl (by show 2 * 0 + _ ≤ _; exact Nat.le_of_eq rfl) (hb hby d10_6) (fun _ _ => ⟨rfl, e1, (by decide : 0 + 0 ≤ _), (by decide : 0 + 0 ≤ _)⟩)
  dsimp only [Pt.U, Pt.locs, Pt.cells, Pt.slots] at X3 l3 y3 z3 st3 hQ3
  subst l3 y3 z3
  obtain ⟨rfl, Nq3, eh3⟩ := hQ3
  have N3 := Fr.app N0 Nq3
  refine own_of (fun tt_ kk_ => st3.trans kk_) ?_
  show own_go p e below s _ _ _ (T3.setTop (mkF m 9 #[.val (.ref x)] [(.int 0), (.int 3)]))
  refine own_of (fun tt_ => XS.ishr X3.here hx rfl (hb hby d10_9) rfl) ?_
  show own_go p e below s _ _ _ (T3.setTop (mkF m 10 #[.val (.ref x)] [(.int 3)]))
  refine own_ret X3 hx hlk hret rfl (Or.inl ⟨rfl, by simp, _, rfl⟩) (hb hby d10_10) (by decide) (by decide) ?_
  rw [eh3]
  exact ⟨rfl, N3, rfl⟩
theorem ef_rmI_3_1 (m : MethodId) (x0 : Nat) : entryFrame m #[(.ref x0)] 1 = mkF m 0 #[.val (.ref x0)] [] := by first | (simp [entryFrame, mkF, argsToLocals, Value.category]; done) | rfl
set_option maxRecDepth 65536 in
set_option maxHeartbeats 40000000 in
theorem rmI_3_1 (l : Launch) (Z : State) (a0 : Array Value) (hw : own_H Z a0) (ws : List Jvm.Cond) (x : Nat) (t : Nat) (kb : ClassId) (c0 : Int32) (c1 : Int32) (c2 : Int32) (h0 : Heap) (n0 : Nat) (XO0 : Old Z n0 h0) (E_x : Exa Z h0 x "java/lang/String") (F_v : Fld Z h0 x "java/lang/String" "value" "[B" (.ref t)) (F_c : Fld Z h0 x "java/lang/String" "coder" "B" (.int 1)) (V_t : Arv Z h0 t kb .byte (6 : Int32) [(.int (StrChars.lo8 c0)), (.int (StrChars.hi8 c0)), (.int (StrChars.lo8 c1)), (.int (StrChars.hi8 c1)), (.int (StrChars.lo8 c2)), (.int (StrChars.hi8 c2))] (.int 0)) :
    own_M l Z ym5 jdk_42_method_55_code ws 1 (some .boolean) (own_R 0 0 0 0) #[(.ref x)] h0 (own_qv (0 : Int32) h0 n0) := by
  refine own_open (plainFor_of_name pn_1) ?_
  intro p e s m below meth c s₁ hx hby hlk hret hml hown hnm hZ X0 e0
  have hW := own_hW hw
  have N0 := Fr.nil n0
  refine own_of (fun tt_ kk_ => castTop (ef_rmI_3_1 m x) kk_) ?_
  show own_go p e below s _ _ _ (s₁.setTop (mkF m 0 #[.val (.ref x)] []))
  refine own_of (fun tt_ => XS.aloadN X0.here hx rfl (hb hby d5_0) rfl rfl) ?_
  obtain ⟨T1, X1, e1, st1⟩ := getF X0 hx hZ hown (host := "") (Or.inl (hW 21 _ rfl)) Via.refl e0 F_v (g := (mkF m 1 #[.val (.ref x)] [(.ref x)])) rfl rfl (hb hby d5_1)
  refine own_of st1 ?_
  show own_go p e below s _ _ _ (T1.setTop (mkF m 4 #[.val (.ref x)] [(.ref t)]))
  obtain ⟨cl2, Ar2, q2, S2, Ng2, H2, G2⟩ := id V_t
  refine own_of (fun tt_ kk => X1.arraylength hx (by rw [e1]; exact Ar2.1) (State.isArrayOf_alike hZ.alike Ar2.2.1) (g := (mkF m 4 #[.val (.ref x)] [(.ref t)])) rfl rfl (hb hby d5_4) _ (by rw [len_of S2 Ng2]; exact kk)) ?_
  show own_go p e below s _ _ _ (T1.setTop (mkF m 5 #[.val (.ref x)] [(.int 6)]))
  have hb5_3 : ¬ ((6 : Int32) = (0 : Int32)) := by decide
  refine own_of (fun tt_ => XS.ifYes X1.here hx rfl (pc0 := 5) (pc' := 12) rfl (hb hby d5_5) rfl ((if0 _ _).trans (feq hb5_3).2) (by decide) (by decide)) ?_
  show own_go p e below s _ _ _ (T1.setTop (mkF m 12 #[.val (.ref x)] []))
  refine own_of (fun tt_ => XS.iconst X1.here hx rfl (hb hby d5_12)) ?_
  show own_go p e below s _ _ _ (T1.setTop (mkF m 13 #[.val (.ref x)] [(.int 0)]))
  refine own_ret X1 hx hlk hret rfl (Or.inl ⟨rfl, by simp, _, rfl⟩) (hb hby d5_13) (by decide) (by decide) ?_
  rw [e1]
  exact ⟨rfl, N0, rfl⟩
theorem ef_rmN_3_1 (m : MethodId) (x0 : Nat) : entryFrame m #[(.ref x0)] 1 = mkF m 0 #[.val (.ref x0)] [] := by first | (simp [entryFrame, mkF, argsToLocals, Value.category]; done) | rfl
set_option maxRecDepth 65536 in
set_option maxHeartbeats 40000000 in
theorem rmN_3_1 (l : Launch) (Z : State) (a0 : Array Value) (hw : own_H Z a0) (ws : List Jvm.Cond) (x : Nat) (t : Nat) (kb : ClassId) (c0 : Int32) (c1 : Int32) (c2 : Int32) (Gc : Int32) (h0 : Heap) (n0 : Nat) (XO0 : Old Z n0 h0) (Oc : Sta Z Z.heap "java/lang/String" "COMPACT_STRINGS" "Z" (.int Gc)) (Pc : ¬ (Gc = (0 : Int32))) (E_x : Exa Z h0 x "java/lang/String") (F_v : Fld Z h0 x "java/lang/String" "value" "[B" (.ref t)) (F_c : Fld Z h0 x "java/lang/String" "coder" "B" (.int 1)) (V_t : Arv Z h0 t kb .byte (6 : Int32) [(.int (StrChars.lo8 c0)), (.int (StrChars.hi8 c0)), (.int (StrChars.lo8 c1)), (.int (StrChars.hi8 c1)), (.int (StrChars.lo8 c2)), (.int (StrChars.hi8 c2))] (.int 0)) :
    own_M l Z ym1 jdk_42_method_54_code ws 1 (some .int) (own_R 1 0 0 13) #[(.ref x)] h0 (own_qv (3 : Int32) h0 n0) := by
  refine own_open (plainFor_of_name pn_1) ?_
  intro p e s m below meth c s₁ hx hby hlk hret hml hown hnm hZ X0 e0
  have hW := own_hW hw
  have N0 := Fr.nil n0
  refine own_of (fun tt_ kk_ => castTop (ef_rmN_3_1 m x) kk_) ?_
  show own_go p e below s _ _ _ (s₁.setTop (mkF m 0 #[.val (.ref x)] []))
  refine own_of (fun tt_ => XS.aloadN X0.here hx rfl (hb hby d10_0) rfl rfl) ?_
  obtain ⟨T1, X1, e1, st1⟩ := getF X0 hx hZ hown (host := "") (Or.inl (hW 21 _ rfl)) Via.refl e0 F_v (g := (mkF m 1 #[.val (.ref x)] [(.ref x)])) rfl rfl (hb hby d10_1)
  refine own_of st1 ?_
  show own_go p e below s _ _ _ (T1.setTop (mkF m 4 #[.val (.ref x)] [(.ref t)]))
  obtain ⟨cl2, Ar2, q2, S2, Ng2, H2, G2⟩ := id V_t
  refine own_of (fun tt_ kk => X1.arraylength hx (by rw [e1]; exact Ar2.1) (State.isArrayOf_alike hZ.alike Ar2.2.1) (g := (mkF m 4 #[.val (.ref x)] [(.ref t)])) rfl rfl (hb hby d10_4) _ (by rw [len_of S2 Ng2]; exact kk)) ?_
  show own_go p e below s _ _ _ (T1.setTop (mkF m 5 #[.val (.ref x)] [(.int 6)]))
  refine own_of (fun tt_ => XS.aloadN X1.here hx rfl (hb hby d10_5) rfl rfl) ?_
  show own_go p e below s _ _ _ (T1.setTop (mkF m 6 #[.val (.ref x)] [(.ref x), (.int 6)]))
  obtain ⟨cq3, kq3, q3a, q3b, q3c⟩ := isOf hZ e1 E_x
  obtain ⟨_, _, ⟨T3, L3, k3, n3⟩, -, X3, ⟨Lc3, hQ3, l3, y3, z3⟩, st3⟩ := X1.virtualBack hx (y := ym6) (z := ym6) hown (mvT hZ (hW 52 _ rfl)) (mvT hZ (hW 53 _ rfl)) (notFace_of_selects (args := #[]) (mvT hZ (hW 55 _ rfl))) (mvT hZ (hW 55 _ rfl)) (mvT hZ (hW 54 _ rfl)) (by decide) (backOf (W := 1) (rmO_1 l Z a0 hw [] x Gc h0 n0 XO0 Oc Pc F_c) hZ (hW 56 _ rfl) (hW 3 _ rfl) (by decide) (by decide)) q3a q3c (g := (mkF m 6 #[.val (.ref x)] [(.ref x), (.int 6)])) rfl (by rw [hml]; rfl) (Steps.refl _) (argsL := []) (rest := [(.int 6)]) (lenOf pd_13 rfl) rfl (by show 2 * 0 + _ ≤ _; exact Nat.le_of_eq rfl) (hb hby d10_6) (fun _ _ => ⟨rfl, e1, (by decide : 0 + 0 ≤ _), (by decide : 0 + 0 ≤ _)⟩)
  dsimp only [Pt.U, Pt.locs, Pt.cells, Pt.slots] at X3 l3 y3 z3 st3 hQ3
  subst l3 y3 z3
  obtain ⟨rfl, Nq3, eh3⟩ := hQ3
  have N3 := Fr.app N0 Nq3
  refine own_of (fun tt_ kk_ => st3.trans kk_) ?_
  show own_go p e below s _ _ _ (T3.setTop (mkF m 9 #[.val (.ref x)] [(.int 1), (.int 6)]))
  refine own_of (fun tt_ => XS.ishr X3.here hx rfl (hb hby d10_9) rfl) ?_
  show own_go p e below s _ _ _ (T3.setTop (mkF m 10 #[.val (.ref x)] [(.int 3)]))
  refine own_ret X3 hx hlk hret rfl (Or.inl ⟨rfl, by simp, _, rfl⟩) (hb hby d10_10) (by decide) (by decide) ?_
  rw [eh3]
  exact ⟨rfl, N3, rfl⟩
theorem rmI_3 (l : Launch) (Z : State) (a0 : Array Value) (hw : own_H Z a0) (ws : List Jvm.Cond) (x : Nat) (t : Nat) (kb : ClassId) (c0 : Int32) (c1 : Int32) (c2 : Int32) (h0 : Heap) (n0 : Nat) (XO0 : Old Z n0 h0) (E_x : Exa Z h0 x "java/lang/String") (F_v : Fld Z h0 x "java/lang/String" "value" "[B" (.ref t)) (TX : (Fld Z h0 x "java/lang/String" "coder" "B" (.int 0) ∧ Arv Z h0 t kb .byte (3 : Int32) [(.int (StrChars.lo8 c0)), (.int (StrChars.lo8 c1)), (.int (StrChars.lo8 c2))] (.int 0) ∧ ¬ (255 : Int32) < c0 ∧ ¬ (255 : Int32) < c1 ∧ ¬ (255 : Int32) < c2) ∨ (Fld Z h0 x "java/lang/String" "coder" "B" (.int 1) ∧ Arv Z h0 t kb .byte (6 : Int32) [(.int (StrChars.lo8 c0)), (.int (StrChars.hi8 c0)), (.int (StrChars.lo8 c1)), (.int (StrChars.hi8 c1)), (.int (StrChars.lo8 c2)), (.int (StrChars.hi8 c2))] (.int 0))) :
    own_M l Z ym5 jdk_42_method_55_code ws 1 (some .boolean) (own_R 0 0 0 0) #[(.ref x)] h0 (own_qv (0 : Int32) h0 n0) := by
  rcases TX with ⟨F_c, V_t, l0, l1, l2⟩ | ⟨F_c, V_t⟩
  · exact rmI_3_0 l Z a0 hw ws x t kb c0 c1 c2 h0 n0 XO0 E_x F_v F_c V_t 
  · exact rmI_3_1 l Z a0 hw ws x t kb c0 c1 c2 h0 n0 XO0 E_x F_v F_c V_t 
theorem rmN_3 (l : Launch) (Z : State) (a0 : Array Value) (hw : own_H Z a0) (ws : List Jvm.Cond) (x : Nat) (t : Nat) (kb : ClassId) (c0 : Int32) (c1 : Int32) (c2 : Int32) (Gc : Int32) (h0 : Heap) (n0 : Nat) (XO0 : Old Z n0 h0) (Oc : Sta Z Z.heap "java/lang/String" "COMPACT_STRINGS" "Z" (.int Gc)) (Pc : ¬ (Gc = (0 : Int32))) (E_x : Exa Z h0 x "java/lang/String") (F_v : Fld Z h0 x "java/lang/String" "value" "[B" (.ref t)) (TX : (Fld Z h0 x "java/lang/String" "coder" "B" (.int 0) ∧ Arv Z h0 t kb .byte (3 : Int32) [(.int (StrChars.lo8 c0)), (.int (StrChars.lo8 c1)), (.int (StrChars.lo8 c2))] (.int 0) ∧ ¬ (255 : Int32) < c0 ∧ ¬ (255 : Int32) < c1 ∧ ¬ (255 : Int32) < c2) ∨ (Fld Z h0 x "java/lang/String" "coder" "B" (.int 1) ∧ Arv Z h0 t kb .byte (6 : Int32) [(.int (StrChars.lo8 c0)), (.int (StrChars.hi8 c0)), (.int (StrChars.lo8 c1)), (.int (StrChars.hi8 c1)), (.int (StrChars.lo8 c2)), (.int (StrChars.hi8 c2))] (.int 0))) :
    own_M l Z ym1 jdk_42_method_54_code ws 1 (some .int) (own_R 1 0 0 13) #[(.ref x)] h0 (own_qv (3 : Int32) h0 n0) := by
  rcases TX with ⟨F_c, V_t, l0, l1, l2⟩ | ⟨F_c, V_t⟩
  · exact rmN_3_0 l Z a0 hw ws x t kb c0 c1 c2 Gc h0 n0 XO0 Oc Pc E_x F_v F_c V_t 
  · exact rmN_3_1 l Z a0 hw ws x t kb c0 c1 c2 Gc h0 n0 XO0 Oc Pc E_x F_v F_c V_t 
theorem ef_rmA_3_0_0 (m : MethodId) (x0 : Nat) (x1 : Int32) : entryFrame m #[(.ref x0), (.int x1)] 2 = mkF m 0 #[.val (.ref x0), .val (.int x1)] [] := by first | (simp [entryFrame, mkF, argsToLocals, Value.category]; done) | rfl
set_option maxRecDepth 65536 in
set_option maxHeartbeats 40000000 in
theorem rmA_3_0_0 (l : Launch) (Z : State) (a0 : Array Value) (hw : own_H Z a0) (ws : List Jvm.Cond) (x : Nat) (t : Nat) (kb : ClassId) (c0 : Int32) (c1 : Int32) (c2 : Int32) (Gc : Int32) (fm : Value) (h0 : Heap) (n0 : Nat) (XO0 : Old Z n0 h0) (S_ad : Sta Z Z.heap "java/lang/StringUTF16" "$assertionsDisabled" "Z" (.int 1)) (S_hi : Sta Z Z.heap "java/lang/StringUTF16" "HI_BYTE_SHIFT" "I" (.int 0)) (S_lo : Sta Z Z.heap "java/lang/StringUTF16" "LO_BYTE_SHIFT" "I" (.int 8)) (Oc : Sta Z Z.heap "java/lang/String" "COMPACT_STRINGS" "Z" (.int Gc)) (Pc : ¬ (Gc = (0 : Int32))) (S_f : Sta Z Z.heap "jdk/internal/util/Preconditions" "SIOOBE_FORMATTER" "Ljava/util/function/BiFunction;" fm) (r_f : fm.isRef = true) (E_x : Exa Z h0 x "java/lang/String") (F_v : Fld Z h0 x "java/lang/String" "value" "[B" (.ref t)) (F_c : Fld Z h0 x "java/lang/String" "coder" "B" (.int 0)) (V_t : Arv Z h0 t kb .byte (3 : Int32) [(.int (StrChars.lo8 c0)), (.int (StrChars.lo8 c1)), (.int (StrChars.lo8 c2))] (.int 0)) (r0 : own_c16 c0) (r1 : own_c16 c1) (r2 : own_c16 c2) (l0 : ¬ (255 : Int32) < c0) (l1 : ¬ (255 : Int32) < c1) (l2 : ¬ (255 : Int32) < c2) :
    own_M l Z ym0 jdk_42_method_56_code ws 2 (some .char) (own_R 4 0 0 53) #[(.ref x), (.int 0)] h0 (own_qv c0 h0 n0) := by
  refine own_open (plainFor_of_name pn_1) ?_
  intro p e s m below meth c s₁ hx hby hlk hret hml hown hnm hZ X0 e0
  have hW := own_hW hw
  have N0 := Fr.nil n0
  refine own_of (fun tt_ kk_ => castTop (ef_rmA_3_0_0 m x (0 : Int32)) kk_) ?_
  show own_go p e below s _ _ _ (s₁.setTop (mkF m 0 #[.val (.ref x), .val (.int 0)] []))
  refine own_of (fun tt_ => XS.aloadN X0.here hx rfl (hb hby d12_0) rfl rfl) ?_
  show own_go p e below s _ _ _ (s₁.setTop (mkF m 1 #[.val (.ref x), .val (.int 0)] [(.ref x)]))
  obtain ⟨cq1, kq1, q1a, q1b, q1c⟩ := isOf hZ e0 E_x
  obtain ⟨_, _, ⟨T1, L1, k1, n1⟩, -, X1, ⟨Lc1, hQ1, l1, y1, z1⟩, st1⟩ := X0.virtualBack hx (y := ym2) (z := ym2) hown (mvT hZ (hW 62 _ rfl)) (mvT hZ (hW 63 _ rfl)) (notFace_of_selects (args := #[]) (mvT hZ (hW 65 _ rfl))) (mvT hZ (hW 65 _ rfl)) (mvT hZ (hW 64 _ rfl)) (by decide) (backOf (W := 0) (rmY_0 l Z a0 hw [] x Gc h0 n0 XO0 Oc Pc F_c) hZ (hW 66 _ rfl) (hW 3 _ rfl) (by decide) (by decide)) q1a q1c (g := (mkF m 1 #[.val (.ref x), .val (.int 0)] [(.ref x)])) rfl (by rw [hml]; rfl) (Steps.refl _) (argsL := []) (rest := []) (lenOf pd_12 rfl) rfl (by show 2 * 0 + _ ≤ _; exact Nat.le_of_eq rfl) (hb hby d12_1) (fun _ _ => ⟨rfl, e0, (by decide : 0 + 0 ≤ _), (by decide : 0 + 0 ≤ _)⟩)
  dsimp only [Pt.U, Pt.locs, Pt.cells, Pt.slots] at X1 l1 y1 z1 st1 hQ1
  subst l1 y1 z1
  obtain ⟨rfl, Nq1, eh1⟩ := hQ1
  have N1 := Fr.app N0 Nq1
  refine own_of (fun tt_ kk_ => st1.trans kk_) ?_
  show own_go p e below s _ _ _ (T1.setTop (mkF m 4 #[.val (.ref x), .val (.int 0)] [(.int 1)]))
  have hb4_2 : ¬ ((1 : Int32) = (0 : Int32)) := by decide
  refine own_of (fun tt_ => XS.ifNo X1.here hx rfl (hb hby d12_4) rfl ((if0 _ _).trans (feq hb4_2).1)) ?_
  show own_go p e below s _ _ _ (T1.setTop (mkF m 7 #[.val (.ref x), .val (.int 0)] []))
  refine own_of (fun tt_ => XS.aloadN X1.here hx rfl (hb hby d12_7) rfl rfl) ?_
  obtain ⟨T3, X3, e3, st3⟩ := getF X1 hx hZ hown (host := "") (Or.inl (hW 21 _ rfl)) Via.refl eh1 F_v (g := (mkF m 8 #[.val (.ref x), .val (.int 0)] [(.ref x)])) rfl rfl (hb hby d12_8)
  refine own_of st3 ?_
  show own_go p e below s _ _ _ (T3.setTop (mkF m 11 #[.val (.ref x), .val (.int 0)] [(.ref t)]))
  refine own_of (fun tt_ => XS.iloadN X3.here hx rfl (hb hby d12_11) rfl) ?_
  show own_go p e below s _ _ _ (T3.setTop (mkF m 12 #[.val (.ref x), .val (.int 0)] [(.int 0), (.ref t)]))
  obtain ⟨_, _, ⟨T4, L4, k4, n4⟩, -, X4, ⟨Lc4, hQ4, l4, y4, z4⟩, st4⟩ := Jvm.LawKit.callS X3 hx (y := ym15) hown (mvT hZ (hW 67 _ rfl)) (mvT hZ (hW 68 _ rfl)) (mvT hZ (hW 69 _ rfl)) (mvT hZ (hW 70 _ rfl)) (by decide) (backOf (W := 0) (rmX7_3_0 l Z a0 hw [] t kb c0 c1 c2 fm h0 n0 XO0 S_f r_f V_t r0 r1 r2 l0 l1 l2) hZ (hW 70 _ rfl) (hW 69 _ rfl) (by decide) (by decide)) (g := (mkF m 12 #[.val (.ref x), .val (.int 0)] [(.int 0), (.ref t)])) rfl (by rw [hml]; rfl) (argsL := [(.ref t), (.int 0)]) (rest := []) (lenOf pd_5 rfl) rfl (by show 2 * 0 + _ ≤ _; exact Nat.le_of_eq rfl) (hb hby d12_12) (fun _ _ => ⟨rfl, e3, (by decide : 0 + 0 ≤ _), (by decide : 0 + 0 ≤ _)⟩)
  dsimp only [Pt.U, Pt.locs, Pt.cells, Pt.slots] at X4 l4 y4 z4 st4 hQ4
  subst l4 y4 z4
  obtain ⟨rfl, Nq4, eh4⟩ := hQ4
  have N4 := Fr.app N1 Nq4
  refine own_of st4 ?_
  show own_go p e below s _ _ _ (T4.setTop (mkF m 15 #[.val (.ref x), .val (.int 0)] [(.int c0)]))
  refine own_ret X4 hx hlk hret (StrChars.narrow_ch r0.1 r0.2) (Or.inl ⟨rfl, by simp, _, rfl⟩) (hb hby d12_15) (by decide) (by decide) ?_
  rw [eh4]
  exact ⟨rfl, N4, rfl⟩
theorem ef_rmA_3_0_1 (m : MethodId) (x0 : Nat) (x1 : Int32) : entryFrame m #[(.ref x0), (.int x1)] 2 = mkF m 0 #[.val (.ref x0), .val (.int x1)] [] := by first | (simp [entryFrame, mkF, argsToLocals, Value.category]; done) | rfl
set_option maxRecDepth 65536 in
set_option maxHeartbeats 40000000 in
theorem rmA_3_0_1 (l : Launch) (Z : State) (a0 : Array Value) (hw : own_H Z a0) (ws : List Jvm.Cond) (x : Nat) (t : Nat) (kb : ClassId) (c0 : Int32) (c1 : Int32) (c2 : Int32) (Gc : Int32) (fm : Value) (h0 : Heap) (n0 : Nat) (XO0 : Old Z n0 h0) (S_ad : Sta Z Z.heap "java/lang/StringUTF16" "$assertionsDisabled" "Z" (.int 1)) (S_hi : Sta Z Z.heap "java/lang/StringUTF16" "HI_BYTE_SHIFT" "I" (.int 0)) (S_lo : Sta Z Z.heap "java/lang/StringUTF16" "LO_BYTE_SHIFT" "I" (.int 8)) (Oc : Sta Z Z.heap "java/lang/String" "COMPACT_STRINGS" "Z" (.int Gc)) (Pc : ¬ (Gc = (0 : Int32))) (S_f : Sta Z Z.heap "jdk/internal/util/Preconditions" "SIOOBE_FORMATTER" "Ljava/util/function/BiFunction;" fm) (r_f : fm.isRef = true) (E_x : Exa Z h0 x "java/lang/String") (F_v : Fld Z h0 x "java/lang/String" "value" "[B" (.ref t)) (F_c : Fld Z h0 x "java/lang/String" "coder" "B" (.int 1)) (V_t : Arv Z h0 t kb .byte (6 : Int32) [(.int (StrChars.lo8 c0)), (.int (StrChars.hi8 c0)), (.int (StrChars.lo8 c1)), (.int (StrChars.hi8 c1)), (.int (StrChars.lo8 c2)), (.int (StrChars.hi8 c2))] (.int 0)) (r0 : own_c16 c0) (r1 : own_c16 c1) (r2 : own_c16 c2) :
    own_M l Z ym0 jdk_42_method_56_code ws 2 (some .char) (own_R 4 0 0 53) #[(.ref x), (.int 0)] h0 (own_qv c0 h0 n0) := by
  refine own_open (plainFor_of_name pn_1) ?_
  intro p e s m below meth c s₁ hx hby hlk hret hml hown hnm hZ X0 e0
  have hW := own_hW hw
  have N0 := Fr.nil n0
  refine own_of (fun tt_ kk_ => castTop (ef_rmA_3_0_1 m x (0 : Int32)) kk_) ?_
  show own_go p e below s _ _ _ (s₁.setTop (mkF m 0 #[.val (.ref x), .val (.int 0)] []))
  refine own_of (fun tt_ => XS.aloadN X0.here hx rfl (hb hby d12_0) rfl rfl) ?_
  show own_go p e below s _ _ _ (s₁.setTop (mkF m 1 #[.val (.ref x), .val (.int 0)] [(.ref x)]))
  obtain ⟨cq1, kq1, q1a, q1b, q1c⟩ := isOf hZ e0 E_x
  obtain ⟨_, _, ⟨T1, L1, k1, n1⟩, -, X1, ⟨Lc1, hQ1, l1, y1, z1⟩, st1⟩ := X0.virtualBack hx (y := ym2) (z := ym2) hown (mvT hZ (hW 62 _ rfl)) (mvT hZ (hW 63 _ rfl)) (notFace_of_selects (args := #[]) (mvT hZ (hW 65 _ rfl))) (mvT hZ (hW 65 _ rfl)) (mvT hZ (hW 64 _ rfl)) (by decide) (backOf (W := 0) (rmY_1 l Z a0 hw [] x Gc h0 n0 XO0 Oc Pc F_c) hZ (hW 66 _ rfl) (hW 3 _ rfl) (by decide) (by decide)) q1a q1c (g := (mkF m 1 #[.val (.ref x), .val (.int 0)] [(.ref x)])) rfl (by rw [hml]; rfl) (Steps.refl _) (argsL := []) (rest := []) (lenOf pd_12 rfl) rfl (by show 2 * 0 + _ ≤ _; exact Nat.le_of_eq rfl) (hb hby d12_1) (fun _ _ => ⟨rfl, e0, (by decide : 0 + 0 ≤ _), (by decide : 0 + 0 ≤ _)⟩)
  dsimp only [Pt.U, Pt.locs, Pt.cells, Pt.slots] at X1 l1 y1 z1 st1 hQ1
  subst l1 y1 z1
  obtain ⟨rfl, Nq1, eh1⟩ := hQ1
  have N1 := Fr.app N0 Nq1
  refine own_of (fun tt_ kk_ => st1.trans kk_) ?_
  show own_go p e below s _ _ _ (T1.setTop (mkF m 4 #[.val (.ref x), .val (.int 0)] [(.int 0)]))
  have hb4_2 : (0 : Int32) = (0 : Int32) := by decide
  refine own_of (fun tt_ => XS.ifYes X1.here hx rfl (pc0 := 4) (pc' := 16) rfl (hb hby d12_4) rfl ((if0 _ _).trans (teq hb4_2).1) (by decide) (by decide)) ?_
  show own_go p e below s _ _ _ (T1.setTop (mkF m 16 #[.val (.ref x), .val (.int 0)] []))
  refine own_of (fun tt_ => XS.aloadN X1.here hx rfl (hb hby d12_16) rfl rfl) ?_
  obtain ⟨T3, X3, e3, st3⟩ := getF X1 hx hZ hown (host := "") (Or.inl (hW 21 _ rfl)) Via.refl eh1 F_v (g := (mkF m 17 #[.val (.ref x), .val (.int 0)] [(.ref x)])) rfl rfl (hb hby d12_17)
  refine own_of st3 ?_
  show own_go p e below s _ _ _ (T3.setTop (mkF m 20 #[.val (.ref x), .val (.int 0)] [(.ref t)]))
  refine own_of (fun tt_ => XS.iloadN X3.here hx rfl (hb hby d12_20) rfl) ?_
  show own_go p e below s _ _ _ (T3.setTop (mkF m 21 #[.val (.ref x), .val (.int 0)] [(.int 0), (.ref t)]))
  obtain ⟨_, _, ⟨T4, L4, k4, n4⟩, -, X4, ⟨Lc4, hQ4, l4, y4, z4⟩, st4⟩ := Jvm.LawKit.callS X3 hx (y := ym14) hown (mvT hZ (hW 98 _ rfl)) (mvT hZ (hW 99 _ rfl)) (mvT hZ (hW 35 _ rfl)) (mvT hZ (hW 100 _ rfl)) (by decide) (backOf (W := 0) (rmX5_3_0 l Z a0 hw [] t kb c0 c1 c2 fm h0 n0 XO0 S_ad S_hi S_lo S_f r_f V_t r0 r1 r2) hZ (hW 100 _ rfl) (hW 35 _ rfl) (by decide) (by decide)) (g := (mkF m 21 #[.val (.ref x), .val (.int 0)] [(.int 0), (.ref t)])) rfl (by rw [hml]; rfl) (argsL := [(.ref t), (.int 0)]) (rest := []) (lenOf pd_5 rfl) rfl (by show 2 * 0 + _ ≤ _; exact Nat.le_of_eq rfl) (hb hby d12_21) (fun _ _ => ⟨rfl, e3, (by decide : 0 + 0 ≤ _), (by decide : 0 + 0 ≤ _)⟩)
  dsimp only [Pt.U, Pt.locs, Pt.cells, Pt.slots] at X4 l4 y4 z4 st4 hQ4
  subst l4 y4 z4
  obtain ⟨rfl, Nq4, eh4⟩ := hQ4
  have N4 := Fr.app N1 Nq4
  refine own_of st4 ?_
  show own_go p e below s _ _ _ (T4.setTop (mkF m 24 #[.val (.ref x), .val (.int 0)] [(.int c0)]))
  refine own_ret X4 hx hlk hret (StrChars.narrow_ch r0.1 r0.2) (Or.inl ⟨rfl, by simp, _, rfl⟩) (hb hby d12_24) (by decide) (by decide) ?_
  rw [eh4]
  exact ⟨rfl, N4, rfl⟩
theorem rmA_3_0 (l : Launch) (Z : State) (a0 : Array Value) (hw : own_H Z a0) (ws : List Jvm.Cond) (x : Nat) (t : Nat) (kb : ClassId) (c0 : Int32) (c1 : Int32) (c2 : Int32) (Gc : Int32) (fm : Value) (h0 : Heap) (n0 : Nat) (XO0 : Old Z n0 h0) (S_ad : Sta Z Z.heap "java/lang/StringUTF16" "$assertionsDisabled" "Z" (.int 1)) (S_hi : Sta Z Z.heap "java/lang/StringUTF16" "HI_BYTE_SHIFT" "I" (.int 0)) (S_lo : Sta Z Z.heap "java/lang/StringUTF16" "LO_BYTE_SHIFT" "I" (.int 8)) (Oc : Sta Z Z.heap "java/lang/String" "COMPACT_STRINGS" "Z" (.int Gc)) (Pc : ¬ (Gc = (0 : Int32))) (S_f : Sta Z Z.heap "jdk/internal/util/Preconditions" "SIOOBE_FORMATTER" "Ljava/util/function/BiFunction;" fm) (r_f : fm.isRef = true) (E_x : Exa Z h0 x "java/lang/String") (F_v : Fld Z h0 x "java/lang/String" "value" "[B" (.ref t)) (TX : (Fld Z h0 x "java/lang/String" "coder" "B" (.int 0) ∧ Arv Z h0 t kb .byte (3 : Int32) [(.int (StrChars.lo8 c0)), (.int (StrChars.lo8 c1)), (.int (StrChars.lo8 c2))] (.int 0) ∧ ¬ (255 : Int32) < c0 ∧ ¬ (255 : Int32) < c1 ∧ ¬ (255 : Int32) < c2) ∨ (Fld Z h0 x "java/lang/String" "coder" "B" (.int 1) ∧ Arv Z h0 t kb .byte (6 : Int32) [(.int (StrChars.lo8 c0)), (.int (StrChars.hi8 c0)), (.int (StrChars.lo8 c1)), (.int (StrChars.hi8 c1)), (.int (StrChars.lo8 c2)), (.int (StrChars.hi8 c2))] (.int 0))) (r0 : own_c16 c0) (r1 : own_c16 c1) (r2 : own_c16 c2) :
    own_M l Z ym0 jdk_42_method_56_code ws 2 (some .char) (own_R 4 0 0 53) #[(.ref x), (.int 0)] h0 (own_qv c0 h0 n0) := by
  rcases TX with ⟨F_c, V_t, l0, l1, l2⟩ | ⟨F_c, V_t⟩
  · exact rmA_3_0_0 l Z a0 hw ws x t kb c0 c1 c2 Gc fm h0 n0 XO0 S_ad S_hi S_lo Oc Pc S_f r_f E_x F_v F_c V_t r0 r1 r2 l0 l1 l2
  · exact rmA_3_0_1 l Z a0 hw ws x t kb c0 c1 c2 Gc fm h0 n0 XO0 S_ad S_hi S_lo Oc Pc S_f r_f E_x F_v F_c V_t r0 r1 r2
theorem ef_rmA_3_1_0 (m : MethodId) (x0 : Nat) (x1 : Int32) : entryFrame m #[(.ref x0), (.int x1)] 2 = mkF m 0 #[.val (.ref x0), .val (.int x1)] [] := by first | (simp [entryFrame, mkF, argsToLocals, Value.category]; done) | rfl
set_option maxRecDepth 65536 in
set_option maxHeartbeats 40000000 in
theorem rmA_3_1_0 (l : Launch) (Z : State) (a0 : Array Value) (hw : own_H Z a0) (ws : List Jvm.Cond) (x : Nat) (t : Nat) (kb : ClassId) (c0 : Int32) (c1 : Int32) (c2 : Int32) (Gc : Int32) (fm : Value) (h0 : Heap) (n0 : Nat) (XO0 : Old Z n0 h0) (S_ad : Sta Z Z.heap "java/lang/StringUTF16" "$assertionsDisabled" "Z" (.int 1)) (S_hi : Sta Z Z.heap "java/lang/StringUTF16" "HI_BYTE_SHIFT" "I" (.int 0)) (S_lo : Sta Z Z.heap "java/lang/StringUTF16" "LO_BYTE_SHIFT" "I" (.int 8)) (Oc : Sta Z Z.heap "java/lang/String" "COMPACT_STRINGS" "Z" (.int Gc)) (Pc : ¬ (Gc = (0 : Int32))) (S_f : Sta Z Z.heap "jdk/internal/util/Preconditions" "SIOOBE_FORMATTER" "Ljava/util/function/BiFunction;" fm) (r_f : fm.isRef = true) (E_x : Exa Z h0 x "java/lang/String") (F_v : Fld Z h0 x "java/lang/String" "value" "[B" (.ref t)) (F_c : Fld Z h0 x "java/lang/String" "coder" "B" (.int 0)) (V_t : Arv Z h0 t kb .byte (3 : Int32) [(.int (StrChars.lo8 c0)), (.int (StrChars.lo8 c1)), (.int (StrChars.lo8 c2))] (.int 0)) (r0 : own_c16 c0) (r1 : own_c16 c1) (r2 : own_c16 c2) (l0 : ¬ (255 : Int32) < c0) (l1 : ¬ (255 : Int32) < c1) (l2 : ¬ (255 : Int32) < c2) :
    own_M l Z ym0 jdk_42_method_56_code ws 2 (some .char) (own_R 4 0 0 53) #[(.ref x), (.int 1)] h0 (own_qv c1 h0 n0) := by
  refine own_open (plainFor_of_name pn_1) ?_
  intro p e s m below meth c s₁ hx hby hlk hret hml hown hnm hZ X0 e0
  have hW := own_hW hw
  have N0 := Fr.nil n0
  refine own_of (fun tt_ kk_ => castTop (ef_rmA_3_1_0 m x (1 : Int32)) kk_) ?_
  show own_go p e below s _ _ _ (s₁.setTop (mkF m 0 #[.val (.ref x), .val (.int 1)] []))
  refine own_of (fun tt_ => XS.aloadN X0.here hx rfl (hb hby d12_0) rfl rfl) ?_
  show own_go p e below s _ _ _ (s₁.setTop (mkF m 1 #[.val (.ref x), .val (.int 1)] [(.ref x)]))
  obtain ⟨cq1, kq1, q1a, q1b, q1c⟩ := isOf hZ e0 E_x
  obtain ⟨_, _, ⟨T1, L1, k1, n1⟩, -, X1, ⟨Lc1, hQ1, l1, y1, z1⟩, st1⟩ := X0.virtualBack hx (y := ym2) (z := ym2) hown (mvT hZ (hW 62 _ rfl)) (mvT hZ (hW 63 _ rfl)) (notFace_of_selects (args := #[]) (mvT hZ (hW 65 _ rfl))) (mvT hZ (hW 65 _ rfl)) (mvT hZ (hW 64 _ rfl)) (by decide) (backOf (W := 0) (rmY_0 l Z a0 hw [] x Gc h0 n0 XO0 Oc Pc F_c) hZ (hW 66 _ rfl) (hW 3 _ rfl) (by decide) (by decide)) q1a q1c (g := (mkF m 1 #[.val (.ref x), .val (.int 1)] [(.ref x)])) rfl (by rw [hml]; rfl) (Steps.refl _) (argsL := []) (rest := []) (lenOf pd_12 rfl) rfl (by show 2 * 0 + _ ≤ _; exact Nat.le_of_eq rfl) (hb hby d12_1) (fun _ _ => ⟨rfl, e0, (by decide : 0 + 0 ≤ _), (by decide : 0 + 0 ≤ _)⟩)
  dsimp only [Pt.U, Pt.locs, Pt.cells, Pt.slots] at X1 l1 y1 z1 st1 hQ1
  subst l1 y1 z1
  obtain ⟨rfl, Nq1, eh1⟩ := hQ1
  have N1 := Fr.app N0 Nq1
  refine own_of (fun tt_ kk_ => st1.trans kk_) ?_
  show own_go p e below s _ _ _ (T1.setTop (mkF m 4 #[.val (.ref x), .val (.int 1)] [(.int 1)]))
  have hb4_2 : ¬ ((1 : Int32) = (0 : Int32)) := by decide
  refine own_of (fun tt_ => XS.ifNo X1.here hx rfl (hb hby d12_4) rfl ((if0 _ _).trans (feq hb4_2).1)) ?_
  show own_go p e below s _ _ _ (T1.setTop (mkF m 7 #[.val (.ref x), .val (.int 1)] []))
  refine own_of (fun tt_ => XS.aloadN X1.here hx rfl (hb hby d12_7) rfl rfl) ?_
  obtain ⟨T3, X3, e3, st3⟩ := getF X1 hx hZ hown (host := "") (Or.inl (hW 21 _ rfl)) Via.refl eh1 F_v (g := (mkF m 8 #[.val (.ref x), .val (.int 1)] [(.ref x)])) rfl rfl (hb hby d12_8)
  refine own_of st3 ?_
  show own_go p e below s _ _ _ (T3.setTop (mkF m 11 #[.val (.ref x), .val (.int 1)] [(.ref t)]))
  refine own_of (fun tt_ => XS.iloadN X3.here hx rfl (hb hby d12_11) rfl) ?_
  show own_go p e below s _ _ _ (T3.setTop (mkF m 12 #[.val (.ref x), .val (.int 1)] [(.int 1), (.ref t)]))
  obtain ⟨_, _, ⟨T4, L4, k4, n4⟩, -, X4, ⟨Lc4, hQ4, l4, y4, z4⟩, st4⟩ := Jvm.LawKit.callS X3 hx (y := ym15) hown (mvT hZ (hW 67 _ rfl)) (mvT hZ (hW 68 _ rfl)) (mvT hZ (hW 69 _ rfl)) (mvT hZ (hW 70 _ rfl)) (by decide) (backOf (W := 0) (rmX7_3_1 l Z a0 hw [] t kb c0 c1 c2 fm h0 n0 XO0 S_f r_f V_t r0 r1 r2 l0 l1 l2) hZ (hW 70 _ rfl) (hW 69 _ rfl) (by decide) (by decide)) (g := (mkF m 12 #[.val (.ref x), .val (.int 1)] [(.int 1), (.ref t)])) rfl (by rw [hml]; rfl) (argsL := [(.ref t), (.int 1)]) (rest := []) (lenOf pd_5 rfl) rfl (by show 2 * 0 + _ ≤ _; exact Nat.le_of_eq rfl) (hb hby d12_12) (fun _ _ => ⟨rfl, e3, (by decide : 0 + 0 ≤ _), (by decide : 0 + 0 ≤ _)⟩)
  dsimp only [Pt.U, Pt.locs, Pt.cells, Pt.slots] at X4 l4 y4 z4 st4 hQ4
  subst l4 y4 z4
  obtain ⟨rfl, Nq4, eh4⟩ := hQ4
  have N4 := Fr.app N1 Nq4
  refine own_of st4 ?_
  show own_go p e below s _ _ _ (T4.setTop (mkF m 15 #[.val (.ref x), .val (.int 1)] [(.int c1)]))
  refine own_ret X4 hx hlk hret (StrChars.narrow_ch r1.1 r1.2) (Or.inl ⟨rfl, by simp, _, rfl⟩) (hb hby d12_15) (by decide) (by decide) ?_
  rw [eh4]
  exact ⟨rfl, N4, rfl⟩
theorem ef_rmA_3_1_1 (m : MethodId) (x0 : Nat) (x1 : Int32) : entryFrame m #[(.ref x0), (.int x1)] 2 = mkF m 0 #[.val (.ref x0), .val (.int x1)] [] := by first | (simp [entryFrame, mkF, argsToLocals, Value.category]; done) | rfl
set_option maxRecDepth 65536 in
set_option maxHeartbeats 40000000 in
theorem rmA_3_1_1 (l : Launch) (Z : State) (a0 : Array Value) (hw : own_H Z a0) (ws : List Jvm.Cond) (x : Nat) (t : Nat) (kb : ClassId) (c0 : Int32) (c1 : Int32) (c2 : Int32) (Gc : Int32) (fm : Value) (h0 : Heap) (n0 : Nat) (XO0 : Old Z n0 h0) (S_ad : Sta Z Z.heap "java/lang/StringUTF16" "$assertionsDisabled" "Z" (.int 1)) (S_hi : Sta Z Z.heap "java/lang/StringUTF16" "HI_BYTE_SHIFT" "I" (.int 0)) (S_lo : Sta Z Z.heap "java/lang/StringUTF16" "LO_BYTE_SHIFT" "I" (.int 8)) (Oc : Sta Z Z.heap "java/lang/String" "COMPACT_STRINGS" "Z" (.int Gc)) (Pc : ¬ (Gc = (0 : Int32))) (S_f : Sta Z Z.heap "jdk/internal/util/Preconditions" "SIOOBE_FORMATTER" "Ljava/util/function/BiFunction;" fm) (r_f : fm.isRef = true) (E_x : Exa Z h0 x "java/lang/String") (F_v : Fld Z h0 x "java/lang/String" "value" "[B" (.ref t)) (F_c : Fld Z h0 x "java/lang/String" "coder" "B" (.int 1)) (V_t : Arv Z h0 t kb .byte (6 : Int32) [(.int (StrChars.lo8 c0)), (.int (StrChars.hi8 c0)), (.int (StrChars.lo8 c1)), (.int (StrChars.hi8 c1)), (.int (StrChars.lo8 c2)), (.int (StrChars.hi8 c2))] (.int 0)) (r0 : own_c16 c0) (r1 : own_c16 c1) (r2 : own_c16 c2) :
    own_M l Z ym0 jdk_42_method_56_code ws 2 (some .char) (own_R 4 0 0 53) #[(.ref x), (.int 1)] h0 (own_qv c1 h0 n0) := by
  refine own_open (plainFor_of_name pn_1) ?_
  intro p e s m below meth c s₁ hx hby hlk hret hml hown hnm hZ X0 e0
  have hW := own_hW hw
  have N0 := Fr.nil n0
  refine own_of (fun tt_ kk_ => castTop (ef_rmA_3_1_1 m x (1 : Int32)) kk_) ?_
  show own_go p e below s _ _ _ (s₁.setTop (mkF m 0 #[.val (.ref x), .val (.int 1)] []))
  refine own_of (fun tt_ => XS.aloadN X0.here hx rfl (hb hby d12_0) rfl rfl) ?_
  show own_go p e below s _ _ _ (s₁.setTop (mkF m 1 #[.val (.ref x), .val (.int 1)] [(.ref x)]))
  obtain ⟨cq1, kq1, q1a, q1b, q1c⟩ := isOf hZ e0 E_x
  obtain ⟨_, _, ⟨T1, L1, k1, n1⟩, -, X1, ⟨Lc1, hQ1, l1, y1, z1⟩, st1⟩ := X0.virtualBack hx (y := ym2) (z := ym2) hown (mvT hZ (hW 62 _ rfl)) (mvT hZ (hW 63 _ rfl)) (notFace_of_selects (args := #[]) (mvT hZ (hW 65 _ rfl))) (mvT hZ (hW 65 _ rfl)) (mvT hZ (hW 64 _ rfl)) (by decide) (backOf (W := 0) (rmY_1 l Z a0 hw [] x Gc h0 n0 XO0 Oc Pc F_c) hZ (hW 66 _ rfl) (hW 3 _ rfl) (by decide) (by decide)) q1a q1c (g := (mkF m 1 #[.val (.ref x), .val (.int 1)] [(.ref x)])) rfl (by rw [hml]; rfl) (Steps.refl _) (argsL := []) (rest := []) (lenOf pd_12 rfl) rfl (by show 2 * 0 + _ ≤ _; exact Nat.le_of_eq rfl) (hb hby d12_1) (fun _ _ => ⟨rfl, e0, (by decide : 0 + 0 ≤ _), (by decide : 0 + 0 ≤ _)⟩)
  dsimp only [Pt.U, Pt.locs, Pt.cells, Pt.slots] at X1 l1 y1 z1 st1 hQ1
  subst l1 y1 z1
  obtain ⟨rfl, Nq1, eh1⟩ := hQ1
  have N1 := Fr.app N0 Nq1
  refine own_of (fun tt_ kk_ => st1.trans kk_) ?_
  show own_go p e below s _ _ _ (T1.setTop (mkF m 4 #[.val (.ref x), .val (.int 1)] [(.int 0)]))
  have hb4_2 : (0 : Int32) = (0 : Int32) := by decide
  refine own_of (fun tt_ => XS.ifYes X1.here hx rfl (pc0 := 4) (pc' := 16) rfl (hb hby d12_4) rfl ((if0 _ _).trans (teq hb4_2).1) (by decide) (by decide)) ?_
  show own_go p e below s _ _ _ (T1.setTop (mkF m 16 #[.val (.ref x), .val (.int 1)] []))
  refine own_of (fun tt_ => XS.aloadN X1.here hx rfl (hb hby d12_16) rfl rfl) ?_
  obtain ⟨T3, X3, e3, st3⟩ := getF X1 hx hZ hown (host := "") (Or.inl (hW 21 _ rfl)) Via.refl eh1 F_v (g := (mkF m 17 #[.val (.ref x), .val (.int 1)] [(.ref x)])) rfl rfl (hb hby d12_17)
  refine own_of st3 ?_
  show own_go p e below s _ _ _ (T3.setTop (mkF m 20 #[.val (.ref x), .val (.int 1)] [(.ref t)]))
  refine own_of (fun tt_ => XS.iloadN X3.here hx rfl (hb hby d12_20) rfl) ?_
  show own_go p e below s _ _ _ (T3.setTop (mkF m 21 #[.val (.ref x), .val (.int 1)] [(.int 1), (.ref t)]))
  obtain ⟨_, _, ⟨T4, L4, k4, n4⟩, -, X4, ⟨Lc4, hQ4, l4, y4, z4⟩, st4⟩ := Jvm.LawKit.callS X3 hx (y := ym14) hown (mvT hZ (hW 98 _ rfl)) (mvT hZ (hW 99 _ rfl)) (mvT hZ (hW 35 _ rfl)) (mvT hZ (hW 100 _ rfl)) (by decide) (backOf (W := 0) (rmX5_3_1 l Z a0 hw [] t kb c0 c1 c2 fm h0 n0 XO0 S_ad S_hi S_lo S_f r_f V_t r0 r1 r2) hZ (hW 100 _ rfl) (hW 35 _ rfl) (by decide) (by decide)) (g := (mkF m 21 #[.val (.ref x), .val (.int 1)] [(.int 1), (.ref t)])) rfl (by rw [hml]; rfl) (argsL := [(.ref t), (.int 1)]) (rest := []) (lenOf pd_5 rfl) rfl (by show 2 * 0 + _ ≤ _; exact Nat.le_of_eq rfl) (hb hby d12_21) (fun _ _ => ⟨rfl, e3, (by decide : 0 + 0 ≤ _), (by decide : 0 + 0 ≤ _)⟩)
  dsimp only [Pt.U, Pt.locs, Pt.cells, Pt.slots] at X4 l4 y4 z4 st4 hQ4
  subst l4 y4 z4
  obtain ⟨rfl, Nq4, eh4⟩ := hQ4
  have N4 := Fr.app N1 Nq4
  refine own_of st4 ?_
  show own_go p e below s _ _ _ (T4.setTop (mkF m 24 #[.val (.ref x), .val (.int 1)] [(.int c1)]))
  refine own_ret X4 hx hlk hret (StrChars.narrow_ch r1.1 r1.2) (Or.inl ⟨rfl, by simp, _, rfl⟩) (hb hby d12_24) (by decide) (by decide) ?_
  rw [eh4]
  exact ⟨rfl, N4, rfl⟩
theorem rmA_3_1 (l : Launch) (Z : State) (a0 : Array Value) (hw : own_H Z a0) (ws : List Jvm.Cond) (x : Nat) (t : Nat) (kb : ClassId) (c0 : Int32) (c1 : Int32) (c2 : Int32) (Gc : Int32) (fm : Value) (h0 : Heap) (n0 : Nat) (XO0 : Old Z n0 h0) (S_ad : Sta Z Z.heap "java/lang/StringUTF16" "$assertionsDisabled" "Z" (.int 1)) (S_hi : Sta Z Z.heap "java/lang/StringUTF16" "HI_BYTE_SHIFT" "I" (.int 0)) (S_lo : Sta Z Z.heap "java/lang/StringUTF16" "LO_BYTE_SHIFT" "I" (.int 8)) (Oc : Sta Z Z.heap "java/lang/String" "COMPACT_STRINGS" "Z" (.int Gc)) (Pc : ¬ (Gc = (0 : Int32))) (S_f : Sta Z Z.heap "jdk/internal/util/Preconditions" "SIOOBE_FORMATTER" "Ljava/util/function/BiFunction;" fm) (r_f : fm.isRef = true) (E_x : Exa Z h0 x "java/lang/String") (F_v : Fld Z h0 x "java/lang/String" "value" "[B" (.ref t)) (TX : (Fld Z h0 x "java/lang/String" "coder" "B" (.int 0) ∧ Arv Z h0 t kb .byte (3 : Int32) [(.int (StrChars.lo8 c0)), (.int (StrChars.lo8 c1)), (.int (StrChars.lo8 c2))] (.int 0) ∧ ¬ (255 : Int32) < c0 ∧ ¬ (255 : Int32) < c1 ∧ ¬ (255 : Int32) < c2) ∨ (Fld Z h0 x "java/lang/String" "coder" "B" (.int 1) ∧ Arv Z h0 t kb .byte (6 : Int32) [(.int (StrChars.lo8 c0)), (.int (StrChars.hi8 c0)), (.int (StrChars.lo8 c1)), (.int (StrChars.hi8 c1)), (.int (StrChars.lo8 c2)), (.int (StrChars.hi8 c2))] (.int 0))) (r0 : own_c16 c0) (r1 : own_c16 c1) (r2 : own_c16 c2) :
    own_M l Z ym0 jdk_42_method_56_code ws 2 (some .char) (own_R 4 0 0 53) #[(.ref x), (.int 1)] h0 (own_qv c1 h0 n0) := by
  rcases TX with ⟨F_c, V_t, l0, l1, l2⟩ | ⟨F_c, V_t⟩
  · exact rmA_3_1_0 l Z a0 hw ws x t kb c0 c1 c2 Gc fm h0 n0 XO0 S_ad S_hi S_lo Oc Pc S_f r_f E_x F_v F_c V_t r0 r1 r2 l0 l1 l2
  · exact rmA_3_1_1 l Z a0 hw ws x t kb c0 c1 c2 Gc fm h0 n0 XO0 S_ad S_hi S_lo Oc Pc S_f r_f E_x F_v F_c V_t r0 r1 r2
theorem ef_rmA_3_2_0 (m : MethodId) (x0 : Nat) (x1 : Int32) : entryFrame m #[(.ref x0), (.int x1)] 2 = mkF m 0 #[.val (.ref x0), .val (.int x1)] [] := by first | (simp [entryFrame, mkF, argsToLocals, Value.category]; done) | rfl
set_option maxRecDepth 65536 in
set_option maxHeartbeats 40000000 in
theorem rmA_3_2_0 (l : Launch) (Z : State) (a0 : Array Value) (hw : own_H Z a0) (ws : List Jvm.Cond) (x : Nat) (t : Nat) (kb : ClassId) (c0 : Int32) (c1 : Int32) (c2 : Int32) (Gc : Int32) (fm : Value) (h0 : Heap) (n0 : Nat) (XO0 : Old Z n0 h0) (S_ad : Sta Z Z.heap "java/lang/StringUTF16" "$assertionsDisabled" "Z" (.int 1)) (S_hi : Sta Z Z.heap "java/lang/StringUTF16" "HI_BYTE_SHIFT" "I" (.int 0)) (S_lo : Sta Z Z.heap "java/lang/StringUTF16" "LO_BYTE_SHIFT" "I" (.int 8)) (Oc : Sta Z Z.heap "java/lang/String" "COMPACT_STRINGS" "Z" (.int Gc)) (Pc : ¬ (Gc = (0 : Int32))) (S_f : Sta Z Z.heap "jdk/internal/util/Preconditions" "SIOOBE_FORMATTER" "Ljava/util/function/BiFunction;" fm) (r_f : fm.isRef = true) (E_x : Exa Z h0 x "java/lang/String") (F_v : Fld Z h0 x "java/lang/String" "value" "[B" (.ref t)) (F_c : Fld Z h0 x "java/lang/String" "coder" "B" (.int 0)) (V_t : Arv Z h0 t kb .byte (3 : Int32) [(.int (StrChars.lo8 c0)), (.int (StrChars.lo8 c1)), (.int (StrChars.lo8 c2))] (.int 0)) (r0 : own_c16 c0) (r1 : own_c16 c1) (r2 : own_c16 c2) (l0 : ¬ (255 : Int32) < c0) (l1 : ¬ (255 : Int32) < c1) (l2 : ¬ (255 : Int32) < c2) :
    own_M l Z ym0 jdk_42_method_56_code ws 2 (some .char) (own_R 4 0 0 53) #[(.ref x), (.int 2)] h0 (own_qv c2 h0 n0) := by
  refine own_open (plainFor_of_name pn_1) ?_
  intro p e s m below meth c s₁ hx hby hlk hret hml hown hnm hZ X0 e0
  have hW := own_hW hw
  have N0 := Fr.nil n0
  refine own_of (fun tt_ kk_ => castTop (ef_rmA_3_2_0 m x (2 : Int32)) kk_) ?_
  show own_go p e below s _ _ _ (s₁.setTop (mkF m 0 #[.val (.ref x), .val (.int 2)] []))
  refine own_of (fun tt_ => XS.aloadN X0.here hx rfl (hb hby d12_0) rfl rfl) ?_
  show own_go p e below s _ _ _ (s₁.setTop (mkF m 1 #[.val (.ref x), .val (.int 2)] [(.ref x)]))
  obtain ⟨cq1, kq1, q1a, q1b, q1c⟩ := isOf hZ e0 E_x
  obtain ⟨_, _, ⟨T1, L1, k1, n1⟩, -, X1, ⟨Lc1, hQ1, l1, y1, z1⟩, st1⟩ := X0.virtualBack hx (y := ym2) (z := ym2) hown (mvT hZ (hW 62 _ rfl)) (mvT hZ (hW 63 _ rfl)) (notFace_of_selects (args := #[]) (mvT hZ (hW 65 _ rfl))) (mvT hZ (hW 65 _ rfl)) (mvT hZ (hW 64 _ rfl)) (by decide) (backOf (W := 0) (rmY_0 l Z a0 hw [] x Gc h0 n0 XO0 Oc Pc F_c) hZ (hW 66 _ rfl) (hW 3 _ rfl) (by decide) (by decide)) q1a q1c (g := (mkF m 1 #[.val (.ref x), .val (.int 2)] [(.ref x)])) rfl (by rw [hml]; rfl) (Steps.refl _) (argsL := []) (rest := []) (lenOf pd_12 rfl) rfl (by show 2 * 0 + _ ≤ _; exact Nat.le_of_eq rfl) (hb hby d12_1) (fun _ _ => ⟨rfl, e0, (by decide : 0 + 0 ≤ _), (by decide : 0 + 0 ≤ _)⟩)
  dsimp only [Pt.U, Pt.locs, Pt.cells, Pt.slots] at X1 l1 y1 z1 st1 hQ1
  subst l1 y1 z1
  obtain ⟨rfl, Nq1, eh1⟩ := hQ1
  have N1 := Fr.app N0 Nq1
  refine own_of (fun tt_ kk_ => st1.trans kk_) ?_
  show own_go p e below s _ _ _ (T1.setTop (mkF m 4 #[.val (.ref x), .val (.int 2)] [(.int 1)]))
  have hb4_2 : ¬ ((1 : Int32) = (0 : Int32)) := by decide
  refine own_of (fun tt_ => XS.ifNo X1.here hx rfl (hb hby d12_4) rfl ((if0 _ _).trans (feq hb4_2).1)) ?_
  show own_go p e below s _ _ _ (T1.setTop (mkF m 7 #[.val (.ref x), .val (.int 2)] []))
  refine own_of (fun tt_ => XS.aloadN X1.here hx rfl (hb hby d12_7) rfl rfl) ?_
  obtain ⟨T3, X3, e3, st3⟩ := getF X1 hx hZ hown (host := "") (Or.inl (hW 21 _ rfl)) Via.refl eh1 F_v (g := (mkF m 8 #[.val (.ref x), .val (.int 2)] [(.ref x)])) rfl rfl (hb hby d12_8)
  refine own_of st3 ?_
  show own_go p e below s _ _ _ (T3.setTop (mkF m 11 #[.val (.ref x), .val (.int 2)] [(.ref t)]))
  refine own_of (fun tt_ => XS.iloadN X3.here hx rfl (hb hby d12_11) rfl) ?_
  show own_go p e below s _ _ _ (T3.setTop (mkF m 12 #[.val (.ref x), .val (.int 2)] [(.int 2), (.ref t)]))
  obtain ⟨_, _, ⟨T4, L4, k4, n4⟩, -, X4, ⟨Lc4, hQ4, l4, y4, z4⟩, st4⟩ := Jvm.LawKit.callS X3 hx (y := ym15) hown (mvT hZ (hW 67 _ rfl)) (mvT hZ (hW 68 _ rfl)) (mvT hZ (hW 69 _ rfl)) (mvT hZ (hW 70 _ rfl)) (by decide) (backOf (W := 0) (rmX7_3_2 l Z a0 hw [] t kb c0 c1 c2 fm h0 n0 XO0 S_f r_f V_t r0 r1 r2 l0 l1 l2) hZ (hW 70 _ rfl) (hW 69 _ rfl) (by decide) (by decide)) (g := (mkF m 12 #[.val (.ref x), .val (.int 2)] [(.int 2), (.ref t)])) rfl (by rw [hml]; rfl) (argsL := [(.ref t), (.int 2)]) (rest := []) (lenOf pd_5 rfl) rfl (by show 2 * 0 + _ ≤ _; exact Nat.le_of_eq rfl) (hb hby d12_12) (fun _ _ => ⟨rfl, e3, (by decide : 0 + 0 ≤ _), (by decide : 0 + 0 ≤ _)⟩)
  dsimp only [Pt.U, Pt.locs, Pt.cells, Pt.slots] at X4 l4 y4 z4 st4 hQ4
  subst l4 y4 z4
  obtain ⟨rfl, Nq4, eh4⟩ := hQ4
  have N4 := Fr.app N1 Nq4
  refine own_of st4 ?_
  show own_go p e below s _ _ _ (T4.setTop (mkF m 15 #[.val (.ref x), .val (.int 2)] [(.int c2)]))
  refine own_ret X4 hx hlk hret (StrChars.narrow_ch r2.1 r2.2) (Or.inl ⟨rfl, by simp, _, rfl⟩) (hb hby d12_15) (by decide) (by decide) ?_
  rw [eh4]
  exact ⟨rfl, N4, rfl⟩
theorem ef_rmA_3_2_1 (m : MethodId) (x0 : Nat) (x1 : Int32) : entryFrame m #[(.ref x0), (.int x1)] 2 = mkF m 0 #[.val (.ref x0), .val (.int x1)] [] := by first | (simp [entryFrame, mkF, argsToLocals, Value.category]; done) | rfl
set_option maxRecDepth 65536 in
set_option maxHeartbeats 40000000 in
theorem rmA_3_2_1 (l : Launch) (Z : State) (a0 : Array Value) (hw : own_H Z a0) (ws : List Jvm.Cond) (x : Nat) (t : Nat) (kb : ClassId) (c0 : Int32) (c1 : Int32) (c2 : Int32) (Gc : Int32) (fm : Value) (h0 : Heap) (n0 : Nat) (XO0 : Old Z n0 h0) (S_ad : Sta Z Z.heap "java/lang/StringUTF16" "$assertionsDisabled" "Z" (.int 1)) (S_hi : Sta Z Z.heap "java/lang/StringUTF16" "HI_BYTE_SHIFT" "I" (.int 0)) (S_lo : Sta Z Z.heap "java/lang/StringUTF16" "LO_BYTE_SHIFT" "I" (.int 8)) (Oc : Sta Z Z.heap "java/lang/String" "COMPACT_STRINGS" "Z" (.int Gc)) (Pc : ¬ (Gc = (0 : Int32))) (S_f : Sta Z Z.heap "jdk/internal/util/Preconditions" "SIOOBE_FORMATTER" "Ljava/util/function/BiFunction;" fm) (r_f : fm.isRef = true) (E_x : Exa Z h0 x "java/lang/String") (F_v : Fld Z h0 x "java/lang/String" "value" "[B" (.ref t)) (F_c : Fld Z h0 x "java/lang/String" "coder" "B" (.int 1)) (V_t : Arv Z h0 t kb .byte (6 : Int32) [(.int (StrChars.lo8 c0)), (.int (StrChars.hi8 c0)), (.int (StrChars.lo8 c1)), (.int (StrChars.hi8 c1)), (.int (StrChars.lo8 c2)), (.int (StrChars.hi8 c2))] (.int 0)) (r0 : own_c16 c0) (r1 : own_c16 c1) (r2 : own_c16 c2) :
    own_M l Z ym0 jdk_42_method_56_code ws 2 (some .char) (own_R 4 0 0 53) #[(.ref x), (.int 2)] h0 (own_qv c2 h0 n0) := by
  refine own_open (plainFor_of_name pn_1) ?_
  intro p e s m below meth c s₁ hx hby hlk hret hml hown hnm hZ X0 e0
  have hW := own_hW hw
  have N0 := Fr.nil n0
  refine own_of (fun tt_ kk_ => castTop (ef_rmA_3_2_1 m x (2 : Int32)) kk_) ?_
  show own_go p e below s _ _ _ (s₁.setTop (mkF m 0 #[.val (.ref x), .val (.int 2)] []))
  refine own_of (fun tt_ => XS.aloadN X0.here hx rfl (hb hby d12_0) rfl rfl) ?_
  show own_go p e below s _ _ _ (s₁.setTop (mkF m 1 #[.val (.ref x), .val (.int 2)] [(.ref x)]))
  obtain ⟨cq1, kq1, q1a, q1b, q1c⟩ := isOf hZ e0 E_x
  obtain ⟨_, _, ⟨T1, L1, k1, n1⟩, -, X1, ⟨Lc1, hQ1, l1, y1, z1⟩, st1⟩ := X0.virtualBack hx (y := ym2) (z := ym2) hown (mvT hZ (hW 62 _ rfl)) (mvT hZ (hW 63 _ rfl)) (notFace_of_selects (args := #[]) (mvT hZ (hW 65 _ rfl))) (mvT hZ (hW 65 _ rfl)) (mvT hZ (hW 64 _ rfl)) (by decide) (backOf (W := 0) (rmY_1 l Z a0 hw [] x Gc h0 n0 XO0 Oc Pc F_c) hZ (hW 66 _ rfl) (hW 3 _ rfl) (by decide) (by decide)) q1a q1c (g := (mkF m 1 #[.val (.ref x), .val (.int 2)] [(.ref x)])) rfl (by rw [hml]; rfl) (Steps.refl _) (argsL := []) (rest := []) (lenOf pd_12 rfl) rfl (by show 2 * 0 + _ ≤ _; exact Nat.le_of_eq rfl) (hb hby d12_1) (fun _ _ => ⟨rfl, e0, (by decide : 0 + 0 ≤ _), (by decide : 0 + 0 ≤ _)⟩)
  dsimp only [Pt.U, Pt.locs, Pt.cells, Pt.slots] at X1 l1 y1 z1 st1 hQ1
  subst l1 y1 z1
  obtain ⟨rfl, Nq1, eh1⟩ := hQ1
  have N1 := Fr.app N0 Nq1
  refine own_of (fun tt_ kk_ => st1.trans kk_) ?_
  show own_go p e below s _ _ _ (T1.setTop (mkF m 4 #[.val (.ref x), .val (.int 2)] [(.int 0)]))
  have hb4_2 : (0 : Int32) = (0 : Int32) := by decide
  refine own_of (fun tt_ => XS.ifYes X1.here hx rfl (pc0 := 4) (pc' := 16) rfl (hb hby d12_4) rfl ((if0 _ _).trans (teq hb4_2).1) (by decide) (by decide)) ?_
  show own_go p e below s _ _ _ (T1.setTop (mkF m 16 #[.val (.ref x), .val (.int 2)] []))
  refine own_of (fun tt_ => XS.aloadN X1.here hx rfl (hb hby d12_16) rfl rfl) ?_
  obtain ⟨T3, X3, e3, st3⟩ := getF X1 hx hZ hown (host := "") (Or.inl (hW 21 _ rfl)) Via.refl eh1 F_v (g := (mkF m 17 #[.val (.ref x), .val (.int 2)] [(.ref x)])) rfl rfl (hb hby d12_17)
  refine own_of st3 ?_
  show own_go p e below s _ _ _ (T3.setTop (mkF m 20 #[.val (.ref x), .val (.int 2)] [(.ref t)]))
  refine own_of (fun tt_ => XS.iloadN X3.here hx rfl (hb hby d12_20) rfl) ?_
  show own_go p e below s _ _ _ (T3.setTop (mkF m 21 #[.val (.ref x), .val (.int 2)] [(.int 2), (.ref t)]))
  obtain ⟨_, _, ⟨T4, L4, k4, n4⟩, -, X4, ⟨Lc4, hQ4, l4, y4, z4⟩, st4⟩ := Jvm.LawKit.callS X3 hx (y := ym14) hown (mvT hZ (hW 98 _ rfl)) (mvT hZ (hW 99 _ rfl)) (mvT hZ (hW 35 _ rfl)) (mvT hZ (hW 100 _ rfl)) (by decide) (backOf (W := 0) (rmX5_3_2 l Z a0 hw [] t kb c0 c1 c2 fm h0 n0 XO0 S_ad S_hi S_lo S_f r_f V_t r0 r1 r2) hZ (hW 100 _ rfl) (hW 35 _ rfl) (by decide) (by decide)) (g := (mkF m 21 #[.val (.ref x), .val (.int 2)] [(.int 2), (.ref t)])) rfl (by rw [hml]; rfl) (argsL := [(.ref t), (.int 2)]) (rest := []) (lenOf pd_5 rfl) rfl (by show 2 * 0 + _ ≤ _; exact Nat.le_of_eq rfl) (hb hby d12_21) (fun _ _ => ⟨rfl, e3, (by decide : 0 + 0 ≤ _), (by decide : 0 + 0 ≤ _)⟩)
  dsimp only [Pt.U, Pt.locs, Pt.cells, Pt.slots] at X4 l4 y4 z4 st4 hQ4
  subst l4 y4 z4
  obtain ⟨rfl, Nq4, eh4⟩ := hQ4
  have N4 := Fr.app N1 Nq4
  refine own_of st4 ?_
  show own_go p e below s _ _ _ (T4.setTop (mkF m 24 #[.val (.ref x), .val (.int 2)] [(.int c2)]))
  refine own_ret X4 hx hlk hret (StrChars.narrow_ch r2.1 r2.2) (Or.inl ⟨rfl, by simp, _, rfl⟩) (hb hby d12_24) (by decide) (by decide) ?_
  rw [eh4]
  exact ⟨rfl, N4, rfl⟩
theorem rmA_3_2 (l : Launch) (Z : State) (a0 : Array Value) (hw : own_H Z a0) (ws : List Jvm.Cond) (x : Nat) (t : Nat) (kb : ClassId) (c0 : Int32) (c1 : Int32) (c2 : Int32) (Gc : Int32) (fm : Value) (h0 : Heap) (n0 : Nat) (XO0 : Old Z n0 h0) (S_ad : Sta Z Z.heap "java/lang/StringUTF16" "$assertionsDisabled" "Z" (.int 1)) (S_hi : Sta Z Z.heap "java/lang/StringUTF16" "HI_BYTE_SHIFT" "I" (.int 0)) (S_lo : Sta Z Z.heap "java/lang/StringUTF16" "LO_BYTE_SHIFT" "I" (.int 8)) (Oc : Sta Z Z.heap "java/lang/String" "COMPACT_STRINGS" "Z" (.int Gc)) (Pc : ¬ (Gc = (0 : Int32))) (S_f : Sta Z Z.heap "jdk/internal/util/Preconditions" "SIOOBE_FORMATTER" "Ljava/util/function/BiFunction;" fm) (r_f : fm.isRef = true) (E_x : Exa Z h0 x "java/lang/String") (F_v : Fld Z h0 x "java/lang/String" "value" "[B" (.ref t)) (TX : (Fld Z h0 x "java/lang/String" "coder" "B" (.int 0) ∧ Arv Z h0 t kb .byte (3 : Int32) [(.int (StrChars.lo8 c0)), (.int (StrChars.lo8 c1)), (.int (StrChars.lo8 c2))] (.int 0) ∧ ¬ (255 : Int32) < c0 ∧ ¬ (255 : Int32) < c1 ∧ ¬ (255 : Int32) < c2) ∨ (Fld Z h0 x "java/lang/String" "coder" "B" (.int 1) ∧ Arv Z h0 t kb .byte (6 : Int32) [(.int (StrChars.lo8 c0)), (.int (StrChars.hi8 c0)), (.int (StrChars.lo8 c1)), (.int (StrChars.hi8 c1)), (.int (StrChars.lo8 c2)), (.int (StrChars.hi8 c2))] (.int 0))) (r0 : own_c16 c0) (r1 : own_c16 c1) (r2 : own_c16 c2) :
    own_M l Z ym0 jdk_42_method_56_code ws 2 (some .char) (own_R 4 0 0 53) #[(.ref x), (.int 2)] h0 (own_qv c2 h0 n0) := by
  rcases TX with ⟨F_c, V_t, l0, l1, l2⟩ | ⟨F_c, V_t⟩
  · exact rmA_3_2_0 l Z a0 hw ws x t kb c0 c1 c2 Gc fm h0 n0 XO0 S_ad S_hi S_lo Oc Pc S_f r_f E_x F_v F_c V_t r0 r1 r2 l0 l1 l2
  · exact rmA_3_2_1 l Z a0 hw ws x t kb c0 c1 c2 Gc fm h0 n0 XO0 S_ad S_hi S_lo Oc Pc S_f r_f E_x F_v F_c V_t r0 r1 r2
theorem ef_rmZ_3 (m : MethodId) (x0 : Nat) : entryFrame m #[(.ref x0)] 3 = mkF m 0 #[.val (.ref x0), .unset, .unset] [] := by first | (simp [entryFrame, mkF, argsToLocals, Value.category]; done) | rfl
def Q_rmZ_3 (Z : State) (x : Nat) (t : Nat) (kb : ClassId) (c0 : Int32) (c1 : Int32) (c2 : Int32) (Gc : Int32) (fm : Value) (h0 : Heap) (n0 : Nat) (v : Option Value) (h : Heap) (L : List Loc) : Prop := v = some (.int (own_okn [c0, c1, c2])) ∧ Fr n0 L ∧ h = h0
set_option maxRecDepth 65536 in
set_option maxHeartbeats 40000000 in
theorem rmZ_3 (l : Launch) (Z : State) (a0 : Array Value) (hw : own_H Z a0) (ws : List Jvm.Cond) (x : Nat) (t : Nat) (kb : ClassId) (c0 : Int32) (c1 : Int32) (c2 : Int32) (Gc : Int32) (fm : Value) (h0 : Heap) (n0 : Nat) (XO0 : Old Z n0 h0) (S_ad : Sta Z Z.heap "java/lang/StringUTF16" "$assertionsDisabled" "Z" (.int 1)) (S_hi : Sta Z Z.heap "java/lang/StringUTF16" "HI_BYTE_SHIFT" "I" (.int 0)) (S_lo : Sta Z Z.heap "java/lang/StringUTF16" "LO_BYTE_SHIFT" "I" (.int 8)) (Oc : Sta Z Z.heap "java/lang/String" "COMPACT_STRINGS" "Z" (.int Gc)) (Pc : ¬ (Gc = (0 : Int32))) (S_f : Sta Z Z.heap "jdk/internal/util/Preconditions" "SIOOBE_FORMATTER" "Ljava/util/function/BiFunction;" fm) (r_f : fm.isRef = true) (E_x : Exa Z h0 x "java/lang/String") (F_v : Fld Z h0 x "java/lang/String" "value" "[B" (.ref t)) (TX : (Fld Z h0 x "java/lang/String" "coder" "B" (.int 0) ∧ Arv Z h0 t kb .byte (3 : Int32) [(.int (StrChars.lo8 c0)), (.int (StrChars.lo8 c1)), (.int (StrChars.lo8 c2))] (.int 0) ∧ ¬ (255 : Int32) < c0 ∧ ¬ (255 : Int32) < c1 ∧ ¬ (255 : Int32) < c2) ∨ (Fld Z h0 x "java/lang/String" "coder" "B" (.int 1) ∧ Arv Z h0 t kb .byte (6 : Int32) [(.int (StrChars.lo8 c0)), (.int (StrChars.hi8 c0)), (.int (StrChars.lo8 c1)), (.int (StrChars.hi8 c1)), (.int (StrChars.lo8 c2)), (.int (StrChars.hi8 c2))] (.int 0))) (r0 : own_c16 c0) (r1 : own_c16 c1) (r2 : own_c16 c2) :
    own_M l Z ym3 prog_43_method_2_code ws 3 (some .boolean) (own_R 5 0 0 66) #[(.ref x)] h0 (Q_rmZ_3 Z x t kb c0 c1 c2 Gc fm h0 n0) := by
  refine own_open (plainFor_of_name pn_4) ?_
  intro p e s m below meth c s₁ hx hby hlk hret hml hown hnm hZ X0 e0
  have hW := own_hW hw
  have N0 := Fr.nil n0
  refine own_of (fun tt_ kk_ => castTop (ef_rmZ_3 m x) kk_) ?_
  show own_go p e below s _ _ _ (s₁.setTop (mkF m 0 #[.val (.ref x), .unset, .unset] []))
  refine own_of (fun tt_ => XS.aloadN X0.here hx rfl (hb hby d4_0) rfl rfl) ?_
  show own_go p e below s _ _ _ (s₁.setTop (mkF m 1 #[.val (.ref x), .unset, .unset] [(.ref x)]))
  obtain ⟨cq1, kq1, q1a, q1b, q1c⟩ := isOf hZ e0 E_x
  obtain ⟨_, _, ⟨T1, L1, k1, n1⟩, -, X1, ⟨Lc1, hQ1, l1, y1, z1⟩, st1⟩ := X0.virtualBack hx (y := ym5) (z := ym5) hown (mvT hZ (hW 27 _ rfl)) (mvT hZ (hW 28 _ rfl)) (notFace_of_selects (args := #[]) (mvT hZ (hW 30 _ rfl))) (mvT hZ (hW 30 _ rfl)) (mvT hZ (hW 29 _ rfl)) (by decide) (backOf (W := 0) (rmI_3 l Z a0 hw [] x t kb c0 c1 c2 h0 n0 XO0 E_x F_v TX) hZ (hW 31 _ rfl) (hW 3 _ rfl) (by decide) (by decide)) q1a q1c (g := (mkF m 1 #[.val (.ref x), .unset, .unset] [(.ref x)])) rfl (by rw [hml]; rfl) (Steps.refl _) (argsL := []) (rest := []) (lenOf pd_12 rfl) rfl (by show 2 * 0 + _ ≤ _; exact Nat.le_of_eq rfl) (hb hby d4_1) (fun _ _ => ⟨rfl, e0, (by decide : 0 + 0 ≤ _), (by decide : 0 + 0 ≤ _)⟩)
  dsimp only [Pt.U, Pt.locs, Pt.cells, Pt.slots] at X1 l1 y1 z1 st1 hQ1
  subst l1 y1 z1
  obtain ⟨rfl, Nq1, eh1⟩ := hQ1
  have N1 := Fr.app N0 Nq1
  refine own_of (fun tt_ kk_ => st1.trans kk_) ?_
  show own_go p e below s _ _ _ (T1.setTop (mkF m 4 #[.val (.ref x), .unset, .unset] [(.int 0)]))
  have hb4_2 : (0 : Int32) = (0 : Int32) := by decide
  refine own_of (fun tt_ => XS.ifYes X1.here hx rfl (pc0 := 4) (pc' := 9) rfl (hb hby d4_4) rfl ((if0 _ _).trans (teq hb4_2).1) (by decide) (by decide)) ?_
  show own_go p e below s _ _ _ (T1.setTop (mkF m 9 #[.val (.ref x), .unset, .unset] []))
  refine own_of (fun tt_ => XS.iconst X1.here hx rfl (hb hby d4_9)) ?_
  refine own_of (fun tt_ => XS.istoreN X1.here hx rfl (hb hby d4_10) rfl (l' := #[.val (.ref x), .val (.int 0), .unset]) rfl) ?_
  refine own_of (fun tt_ => XS.iloadN X1.here hx rfl (hb hby d4_11) rfl) ?_
  refine own_of (fun tt_ => XS.aloadN X1.here hx rfl (hb hby d4_12) rfl rfl) ?_
  show own_go p e below s _ _ _ (T1.setTop (mkF m 13 #[.val (.ref x), .val (.int 0), .unset] [(.ref x), (.int 0)]))
  obtain ⟨cq3, kq3, q3a, q3b, q3c⟩ := isOf hZ eh1 E_x
  obtain ⟨_, _, ⟨T3, L3, k3, n3⟩, -, X3, ⟨Lc3, hQ3, l3, y3, z3⟩, st3⟩ := X1.virtualBack hx (y := ym1) (z := ym1) hown (mvT hZ (hW 47 _ rfl)) (mvT hZ (hW 48 _ rfl)) (notFace_of_selects (args := #[]) (mvT hZ (hW 50 _ rfl))) (mvT hZ (hW 50 _ rfl)) (mvT hZ (hW 49 _ rfl)) (by decide) (backOf (W := 1) (rmN_3 l Z a0 hw [] x t kb c0 c1 c2 Gc h0 n0 XO0 Oc Pc E_x F_v TX) hZ (hW 51 _ rfl) (hW 3 _ rfl) (by decide) (by decide)) q3a q3c (g := (mkF m 13 #[.val (.ref x), .val (.int 0), .unset] [(.ref x), (.int 0)])) rfl (by rw [hml]; rfl) (Steps.refl _) (argsL := []) (rest := [(.int 0)]) (lenOf pd_14 rfl) rfl (by show 2 * 0 + _ ≤ _; exact Nat.le_of_eq rfl) (hb hby d4_13) (fun _ _ => ⟨rfl, eh1, (by decide : 0 + 0 ≤ _), (by decide : 0 + 0 ≤ _)⟩)
  dsimp only [Pt.U, Pt.locs, Pt.cells, Pt.slots] at X3 l3 y3 z3 st3 hQ3
  subst l3 y3 z3
  obtain ⟨rfl, Nq3, eh3⟩ := hQ3
  have N3 := Fr.app N1 Nq3
  refine own_of (fun tt_ kk_ => st3.trans kk_) ?_
  show own_go p e below s _ _ _ (T3.setTop (mkF m 16 #[.val (.ref x), .val (.int 0), .unset] [(.int 3), (.int 0)]))
  have hb16_4 : (0 : Int32) < (3 : Int32) := by decide
  refine own_of (fun tt_ => XS.icmpNo X3.here hx rfl (hb hby d4_16) rfl (tlt hb16_4).2.1) ?_
  show own_go p e below s _ _ _ (T3.setTop (mkF m 19 #[.val (.ref x), .val (.int 0), .unset] []))
  refine own_of (fun tt_ => XS.aloadN X3.here hx rfl (hb hby d4_19) rfl rfl) ?_
  refine own_of (fun tt_ => XS.iloadN X3.here hx rfl (hb hby d4_20) rfl) ?_
  show own_go p e below s _ _ _ (T3.setTop (mkF m 21 #[.val (.ref x), .val (.int 0), .unset] [(.int 0), (.ref x)]))
  obtain ⟨cq5, kq5, q5a, q5b, q5c⟩ := isOf hZ eh3 E_x
  obtain ⟨_, _, ⟨T5, L5, k5, n5⟩, -, X5, ⟨Lc5, hQ5, l5, y5, z5⟩, st5⟩ := X3.virtualBack hx (y := ym0) (z := ym0) hown (mvT hZ (hW 57 _ rfl)) (mvT hZ (hW 58 _ rfl)) (notFace_of_selects (args := #[]) (mvT hZ (hW 60 _ rfl))) (mvT hZ (hW 60 _ rfl)) (mvT hZ (hW 59 _ rfl)) (by decide) (backOf (W := 0) (rmA_3_0 l Z a0 hw [] x t kb c0 c1 c2 Gc fm h0 n0 XO0 S_ad S_hi S_lo Oc Pc S_f r_f E_x F_v TX r0 r1 r2) hZ (hW 61 _ rfl) (hW 3 _ rfl) (by decide) (by decide)) q5a q5c (g := (mkF m 21 #[.val (.ref x), .val (.int 0), .unset] [(.int 0), (.ref x)])) rfl (by rw [hml]; rfl) (Steps.refl _) (argsL := [(.int 0)]) (rest := []) (lenOf pd_15 rfl) rfl (by show 2 * 0 + _ ≤ _; exact Nat.le_of_eq rfl) (hb hby d4_21) (fun _ _ => ⟨rfl, eh3, (by decide : 0 + 0 ≤ _), (by decide : 0 + 0 ≤ _)⟩)
  dsimp only [Pt.U, Pt.locs, Pt.cells, Pt.slots] at X5 l5 y5 z5 st5 hQ5
  subst l5 y5 z5
  obtain ⟨rfl, Nq5, eh5⟩ := hQ5
  have N5 := Fr.app N3 Nq5
  refine own_of (fun tt_ kk_ => st5.trans kk_) ?_
  show own_go p e below s _ _ _ (T5.setTop (mkF m 24 #[.val (.ref x), .val (.int 0), .unset] [(.int c0)]))
  refine own_of (fun tt_ => XS.istoreN X5.here hx rfl (hb hby d4_24) rfl (l' := #[.val (.ref x), .val (.int 0), .val (.int c0)]) rfl) ?_
  refine own_of (fun tt_ => XS.iloadN X5.here hx rfl (hb hby d4_25) rfl) ?_
  refine own_of (fun tt_ => XS.bipush X5.here hx rfl (hb hby d4_26)) ?_
  by_cases hb28_6 : c0 < (33 : Int32)
  · refine own_of (fun tt_ => XS.icmpYes X5.here hx rfl (pc0 := 28) (pc' := 49) rfl (hb hby d4_28) rfl (tlt hb28_6).1 (by decide) (by decide)) ?_
    show own_go p e below s _ _ _ (T5.setTop (mkF m 49 #[.val (.ref x), .val (.int 0), .val (.int c0)] []))
    refine own_of (fun tt_ => XS.iconst X5.here hx rfl (hb hby d4_49)) ?_
    show own_go p e below s _ _ _ (T5.setTop (mkF m 50 #[.val (.ref x), .val (.int 0), .val (.int c0)] [(.int 0)]))
    refine own_ret X5 hx hlk hret rfl (Or.inl ⟨rfl, by simp, _, rfl⟩) (hb hby d4_50) (by decide) (by decide) ?_
    rw [eh5]
    have fin : own_okn [c0, c1, c2] = 0 := own_okn0 (z := c0) (by simp) (own_okb (by first | exact Or.inl hb28_6))
    exact ⟨by rw [fin], N5, rfl⟩
  · refine own_of (fun tt_ => XS.icmpNo X5.here hx rfl (hb hby d4_28) rfl (flt hb28_6).1) ?_
    show own_go p e below s _ _ _ (T5.setTop (mkF m 31 #[.val (.ref x), .val (.int 0), .val (.int c0)] []))
    refine own_of (fun tt_ => XS.iloadN X5.here hx rfl (hb hby d4_31) rfl) ?_
    refine own_of (fun tt_ => XS.bipush X5.here hx rfl (hb hby d4_32)) ?_
    by_cases hb34_7 : (126 : Int32) < c0
    · refine own_of (fun tt_ => XS.icmpYes X5.here hx rfl (pc0 := 34) (pc' := 49) rfl (hb hby d4_34) rfl (tlt hb34_7).2.2.1 (by decide) (by decide)) ?_
      show own_go p e below s _ _ _ (T5.setTop (mkF m 49 #[.val (.ref x), .val (.int 0), .val (.int c0)] []))
      refine own_of (fun tt_ => XS.iconst X5.here hx rfl (hb hby d4_49)) ?_
      show own_go p e below s _ _ _ (T5.setTop (mkF m 50 #[.val (.ref x), .val (.int 0), .val (.int c0)] [(.int 0)]))
      refine own_ret X5 hx hlk hret rfl (Or.inl ⟨rfl, by simp, _, rfl⟩) (hb hby d4_50) (by decide) (by decide) ?_
      rw [eh5]
      have fin : own_okn [c0, c1, c2] = 0 := own_okn0 (z := c0) (by simp) (own_okb (by first | exact Or.inl hb28_6 | exact Or.inr (Or.inl hb34_7)))
      exact ⟨by rw [fin], N5, rfl⟩
    · refine own_of (fun tt_ => XS.icmpNo X5.here hx rfl (hb hby d4_34) rfl (flt hb34_7).2.2.1) ?_
      show own_go p e below s _ _ _ (T5.setTop (mkF m 37 #[.val (.ref x), .val (.int 0), .val (.int c0)] []))
      refine own_of (fun tt_ => XS.iloadN X5.here hx rfl (hb hby d4_37) rfl) ?_
      refine own_of (fun tt_ => XS.bipush X5.here hx rfl (hb hby d4_38)) ?_
      by_cases hb40_8 : c0 = (34 : Int32)
      · refine own_of (fun tt_ => XS.icmpYes X5.here hx rfl (pc0 := 40) (pc' := 49) rfl (hb hby d4_40) rfl (teq hb40_8).1 (by decide) (by decide)) ?_
        show own_go p e below s _ _ _ (T5.setTop (mkF m 49 #[.val (.ref x), .val (.int 0), .val (.int c0)] []))
        refine own_of (fun tt_ => XS.iconst X5.here hx rfl (hb hby d4_49)) ?_
        show own_go p e below s _ _ _ (T5.setTop (mkF m 50 #[.val (.ref x), .val (.int 0), .val (.int c0)] [(.int 0)]))
        refine own_ret X5 hx hlk hret rfl (Or.inl ⟨rfl, by simp, _, rfl⟩) (hb hby d4_50) (by decide) (by decide) ?_
        rw [eh5]
        have fin : own_okn [c0, c1, c2] = 0 := own_okn0 (z := c0) (by simp) (own_okb (by first | exact Or.inl hb28_6 | exact Or.inr (Or.inl hb34_7) | exact Or.inr (Or.inr (Or.inl hb40_8))))
        exact ⟨by rw [fin], N5, rfl⟩
      · refine own_of (fun tt_ => XS.icmpNo X5.here hx rfl (hb hby d4_40) rfl (feq hb40_8).1) ?_
        show own_go p e below s _ _ _ (T5.setTop (mkF m 43 #[.val (.ref x), .val (.int 0), .val (.int c0)] []))
        refine own_of (fun tt_ => XS.iloadN X5.here hx rfl (hb hby d4_43) rfl) ?_
        show own_go p e below s _ _ _ (T5.setTop (mkF m 44 #[.val (.ref x), .val (.int 0), .val (.int c0)] [(.int c0)]))
        refine own_of (fun tt_ => XS.bipush X5.here hx rfl (hb hby d4_44)) ?_
        by_cases hb46_9 : c0 = (92 : Int32)
        · refine own_of (fun tt_ => XS.icmpNo X5.here hx rfl (hb hby d4_46) rfl (teq hb46_9).2) ?_
          show own_go p e below s _ _ _ (T5.setTop (mkF m 49 #[.val (.ref x), .val (.int 0), .val (.int c0)] []))
          refine own_of (fun tt_ => XS.iconst X5.here hx rfl (hb hby d4_49)) ?_
          show own_go p e below s _ _ _ (T5.setTop (mkF m 50 #[.val (.ref x), .val (.int 0), .val (.int c0)] [(.int 0)]))
          refine own_ret X5 hx hlk hret rfl (Or.inl ⟨rfl, by simp, _, rfl⟩) (hb hby d4_50) (by decide) (by decide) ?_
          rw [eh5]
          have fin : own_okn [c0, c1, c2] = 0 := own_okn0 (z := c0) (by simp) (own_okb (by first | exact Or.inl hb28_6 | exact Or.inr (Or.inl hb34_7) | exact Or.inr (Or.inr (Or.inl hb40_8)) | exact Or.inr (Or.inr (Or.inr hb46_9))))
          exact ⟨by rw [fin], N5, rfl⟩
        · refine own_of (fun tt_ => XS.icmpYes X5.here hx rfl (pc0 := 46) (pc' := 51) rfl (hb hby d4_46) rfl (feq hb46_9).2 (by decide) (by decide)) ?_
          show own_go p e below s _ _ _ (T5.setTop (mkF m 51 #[.val (.ref x), .val (.int 0), .val (.int c0)] []))
          have gd_c0 := own_okg hb28_6 hb34_7 hb40_8 hb46_9
          refine own_of (fun tt_ => XS.iinc X5.here hx rfl (hb hby d4_51) rfl (l' := #[.val (.ref x), .val (.int 1), .val (.int c0)]) rfl) ?_
          refine own_of (fun tt_ => XS.goto X5.here hx rfl (pc0 := 54) (pc' := 11) rfl (hb hby d4_54) (by decide) (by decide)) ?_
          refine own_of (fun tt_ => XS.iloadN X5.here hx rfl (hb hby d4_11) rfl) ?_
          refine own_of (fun tt_ => XS.aloadN X5.here hx rfl (hb hby d4_12) rfl rfl) ?_
          show own_go p e below s _ _ _ (T5.setTop (mkF m 13 #[.val (.ref x), .val (.int 1), .val (.int c0)] [(.ref x), (.int 1)]))
          obtain ⟨cq10, kq10, q10a, q10b, q10c⟩ := isOf hZ eh5 E_x
          obtain ⟨_, _, ⟨T10, L10, k10, n10⟩, -, X10, ⟨Lc10, hQ10, l10, y10, z10⟩, st10⟩ := X5.virtualBack hx (y := ym1) (z := ym1) hown (mvT hZ (hW 47 _ rfl)) (mvT hZ (hW 48 _ rfl)) (notFace_of_selects (args := #[]) (mvT hZ (hW 50 _ rfl))) (mvT hZ (hW 50 _ rfl)) (mvT hZ (hW 49 _ rfl)) (by decide) (backOf (W := 1) (rmN_3 l Z a0 hw [] x t kb c0 c1 c2 Gc h0 n0 XO0 Oc Pc E_x F_v TX) hZ (hW 51 _ rfl) (hW 3 _ rfl) (by decide) (by decide)) q10a q10c (g := (mkF m 13 #[.val (.ref x), .val (.int 1), .val (.int c0)] [(.ref x), (.int 1)])) rfl (by rw [hml]; rfl) (Steps.refl _) (argsL := []) (rest := [(.int 1)]) (lenOf pd_14 rfl) rfl (by show 2 * 0 + _ ≤ _; exact Nat.le_of_eq rfl) (hb hby d4_13) (fun _ _ => ⟨rfl, eh5, (by decide : 0 + 0 ≤ _), (by decide : 0 + 0 ≤ _)⟩)
          dsimp only [Pt.U, Pt.locs, Pt.cells, Pt.slots] at X10 l10 y10 z10 st10 hQ10
          subst l10 y10 z10
          obtain ⟨rfl, Nq10, eh10⟩ := hQ10
          have N10 := Fr.app N5 Nq10
          refine own_of (fun tt_ kk_ => st10.trans kk_) ?_
          show own_go p e below s _ _ _ (T10.setTop (mkF m 16 #[.val (.ref x), .val (.int 1), .val (.int c0)] [(.int 3), (.int 1)]))
          have hb16_11 : (1 : Int32) < (3 : Int32) := by decide
          refine own_of (fun tt_ => XS.icmpNo X10.here hx rfl (hb hby d4_16) rfl (tlt hb16_11).2.1) ?_
          show own_go p e below s _ _ _ (T10.setTop (mkF m 19 #[.val (.ref x), .val (.int 1), .val (.int c0)] []))
          refine own_of (fun tt_ => XS.aloadN X10.here hx rfl (hb hby d4_19) rfl rfl) ?_
          refine own_of (fun tt_ => XS.iloadN X10.here hx rfl (hb hby d4_20) rfl) ?_
          show own_go p e below s _ _ _ (T10.setTop (mkF m 21 #[.val (.ref x), .val (.int 1), .val (.int c0)] [(.int 1), (.ref x)]))
          obtain ⟨cq12, kq12, q12a, q12b, q12c⟩ := isOf hZ eh10 E_x
          obtain ⟨_, _, ⟨T12, L12, k12, n12⟩, -, X12, ⟨Lc12, hQ12, l12, y12, z12⟩, st12⟩ := X10.virtualBack hx (y := ym0) (z := ym0) hown (mvT hZ (hW 57 _ rfl)) (mvT hZ (hW 58 _ rfl)) (notFace_of_selects (args := #[]) (mvT hZ (hW 60 _ rfl))) (mvT hZ (hW 60 _ rfl)) (mvT hZ (hW 59 _ rfl)) (by decide) (backOf (W := 0) (rmA_3_1 l Z a0 hw [] x t kb c0 c1 c2 Gc fm h0 n0 XO0 S_ad S_hi S_lo Oc Pc S_f r_f E_x F_v TX r0 r1 r2) hZ (hW 61 _ rfl) (hW 3 _ rfl) (by decide) (by decide)) q12a q12c (g := (mkF m 21 #[.val (.ref x), .val (.int 1), .val (.int c0)] [(.int 1), (.ref x)])) rfl (by rw [hml]; rfl) (Steps.refl _) (argsL := [(.int 1)]) (rest := []) (lenOf pd_15 rfl) rfl (by show 2 * 0 + _ ≤ _; exact Nat.le_of_eq rfl) (hb hby d4_21) (fun _ _ => ⟨rfl, eh10, (by decide : 0 + 0 ≤ _), (by decide : 0 + 0 ≤ _)⟩)
          dsimp only [Pt.U, Pt.locs, Pt.cells, Pt.slots] at X12 l12 y12 z12 st12 hQ12
          subst l12 y12 z12
          obtain ⟨rfl, Nq12, eh12⟩ := hQ12
          have N12 := Fr.app N10 Nq12
          refine own_of (fun tt_ kk_ => st12.trans kk_) ?_
          show own_go p e below s _ _ _ (T12.setTop (mkF m 24 #[.val (.ref x), .val (.int 1), .val (.int c0)] [(.int c1)]))
          refine own_of (fun tt_ => XS.istoreN X12.here hx rfl (hb hby d4_24) rfl (l' := #[.val (.ref x), .val (.int 1), .val (.int c1)]) rfl) ?_
          refine own_of (fun tt_ => XS.iloadN X12.here hx rfl (hb hby d4_25) rfl) ?_
          refine own_of (fun tt_ => XS.bipush X12.here hx rfl (hb hby d4_26)) ?_
          by_cases hb28_13 : c1 < (33 : Int32)
          · refine own_of (fun tt_ => XS.icmpYes X12.here hx rfl (pc0 := 28) (pc' := 49) rfl (hb hby d4_28) rfl (tlt hb28_13).1 (by decide) (by decide)) ?_
            show own_go p e below s _ _ _ (T12.setTop (mkF m 49 #[.val (.ref x), .val (.int 1), .val (.int c1)] []))
            refine own_of (fun tt_ => XS.iconst X12.here hx rfl (hb hby d4_49)) ?_
            show own_go p e below s _ _ _ (T12.setTop (mkF m 50 #[.val (.ref x), .val (.int 1), .val (.int c1)] [(.int 0)]))
            refine own_ret X12 hx hlk hret rfl (Or.inl ⟨rfl, by simp, _, rfl⟩) (hb hby d4_50) (by decide) (by decide) ?_
            rw [eh12]
            have fin : own_okn [c0, c1, c2] = 0 := own_okn0 (z := c1) (by simp) (own_okb (by first | exact Or.inl hb28_13 | exact Or.inr (Or.inl hb34_7) | exact Or.inr (Or.inr (Or.inl hb40_8)) | exact Or.inr (Or.inr (Or.inr hb46_9))))
            exact ⟨by rw [fin], N12, rfl⟩
          · refine own_of (fun tt_ => XS.icmpNo X12.here hx rfl (hb hby d4_28) rfl (flt hb28_13).1) ?_
            show own_go p e below s _ _ _ (T12.setTop (mkF m 31 #[.val (.ref x), .val (.int 1), .val (.int c1)] []))
            refine own_of (fun tt_ => XS.iloadN X12.here hx rfl (hb hby d4_31) rfl) ?_
            refine own_of (fun tt_ => XS.bipush X12.here hx rfl (hb hby d4_32)) ?_
            by_cases hb34_14 : (126 : Int32) < c1
            · refine own_of (fun tt_ => XS.icmpYes X12.here hx rfl (pc0 := 34) (pc' := 49) rfl (hb hby d4_34) rfl (tlt hb34_14).2.2.1 (by decide) (by decide)) ?_
              show own_go p e below s _ _ _ (T12.setTop (mkF m 49 #[.val (.ref x), .val (.int 1), .val (.int c1)] []))
              refine own_of (fun tt_ => XS.iconst X12.here hx rfl (hb hby d4_49)) ?_
              show own_go p e below s _ _ _ (T12.setTop (mkF m 50 #[.val (.ref x), .val (.int 1), .val (.int c1)] [(.int 0)]))
              refine own_ret X12 hx hlk hret rfl (Or.inl ⟨rfl, by simp, _, rfl⟩) (hb hby d4_50) (by decide) (by decide) ?_
              rw [eh12]
              have fin : own_okn [c0, c1, c2] = 0 := own_okn0 (z := c1) (by simp) (own_okb (by first | exact Or.inl hb28_13 | exact Or.inr (Or.inl hb34_14) | exact Or.inr (Or.inr (Or.inl hb40_8)) | exact Or.inr (Or.inr (Or.inr hb46_9))))
              exact ⟨by rw [fin], N12, rfl⟩
            · refine own_of (fun tt_ => XS.icmpNo X12.here hx rfl (hb hby d4_34) rfl (flt hb34_14).2.2.1) ?_
              show own_go p e below s _ _ _ (T12.setTop (mkF m 37 #[.val (.ref x), .val (.int 1), .val (.int c1)] []))
              refine own_of (fun tt_ => XS.iloadN X12.here hx rfl (hb hby d4_37) rfl) ?_
              refine own_of (fun tt_ => XS.bipush X12.here hx rfl (hb hby d4_38)) ?_
              by_cases hb40_15 : c1 = (34 : Int32)
              · refine own_of (fun tt_ => XS.icmpYes X12.here hx rfl (pc0 := 40) (pc' := 49) rfl (hb hby d4_40) rfl (teq hb40_15).1 (by decide) (by decide)) ?_
                show own_go p e below s _ _ _ (T12.setTop (mkF m 49 #[.val (.ref x), .val (.int 1), .val (.int c1)] []))
                refine own_of (fun tt_ => XS.iconst X12.here hx rfl (hb hby d4_49)) ?_
                show own_go p e below s _ _ _ (T12.setTop (mkF m 50 #[.val (.ref x), .val (.int 1), .val (.int c1)] [(.int 0)]))
                refine own_ret X12 hx hlk hret rfl (Or.inl ⟨rfl, by simp, _, rfl⟩) (hb hby d4_50) (by decide) (by decide) ?_
                rw [eh12]
                have fin : own_okn [c0, c1, c2] = 0 := own_okn0 (z := c1) (by simp) (own_okb (by first | exact Or.inl hb28_13 | exact Or.inr (Or.inl hb34_14) | exact Or.inr (Or.inr (Or.inl hb40_15)) | exact Or.inr (Or.inr (Or.inr hb46_9))))
                exact ⟨by rw [fin], N12, rfl⟩
              · refine own_of (fun tt_ => XS.icmpNo X12.here hx rfl (hb hby d4_40) rfl (feq hb40_15).1) ?_
                show own_go p e below s _ _ _ (T12.setTop (mkF m 43 #[.val (.ref x), .val (.int 1), .val (.int c1)] []))
                refine own_of (fun tt_ => XS.iloadN X12.here hx rfl (hb hby d4_43) rfl) ?_
                show own_go p e below s _ _ _ (T12.setTop (mkF m 44 #[.val (.ref x), .val (.int 1), .val (.int c1)] [(.int c1)]))
                refine own_of (fun tt_ => XS.bipush X12.here hx rfl (hb hby d4_44)) ?_
                by_cases hb46_16 : c1 = (92 : Int32)
                · refine own_of (fun tt_ => XS.icmpNo X12.here hx rfl (hb hby d4_46) rfl (teq hb46_16).2) ?_
                  show own_go p e below s _ _ _ (T12.setTop (mkF m 49 #[.val (.ref x), .val (.int 1), .val (.int c1)] []))
                  refine own_of (fun tt_ => XS.iconst X12.here hx rfl (hb hby d4_49)) ?_
                  show own_go p e below s _ _ _ (T12.setTop (mkF m 50 #[.val (.ref x), .val (.int 1), .val (.int c1)] [(.int 0)]))
                  refine own_ret X12 hx hlk hret rfl (Or.inl ⟨rfl, by simp, _, rfl⟩) (hb hby d4_50) (by decide) (by decide) ?_
                  rw [eh12]
                  have fin : own_okn [c0, c1, c2] = 0 := own_okn0 (z := c1) (by simp) (own_okb (by first | exact Or.inl hb28_13 | exact Or.inr (Or.inl hb34_14) | exact Or.inr (Or.inr (Or.inl hb40_15)) | exact Or.inr (Or.inr (Or.inr hb46_16))))
                  exact ⟨by rw [fin], N12, rfl⟩
                · refine own_of (fun tt_ => XS.icmpYes X12.here hx rfl (pc0 := 46) (pc' := 51) rfl (hb hby d4_46) rfl (feq hb46_16).2 (by decide) (by decide)) ?_
                  show own_go p e below s _ _ _ (T12.setTop (mkF m 51 #[.val (.ref x), .val (.int 1), .val (.int c1)] []))
                  have gd_c1 := own_okg hb28_13 hb34_14 hb40_15 hb46_16
                  refine own_of (fun tt_ => XS.iinc X12.here hx rfl (hb hby d4_51) rfl (l' := #[.val (.ref x), .val (.int 2), .val (.int c1)]) rfl) ?_
                  refine own_of (fun tt_ => XS.goto X12.here hx rfl (pc0 := 54) (pc' := 11) rfl (hb hby d4_54) (by decide) (by decide)) ?_
                  refine own_of (fun tt_ => XS.iloadN X12.here hx rfl (hb hby d4_11) rfl) ?_
                  refine own_of (fun tt_ => XS.aloadN X12.here hx rfl (hb hby d4_12) rfl rfl) ?_
                  show own_go p e below s _ _ _ (T12.setTop (mkF m 13 #[.val (.ref x), .val (.int 2), .val (.int c1)] [(.ref x), (.int 2)]))
                  obtain ⟨cq17, kq17, q17a, q17b, q17c⟩ := isOf hZ eh12 E_x
                  obtain ⟨_, _, ⟨T17, L17, k17, n17⟩, -, X17, ⟨Lc17, hQ17, l17, y17, z17⟩, st17⟩ := X12.virtualBack hx (y := ym1) (z := ym1) hown (mvT hZ (hW 47 _ rfl)) (mvT hZ (hW 48 _ rfl)) (notFace_of_selects (args := #[]) (mvT hZ (hW 50 _ rfl))) (mvT hZ (hW 50 _ rfl)) (mvT hZ (hW 49 _ rfl)) (by decide) (backOf (W := 1) (rmN_3 l Z a0 hw [] x t kb c0 c1 c2 Gc h0 n0 XO0 Oc Pc E_x F_v TX) hZ (hW 51 _ rfl) (hW 3 _ rfl) (by decide) (by decide)) q17a q17c (g := (mkF m 13 #[.val (.ref x), .val (.int 2), .val (.int c1)] [(.ref x), (.int 2)])) rfl (by rw [hml]; rfl) (Steps.refl _) (argsL := []) (rest := [(.int 2)]) (lenOf pd_14 rfl) rfl (by show 2 * 0 + _ ≤ _; exact Nat.le_of_eq rfl) (hb hby d4_13) (fun _ _ => ⟨rfl, eh12, (by decide : 0 + 0 ≤ _), (by decide : 0 + 0 ≤ _)⟩)
                  dsimp only [Pt.U, Pt.locs, Pt.cells, Pt.slots] at X17 l17 y17 z17 st17 hQ17
                  subst l17 y17 z17
                  obtain ⟨rfl, Nq17, eh17⟩ := hQ17
                  have N17 := Fr.app N12 Nq17
                  refine own_of (fun tt_ kk_ => st17.trans kk_) ?_
                  show own_go p e below s _ _ _ (T17.setTop (mkF m 16 #[.val (.ref x), .val (.int 2), .val (.int c1)] [(.int 3), (.int 2)]))
                  have hb16_18 : (2 : Int32) < (3 : Int32) := by decide
                  refine own_of (fun tt_ => XS.icmpNo X17.here hx rfl (hb hby d4_16) rfl (tlt hb16_18).2.1) ?_
                  show own_go p e below s _ _ _ (T17.setTop (mkF m 19 #[.val (.ref x), .val (.int 2), .val (.int c1)] []))
                  refine own_of (fun tt_ => XS.aloadN X17.here hx rfl (hb hby d4_19) rfl rfl) ?_
                  refine own_of (fun tt_ => XS.iloadN X17.here hx rfl (hb hby d4_20) rfl) ?_
                  show own_go p e below s _ _ _ (T17.setTop (mkF m 21 #[.val (.ref x), .val (.int 2), .val (.int c1)] [(.int 2), (.ref x)]))
                  obtain ⟨cq19, kq19, q19a, q19b, q19c⟩ := isOf hZ eh17 E_x
                  obtain ⟨_, _, ⟨T19, L19, k19, n19⟩, -, X19, ⟨Lc19, hQ19, l19, y19, z19⟩, st19⟩ := X17.virtualBack hx (y := ym0) (z := ym0) hown (mvT hZ (hW 57 _ rfl)) (mvT hZ (hW 58 _ rfl)) (notFace_of_selects (args := #[]) (mvT hZ (hW 60 _ rfl))) (mvT hZ (hW 60 _ rfl)) (mvT hZ (hW 59 _ rfl)) (by decide) (backOf (W := 0) (rmA_3_2 l Z a0 hw [] x t kb c0 c1 c2 Gc fm h0 n0 XO0 S_ad S_hi S_lo Oc Pc S_f r_f E_x F_v TX r0 r1 r2) hZ (hW 61 _ rfl) (hW 3 _ rfl) (by decide) (by decide)) q19a q19c (g := (mkF m 21 #[.val (.ref x), .val (.int 2), .val (.int c1)] [(.int 2), (.ref x)])) rfl (by rw [hml]; rfl) (Steps.refl _) (argsL := [(.int 2)]) (rest := []) (lenOf pd_15 rfl) rfl (by show 2 * 0 + _ ≤ _; exact Nat.le_of_eq rfl) (hb hby d4_21) (fun _ _ => ⟨rfl, eh17, (by decide : 0 + 0 ≤ _), (by decide : 0 + 0 ≤ _)⟩)
                  dsimp only [Pt.U, Pt.locs, Pt.cells, Pt.slots] at X19 l19 y19 z19 st19 hQ19
                  subst l19 y19 z19
                  obtain ⟨rfl, Nq19, eh19⟩ := hQ19
                  have N19 := Fr.app N17 Nq19
                  refine own_of (fun tt_ kk_ => st19.trans kk_) ?_
                  show own_go p e below s _ _ _ (T19.setTop (mkF m 24 #[.val (.ref x), .val (.int 2), .val (.int c1)] [(.int c2)]))
                  refine own_of (fun tt_ => XS.istoreN X19.here hx rfl (hb hby d4_24) rfl (l' := #[.val (.ref x), .val (.int 2), .val (.int c2)]) rfl) ?_
                  refine own_of (fun tt_ => XS.iloadN X19.here hx rfl (hb hby d4_25) rfl) ?_
                  refine own_of (fun tt_ => XS.bipush X19.here hx rfl (hb hby d4_26)) ?_
                  by_cases hb28_20 : c2 < (33 : Int32)
                  · refine own_of (fun tt_ => XS.icmpYes X19.here hx rfl (pc0 := 28) (pc' := 49) rfl (hb hby d4_28) rfl (tlt hb28_20).1 (by decide) (by decide)) ?_
                    show own_go p e below s _ _ _ (T19.setTop (mkF m 49 #[.val (.ref x), .val (.int 2), .val (.int c2)] []))
                    refine own_of (fun tt_ => XS.iconst X19.here hx rfl (hb hby d4_49)) ?_
                    show own_go p e below s _ _ _ (T19.setTop (mkF m 50 #[.val (.ref x), .val (.int 2), .val (.int c2)] [(.int 0)]))
                    refine own_ret X19 hx hlk hret rfl (Or.inl ⟨rfl, by simp, _, rfl⟩) (hb hby d4_50) (by decide) (by decide) ?_
                    rw [eh19]
                    have fin : own_okn [c0, c1, c2] = 0 := own_okn0 (z := c2) (by simp) (own_okb (by first | exact Or.inl hb28_20 | exact Or.inr (Or.inl hb34_14) | exact Or.inr (Or.inr (Or.inl hb40_15)) | exact Or.inr (Or.inr (Or.inr hb46_16))))
                    exact ⟨by rw [fin], N19, rfl⟩
                  · refine own_of (fun tt_ => XS.icmpNo X19.here hx rfl (hb hby d4_28) rfl (flt hb28_20).1) ?_
                    show own_go p e below s _ _ _ (T19.setTop (mkF m 31 #[.val (.ref x), .val (.int 2), .val (.int c2)] []))
                    refine own_of (fun tt_ => XS.iloadN X19.here hx rfl (hb hby d4_31) rfl) ?_
                    refine own_of (fun tt_ => XS.bipush X19.here hx rfl (hb hby d4_32)) ?_
                    by_cases hb34_21 : (126 : Int32) < c2
                    · refine own_of (fun tt_ => XS.icmpYes X19.here hx rfl (pc0 := 34) (pc' := 49) rfl (hb hby d4_34) rfl (tlt hb34_21).2.2.1 (by decide) (by decide)) ?_
                      show own_go p e below s _ _ _ (T19.setTop (mkF m 49 #[.val (.ref x), .val (.int 2), .val (.int c2)] []))
                      refine own_of (fun tt_ => XS.iconst X19.here hx rfl (hb hby d4_49)) ?_
                      show own_go p e below s _ _ _ (T19.setTop (mkF m 50 #[.val (.ref x), .val (.int 2), .val (.int c2)] [(.int 0)]))
                      refine own_ret X19 hx hlk hret rfl (Or.inl ⟨rfl, by simp, _, rfl⟩) (hb hby d4_50) (by decide) (by decide) ?_
                      rw [eh19]
                      have fin : own_okn [c0, c1, c2] = 0 := own_okn0 (z := c2) (by simp) (own_okb (by first | exact Or.inl hb28_20 | exact Or.inr (Or.inl hb34_21) | exact Or.inr (Or.inr (Or.inl hb40_15)) | exact Or.inr (Or.inr (Or.inr hb46_16))))
                      exact ⟨by rw [fin], N19, rfl⟩
                    · refine own_of (fun tt_ => XS.icmpNo X19.here hx rfl (hb hby d4_34) rfl (flt hb34_21).2.2.1) ?_
                      show own_go p e below s _ _ _ (T19.setTop (mkF m 37 #[.val (.ref x), .val (.int 2), .val (.int c2)] []))
                      refine own_of (fun tt_ => XS.iloadN X19.here hx rfl (hb hby d4_37) rfl) ?_
                      refine own_of (fun tt_ => XS.bipush X19.here hx rfl (hb hby d4_38)) ?_
                      by_cases hb40_22 : c2 = (34 : Int32)
                      · refine own_of (fun tt_ => XS.icmpYes X19.here hx rfl (pc0 := 40) (pc' := 49) rfl (hb hby d4_40) rfl (teq hb40_22).1 (by decide) (by decide)) ?_
                        show own_go p e below s _ _ _ (T19.setTop (mkF m 49 #[.val (.ref x), .val (.int 2), .val (.int c2)] []))
                        refine own_of (fun tt_ => XS.iconst X19.here hx rfl (hb hby d4_49)) ?_
                        show own_go p e below s _ _ _ (T19.setTop (mkF m 50 #[.val (.ref x), .val (.int 2), .val (.int c2)] [(.int 0)]))
                        refine own_ret X19 hx hlk hret rfl (Or.inl ⟨rfl, by simp, _, rfl⟩) (hb hby d4_50) (by decide) (by decide) ?_
                        rw [eh19]
                        have fin : own_okn [c0, c1, c2] = 0 := own_okn0 (z := c2) (by simp) (own_okb (by first | exact Or.inl hb28_20 | exact Or.inr (Or.inl hb34_21) | exact Or.inr (Or.inr (Or.inl hb40_22)) | exact Or.inr (Or.inr (Or.inr hb46_16))))
                        exact ⟨by rw [fin], N19, rfl⟩
                      · refine own_of (fun tt_ => XS.icmpNo X19.here hx rfl (hb hby d4_40) rfl (feq hb40_22).1) ?_
                        show own_go p e below s _ _ _ (T19.setTop (mkF m 43 #[.val (.ref x), .val (.int 2), .val (.int c2)] []))
                        refine own_of (fun tt_ => XS.iloadN X19.here hx rfl (hb hby d4_43) rfl) ?_
                        show own_go p e below s _ _ _ (T19.setTop (mkF m 44 #[.val (.ref x), .val (.int 2), .val (.int c2)] [(.int c2)]))
                        refine own_of (fun tt_ => XS.bipush X19.here hx rfl (hb hby d4_44)) ?_
                        by_cases hb46_23 : c2 = (92 : Int32)
                        · refine own_of (fun tt_ => XS.icmpNo X19.here hx rfl (hb hby d4_46) rfl (teq hb46_23).2) ?_
                          show own_go p e below s _ _ _ (T19.setTop (mkF m 49 #[.val (.ref x), .val (.int 2), .val (.int c2)] []))
                          refine own_of (fun tt_ => XS.iconst X19.here hx rfl (hb hby d4_49)) ?_
                          show own_go p e below s _ _ _ (T19.setTop (mkF m 50 #[.val (.ref x), .val (.int 2), .val (.int c2)] [(.int 0)]))
                          refine own_ret X19 hx hlk hret rfl (Or.inl ⟨rfl, by simp, _, rfl⟩) (hb hby d4_50) (by decide) (by decide) ?_
                          rw [eh19]
                          have fin : own_okn [c0, c1, c2] = 0 := own_okn0 (z := c2) (by simp) (own_okb (by first | exact Or.inl hb28_20 | exact Or.inr (Or.inl hb34_21) | exact Or.inr (Or.inr (Or.inl hb40_22)) | exact Or.inr (Or.inr (Or.inr hb46_23))))
                          exact ⟨by rw [fin], N19, rfl⟩
                        · refine own_of (fun tt_ => XS.icmpYes X19.here hx rfl (pc0 := 46) (pc' := 51) rfl (hb hby d4_46) rfl (feq hb46_23).2 (by decide) (by decide)) ?_
                          show own_go p e below s _ _ _ (T19.setTop (mkF m 51 #[.val (.ref x), .val (.int 2), .val (.int c2)] []))
                          have gd_c2 := own_okg hb28_20 hb34_21 hb40_22 hb46_23
                          refine own_of (fun tt_ => XS.iinc X19.here hx rfl (hb hby d4_51) rfl (l' := #[.val (.ref x), .val (.int 3), .val (.int c2)]) rfl) ?_
                          refine own_of (fun tt_ => XS.goto X19.here hx rfl (pc0 := 54) (pc' := 11) rfl (hb hby d4_54) (by decide) (by decide)) ?_
                          refine own_of (fun tt_ => XS.iloadN X19.here hx rfl (hb hby d4_11) rfl) ?_
                          refine own_of (fun tt_ => XS.aloadN X19.here hx rfl (hb hby d4_12) rfl rfl) ?_
                          show own_go p e below s _ _ _ (T19.setTop (mkF m 13 #[.val (.ref x), .val (.int 3), .val (.int c2)] [(.ref x), (.int 3)]))
                          obtain ⟨cq24, kq24, q24a, q24b, q24c⟩ := isOf hZ eh19 E_x
                          obtain ⟨_, _, ⟨T24, L24, k24, n24⟩, -, X24, ⟨Lc24, hQ24, l24, y24, z24⟩, st24⟩ := X19.virtualBack hx (y := ym1) (z := ym1) hown (mvT hZ (hW 47 _ rfl)) (mvT hZ (hW 48 _ rfl)) (notFace_of_selects (args := #[]) (mvT hZ (hW 50 _ rfl))) (mvT hZ (hW 50 _ rfl)) (mvT hZ (hW 49 _ rfl)) (by decide) (backOf (W := 1) (rmN_3 l Z a0 hw [] x t kb c0 c1 c2 Gc h0 n0 XO0 Oc Pc E_x F_v TX) hZ (hW 51 _ rfl) (hW 3 _ rfl) (by decide) (by decide)) q24a q24c (g := (mkF m 13 #[.val (.ref x), .val (.int 3), .val (.int c2)] [(.ref x), (.int 3)])) rfl (by rw [hml]; rfl) (Steps.refl _) (argsL := []) (rest := [(.int 3)]) (lenOf pd_14 rfl) rfl (by show 2 * 0 + _ ≤ _; exact Nat.le_of_eq rfl) (hb hby d4_13) (fun _ _ => ⟨rfl, eh19, (by decide : 0 + 0 ≤ _), (by decide : 0 + 0 ≤ _)⟩)
                          dsimp only [Pt.U, Pt.locs, Pt.cells, Pt.slots] at X24 l24 y24 z24 st24 hQ24
                          subst l24 y24 z24
                          obtain ⟨rfl, Nq24, eh24⟩ := hQ24
                          have N24 := Fr.app N19 Nq24
                          refine own_of (fun tt_ kk_ => st24.trans kk_) ?_
                          show own_go p e below s _ _ _ (T24.setTop (mkF m 16 #[.val (.ref x), .val (.int 3), .val (.int c2)] [(.int 3), (.int 3)]))
                          have hb16_25 : ¬ ((3 : Int32) < (3 : Int32)) := by decide
                          refine own_of (fun tt_ => XS.icmpYes X24.here hx rfl (pc0 := 16) (pc' := 57) rfl (hb hby d4_16) rfl (flt hb16_25).2.1 (by decide) (by decide)) ?_
                          show own_go p e below s _ _ _ (T24.setTop (mkF m 57 #[.val (.ref x), .val (.int 3), .val (.int c2)] []))
                          refine own_of (fun tt_ => XS.iconst X24.here hx rfl (hb hby d4_57)) ?_
                          show own_go p e below s _ _ _ (T24.setTop (mkF m 58 #[.val (.ref x), .val (.int 3), .val (.int c2)] [(.int 1)]))
                          refine own_ret X24 hx hlk hret rfl (Or.inl ⟨rfl, by simp, _, rfl⟩) (hb hby d4_58) (by decide) (by decide) ?_
                          rw [eh24]
                          have fin : own_okn [c0, c1, c2] = 1 := by simp [own_okn, gd_c0, gd_c1, gd_c2]
                          exact ⟨by rw [fin], N24, rfl⟩
theorem ef_rmOk (m : MethodId) (x0 : Int32) : entryFrame m #[(.int x0)] 1 = mkF m 0 #[.val (.int x0)] [] := by first | (simp [entryFrame, mkF, argsToLocals, Value.category]; done) | rfl
theorem pn_5 : plainName "com/example/grantway/grantway/protocol/ScopesIsScopeTokenPinLaw" = true := by first | (simp [plainName, overriddenIn]; done) | decide +kernel
theorem d9_0 : decode method_3_code 0 = .ok (.iload_n 0, 1) := by decide +kernel
theorem d9_1 : decode method_3_code 1 = .ok (.bipush 32, 2) := by decide +kernel
theorem d9_3 : decode method_3_code 3 = .ok (.if_icmp .gt 5, 3) := by decide +kernel
theorem d9_8 : decode method_3_code 8 = .ok (.iload_n 0, 1) := by decide +kernel
theorem d9_9 : decode method_3_code 9 = .ok (.bipush 127, 2) := by decide +kernel
theorem d9_11 : decode method_3_code 11 = .ok (.if_icmp .lt 5, 3) := by decide +kernel
theorem d9_16 : decode method_3_code 16 = .ok (.iload_n 0, 1) := by decide +kernel
theorem d9_17 : decode method_3_code 17 = .ok (.bipush 34, 2) := by decide +kernel
theorem d9_19 : decode method_3_code 19 = .ok (.if_icmp .ne 5, 3) := by decide +kernel
theorem d9_22 : decode method_3_code 22 = .ok (.iconst 0, 1) := by decide +kernel
theorem d9_23 : decode method_3_code 23 = .ok (.ireturn, 1) := by decide +kernel
theorem d9_24 : decode method_3_code 24 = .ok (.iload_n 0, 1) := by decide +kernel
theorem d9_25 : decode method_3_code 25 = .ok (.bipush 92, 2) := by decide +kernel
theorem d9_27 : decode method_3_code 27 = .ok (.if_icmp .ne 5, 3) := by decide +kernel
theorem d9_30 : decode method_3_code 30 = .ok (.iconst 0, 1) := by decide +kernel
theorem d9_31 : decode method_3_code 31 = .ok (.ireturn, 1) := by decide +kernel
theorem d9_32 : decode method_3_code 32 = .ok (.iconst 1, 1) := by decide +kernel
theorem d9_33 : decode method_3_code 33 = .ok (.ireturn, 1) := by decide +kernel
theorem d9_14 : decode method_3_code 14 = .ok (.iconst 0, 1) := by decide +kernel
theorem d9_15 : decode method_3_code 15 = .ok (.ireturn, 1) := by decide +kernel
theorem d9_6 : decode method_3_code 6 = .ok (.iconst 0, 1) := by decide +kernel
theorem d9_7 : decode method_3_code 7 = .ok (.ireturn, 1) := by decide +kernel
def Q_rmOk (Z : State) (cc : Int32) (h0 : Heap) (n0 : Nat) (v : Option Value) (h : Heap) (L : List Loc) : Prop := v = some (.int (own_okv cc)) ∧ Fr n0 L ∧ h = h0
set_option maxRecDepth 65536 in
set_option maxHeartbeats 40000000 in
theorem rmOk (l : Launch) (Z : State) (a0 : Array Value) (hw : own_H Z a0) (ws : List Jvm.Cond) (cc : Int32) (h0 : Heap) (n0 : Nat) (XO0 : Old Z n0 h0) :
    own_M l Z ym8 method_3_code ws 1 (some .boolean) (own_R 0 0 0 0) #[(.int cc)] h0 (Q_rmOk Z cc h0 n0) := by
  refine own_open (plainFor_of_name pn_5) ?_
  intro p e s m below meth c s₁ hx hby hlk hret hml hown hnm hZ X0 e0
  have hW := own_hW hw
  have N0 := Fr.nil n0
  refine own_of (fun tt_ kk_ => castTop (ef_rmOk m cc) kk_) ?_
  show own_go p e below s _ _ _ (s₁.setTop (mkF m 0 #[.val (.int cc)] []))
  refine own_of (fun tt_ => XS.iloadN X0.here hx rfl (hb hby d9_0) rfl) ?_
  refine own_of (fun tt_ => XS.bipush X0.here hx rfl (hb hby d9_1)) ?_
  by_cases hb3_1 : (32 : Int32) < cc
  · refine own_of (fun tt_ => XS.icmpYes X0.here hx rfl (pc0 := 3) (pc' := 8) rfl (hb hby d9_3) rfl (tlt hb3_1).2.2.1 (by decide) (by decide)) ?_
    show own_go p e below s _ _ _ (s₁.setTop (mkF m 8 #[.val (.int cc)] []))
    refine own_of (fun tt_ => XS.iloadN X0.here hx rfl (hb hby d9_8) rfl) ?_
    refine own_of (fun tt_ => XS.bipush X0.here hx rfl (hb hby d9_9)) ?_
    by_cases hb11_2 : cc < (127 : Int32)
    · refine own_of (fun tt_ => XS.icmpYes X0.here hx rfl (pc0 := 11) (pc' := 16) rfl (hb hby d9_11) rfl (tlt hb11_2).1 (by decide) (by decide)) ?_
      show own_go p e below s _ _ _ (s₁.setTop (mkF m 16 #[.val (.int cc)] []))
      refine own_of (fun tt_ => XS.iloadN X0.here hx rfl (hb hby d9_16) rfl) ?_
      refine own_of (fun tt_ => XS.bipush X0.here hx rfl (hb hby d9_17)) ?_
      by_cases hb19_3 : cc = (34 : Int32)
      · refine own_of (fun tt_ => XS.icmpNo X0.here hx rfl (hb hby d9_19) rfl (teq hb19_3).2) ?_
        show own_go p e below s _ _ _ (s₁.setTop (mkF m 22 #[.val (.int cc)] []))
        refine own_of (fun tt_ => XS.iconst X0.here hx rfl (hb hby d9_22)) ?_
        show own_go p e below s _ _ _ (s₁.setTop (mkF m 23 #[.val (.int cc)] [(.int 0)]))
        refine own_ret X0 hx hlk hret rfl (Or.inl ⟨rfl, by simp, _, rfl⟩) (hb hby d9_23) (by decide) (by decide) ?_
        rw [e0]
        exact ⟨by simp [own_okv, hb3_1, hb11_2, hb19_3], N0, rfl⟩
      · refine own_of (fun tt_ => XS.icmpYes X0.here hx rfl (pc0 := 19) (pc' := 24) rfl (hb hby d9_19) rfl (feq hb19_3).2 (by decide) (by decide)) ?_
        show own_go p e below s _ _ _ (s₁.setTop (mkF m 24 #[.val (.int cc)] []))
        refine own_of (fun tt_ => XS.iloadN X0.here hx rfl (hb hby d9_24) rfl) ?_
        refine own_of (fun tt_ => XS.bipush X0.here hx rfl (hb hby d9_25)) ?_
        show own_go p e below s _ _ _ (s₁.setTop (mkF m 27 #[.val (.int cc)] [(.int 92), (.int cc)]))
        by_cases hb27_4 : cc = (92 : Int32)
        · refine own_of (fun tt_ => XS.icmpNo X0.here hx rfl (hb hby d9_27) rfl (teq hb27_4).2) ?_
          show own_go p e below s _ _ _ (s₁.setTop (mkF m 30 #[.val (.int cc)] []))
          refine own_of (fun tt_ => XS.iconst X0.here hx rfl (hb hby d9_30)) ?_
          show own_go p e below s _ _ _ (s₁.setTop (mkF m 31 #[.val (.int cc)] [(.int 0)]))
          refine own_ret X0 hx hlk hret rfl (Or.inl ⟨rfl, by simp, _, rfl⟩) (hb hby d9_31) (by decide) (by decide) ?_
          rw [e0]
          exact ⟨by simp [own_okv, hb3_1, hb11_2, hb19_3, hb27_4], N0, rfl⟩
        · refine own_of (fun tt_ => XS.icmpYes X0.here hx rfl (pc0 := 27) (pc' := 32) rfl (hb hby d9_27) rfl (feq hb27_4).2 (by decide) (by decide)) ?_
          show own_go p e below s _ _ _ (s₁.setTop (mkF m 32 #[.val (.int cc)] []))
          refine own_of (fun tt_ => XS.iconst X0.here hx rfl (hb hby d9_32)) ?_
          show own_go p e below s _ _ _ (s₁.setTop (mkF m 33 #[.val (.int cc)] [(.int 1)]))
          refine own_ret X0 hx hlk hret rfl (Or.inl ⟨rfl, by simp, _, rfl⟩) (hb hby d9_33) (by decide) (by decide) ?_
          rw [e0]
          exact ⟨by simp [own_okv, hb3_1, hb11_2, hb19_3, hb27_4], N0, rfl⟩
    · refine own_of (fun tt_ => XS.icmpNo X0.here hx rfl (hb hby d9_11) rfl (flt hb11_2).1) ?_
      show own_go p e below s _ _ _ (s₁.setTop (mkF m 14 #[.val (.int cc)] []))
      refine own_of (fun tt_ => XS.iconst X0.here hx rfl (hb hby d9_14)) ?_
      show own_go p e below s _ _ _ (s₁.setTop (mkF m 15 #[.val (.int cc)] [(.int 0)]))
      refine own_ret X0 hx hlk hret rfl (Or.inl ⟨rfl, by simp, _, rfl⟩) (hb hby d9_15) (by decide) (by decide) ?_
      rw [e0]
      exact ⟨by simp [own_okv, hb3_1, hb11_2], N0, rfl⟩
  · refine own_of (fun tt_ => XS.icmpNo X0.here hx rfl (hb hby d9_3) rfl (flt hb3_1).2.2.1) ?_
    show own_go p e below s _ _ _ (s₁.setTop (mkF m 6 #[.val (.int cc)] []))
    refine own_of (fun tt_ => XS.iconst X0.here hx rfl (hb hby d9_6)) ?_
    show own_go p e below s _ _ _ (s₁.setTop (mkF m 7 #[.val (.int cc)] [(.int 0)]))
    refine own_ret X0 hx hlk hret rfl (Or.inl ⟨rfl, by simp, _, rfl⟩) (hb hby d9_7) (by decide) (by decide) ?_
    rw [e0]
    exact ⟨by simp [own_okv, hb3_1], N0, rfl⟩
theorem ef_rmN4 (m : MethodId) (x0 : Nat) (x1 : Nat) (x2 : Int32) (x3 : Int32) : entryFrame m #[(.ref x0), (.ref x1), (.int x2), (.int x3), .null] 6 = mkF m 0 #[.val (.ref x0), .val (.ref x1), .val (.int x2), .val (.int x3), .val .null, .unset] [] := by first | (simp [entryFrame, mkF, argsToLocals, Value.category]; done) | rfl
theorem d2_8 : decode jdk_42_method_149_code 8 = .ok (.aload_n 0, 1) := by decide +kernel
theorem d2_9 : decode jdk_42_method_149_code 9 = .ok (.ldc 7, 2) := by decide +kernel
theorem d2_11 : decode jdk_42_method_149_code 11 = .ok (.getfield 9, 3) := by decide +kernel
theorem d2_14 : decode jdk_42_method_149_code 14 = .ok (.putfield 9, 3) := by decide +kernel
theorem d2_17 : decode jdk_42_method_149_code 17 = .ok (.aload_n 0, 1) := by decide +kernel
theorem d2_18 : decode jdk_42_method_149_code 18 = .ok (.ldc 7, 2) := by decide +kernel
theorem d2_20 : decode jdk_42_method_149_code 20 = .ok (.getfield 15, 3) := by decide +kernel
theorem d2_23 : decode jdk_42_method_149_code 23 = .ok (.putfield 15, 3) := by decide +kernel
theorem d2_26 : decode jdk_42_method_149_code 26 = .ok (.return_, 1) := by decide +kernel
def Q_rmN4 (Z : State) (x : Nat) (ar : Nat) (h0 : Heap) (n0 : Nat) (v : Option Value) (h : Heap) (L : List Loc) : Prop := v = none ∧ Fr n0 L ∧ Keep h0 h [x] ∧ own_str Z h x []
set_option maxRecDepth 65536 in
set_option maxHeartbeats 40000000 in
theorem rmN4 (l : Launch) (Z : State) (a0 : Array Value) (hw : ∀ d ∈ tables_1, d.before a0 Z = true) (ws : List Jvm.Cond) (x : Nat) (ar : Nat) (h0 : Heap) (n0 : Nat) (hEL : EW Z a0 own_EL) (XO0 : Old Z n0 h0) (g_x : n0 ≤ x) (E_x : Exa Z h0 x "java/lang/String") (F_v : Fld Z h0 x "java/lang/String" "value" "[B" .null) (F_c : Fld Z h0 x "java/lang/String" "coder" "B" (.int 0)) :
    MetFree l ym17 (head1 (Jvm.Cond.code ym17 jdk_42_method_149_code 6 none :: ws) (own_R 1 4 8 12)) (fun zz_ U => zz_ = #[(.ref x), (.ref ar), (.int 0), (.int 0), .null] ∧ Z.Warmed39 U.vm ∧ U.heap = h0 ∧ CHv Z own_EL U.vm h0) (fun _ _ _ _ _ => True) (fun _ U o U' => ∃ v L, o = .returned v ∧ Q_rmN4 Z x ar h0 n0 v U'.heap L ∧ CHr Z own_EL U.vm U.heap U'.vm U'.heap ∧ ReturnedEndW U o U' L (own_R 1 4 8 12).cells (own_R 1 4 8 12).slots) := by
  refine MetFree.of_bodySF (plainFor_of_name pn_1) hisR ?_
  intro p e s m args below meth c s₁ Bd hml0 hP hK
  obtain ⟨rfl, hZ, hh, hCH⟩ := hP
  have hx := Bd.exec
  have hby := Bd.bytes
  have hlk := Bd.notSynchronized
  have hW : ∀ (i : Nat) (d : Jvm.Cond), tables_1[i]? = some d → d.before a0 Z = true := fun i d h => hw d (List.mem_of_getElem? h)
  have hml : c.maxLocals = 6 := hml0
  have hown : s.vm.findClass "java/lang/String" = some m.cls := findClass_of_methodNamed Bd.named
  have hnm := (name_of_methodNamed Bd.named Bd.method).1
  have X0 : Stand p l e (own_R 1 4 8 12) (s.setVm s.vm) m #[(.ref x), (.ref ar), (.int 0), (.int 0), .null] below meth c s₁ [] 0 0 := Stand.of_body Bd
  have e0 : s₁.heap = h0 := by rw [← hh, Bd.state]; rfl
  have N0 := Fr.nil n0
  have hS0 : s.Since s.vm 0 := (State.WarmedH.refl s).since 0
  have CH0 : CHr Z own_EL s.vm s.heap s.vm h0 := by rw [hh]; exact CHr.refl hCH
  refine own_inc ?_
  refine own_ofc (fun tt_ kk_ => castTop (ef_rmN4 m x ar (0 : Int32) (0 : Int32)) kk_) ?_
  show own_gc p e below s _ _ _ _ _ (s₁.setTop (mkF m 0 #[.val (.ref x), .val (.ref ar), .val (.int 0), .val (.int 0), .val .null, .unset] []))
  refine own_ofc (fun tt_ => XS.aloadN X0.here hx rfl (hb hby d2_0) rfl rfl) ?_
  show own_gc p e below s _ _ _ _ _ (s₁.setTop (mkF m 1 #[.val (.ref x), .val (.ref ar), .val (.int 0), .val (.int 0), .val .null, .unset] [(.ref x)]))
  have wS : ∀ a ∈ Bundle.stringAtoms, a.before a0 Z = true := fun d hd => hw d ((by decide +kernel : ∀ d ∈ Bundle.stringAtoms, d ∈ tables_1) d hd)
  have K0 : Keep h0 h0 [x] := Keep.refl h0 [x]
  have lt_x := own_lt E_x.lt
  obtain ⟨T1, X1, e1, st1⟩ := initO X0 hx hZ hown (hW 12 _ rfl) (hW 13 _ rfl) (hW 14 _ rfl) e0 (g := (mkF m 1 #[.val (.ref x), .val (.ref ar), .val (.int 0), .val (.int 0), .val .null, .unset] [(.ref x)])) rfl (by rw [hml]; rfl) rfl (hb hby d2_1) (by decide) (W := 0) (by show 2 * 0 + _ ≤ _; exact Nat.le_of_eq rfl) (by decide)
  refine own_ofc st1 ?_
  show own_gc p e below s _ _ _ _ _ (T1.setTop (mkF m 4 #[.val (.ref x), .val (.ref ar), .val (.int 0), .val (.int 0), .val .null, .unset] []))
  refine own_ofc (fun tt_ => XS.iloadN X1.here hx rfl (hb hby d2_4) rfl) ?_
  have hb5_2 : (0 : Int32) = (0 : Int32) := by decide
  refine own_ofc (fun tt_ => XS.ifNo X1.here hx rfl (hb hby d2_5) rfl ((if0 _ _).trans (teq hb5_2).2)) ?_
  show own_gc p e below s _ _ _ _ _ (T1.setTop (mkF m 8 #[.val (.ref x), .val (.ref ar), .val (.int 0), .val (.int 0), .val .null, .unset] []))
  refine own_ofc (fun tt_ => XS.aloadN X1.here hx rfl (hb hby d2_8) rfl rfl) ?_
  obtain ⟨b3, T3, h3, k3, t3, kb3, X3, e3, E3, hS3, hk3, hZ3, hown3, Ex3, Cx3, Vx3, Kx3, la3, lb3, CHs3, -, hne3, st3⟩ := ldcCH X1 hx hZ hown (hW 15 _ rfl) wS e1 hS0 (by omega : 0 ≤ h0.size) hEL (by decide +kernel) CH0.1 (vs := []) (z := 0) ⟨by decide +kernel, by decide +kernel⟩ (by decide +kernel) (by decide +kernel) (g := (mkF m 9 #[.val (.ref x), .val (.ref ar), .val (.int 0), .val (.int 0), .val .null, .unset] [(.ref x)])) rfl (hb hby d2_9) (n := 0) (by decide +kernel) (by decide) (by decide) (by decide)
  have CH3 := CH0.trans CHs3
  have Ss3 : own_str Z h3 b3 ([] : List Int32) := ⟨t3, kb3, _, _, Ex3, Vx3, Cx3, Kx3, Or.inl ⟨rfl, rfl, rfl, by decide⟩⟩
  refine own_ofc st3 ?_
  have sz3 : h0.size ≤ h3.size := E3.1
  have O3 : Old Z n0 h3 := XO0.ext E3
  have K3 : Keep h0 h3 [x] := K0.ext E3
  have lla3 := own_lt la3
  have llb3 := own_lt lb3
  have f5 : Exa Z h3 x "java/lang/String" := (E_x.ext E3)
  have f6 : Fld Z h3 x "java/lang/String" "value" "[B" .null := (F_v.ext E3)
  have Sf4 := own_safe_null (EL := own_EL) hZ3.alike f5 f6
  have nx3 := hne3 x Sf4
  have nxa3 := own_ne nx3.1
  have nxb3 := own_ne nx3.2
  show own_gc p e below s _ _ _ _ _ (T3.setTop (mkF m 11 #[.val (.ref x), .val (.ref ar), .val (.int 0), .val (.int 0), .val .null, .unset] [(.ref b3), (.ref x)]))
  obtain ⟨T7, X7, e7, st7⟩ := getF X3 hx hZ3 hown3 (host := "") (Or.inl (hW 21 _ rfl)) Via.refl e3 Vx3 (g := (mkF m 11 #[.val (.ref x), .val (.ref ar), .val (.int 0), .val (.int 0), .val .null, .unset] [(.ref b3), (.ref x)])) rfl rfl (hb hby d2_11)
  refine own_ofc st7 ?_
  show own_gc p e below s _ _ _ _ _ (T7.setTop (mkF m 14 #[.val (.ref x), .val (.ref ar), .val (.int 0), .val (.int 0), .val .null, .unset] [(.ref t3), (.ref x)]))
  obtain ⟨T8, h8, X8, e8, W8, st8⟩ := putF X7 hx hZ3 hown3 (host := "") (Or.inl (hW 21 _ rfl)) Via.refl e7 f6 f5 (Or.inr ⟨(hW 17 _ rfl), rfl, hnm⟩) (hW 2 _ rfl) (ty := (.array .byte)) pf_1 rfl rfl (g := (mkF m 14 #[.val (.ref x), .val (.ref ar), .val (.int 0), .val (.int 0), .val .null, .unset] [(.ref t3), (.ref x)])) rfl rfl (hb hby d2_14)
  refine own_ofc st8 ?_
  have CHs8 := CHr.wr W8 Sf4 CH3.1
  have CH8 := CH3.trans CHs8
  have N8 := Fr.snoc X8 N0 (by omega : n0 ≤ x)
  have sz8 : h8.size = h3.size := W8.size
  have O8 : Old Z n0 h8 := O3.wr W8 (by omega)
  have K8 : Keep h0 h8 [x] := K3.wr W8 (Or.inl (List.mem_of_getElem? (i := 0) rfl))
  have Fw8 := f6.same W8
  show own_gc p e below s _ _ _ _ _ (T8.setTop (mkF m 17 #[.val (.ref x), .val (.ref ar), .val (.int 0), .val (.int 0), .val .null, .unset] []))
  refine own_ofc (fun tt_ => XS.aloadN X8.here hx rfl (hb hby d2_17) rfl rfl) ?_
  obtain ⟨b9, T9, h9, k9, t9, kb9, X9, e9, E9, hS9, hk9, hZ9, hown9, Ex9, Cx9, Vx9, Kx9, la9, lb9, CHs9, -, hne9, st9⟩ := ldcCH X8 hx hZ3 hown3 (hW 15 _ rfl) wS e8 hS3 (by omega : k3 ≤ h8.size) hEL (by decide +kernel) CH8.1 (vs := []) (z := 0) ⟨by decide +kernel, by decide +kernel⟩ (by decide +kernel) (by decide +kernel) (g := (mkF m 18 #[.val (.ref x), .val (.ref ar), .val (.int 0), .val (.int 0), .val .null, .unset] [(.ref x)])) rfl (hb hby d2_18) (n := 0) (by decide +kernel) (by decide) (by decide) (by decide)
  have CH9 := CH8.trans CHs9
  have Ss9 : own_str Z h9 b9 ([] : List Int32) := ⟨t9, kb9, _, _, Ex9, Vx9, Cx9, Kx9, Or.inl ⟨rfl, rfl, rfl, by decide⟩⟩
  refine own_ofc st9 ?_
  have sz9 : h8.size ≤ h9.size := E9.1
  have O9 : Old Z n0 h9 := O8.ext E9
  have K9 : Keep h0 h9 [x] := K8.ext E9
  have lla9 := own_lt la9
  have llb9 := own_lt lb9
  have f10 := (CHs9.safe (own_lt (by omega)) (CHs8.safe (own_lt (by omega)) Sf4))
  have nx9 := hne9 x f10
  have nxa9 := own_ne nx9.1
  have nxb9 := own_ne nx9.2
  show own_gc p e below s _ _ _ _ _ (T9.setTop (mkF m 20 #[.val (.ref x), .val (.ref ar), .val (.int 0), .val (.int 0), .val .null, .unset] [(.ref b9), (.ref x)]))
  obtain ⟨T11, X11, e11, st11⟩ := getF X9 hx hZ9 hown9 (host := "") (Or.inl (hW 22 _ rfl)) Via.refl e9 Cx9 (g := (mkF m 20 #[.val (.ref x), .val (.ref ar), .val (.int 0), .val (.int 0), .val .null, .unset] [(.ref b9), (.ref x)])) rfl rfl (hb hby d2_20)
  refine own_ofc st11 ?_
  show own_gc p e below s _ _ _ _ _ (T11.setTop (mkF m 23 #[.val (.ref x), .val (.ref ar), .val (.int 0), .val (.int 0), .val .null, .unset] [(.int 0), (.ref x)]))
  have f12 : Exa Z h9 x "java/lang/String" := ((f5.wr W8).ext E9)
  have f13 : Fld Z h9 x "java/lang/String" "coder" "B" (.int 0) := (((F_c.ext E3).other W8 (Or.inr (slot_ne (Or.inr (hW 18 _ rfl)) (Or.inr (hW 17 _ rfl)) (by decide) pf_0 pf_1))).ext E9)
  obtain ⟨T14, h14, X14, e14, W14, st14⟩ := putFN X11 hx hZ9 hown9 (hW 22 _ rfl) Via.refl e11 f13 f12 (Or.inr ⟨(hW 18 _ rfl), rfl, hnm⟩) (hW 2 _ rfl) (ty := .byte) (v' := .int (nar .byte (0 : Int32))) pf_0 rfl (fits_nar_byte _) (g := (mkF m 23 #[.val (.ref x), .val (.ref ar), .val (.int 0), .val (.int 0), .val .null, .unset] [(.int 0), (.ref x)])) rfl rfl (hb hby d2_23)
  refine own_ofc st14 ?_
  have CHs14 := CHr.wr W14 f10 CH9.1
  have CH14 := CH9.trans CHs14
  have N14 := Fr.snoc X14 N8 (by omega : n0 ≤ x)
  have sz14 : h14.size = h9.size := W14.size
  have O14 : Old Z n0 h14 := O9.wr W14 (by omega)
  have K14 : Keep h0 h14 [x] := K9.wr W14 (Or.inl (List.mem_of_getElem? (i := 0) rfl))
  have Fw14 := f13.same W14
  show own_gc p e below s _ _ _ _ _ (T14.setTop (mkF m 26 #[.val (.ref x), .val (.ref ar), .val (.int 0), .val (.int 0), .val .null, .unset] []))
  refine own_retVc X14 hx hlk hS9 (by rw [e14]; omega : k9 ≤ T14.heap.size) hZ9 hEL (by rw [e14]; exact CH14) Bd.returns (hb hby d2_26) (by decide) (by decide) ?_
  rw [e14]
  have f15 : Exa Z h14 x "java/lang/String" := (f12.wr W14)
  have f16 : Fld Z h14 x "java/lang/String" "value" "[B" (.ref t3) := ((Fw8.ext E9).other W14 (Or.inr (slot_ne (Or.inr (hW 17 _ rfl)) (Or.inr (hW 18 _ rfl)) (by decide) pf_1 pf_0)))
  have f17 : Arv Z h14 t3 kb3 .byte (0 : Int32) [] (.int 0) := (((Kx3.other W8 (own_ne (by omega))).ext E9).other W14 (own_ne (by omega)))
  exact ⟨rfl, N14, K14, t3, kb3, _, _, f15, f16, Fw14, f17, Or.inl ⟨rfl, rfl, rfl, by simp⟩⟩
theorem ef_rmN1 (m : MethodId) (x0 : Nat) (x1 : Nat) : entryFrame m #[(.ref x0), (.ref x1)] 2 = mkF m 0 #[.val (.ref x0), .val (.ref x1)] [] := by first | (simp [entryFrame, mkF, argsToLocals, Value.category]; done) | rfl
def Q_rmN1 (Z : State) (x : Nat) (ar : Nat) (k : ClassId) (h0 : Heap) (n0 : Nat) (v : Option Value) (h : Heap) (L : List Loc) : Prop := v = none ∧ Fr n0 L ∧ Keep h0 h [x] ∧ own_str Z h x []
set_option maxRecDepth 65536 in
set_option maxHeartbeats 40000000 in
theorem rmN1 (l : Launch) (Z : State) (a0 : Array Value) (hw : ∀ d ∈ tables_1, d.before a0 Z = true) (ws : List Jvm.Cond) (x : Nat) (ar : Nat) (k : ClassId) (h0 : Heap) (n0 : Nat) (hEL : EW Z a0 own_EL) (XO0 : Old Z n0 h0) (g_x : n0 ≤ x) (E_x : Exa Z h0 x "java/lang/String") (F_v : Fld Z h0 x "java/lang/String" "value" "[B" .null) (F_c : Fld Z h0 x "java/lang/String" "coder" "B" (.int 0)) (V_a : Arv Z h0 ar k .char (0 : Int32) [] (.int 0)) :
    MetFree l ym12 (head1 (Jvm.Cond.code ym12 jdk_42_method_3_code 2 none :: ws) (own_R 2 4 8 29)) (fun zz_ U => zz_ = #[(.ref x), (.ref ar)] ∧ Z.Warmed39 U.vm ∧ U.heap = h0 ∧ CHv Z own_EL U.vm h0) (fun _ _ _ _ _ => True) (fun _ U o U' => ∃ v L, o = .returned v ∧ Q_rmN1 Z x ar k h0 n0 v U'.heap L ∧ CHr Z own_EL U.vm U.heap U'.vm U'.heap ∧ ReturnedEndW U o U' L (own_R 2 4 8 29).cells (own_R 2 4 8 29).slots) := by
  refine MetFree.of_bodySF (plainFor_of_name pn_1) hisR ?_
  intro p e s m args below meth c s₁ Bd hml0 hP hK
  obtain ⟨rfl, hZ, hh, hCH⟩ := hP
  have hx := Bd.exec
  have hby := Bd.bytes
  have hlk := Bd.notSynchronized
  have hW : ∀ (i : Nat) (d : Jvm.Cond), tables_1[i]? = some d → d.before a0 Z = true := fun i d h => hw d (List.mem_of_getElem? h)
  have hml : c.maxLocals = 2 := hml0
  have hown : s.vm.findClass "java/lang/String" = some m.cls := findClass_of_methodNamed Bd.named
  have hnm := (name_of_methodNamed Bd.named Bd.method).1
  have X0 : Stand p l e (own_R 2 4 8 29) (s.setVm s.vm) m #[(.ref x), (.ref ar)] below meth c s₁ [] 0 0 := Stand.of_body Bd
  have e0 : s₁.heap = h0 := by rw [← hh, Bd.state]; rfl
  have N0 := Fr.nil n0
  have hS0 : s.Since s.vm 0 := (State.WarmedH.refl s).since 0
  have CH0 : CHr Z own_EL s.vm s.heap s.vm h0 := by rw [hh]; exact CHr.refl hCH
  refine own_inc ?_
  refine own_ofc (fun tt_ kk_ => castTop (ef_rmN1 m x ar) kk_) ?_
  show own_gc p e below s _ _ _ _ _ (s₁.setTop (mkF m 0 #[.val (.ref x), .val (.ref ar)] []))
  refine own_ofc (fun tt_ => XS.aloadN X0.here hx rfl (hb hby d1_0) rfl rfl) ?_
  refine own_ofc (fun tt_ => XS.aloadN X0.here hx rfl (hb hby d1_1) rfl rfl) ?_
  refine own_ofc (fun tt_ => XS.iconst X0.here hx rfl (hb hby d1_2)) ?_
  refine own_ofc (fun tt_ => XS.aloadN X0.here hx rfl (hb hby d1_3) rfl rfl) ?_
  obtain ⟨cl1, Ar1, q1, S1, Ng1, H1, G1⟩ := id V_a
  refine own_ofc (fun tt_ kk => X0.arraylength hx (by rw [e0]; exact Ar1.1) (State.isArrayOf_alike hZ.alike Ar1.2.1) (g := (mkF m 4 #[.val (.ref x), .val (.ref ar)] [(.ref ar), (.int 0), (.ref ar), (.ref x)])) rfl rfl (hb hby d1_4) _ (by rw [len_of S1 Ng1]; exact kk)) ?_
  show own_gc p e below s _ _ _ _ _ (s₁.setTop (mkF m 5 #[.val (.ref x), .val (.ref ar)] [(.int 0), (.int 0), (.ref ar), (.ref x)]))
  refine own_ofc (fun tt_ => XS.aconstNull X0.here hx rfl (hb hby d1_5)) ?_
  show own_gc p e below s _ _ _ _ _ (s₁.setTop (mkF m 6 #[.val (.ref x), .val (.ref ar)] [.null, (.int 0), (.int 0), (.ref ar), (.ref x)]))
  have K0 : Keep h0 h0 [x] := Keep.refl h0 [x]
  have lt_x := own_lt E_x.lt
  obtain ⟨_, _, ⟨T2, L2, k2, n2⟩, -, Xr2, hSr2, hgr2, ⟨Lc2, hQ2, l2, y2, z2, CHs2⟩, st2⟩ := X0.specialBackS hx (y := ym17) rfl hown (mvT hZ (hW 8 _ rfl)) (mvT hZ (hW 9 _ rfl)) (mvT hZ (hW 11 _ rfl)) (by decide) (backOfSH (W := 0) (rmN4 l Z a0 hw [] x ar h0 n0 hEL XO0 g_x E_x F_v F_c) hZ (hW 11 _ rfl) (hW 3 _ rfl) (by decide) (by decide) hEL CH0.1) (g := (mkF m 6 #[.val (.ref x), .val (.ref ar)] [.null, (.int 0), (.int 0), (.ref ar), (.ref x)])) rfl (by rw [hml]; rfl) (Steps.refl _) (a := x) (argsL := [(.ref ar), (.int 0), (.int 0), .null]) (rest := []) (lenOf pd_7 rfl) rfl (by show 2 * 0 + _ ≤ _; exact Nat.le_of_eq rfl) (hb hby d1_6) (fun _ _ => ⟨rfl, e0, (by decide : 0 + 4 ≤ _), (by decide : 0 + 8 ≤ _)⟩)
  dsimp only [Pt.U, Pt.locs, Pt.cells, Pt.slots] at Xr2 l2 y2 z2 st2 hQ2 hSr2 hgr2 CHs2
  obtain ⟨X2, hS2, hZ2, hown2⟩ := rebS hS0 (by rw [e0]; omega : 0 ≤ s₁.heap.size) Xr2 hSr2 hgr2 hZ hown
  subst l2 y2 z2
  obtain ⟨rfl, Nq2, Kp2, Sx2⟩ := hQ2
  have N2 := Fr.app N0 Nq2
  refine own_ofc (fun tt_ kk_ => st2.trans kk_) ?_
  have CH2 := CH0.trans CHs2
  have sz2 : h0.size ≤ T2.heap.size := Kp2.1
  have O2 : Old Z n0 T2.heap := XO0.keep Kp2 (allS (by omega) all0)
  have K2 : Keep h0 T2.heap [x] := K0.trans Kp2 (allS (Or.inl (List.mem_of_getElem? (i := 0) rfl)) all0)
  show own_gc p e below s _ _ _ _ _ (T2.setTop (mkF m 9 #[.val (.ref x), .val (.ref ar)] []))
  refine own_retVc X2 hx hlk hS2 (by omega : T2.heap.size ≤ T2.heap.size) hZ2 hEL CH2 Bd.returns (hb hby d1_9) (by decide) (by decide) ?_
  skip
  exact ⟨rfl, N2, K2, Sx2⟩
theorem ef_rm0 (m : MethodId) (x0 : Int32) (x1 : Int32) (x2 : Int32) (x3 : Int32) : entryFrame m #[(.int x0), (.int x1), (.int x2), (.int x3)] maxLocals = mkF m 0 #[.val (.int x0), .val (.int x1), .val (.int x2), .val (.int x3), .unset, .unset, .unset, .unset, .unset, .unset] [] := by first | (simp [entryFrame, mkF, argsToLocals, Value.category, maxLocals]; done) | rfl
theorem pd_16 : parseMethodDescriptor "([C)V" = some ⟨[(.array .char)], none⟩ := by decide +kernel
theorem pd_17 : parseMethodDescriptor "(Ljava/lang/String;)Z" = some ⟨[(.object "java/lang/String")], some .boolean⟩ := by decide +kernel
theorem pd_18 : parseMethodDescriptor "(C)Z" = some ⟨[.char], some .boolean⟩ := by decide +kernel
def Q_rm0 (Z : State) (p1 : Int32) (p2 : Int32) (p3 : Int32) (p4 : Int32) (Gc : Int32) (fm : Value) (h0 : Heap) (n0 : Nat) (v : Option Value) (h : Heap) (L : List Loc) : Prop := v = some (.int 1) ∧ Fr n0 L
set_option maxRecDepth 65536 in
set_option maxHeartbeats 40000000 in
theorem rm0 (l : Launch) (Z : State) (a0 : Array Value) (hw : ∀ d ∈ tables_1, d.before a0 Z = true) (ws : List Jvm.Cond) (p1 : Int32) (p2 : Int32) (p3 : Int32) (p4 : Int32) (Gc : Int32) (fm : Value) (h0 : Heap) (n0 : Nat) (hEL : EW Z a0 own_EL) (XO0 : Old Z n0 h0) (S_ad : Sta Z Z.heap "java/lang/StringUTF16" "$assertionsDisabled" "Z" (.int 1)) (S_hi : Sta Z Z.heap "java/lang/StringUTF16" "HI_BYTE_SHIFT" "I" (.int 0)) (S_lo : Sta Z Z.heap "java/lang/StringUTF16" "LO_BYTE_SHIFT" "I" (.int 8)) (Oc : Sta Z Z.heap "java/lang/String" "COMPACT_STRINGS" "Z" (.int Gc)) (Pc : ¬ (Gc = (0 : Int32))) (S_f : Sta Z Z.heap "jdk/internal/util/Preconditions" "SIOOBE_FORMATTER" "Ljava/util/function/BiFunction;" fm) (r_f : fm.isRef = true) :
    MetFree l x (head1 (Jvm.Cond.code x code maxLocals ret :: ws) room_1) (fun zz_ U => zz_ = #[(.int p1), (.int p2), (.int p3), (.int p4)] ∧ Z.Warmed39 U.vm ∧ U.heap = h0 ∧ CHv Z own_EL U.vm h0) (fun _ _ _ _ _ => True) (fun _ U o U' => ∃ v L, o = .returned v ∧ Q_rm0 Z p1 p2 p3 p4 Gc fm h0 n0 v U'.heap L ∧ CHr Z own_EL U.vm U.heap U'.vm U'.heap ∧ ReturnedEndW U o U' L room_1.cells room_1.slots) := by
  refine MetFree.of_bodySF (plainFor_of_name pn_5) hisR ?_
  intro p e s m args below meth c s₁ Bd hml0 hP hK
  obtain ⟨rfl, hZ, hh, hCH⟩ := hP
  have hx := Bd.exec
  have hby := Bd.bytes
  have hlk := Bd.notSynchronized
  have hW : ∀ (i : Nat) (d : Jvm.Cond), tables_1[i]? = some d → d.before a0 Z = true := fun i d h => hw d (List.mem_of_getElem? h)
  have hml : c.maxLocals = 10 := hml0
  have hown : s.vm.findClass "com/example/grantway/grantway/protocol/ScopesIsScopeTokenPinLaw" = some m.cls := findClass_of_methodNamed Bd.named
  have hnm := (name_of_methodNamed Bd.named Bd.method).1
  have X0 : Stand p l e room_1 (s.setVm s.vm) m #[(.int p1), (.int p2), (.int p3), (.int p4)] below meth c s₁ [] 0 0 := Stand.of_body Bd
  have e0 : s₁.heap = h0 := by rw [← hh, Bd.state]; rfl
  have N0 := Fr.nil n0
  have hS0 : s.Since s.vm 0 := (State.WarmedH.refl s).since 0
  have CH0 : CHr Z own_EL s.vm s.heap s.vm h0 := by rw [hh]; exact CHr.refl hCH
  refine own_inc ?_
  refine own_ofc (fun tt_ kk_ => castTop (ef_rm0 m p1 p2 p3 p4) kk_) ?_
  show own_gc p e below s _ _ _ _ _ (s₁.setTop (mkF m 0 #[.val (.int p1), .val (.int p2), .val (.int p3), .val (.int p4), .unset, .unset, .unset, .unset, .unset, .unset] []))
  have wS : ∀ a ∈ Bundle.stringAtoms, a.before a0 Z = true := fun d hd => hw d ((by decide +kernel : ∀ d ∈ Bundle.stringAtoms, d ∈ tables_1) d hd)
  have hws : ∀ d ∈ StrChars.Road.words, d.before a0 Z = true := fun d hd => hw d ((by decide +kernel : ∀ d ∈ StrChars.Road.words, d ∈ tables_1) d hd)
  refine own_ofc (fun tt_ => XS.iloadN X0.here hx rfl (hb hby at_0) rfl) ?_
  refine own_ofc (fun tt_ => XS.iconst X0.here hx rfl (hb hby at_1)) ?_
  refine own_ofc (fun tt_ => XS.iand X0.here hx rfl (hb hby at_2) rfl) ?_
  show own_gc p e below s _ _ _ _ _ (s₁.setTop (mkF m 3 #[.val (.int p1), .val (.int p2), .val (.int p3), .val (.int p4), .unset, .unset, .unset, .unset, .unset, .unset] [(.int (p1 &&& (3 : Int32)))]))
  rcases own_and3 p1 with hk | hk | hk | hk
  · rw [hk]
    show own_gc p e below s _ _ _ _ _ (s₁.setTop (mkF m 3 #[.val (.int p1), .val (.int p2), .val (.int p3), .val (.int p4), .unset, .unset, .unset, .unset, .unset, .unset] [(.int 0)]))
    refine own_ofc (fun tt_ => XS.istore X0.here hx rfl (hb hby at_3) rfl (l' := #[.val (.int p1), .val (.int p2), .val (.int p3), .val (.int p4), .val (.int 0), .unset, .unset, .unset, .unset, .unset]) rfl) ?_
    refine own_ofc (fun tt_ => XS.iloadN X0.here hx rfl (hb hby at_5) rfl) ?_
    refine own_ofc (fun tt_ => X0.ldcI hx hown (mvT hZ (hW 0 _ rfl)) rfl (hb hby at_6)) ?_
    show own_gc p e below s _ _ _ _ _ (s₁.setTop (mkF m 8 #[.val (.int p1), .val (.int p2), .val (.int p3), .val (.int p4), .val (.int 0), .unset, .unset, .unset, .unset, .unset] [(.int 65535), (.int p2)]))
    refine own_ofc (fun tt_ => XS.iand X0.here hx rfl (hb hby at_8) rfl) ?_
    show own_gc p e below s _ _ _ _ _ (s₁.setTop (mkF m 9 #[.val (.int p1), .val (.int p2), .val (.int p3), .val (.int p4), .val (.int 0), .unset, .unset, .unset, .unset, .unset] [(.int (p2 &&& (65535 : Int32)))]))
    refine own_ofc (fun tt_ => XS.i2c X0.here hx rfl (hb hby at_9) rfl) ?_
    show own_gc p e below s _ _ _ _ _ (s₁.setTop (mkF m 10 #[.val (.int p1), .val (.int p2), .val (.int p3), .val (.int p4), .val (.int 0), .unset, .unset, .unset, .unset, .unset] [(.int ((p2 &&& (65535 : Int32)).toUInt32.toUInt16.toUInt32.toInt32))]))
    obtain ⟨c0, r0, ec0⟩ : ∃ z : Int32, own_c16 z ∧ ((p2 &&& (65535 : Int32)).toUInt32.toUInt16.toUInt32.toInt32) = z := ⟨_, own_c65 _, rfl⟩
    rw [ec0]
    show own_gc p e below s _ _ _ _ _ (s₁.setTop (mkF m 10 #[.val (.int p1), .val (.int p2), .val (.int p3), .val (.int p4), .val (.int 0), .unset, .unset, .unset, .unset, .unset] [(.int c0)]))
    refine own_ofc (fun tt_ => XS.istore X0.here hx rfl (hb hby at_10) rfl (l' := #[.val (.int p1), .val (.int p2), .val (.int p3), .val (.int p4), .val (.int 0), .val (.int c0), .unset, .unset, .unset, .unset]) rfl) ?_
    refine own_ofc (fun tt_ => XS.iloadN X0.here hx rfl (hb hby at_12) rfl) ?_
    refine own_ofc (fun tt_ => X0.ldcI hx hown (mvT hZ (hW 0 _ rfl)) rfl (hb hby at_13)) ?_
    show own_gc p e below s _ _ _ _ _ (s₁.setTop (mkF m 15 #[.val (.int p1), .val (.int p2), .val (.int p3), .val (.int p4), .val (.int 0), .val (.int c0), .unset, .unset, .unset, .unset] [(.int 65535), (.int p3)]))
    refine own_ofc (fun tt_ => XS.iand X0.here hx rfl (hb hby at_15) rfl) ?_
    show own_gc p e below s _ _ _ _ _ (s₁.setTop (mkF m 16 #[.val (.int p1), .val (.int p2), .val (.int p3), .val (.int p4), .val (.int 0), .val (.int c0), .unset, .unset, .unset, .unset] [(.int (p3 &&& (65535 : Int32)))]))
    refine own_ofc (fun tt_ => XS.i2c X0.here hx rfl (hb hby at_16) rfl) ?_
    show own_gc p e below s _ _ _ _ _ (s₁.setTop (mkF m 17 #[.val (.int p1), .val (.int p2), .val (.int p3), .val (.int p4), .val (.int 0), .val (.int c0), .unset, .unset, .unset, .unset] [(.int ((p3 &&& (65535 : Int32)).toUInt32.toUInt16.toUInt32.toInt32))]))
    obtain ⟨c1, r1, ec1⟩ : ∃ z : Int32, own_c16 z ∧ ((p3 &&& (65535 : Int32)).toUInt32.toUInt16.toUInt32.toInt32) = z := ⟨_, own_c65 _, rfl⟩
    rw [ec1]
    show own_gc p e below s _ _ _ _ _ (s₁.setTop (mkF m 17 #[.val (.int p1), .val (.int p2), .val (.int p3), .val (.int p4), .val (.int 0), .val (.int c0), .unset, .unset, .unset, .unset] [(.int c1)]))
    refine own_ofc (fun tt_ => XS.istore X0.here hx rfl (hb hby at_17) rfl (l' := #[.val (.int p1), .val (.int p2), .val (.int p3), .val (.int p4), .val (.int 0), .val (.int c0), .val (.int c1), .unset, .unset, .unset]) rfl) ?_
    refine own_ofc (fun tt_ => XS.iloadN X0.here hx rfl (hb hby at_19) rfl) ?_
    refine own_ofc (fun tt_ => X0.ldcI hx hown (mvT hZ (hW 0 _ rfl)) rfl (hb hby at_20)) ?_
    show own_gc p e below s _ _ _ _ _ (s₁.setTop (mkF m 22 #[.val (.int p1), .val (.int p2), .val (.int p3), .val (.int p4), .val (.int 0), .val (.int c0), .val (.int c1), .unset, .unset, .unset] [(.int 65535), (.int p4)]))
    refine own_ofc (fun tt_ => XS.iand X0.here hx rfl (hb hby at_22) rfl) ?_
    show own_gc p e below s _ _ _ _ _ (s₁.setTop (mkF m 23 #[.val (.int p1), .val (.int p2), .val (.int p3), .val (.int p4), .val (.int 0), .val (.int c0), .val (.int c1), .unset, .unset, .unset] [(.int (p4 &&& (65535 : Int32)))]))
    refine own_ofc (fun tt_ => XS.i2c X0.here hx rfl (hb hby at_23) rfl) ?_
    show own_gc p e below s _ _ _ _ _ (s₁.setTop (mkF m 24 #[.val (.int p1), .val (.int p2), .val (.int p3), .val (.int p4), .val (.int 0), .val (.int c0), .val (.int c1), .unset, .unset, .unset] [(.int ((p4 &&& (65535 : Int32)).toUInt32.toUInt16.toUInt32.toInt32))]))
    obtain ⟨c2, r2, ec2⟩ : ∃ z : Int32, own_c16 z ∧ ((p4 &&& (65535 : Int32)).toUInt32.toUInt16.toUInt32.toInt32) = z := ⟨_, own_c65 _, rfl⟩
    rw [ec2]
    show own_gc p e below s _ _ _ _ _ (s₁.setTop (mkF m 24 #[.val (.int p1), .val (.int p2), .val (.int p3), .val (.int p4), .val (.int 0), .val (.int c0), .val (.int c1), .unset, .unset, .unset] [(.int c2)]))
    refine own_ofc (fun tt_ => XS.istore X0.here hx rfl (hb hby at_24) rfl (l' := #[.val (.int p1), .val (.int p2), .val (.int p3), .val (.int p4), .val (.int 0), .val (.int c0), .val (.int c1), .val (.int c2), .unset, .unset]) rfl) ?_
    refine own_ofc (fun tt_ => XS.iload X0.here hx rfl (hb hby at_26) rfl) ?_
    have hb28_1 : (0 : Int32) = (0 : Int32) := by decide
    refine own_ofc (fun tt_ => XS.ifNo X0.here hx rfl (hb hby at_28) rfl ((if0 _ _).trans (teq hb28_1).2)) ?_
    show own_gc p e below s _ _ _ _ _ (s₁.setTop (mkF m 31 #[.val (.int p1), .val (.int p2), .val (.int p3), .val (.int p4), .val (.int 0), .val (.int c0), .val (.int c1), .val (.int c2), .unset, .unset] []))
    obtain ⟨T2, h2, X2, e2, E2, A2, D2, -, st2⟩ := newO X0 hx hZ hown (hW 1 _ rfl) (hW 2 _ rfl) (hW 3 _ rfl) e0 (g := (mkF m 31 #[.val (.int p1), .val (.int p2), .val (.int p3), .val (.int p4), .val (.int 0), .val (.int c0), .val (.int c1), .val (.int c2), .unset, .unset] [])) rfl (hb hby at_31) (by decide) (by decide)
    obtain ⟨b2, g2⟩ : ∃ z, z = h0.size := ⟨_, rfl⟩
    rw [← g2] at A2 D2 st2
    refine own_ofc st2 ?_
    have lt2 := own_lt A2.lt
    have sz2 : h0.size ≤ h2.size := E2.1
    have O2 : Old Z n0 h2 := XO0.ext E2
    have z2 : n0 ≤ b2 := by have := XO0.1 ▸ XO0.2.1; omega
    have CHs2 := CHr.ext E2 CH0.1
    have Sf2 := Safe.ext E2 CH0.1 (Safe.new (Nat.le_of_eq g2.symm))
    have CH2 := CH0.trans CHs2
    have F2_value : Fld Z h2 b2 "java/lang/String" "value" "[B" .null := D2 (Or.inr (hW 17 _ rfl)) (ty := (.array .byte)) pf_1
    have F2_coder : Fld Z h2 b2 "java/lang/String" "coder" "B" (.int 0) := D2 (Or.inr (hW 18 _ rfl)) (ty := .byte) pf_0
    show own_gc p e below s _ _ _ _ _ (T2.setTop (mkF m 34 #[.val (.int p1), .val (.int p2), .val (.int p3), .val (.int p4), .val (.int 0), .val (.int c0), .val (.int c1), .val (.int c2), .unset, .unset] [(.ref b2)]))
    refine own_ofc (fun tt_ => XS.dup X2.here hx rfl (hb hby at_34) rfl rfl) ?_
    refine own_ofc (fun tt_ => XS.iconst X2.here hx rfl (hb hby at_35)) ?_
    obtain ⟨T3, h3, k3, X3, e3, E3, A3, st3⟩ := newP X2 hx hZ (hW 4 _ rfl) e2 (g := (mkF m 36 #[.val (.int p1), .val (.int p2), .val (.int p3), .val (.int p4), .val (.int 0), .val (.int c0), .val (.int c1), .val (.int c2), .unset, .unset] [(.int 0), (.ref b2), (.ref b2)])) rfl (hb hby at_36) rfl (by decide) (cap := 0) (by decide) (by decide) (by decide) (by decide)
    obtain ⟨b3, g3⟩ : ∃ z, z = h2.size := ⟨_, rfl⟩
    rw [← g3] at A3 st3
    refine own_ofc st3 ?_
    have lt3 := own_lt A3.lt
    have sz3 : h2.size ≤ h3.size := E3.1
    have O3 : Old Z n0 h3 := O2.ext E3
    have z3 : n0 ≤ b3 := by have := O2.1 ▸ O2.2.1; omega
    have CHs3 := CHr.ext E3 CH2.1
    have Sf3 := Safe.ext E3 CH2.1 (Safe.new (Nat.le_of_eq g3.symm))
    have CH3 := CH2.trans CHs3
    have V3 : Arv Z h3 b3 k3 .char (0 : Int32) [] (.int 0) := Arv.new A3 (by decide)
    show own_gc p e below s _ _ _ _ _ (T3.setTop (mkF m 38 #[.val (.int p1), .val (.int p2), .val (.int p3), .val (.int p4), .val (.int 0), .val (.int c0), .val (.int c1), .val (.int c2), .unset, .unset] [(.ref b3), (.ref b2), (.ref b2)]))
    have f4 : Exa Z h3 b2 "java/lang/String" := (A2.ext E3)
    have f5 : Fld Z h3 b2 "java/lang/String" "value" "[B" .null := (F2_value.ext E3)
    have f6 : Fld Z h3 b2 "java/lang/String" "coder" "B" (.int 0) := (F2_coder.ext E3)
    obtain ⟨_, _, ⟨T7, L7, k7, n7⟩, -, Xr7, hSr7, hgr7, ⟨Lc7, hQ7, l7, y7, z7, CHs7⟩, st7⟩ := X3.specialBackS hx (y := ym12) rfl hown (mvT hZ (hW 5 _ rfl)) (mvT hZ (hW 6 _ rfl)) (mvT hZ (hW 7 _ rfl)) (by decide) (backOfSH (W := 1) (rmN1 l Z a0 hw [] b2 b3 k3 h3 n0 hEL O3 (by omega) f4 f5 f6 V3) hZ (hW 7 _ rfl) (hW 3 _ rfl) (by decide) (by decide) hEL CH3.1) (g := (mkF m 38 #[.val (.int p1), .val (.int p2), .val (.int p3), .val (.int p4), .val (.int 0), .val (.int c0), .val (.int c1), .val (.int c2), .unset, .unset] [(.ref b3), (.ref b2), (.ref b2)])) rfl (by rw [hml]; rfl) (Steps.refl _) (a := b2) (argsL := [(.ref b3)]) (rest := [(.ref b2)]) (lenOf pd_16 rfl) rfl (by show 2 * 0 + _ ≤ _; exact Nat.le_of_eq rfl) (hb hby at_38) (fun _ _ => ⟨rfl, e3, (by decide : 2 + 4 ≤ _), (by decide : 4 + 8 ≤ _)⟩)
    dsimp only [Pt.U, Pt.locs, Pt.cells, Pt.slots] at Xr7 l7 y7 z7 st7 hQ7 hSr7 hgr7 CHs7
    obtain ⟨X7, hS7, hZ7, hown7⟩ := rebS hS0 (by rw [e3]; omega : 0 ≤ T3.heap.size) Xr7 hSr7 hgr7 hZ hown
    subst l7 y7 z7
    obtain ⟨rfl, Nq7, Kp7, Sx7⟩ := hQ7
    have N7 := Fr.app N0 Nq7
    refine own_ofc (fun tt_ kk_ => st7.trans kk_) ?_
    have CH7 := CH3.trans CHs7
    have sz7 : h3.size ≤ T7.heap.size := Kp7.1
    have O7 : Old Z n0 T7.heap := O3.keep Kp7 (allS (by omega) all0)
    have Ex7 : Exa Z T7.heap b2 "java/lang/String" := by obtain ⟨_, _, _, _, q, -⟩ := id Sx7; exact q
    obtain ⟨tq8, kq8, Eq8, Vq8, Cq8, Aq8⟩ := own_str.opened Sx7
    show own_gc p e below s _ _ _ _ _ (T7.setTop (mkF m 41 #[.val (.int p1), .val (.int p2), .val (.int p3), .val (.int p4), .val (.int 0), .val (.int c0), .val (.int c1), .val (.int c2), .unset, .unset] [(.ref b2)]))
    refine own_ofc (fun tt_ => XS.astore X7.here hx rfl (hb hby at_41) rfl rfl (l' := #[.val (.int p1), .val (.int p2), .val (.int p3), .val (.int p4), .val (.int 0), .val (.int c0), .val (.int c1), .val (.int c2), .val (.ref b2), .unset]) rfl) ?_
    refine own_ofc (fun tt_ => XS.goto X7.here hx rfl (pc0 := 43) (pc' := 130) rfl (hb hby at_43) (by decide) (by decide)) ?_
    refine own_ofc (fun tt_ => XS.iload X7.here hx rfl (hb hby at_130) rfl) ?_
    have hb132_9 : ¬ ((0 : Int32) < (0 : Int32)) := by decide
    refine own_ofc (fun tt_ => XS.ifYes X7.here hx rfl (pc0 := 132) (pc' := 175) rfl (hb hby at_132) rfl ((if0 _ _).trans (flt hb132_9).2.2.2) (by decide) (by decide)) ?_
    show own_gc p e below s _ _ _ _ _ (T7.setTop (mkF m 175 #[.val (.int p1), .val (.int p2), .val (.int p3), .val (.int p4), .val (.int 0), .val (.int c0), .val (.int c1), .val (.int c2), .val (.ref b2), .unset] []))
    refine own_ofc (fun tt_ => XS.iconst X7.here hx rfl (hb hby at_175)) ?_
    refine own_ofc (fun tt_ => XS.istore X7.here hx rfl (hb hby at_176) rfl (l' := #[.val (.int p1), .val (.int p2), .val (.int p3), .val (.int p4), .val (.int 0), .val (.int c0), .val (.int c1), .val (.int c2), .val (.ref b2), .val (.int 0)]) rfl) ?_
    refine own_ofc (fun tt_ => XS.aload X7.here hx rfl (hb hby at_178) rfl rfl) ?_
    show own_gc p e below s _ _ _ _ _ (T7.setTop (mkF m 180 #[.val (.int p1), .val (.int p2), .val (.int p3), .val (.int p4), .val (.int 0), .val (.int c0), .val (.int c1), .val (.int c2), .val (.ref b2), .val (.int 0)] [(.ref b2)]))
    obtain ⟨_, _, ⟨T10, L10, k10, n10⟩, -, X10, ⟨Lc10, hQ10, l10, y10, z10⟩, st10⟩ := Jvm.LawKit.callS X7 hx (y := ym3) hown7 (mvT hZ7 (hW 23 _ rfl)) (mvT hZ7 (hW 24 _ rfl)) (mvT hZ7 (hW 25 _ rfl)) (mvT hZ7 (hW 26 _ rfl)) (by decide) (backOf (W := 0) (rmZ_0 l Z a0 hw [] b2 tq8 kq8  Gc fm T7.heap n0 O7 S_ad S_hi S_lo Oc Pc S_f r_f Eq8 Vq8 ⟨Cq8, Aq8⟩ ) hZ7 (hW 26 _ rfl) (hW 25 _ rfl) (by decide) (by decide)) (g := (mkF m 180 #[.val (.int p1), .val (.int p2), .val (.int p3), .val (.int p4), .val (.int 0), .val (.int c0), .val (.int c1), .val (.int c2), .val (.ref b2), .val (.int 0)] [(.ref b2)])) rfl (by rw [hml]; rfl) (argsL := [(.ref b2)]) (rest := []) (lenOf pd_17 rfl) rfl (by show 2 * 0 + _ ≤ _; exact Nat.le_of_eq rfl) (hb hby at_180) (fun _ _ => ⟨rfl, rfl, (by decide : 6 + 0 ≤ _), (by decide : 12 + 0 ≤ _)⟩)
    dsimp only [Pt.U, Pt.locs, Pt.cells, Pt.slots] at X10 l10 y10 z10 st10 hQ10
    subst l10 y10 z10
    obtain ⟨rfl, Nq10, eh10⟩ := hQ10
    have N10 := Fr.app N7 Nq10
    refine own_ofc st10 ?_
    show own_gc p e below s _ _ _ _ _ (T10.setTop (mkF m 183 #[.val (.int p1), .val (.int p2), .val (.int p3), .val (.int p4), .val (.int 0), .val (.int c0), .val (.int c1), .val (.int c2), .val (.ref b2), .val (.int 0)] [(.int 0)]))
    refine own_ofc (fun tt_ => XS.iload X10.here hx rfl (hb hby at_183) rfl) ?_
    have hb185_11 : (0 : Int32) = (0 : Int32) := rfl
    refine own_ofc (fun tt_ => XS.icmpNo X10.here hx rfl (hb hby at_185) rfl (teq hb185_11).2) ?_
    show own_gc p e below s _ _ _ _ _ (T10.setTop (mkF m 188 #[.val (.int p1), .val (.int p2), .val (.int p3), .val (.int p4), .val (.int 0), .val (.int c0), .val (.int c1), .val (.int c2), .val (.ref b2), .val (.int 0)] []))
    refine own_ofc (fun tt_ => XS.iconst X10.here hx rfl (hb hby at_188)) ?_
    refine own_ofc (fun tt_ => XS.goto X10.here hx rfl (pc0 := 189) (pc' := 193) rfl (hb hby at_189) (by decide) (by decide)) ?_
    show own_gc p e below s _ _ _ _ _ (T10.setTop (mkF m 193 #[.val (.int p1), .val (.int p2), .val (.int p3), .val (.int p4), .val (.int 0), .val (.int c0), .val (.int c1), .val (.int c2), .val (.ref b2), .val (.int 0)] [(.int 1)]))
    refine own_retc X10 hx hlk hS7 (by rw [eh10]; omega : T7.heap.size ≤ T10.heap.size) hZ7 hEL (by rw [eh10]; exact CH7) Bd.returns rfl (Or.inl ⟨rfl, by simp, _, rfl⟩) (hb hby at_193) (by decide) (by decide) ?_
    rw [eh10]
    exact ⟨rfl, N10⟩
  · rw [hk]
    show own_gc p e below s _ _ _ _ _ (s₁.setTop (mkF m 3 #[.val (.int p1), .val (.int p2), .val (.int p3), .val (.int p4), .unset, .unset, .unset, .unset, .unset, .unset] [(.int 1)]))
    refine own_ofc (fun tt_ => XS.istore X0.here hx rfl (hb hby at_3) rfl (l' := #[.val (.int p1), .val (.int p2), .val (.int p3), .val (.int p4), .val (.int 1), .unset, .unset, .unset, .unset, .unset]) rfl) ?_
    refine own_ofc (fun tt_ => XS.iloadN X0.here hx rfl (hb hby at_5) rfl) ?_
    refine own_ofc (fun tt_ => X0.ldcI hx hown (mvT hZ (hW 0 _ rfl)) rfl (hb hby at_6)) ?_
    show own_gc p e below s _ _ _ _ _ (s₁.setTop (mkF m 8 #[.val (.int p1), .val (.int p2), .val (.int p3), .val (.int p4), .val (.int 1), .unset, .unset, .unset, .unset, .unset] [(.int 65535), (.int p2)]))
    refine own_ofc (fun tt_ => XS.iand X0.here hx rfl (hb hby at_8) rfl) ?_
    show own_gc p e below s _ _ _ _ _ (s₁.setTop (mkF m 9 #[.val (.int p1), .val (.int p2), .val (.int p3), .val (.int p4), .val (.int 1), .unset, .unset, .unset, .unset, .unset] [(.int (p2 &&& (65535 : Int32)))]))
    refine own_ofc (fun tt_ => XS.i2c X0.here hx rfl (hb hby at_9) rfl) ?_
    show own_gc p e below s _ _ _ _ _ (s₁.setTop (mkF m 10 #[.val (.int p1), .val (.int p2), .val (.int p3), .val (.int p4), .val (.int 1), .unset, .unset, .unset, .unset, .unset] [(.int ((p2 &&& (65535 : Int32)).toUInt32.toUInt16.toUInt32.toInt32))]))
    obtain ⟨c0, r0, ec0⟩ : ∃ z : Int32, own_c16 z ∧ ((p2 &&& (65535 : Int32)).toUInt32.toUInt16.toUInt32.toInt32) = z := ⟨_, own_c65 _, rfl⟩
    rw [ec0]
    show own_gc p e below s _ _ _ _ _ (s₁.setTop (mkF m 10 #[.val (.int p1), .val (.int p2), .val (.int p3), .val (.int p4), .val (.int 1), .unset, .unset, .unset, .unset, .unset] [(.int c0)]))
    refine own_ofc (fun tt_ => XS.istore X0.here hx rfl (hb hby at_10) rfl (l' := #[.val (.int p1), .val (.int p2), .val (.int p3), .val (.int p4), .val (.int 1), .val (.int c0), .unset, .unset, .unset, .unset]) rfl) ?_
    refine own_ofc (fun tt_ => XS.iloadN X0.here hx rfl (hb hby at_12) rfl) ?_
    refine own_ofc (fun tt_ => X0.ldcI hx hown (mvT hZ (hW 0 _ rfl)) rfl (hb hby at_13)) ?_
    show own_gc p e below s _ _ _ _ _ (s₁.setTop (mkF m 15 #[.val (.int p1), .val (.int p2), .val (.int p3), .val (.int p4), .val (.int 1), .val (.int c0), .unset, .unset, .unset, .unset] [(.int 65535), (.int p3)]))
    refine own_ofc (fun tt_ => XS.iand X0.here hx rfl (hb hby at_15) rfl) ?_
    show own_gc p e below s _ _ _ _ _ (s₁.setTop (mkF m 16 #[.val (.int p1), .val (.int p2), .val (.int p3), .val (.int p4), .val (.int 1), .val (.int c0), .unset, .unset, .unset, .unset] [(.int (p3 &&& (65535 : Int32)))]))
    refine own_ofc (fun tt_ => XS.i2c X0.here hx rfl (hb hby at_16) rfl) ?_
    show own_gc p e below s _ _ _ _ _ (s₁.setTop (mkF m 17 #[.val (.int p1), .val (.int p2), .val (.int p3), .val (.int p4), .val (.int 1), .val (.int c0), .unset, .unset, .unset, .unset] [(.int ((p3 &&& (65535 : Int32)).toUInt32.toUInt16.toUInt32.toInt32))]))
    obtain ⟨c1, r1, ec1⟩ : ∃ z : Int32, own_c16 z ∧ ((p3 &&& (65535 : Int32)).toUInt32.toUInt16.toUInt32.toInt32) = z := ⟨_, own_c65 _, rfl⟩
    rw [ec1]
    show own_gc p e below s _ _ _ _ _ (s₁.setTop (mkF m 17 #[.val (.int p1), .val (.int p2), .val (.int p3), .val (.int p4), .val (.int 1), .val (.int c0), .unset, .unset, .unset, .unset] [(.int c1)]))
    refine own_ofc (fun tt_ => XS.istore X0.here hx rfl (hb hby at_17) rfl (l' := #[.val (.int p1), .val (.int p2), .val (.int p3), .val (.int p4), .val (.int 1), .val (.int c0), .val (.int c1), .unset, .unset, .unset]) rfl) ?_
    refine own_ofc (fun tt_ => XS.iloadN X0.here hx rfl (hb hby at_19) rfl) ?_
    refine own_ofc (fun tt_ => X0.ldcI hx hown (mvT hZ (hW 0 _ rfl)) rfl (hb hby at_20)) ?_
    show own_gc p e below s _ _ _ _ _ (s₁.setTop (mkF m 22 #[.val (.int p1), .val (.int p2), .val (.int p3), .val (.int p4), .val (.int 1), .val (.int c0), .val (.int c1), .unset, .unset, .unset] [(.int 65535), (.int p4)]))
    refine own_ofc (fun tt_ => XS.iand X0.here hx rfl (hb hby at_22) rfl) ?_
    show own_gc p e below s _ _ _ _ _ (s₁.setTop (mkF m 23 #[.val (.int p1), .val (.int p2), .val (.int p3), .val (.int p4), .val (.int 1), .val (.int c0), .val (.int c1), .unset, .unset, .unset] [(.int (p4 &&& (65535 : Int32)))]))
    refine own_ofc (fun tt_ => XS.i2c X0.here hx rfl (hb hby at_23) rfl) ?_
    show own_gc p e below s _ _ _ _ _ (s₁.setTop (mkF m 24 #[.val (.int p1), .val (.int p2), .val (.int p3), .val (.int p4), .val (.int 1), .val (.int c0), .val (.int c1), .unset, .unset, .unset] [(.int ((p4 &&& (65535 : Int32)).toUInt32.toUInt16.toUInt32.toInt32))]))
    obtain ⟨c2, r2, ec2⟩ : ∃ z : Int32, own_c16 z ∧ ((p4 &&& (65535 : Int32)).toUInt32.toUInt16.toUInt32.toInt32) = z := ⟨_, own_c65 _, rfl⟩
    rw [ec2]
    show own_gc p e below s _ _ _ _ _ (s₁.setTop (mkF m 24 #[.val (.int p1), .val (.int p2), .val (.int p3), .val (.int p4), .val (.int 1), .val (.int c0), .val (.int c1), .unset, .unset, .unset] [(.int c2)]))
    refine own_ofc (fun tt_ => XS.istore X0.here hx rfl (hb hby at_24) rfl (l' := #[.val (.int p1), .val (.int p2), .val (.int p3), .val (.int p4), .val (.int 1), .val (.int c0), .val (.int c1), .val (.int c2), .unset, .unset]) rfl) ?_
    refine own_ofc (fun tt_ => XS.iload X0.here hx rfl (hb hby at_26) rfl) ?_
    have hb28_12 : ¬ ((1 : Int32) = (0 : Int32)) := by decide
    refine own_ofc (fun tt_ => XS.ifYes X0.here hx rfl (pc0 := 28) (pc' := 46) rfl (hb hby at_28) rfl ((if0 _ _).trans (feq hb28_12).2) (by decide) (by decide)) ?_
    show own_gc p e below s _ _ _ _ _ (s₁.setTop (mkF m 46 #[.val (.int p1), .val (.int p2), .val (.int p3), .val (.int p4), .val (.int 1), .val (.int c0), .val (.int c1), .val (.int c2), .unset, .unset] []))
    refine own_ofc (fun tt_ => XS.iload X0.here hx rfl (hb hby at_46) rfl) ?_
    refine own_ofc (fun tt_ => XS.iconst X0.here hx rfl (hb hby at_48)) ?_
    have hb49_13 : (1 : Int32) = (1 : Int32) := by decide
    refine own_ofc (fun tt_ => XS.icmpNo X0.here hx rfl (hb hby at_49) rfl (teq hb49_13).2) ?_
    show own_gc p e below s _ _ _ _ _ (s₁.setTop (mkF m 52 #[.val (.int p1), .val (.int p2), .val (.int p3), .val (.int p4), .val (.int 1), .val (.int c0), .val (.int c1), .val (.int c2), .unset, .unset] []))
    obtain ⟨T14, h14, X14, e14, E14, A14, D14, -, st14⟩ := newO X0 hx hZ hown (hW 1 _ rfl) (hW 2 _ rfl) (hW 3 _ rfl) e0 (g := (mkF m 52 #[.val (.int p1), .val (.int p2), .val (.int p3), .val (.int p4), .val (.int 1), .val (.int c0), .val (.int c1), .val (.int c2), .unset, .unset] [])) rfl (hb hby at_52) (by decide) (by decide)
    obtain ⟨b14, g14⟩ : ∃ z, z = h0.size := ⟨_, rfl⟩
    rw [← g14] at A14 D14 st14
    refine own_ofc st14 ?_
    have lt14 := own_lt A14.lt
    have sz14 : h0.size ≤ h14.size := E14.1
    have O14 : Old Z n0 h14 := XO0.ext E14
    have z14 : n0 ≤ b14 := by have := XO0.1 ▸ XO0.2.1; omega
    have CHs14 := CHr.ext E14 CH0.1
    have Sf14 := Safe.ext E14 CH0.1 (Safe.new (Nat.le_of_eq g14.symm))
    have CH14 := CH0.trans CHs14
    have F14_value : Fld Z h14 b14 "java/lang/String" "value" "[B" .null := D14 (Or.inr (hW 17 _ rfl)) (ty := (.array .byte)) pf_1
    have F14_coder : Fld Z h14 b14 "java/lang/String" "coder" "B" (.int 0) := D14 (Or.inr (hW 18 _ rfl)) (ty := .byte) pf_0
    show own_gc p e below s _ _ _ _ _ (T14.setTop (mkF m 55 #[.val (.int p1), .val (.int p2), .val (.int p3), .val (.int p4), .val (.int 1), .val (.int c0), .val (.int c1), .val (.int c2), .unset, .unset] [(.ref b14)]))
    refine own_ofc (fun tt_ => XS.dup X14.here hx rfl (hb hby at_55) rfl rfl) ?_
    refine own_ofc (fun tt_ => XS.iconst X14.here hx rfl (hb hby at_56)) ?_
    obtain ⟨T15, h15, k15, X15, e15, E15, A15, st15⟩ := newP X14 hx hZ (hW 4 _ rfl) e14 (g := (mkF m 57 #[.val (.int p1), .val (.int p2), .val (.int p3), .val (.int p4), .val (.int 1), .val (.int c0), .val (.int c1), .val (.int c2), .unset, .unset] [(.int 1), (.ref b14), (.ref b14)])) rfl (hb hby at_57) rfl (by decide) (cap := 1) (by decide) (by decide) (by decide) (by decide)
    obtain ⟨b15, g15⟩ : ∃ z, z = h14.size := ⟨_, rfl⟩
    rw [← g15] at A15 st15
    refine own_ofc st15 ?_
    have lt15 := own_lt A15.lt
    have sz15 : h14.size ≤ h15.size := E15.1
    have O15 : Old Z n0 h15 := O14.ext E15
    have z15 : n0 ≤ b15 := by have := O14.1 ▸ O14.2.1; omega
    have CHs15 := CHr.ext E15 CH14.1
    have Sf15 := Safe.ext E15 CH14.1 (Safe.new (Nat.le_of_eq g15.symm))
    have CH15 := CH14.trans CHs15
    have V15 : Arv Z h15 b15 k15 .char (1 : Int32) [(.int 0)] (.int 0) := (Arv.new A15 (by decide)).pad (pad_rep [] (.int 0) 1)
    show own_gc p e below s _ _ _ _ _ (T15.setTop (mkF m 59 #[.val (.int p1), .val (.int p2), .val (.int p3), .val (.int p4), .val (.int 1), .val (.int c0), .val (.int c1), .val (.int c2), .unset, .unset] [(.ref b15), (.ref b14), (.ref b14)]))
    refine own_ofc (fun tt_ => XS.dup X15.here hx rfl (hb hby at_59) rfl rfl) ?_
    refine own_ofc (fun tt_ => XS.iconst X15.here hx rfl (hb hby at_60)) ?_
    refine own_ofc (fun tt_ => XS.iload X15.here hx rfl (hb hby at_61) rfl) ?_
    obtain ⟨cl16, Ar16, q16, S16, Ng16, H16, G16⟩ := V15
    obtain ⟨T16, h16, X16, e16, W16, st16⟩ := stC X15 hx hZ e15 Ar16 (j := (0 : Int32)) (inb_of S16 ⟨by decide, by decide⟩) (g := (mkF m 63 #[.val (.int p1), .val (.int p2), .val (.int p3), .val (.int p4), .val (.int 1), .val (.int c0), .val (.int c1), .val (.int c2), .unset, .unset] [(.int c0), (.int 0), (.ref b15), (.ref b15), (.ref b14), (.ref b14)])) rfl rfl (hb hby at_63)
    have V16 : Arv Z h16 b15 k15 .char (1 : Int32) [(.int (nar .char c0))] (.int 0) := Arv.set Ar16 q16 S16 Ng16 H16 G16 (fits_nar_char _) W16 0 rfl (Nat.le_of_ble_eq_true rfl)
    rw [own_nar16 r0] at V16
    refine own_ofc st16 ?_
    have CHs16 := CHr.wr W16 Sf15 CH15.1
    have CH16 := CH15.trans CHs16
    have N16 := Fr.snoc X16 N0 (by omega : n0 ≤ b15)
    have sz16 : h16.size = h15.size := W16.size
    have O16 : Old Z n0 h16 := O15.wr W16 (by omega)
    show own_gc p e below s _ _ _ _ _ (T16.setTop (mkF m 64 #[.val (.int p1), .val (.int p2), .val (.int p3), .val (.int p4), .val (.int 1), .val (.int c0), .val (.int c1), .val (.int c2), .unset, .unset] [(.ref b15), (.ref b14), (.ref b14)]))
    by_cases hbig : (255 : Int32) < c0
    · have f17 : Exa Z h16 b14 "java/lang/String" := ((A14.ext E15).wr W16)
      have f18 : Fld Z h16 b14 "java/lang/String" "value" "[B" .null := ((F14_value.ext E15).other W16 (Or.inl (own_ne (by omega))))
      have f19 : Fld Z h16 b14 "java/lang/String" "coder" "B" (.int 0) := ((F14_coder.ext E15).other W16 (Or.inl (own_ne (by omega))))
      obtain ⟨_, _, ⟨T20, L20, k20, n20⟩, -, X20, ⟨Lc20, hQ20, l20, y20, z20⟩, st20⟩ := X16.specialBack hx (y := ym12) rfl hown (mvT hZ (hW 5 _ rfl)) (mvT hZ (hW 6 _ rfl)) (mvT hZ (hW 7 _ rfl)) (by decide) (backOf (W := 1) (rmW1_1 l Z a0 hw [] b14 b15 k15 c0 Gc h16 n0 O16 S_ad S_hi S_lo Oc Pc (by omega) f17 f18 f19 V16 r0 hbig) hZ (hW 7 _ rfl) (hW 3 _ rfl) (by decide) (by decide)) (g := (mkF m 64 #[.val (.int p1), .val (.int p2), .val (.int p3), .val (.int p4), .val (.int 1), .val (.int c0), .val (.int c1), .val (.int c2), .unset, .unset] [(.ref b15), (.ref b14), (.ref b14)])) rfl (by rw [hml]; rfl) (Steps.refl _) (a := b14) (argsL := [(.ref b15)]) (rest := [(.ref b14)]) (lenOf pd_16 rfl) rfl (by show 2 * 0 + _ ≤ _; exact Nat.le_of_eq rfl) (hb hby at_64) (fun _ _ => ⟨rfl, e16, (by decide : 2 + 2 ≤ _), (by decide : 5 + 3 ≤ _)⟩)
      dsimp only [Pt.U, Pt.locs, Pt.cells, Pt.slots] at X20 l20 y20 z20 st20 hQ20
      subst l20 y20 z20
      obtain ⟨rfl, Nq20, Kp20, t20, kb20, Ew20, Vw20, Cw20, Aw20, gw20, nw20⟩ := hQ20
      have N20 := Fr.app N16 Nq20
      refine own_ofc (fun tt_ kk_ => st20.trans kk_) ?_
      have f21 := (CHs16.safe (own_lt (by omega)) (CHs15.safe (own_lt (by omega)) Sf14))
      have CHs20 := CHr.keep Kp20 (allS f21 all0) CH16.1
      have CH20 := CH16.trans CHs20
      have sz20 : h16.size ≤ T20.heap.size := Kp20.1
      have O20 : Old Z n0 T20.heap := O16.keep Kp20 (allS (by omega) all0)
      show own_gc p e below s _ _ _ _ _ (T20.setTop (mkF m 67 #[.val (.int p1), .val (.int p2), .val (.int p3), .val (.int p4), .val (.int 1), .val (.int c0), .val (.int c1), .val (.int c2), .unset, .unset] [(.ref b14)]))
      refine own_ofc (fun tt_ => XS.astore X20.here hx rfl (hb hby at_67) rfl rfl (l' := #[.val (.int p1), .val (.int p2), .val (.int p3), .val (.int p4), .val (.int 1), .val (.int c0), .val (.int c1), .val (.int c2), .val (.ref b14), .unset]) rfl) ?_
      refine own_ofc (fun tt_ => XS.goto X20.here hx rfl (pc0 := 69) (pc' := 130) rfl (hb hby at_69) (by decide) (by decide)) ?_
      refine own_ofc (fun tt_ => XS.iload X20.here hx rfl (hb hby at_130) rfl) ?_
      have hb132_22 : (0 : Int32) < (1 : Int32) := by decide
      refine own_ofc (fun tt_ => XS.ifNo X20.here hx rfl (hb hby at_132) rfl ((if0 _ _).trans (tlt hb132_22).2.2.2)) ?_
      show own_gc p e below s _ _ _ _ _ (T20.setTop (mkF m 135 #[.val (.int p1), .val (.int p2), .val (.int p3), .val (.int p4), .val (.int 1), .val (.int c0), .val (.int c1), .val (.int c2), .val (.ref b14), .unset] []))
      refine own_ofc (fun tt_ => XS.iload X20.here hx rfl (hb hby at_135) rfl) ?_
      show own_gc p e below s _ _ _ _ _ (T20.setTop (mkF m 137 #[.val (.int p1), .val (.int p2), .val (.int p3), .val (.int p4), .val (.int 1), .val (.int c0), .val (.int c1), .val (.int c2), .val (.ref b14), .unset] [(.int c0)]))
      obtain ⟨_, _, ⟨T23, L23, k23, n23⟩, -, X23, ⟨Lc23, hQ23, l23, y23, z23⟩, st23⟩ := Jvm.LawKit.callS X20 hx (y := ym8) hown (mvT hZ (hW 43 _ rfl)) (mvT hZ (hW 44 _ rfl)) (mvT hZ (hW 45 _ rfl)) (mvT hZ (hW 46 _ rfl)) (by decide) (backOf (W := 0) (rmOk l Z a0 hw [] c0 T20.heap n0 O20) hZ (hW 46 _ rfl) (hW 45 _ rfl) (by decide) (by decide)) (g := (mkF m 137 #[.val (.int p1), .val (.int p2), .val (.int p3), .val (.int p4), .val (.int 1), .val (.int c0), .val (.int c1), .val (.int c2), .val (.ref b14), .unset] [(.int c0)])) rfl (by rw [hml]; rfl) (argsL := [(.int c0)]) (rest := []) (lenOf pd_18 rfl) rfl (by show 2 * 0 + _ ≤ _; exact Nat.le_of_eq rfl) (hb hby at_137) (fun _ _ => ⟨rfl, rfl, (by decide : 4 + 0 ≤ _), (by decide : 8 + 0 ≤ _)⟩)
      dsimp only [Pt.U, Pt.locs, Pt.cells, Pt.slots] at X23 l23 y23 z23 st23 hQ23
      subst l23 y23 z23
      obtain ⟨rfl, Nq23, eh23⟩ := hQ23
      have N23 := Fr.app N20 Nq23
      refine own_ofc st23 ?_
      show own_gc p e below s _ _ _ _ _ (T23.setTop (mkF m 140 #[.val (.int p1), .val (.int p2), .val (.int p3), .val (.int p4), .val (.int 1), .val (.int c0), .val (.int c1), .val (.int c2), .val (.ref b14), .unset] [(.int (own_okv c0))]))
      by_cases hb140_24 : (own_okv c0) = (0 : Int32)
      · refine own_ofc (fun tt_ => XS.ifYes X23.here hx rfl (pc0 := 140) (pc' := 175) rfl (hb hby at_140) rfl ((if0 _ _).trans (teq hb140_24).1) (by decide) (by decide)) ?_
        show own_gc p e below s _ _ _ _ _ (T23.setTop (mkF m 175 #[.val (.int p1), .val (.int p2), .val (.int p3), .val (.int p4), .val (.int 1), .val (.int c0), .val (.int c1), .val (.int c2), .val (.ref b14), .unset] []))
        refine own_ofc (fun tt_ => XS.iconst X23.here hx rfl (hb hby at_175)) ?_
        refine own_ofc (fun tt_ => XS.istore X23.here hx rfl (hb hby at_176) rfl (l' := #[.val (.int p1), .val (.int p2), .val (.int p3), .val (.int p4), .val (.int 1), .val (.int c0), .val (.int c1), .val (.int c2), .val (.ref b14), .val (.int 0)]) rfl) ?_
        refine own_ofc (fun tt_ => XS.aload X23.here hx rfl (hb hby at_178) rfl rfl) ?_
        show own_gc p e below s _ _ _ _ _ (T23.setTop (mkF m 180 #[.val (.int p1), .val (.int p2), .val (.int p3), .val (.int p4), .val (.int 1), .val (.int c0), .val (.int c1), .val (.int c2), .val (.ref b14), .val (.int 0)] [(.ref b14)]))
        obtain ⟨_, _, ⟨T25, L25, k25, n25⟩, -, X25, ⟨Lc25, hQ25, l25, y25, z25⟩, st25⟩ := Jvm.LawKit.callS X23 hx (y := ym3) hown (mvT hZ (hW 23 _ rfl)) (mvT hZ (hW 24 _ rfl)) (mvT hZ (hW 25 _ rfl)) (mvT hZ (hW 26 _ rfl)) (by decide) (backOf (W := 0) (rmZ_1 l Z a0 hw [] b14 t20 kb20 c0 Gc fm T20.heap n0 O20 S_ad S_hi S_lo Oc Pc S_f r_f Ew20 Vw20 (Or.inr ⟨Cw20, Aw20⟩) r0) hZ (hW 26 _ rfl) (hW 25 _ rfl) (by decide) (by decide)) (g := (mkF m 180 #[.val (.int p1), .val (.int p2), .val (.int p3), .val (.int p4), .val (.int 1), .val (.int c0), .val (.int c1), .val (.int c2), .val (.ref b14), .val (.int 0)] [(.ref b14)])) rfl (by rw [hml]; rfl) (argsL := [(.ref b14)]) (rest := []) (lenOf pd_17 rfl) rfl (by show 2 * 0 + _ ≤ _; exact Nat.le_of_eq rfl) (hb hby at_180) (fun _ _ => ⟨rfl, eh23, (by decide : 4 + 0 ≤ _), (by decide : 8 + 0 ≤ _)⟩)
        dsimp only [Pt.U, Pt.locs, Pt.cells, Pt.slots] at X25 l25 y25 z25 st25 hQ25
        subst l25 y25 z25
        obtain ⟨rfl, Nq25, eh25⟩ := hQ25
        have N25 := Fr.app N23 Nq25
        refine own_ofc st25 ?_
        show own_gc p e below s _ _ _ _ _ (T25.setTop (mkF m 183 #[.val (.int p1), .val (.int p2), .val (.int p3), .val (.int p4), .val (.int 1), .val (.int c0), .val (.int c1), .val (.int c2), .val (.ref b14), .val (.int 0)] [(.int (own_okn [c0]))]))
        refine own_ofc (fun tt_ => XS.iload X25.here hx rfl (hb hby at_183) rfl) ?_
        have hb185_26 : (own_okn [c0]) = (0 : Int32) := own_okn0 (z := c0) (by simp) hb140_24
        refine own_ofc (fun tt_ => XS.icmpNo X25.here hx rfl (hb hby at_185) rfl (teq hb185_26).2) ?_
        show own_gc p e below s _ _ _ _ _ (T25.setTop (mkF m 188 #[.val (.int p1), .val (.int p2), .val (.int p3), .val (.int p4), .val (.int 1), .val (.int c0), .val (.int c1), .val (.int c2), .val (.ref b14), .val (.int 0)] []))
        refine own_ofc (fun tt_ => XS.iconst X25.here hx rfl (hb hby at_188)) ?_
        refine own_ofc (fun tt_ => XS.goto X25.here hx rfl (pc0 := 189) (pc' := 193) rfl (hb hby at_189) (by decide) (by decide)) ?_
        show own_gc p e below s _ _ _ _ _ (T25.setTop (mkF m 193 #[.val (.int p1), .val (.int p2), .val (.int p3), .val (.int p4), .val (.int 1), .val (.int c0), .val (.int c1), .val (.int c2), .val (.ref b14), .val (.int 0)] [(.int 1)]))
        refine own_retc X25 hx hlk hS0 (by rw [eh25]; omega : 0 ≤ T25.heap.size) hZ hEL (by rw [eh25]; exact CH20) Bd.returns rfl (Or.inl ⟨rfl, by simp, _, rfl⟩) (hb hby at_193) (by decide) (by decide) ?_
        rw [eh25]
        exact ⟨rfl, N25⟩
      · refine own_ofc (fun tt_ => XS.ifNo X23.here hx rfl (hb hby at_140) rfl ((if0 _ _).trans (feq hb140_24).1)) ?_
        show own_gc p e below s _ _ _ _ _ (T23.setTop (mkF m 143 #[.val (.int p1), .val (.int p2), .val (.int p3), .val (.int p4), .val (.int 1), .val (.int c0), .val (.int c1), .val (.int c2), .val (.ref b14), .unset] []))
        refine own_ofc (fun tt_ => XS.iload X23.here hx rfl (hb hby at_143) rfl) ?_
        refine own_ofc (fun tt_ => XS.iconst X23.here hx rfl (hb hby at_145)) ?_
        have hb146_27 : (1 : Int32) < (2 : Int32) := by decide
        refine own_ofc (fun tt_ => XS.icmpYes X23.here hx rfl (pc0 := 146) (pc' := 157) rfl (hb hby at_146) rfl (tlt hb146_27).1 (by decide) (by decide)) ?_
        show own_gc p e below s _ _ _ _ _ (T23.setTop (mkF m 157 #[.val (.int p1), .val (.int p2), .val (.int p3), .val (.int p4), .val (.int 1), .val (.int c0), .val (.int c1), .val (.int c2), .val (.ref b14), .unset] []))
        refine own_ofc (fun tt_ => XS.iload X23.here hx rfl (hb hby at_157) rfl) ?_
        refine own_ofc (fun tt_ => XS.iconst X23.here hx rfl (hb hby at_159)) ?_
        have hb160_28 : (1 : Int32) < (3 : Int32) := by decide
        refine own_ofc (fun tt_ => XS.icmpYes X23.here hx rfl (pc0 := 160) (pc' := 171) rfl (hb hby at_160) rfl (tlt hb160_28).1 (by decide) (by decide)) ?_
        show own_gc p e below s _ _ _ _ _ (T23.setTop (mkF m 171 #[.val (.int p1), .val (.int p2), .val (.int p3), .val (.int p4), .val (.int 1), .val (.int c0), .val (.int c1), .val (.int c2), .val (.ref b14), .unset] []))
        refine own_ofc (fun tt_ => XS.iconst X23.here hx rfl (hb hby at_171)) ?_
        refine own_ofc (fun tt_ => XS.goto X23.here hx rfl (pc0 := 172) (pc' := 176) rfl (hb hby at_172) (by decide) (by decide)) ?_
        refine own_ofc (fun tt_ => XS.istore X23.here hx rfl (hb hby at_176) rfl (l' := #[.val (.int p1), .val (.int p2), .val (.int p3), .val (.int p4), .val (.int 1), .val (.int c0), .val (.int c1), .val (.int c2), .val (.ref b14), .val (.int 1)]) rfl) ?_
        refine own_ofc (fun tt_ => XS.aload X23.here hx rfl (hb hby at_178) rfl rfl) ?_
        show own_gc p e below s _ _ _ _ _ (T23.setTop (mkF m 180 #[.val (.int p1), .val (.int p2), .val (.int p3), .val (.int p4), .val (.int 1), .val (.int c0), .val (.int c1), .val (.int c2), .val (.ref b14), .val (.int 1)] [(.ref b14)]))
        obtain ⟨_, _, ⟨T29, L29, k29, n29⟩, -, X29, ⟨Lc29, hQ29, l29, y29, z29⟩, st29⟩ := Jvm.LawKit.callS X23 hx (y := ym3) hown (mvT hZ (hW 23 _ rfl)) (mvT hZ (hW 24 _ rfl)) (mvT hZ (hW 25 _ rfl)) (mvT hZ (hW 26 _ rfl)) (by decide) (backOf (W := 0) (rmZ_1 l Z a0 hw [] b14 t20 kb20 c0 Gc fm T20.heap n0 O20 S_ad S_hi S_lo Oc Pc S_f r_f Ew20 Vw20 (Or.inr ⟨Cw20, Aw20⟩) r0) hZ (hW 26 _ rfl) (hW 25 _ rfl) (by decide) (by decide)) (g := (mkF m 180 #[.val (.int p1), .val (.int p2), .val (.int p3), .val (.int p4), .val (.int 1), .val (.int c0), .val (.int c1), .val (.int c2), .val (.ref b14), .val (.int 1)] [(.ref b14)])) rfl (by rw [hml]; rfl) (argsL := [(.ref b14)]) (rest := []) (lenOf pd_17 rfl) rfl (by show 2 * 0 + _ ≤ _; exact Nat.le_of_eq rfl) (hb hby at_180) (fun _ _ => ⟨rfl, eh23, (by decide : 4 + 0 ≤ _), (by decide : 8 + 0 ≤ _)⟩)
        dsimp only [Pt.U, Pt.locs, Pt.cells, Pt.slots] at X29 l29 y29 z29 st29 hQ29
        subst l29 y29 z29
        obtain ⟨rfl, Nq29, eh29⟩ := hQ29
        have N29 := Fr.app N23 Nq29
        refine own_ofc st29 ?_
        show own_gc p e below s _ _ _ _ _ (T29.setTop (mkF m 183 #[.val (.int p1), .val (.int p2), .val (.int p3), .val (.int p4), .val (.int 1), .val (.int c0), .val (.int c1), .val (.int c2), .val (.ref b14), .val (.int 1)] [(.int (own_okn [c0]))]))
        refine own_ofc (fun tt_ => XS.iload X29.here hx rfl (hb hby at_183) rfl) ?_
        have hb185_30 : (own_okn [c0]) = (1 : Int32) := by simp [own_okn, (own_okv01 c0).resolve_left hb140_24]
        refine own_ofc (fun tt_ => XS.icmpNo X29.here hx rfl (hb hby at_185) rfl (teq hb185_30).2) ?_
        show own_gc p e below s _ _ _ _ _ (T29.setTop (mkF m 188 #[.val (.int p1), .val (.int p2), .val (.int p3), .val (.int p4), .val (.int 1), .val (.int c0), .val (.int c1), .val (.int c2), .val (.ref b14), .val (.int 1)] []))
        refine own_ofc (fun tt_ => XS.iconst X29.here hx rfl (hb hby at_188)) ?_
        refine own_ofc (fun tt_ => XS.goto X29.here hx rfl (pc0 := 189) (pc' := 193) rfl (hb hby at_189) (by decide) (by decide)) ?_
        show own_gc p e below s _ _ _ _ _ (T29.setTop (mkF m 193 #[.val (.int p1), .val (.int p2), .val (.int p3), .val (.int p4), .val (.int 1), .val (.int c0), .val (.int c1), .val (.int c2), .val (.ref b14), .val (.int 1)] [(.int 1)]))
        refine own_retc X29 hx hlk hS0 (by rw [eh29]; omega : 0 ≤ T29.heap.size) hZ hEL (by rw [eh29]; exact CH20) Bd.returns rfl (Or.inl ⟨rfl, by simp, _, rfl⟩) (hb hby at_193) (by decide) (by decide) ?_
        rw [eh29]
        exact ⟨rfl, N29⟩
    · skip
      have wq0 := hbig
      have hp31 : ∀ c ∈ ([c0] : List Int32), ¬ c < 0 ∧ ¬ (255 : Int32) < c := by
        intro c hc
        simp only [List.mem_cons, List.not_mem_nil, or_false] at hc
        rcases hc with rfl
        · exact ⟨r0.1, wq0⟩
      have f32 : Exa Z h16 b14 "java/lang/String" := ((A14.ext E15).wr W16)
      have f33 : Fld Z h16 b14 "java/lang/String" "value" "[B" .null := ((F14_value.ext E15).other W16 (Or.inl (own_ne (by omega))))
      have f34 : Fld Z h16 b14 "java/lang/String" "coder" "B" (.int 0) := ((F14_coder.ext E15).other W16 (Or.inl (own_ne (by omega))))
      obtain ⟨_, _, ⟨T35, L35, k35, n35⟩, -, X35, ⟨Lc35, hQ35, l35, y35, z35⟩, st35⟩ := X16.specialBack hx (y := ym12) rfl hown (mvT hZ (hW 5 _ rfl)) (mvT hZ (hW 6 _ rfl)) (mvT hZ (hW 7 _ rfl)) (by decide) (StrChars.Road.backV (W := 1) hZ hws (kI := 4) (hW 2 _ rfl) (cs := ([c0] : List Int32)) (bs := ([c0] : List Int32).map (fun c => c.toInt8.toInt32)) (n := 1) (by omega : n0 ≤ b14) (by omega : n0 ≤ h16.size) f32 f33 f34 V16 (Oc.ext O16.2) Pc rfl rfl (by decide) (by decide) hp31 rfl (by decide) (by decide)) (g := (mkF m 64 #[.val (.int p1), .val (.int p2), .val (.int p3), .val (.int p4), .val (.int 1), .val (.int c0), .val (.int c1), .val (.int c2), .unset, .unset] [(.ref b15), (.ref b14), (.ref b14)])) rfl (by rw [hml]; rfl) (Steps.refl _) (a := b14) (argsL := [(.ref b15)]) (rest := [(.ref b14)]) (lenOf pd_16 rfl) rfl (by show 2 * 0 + _ ≤ _; exact Nat.le_of_eq rfl) (hb hby at_64) (fun _ _ => ⟨rfl, e16, (by decide : 2 + 1 ≤ _), (by decide : 5 + 1 ≤ _)⟩)
      dsimp only [Pt.U, Pt.locs, Pt.cells, Pt.slots] at X35 l35 y35 z35 st35 hQ35
      subst l35 y35 z35
      obtain ⟨rfl, Nq35, Kp35, g135, g235, t35, kb35, u135, u235, u335, g435, g535⟩ := hQ35
      have N35 := Fr.app N16 Nq35
      refine own_ofc (fun tt_ kk_ => st35.trans kk_) ?_
      have f36 := (CHs16.safe (own_lt (by omega)) (CHs15.safe (own_lt (by omega)) Sf14))
      have CHs35 := CHr.keep Kp35 (allS f36 all0) CH16.1
      have CH35 := CH16.trans CHs35
      have sz35 : h16.size ≤ T35.heap.size := Kp35.1
      have O35 : Old Z n0 T35.heap := O16.keep Kp35 (allS (by omega) all0)
      have Sx35 : own_str Z T35.heap b14 ([c0] : List Int32) := ⟨t35, kb35, _, _, g135, g435, g235, g535, StrChars.Road.codOf (n := 1) rfl (fun c hc => (hp31 c hc).2)⟩
      have Ex35 : Exa Z T35.heap b14 "java/lang/String" := by obtain ⟨_, _, _, _, q, -⟩ := id Sx35; exact q
      obtain ⟨tq37, kq37, Eq37, Vq37, Cq37, Aq37⟩ := own_str.opened Sx35
      show own_gc p e below s _ _ _ _ _ (T35.setTop (mkF m 67 #[.val (.int p1), .val (.int p2), .val (.int p3), .val (.int p4), .val (.int 1), .val (.int c0), .val (.int c1), .val (.int c2), .unset, .unset] [(.ref b14)]))
      refine own_ofc (fun tt_ => XS.astore X35.here hx rfl (hb hby at_67) rfl rfl (l' := #[.val (.int p1), .val (.int p2), .val (.int p3), .val (.int p4), .val (.int 1), .val (.int c0), .val (.int c1), .val (.int c2), .val (.ref b14), .unset]) rfl) ?_
      refine own_ofc (fun tt_ => XS.goto X35.here hx rfl (pc0 := 69) (pc' := 130) rfl (hb hby at_69) (by decide) (by decide)) ?_
      refine own_ofc (fun tt_ => XS.iload X35.here hx rfl (hb hby at_130) rfl) ?_
      have hb132_38 : (0 : Int32) < (1 : Int32) := by decide
      refine own_ofc (fun tt_ => XS.ifNo X35.here hx rfl (hb hby at_132) rfl ((if0 _ _).trans (tlt hb132_38).2.2.2)) ?_
      show own_gc p e below s _ _ _ _ _ (T35.setTop (mkF m 135 #[.val (.int p1), .val (.int p2), .val (.int p3), .val (.int p4), .val (.int 1), .val (.int c0), .val (.int c1), .val (.int c2), .val (.ref b14), .unset] []))
      refine own_ofc (fun tt_ => XS.iload X35.here hx rfl (hb hby at_135) rfl) ?_
      show own_gc p e below s _ _ _ _ _ (T35.setTop (mkF m 137 #[.val (.int p1), .val (.int p2), .val (.int p3), .val (.int p4), .val (.int 1), .val (.int c0), .val (.int c1), .val (.int c2), .val (.ref b14), .unset] [(.int c0)]))
      obtain ⟨_, _, ⟨T39, L39, k39, n39⟩, -, X39, ⟨Lc39, hQ39, l39, y39, z39⟩, st39⟩ := Jvm.LawKit.callS X35 hx (y := ym8) hown (mvT hZ (hW 43 _ rfl)) (mvT hZ (hW 44 _ rfl)) (mvT hZ (hW 45 _ rfl)) (mvT hZ (hW 46 _ rfl)) (by decide) (backOf (W := 0) (rmOk l Z a0 hw [] c0 T35.heap n0 O35) hZ (hW 46 _ rfl) (hW 45 _ rfl) (by decide) (by decide)) (g := (mkF m 137 #[.val (.int p1), .val (.int p2), .val (.int p3), .val (.int p4), .val (.int 1), .val (.int c0), .val (.int c1), .val (.int c2), .val (.ref b14), .unset] [(.int c0)])) rfl (by rw [hml]; rfl) (argsL := [(.int c0)]) (rest := []) (lenOf pd_18 rfl) rfl (by show 2 * 0 + _ ≤ _; exact Nat.le_of_eq rfl) (hb hby at_137) (fun _ _ => ⟨rfl, rfl, (by decide : 3 + 0 ≤ _), (by decide : 6 + 0 ≤ _)⟩)
      dsimp only [Pt.U, Pt.locs, Pt.cells, Pt.slots] at X39 l39 y39 z39 st39 hQ39
      subst l39 y39 z39
      obtain ⟨rfl, Nq39, eh39⟩ := hQ39
      have N39 := Fr.app N35 Nq39
      refine own_ofc st39 ?_
      show own_gc p e below s _ _ _ _ _ (T39.setTop (mkF m 140 #[.val (.int p1), .val (.int p2), .val (.int p3), .val (.int p4), .val (.int 1), .val (.int c0), .val (.int c1), .val (.int c2), .val (.ref b14), .unset] [(.int (own_okv c0))]))
      by_cases hb140_40 : (own_okv c0) = (0 : Int32)
      · refine own_ofc (fun tt_ => XS.ifYes X39.here hx rfl (pc0 := 140) (pc' := 175) rfl (hb hby at_140) rfl ((if0 _ _).trans (teq hb140_40).1) (by decide) (by decide)) ?_
        show own_gc p e below s _ _ _ _ _ (T39.setTop (mkF m 175 #[.val (.int p1), .val (.int p2), .val (.int p3), .val (.int p4), .val (.int 1), .val (.int c0), .val (.int c1), .val (.int c2), .val (.ref b14), .unset] []))
        refine own_ofc (fun tt_ => XS.iconst X39.here hx rfl (hb hby at_175)) ?_
        refine own_ofc (fun tt_ => XS.istore X39.here hx rfl (hb hby at_176) rfl (l' := #[.val (.int p1), .val (.int p2), .val (.int p3), .val (.int p4), .val (.int 1), .val (.int c0), .val (.int c1), .val (.int c2), .val (.ref b14), .val (.int 0)]) rfl) ?_
        refine own_ofc (fun tt_ => XS.aload X39.here hx rfl (hb hby at_178) rfl rfl) ?_
        show own_gc p e below s _ _ _ _ _ (T39.setTop (mkF m 180 #[.val (.int p1), .val (.int p2), .val (.int p3), .val (.int p4), .val (.int 1), .val (.int c0), .val (.int c1), .val (.int c2), .val (.ref b14), .val (.int 0)] [(.ref b14)]))
        obtain ⟨_, _, ⟨T41, L41, k41, n41⟩, -, X41, ⟨Lc41, hQ41, l41, y41, z41⟩, st41⟩ := Jvm.LawKit.callS X39 hx (y := ym3) hown (mvT hZ (hW 23 _ rfl)) (mvT hZ (hW 24 _ rfl)) (mvT hZ (hW 25 _ rfl)) (mvT hZ (hW 26 _ rfl)) (by decide) (backOf (W := 0) (rmZ_1 l Z a0 hw [] b14 tq37 kq37 c0 Gc fm T35.heap n0 O35 S_ad S_hi S_lo Oc Pc S_f r_f Eq37 Vq37 (Or.inl ⟨Cq37, Aq37, wq0⟩) r0) hZ (hW 26 _ rfl) (hW 25 _ rfl) (by decide) (by decide)) (g := (mkF m 180 #[.val (.int p1), .val (.int p2), .val (.int p3), .val (.int p4), .val (.int 1), .val (.int c0), .val (.int c1), .val (.int c2), .val (.ref b14), .val (.int 0)] [(.ref b14)])) rfl (by rw [hml]; rfl) (argsL := [(.ref b14)]) (rest := []) (lenOf pd_17 rfl) rfl (by show 2 * 0 + _ ≤ _; exact Nat.le_of_eq rfl) (hb hby at_180) (fun _ _ => ⟨rfl, eh39, (by decide : 3 + 0 ≤ _), (by decide : 6 + 0 ≤ _)⟩)
        dsimp only [Pt.U, Pt.locs, Pt.cells, Pt.slots] at X41 l41 y41 z41 st41 hQ41
        subst l41 y41 z41
        obtain ⟨rfl, Nq41, eh41⟩ := hQ41
        have N41 := Fr.app N39 Nq41
        refine own_ofc st41 ?_
        show own_gc p e below s _ _ _ _ _ (T41.setTop (mkF m 183 #[.val (.int p1), .val (.int p2), .val (.int p3), .val (.int p4), .val (.int 1), .val (.int c0), .val (.int c1), .val (.int c2), .val (.ref b14), .val (.int 0)] [(.int (own_okn [c0]))]))
        refine own_ofc (fun tt_ => XS.iload X41.here hx rfl (hb hby at_183) rfl) ?_
        have hb185_42 : (own_okn [c0]) = (0 : Int32) := own_okn0 (z := c0) (by simp) hb140_40
        refine own_ofc (fun tt_ => XS.icmpNo X41.here hx rfl (hb hby at_185) rfl (teq hb185_42).2) ?_
        show own_gc p e below s _ _ _ _ _ (T41.setTop (mkF m 188 #[.val (.int p1), .val (.int p2), .val (.int p3), .val (.int p4), .val (.int 1), .val (.int c0), .val (.int c1), .val (.int c2), .val (.ref b14), .val (.int 0)] []))
        refine own_ofc (fun tt_ => XS.iconst X41.here hx rfl (hb hby at_188)) ?_
        refine own_ofc (fun tt_ => XS.goto X41.here hx rfl (pc0 := 189) (pc' := 193) rfl (hb hby at_189) (by decide) (by decide)) ?_
        show own_gc p e below s _ _ _ _ _ (T41.setTop (mkF m 193 #[.val (.int p1), .val (.int p2), .val (.int p3), .val (.int p4), .val (.int 1), .val (.int c0), .val (.int c1), .val (.int c2), .val (.ref b14), .val (.int 0)] [(.int 1)]))
        refine own_retc X41 hx hlk hS0 (by rw [eh41]; omega : 0 ≤ T41.heap.size) hZ hEL (by rw [eh41]; exact CH35) Bd.returns rfl (Or.inl ⟨rfl, by simp, _, rfl⟩) (hb hby at_193) (by decide) (by decide) ?_
        rw [eh41]
        exact ⟨rfl, N41⟩
      · refine own_ofc (fun tt_ => XS.ifNo X39.here hx rfl (hb hby at_140) rfl ((if0 _ _).trans (feq hb140_40).1)) ?_
        show own_gc p e below s _ _ _ _ _ (T39.setTop (mkF m 143 #[.val (.int p1), .val (.int p2), .val (.int p3), .val (.int p4), .val (.int 1), .val (.int c0), .val (.int c1), .val (.int c2), .val (.ref b14), .unset] []))
        refine own_ofc (fun tt_ => XS.iload X39.here hx rfl (hb hby at_143) rfl) ?_
        refine own_ofc (fun tt_ => XS.iconst X39.here hx rfl (hb hby at_145)) ?_
        have hb146_43 : (1 : Int32) < (2 : Int32) := by decide
        refine own_ofc (fun tt_ => XS.icmpYes X39.here hx rfl (pc0 := 146) (pc' := 157) rfl (hb hby at_146) rfl (tlt hb146_43).1 (by decide) (by decide)) ?_
        show own_gc p e below s _ _ _ _ _ (T39.setTop (mkF m 157 #[.val (.int p1), .val (.int p2), .val (.int p3), .val (.int p4), .val (.int 1), .val (.int c0), .val (.int c1), .val (.int c2), .val (.ref b14), .unset] []))
        refine own_ofc (fun tt_ => XS.iload X39.here hx rfl (hb hby at_157) rfl) ?_
        refine own_ofc (fun tt_ => XS.iconst X39.here hx rfl (hb hby at_159)) ?_
        have hb160_44 : (1 : Int32) < (3 : Int32) := by decide
        refine own_ofc (fun tt_ => XS.icmpYes X39.here hx rfl (pc0 := 160) (pc' := 171) rfl (hb hby at_160) rfl (tlt hb160_44).1 (by decide) (by decide)) ?_
        show own_gc p e below s _ _ _ _ _ (T39.setTop (mkF m 171 #[.val (.int p1), .val (.int p2), .val (.int p3), .val (.int p4), .val (.int 1), .val (.int c0), .val (.int c1), .val (.int c2), .val (.ref b14), .unset] []))
        refine own_ofc (fun tt_ => XS.iconst X39.here hx rfl (hb hby at_171)) ?_
        refine own_ofc (fun tt_ => XS.goto X39.here hx rfl (pc0 := 172) (pc' := 176) rfl (hb hby at_172) (by decide) (by decide)) ?_
        refine own_ofc (fun tt_ => XS.istore X39.here hx rfl (hb hby at_176) rfl (l' := #[.val (.int p1), .val (.int p2), .val (.int p3), .val (.int p4), .val (.int 1), .val (.int c0), .val (.int c1), .val (.int c2), .val (.ref b14), .val (.int 1)]) rfl) ?_
        refine own_ofc (fun tt_ => XS.aload X39.here hx rfl (hb hby at_178) rfl rfl) ?_
        show own_gc p e below s _ _ _ _ _ (T39.setTop (mkF m 180 #[.val (.int p1), .val (.int p2), .val (.int p3), .val (.int p4), .val (.int 1), .val (.int c0), .val (.int c1), .val (.int c2), .val (.ref b14), .val (.int 1)] [(.ref b14)]))
        obtain ⟨_, _, ⟨T45, L45, k45, n45⟩, -, X45, ⟨Lc45, hQ45, l45, y45, z45⟩, st45⟩ := Jvm.LawKit.callS X39 hx (y := ym3) hown (mvT hZ (hW 23 _ rfl)) (mvT hZ (hW 24 _ rfl)) (mvT hZ (hW 25 _ rfl)) (mvT hZ (hW 26 _ rfl)) (by decide) (backOf (W := 0) (rmZ_1 l Z a0 hw [] b14 tq37 kq37 c0 Gc fm T35.heap n0 O35 S_ad S_hi S_lo Oc Pc S_f r_f Eq37 Vq37 (Or.inl ⟨Cq37, Aq37, wq0⟩) r0) hZ (hW 26 _ rfl) (hW 25 _ rfl) (by decide) (by decide)) (g := (mkF m 180 #[.val (.int p1), .val (.int p2), .val (.int p3), .val (.int p4), .val (.int 1), .val (.int c0), .val (.int c1), .val (.int c2), .val (.ref b14), .val (.int 1)] [(.ref b14)])) rfl (by rw [hml]; rfl) (argsL := [(.ref b14)]) (rest := []) (lenOf pd_17 rfl) rfl (by show 2 * 0 + _ ≤ _; exact Nat.le_of_eq rfl) (hb hby at_180) (fun _ _ => ⟨rfl, eh39, (by decide : 3 + 0 ≤ _), (by decide : 6 + 0 ≤ _)⟩)
        dsimp only [Pt.U, Pt.locs, Pt.cells, Pt.slots] at X45 l45 y45 z45 st45 hQ45
        subst l45 y45 z45
        obtain ⟨rfl, Nq45, eh45⟩ := hQ45
        have N45 := Fr.app N39 Nq45
        refine own_ofc st45 ?_
        show own_gc p e below s _ _ _ _ _ (T45.setTop (mkF m 183 #[.val (.int p1), .val (.int p2), .val (.int p3), .val (.int p4), .val (.int 1), .val (.int c0), .val (.int c1), .val (.int c2), .val (.ref b14), .val (.int 1)] [(.int (own_okn [c0]))]))
        refine own_ofc (fun tt_ => XS.iload X45.here hx rfl (hb hby at_183) rfl) ?_
        have hb185_46 : (own_okn [c0]) = (1 : Int32) := by simp [own_okn, (own_okv01 c0).resolve_left hb140_40]
        refine own_ofc (fun tt_ => XS.icmpNo X45.here hx rfl (hb hby at_185) rfl (teq hb185_46).2) ?_
        show own_gc p e below s _ _ _ _ _ (T45.setTop (mkF m 188 #[.val (.int p1), .val (.int p2), .val (.int p3), .val (.int p4), .val (.int 1), .val (.int c0), .val (.int c1), .val (.int c2), .val (.ref b14), .val (.int 1)] []))
        refine own_ofc (fun tt_ => XS.iconst X45.here hx rfl (hb hby at_188)) ?_
        refine own_ofc (fun tt_ => XS.goto X45.here hx rfl (pc0 := 189) (pc' := 193) rfl (hb hby at_189) (by decide) (by decide)) ?_
        show own_gc p e below s _ _ _ _ _ (T45.setTop (mkF m 193 #[.val (.int p1), .val (.int p2), .val (.int p3), .val (.int p4), .val (.int 1), .val (.int c0), .val (.int c1), .val (.int c2), .val (.ref b14), .val (.int 1)] [(.int 1)]))
        refine own_retc X45 hx hlk hS0 (by rw [eh45]; omega : 0 ≤ T45.heap.size) hZ hEL (by rw [eh45]; exact CH35) Bd.returns rfl (Or.inl ⟨rfl, by simp, _, rfl⟩) (hb hby at_193) (by decide) (by decide) ?_
        rw [eh45]
        exact ⟨rfl, N45⟩
  · rw [hk]
    show own_gc p e below s _ _ _ _ _ (s₁.setTop (mkF m 3 #[.val (.int p1), .val (.int p2), .val (.int p3), .val (.int p4), .unset, .unset, .unset, .unset, .unset, .unset] [(.int 2)]))
    refine own_ofc (fun tt_ => XS.istore X0.here hx rfl (hb hby at_3) rfl (l' := #[.val (.int p1), .val (.int p2), .val (.int p3), .val (.int p4), .val (.int 2), .unset, .unset, .unset, .unset, .unset]) rfl) ?_
    refine own_ofc (fun tt_ => XS.iloadN X0.here hx rfl (hb hby at_5) rfl) ?_
    refine own_ofc (fun tt_ => X0.ldcI hx hown (mvT hZ (hW 0 _ rfl)) rfl (hb hby at_6)) ?_
    show own_gc p e below s _ _ _ _ _ (s₁.setTop (mkF m 8 #[.val (.int p1), .val (.int p2), .val (.int p3), .val (.int p4), .val (.int 2), .unset, .unset, .unset, .unset, .unset] [(.int 65535), (.int p2)]))
    refine own_ofc (fun tt_ => XS.iand X0.here hx rfl (hb hby at_8) rfl) ?_
    show own_gc p e below s _ _ _ _ _ (s₁.setTop (mkF m 9 #[.val (.int p1), .val (.int p2), .val (.int p3), .val (.int p4), .val (.int 2), .unset, .unset, .unset, .unset, .unset] [(.int (p2 &&& (65535 : Int32)))]))
    refine own_ofc (fun tt_ => XS.i2c X0.here hx rfl (hb hby at_9) rfl) ?_
    show own_gc p e below s _ _ _ _ _ (s₁.setTop (mkF m 10 #[.val (.int p1), .val (.int p2), .val (.int p3), .val (.int p4), .val (.int 2), .unset, .unset, .unset, .unset, .unset] [(.int ((p2 &&& (65535 : Int32)).toUInt32.toUInt16.toUInt32.toInt32))]))
    obtain ⟨c0, r0, ec0⟩ : ∃ z : Int32, own_c16 z ∧ ((p2 &&& (65535 : Int32)).toUInt32.toUInt16.toUInt32.toInt32) = z := ⟨_, own_c65 _, rfl⟩
    rw [ec0]
    show own_gc p e below s _ _ _ _ _ (s₁.setTop (mkF m 10 #[.val (.int p1), .val (.int p2), .val (.int p3), .val (.int p4), .val (.int 2), .unset, .unset, .unset, .unset, .unset] [(.int c0)]))
    refine own_ofc (fun tt_ => XS.istore X0.here hx rfl (hb hby at_10) rfl (l' := #[.val (.int p1), .val (.int p2), .val (.int p3), .val (.int p4), .val (.int 2), .val (.int c0), .unset, .unset, .unset, .unset]) rfl) ?_
    refine own_ofc (fun tt_ => XS.iloadN X0.here hx rfl (hb hby at_12) rfl) ?_
    refine own_ofc (fun tt_ => X0.ldcI hx hown (mvT hZ (hW 0 _ rfl)) rfl (hb hby at_13)) ?_
    show own_gc p e below s _ _ _ _ _ (s₁.setTop (mkF m 15 #[.val (.int p1), .val (.int p2), .val (.int p3), .val (.int p4), .val (.int 2), .val (.int c0), .unset, .unset, .unset, .unset] [(.int 65535), (.int p3)]))
    refine own_ofc (fun tt_ => XS.iand X0.here hx rfl (hb hby at_15) rfl) ?_
    show own_gc p e below s _ _ _ _ _ (s₁.setTop (mkF m 16 #[.val (.int p1), .val (.int p2), .val (.int p3), .val (.int p4), .val (.int 2), .val (.int c0), .unset, .unset, .unset, .unset] [(.int (p3 &&& (65535 : Int32)))]))
    refine own_ofc (fun tt_ => XS.i2c X0.here hx rfl (hb hby at_16) rfl) ?_
    show own_gc p e below s _ _ _ _ _ (s₁.setTop (mkF m 17 #[.val (.int p1), .val (.int p2), .val (.int p3), .val (.int p4), .val (.int 2), .val (.int c0), .unset, .unset, .unset, .unset] [(.int ((p3 &&& (65535 : Int32)).toUInt32.toUInt16.toUInt32.toInt32))]))
    obtain ⟨c1, r1, ec1⟩ : ∃ z : Int32, own_c16 z ∧ ((p3 &&& (65535 : Int32)).toUInt32.toUInt16.toUInt32.toInt32) = z := ⟨_, own_c65 _, rfl⟩
    rw [ec1]
    show own_gc p e below s _ _ _ _ _ (s₁.setTop (mkF m 17 #[.val (.int p1), .val (.int p2), .val (.int p3), .val (.int p4), .val (.int 2), .val (.int c0), .unset, .unset, .unset, .unset] [(.int c1)]))
    refine own_ofc (fun tt_ => XS.istore X0.here hx rfl (hb hby at_17) rfl (l' := #[.val (.int p1), .val (.int p2), .val (.int p3), .val (.int p4), .val (.int 2), .val (.int c0), .val (.int c1), .unset, .unset, .unset]) rfl) ?_
    refine own_ofc (fun tt_ => XS.iloadN X0.here hx rfl (hb hby at_19) rfl) ?_
    refine own_ofc (fun tt_ => X0.ldcI hx hown (mvT hZ (hW 0 _ rfl)) rfl (hb hby at_20)) ?_
    show own_gc p e below s _ _ _ _ _ (s₁.setTop (mkF m 22 #[.val (.int p1), .val (.int p2), .val (.int p3), .val (.int p4), .val (.int 2), .val (.int c0), .val (.int c1), .unset, .unset, .unset] [(.int 65535), (.int p4)]))
    refine own_ofc (fun tt_ => XS.iand X0.here hx rfl (hb hby at_22) rfl) ?_
    show own_gc p e below s _ _ _ _ _ (s₁.setTop (mkF m 23 #[.val (.int p1), .val (.int p2), .val (.int p3), .val (.int p4), .val (.int 2), .val (.int c0), .val (.int c1), .unset, .unset, .unset] [(.int (p4 &&& (65535 : Int32)))]))
    refine own_ofc (fun tt_ => XS.i2c X0.here hx rfl (hb hby at_23) rfl) ?_
    show own_gc p e below s _ _ _ _ _ (s₁.setTop (mkF m 24 #[.val (.int p1), .val (.int p2), .val (.int p3), .val (.int p4), .val (.int 2), .val (.int c0), .val (.int c1), .unset, .unset, .unset] [(.int ((p4 &&& (65535 : Int32)).toUInt32.toUInt16.toUInt32.toInt32))]))
    obtain ⟨c2, r2, ec2⟩ : ∃ z : Int32, own_c16 z ∧ ((p4 &&& (65535 : Int32)).toUInt32.toUInt16.toUInt32.toInt32) = z := ⟨_, own_c65 _, rfl⟩
    rw [ec2]
    show own_gc p e below s _ _ _ _ _ (s₁.setTop (mkF m 24 #[.val (.int p1), .val (.int p2), .val (.int p3), .val (.int p4), .val (.int 2), .val (.int c0), .val (.int c1), .unset, .unset, .unset] [(.int c2)]))
    refine own_ofc (fun tt_ => XS.istore X0.here hx rfl (hb hby at_24) rfl (l' := #[.val (.int p1), .val (.int p2), .val (.int p3), .val (.int p4), .val (.int 2), .val (.int c0), .val (.int c1), .val (.int c2), .unset, .unset]) rfl) ?_
    refine own_ofc (fun tt_ => XS.iload X0.here hx rfl (hb hby at_26) rfl) ?_
    have hb28_47 : ¬ ((2 : Int32) = (0 : Int32)) := by decide
    refine own_ofc (fun tt_ => XS.ifYes X0.here hx rfl (pc0 := 28) (pc' := 46) rfl (hb hby at_28) rfl ((if0 _ _).trans (feq hb28_47).2) (by decide) (by decide)) ?_
    show own_gc p e below s _ _ _ _ _ (s₁.setTop (mkF m 46 #[.val (.int p1), .val (.int p2), .val (.int p3), .val (.int p4), .val (.int 2), .val (.int c0), .val (.int c1), .val (.int c2), .unset, .unset] []))
    refine own_ofc (fun tt_ => XS.iload X0.here hx rfl (hb hby at_46) rfl) ?_
    refine own_ofc (fun tt_ => XS.iconst X0.here hx rfl (hb hby at_48)) ?_
    have hb49_48 : ¬ ((2 : Int32) = (1 : Int32)) := by decide
    refine own_ofc (fun tt_ => XS.icmpYes X0.here hx rfl (pc0 := 49) (pc' := 72) rfl (hb hby at_49) rfl (feq hb49_48).2 (by decide) (by decide)) ?_
    show own_gc p e below s _ _ _ _ _ (s₁.setTop (mkF m 72 #[.val (.int p1), .val (.int p2), .val (.int p3), .val (.int p4), .val (.int 2), .val (.int c0), .val (.int c1), .val (.int c2), .unset, .unset] []))
    refine own_ofc (fun tt_ => XS.iload X0.here hx rfl (hb hby at_72) rfl) ?_
    refine own_ofc (fun tt_ => XS.iconst X0.here hx rfl (hb hby at_74)) ?_
    have hb75_49 : (2 : Int32) = (2 : Int32) := by decide
    refine own_ofc (fun tt_ => XS.icmpNo X0.here hx rfl (hb hby at_75) rfl (teq hb75_49).2) ?_
    show own_gc p e below s _ _ _ _ _ (s₁.setTop (mkF m 78 #[.val (.int p1), .val (.int p2), .val (.int p3), .val (.int p4), .val (.int 2), .val (.int c0), .val (.int c1), .val (.int c2), .unset, .unset] []))
    obtain ⟨T50, h50, X50, e50, E50, A50, D50, -, st50⟩ := newO X0 hx hZ hown (hW 1 _ rfl) (hW 2 _ rfl) (hW 3 _ rfl) e0 (g := (mkF m 78 #[.val (.int p1), .val (.int p2), .val (.int p3), .val (.int p4), .val (.int 2), .val (.int c0), .val (.int c1), .val (.int c2), .unset, .unset] [])) rfl (hb hby at_78) (by decide) (by decide)
    obtain ⟨b50, g50⟩ : ∃ z, z = h0.size := ⟨_, rfl⟩
    rw [← g50] at A50 D50 st50
    refine own_ofc st50 ?_
    have lt50 := own_lt A50.lt
    have sz50 : h0.size ≤ h50.size := E50.1
    have O50 : Old Z n0 h50 := XO0.ext E50
    have z50 : n0 ≤ b50 := by have := XO0.1 ▸ XO0.2.1; omega
    have CHs50 := CHr.ext E50 CH0.1
    have Sf50 := Safe.ext E50 CH0.1 (Safe.new (Nat.le_of_eq g50.symm))
    have CH50 := CH0.trans CHs50
    have F50_value : Fld Z h50 b50 "java/lang/String" "value" "[B" .null := D50 (Or.inr (hW 17 _ rfl)) (ty := (.array .byte)) pf_1
    have F50_coder : Fld Z h50 b50 "java/lang/String" "coder" "B" (.int 0) := D50 (Or.inr (hW 18 _ rfl)) (ty := .byte) pf_0
    show own_gc p e below s _ _ _ _ _ (T50.setTop (mkF m 81 #[.val (.int p1), .val (.int p2), .val (.int p3), .val (.int p4), .val (.int 2), .val (.int c0), .val (.int c1), .val (.int c2), .unset, .unset] [(.ref b50)]))
    refine own_ofc (fun tt_ => XS.dup X50.here hx rfl (hb hby at_81) rfl rfl) ?_
    refine own_ofc (fun tt_ => XS.iconst X50.here hx rfl (hb hby at_82)) ?_
    obtain ⟨T51, h51, k51, X51, e51, E51, A51, st51⟩ := newP X50 hx hZ (hW 4 _ rfl) e50 (g := (mkF m 83 #[.val (.int p1), .val (.int p2), .val (.int p3), .val (.int p4), .val (.int 2), .val (.int c0), .val (.int c1), .val (.int c2), .unset, .unset] [(.int 2), (.ref b50), (.ref b50)])) rfl (hb hby at_83) rfl (by decide) (cap := 2) (by decide) (by decide) (by decide) (by decide)
    obtain ⟨b51, g51⟩ : ∃ z, z = h50.size := ⟨_, rfl⟩
    rw [← g51] at A51 st51
    refine own_ofc st51 ?_
    have lt51 := own_lt A51.lt
    have sz51 : h50.size ≤ h51.size := E51.1
    have O51 : Old Z n0 h51 := O50.ext E51
    have z51 : n0 ≤ b51 := by have := O50.1 ▸ O50.2.1; omega
    have CHs51 := CHr.ext E51 CH50.1
    have Sf51 := Safe.ext E51 CH50.1 (Safe.new (Nat.le_of_eq g51.symm))
    have CH51 := CH50.trans CHs51
    have V51 : Arv Z h51 b51 k51 .char (2 : Int32) [(.int 0), (.int 0)] (.int 0) := (Arv.new A51 (by decide)).pad (pad_rep [] (.int 0) 2)
    show own_gc p e below s _ _ _ _ _ (T51.setTop (mkF m 85 #[.val (.int p1), .val (.int p2), .val (.int p3), .val (.int p4), .val (.int 2), .val (.int c0), .val (.int c1), .val (.int c2), .unset, .unset] [(.ref b51), (.ref b50), (.ref b50)]))
    refine own_ofc (fun tt_ => XS.dup X51.here hx rfl (hb hby at_85) rfl rfl) ?_
    refine own_ofc (fun tt_ => XS.iconst X51.here hx rfl (hb hby at_86)) ?_
    refine own_ofc (fun tt_ => XS.iload X51.here hx rfl (hb hby at_87) rfl) ?_
    obtain ⟨cl52, Ar52, q52, S52, Ng52, H52, G52⟩ := V51
    obtain ⟨T52, h52, X52, e52, W52, st52⟩ := stC X51 hx hZ e51 Ar52 (j := (0 : Int32)) (inb_of S52 ⟨by decide, by decide⟩) (g := (mkF m 89 #[.val (.int p1), .val (.int p2), .val (.int p3), .val (.int p4), .val (.int 2), .val (.int c0), .val (.int c1), .val (.int c2), .unset, .unset] [(.int c0), (.int 0), (.ref b51), (.ref b51), (.ref b50), (.ref b50)])) rfl rfl (hb hby at_89)
    have V52 : Arv Z h52 b51 k51 .char (2 : Int32) [(.int (nar .char c0)), (.int 0)] (.int 0) := Arv.set Ar52 q52 S52 Ng52 H52 G52 (fits_nar_char _) W52 0 rfl (Nat.le_of_ble_eq_true rfl)
    rw [own_nar16 r0] at V52
    refine own_ofc st52 ?_
    have CHs52 := CHr.wr W52 Sf51 CH51.1
    have CH52 := CH51.trans CHs52
    have N52 := Fr.snoc X52 N0 (by omega : n0 ≤ b51)
    have sz52 : h52.size = h51.size := W52.size
    have O52 : Old Z n0 h52 := O51.wr W52 (by omega)
    show own_gc p e below s _ _ _ _ _ (T52.setTop (mkF m 90 #[.val (.int p1), .val (.int p2), .val (.int p3), .val (.int p4), .val (.int 2), .val (.int c0), .val (.int c1), .val (.int c2), .unset, .unset] [(.ref b51), (.ref b50), (.ref b50)]))
    refine own_ofc (fun tt_ => XS.dup X52.here hx rfl (hb hby at_90) rfl rfl) ?_
    refine own_ofc (fun tt_ => XS.iconst X52.here hx rfl (hb hby at_91)) ?_
    refine own_ofc (fun tt_ => XS.iload X52.here hx rfl (hb hby at_92) rfl) ?_
    obtain ⟨cl53, Ar53, q53, S53, Ng53, H53, G53⟩ := V52
    obtain ⟨T53, h53, X53, e53, W53, st53⟩ := stC X52 hx hZ e52 Ar53 (j := (1 : Int32)) (inb_of S53 ⟨by decide, by decide⟩) (g := (mkF m 94 #[.val (.int p1), .val (.int p2), .val (.int p3), .val (.int p4), .val (.int 2), .val (.int c0), .val (.int c1), .val (.int c2), .unset, .unset] [(.int c1), (.int 1), (.ref b51), (.ref b51), (.ref b50), (.ref b50)])) rfl rfl (hb hby at_94)
    have V53 : Arv Z h53 b51 k51 .char (2 : Int32) [(.int c0), (.int (nar .char c1))] (.int 0) := Arv.set Ar53 q53 S53 Ng53 H53 G53 (fits_nar_char _) W53 1 rfl (Nat.le_of_ble_eq_true rfl)
    rw [own_nar16 r1] at V53
    refine own_ofc st53 ?_
    have f54 := (CHs52.safe (own_lt (by omega)) Sf51)
    have CHs53 := CHr.wr W53 f54 CH52.1
    have CH53 := CH52.trans CHs53
    have N53 := Fr.snoc X53 N52 (by omega : n0 ≤ b51)
    have sz53 : h53.size = h52.size := W53.size
    have O53 : Old Z n0 h53 := O52.wr W53 (by omega)
    show own_gc p e below s _ _ _ _ _ (T53.setTop (mkF m 95 #[.val (.int p1), .val (.int p2), .val (.int p3), .val (.int p4), .val (.int 2), .val (.int c0), .val (.int c1), .val (.int c2), .unset, .unset] [(.ref b51), (.ref b50), (.ref b50)]))
    by_cases hbig : (255 : Int32) < c0 ∨ (255 : Int32) < c1
    · have f55 : Exa Z h53 b50 "java/lang/String" := (((A50.ext E51).wr W52).wr W53)
      have f56 : Fld Z h53 b50 "java/lang/String" "value" "[B" .null := (((F50_value.ext E51).other W52 (Or.inl (own_ne (by omega)))).other W53 (Or.inl (own_ne (by omega))))
      have f57 : Fld Z h53 b50 "java/lang/String" "coder" "B" (.int 0) := (((F50_coder.ext E51).other W52 (Or.inl (own_ne (by omega)))).other W53 (Or.inl (own_ne (by omega))))
      obtain ⟨_, _, ⟨T58, L58, k58, n58⟩, -, X58, ⟨Lc58, hQ58, l58, y58, z58⟩, st58⟩ := X53.specialBack hx (y := ym12) rfl hown (mvT hZ (hW 5 _ rfl)) (mvT hZ (hW 6 _ rfl)) (mvT hZ (hW 7 _ rfl)) (by decide) (backOf (W := 1) (rmW1_2 l Z a0 hw [] b50 b51 k51 c0 c1 Gc h53 n0 O53 S_ad S_hi S_lo Oc Pc (by omega) f55 f56 f57 V53 r0 r1 hbig) hZ (hW 7 _ rfl) (hW 3 _ rfl) (by decide) (by decide)) (g := (mkF m 95 #[.val (.int p1), .val (.int p2), .val (.int p3), .val (.int p4), .val (.int 2), .val (.int c0), .val (.int c1), .val (.int c2), .unset, .unset] [(.ref b51), (.ref b50), (.ref b50)])) rfl (by rw [hml]; rfl) (Steps.refl _) (a := b50) (argsL := [(.ref b51)]) (rest := [(.ref b50)]) (lenOf pd_16 rfl) rfl (by show 2 * 0 + _ ≤ _; exact Nat.le_of_eq rfl) (hb hby at_95) (fun _ _ => ⟨rfl, e53, (by decide : 2 + 2 ≤ _), (by decide : 6 + 6 ≤ _)⟩)
      dsimp only [Pt.U, Pt.locs, Pt.cells, Pt.slots] at X58 l58 y58 z58 st58 hQ58
      subst l58 y58 z58
      obtain ⟨rfl, Nq58, Kp58, t58, kb58, Ew58, Vw58, Cw58, Aw58, gw58, nw58⟩ := hQ58
      have N58 := Fr.app N53 Nq58
      refine own_ofc (fun tt_ kk_ => st58.trans kk_) ?_
      have f59 := (CHs53.safe (own_lt (by omega)) (CHs52.safe (own_lt (by omega)) (CHs51.safe (own_lt (by omega)) Sf50)))
      have CHs58 := CHr.keep Kp58 (allS f59 all0) CH53.1
      have CH58 := CH53.trans CHs58
      have sz58 : h53.size ≤ T58.heap.size := Kp58.1
      have O58 : Old Z n0 T58.heap := O53.keep Kp58 (allS (by omega) all0)
      show own_gc p e below s _ _ _ _ _ (T58.setTop (mkF m 98 #[.val (.int p1), .val (.int p2), .val (.int p3), .val (.int p4), .val (.int 2), .val (.int c0), .val (.int c1), .val (.int c2), .unset, .unset] [(.ref b50)]))
      refine own_ofc (fun tt_ => XS.astore X58.here hx rfl (hb hby at_98) rfl rfl (l' := #[.val (.int p1), .val (.int p2), .val (.int p3), .val (.int p4), .val (.int 2), .val (.int c0), .val (.int c1), .val (.int c2), .val (.ref b50), .unset]) rfl) ?_
      refine own_ofc (fun tt_ => XS.goto X58.here hx rfl (pc0 := 100) (pc' := 130) rfl (hb hby at_100) (by decide) (by decide)) ?_
      refine own_ofc (fun tt_ => XS.iload X58.here hx rfl (hb hby at_130) rfl) ?_
      have hb132_60 : (0 : Int32) < (2 : Int32) := by decide
      refine own_ofc (fun tt_ => XS.ifNo X58.here hx rfl (hb hby at_132) rfl ((if0 _ _).trans (tlt hb132_60).2.2.2)) ?_
      show own_gc p e below s _ _ _ _ _ (T58.setTop (mkF m 135 #[.val (.int p1), .val (.int p2), .val (.int p3), .val (.int p4), .val (.int 2), .val (.int c0), .val (.int c1), .val (.int c2), .val (.ref b50), .unset] []))
      refine own_ofc (fun tt_ => XS.iload X58.here hx rfl (hb hby at_135) rfl) ?_
      show own_gc p e below s _ _ _ _ _ (T58.setTop (mkF m 137 #[.val (.int p1), .val (.int p2), .val (.int p3), .val (.int p4), .val (.int 2), .val (.int c0), .val (.int c1), .val (.int c2), .val (.ref b50), .unset] [(.int c0)]))
      obtain ⟨_, _, ⟨T61, L61, k61, n61⟩, -, X61, ⟨Lc61, hQ61, l61, y61, z61⟩, st61⟩ := Jvm.LawKit.callS X58 hx (y := ym8) hown (mvT hZ (hW 43 _ rfl)) (mvT hZ (hW 44 _ rfl)) (mvT hZ (hW 45 _ rfl)) (mvT hZ (hW 46 _ rfl)) (by decide) (backOf (W := 0) (rmOk l Z a0 hw [] c0 T58.heap n0 O58) hZ (hW 46 _ rfl) (hW 45 _ rfl) (by decide) (by decide)) (g := (mkF m 137 #[.val (.int p1), .val (.int p2), .val (.int p3), .val (.int p4), .val (.int 2), .val (.int c0), .val (.int c1), .val (.int c2), .val (.ref b50), .unset] [(.int c0)])) rfl (by rw [hml]; rfl) (argsL := [(.int c0)]) (rest := []) (lenOf pd_18 rfl) rfl (by show 2 * 0 + _ ≤ _; exact Nat.le_of_eq rfl) (hb hby at_137) (fun _ _ => ⟨rfl, rfl, (by decide : 4 + 0 ≤ _), (by decide : 12 + 0 ≤ _)⟩)
      dsimp only [Pt.U, Pt.locs, Pt.cells, Pt.slots] at X61 l61 y61 z61 st61 hQ61
      subst l61 y61 z61
      obtain ⟨rfl, Nq61, eh61⟩ := hQ61
      have N61 := Fr.app N58 Nq61
      refine own_ofc st61 ?_
      show own_gc p e below s _ _ _ _ _ (T61.setTop (mkF m 140 #[.val (.int p1), .val (.int p2), .val (.int p3), .val (.int p4), .val (.int 2), .val (.int c0), .val (.int c1), .val (.int c2), .val (.ref b50), .unset] [(.int (own_okv c0))]))
      by_cases hb140_62 : (own_okv c0) = (0 : Int32)
      · refine own_ofc (fun tt_ => XS.ifYes X61.here hx rfl (pc0 := 140) (pc' := 175) rfl (hb hby at_140) rfl ((if0 _ _).trans (teq hb140_62).1) (by decide) (by decide)) ?_
        show own_gc p e below s _ _ _ _ _ (T61.setTop (mkF m 175 #[.val (.int p1), .val (.int p2), .val (.int p3), .val (.int p4), .val (.int 2), .val (.int c0), .val (.int c1), .val (.int c2), .val (.ref b50), .unset] []))
        refine own_ofc (fun tt_ => XS.iconst X61.here hx rfl (hb hby at_175)) ?_
        refine own_ofc (fun tt_ => XS.istore X61.here hx rfl (hb hby at_176) rfl (l' := #[.val (.int p1), .val (.int p2), .val (.int p3), .val (.int p4), .val (.int 2), .val (.int c0), .val (.int c1), .val (.int c2), .val (.ref b50), .val (.int 0)]) rfl) ?_
        refine own_ofc (fun tt_ => XS.aload X61.here hx rfl (hb hby at_178) rfl rfl) ?_
        show own_gc p e below s _ _ _ _ _ (T61.setTop (mkF m 180 #[.val (.int p1), .val (.int p2), .val (.int p3), .val (.int p4), .val (.int 2), .val (.int c0), .val (.int c1), .val (.int c2), .val (.ref b50), .val (.int 0)] [(.ref b50)]))
        obtain ⟨_, _, ⟨T63, L63, k63, n63⟩, -, X63, ⟨Lc63, hQ63, l63, y63, z63⟩, st63⟩ := Jvm.LawKit.callS X61 hx (y := ym3) hown (mvT hZ (hW 23 _ rfl)) (mvT hZ (hW 24 _ rfl)) (mvT hZ (hW 25 _ rfl)) (mvT hZ (hW 26 _ rfl)) (by decide) (backOf (W := 0) (rmZ_2 l Z a0 hw [] b50 t58 kb58 c0 c1 Gc fm T58.heap n0 O58 S_ad S_hi S_lo Oc Pc S_f r_f Ew58 Vw58 (Or.inr ⟨Cw58, Aw58⟩) r0 r1) hZ (hW 26 _ rfl) (hW 25 _ rfl) (by decide) (by decide)) (g := (mkF m 180 #[.val (.int p1), .val (.int p2), .val (.int p3), .val (.int p4), .val (.int 2), .val (.int c0), .val (.int c1), .val (.int c2), .val (.ref b50), .val (.int 0)] [(.ref b50)])) rfl (by rw [hml]; rfl) (argsL := [(.ref b50)]) (rest := []) (lenOf pd_17 rfl) rfl (by show 2 * 0 + _ ≤ _; exact Nat.le_of_eq rfl) (hb hby at_180) (fun _ _ => ⟨rfl, eh61, (by decide : 4 + 0 ≤ _), (by decide : 12 + 0 ≤ _)⟩)
        dsimp only [Pt.U, Pt.locs, Pt.cells, Pt.slots] at X63 l63 y63 z63 st63 hQ63
        subst l63 y63 z63
        obtain ⟨rfl, Nq63, eh63⟩ := hQ63
        have N63 := Fr.app N61 Nq63
        refine own_ofc st63 ?_
        show own_gc p e below s _ _ _ _ _ (T63.setTop (mkF m 183 #[.val (.int p1), .val (.int p2), .val (.int p3), .val (.int p4), .val (.int 2), .val (.int c0), .val (.int c1), .val (.int c2), .val (.ref b50), .val (.int 0)] [(.int (own_okn [c0, c1]))]))
        refine own_ofc (fun tt_ => XS.iload X63.here hx rfl (hb hby at_183) rfl) ?_
        have hb185_64 : (own_okn [c0, c1]) = (0 : Int32) := own_okn0 (z := c0) (by simp) hb140_62
        refine own_ofc (fun tt_ => XS.icmpNo X63.here hx rfl (hb hby at_185) rfl (teq hb185_64).2) ?_
        show own_gc p e below s _ _ _ _ _ (T63.setTop (mkF m 188 #[.val (.int p1), .val (.int p2), .val (.int p3), .val (.int p4), .val (.int 2), .val (.int c0), .val (.int c1), .val (.int c2), .val (.ref b50), .val (.int 0)] []))
        refine own_ofc (fun tt_ => XS.iconst X63.here hx rfl (hb hby at_188)) ?_
        refine own_ofc (fun tt_ => XS.goto X63.here hx rfl (pc0 := 189) (pc' := 193) rfl (hb hby at_189) (by decide) (by decide)) ?_
        show own_gc p e below s _ _ _ _ _ (T63.setTop (mkF m 193 #[.val (.int p1), .val (.int p2), .val (.int p3), .val (.int p4), .val (.int 2), .val (.int c0), .val (.int c1), .val (.int c2), .val (.ref b50), .val (.int 0)] [(.int 1)]))
        refine own_retc X63 hx hlk hS0 (by rw [eh63]; omega : 0 ≤ T63.heap.size) hZ hEL (by rw [eh63]; exact CH58) Bd.returns rfl (Or.inl ⟨rfl, by simp, _, rfl⟩) (hb hby at_193) (by decide) (by decide) ?_
        rw [eh63]
        exact ⟨rfl, N63⟩
      · refine own_ofc (fun tt_ => XS.ifNo X61.here hx rfl (hb hby at_140) rfl ((if0 _ _).trans (feq hb140_62).1)) ?_
        show own_gc p e below s _ _ _ _ _ (T61.setTop (mkF m 143 #[.val (.int p1), .val (.int p2), .val (.int p3), .val (.int p4), .val (.int 2), .val (.int c0), .val (.int c1), .val (.int c2), .val (.ref b50), .unset] []))
        refine own_ofc (fun tt_ => XS.iload X61.here hx rfl (hb hby at_143) rfl) ?_
        refine own_ofc (fun tt_ => XS.iconst X61.here hx rfl (hb hby at_145)) ?_
        have hb146_65 : ¬ ((2 : Int32) < (2 : Int32)) := by decide
        refine own_ofc (fun tt_ => XS.icmpNo X61.here hx rfl (hb hby at_146) rfl (flt hb146_65).1) ?_
        show own_gc p e below s _ _ _ _ _ (T61.setTop (mkF m 149 #[.val (.int p1), .val (.int p2), .val (.int p3), .val (.int p4), .val (.int 2), .val (.int c0), .val (.int c1), .val (.int c2), .val (.ref b50), .unset] []))
        refine own_ofc (fun tt_ => XS.iload X61.here hx rfl (hb hby at_149) rfl) ?_
        show own_gc p e below s _ _ _ _ _ (T61.setTop (mkF m 151 #[.val (.int p1), .val (.int p2), .val (.int p3), .val (.int p4), .val (.int 2), .val (.int c0), .val (.int c1), .val (.int c2), .val (.ref b50), .unset] [(.int c1)]))
        obtain ⟨_, _, ⟨T66, L66, k66, n66⟩, -, X66, ⟨Lc66, hQ66, l66, y66, z66⟩, st66⟩ := Jvm.LawKit.callS X61 hx (y := ym8) hown (mvT hZ (hW 43 _ rfl)) (mvT hZ (hW 44 _ rfl)) (mvT hZ (hW 45 _ rfl)) (mvT hZ (hW 46 _ rfl)) (by decide) (backOf (W := 0) (rmOk l Z a0 hw [] c1 T58.heap n0 O58) hZ (hW 46 _ rfl) (hW 45 _ rfl) (by decide) (by decide)) (g := (mkF m 151 #[.val (.int p1), .val (.int p2), .val (.int p3), .val (.int p4), .val (.int 2), .val (.int c0), .val (.int c1), .val (.int c2), .val (.ref b50), .unset] [(.int c1)])) rfl (by rw [hml]; rfl) (argsL := [(.int c1)]) (rest := []) (lenOf pd_18 rfl) rfl (by show 2 * 0 + _ ≤ _; exact Nat.le_of_eq rfl) (hb hby at_151) (fun _ _ => ⟨rfl, eh61, (by decide : 4 + 0 ≤ _), (by decide : 12 + 0 ≤ _)⟩)
        dsimp only [Pt.U, Pt.locs, Pt.cells, Pt.slots] at X66 l66 y66 z66 st66 hQ66
        subst l66 y66 z66
        obtain ⟨rfl, Nq66, eh66⟩ := hQ66
        have N66 := Fr.app N61 Nq66
        refine own_ofc st66 ?_
        show own_gc p e below s _ _ _ _ _ (T66.setTop (mkF m 154 #[.val (.int p1), .val (.int p2), .val (.int p3), .val (.int p4), .val (.int 2), .val (.int c0), .val (.int c1), .val (.int c2), .val (.ref b50), .unset] [(.int (own_okv c1))]))
        by_cases hb154_67 : (own_okv c1) = (0 : Int32)
        · refine own_ofc (fun tt_ => XS.ifYes X66.here hx rfl (pc0 := 154) (pc' := 175) rfl (hb hby at_154) rfl ((if0 _ _).trans (teq hb154_67).1) (by decide) (by decide)) ?_
          show own_gc p e below s _ _ _ _ _ (T66.setTop (mkF m 175 #[.val (.int p1), .val (.int p2), .val (.int p3), .val (.int p4), .val (.int 2), .val (.int c0), .val (.int c1), .val (.int c2), .val (.ref b50), .unset] []))
          refine own_ofc (fun tt_ => XS.iconst X66.here hx rfl (hb hby at_175)) ?_
          refine own_ofc (fun tt_ => XS.istore X66.here hx rfl (hb hby at_176) rfl (l' := #[.val (.int p1), .val (.int p2), .val (.int p3), .val (.int p4), .val (.int 2), .val (.int c0), .val (.int c1), .val (.int c2), .val (.ref b50), .val (.int 0)]) rfl) ?_
          refine own_ofc (fun tt_ => XS.aload X66.here hx rfl (hb hby at_178) rfl rfl) ?_
          show own_gc p e below s _ _ _ _ _ (T66.setTop (mkF m 180 #[.val (.int p1), .val (.int p2), .val (.int p3), .val (.int p4), .val (.int 2), .val (.int c0), .val (.int c1), .val (.int c2), .val (.ref b50), .val (.int 0)] [(.ref b50)]))
          obtain ⟨_, _, ⟨T68, L68, k68, n68⟩, -, X68, ⟨Lc68, hQ68, l68, y68, z68⟩, st68⟩ := Jvm.LawKit.callS X66 hx (y := ym3) hown (mvT hZ (hW 23 _ rfl)) (mvT hZ (hW 24 _ rfl)) (mvT hZ (hW 25 _ rfl)) (mvT hZ (hW 26 _ rfl)) (by decide) (backOf (W := 0) (rmZ_2 l Z a0 hw [] b50 t58 kb58 c0 c1 Gc fm T58.heap n0 O58 S_ad S_hi S_lo Oc Pc S_f r_f Ew58 Vw58 (Or.inr ⟨Cw58, Aw58⟩) r0 r1) hZ (hW 26 _ rfl) (hW 25 _ rfl) (by decide) (by decide)) (g := (mkF m 180 #[.val (.int p1), .val (.int p2), .val (.int p3), .val (.int p4), .val (.int 2), .val (.int c0), .val (.int c1), .val (.int c2), .val (.ref b50), .val (.int 0)] [(.ref b50)])) rfl (by rw [hml]; rfl) (argsL := [(.ref b50)]) (rest := []) (lenOf pd_17 rfl) rfl (by show 2 * 0 + _ ≤ _; exact Nat.le_of_eq rfl) (hb hby at_180) (fun _ _ => ⟨rfl, eh66, (by decide : 4 + 0 ≤ _), (by decide : 12 + 0 ≤ _)⟩)
          dsimp only [Pt.U, Pt.locs, Pt.cells, Pt.slots] at X68 l68 y68 z68 st68 hQ68
          subst l68 y68 z68
          obtain ⟨rfl, Nq68, eh68⟩ := hQ68
          have N68 := Fr.app N66 Nq68
          refine own_ofc st68 ?_
          show own_gc p e below s _ _ _ _ _ (T68.setTop (mkF m 183 #[.val (.int p1), .val (.int p2), .val (.int p3), .val (.int p4), .val (.int 2), .val (.int c0), .val (.int c1), .val (.int c2), .val (.ref b50), .val (.int 0)] [(.int (own_okn [c0, c1]))]))
          refine own_ofc (fun tt_ => XS.iload X68.here hx rfl (hb hby at_183) rfl) ?_
          have hb185_69 : (own_okn [c0, c1]) = (0 : Int32) := own_okn0 (z := c1) (by simp) hb154_67
          refine own_ofc (fun tt_ => XS.icmpNo X68.here hx rfl (hb hby at_185) rfl (teq hb185_69).2) ?_
          show own_gc p e below s _ _ _ _ _ (T68.setTop (mkF m 188 #[.val (.int p1), .val (.int p2), .val (.int p3), .val (.int p4), .val (.int 2), .val (.int c0), .val (.int c1), .val (.int c2), .val (.ref b50), .val (.int 0)] []))
          refine own_ofc (fun tt_ => XS.iconst X68.here hx rfl (hb hby at_188)) ?_
          refine own_ofc (fun tt_ => XS.goto X68.here hx rfl (pc0 := 189) (pc' := 193) rfl (hb hby at_189) (by decide) (by decide)) ?_
          show own_gc p e below s _ _ _ _ _ (T68.setTop (mkF m 193 #[.val (.int p1), .val (.int p2), .val (.int p3), .val (.int p4), .val (.int 2), .val (.int c0), .val (.int c1), .val (.int c2), .val (.ref b50), .val (.int 0)] [(.int 1)]))
          refine own_retc X68 hx hlk hS0 (by rw [eh68]; omega : 0 ≤ T68.heap.size) hZ hEL (by rw [eh68]; exact CH58) Bd.returns rfl (Or.inl ⟨rfl, by simp, _, rfl⟩) (hb hby at_193) (by decide) (by decide) ?_
          rw [eh68]
          exact ⟨rfl, N68⟩
        · refine own_ofc (fun tt_ => XS.ifNo X66.here hx rfl (hb hby at_154) rfl ((if0 _ _).trans (feq hb154_67).1)) ?_
          show own_gc p e below s _ _ _ _ _ (T66.setTop (mkF m 157 #[.val (.int p1), .val (.int p2), .val (.int p3), .val (.int p4), .val (.int 2), .val (.int c0), .val (.int c1), .val (.int c2), .val (.ref b50), .unset] []))
          refine own_ofc (fun tt_ => XS.iload X66.here hx rfl (hb hby at_157) rfl) ?_
          refine own_ofc (fun tt_ => XS.iconst X66.here hx rfl (hb hby at_159)) ?_
          have hb160_70 : (2 : Int32) < (3 : Int32) := by decide
          refine own_ofc (fun tt_ => XS.icmpYes X66.here hx rfl (pc0 := 160) (pc' := 171) rfl (hb hby at_160) rfl (tlt hb160_70).1 (by decide) (by decide)) ?_
          show own_gc p e below s _ _ _ _ _ (T66.setTop (mkF m 171 #[.val (.int p1), .val (.int p2), .val (.int p3), .val (.int p4), .val (.int 2), .val (.int c0), .val (.int c1), .val (.int c2), .val (.ref b50), .unset] []))
          refine own_ofc (fun tt_ => XS.iconst X66.here hx rfl (hb hby at_171)) ?_
          refine own_ofc (fun tt_ => XS.goto X66.here hx rfl (pc0 := 172) (pc' := 176) rfl (hb hby at_172) (by decide) (by decide)) ?_
          refine own_ofc (fun tt_ => XS.istore X66.here hx rfl (hb hby at_176) rfl (l' := #[.val (.int p1), .val (.int p2), .val (.int p3), .val (.int p4), .val (.int 2), .val (.int c0), .val (.int c1), .val (.int c2), .val (.ref b50), .val (.int 1)]) rfl) ?_
          refine own_ofc (fun tt_ => XS.aload X66.here hx rfl (hb hby at_178) rfl rfl) ?_
          show own_gc p e below s _ _ _ _ _ (T66.setTop (mkF m 180 #[.val (.int p1), .val (.int p2), .val (.int p3), .val (.int p4), .val (.int 2), .val (.int c0), .val (.int c1), .val (.int c2), .val (.ref b50), .val (.int 1)] [(.ref b50)]))
          obtain ⟨_, _, ⟨T71, L71, k71, n71⟩, -, X71, ⟨Lc71, hQ71, l71, y71, z71⟩, st71⟩ := Jvm.LawKit.callS X66 hx (y := ym3) hown (mvT hZ (hW 23 _ rfl)) (mvT hZ (hW 24 _ rfl)) (mvT hZ (hW 25 _ rfl)) (mvT hZ (hW 26 _ rfl)) (by decide) (backOf (W := 0) (rmZ_2 l Z a0 hw [] b50 t58 kb58 c0 c1 Gc fm T58.heap n0 O58 S_ad S_hi S_lo Oc Pc S_f r_f Ew58 Vw58 (Or.inr ⟨Cw58, Aw58⟩) r0 r1) hZ (hW 26 _ rfl) (hW 25 _ rfl) (by decide) (by decide)) (g := (mkF m 180 #[.val (.int p1), .val (.int p2), .val (.int p3), .val (.int p4), .val (.int 2), .val (.int c0), .val (.int c1), .val (.int c2), .val (.ref b50), .val (.int 1)] [(.ref b50)])) rfl (by rw [hml]; rfl) (argsL := [(.ref b50)]) (rest := []) (lenOf pd_17 rfl) rfl (by show 2 * 0 + _ ≤ _; exact Nat.le_of_eq rfl) (hb hby at_180) (fun _ _ => ⟨rfl, eh66, (by decide : 4 + 0 ≤ _), (by decide : 12 + 0 ≤ _)⟩)
          dsimp only [Pt.U, Pt.locs, Pt.cells, Pt.slots] at X71 l71 y71 z71 st71 hQ71
          subst l71 y71 z71
          obtain ⟨rfl, Nq71, eh71⟩ := hQ71
          have N71 := Fr.app N66 Nq71
          refine own_ofc st71 ?_
          show own_gc p e below s _ _ _ _ _ (T71.setTop (mkF m 183 #[.val (.int p1), .val (.int p2), .val (.int p3), .val (.int p4), .val (.int 2), .val (.int c0), .val (.int c1), .val (.int c2), .val (.ref b50), .val (.int 1)] [(.int (own_okn [c0, c1]))]))
          refine own_ofc (fun tt_ => XS.iload X71.here hx rfl (hb hby at_183) rfl) ?_
          have hb185_72 : (own_okn [c0, c1]) = (1 : Int32) := by simp [own_okn, (own_okv01 c0).resolve_left hb140_62, (own_okv01 c1).resolve_left hb154_67]
          refine own_ofc (fun tt_ => XS.icmpNo X71.here hx rfl (hb hby at_185) rfl (teq hb185_72).2) ?_
          show own_gc p e below s _ _ _ _ _ (T71.setTop (mkF m 188 #[.val (.int p1), .val (.int p2), .val (.int p3), .val (.int p4), .val (.int 2), .val (.int c0), .val (.int c1), .val (.int c2), .val (.ref b50), .val (.int 1)] []))
          refine own_ofc (fun tt_ => XS.iconst X71.here hx rfl (hb hby at_188)) ?_
          refine own_ofc (fun tt_ => XS.goto X71.here hx rfl (pc0 := 189) (pc' := 193) rfl (hb hby at_189) (by decide) (by decide)) ?_
          show own_gc p e below s _ _ _ _ _ (T71.setTop (mkF m 193 #[.val (.int p1), .val (.int p2), .val (.int p3), .val (.int p4), .val (.int 2), .val (.int c0), .val (.int c1), .val (.int c2), .val (.ref b50), .val (.int 1)] [(.int 1)]))
          refine own_retc X71 hx hlk hS0 (by rw [eh71]; omega : 0 ≤ T71.heap.size) hZ hEL (by rw [eh71]; exact CH58) Bd.returns rfl (Or.inl ⟨rfl, by simp, _, rfl⟩) (hb hby at_193) (by decide) (by decide) ?_
          rw [eh71]
          exact ⟨rfl, N71⟩
    · simp only [not_or] at hbig
      obtain ⟨wq0, wq1⟩ := id hbig
      have hp73 : ∀ c ∈ ([c0, c1] : List Int32), ¬ c < 0 ∧ ¬ (255 : Int32) < c := by
        intro c hc
        simp only [List.mem_cons, List.not_mem_nil, or_false] at hc
        rcases hc with rfl | rfl
        · exact ⟨r0.1, wq0⟩
        · exact ⟨r1.1, wq1⟩
      have f74 : Exa Z h53 b50 "java/lang/String" := (((A50.ext E51).wr W52).wr W53)
      have f75 : Fld Z h53 b50 "java/lang/String" "value" "[B" .null := (((F50_value.ext E51).other W52 (Or.inl (own_ne (by omega)))).other W53 (Or.inl (own_ne (by omega))))
      have f76 : Fld Z h53 b50 "java/lang/String" "coder" "B" (.int 0) := (((F50_coder.ext E51).other W52 (Or.inl (own_ne (by omega)))).other W53 (Or.inl (own_ne (by omega))))
      obtain ⟨_, _, ⟨T77, L77, k77, n77⟩, -, X77, ⟨Lc77, hQ77, l77, y77, z77⟩, st77⟩ := X53.specialBack hx (y := ym12) rfl hown (mvT hZ (hW 5 _ rfl)) (mvT hZ (hW 6 _ rfl)) (mvT hZ (hW 7 _ rfl)) (by decide) (StrChars.Road.backV (W := 1) hZ hws (kI := 4) (hW 2 _ rfl) (cs := ([c0, c1] : List Int32)) (bs := ([c0, c1] : List Int32).map (fun c => c.toInt8.toInt32)) (n := 2) (by omega : n0 ≤ b50) (by omega : n0 ≤ h53.size) f74 f75 f76 V53 (Oc.ext O53.2) Pc rfl rfl (by decide) (by decide) hp73 rfl (by decide) (by decide)) (g := (mkF m 95 #[.val (.int p1), .val (.int p2), .val (.int p3), .val (.int p4), .val (.int 2), .val (.int c0), .val (.int c1), .val (.int c2), .unset, .unset] [(.ref b51), (.ref b50), (.ref b50)])) rfl (by rw [hml]; rfl) (Steps.refl _) (a := b50) (argsL := [(.ref b51)]) (rest := [(.ref b50)]) (lenOf pd_16 rfl) rfl (by show 2 * 0 + _ ≤ _; exact Nat.le_of_eq rfl) (hb hby at_95) (fun _ _ => ⟨rfl, e53, (by decide : 2 + 1 ≤ _), (by decide : 6 + 2 ≤ _)⟩)
      dsimp only [Pt.U, Pt.locs, Pt.cells, Pt.slots] at X77 l77 y77 z77 st77 hQ77
      subst l77 y77 z77
      obtain ⟨rfl, Nq77, Kp77, g177, g277, t77, kb77, u177, u277, u377, g477, g577⟩ := hQ77
      have N77 := Fr.app N53 Nq77
      refine own_ofc (fun tt_ kk_ => st77.trans kk_) ?_
      have f78 := (CHs53.safe (own_lt (by omega)) (CHs52.safe (own_lt (by omega)) (CHs51.safe (own_lt (by omega)) Sf50)))
      have CHs77 := CHr.keep Kp77 (allS f78 all0) CH53.1
      have CH77 := CH53.trans CHs77
      have sz77 : h53.size ≤ T77.heap.size := Kp77.1
      have O77 : Old Z n0 T77.heap := O53.keep Kp77 (allS (by omega) all0)
      have Sx77 : own_str Z T77.heap b50 ([c0, c1] : List Int32) := ⟨t77, kb77, _, _, g177, g477, g277, g577, StrChars.Road.codOf (n := 2) rfl (fun c hc => (hp73 c hc).2)⟩
      have Ex77 : Exa Z T77.heap b50 "java/lang/String" := by obtain ⟨_, _, _, _, q, -⟩ := id Sx77; exact q
      obtain ⟨tq79, kq79, Eq79, Vq79, Cq79, Aq79⟩ := own_str.opened Sx77
      show own_gc p e below s _ _ _ _ _ (T77.setTop (mkF m 98 #[.val (.int p1), .val (.int p2), .val (.int p3), .val (.int p4), .val (.int 2), .val (.int c0), .val (.int c1), .val (.int c2), .unset, .unset] [(.ref b50)]))
      refine own_ofc (fun tt_ => XS.astore X77.here hx rfl (hb hby at_98) rfl rfl (l' := #[.val (.int p1), .val (.int p2), .val (.int p3), .val (.int p4), .val (.int 2), .val (.int c0), .val (.int c1), .val (.int c2), .val (.ref b50), .unset]) rfl) ?_
      refine own_ofc (fun tt_ => XS.goto X77.here hx rfl (pc0 := 100) (pc' := 130) rfl (hb hby at_100) (by decide) (by decide)) ?_
      refine own_ofc (fun tt_ => XS.iload X77.here hx rfl (hb hby at_130) rfl) ?_
      have hb132_80 : (0 : Int32) < (2 : Int32) := by decide
      refine own_ofc (fun tt_ => XS.ifNo X77.here hx rfl (hb hby at_132) rfl ((if0 _ _).trans (tlt hb132_80).2.2.2)) ?_
      show own_gc p e below s _ _ _ _ _ (T77.setTop (mkF m 135 #[.val (.int p1), .val (.int p2), .val (.int p3), .val (.int p4), .val (.int 2), .val (.int c0), .val (.int c1), .val (.int c2), .val (.ref b50), .unset] []))
      refine own_ofc (fun tt_ => XS.iload X77.here hx rfl (hb hby at_135) rfl) ?_
      show own_gc p e below s _ _ _ _ _ (T77.setTop (mkF m 137 #[.val (.int p1), .val (.int p2), .val (.int p3), .val (.int p4), .val (.int 2), .val (.int c0), .val (.int c1), .val (.int c2), .val (.ref b50), .unset] [(.int c0)]))
      obtain ⟨_, _, ⟨T81, L81, k81, n81⟩, -, X81, ⟨Lc81, hQ81, l81, y81, z81⟩, st81⟩ := Jvm.LawKit.callS X77 hx (y := ym8) hown (mvT hZ (hW 43 _ rfl)) (mvT hZ (hW 44 _ rfl)) (mvT hZ (hW 45 _ rfl)) (mvT hZ (hW 46 _ rfl)) (by decide) (backOf (W := 0) (rmOk l Z a0 hw [] c0 T77.heap n0 O77) hZ (hW 46 _ rfl) (hW 45 _ rfl) (by decide) (by decide)) (g := (mkF m 137 #[.val (.int p1), .val (.int p2), .val (.int p3), .val (.int p4), .val (.int 2), .val (.int c0), .val (.int c1), .val (.int c2), .val (.ref b50), .unset] [(.int c0)])) rfl (by rw [hml]; rfl) (argsL := [(.int c0)]) (rest := []) (lenOf pd_18 rfl) rfl (by show 2 * 0 + _ ≤ _; exact Nat.le_of_eq rfl) (hb hby at_137) (fun _ _ => ⟨rfl, rfl, (by decide : 3 + 0 ≤ _), (by decide : 8 + 0 ≤ _)⟩)
      dsimp only [Pt.U, Pt.locs, Pt.cells, Pt.slots] at X81 l81 y81 z81 st81 hQ81
      subst l81 y81 z81
      obtain ⟨rfl, Nq81, eh81⟩ := hQ81
      have N81 := Fr.app N77 Nq81
      refine own_ofc st81 ?_
      show own_gc p e below s _ _ _ _ _ (T81.setTop (mkF m 140 #[.val (.int p1), .val (.int p2), .val (.int p3), .val (.int p4), .val (.int 2), .val (.int c0), .val (.int c1), .val (.int c2), .val (.ref b50), .unset] [(.int (own_okv c0))]))
      by_cases hb140_82 : (own_okv c0) = (0 : Int32)
      · refine own_ofc (fun tt_ => XS.ifYes X81.here hx rfl (pc0 := 140) (pc' := 175) rfl (hb hby at_140) rfl ((if0 _ _).trans (teq hb140_82).1) (by decide) (by decide)) ?_
        show own_gc p e below s _ _ _ _ _ (T81.setTop (mkF m 175 #[.val (.int p1), .val (.int p2), .val (.int p3), .val (.int p4), .val (.int 2), .val (.int c0), .val (.int c1), .val (.int c2), .val (.ref b50), .unset] []))
        refine own_ofc (fun tt_ => XS.iconst X81.here hx rfl (hb hby at_175)) ?_
        refine own_ofc (fun tt_ => XS.istore X81.here hx rfl (hb hby at_176) rfl (l' := #[.val (.int p1), .val (.int p2), .val (.int p3), .val (.int p4), .val (.int 2), .val (.int c0), .val (.int c1), .val (.int c2), .val (.ref b50), .val (.int 0)]) rfl) ?_
        refine own_ofc (fun tt_ => XS.aload X81.here hx rfl (hb hby at_178) rfl rfl) ?_
        show own_gc p e below s _ _ _ _ _ (T81.setTop (mkF m 180 #[.val (.int p1), .val (.int p2), .val (.int p3), .val (.int p4), .val (.int 2), .val (.int c0), .val (.int c1), .val (.int c2), .val (.ref b50), .val (.int 0)] [(.ref b50)]))
        obtain ⟨_, _, ⟨T83, L83, k83, n83⟩, -, X83, ⟨Lc83, hQ83, l83, y83, z83⟩, st83⟩ := Jvm.LawKit.callS X81 hx (y := ym3) hown (mvT hZ (hW 23 _ rfl)) (mvT hZ (hW 24 _ rfl)) (mvT hZ (hW 25 _ rfl)) (mvT hZ (hW 26 _ rfl)) (by decide) (backOf (W := 0) (rmZ_2 l Z a0 hw [] b50 tq79 kq79 c0 c1 Gc fm T77.heap n0 O77 S_ad S_hi S_lo Oc Pc S_f r_f Eq79 Vq79 (Or.inl ⟨Cq79, Aq79, wq0, wq1⟩) r0 r1) hZ (hW 26 _ rfl) (hW 25 _ rfl) (by decide) (by decide)) (g := (mkF m 180 #[.val (.int p1), .val (.int p2), .val (.int p3), .val (.int p4), .val (.int 2), .val (.int c0), .val (.int c1), .val (.int c2), .val (.ref b50), .val (.int 0)] [(.ref b50)])) rfl (by rw [hml]; rfl) (argsL := [(.ref b50)]) (rest := []) (lenOf pd_17 rfl) rfl (by show 2 * 0 + _ ≤ _; exact Nat.le_of_eq rfl) (hb hby at_180) (fun _ _ => ⟨rfl, eh81, (by decide : 3 + 0 ≤ _), (by decide : 8 + 0 ≤ _)⟩)
        dsimp only [Pt.U, Pt.locs, Pt.cells, Pt.slots] at X83 l83 y83 z83 st83 hQ83
        subst l83 y83 z83
        obtain ⟨rfl, Nq83, eh83⟩ := hQ83
        have N83 := Fr.app N81 Nq83
        refine own_ofc st83 ?_
        show own_gc p e below s _ _ _ _ _ (T83.setTop (mkF m 183 #[.val (.int p1), .val (.int p2), .val (.int p3), .val (.int p4), .val (.int 2), .val (.int c0), .val (.int c1), .val (.int c2), .val (.ref b50), .val (.int 0)] [(.int (own_okn [c0, c1]))]))
        refine own_ofc (fun tt_ => XS.iload X83.here hx rfl (hb hby at_183) rfl) ?_
        have hb185_84 : (own_okn [c0, c1]) = (0 : Int32) := own_okn0 (z := c0) (by simp) hb140_82
        refine own_ofc (fun tt_ => XS.icmpNo X83.here hx rfl (hb hby at_185) rfl (teq hb185_84).2) ?_
        show own_gc p e below s _ _ _ _ _ (T83.setTop (mkF m 188 #[.val (.int p1), .val (.int p2), .val (.int p3), .val (.int p4), .val (.int 2), .val (.int c0), .val (.int c1), .val (.int c2), .val (.ref b50), .val (.int 0)] []))
        refine own_ofc (fun tt_ => XS.iconst X83.here hx rfl (hb hby at_188)) ?_
        refine own_ofc (fun tt_ => XS.goto X83.here hx rfl (pc0 := 189) (pc' := 193) rfl (hb hby at_189) (by decide) (by decide)) ?_
        show own_gc p e below s _ _ _ _ _ (T83.setTop (mkF m 193 #[.val (.int p1), .val (.int p2), .val (.int p3), .val (.int p4), .val (.int 2), .val (.int c0), .val (.int c1), .val (.int c2), .val (.ref b50), .val (.int 0)] [(.int 1)]))
        refine own_retc X83 hx hlk hS0 (by rw [eh83]; omega : 0 ≤ T83.heap.size) hZ hEL (by rw [eh83]; exact CH77) Bd.returns rfl (Or.inl ⟨rfl, by simp, _, rfl⟩) (hb hby at_193) (by decide) (by decide) ?_
        rw [eh83]
        exact ⟨rfl, N83⟩
      · refine own_ofc (fun tt_ => XS.ifNo X81.here hx rfl (hb hby at_140) rfl ((if0 _ _).trans (feq hb140_82).1)) ?_
        show own_gc p e below s _ _ _ _ _ (T81.setTop (mkF m 143 #[.val (.int p1), .val (.int p2), .val (.int p3), .val (.int p4), .val (.int 2), .val (.int c0), .val (.int c1), .val (.int c2), .val (.ref b50), .unset] []))
        refine own_ofc (fun tt_ => XS.iload X81.here hx rfl (hb hby at_143) rfl) ?_
        refine own_ofc (fun tt_ => XS.iconst X81.here hx rfl (hb hby at_145)) ?_
        have hb146_85 : ¬ ((2 : Int32) < (2 : Int32)) := by decide
        refine own_ofc (fun tt_ => XS.icmpNo X81.here hx rfl (hb hby at_146) rfl (flt hb146_85).1) ?_
        show own_gc p e below s _ _ _ _ _ (T81.setTop (mkF m 149 #[.val (.int p1), .val (.int p2), .val (.int p3), .val (.int p4), .val (.int 2), .val (.int c0), .val (.int c1), .val (.int c2), .val (.ref b50), .unset] []))
        refine own_ofc (fun tt_ => XS.iload X81.here hx rfl (hb hby at_149) rfl) ?_
        show own_gc p e below s _ _ _ _ _ (T81.setTop (mkF m 151 #[.val (.int p1), .val (.int p2), .val (.int p3), .val (.int p4), .val (.int 2), .val (.int c0), .val (.int c1), .val (.int c2), .val (.ref b50), .unset] [(.int c1)]))
        obtain ⟨_, _, ⟨T86, L86, k86, n86⟩, -, X86, ⟨Lc86, hQ86, l86, y86, z86⟩, st86⟩ := Jvm.LawKit.callS X81 hx (y := ym8) hown (mvT hZ (hW 43 _ rfl)) (mvT hZ (hW 44 _ rfl)) (mvT hZ (hW 45 _ rfl)) (mvT hZ (hW 46 _ rfl)) (by decide) (backOf (W := 0) (rmOk l Z a0 hw [] c1 T77.heap n0 O77) hZ (hW 46 _ rfl) (hW 45 _ rfl) (by decide) (by decide)) (g := (mkF m 151 #[.val (.int p1), .val (.int p2), .val (.int p3), .val (.int p4), .val (.int 2), .val (.int c0), .val (.int c1), .val (.int c2), .val (.ref b50), .unset] [(.int c1)])) rfl (by rw [hml]; rfl) (argsL := [(.int c1)]) (rest := []) (lenOf pd_18 rfl) rfl (by show 2 * 0 + _ ≤ _; exact Nat.le_of_eq rfl) (hb hby at_151) (fun _ _ => ⟨rfl, eh81, (by decide : 3 + 0 ≤ _), (by decide : 8 + 0 ≤ _)⟩)
        dsimp only [Pt.U, Pt.locs, Pt.cells, Pt.slots] at X86 l86 y86 z86 st86 hQ86
        subst l86 y86 z86
        obtain ⟨rfl, Nq86, eh86⟩ := hQ86
        have N86 := Fr.app N81 Nq86
        refine own_ofc st86 ?_
        show own_gc p e below s _ _ _ _ _ (T86.setTop (mkF m 154 #[.val (.int p1), .val (.int p2), .val (.int p3), .val (.int p4), .val (.int 2), .val (.int c0), .val (.int c1), .val (.int c2), .val (.ref b50), .unset] [(.int (own_okv c1))]))
        by_cases hb154_87 : (own_okv c1) = (0 : Int32)
        · refine own_ofc (fun tt_ => XS.ifYes X86.here hx rfl (pc0 := 154) (pc' := 175) rfl (hb hby at_154) rfl ((if0 _ _).trans (teq hb154_87).1) (by decide) (by decide)) ?_
          show own_gc p e below s _ _ _ _ _ (T86.setTop (mkF m 175 #[.val (.int p1), .val (.int p2), .val (.int p3), .val (.int p4), .val (.int 2), .val (.int c0), .val (.int c1), .val (.int c2), .val (.ref b50), .unset] []))
          refine own_ofc (fun tt_ => XS.iconst X86.here hx rfl (hb hby at_175)) ?_
          refine own_ofc (fun tt_ => XS.istore X86.here hx rfl (hb hby at_176) rfl (l' := #[.val (.int p1), .val (.int p2), .val (.int p3), .val (.int p4), .val (.int 2), .val (.int c0), .val (.int c1), .val (.int c2), .val (.ref b50), .val (.int 0)]) rfl) ?_
          refine own_ofc (fun tt_ => XS.aload X86.here hx rfl (hb hby at_178) rfl rfl) ?_
          show own_gc p e below s _ _ _ _ _ (T86.setTop (mkF m 180 #[.val (.int p1), .val (.int p2), .val (.int p3), .val (.int p4), .val (.int 2), .val (.int c0), .val (.int c1), .val (.int c2), .val (.ref b50), .val (.int 0)] [(.ref b50)]))
          obtain ⟨_, _, ⟨T88, L88, k88, n88⟩, -, X88, ⟨Lc88, hQ88, l88, y88, z88⟩, st88⟩ := Jvm.LawKit.callS X86 hx (y := ym3) hown (mvT hZ (hW 23 _ rfl)) (mvT hZ (hW 24 _ rfl)) (mvT hZ (hW 25 _ rfl)) (mvT hZ (hW 26 _ rfl)) (by decide) (backOf (W := 0) (rmZ_2 l Z a0 hw [] b50 tq79 kq79 c0 c1 Gc fm T77.heap n0 O77 S_ad S_hi S_lo Oc Pc S_f r_f Eq79 Vq79 (Or.inl ⟨Cq79, Aq79, wq0, wq1⟩) r0 r1) hZ (hW 26 _ rfl) (hW 25 _ rfl) (by decide) (by decide)) (g := (mkF m 180 #[.val (.int p1), .val (.int p2), .val (.int p3), .val (.int p4), .val (.int 2), .val (.int c0), .val (.int c1), .val (.int c2), .val (.ref b50), .val (.int 0)] [(.ref b50)])) rfl (by rw [hml]; rfl) (argsL := [(.ref b50)]) (rest := []) (lenOf pd_17 rfl) rfl (by show 2 * 0 + _ ≤ _; exact Nat.le_of_eq rfl) (hb hby at_180) (fun _ _ => ⟨rfl, eh86, (by decide : 3 + 0 ≤ _), (by decide : 8 + 0 ≤ _)⟩)
          dsimp only [Pt.U, Pt.locs, Pt.cells, Pt.slots] at X88 l88 y88 z88 st88 hQ88
          subst l88 y88 z88
          obtain ⟨rfl, Nq88, eh88⟩ := hQ88
          have N88 := Fr.app N86 Nq88
          refine own_ofc st88 ?_
          show own_gc p e below s _ _ _ _ _ (T88.setTop (mkF m 183 #[.val (.int p1), .val (.int p2), .val (.int p3), .val (.int p4), .val (.int 2), .val (.int c0), .val (.int c1), .val (.int c2), .val (.ref b50), .val (.int 0)] [(.int (own_okn [c0, c1]))]))
          refine own_ofc (fun tt_ => XS.iload X88.here hx rfl (hb hby at_183) rfl) ?_
          have hb185_89 : (own_okn [c0, c1]) = (0 : Int32) := own_okn0 (z := c1) (by simp) hb154_87
          refine own_ofc (fun tt_ => XS.icmpNo X88.here hx rfl (hb hby at_185) rfl (teq hb185_89).2) ?_
          show own_gc p e below s _ _ _ _ _ (T88.setTop (mkF m 188 #[.val (.int p1), .val (.int p2), .val (.int p3), .val (.int p4), .val (.int 2), .val (.int c0), .val (.int c1), .val (.int c2), .val (.ref b50), .val (.int 0)] []))
          refine own_ofc (fun tt_ => XS.iconst X88.here hx rfl (hb hby at_188)) ?_
          refine own_ofc (fun tt_ => XS.goto X88.here hx rfl (pc0 := 189) (pc' := 193) rfl (hb hby at_189) (by decide) (by decide)) ?_
          show own_gc p e below s _ _ _ _ _ (T88.setTop (mkF m 193 #[.val (.int p1), .val (.int p2), .val (.int p3), .val (.int p4), .val (.int 2), .val (.int c0), .val (.int c1), .val (.int c2), .val (.ref b50), .val (.int 0)] [(.int 1)]))
          refine own_retc X88 hx hlk hS0 (by rw [eh88]; omega : 0 ≤ T88.heap.size) hZ hEL (by rw [eh88]; exact CH77) Bd.returns rfl (Or.inl ⟨rfl, by simp, _, rfl⟩) (hb hby at_193) (by decide) (by decide) ?_
          rw [eh88]
          exact ⟨rfl, N88⟩
        · refine own_ofc (fun tt_ => XS.ifNo X86.here hx rfl (hb hby at_154) rfl ((if0 _ _).trans (feq hb154_87).1)) ?_
          show own_gc p e below s _ _ _ _ _ (T86.setTop (mkF m 157 #[.val (.int p1), .val (.int p2), .val (.int p3), .val (.int p4), .val (.int 2), .val (.int c0), .val (.int c1), .val (.int c2), .val (.ref b50), .unset] []))
          refine own_ofc (fun tt_ => XS.iload X86.here hx rfl (hb hby at_157) rfl) ?_
          refine own_ofc (fun tt_ => XS.iconst X86.here hx rfl (hb hby at_159)) ?_
          have hb160_90 : (2 : Int32) < (3 : Int32) := by decide
          refine own_ofc (fun tt_ => XS.icmpYes X86.here hx rfl (pc0 := 160) (pc' := 171) rfl (hb hby at_160) rfl (tlt hb160_90).1 (by decide) (by decide)) ?_
          show own_gc p e below s _ _ _ _ _ (T86.setTop (mkF m 171 #[.val (.int p1), .val (.int p2), .val (.int p3), .val (.int p4), .val (.int 2), .val (.int c0), .val (.int c1), .val (.int c2), .val (.ref b50), .unset] []))
          refine own_ofc (fun tt_ => XS.iconst X86.here hx rfl (hb hby at_171)) ?_
          refine own_ofc (fun tt_ => XS.goto X86.here hx rfl (pc0 := 172) (pc' := 176) rfl (hb hby at_172) (by decide) (by decide)) ?_
          refine own_ofc (fun tt_ => XS.istore X86.here hx rfl (hb hby at_176) rfl (l' := #[.val (.int p1), .val (.int p2), .val (.int p3), .val (.int p4), .val (.int 2), .val (.int c0), .val (.int c1), .val (.int c2), .val (.ref b50), .val (.int 1)]) rfl) ?_
          refine own_ofc (fun tt_ => XS.aload X86.here hx rfl (hb hby at_178) rfl rfl) ?_
          show own_gc p e below s _ _ _ _ _ (T86.setTop (mkF m 180 #[.val (.int p1), .val (.int p2), .val (.int p3), .val (.int p4), .val (.int 2), .val (.int c0), .val (.int c1), .val (.int c2), .val (.ref b50), .val (.int 1)] [(.ref b50)]))
          obtain ⟨_, _, ⟨T91, L91, k91, n91⟩, -, X91, ⟨Lc91, hQ91, l91, y91, z91⟩, st91⟩ := Jvm.LawKit.callS X86 hx (y := ym3) hown (mvT hZ (hW 23 _ rfl)) (mvT hZ (hW 24 _ rfl)) (mvT hZ (hW 25 _ rfl)) (mvT hZ (hW 26 _ rfl)) (by decide) (backOf (W := 0) (rmZ_2 l Z a0 hw [] b50 tq79 kq79 c0 c1 Gc fm T77.heap n0 O77 S_ad S_hi S_lo Oc Pc S_f r_f Eq79 Vq79 (Or.inl ⟨Cq79, Aq79, wq0, wq1⟩) r0 r1) hZ (hW 26 _ rfl) (hW 25 _ rfl) (by decide) (by decide)) (g := (mkF m 180 #[.val (.int p1), .val (.int p2), .val (.int p3), .val (.int p4), .val (.int 2), .val (.int c0), .val (.int c1), .val (.int c2), .val (.ref b50), .val (.int 1)] [(.ref b50)])) rfl (by rw [hml]; rfl) (argsL := [(.ref b50)]) (rest := []) (lenOf pd_17 rfl) rfl (by show 2 * 0 + _ ≤ _; exact Nat.le_of_eq rfl) (hb hby at_180) (fun _ _ => ⟨rfl, eh86, (by decide : 3 + 0 ≤ _), (by decide : 8 + 0 ≤ _)⟩)
          dsimp only [Pt.U, Pt.locs, Pt.cells, Pt.slots] at X91 l91 y91 z91 st91 hQ91
          subst l91 y91 z91
          obtain ⟨rfl, Nq91, eh91⟩ := hQ91
          have N91 := Fr.app N86 Nq91
          refine own_ofc st91 ?_
          show own_gc p e below s _ _ _ _ _ (T91.setTop (mkF m 183 #[.val (.int p1), .val (.int p2), .val (.int p3), .val (.int p4), .val (.int 2), .val (.int c0), .val (.int c1), .val (.int c2), .val (.ref b50), .val (.int 1)] [(.int (own_okn [c0, c1]))]))
          refine own_ofc (fun tt_ => XS.iload X91.here hx rfl (hb hby at_183) rfl) ?_
          have hb185_92 : (own_okn [c0, c1]) = (1 : Int32) := by simp [own_okn, (own_okv01 c0).resolve_left hb140_82, (own_okv01 c1).resolve_left hb154_87]
          refine own_ofc (fun tt_ => XS.icmpNo X91.here hx rfl (hb hby at_185) rfl (teq hb185_92).2) ?_
          show own_gc p e below s _ _ _ _ _ (T91.setTop (mkF m 188 #[.val (.int p1), .val (.int p2), .val (.int p3), .val (.int p4), .val (.int 2), .val (.int c0), .val (.int c1), .val (.int c2), .val (.ref b50), .val (.int 1)] []))
          refine own_ofc (fun tt_ => XS.iconst X91.here hx rfl (hb hby at_188)) ?_
          refine own_ofc (fun tt_ => XS.goto X91.here hx rfl (pc0 := 189) (pc' := 193) rfl (hb hby at_189) (by decide) (by decide)) ?_
          show own_gc p e below s _ _ _ _ _ (T91.setTop (mkF m 193 #[.val (.int p1), .val (.int p2), .val (.int p3), .val (.int p4), .val (.int 2), .val (.int c0), .val (.int c1), .val (.int c2), .val (.ref b50), .val (.int 1)] [(.int 1)]))
          refine own_retc X91 hx hlk hS0 (by rw [eh91]; omega : 0 ≤ T91.heap.size) hZ hEL (by rw [eh91]; exact CH77) Bd.returns rfl (Or.inl ⟨rfl, by simp, _, rfl⟩) (hb hby at_193) (by decide) (by decide) ?_
          rw [eh91]
          exact ⟨rfl, N91⟩
  · rw [hk]
    show own_gc p e below s _ _ _ _ _ (s₁.setTop (mkF m 3 #[.val (.int p1), .val (.int p2), .val (.int p3), .val (.int p4), .unset, .unset, .unset, .unset, .unset, .unset] [(.int 3)]))
    refine own_ofc (fun tt_ => XS.istore X0.here hx rfl (hb hby at_3) rfl (l' := #[.val (.int p1), .val (.int p2), .val (.int p3), .val (.int p4), .val (.int 3), .unset, .unset, .unset, .unset, .unset]) rfl) ?_
    refine own_ofc (fun tt_ => XS.iloadN X0.here hx rfl (hb hby at_5) rfl) ?_
    refine own_ofc (fun tt_ => X0.ldcI hx hown (mvT hZ (hW 0 _ rfl)) rfl (hb hby at_6)) ?_
    show own_gc p e below s _ _ _ _ _ (s₁.setTop (mkF m 8 #[.val (.int p1), .val (.int p2), .val (.int p3), .val (.int p4), .val (.int 3), .unset, .unset, .unset, .unset, .unset] [(.int 65535), (.int p2)]))
    refine own_ofc (fun tt_ => XS.iand X0.here hx rfl (hb hby at_8) rfl) ?_
    show own_gc p e below s _ _ _ _ _ (s₁.setTop (mkF m 9 #[.val (.int p1), .val (.int p2), .val (.int p3), .val (.int p4), .val (.int 3), .unset, .unset, .unset, .unset, .unset] [(.int (p2 &&& (65535 : Int32)))]))
    refine own_ofc (fun tt_ => XS.i2c X0.here hx rfl (hb hby at_9) rfl) ?_
    show own_gc p e below s _ _ _ _ _ (s₁.setTop (mkF m 10 #[.val (.int p1), .val (.int p2), .val (.int p3), .val (.int p4), .val (.int 3), .unset, .unset, .unset, .unset, .unset] [(.int ((p2 &&& (65535 : Int32)).toUInt32.toUInt16.toUInt32.toInt32))]))
    obtain ⟨c0, r0, ec0⟩ : ∃ z : Int32, own_c16 z ∧ ((p2 &&& (65535 : Int32)).toUInt32.toUInt16.toUInt32.toInt32) = z := ⟨_, own_c65 _, rfl⟩
    rw [ec0]
    show own_gc p e below s _ _ _ _ _ (s₁.setTop (mkF m 10 #[.val (.int p1), .val (.int p2), .val (.int p3), .val (.int p4), .val (.int 3), .unset, .unset, .unset, .unset, .unset] [(.int c0)]))
    refine own_ofc (fun tt_ => XS.istore X0.here hx rfl (hb hby at_10) rfl (l' := #[.val (.int p1), .val (.int p2), .val (.int p3), .val (.int p4), .val (.int 3), .val (.int c0), .unset, .unset, .unset, .unset]) rfl) ?_
    refine own_ofc (fun tt_ => XS.iloadN X0.here hx rfl (hb hby at_12) rfl) ?_
    refine own_ofc (fun tt_ => X0.ldcI hx hown (mvT hZ (hW 0 _ rfl)) rfl (hb hby at_13)) ?_
    show own_gc p e below s _ _ _ _ _ (s₁.setTop (mkF m 15 #[.val (.int p1), .val (.int p2), .val (.int p3), .val (.int p4), .val (.int 3), .val (.int c0), .unset, .unset, .unset, .unset] [(.int 65535), (.int p3)]))
    refine own_ofc (fun tt_ => XS.iand X0.here hx rfl (hb hby at_15) rfl) ?_
    show own_gc p e below s _ _ _ _ _ (s₁.setTop (mkF m 16 #[.val (.int p1), .val (.int p2), .val (.int p3), .val (.int p4), .val (.int 3), .val (.int c0), .unset, .unset, .unset, .unset] [(.int (p3 &&& (65535 : Int32)))]))
    refine own_ofc (fun tt_ => XS.i2c X0.here hx rfl (hb hby at_16) rfl) ?_
    show own_gc p e below s _ _ _ _ _ (s₁.setTop (mkF m 17 #[.val (.int p1), .val (.int p2), .val (.int p3), .val (.int p4), .val (.int 3), .val (.int c0), .unset, .unset, .unset, .unset] [(.int ((p3 &&& (65535 : Int32)).toUInt32.toUInt16.toUInt32.toInt32))]))
    obtain ⟨c1, r1, ec1⟩ : ∃ z : Int32, own_c16 z ∧ ((p3 &&& (65535 : Int32)).toUInt32.toUInt16.toUInt32.toInt32) = z := ⟨_, own_c65 _, rfl⟩
    rw [ec1]
    show own_gc p e below s _ _ _ _ _ (s₁.setTop (mkF m 17 #[.val (.int p1), .val (.int p2), .val (.int p3), .val (.int p4), .val (.int 3), .val (.int c0), .unset, .unset, .unset, .unset] [(.int c1)]))
    refine own_ofc (fun tt_ => XS.istore X0.here hx rfl (hb hby at_17) rfl (l' := #[.val (.int p1), .val (.int p2), .val (.int p3), .val (.int p4), .val (.int 3), .val (.int c0), .val (.int c1), .unset, .unset, .unset]) rfl) ?_
    refine own_ofc (fun tt_ => XS.iloadN X0.here hx rfl (hb hby at_19) rfl) ?_
    refine own_ofc (fun tt_ => X0.ldcI hx hown (mvT hZ (hW 0 _ rfl)) rfl (hb hby at_20)) ?_
    show own_gc p e below s _ _ _ _ _ (s₁.setTop (mkF m 22 #[.val (.int p1), .val (.int p2), .val (.int p3), .val (.int p4), .val (.int 3), .val (.int c0), .val (.int c1), .unset, .unset, .unset] [(.int 65535), (.int p4)]))
    refine own_ofc (fun tt_ => XS.iand X0.here hx rfl (hb hby at_22) rfl) ?_
    show own_gc p e below s _ _ _ _ _ (s₁.setTop (mkF m 23 #[.val (.int p1), .val (.int p2), .val (.int p3), .val (.int p4), .val (.int 3), .val (.int c0), .val (.int c1), .unset, .unset, .unset] [(.int (p4 &&& (65535 : Int32)))]))
    refine own_ofc (fun tt_ => XS.i2c X0.here hx rfl (hb hby at_23) rfl) ?_
    show own_gc p e below s _ _ _ _ _ (s₁.setTop (mkF m 24 #[.val (.int p1), .val (.int p2), .val (.int p3), .val (.int p4), .val (.int 3), .val (.int c0), .val (.int c1), .unset, .unset, .unset] [(.int ((p4 &&& (65535 : Int32)).toUInt32.toUInt16.toUInt32.toInt32))]))
    obtain ⟨c2, r2, ec2⟩ : ∃ z : Int32, own_c16 z ∧ ((p4 &&& (65535 : Int32)).toUInt32.toUInt16.toUInt32.toInt32) = z := ⟨_, own_c65 _, rfl⟩
    rw [ec2]
    show own_gc p e below s _ _ _ _ _ (s₁.setTop (mkF m 24 #[.val (.int p1), .val (.int p2), .val (.int p3), .val (.int p4), .val (.int 3), .val (.int c0), .val (.int c1), .unset, .unset, .unset] [(.int c2)]))
    refine own_ofc (fun tt_ => XS.istore X0.here hx rfl (hb hby at_24) rfl (l' := #[.val (.int p1), .val (.int p2), .val (.int p3), .val (.int p4), .val (.int 3), .val (.int c0), .val (.int c1), .val (.int c2), .unset, .unset]) rfl) ?_
    refine own_ofc (fun tt_ => XS.iload X0.here hx rfl (hb hby at_26) rfl) ?_
    have hb28_93 : ¬ ((3 : Int32) = (0 : Int32)) := by decide
    refine own_ofc (fun tt_ => XS.ifYes X0.here hx rfl (pc0 := 28) (pc' := 46) rfl (hb hby at_28) rfl ((if0 _ _).trans (feq hb28_93).2) (by decide) (by decide)) ?_
    show own_gc p e below s _ _ _ _ _ (s₁.setTop (mkF m 46 #[.val (.int p1), .val (.int p2), .val (.int p3), .val (.int p4), .val (.int 3), .val (.int c0), .val (.int c1), .val (.int c2), .unset, .unset] []))
    refine own_ofc (fun tt_ => XS.iload X0.here hx rfl (hb hby at_46) rfl) ?_
    refine own_ofc (fun tt_ => XS.iconst X0.here hx rfl (hb hby at_48)) ?_
    have hb49_94 : ¬ ((3 : Int32) = (1 : Int32)) := by decide
    refine own_ofc (fun tt_ => XS.icmpYes X0.here hx rfl (pc0 := 49) (pc' := 72) rfl (hb hby at_49) rfl (feq hb49_94).2 (by decide) (by decide)) ?_
    show own_gc p e below s _ _ _ _ _ (s₁.setTop (mkF m 72 #[.val (.int p1), .val (.int p2), .val (.int p3), .val (.int p4), .val (.int 3), .val (.int c0), .val (.int c1), .val (.int c2), .unset, .unset] []))
    refine own_ofc (fun tt_ => XS.iload X0.here hx rfl (hb hby at_72) rfl) ?_
    refine own_ofc (fun tt_ => XS.iconst X0.here hx rfl (hb hby at_74)) ?_
    have hb75_95 : ¬ ((3 : Int32) = (2 : Int32)) := by decide
    refine own_ofc (fun tt_ => XS.icmpYes X0.here hx rfl (pc0 := 75) (pc' := 103) rfl (hb hby at_75) rfl (feq hb75_95).2 (by decide) (by decide)) ?_
    show own_gc p e below s _ _ _ _ _ (s₁.setTop (mkF m 103 #[.val (.int p1), .val (.int p2), .val (.int p3), .val (.int p4), .val (.int 3), .val (.int c0), .val (.int c1), .val (.int c2), .unset, .unset] []))
    obtain ⟨T96, h96, X96, e96, E96, A96, D96, -, st96⟩ := newO X0 hx hZ hown (hW 1 _ rfl) (hW 2 _ rfl) (hW 3 _ rfl) e0 (g := (mkF m 103 #[.val (.int p1), .val (.int p2), .val (.int p3), .val (.int p4), .val (.int 3), .val (.int c0), .val (.int c1), .val (.int c2), .unset, .unset] [])) rfl (hb hby at_103) (by decide) (by decide)
    obtain ⟨b96, g96⟩ : ∃ z, z = h0.size := ⟨_, rfl⟩
    rw [← g96] at A96 D96 st96
    refine own_ofc st96 ?_
    have lt96 := own_lt A96.lt
    have sz96 : h0.size ≤ h96.size := E96.1
    have O96 : Old Z n0 h96 := XO0.ext E96
    have z96 : n0 ≤ b96 := by have := XO0.1 ▸ XO0.2.1; omega
    have CHs96 := CHr.ext E96 CH0.1
    have Sf96 := Safe.ext E96 CH0.1 (Safe.new (Nat.le_of_eq g96.symm))
    have CH96 := CH0.trans CHs96
    have F96_value : Fld Z h96 b96 "java/lang/String" "value" "[B" .null := D96 (Or.inr (hW 17 _ rfl)) (ty := (.array .byte)) pf_1
    have F96_coder : Fld Z h96 b96 "java/lang/String" "coder" "B" (.int 0) := D96 (Or.inr (hW 18 _ rfl)) (ty := .byte) pf_0
    show own_gc p e below s _ _ _ _ _ (T96.setTop (mkF m 106 #[.val (.int p1), .val (.int p2), .val (.int p3), .val (.int p4), .val (.int 3), .val (.int c0), .val (.int c1), .val (.int c2), .unset, .unset] [(.ref b96)]))
    refine own_ofc (fun tt_ => XS.dup X96.here hx rfl (hb hby at_106) rfl rfl) ?_
    refine own_ofc (fun tt_ => XS.iconst X96.here hx rfl (hb hby at_107)) ?_
    obtain ⟨T97, h97, k97, X97, e97, E97, A97, st97⟩ := newP X96 hx hZ (hW 4 _ rfl) e96 (g := (mkF m 108 #[.val (.int p1), .val (.int p2), .val (.int p3), .val (.int p4), .val (.int 3), .val (.int c0), .val (.int c1), .val (.int c2), .unset, .unset] [(.int 3), (.ref b96), (.ref b96)])) rfl (hb hby at_108) rfl (by decide) (cap := 3) (by decide) (by decide) (by decide) (by decide)
    obtain ⟨b97, g97⟩ : ∃ z, z = h96.size := ⟨_, rfl⟩
    rw [← g97] at A97 st97
    refine own_ofc st97 ?_
    have lt97 := own_lt A97.lt
    have sz97 : h96.size ≤ h97.size := E97.1
    have O97 : Old Z n0 h97 := O96.ext E97
    have z97 : n0 ≤ b97 := by have := O96.1 ▸ O96.2.1; omega
    have CHs97 := CHr.ext E97 CH96.1
    have Sf97 := Safe.ext E97 CH96.1 (Safe.new (Nat.le_of_eq g97.symm))
    have CH97 := CH96.trans CHs97
    have V97 : Arv Z h97 b97 k97 .char (3 : Int32) [(.int 0), (.int 0), (.int 0)] (.int 0) := (Arv.new A97 (by decide)).pad (pad_rep [] (.int 0) 3)
    show own_gc p e below s _ _ _ _ _ (T97.setTop (mkF m 110 #[.val (.int p1), .val (.int p2), .val (.int p3), .val (.int p4), .val (.int 3), .val (.int c0), .val (.int c1), .val (.int c2), .unset, .unset] [(.ref b97), (.ref b96), (.ref b96)]))
    refine own_ofc (fun tt_ => XS.dup X97.here hx rfl (hb hby at_110) rfl rfl) ?_
    refine own_ofc (fun tt_ => XS.iconst X97.here hx rfl (hb hby at_111)) ?_
    refine own_ofc (fun tt_ => XS.iload X97.here hx rfl (hb hby at_112) rfl) ?_
    obtain ⟨cl98, Ar98, q98, S98, Ng98, H98, G98⟩ := V97
    obtain ⟨T98, h98, X98, e98, W98, st98⟩ := stC X97 hx hZ e97 Ar98 (j := (0 : Int32)) (inb_of S98 ⟨by decide, by decide⟩) (g := (mkF m 114 #[.val (.int p1), .val (.int p2), .val (.int p3), .val (.int p4), .val (.int 3), .val (.int c0), .val (.int c1), .val (.int c2), .unset, .unset] [(.int c0), (.int 0), (.ref b97), (.ref b97), (.ref b96), (.ref b96)])) rfl rfl (hb hby at_114)
    have V98 : Arv Z h98 b97 k97 .char (3 : Int32) [(.int (nar .char c0)), (.int 0), (.int 0)] (.int 0) := Arv.set Ar98 q98 S98 Ng98 H98 G98 (fits_nar_char _) W98 0 rfl (Nat.le_of_ble_eq_true rfl)
    rw [own_nar16 r0] at V98
    refine own_ofc st98 ?_
    have CHs98 := CHr.wr W98 Sf97 CH97.1
    have CH98 := CH97.trans CHs98
    have N98 := Fr.snoc X98 N0 (by omega : n0 ≤ b97)
    have sz98 : h98.size = h97.size := W98.size
    have O98 : Old Z n0 h98 := O97.wr W98 (by omega)
    show own_gc p e below s _ _ _ _ _ (T98.setTop (mkF m 115 #[.val (.int p1), .val (.int p2), .val (.int p3), .val (.int p4), .val (.int 3), .val (.int c0), .val (.int c1), .val (.int c2), .unset, .unset] [(.ref b97), (.ref b96), (.ref b96)]))
    refine own_ofc (fun tt_ => XS.dup X98.here hx rfl (hb hby at_115) rfl rfl) ?_
    refine own_ofc (fun tt_ => XS.iconst X98.here hx rfl (hb hby at_116)) ?_
    refine own_ofc (fun tt_ => XS.iload X98.here hx rfl (hb hby at_117) rfl) ?_
    obtain ⟨cl99, Ar99, q99, S99, Ng99, H99, G99⟩ := V98
    obtain ⟨T99, h99, X99, e99, W99, st99⟩ := stC X98 hx hZ e98 Ar99 (j := (1 : Int32)) (inb_of S99 ⟨by decide, by decide⟩) (g := (mkF m 119 #[.val (.int p1), .val (.int p2), .val (.int p3), .val (.int p4), .val (.int 3), .val (.int c0), .val (.int c1), .val (.int c2), .unset, .unset] [(.int c1), (.int 1), (.ref b97), (.ref b97), (.ref b96), (.ref b96)])) rfl rfl (hb hby at_119)
    have V99 : Arv Z h99 b97 k97 .char (3 : Int32) [(.int c0), (.int (nar .char c1)), (.int 0)] (.int 0) := Arv.set Ar99 q99 S99 Ng99 H99 G99 (fits_nar_char _) W99 1 rfl (Nat.le_of_ble_eq_true rfl)
    rw [own_nar16 r1] at V99
    refine own_ofc st99 ?_
    have f100 := (CHs98.safe (own_lt (by omega)) Sf97)
    have CHs99 := CHr.wr W99 f100 CH98.1
    have CH99 := CH98.trans CHs99
    have N99 := Fr.snoc X99 N98 (by omega : n0 ≤ b97)
    have sz99 : h99.size = h98.size := W99.size
    have O99 : Old Z n0 h99 := O98.wr W99 (by omega)
    show own_gc p e below s _ _ _ _ _ (T99.setTop (mkF m 120 #[.val (.int p1), .val (.int p2), .val (.int p3), .val (.int p4), .val (.int 3), .val (.int c0), .val (.int c1), .val (.int c2), .unset, .unset] [(.ref b97), (.ref b96), (.ref b96)]))
    refine own_ofc (fun tt_ => XS.dup X99.here hx rfl (hb hby at_120) rfl rfl) ?_
    refine own_ofc (fun tt_ => XS.iconst X99.here hx rfl (hb hby at_121)) ?_
    refine own_ofc (fun tt_ => XS.iload X99.here hx rfl (hb hby at_122) rfl) ?_
    obtain ⟨cl101, Ar101, q101, S101, Ng101, H101, G101⟩ := V99
    obtain ⟨T101, h101, X101, e101, W101, st101⟩ := stC X99 hx hZ e99 Ar101 (j := (2 : Int32)) (inb_of S101 ⟨by decide, by decide⟩) (g := (mkF m 124 #[.val (.int p1), .val (.int p2), .val (.int p3), .val (.int p4), .val (.int 3), .val (.int c0), .val (.int c1), .val (.int c2), .unset, .unset] [(.int c2), (.int 2), (.ref b97), (.ref b97), (.ref b96), (.ref b96)])) rfl rfl (hb hby at_124)
    have V101 : Arv Z h101 b97 k97 .char (3 : Int32) [(.int c0), (.int c1), (.int (nar .char c2))] (.int 0) := Arv.set Ar101 q101 S101 Ng101 H101 G101 (fits_nar_char _) W101 2 rfl (Nat.le_of_ble_eq_true rfl)
    rw [own_nar16 r2] at V101
    refine own_ofc st101 ?_
    have f102 := (CHs99.safe (own_lt (by omega)) f100)
    have CHs101 := CHr.wr W101 f102 CH99.1
    have CH101 := CH99.trans CHs101
    have N101 := Fr.snoc X101 N99 (by omega : n0 ≤ b97)
    have sz101 : h101.size = h99.size := W101.size
    have O101 : Old Z n0 h101 := O99.wr W101 (by omega)
    show own_gc p e below s _ _ _ _ _ (T101.setTop (mkF m 125 #[.val (.int p1), .val (.int p2), .val (.int p3), .val (.int p4), .val (.int 3), .val (.int c0), .val (.int c1), .val (.int c2), .unset, .unset] [(.ref b97), (.ref b96), (.ref b96)]))
    by_cases hbig : (255 : Int32) < c0 ∨ (255 : Int32) < c1 ∨ (255 : Int32) < c2
    · have f103 : Exa Z h101 b96 "java/lang/String" := ((((A96.ext E97).wr W98).wr W99).wr W101)
      have f104 : Fld Z h101 b96 "java/lang/String" "value" "[B" .null := ((((F96_value.ext E97).other W98 (Or.inl (own_ne (by omega)))).other W99 (Or.inl (own_ne (by omega)))).other W101 (Or.inl (own_ne (by omega))))
      have f105 : Fld Z h101 b96 "java/lang/String" "coder" "B" (.int 0) := ((((F96_coder.ext E97).other W98 (Or.inl (own_ne (by omega)))).other W99 (Or.inl (own_ne (by omega)))).other W101 (Or.inl (own_ne (by omega))))
      obtain ⟨_, _, ⟨T106, L106, k106, n106⟩, -, X106, ⟨Lc106, hQ106, l106, y106, z106⟩, st106⟩ := X101.specialBack hx (y := ym12) rfl hown (mvT hZ (hW 5 _ rfl)) (mvT hZ (hW 6 _ rfl)) (mvT hZ (hW 7 _ rfl)) (by decide) (backOf (W := 1) (rmW1_3 l Z a0 hw [] b96 b97 k97 c0 c1 c2 Gc h101 n0 O101 S_ad S_hi S_lo Oc Pc (by omega) f103 f104 f105 V101 r0 r1 r2 hbig) hZ (hW 7 _ rfl) (hW 3 _ rfl) (by decide) (by decide)) (g := (mkF m 125 #[.val (.int p1), .val (.int p2), .val (.int p3), .val (.int p4), .val (.int 3), .val (.int c0), .val (.int c1), .val (.int c2), .unset, .unset] [(.ref b97), (.ref b96), (.ref b96)])) rfl (by rw [hml]; rfl) (Steps.refl _) (a := b96) (argsL := [(.ref b97)]) (rest := [(.ref b96)]) (lenOf pd_16 rfl) rfl (by show 2 * 0 + _ ≤ _; exact Nat.le_of_eq rfl) (hb hby at_125) (fun _ _ => ⟨rfl, e101, (by decide : 2 + 2 ≤ _), (by decide : 7 + 9 ≤ _)⟩)
      dsimp only [Pt.U, Pt.locs, Pt.cells, Pt.slots] at X106 l106 y106 z106 st106 hQ106
      subst l106 y106 z106
      obtain ⟨rfl, Nq106, Kp106, t106, kb106, Ew106, Vw106, Cw106, Aw106, gw106, nw106⟩ := hQ106
      have N106 := Fr.app N101 Nq106
      refine own_ofc (fun tt_ kk_ => st106.trans kk_) ?_
      have f107 := (CHs101.safe (own_lt (by omega)) (CHs99.safe (own_lt (by omega)) (CHs98.safe (own_lt (by omega)) (CHs97.safe (own_lt (by omega)) Sf96))))
      have CHs106 := CHr.keep Kp106 (allS f107 all0) CH101.1
      have CH106 := CH101.trans CHs106
      have sz106 : h101.size ≤ T106.heap.size := Kp106.1
      have O106 : Old Z n0 T106.heap := O101.keep Kp106 (allS (by omega) all0)
      show own_gc p e below s _ _ _ _ _ (T106.setTop (mkF m 128 #[.val (.int p1), .val (.int p2), .val (.int p3), .val (.int p4), .val (.int 3), .val (.int c0), .val (.int c1), .val (.int c2), .unset, .unset] [(.ref b96)]))
      refine own_ofc (fun tt_ => XS.astore X106.here hx rfl (hb hby at_128) rfl rfl (l' := #[.val (.int p1), .val (.int p2), .val (.int p3), .val (.int p4), .val (.int 3), .val (.int c0), .val (.int c1), .val (.int c2), .val (.ref b96), .unset]) rfl) ?_
      refine own_ofc (fun tt_ => XS.iload X106.here hx rfl (hb hby at_130) rfl) ?_
      have hb132_108 : (0 : Int32) < (3 : Int32) := by decide
      refine own_ofc (fun tt_ => XS.ifNo X106.here hx rfl (hb hby at_132) rfl ((if0 _ _).trans (tlt hb132_108).2.2.2)) ?_
      show own_gc p e below s _ _ _ _ _ (T106.setTop (mkF m 135 #[.val (.int p1), .val (.int p2), .val (.int p3), .val (.int p4), .val (.int 3), .val (.int c0), .val (.int c1), .val (.int c2), .val (.ref b96), .unset] []))
      refine own_ofc (fun tt_ => XS.iload X106.here hx rfl (hb hby at_135) rfl) ?_
      show own_gc p e below s _ _ _ _ _ (T106.setTop (mkF m 137 #[.val (.int p1), .val (.int p2), .val (.int p3), .val (.int p4), .val (.int 3), .val (.int c0), .val (.int c1), .val (.int c2), .val (.ref b96), .unset] [(.int c0)]))
      obtain ⟨_, _, ⟨T109, L109, k109, n109⟩, -, X109, ⟨Lc109, hQ109, l109, y109, z109⟩, st109⟩ := Jvm.LawKit.callS X106 hx (y := ym8) hown (mvT hZ (hW 43 _ rfl)) (mvT hZ (hW 44 _ rfl)) (mvT hZ (hW 45 _ rfl)) (mvT hZ (hW 46 _ rfl)) (by decide) (backOf (W := 0) (rmOk l Z a0 hw [] c0 T106.heap n0 O106) hZ (hW 46 _ rfl) (hW 45 _ rfl) (by decide) (by decide)) (g := (mkF m 137 #[.val (.int p1), .val (.int p2), .val (.int p3), .val (.int p4), .val (.int 3), .val (.int c0), .val (.int c1), .val (.int c2), .val (.ref b96), .unset] [(.int c0)])) rfl (by rw [hml]; rfl) (argsL := [(.int c0)]) (rest := []) (lenOf pd_18 rfl) rfl (by show 2 * 0 + _ ≤ _; exact Nat.le_of_eq rfl) (hb hby at_137) (fun _ _ => ⟨rfl, rfl, (by decide : 4 + 0 ≤ _), (by decide : 16 + 0 ≤ _)⟩)
      dsimp only [Pt.U, Pt.locs, Pt.cells, Pt.slots] at X109 l109 y109 z109 st109 hQ109
      subst l109 y109 z109
      obtain ⟨rfl, Nq109, eh109⟩ := hQ109
      have N109 := Fr.app N106 Nq109
      refine own_ofc st109 ?_
      show own_gc p e below s _ _ _ _ _ (T109.setTop (mkF m 140 #[.val (.int p1), .val (.int p2), .val (.int p3), .val (.int p4), .val (.int 3), .val (.int c0), .val (.int c1), .val (.int c2), .val (.ref b96), .unset] [(.int (own_okv c0))]))
      by_cases hb140_110 : (own_okv c0) = (0 : Int32)
      · refine own_ofc (fun tt_ => XS.ifYes X109.here hx rfl (pc0 := 140) (pc' := 175) rfl (hb hby at_140) rfl ((if0 _ _).trans (teq hb140_110).1) (by decide) (by decide)) ?_
        show own_gc p e below s _ _ _ _ _ (T109.setTop (mkF m 175 #[.val (.int p1), .val (.int p2), .val (.int p3), .val (.int p4), .val (.int 3), .val (.int c0), .val (.int c1), .val (.int c2), .val (.ref b96), .unset] []))
        refine own_ofc (fun tt_ => XS.iconst X109.here hx rfl (hb hby at_175)) ?_
        refine own_ofc (fun tt_ => XS.istore X109.here hx rfl (hb hby at_176) rfl (l' := #[.val (.int p1), .val (.int p2), .val (.int p3), .val (.int p4), .val (.int 3), .val (.int c0), .val (.int c1), .val (.int c2), .val (.ref b96), .val (.int 0)]) rfl) ?_
        refine own_ofc (fun tt_ => XS.aload X109.here hx rfl (hb hby at_178) rfl rfl) ?_
        show own_gc p e below s _ _ _ _ _ (T109.setTop (mkF m 180 #[.val (.int p1), .val (.int p2), .val (.int p3), .val (.int p4), .val (.int 3), .val (.int c0), .val (.int c1), .val (.int c2), .val (.ref b96), .val (.int 0)] [(.ref b96)]))
        obtain ⟨_, _, ⟨T111, L111, k111, n111⟩, -, X111, ⟨Lc111, hQ111, l111, y111, z111⟩, st111⟩ := Jvm.LawKit.callS X109 hx (y := ym3) hown (mvT hZ (hW 23 _ rfl)) (mvT hZ (hW 24 _ rfl)) (mvT hZ (hW 25 _ rfl)) (mvT hZ (hW 26 _ rfl)) (by decide) (backOf (W := 0) (rmZ_3 l Z a0 hw [] b96 t106 kb106 c0 c1 c2 Gc fm T106.heap n0 O106 S_ad S_hi S_lo Oc Pc S_f r_f Ew106 Vw106 (Or.inr ⟨Cw106, Aw106⟩) r0 r1 r2) hZ (hW 26 _ rfl) (hW 25 _ rfl) (by decide) (by decide)) (g := (mkF m 180 #[.val (.int p1), .val (.int p2), .val (.int p3), .val (.int p4), .val (.int 3), .val (.int c0), .val (.int c1), .val (.int c2), .val (.ref b96), .val (.int 0)] [(.ref b96)])) rfl (by rw [hml]; rfl) (argsL := [(.ref b96)]) (rest := []) (lenOf pd_17 rfl) rfl (by show 2 * 0 + _ ≤ _; exact Nat.le_of_eq rfl) (hb hby at_180) (fun _ _ => ⟨rfl, eh109, (by decide : 4 + 0 ≤ _), (by decide : 16 + 0 ≤ _)⟩)
        dsimp only [Pt.U, Pt.locs, Pt.cells, Pt.slots] at X111 l111 y111 z111 st111 hQ111
        subst l111 y111 z111
        obtain ⟨rfl, Nq111, eh111⟩ := hQ111
        have N111 := Fr.app N109 Nq111
        refine own_ofc st111 ?_
        show own_gc p e below s _ _ _ _ _ (T111.setTop (mkF m 183 #[.val (.int p1), .val (.int p2), .val (.int p3), .val (.int p4), .val (.int 3), .val (.int c0), .val (.int c1), .val (.int c2), .val (.ref b96), .val (.int 0)] [(.int (own_okn [c0, c1, c2]))]))
        refine own_ofc (fun tt_ => XS.iload X111.here hx rfl (hb hby at_183) rfl) ?_
        have hb185_112 : (own_okn [c0, c1, c2]) = (0 : Int32) := own_okn0 (z := c0) (by simp) hb140_110
        refine own_ofc (fun tt_ => XS.icmpNo X111.here hx rfl (hb hby at_185) rfl (teq hb185_112).2) ?_
        show own_gc p e below s _ _ _ _ _ (T111.setTop (mkF m 188 #[.val (.int p1), .val (.int p2), .val (.int p3), .val (.int p4), .val (.int 3), .val (.int c0), .val (.int c1), .val (.int c2), .val (.ref b96), .val (.int 0)] []))
        refine own_ofc (fun tt_ => XS.iconst X111.here hx rfl (hb hby at_188)) ?_
        refine own_ofc (fun tt_ => XS.goto X111.here hx rfl (pc0 := 189) (pc' := 193) rfl (hb hby at_189) (by decide) (by decide)) ?_
        show own_gc p e below s _ _ _ _ _ (T111.setTop (mkF m 193 #[.val (.int p1), .val (.int p2), .val (.int p3), .val (.int p4), .val (.int 3), .val (.int c0), .val (.int c1), .val (.int c2), .val (.ref b96), .val (.int 0)] [(.int 1)]))
        refine own_retc X111 hx hlk hS0 (by rw [eh111]; omega : 0 ≤ T111.heap.size) hZ hEL (by rw [eh111]; exact CH106) Bd.returns rfl (Or.inl ⟨rfl, by simp, _, rfl⟩) (hb hby at_193) (by decide) (by decide) ?_
        rw [eh111]
        exact ⟨rfl, N111⟩
      · refine own_ofc (fun tt_ => XS.ifNo X109.here hx rfl (hb hby at_140) rfl ((if0 _ _).trans (feq hb140_110).1)) ?_
        show own_gc p e below s _ _ _ _ _ (T109.setTop (mkF m 143 #[.val (.int p1), .val (.int p2), .val (.int p3), .val (.int p4), .val (.int 3), .val (.int c0), .val (.int c1), .val (.int c2), .val (.ref b96), .unset] []))
        refine own_ofc (fun tt_ => XS.iload X109.here hx rfl (hb hby at_143) rfl) ?_
        refine own_ofc (fun tt_ => XS.iconst X109.here hx rfl (hb hby at_145)) ?_
        have hb146_113 : ¬ ((3 : Int32) < (2 : Int32)) := by decide
        refine own_ofc (fun tt_ => XS.icmpNo X109.here hx rfl (hb hby at_146) rfl (flt hb146_113).1) ?_
        show own_gc p e below s _ _ _ _ _ (T109.setTop (mkF m 149 #[.val (.int p1), .val (.int p2), .val (.int p3), .val (.int p4), .val (.int 3), .val (.int c0), .val (.int c1), .val (.int c2), .val (.ref b96), .unset] []))
        refine own_ofc (fun tt_ => XS.iload X109.here hx rfl (hb hby at_149) rfl) ?_
        show own_gc p e below s _ _ _ _ _ (T109.setTop (mkF m 151 #[.val (.int p1), .val (.int p2), .val (.int p3), .val (.int p4), .val (.int 3), .val (.int c0), .val (.int c1), .val (.int c2), .val (.ref b96), .unset] [(.int c1)]))
        obtain ⟨_, _, ⟨T114, L114, k114, n114⟩, -, X114, ⟨Lc114, hQ114, l114, y114, z114⟩, st114⟩ := Jvm.LawKit.callS X109 hx (y := ym8) hown (mvT hZ (hW 43 _ rfl)) (mvT hZ (hW 44 _ rfl)) (mvT hZ (hW 45 _ rfl)) (mvT hZ (hW 46 _ rfl)) (by decide) (backOf (W := 0) (rmOk l Z a0 hw [] c1 T106.heap n0 O106) hZ (hW 46 _ rfl) (hW 45 _ rfl) (by decide) (by decide)) (g := (mkF m 151 #[.val (.int p1), .val (.int p2), .val (.int p3), .val (.int p4), .val (.int 3), .val (.int c0), .val (.int c1), .val (.int c2), .val (.ref b96), .unset] [(.int c1)])) rfl (by rw [hml]; rfl) (argsL := [(.int c1)]) (rest := []) (lenOf pd_18 rfl) rfl (by show 2 * 0 + _ ≤ _; exact Nat.le_of_eq rfl) (hb hby at_151) (fun _ _ => ⟨rfl, eh109, (by decide : 4 + 0 ≤ _), (by decide : 16 + 0 ≤ _)⟩)
        dsimp only [Pt.U, Pt.locs, Pt.cells, Pt.slots] at X114 l114 y114 z114 st114 hQ114
        subst l114 y114 z114
        obtain ⟨rfl, Nq114, eh114⟩ := hQ114
        have N114 := Fr.app N109 Nq114
        refine own_ofc st114 ?_
        show own_gc p e below s _ _ _ _ _ (T114.setTop (mkF m 154 #[.val (.int p1), .val (.int p2), .val (.int p3), .val (.int p4), .val (.int 3), .val (.int c0), .val (.int c1), .val (.int c2), .val (.ref b96), .unset] [(.int (own_okv c1))]))
        by_cases hb154_115 : (own_okv c1) = (0 : Int32)
        · refine own_ofc (fun tt_ => XS.ifYes X114.here hx rfl (pc0 := 154) (pc' := 175) rfl (hb hby at_154) rfl ((if0 _ _).trans (teq hb154_115).1) (by decide) (by decide)) ?_
          show own_gc p e below s _ _ _ _ _ (T114.setTop (mkF m 175 #[.val (.int p1), .val (.int p2), .val (.int p3), .val (.int p4), .val (.int 3), .val (.int c0), .val (.int c1), .val (.int c2), .val (.ref b96), .unset] []))
          refine own_ofc (fun tt_ => XS.iconst X114.here hx rfl (hb hby at_175)) ?_
          refine own_ofc (fun tt_ => XS.istore X114.here hx rfl (hb hby at_176) rfl (l' := #[.val (.int p1), .val (.int p2), .val (.int p3), .val (.int p4), .val (.int 3), .val (.int c0), .val (.int c1), .val (.int c2), .val (.ref b96), .val (.int 0)]) rfl) ?_
          refine own_ofc (fun tt_ => XS.aload X114.here hx rfl (hb hby at_178) rfl rfl) ?_
          show own_gc p e below s _ _ _ _ _ (T114.setTop (mkF m 180 #[.val (.int p1), .val (.int p2), .val (.int p3), .val (.int p4), .val (.int 3), .val (.int c0), .val (.int c1), .val (.int c2), .val (.ref b96), .val (.int 0)] [(.ref b96)]))
          obtain ⟨_, _, ⟨T116, L116, k116, n116⟩, -, X116, ⟨Lc116, hQ116, l116, y116, z116⟩, st116⟩ := Jvm.LawKit.callS X114 hx (y := ym3) hown (mvT hZ (hW 23 _ rfl)) (mvT hZ (hW 24 _ rfl)) (mvT hZ (hW 25 _ rfl)) (mvT hZ (hW 26 _ rfl)) (by decide) (backOf (W := 0) (rmZ_3 l Z a0 hw [] b96 t106 kb106 c0 c1 c2 Gc fm T106.heap n0 O106 S_ad S_hi S_lo Oc Pc S_f r_f Ew106 Vw106 (Or.inr ⟨Cw106, Aw106⟩) r0 r1 r2) hZ (hW 26 _ rfl) (hW 25 _ rfl) (by decide) (by decide)) (g := (mkF m 180 #[.val (.int p1), .val (.int p2), .val (.int p3), .val (.int p4), .val (.int 3), .val (.int c0), .val (.int c1), .val (.int c2), .val (.ref b96), .val (.int 0)] [(.ref b96)])) rfl (by rw [hml]; rfl) (argsL := [(.ref b96)]) (rest := []) (lenOf pd_17 rfl) rfl (by show 2 * 0 + _ ≤ _; exact Nat.le_of_eq rfl) (hb hby at_180) (fun _ _ => ⟨rfl, eh114, (by decide : 4 + 0 ≤ _), (by decide : 16 + 0 ≤ _)⟩)
          dsimp only [Pt.U, Pt.locs, Pt.cells, Pt.slots] at X116 l116 y116 z116 st116 hQ116
          subst l116 y116 z116
          obtain ⟨rfl, Nq116, eh116⟩ := hQ116
          have N116 := Fr.app N114 Nq116
          refine own_ofc st116 ?_
          show own_gc p e below s _ _ _ _ _ (T116.setTop (mkF m 183 #[.val (.int p1), .val (.int p2), .val (.int p3), .val (.int p4), .val (.int 3), .val (.int c0), .val (.int c1), .val (.int c2), .val (.ref b96), .val (.int 0)] [(.int (own_okn [c0, c1, c2]))]))
          refine own_ofc (fun tt_ => XS.iload X116.here hx rfl (hb hby at_183) rfl) ?_
          have hb185_117 : (own_okn [c0, c1, c2]) = (0 : Int32) := own_okn0 (z := c1) (by simp) hb154_115
          refine own_ofc (fun tt_ => XS.icmpNo X116.here hx rfl (hb hby at_185) rfl (teq hb185_117).2) ?_
          show own_gc p e below s _ _ _ _ _ (T116.setTop (mkF m 188 #[.val (.int p1), .val (.int p2), .val (.int p3), .val (.int p4), .val (.int 3), .val (.int c0), .val (.int c1), .val (.int c2), .val (.ref b96), .val (.int 0)] []))
          refine own_ofc (fun tt_ => XS.iconst X116.here hx rfl (hb hby at_188)) ?_
          refine own_ofc (fun tt_ => XS.goto X116.here hx rfl (pc0 := 189) (pc' := 193) rfl (hb hby at_189) (by decide) (by decide)) ?_
          show own_gc p e below s _ _ _ _ _ (T116.setTop (mkF m 193 #[.val (.int p1), .val (.int p2), .val (.int p3), .val (.int p4), .val (.int 3), .val (.int c0), .val (.int c1), .val (.int c2), .val (.ref b96), .val (.int 0)] [(.int 1)]))
          refine own_retc X116 hx hlk hS0 (by rw [eh116]; omega : 0 ≤ T116.heap.size) hZ hEL (by rw [eh116]; exact CH106) Bd.returns rfl (Or.inl ⟨rfl, by simp, _, rfl⟩) (hb hby at_193) (by decide) (by decide) ?_
          rw [eh116]
          exact ⟨rfl, N116⟩
        · refine own_ofc (fun tt_ => XS.ifNo X114.here hx rfl (hb hby at_154) rfl ((if0 _ _).trans (feq hb154_115).1)) ?_
          show own_gc p e below s _ _ _ _ _ (T114.setTop (mkF m 157 #[.val (.int p1), .val (.int p2), .val (.int p3), .val (.int p4), .val (.int 3), .val (.int c0), .val (.int c1), .val (.int c2), .val (.ref b96), .unset] []))
          refine own_ofc (fun tt_ => XS.iload X114.here hx rfl (hb hby at_157) rfl) ?_
          refine own_ofc (fun tt_ => XS.iconst X114.here hx rfl (hb hby at_159)) ?_
          have hb160_118 : ¬ ((3 : Int32) < (3 : Int32)) := by decide
          refine own_ofc (fun tt_ => XS.icmpNo X114.here hx rfl (hb hby at_160) rfl (flt hb160_118).1) ?_
          show own_gc p e below s _ _ _ _ _ (T114.setTop (mkF m 163 #[.val (.int p1), .val (.int p2), .val (.int p3), .val (.int p4), .val (.int 3), .val (.int c0), .val (.int c1), .val (.int c2), .val (.ref b96), .unset] []))
          refine own_ofc (fun tt_ => XS.iload X114.here hx rfl (hb hby at_163) rfl) ?_
          show own_gc p e below s _ _ _ _ _ (T114.setTop (mkF m 165 #[.val (.int p1), .val (.int p2), .val (.int p3), .val (.int p4), .val (.int 3), .val (.int c0), .val (.int c1), .val (.int c2), .val (.ref b96), .unset] [(.int c2)]))
          obtain ⟨_, _, ⟨T119, L119, k119, n119⟩, -, X119, ⟨Lc119, hQ119, l119, y119, z119⟩, st119⟩ := Jvm.LawKit.callS X114 hx (y := ym8) hown (mvT hZ (hW 43 _ rfl)) (mvT hZ (hW 44 _ rfl)) (mvT hZ (hW 45 _ rfl)) (mvT hZ (hW 46 _ rfl)) (by decide) (backOf (W := 0) (rmOk l Z a0 hw [] c2 T106.heap n0 O106) hZ (hW 46 _ rfl) (hW 45 _ rfl) (by decide) (by decide)) (g := (mkF m 165 #[.val (.int p1), .val (.int p2), .val (.int p3), .val (.int p4), .val (.int 3), .val (.int c0), .val (.int c1), .val (.int c2), .val (.ref b96), .unset] [(.int c2)])) rfl (by rw [hml]; rfl) (argsL := [(.int c2)]) (rest := []) (lenOf pd_18 rfl) rfl (by show 2 * 0 + _ ≤ _; exact Nat.le_of_eq rfl) (hb hby at_165) (fun _ _ => ⟨rfl, eh114, (by decide : 4 + 0 ≤ _), (by decide : 16 + 0 ≤ _)⟩)
          dsimp only [Pt.U, Pt.locs, Pt.cells, Pt.slots] at X119 l119 y119 z119 st119 hQ119
          subst l119 y119 z119
          obtain ⟨rfl, Nq119, eh119⟩ := hQ119
          have N119 := Fr.app N114 Nq119
          refine own_ofc st119 ?_
          show own_gc p e below s _ _ _ _ _ (T119.setTop (mkF m 168 #[.val (.int p1), .val (.int p2), .val (.int p3), .val (.int p4), .val (.int 3), .val (.int c0), .val (.int c1), .val (.int c2), .val (.ref b96), .unset] [(.int (own_okv c2))]))
          by_cases hb168_120 : (own_okv c2) = (0 : Int32)
          · refine own_ofc (fun tt_ => XS.ifYes X119.here hx rfl (pc0 := 168) (pc' := 175) rfl (hb hby at_168) rfl ((if0 _ _).trans (teq hb168_120).1) (by decide) (by decide)) ?_
            show own_gc p e below s _ _ _ _ _ (T119.setTop (mkF m 175 #[.val (.int p1), .val (.int p2), .val (.int p3), .val (.int p4), .val (.int 3), .val (.int c0), .val (.int c1), .val (.int c2), .val (.ref b96), .unset] []))
            refine own_ofc (fun tt_ => XS.iconst X119.here hx rfl (hb hby at_175)) ?_
            refine own_ofc (fun tt_ => XS.istore X119.here hx rfl (hb hby at_176) rfl (l' := #[.val (.int p1), .val (.int p2), .val (.int p3), .val (.int p4), .val (.int 3), .val (.int c0), .val (.int c1), .val (.int c2), .val (.ref b96), .val (.int 0)]) rfl) ?_
            refine own_ofc (fun tt_ => XS.aload X119.here hx rfl (hb hby at_178) rfl rfl) ?_
            show own_gc p e below s _ _ _ _ _ (T119.setTop (mkF m 180 #[.val (.int p1), .val (.int p2), .val (.int p3), .val (.int p4), .val (.int 3), .val (.int c0), .val (.int c1), .val (.int c2), .val (.ref b96), .val (.int 0)] [(.ref b96)]))
            obtain ⟨_, _, ⟨T121, L121, k121, n121⟩, -, X121, ⟨Lc121, hQ121, l121, y121, z121⟩, st121⟩ := Jvm.LawKit.callS X119 hx (y := ym3) hown (mvT hZ (hW 23 _ rfl)) (mvT hZ (hW 24 _ rfl)) (mvT hZ (hW 25 _ rfl)) (mvT hZ (hW 26 _ rfl)) (by decide) (backOf (W := 0) (rmZ_3 l Z a0 hw [] b96 t106 kb106 c0 c1 c2 Gc fm T106.heap n0 O106 S_ad S_hi S_lo Oc Pc S_f r_f Ew106 Vw106 (Or.inr ⟨Cw106, Aw106⟩) r0 r1 r2) hZ (hW 26 _ rfl) (hW 25 _ rfl) (by decide) (by decide)) (g := (mkF m 180 #[.val (.int p1), .val (.int p2), .val (.int p3), .val (.int p4), .val (.int 3), .val (.int c0), .val (.int c1), .val (.int c2), .val (.ref b96), .val (.int 0)] [(.ref b96)])) rfl (by rw [hml]; rfl) (argsL := [(.ref b96)]) (rest := []) (lenOf pd_17 rfl) rfl (by show 2 * 0 + _ ≤ _; exact Nat.le_of_eq rfl) (hb hby at_180) (fun _ _ => ⟨rfl, eh119, (by decide : 4 + 0 ≤ _), (by decide : 16 + 0 ≤ _)⟩)
            dsimp only [Pt.U, Pt.locs, Pt.cells, Pt.slots] at X121 l121 y121 z121 st121 hQ121
            subst l121 y121 z121
            obtain ⟨rfl, Nq121, eh121⟩ := hQ121
            have N121 := Fr.app N119 Nq121
            refine own_ofc st121 ?_
            show own_gc p e below s _ _ _ _ _ (T121.setTop (mkF m 183 #[.val (.int p1), .val (.int p2), .val (.int p3), .val (.int p4), .val (.int 3), .val (.int c0), .val (.int c1), .val (.int c2), .val (.ref b96), .val (.int 0)] [(.int (own_okn [c0, c1, c2]))]))
            refine own_ofc (fun tt_ => XS.iload X121.here hx rfl (hb hby at_183) rfl) ?_
            have hb185_122 : (own_okn [c0, c1, c2]) = (0 : Int32) := own_okn0 (z := c2) (by simp) hb168_120
            refine own_ofc (fun tt_ => XS.icmpNo X121.here hx rfl (hb hby at_185) rfl (teq hb185_122).2) ?_
            show own_gc p e below s _ _ _ _ _ (T121.setTop (mkF m 188 #[.val (.int p1), .val (.int p2), .val (.int p3), .val (.int p4), .val (.int 3), .val (.int c0), .val (.int c1), .val (.int c2), .val (.ref b96), .val (.int 0)] []))
            refine own_ofc (fun tt_ => XS.iconst X121.here hx rfl (hb hby at_188)) ?_
            refine own_ofc (fun tt_ => XS.goto X121.here hx rfl (pc0 := 189) (pc' := 193) rfl (hb hby at_189) (by decide) (by decide)) ?_
            show own_gc p e below s _ _ _ _ _ (T121.setTop (mkF m 193 #[.val (.int p1), .val (.int p2), .val (.int p3), .val (.int p4), .val (.int 3), .val (.int c0), .val (.int c1), .val (.int c2), .val (.ref b96), .val (.int 0)] [(.int 1)]))
            refine own_retc X121 hx hlk hS0 (by rw [eh121]; omega : 0 ≤ T121.heap.size) hZ hEL (by rw [eh121]; exact CH106) Bd.returns rfl (Or.inl ⟨rfl, by simp, _, rfl⟩) (hb hby at_193) (by decide) (by decide) ?_
            rw [eh121]
            exact ⟨rfl, N121⟩
          · refine own_ofc (fun tt_ => XS.ifNo X119.here hx rfl (hb hby at_168) rfl ((if0 _ _).trans (feq hb168_120).1)) ?_
            show own_gc p e below s _ _ _ _ _ (T119.setTop (mkF m 171 #[.val (.int p1), .val (.int p2), .val (.int p3), .val (.int p4), .val (.int 3), .val (.int c0), .val (.int c1), .val (.int c2), .val (.ref b96), .unset] []))
            refine own_ofc (fun tt_ => XS.iconst X119.here hx rfl (hb hby at_171)) ?_
            refine own_ofc (fun tt_ => XS.goto X119.here hx rfl (pc0 := 172) (pc' := 176) rfl (hb hby at_172) (by decide) (by decide)) ?_
            refine own_ofc (fun tt_ => XS.istore X119.here hx rfl (hb hby at_176) rfl (l' := #[.val (.int p1), .val (.int p2), .val (.int p3), .val (.int p4), .val (.int 3), .val (.int c0), .val (.int c1), .val (.int c2), .val (.ref b96), .val (.int 1)]) rfl) ?_
            refine own_ofc (fun tt_ => XS.aload X119.here hx rfl (hb hby at_178) rfl rfl) ?_
            show own_gc p e below s _ _ _ _ _ (T119.setTop (mkF m 180 #[.val (.int p1), .val (.int p2), .val (.int p3), .val (.int p4), .val (.int 3), .val (.int c0), .val (.int c1), .val (.int c2), .val (.ref b96), .val (.int 1)] [(.ref b96)]))
            obtain ⟨_, _, ⟨T123, L123, k123, n123⟩, -, X123, ⟨Lc123, hQ123, l123, y123, z123⟩, st123⟩ := Jvm.LawKit.callS X119 hx (y := ym3) hown (mvT hZ (hW 23 _ rfl)) (mvT hZ (hW 24 _ rfl)) (mvT hZ (hW 25 _ rfl)) (mvT hZ (hW 26 _ rfl)) (by decide) (backOf (W := 0) (rmZ_3 l Z a0 hw [] b96 t106 kb106 c0 c1 c2 Gc fm T106.heap n0 O106 S_ad S_hi S_lo Oc Pc S_f r_f Ew106 Vw106 (Or.inr ⟨Cw106, Aw106⟩) r0 r1 r2) hZ (hW 26 _ rfl) (hW 25 _ rfl) (by decide) (by decide)) (g := (mkF m 180 #[.val (.int p1), .val (.int p2), .val (.int p3), .val (.int p4), .val (.int 3), .val (.int c0), .val (.int c1), .val (.int c2), .val (.ref b96), .val (.int 1)] [(.ref b96)])) rfl (by rw [hml]; rfl) (argsL := [(.ref b96)]) (rest := []) (lenOf pd_17 rfl) rfl (by show 2 * 0 + _ ≤ _; exact Nat.le_of_eq rfl) (hb hby at_180) (fun _ _ => ⟨rfl, eh119, (by decide : 4 + 0 ≤ _), (by decide : 16 + 0 ≤ _)⟩)
            dsimp only [Pt.U, Pt.locs, Pt.cells, Pt.slots] at X123 l123 y123 z123 st123 hQ123
            subst l123 y123 z123
            obtain ⟨rfl, Nq123, eh123⟩ := hQ123
            have N123 := Fr.app N119 Nq123
            refine own_ofc st123 ?_
            show own_gc p e below s _ _ _ _ _ (T123.setTop (mkF m 183 #[.val (.int p1), .val (.int p2), .val (.int p3), .val (.int p4), .val (.int 3), .val (.int c0), .val (.int c1), .val (.int c2), .val (.ref b96), .val (.int 1)] [(.int (own_okn [c0, c1, c2]))]))
            refine own_ofc (fun tt_ => XS.iload X123.here hx rfl (hb hby at_183) rfl) ?_
            have hb185_124 : (own_okn [c0, c1, c2]) = (1 : Int32) := by simp [own_okn, (own_okv01 c0).resolve_left hb140_110, (own_okv01 c1).resolve_left hb154_115, (own_okv01 c2).resolve_left hb168_120]
            refine own_ofc (fun tt_ => XS.icmpNo X123.here hx rfl (hb hby at_185) rfl (teq hb185_124).2) ?_
            show own_gc p e below s _ _ _ _ _ (T123.setTop (mkF m 188 #[.val (.int p1), .val (.int p2), .val (.int p3), .val (.int p4), .val (.int 3), .val (.int c0), .val (.int c1), .val (.int c2), .val (.ref b96), .val (.int 1)] []))
            refine own_ofc (fun tt_ => XS.iconst X123.here hx rfl (hb hby at_188)) ?_
            refine own_ofc (fun tt_ => XS.goto X123.here hx rfl (pc0 := 189) (pc' := 193) rfl (hb hby at_189) (by decide) (by decide)) ?_
            show own_gc p e below s _ _ _ _ _ (T123.setTop (mkF m 193 #[.val (.int p1), .val (.int p2), .val (.int p3), .val (.int p4), .val (.int 3), .val (.int c0), .val (.int c1), .val (.int c2), .val (.ref b96), .val (.int 1)] [(.int 1)]))
            refine own_retc X123 hx hlk hS0 (by rw [eh123]; omega : 0 ≤ T123.heap.size) hZ hEL (by rw [eh123]; exact CH106) Bd.returns rfl (Or.inl ⟨rfl, by simp, _, rfl⟩) (hb hby at_193) (by decide) (by decide) ?_
            rw [eh123]
            exact ⟨rfl, N123⟩
    · simp only [not_or] at hbig
      obtain ⟨wq0, wq1, wq2⟩ := id hbig
      have hp125 : ∀ c ∈ ([c0, c1, c2] : List Int32), ¬ c < 0 ∧ ¬ (255 : Int32) < c := by
        intro c hc
        simp only [List.mem_cons, List.not_mem_nil, or_false] at hc
        rcases hc with rfl | rfl | rfl
        · exact ⟨r0.1, wq0⟩
        · exact ⟨r1.1, wq1⟩
        · exact ⟨r2.1, wq2⟩
      have f126 : Exa Z h101 b96 "java/lang/String" := ((((A96.ext E97).wr W98).wr W99).wr W101)
      have f127 : Fld Z h101 b96 "java/lang/String" "value" "[B" .null := ((((F96_value.ext E97).other W98 (Or.inl (own_ne (by omega)))).other W99 (Or.inl (own_ne (by omega)))).other W101 (Or.inl (own_ne (by omega))))
      have f128 : Fld Z h101 b96 "java/lang/String" "coder" "B" (.int 0) := ((((F96_coder.ext E97).other W98 (Or.inl (own_ne (by omega)))).other W99 (Or.inl (own_ne (by omega)))).other W101 (Or.inl (own_ne (by omega))))
      obtain ⟨_, _, ⟨T129, L129, k129, n129⟩, -, X129, ⟨Lc129, hQ129, l129, y129, z129⟩, st129⟩ := X101.specialBack hx (y := ym12) rfl hown (mvT hZ (hW 5 _ rfl)) (mvT hZ (hW 6 _ rfl)) (mvT hZ (hW 7 _ rfl)) (by decide) (StrChars.Road.backV (W := 1) hZ hws (kI := 4) (hW 2 _ rfl) (cs := ([c0, c1, c2] : List Int32)) (bs := ([c0, c1, c2] : List Int32).map (fun c => c.toInt8.toInt32)) (n := 3) (by omega : n0 ≤ b96) (by omega : n0 ≤ h101.size) f126 f127 f128 V101 (Oc.ext O101.2) Pc rfl rfl (by decide) (by decide) hp125 rfl (by decide) (by decide)) (g := (mkF m 125 #[.val (.int p1), .val (.int p2), .val (.int p3), .val (.int p4), .val (.int 3), .val (.int c0), .val (.int c1), .val (.int c2), .unset, .unset] [(.ref b97), (.ref b96), (.ref b96)])) rfl (by rw [hml]; rfl) (Steps.refl _) (a := b96) (argsL := [(.ref b97)]) (rest := [(.ref b96)]) (lenOf pd_16 rfl) rfl (by show 2 * 0 + _ ≤ _; exact Nat.le_of_eq rfl) (hb hby at_125) (fun _ _ => ⟨rfl, e101, (by decide : 2 + 1 ≤ _), (by decide : 7 + 3 ≤ _)⟩)
      dsimp only [Pt.U, Pt.locs, Pt.cells, Pt.slots] at X129 l129 y129 z129 st129 hQ129
      subst l129 y129 z129
      obtain ⟨rfl, Nq129, Kp129, g1129, g2129, t129, kb129, u1129, u2129, u3129, g4129, g5129⟩ := hQ129
      have N129 := Fr.app N101 Nq129
      refine own_ofc (fun tt_ kk_ => st129.trans kk_) ?_
      have f130 := (CHs101.safe (own_lt (by omega)) (CHs99.safe (own_lt (by omega)) (CHs98.safe (own_lt (by omega)) (CHs97.safe (own_lt (by omega)) Sf96))))
      have CHs129 := CHr.keep Kp129 (allS f130 all0) CH101.1
      have CH129 := CH101.trans CHs129
      have sz129 : h101.size ≤ T129.heap.size := Kp129.1
      have O129 : Old Z n0 T129.heap := O101.keep Kp129 (allS (by omega) all0)
      have Sx129 : own_str Z T129.heap b96 ([c0, c1, c2] : List Int32) := ⟨t129, kb129, _, _, g1129, g4129, g2129, g5129, StrChars.Road.codOf (n := 3) rfl (fun c hc => (hp125 c hc).2)⟩
      have Ex129 : Exa Z T129.heap b96 "java/lang/String" := by obtain ⟨_, _, _, _, q, -⟩ := id Sx129; exact q
      obtain ⟨tq131, kq131, Eq131, Vq131, Cq131, Aq131⟩ := own_str.opened Sx129
      show own_gc p e below s _ _ _ _ _ (T129.setTop (mkF m 128 #[.val (.int p1), .val (.int p2), .val (.int p3), .val (.int p4), .val (.int 3), .val (.int c0), .val (.int c1), .val (.int c2), .unset, .unset] [(.ref b96)]))
      refine own_ofc (fun tt_ => XS.astore X129.here hx rfl (hb hby at_128) rfl rfl (l' := #[.val (.int p1), .val (.int p2), .val (.int p3), .val (.int p4), .val (.int 3), .val (.int c0), .val (.int c1), .val (.int c2), .val (.ref b96), .unset]) rfl) ?_
      refine own_ofc (fun tt_ => XS.iload X129.here hx rfl (hb hby at_130) rfl) ?_
      have hb132_132 : (0 : Int32) < (3 : Int32) := by decide
      refine own_ofc (fun tt_ => XS.ifNo X129.here hx rfl (hb hby at_132) rfl ((if0 _ _).trans (tlt hb132_132).2.2.2)) ?_
      show own_gc p e below s _ _ _ _ _ (T129.setTop (mkF m 135 #[.val (.int p1), .val (.int p2), .val (.int p3), .val (.int p4), .val (.int 3), .val (.int c0), .val (.int c1), .val (.int c2), .val (.ref b96), .unset] []))
      refine own_ofc (fun tt_ => XS.iload X129.here hx rfl (hb hby at_135) rfl) ?_
      show own_gc p e below s _ _ _ _ _ (T129.setTop (mkF m 137 #[.val (.int p1), .val (.int p2), .val (.int p3), .val (.int p4), .val (.int 3), .val (.int c0), .val (.int c1), .val (.int c2), .val (.ref b96), .unset] [(.int c0)]))
      obtain ⟨_, _, ⟨T133, L133, k133, n133⟩, -, X133, ⟨Lc133, hQ133, l133, y133, z133⟩, st133⟩ := Jvm.LawKit.callS X129 hx (y := ym8) hown (mvT hZ (hW 43 _ rfl)) (mvT hZ (hW 44 _ rfl)) (mvT hZ (hW 45 _ rfl)) (mvT hZ (hW 46 _ rfl)) (by decide) (backOf (W := 0) (rmOk l Z a0 hw [] c0 T129.heap n0 O129) hZ (hW 46 _ rfl) (hW 45 _ rfl) (by decide) (by decide)) (g := (mkF m 137 #[.val (.int p1), .val (.int p2), .val (.int p3), .val (.int p4), .val (.int 3), .val (.int c0), .val (.int c1), .val (.int c2), .val (.ref b96), .unset] [(.int c0)])) rfl (by rw [hml]; rfl) (argsL := [(.int c0)]) (rest := []) (lenOf pd_18 rfl) rfl (by show 2 * 0 + _ ≤ _; exact Nat.le_of_eq rfl) (hb hby at_137) (fun _ _ => ⟨rfl, rfl, (by decide : 3 + 0 ≤ _), (by decide : 10 + 0 ≤ _)⟩)
      dsimp only [Pt.U, Pt.locs, Pt.cells, Pt.slots] at X133 l133 y133 z133 st133 hQ133
      subst l133 y133 z133
      obtain ⟨rfl, Nq133, eh133⟩ := hQ133
      have N133 := Fr.app N129 Nq133
      refine own_ofc st133 ?_
      show own_gc p e below s _ _ _ _ _ (T133.setTop (mkF m 140 #[.val (.int p1), .val (.int p2), .val (.int p3), .val (.int p4), .val (.int 3), .val (.int c0), .val (.int c1), .val (.int c2), .val (.ref b96), .unset] [(.int (own_okv c0))]))
      by_cases hb140_134 : (own_okv c0) = (0 : Int32)
      · refine own_ofc (fun tt_ => XS.ifYes X133.here hx rfl (pc0 := 140) (pc' := 175) rfl (hb hby at_140) rfl ((if0 _ _).trans (teq hb140_134).1) (by decide) (by decide)) ?_
        show own_gc p e below s _ _ _ _ _ (T133.setTop (mkF m 175 #[.val (.int p1), .val (.int p2), .val (.int p3), .val (.int p4), .val (.int 3), .val (.int c0), .val (.int c1), .val (.int c2), .val (.ref b96), .unset] []))
        refine own_ofc (fun tt_ => XS.iconst X133.here hx rfl (hb hby at_175)) ?_
        refine own_ofc (fun tt_ => XS.istore X133.here hx rfl (hb hby at_176) rfl (l' := #[.val (.int p1), .val (.int p2), .val (.int p3), .val (.int p4), .val (.int 3), .val (.int c0), .val (.int c1), .val (.int c2), .val (.ref b96), .val (.int 0)]) rfl) ?_
        refine own_ofc (fun tt_ => XS.aload X133.here hx rfl (hb hby at_178) rfl rfl) ?_
        show own_gc p e below s _ _ _ _ _ (T133.setTop (mkF m 180 #[.val (.int p1), .val (.int p2), .val (.int p3), .val (.int p4), .val (.int 3), .val (.int c0), .val (.int c1), .val (.int c2), .val (.ref b96), .val (.int 0)] [(.ref b96)]))
        obtain ⟨_, _, ⟨T135, L135, k135, n135⟩, -, X135, ⟨Lc135, hQ135, l135, y135, z135⟩, st135⟩ := Jvm.LawKit.callS X133 hx (y := ym3) hown (mvT hZ (hW 23 _ rfl)) (mvT hZ (hW 24 _ rfl)) (mvT hZ (hW 25 _ rfl)) (mvT hZ (hW 26 _ rfl)) (by decide) (backOf (W := 0) (rmZ_3 l Z a0 hw [] b96 tq131 kq131 c0 c1 c2 Gc fm T129.heap n0 O129 S_ad S_hi S_lo Oc Pc S_f r_f Eq131 Vq131 (Or.inl ⟨Cq131, Aq131, wq0, wq1, wq2⟩) r0 r1 r2) hZ (hW 26 _ rfl) (hW 25 _ rfl) (by decide) (by decide)) (g := (mkF m 180 #[.val (.int p1), .val (.int p2), .val (.int p3), .val (.int p4), .val (.int 3), .val (.int c0), .val (.int c1), .val (.int c2), .val (.ref b96), .val (.int 0)] [(.ref b96)])) rfl (by rw [hml]; rfl) (argsL := [(.ref b96)]) (rest := []) (lenOf pd_17 rfl) rfl (by show 2 * 0 + _ ≤ _; exact Nat.le_of_eq rfl) (hb hby at_180) (fun _ _ => ⟨rfl, eh133, (by decide : 3 + 0 ≤ _), (by decide : 10 + 0 ≤ _)⟩)
        dsimp only [Pt.U, Pt.locs, Pt.cells, Pt.slots] at X135 l135 y135 z135 st135 hQ135
        subst l135 y135 z135
        obtain ⟨rfl, Nq135, eh135⟩ := hQ135
        have N135 := Fr.app N133 Nq135
        refine own_ofc st135 ?_
        show own_gc p e below s _ _ _ _ _ (T135.setTop (mkF m 183 #[.val (.int p1), .val (.int p2), .val (.int p3), .val (.int p4), .val (.int 3), .val (.int c0), .val (.int c1), .val (.int c2), .val (.ref b96), .val (.int 0)] [(.int (own_okn [c0, c1, c2]))]))
        refine own_ofc (fun tt_ => XS.iload X135.here hx rfl (hb hby at_183) rfl) ?_
        have hb185_136 : (own_okn [c0, c1, c2]) = (0 : Int32) := own_okn0 (z := c0) (by simp) hb140_134
        refine own_ofc (fun tt_ => XS.icmpNo X135.here hx rfl (hb hby at_185) rfl (teq hb185_136).2) ?_
        show own_gc p e below s _ _ _ _ _ (T135.setTop (mkF m 188 #[.val (.int p1), .val (.int p2), .val (.int p3), .val (.int p4), .val (.int 3), .val (.int c0), .val (.int c1), .val (.int c2), .val (.ref b96), .val (.int 0)] []))
        refine own_ofc (fun tt_ => XS.iconst X135.here hx rfl (hb hby at_188)) ?_
        refine own_ofc (fun tt_ => XS.goto X135.here hx rfl (pc0 := 189) (pc' := 193) rfl (hb hby at_189) (by decide) (by decide)) ?_
        show own_gc p e below s _ _ _ _ _ (T135.setTop (mkF m 193 #[.val (.int p1), .val (.int p2), .val (.int p3), .val (.int p4), .val (.int 3), .val (.int c0), .val (.int c1), .val (.int c2), .val (.ref b96), .val (.int 0)] [(.int 1)]))
        refine own_retc X135 hx hlk hS0 (by rw [eh135]; omega : 0 ≤ T135.heap.size) hZ hEL (by rw [eh135]; exact CH129) Bd.returns rfl (Or.inl ⟨rfl, by simp, _, rfl⟩) (hb hby at_193) (by decide) (by decide) ?_
        rw [eh135]
        exact ⟨rfl, N135⟩
      · refine own_ofc (fun tt_ => XS.ifNo X133.here hx rfl (hb hby at_140) rfl ((if0 _ _).trans (feq hb140_134).1)) ?_
        show own_gc p e below s _ _ _ _ _ (T133.setTop (mkF m 143 #[.val (.int p1), .val (.int p2), .val (.int p3), .val (.int p4), .val (.int 3), .val (.int c0), .val (.int c1), .val (.int c2), .val (.ref b96), .unset] []))
        refine own_ofc (fun tt_ => XS.iload X133.here hx rfl (hb hby at_143) rfl) ?_
        refine own_ofc (fun tt_ => XS.iconst X133.here hx rfl (hb hby at_145)) ?_
        have hb146_137 : ¬ ((3 : Int32) < (2 : Int32)) := by decide
        refine own_ofc (fun tt_ => XS.icmpNo X133.here hx rfl (hb hby at_146) rfl (flt hb146_137).1) ?_
        show own_gc p e below s _ _ _ _ _ (T133.setTop (mkF m 149 #[.val (.int p1), .val (.int p2), .val (.int p3), .val (.int p4), .val (.int 3), .val (.int c0), .val (.int c1), .val (.int c2), .val (.ref b96), .unset] []))
        refine own_ofc (fun tt_ => XS.iload X133.here hx rfl (hb hby at_149) rfl) ?_
        show own_gc p e below s _ _ _ _ _ (T133.setTop (mkF m 151 #[.val (.int p1), .val (.int p2), .val (.int p3), .val (.int p4), .val (.int 3), .val (.int c0), .val (.int c1), .val (.int c2), .val (.ref b96), .unset] [(.int c1)]))
        obtain ⟨_, _, ⟨T138, L138, k138, n138⟩, -, X138, ⟨Lc138, hQ138, l138, y138, z138⟩, st138⟩ := Jvm.LawKit.callS X133 hx (y := ym8) hown (mvT hZ (hW 43 _ rfl)) (mvT hZ (hW 44 _ rfl)) (mvT hZ (hW 45 _ rfl)) (mvT hZ (hW 46 _ rfl)) (by decide) (backOf (W := 0) (rmOk l Z a0 hw [] c1 T129.heap n0 O129) hZ (hW 46 _ rfl) (hW 45 _ rfl) (by decide) (by decide)) (g := (mkF m 151 #[.val (.int p1), .val (.int p2), .val (.int p3), .val (.int p4), .val (.int 3), .val (.int c0), .val (.int c1), .val (.int c2), .val (.ref b96), .unset] [(.int c1)])) rfl (by rw [hml]; rfl) (argsL := [(.int c1)]) (rest := []) (lenOf pd_18 rfl) rfl (by show 2 * 0 + _ ≤ _; exact Nat.le_of_eq rfl) (hb hby at_151) (fun _ _ => ⟨rfl, eh133, (by decide : 3 + 0 ≤ _), (by decide : 10 + 0 ≤ _)⟩)
        dsimp only [Pt.U, Pt.locs, Pt.cells, Pt.slots] at X138 l138 y138 z138 st138 hQ138
        subst l138 y138 z138
        obtain ⟨rfl, Nq138, eh138⟩ := hQ138
        have N138 := Fr.app N133 Nq138
        refine own_ofc st138 ?_
        show own_gc p e below s _ _ _ _ _ (T138.setTop (mkF m 154 #[.val (.int p1), .val (.int p2), .val (.int p3), .val (.int p4), .val (.int 3), .val (.int c0), .val (.int c1), .val (.int c2), .val (.ref b96), .unset] [(.int (own_okv c1))]))
        by_cases hb154_139 : (own_okv c1) = (0 : Int32)
        · refine own_ofc (fun tt_ => XS.ifYes X138.here hx rfl (pc0 := 154) (pc' := 175) rfl (hb hby at_154) rfl ((if0 _ _).trans (teq hb154_139).1) (by decide) (by decide)) ?_
          show own_gc p e below s _ _ _ _ _ (T138.setTop (mkF m 175 #[.val (.int p1), .val (.int p2), .val (.int p3), .val (.int p4), .val (.int 3), .val (.int c0), .val (.int c1), .val (.int c2), .val (.ref b96), .unset] []))
          refine own_ofc (fun tt_ => XS.iconst X138.here hx rfl (hb hby at_175)) ?_
          refine own_ofc (fun tt_ => XS.istore X138.here hx rfl (hb hby at_176) rfl (l' := #[.val (.int p1), .val (.int p2), .val (.int p3), .val (.int p4), .val (.int 3), .val (.int c0), .val (.int c1), .val (.int c2), .val (.ref b96), .val (.int 0)]) rfl) ?_
          refine own_ofc (fun tt_ => XS.aload X138.here hx rfl (hb hby at_178) rfl rfl) ?_
          show own_gc p e below s _ _ _ _ _ (T138.setTop (mkF m 180 #[.val (.int p1), .val (.int p2), .val (.int p3), .val (.int p4), .val (.int 3), .val (.int c0), .val (.int c1), .val (.int c2), .val (.ref b96), .val (.int 0)] [(.ref b96)]))
          obtain ⟨_, _, ⟨T140, L140, k140, n140⟩, -, X140, ⟨Lc140, hQ140, l140, y140, z140⟩, st140⟩ := Jvm.LawKit.callS X138 hx (y := ym3) hown (mvT hZ (hW 23 _ rfl)) (mvT hZ (hW 24 _ rfl)) (mvT hZ (hW 25 _ rfl)) (mvT hZ (hW 26 _ rfl)) (by decide) (backOf (W := 0) (rmZ_3 l Z a0 hw [] b96 tq131 kq131 c0 c1 c2 Gc fm T129.heap n0 O129 S_ad S_hi S_lo Oc Pc S_f r_f Eq131 Vq131 (Or.inl ⟨Cq131, Aq131, wq0, wq1, wq2⟩) r0 r1 r2) hZ (hW 26 _ rfl) (hW 25 _ rfl) (by decide) (by decide)) (g := (mkF m 180 #[.val (.int p1), .val (.int p2), .val (.int p3), .val (.int p4), .val (.int 3), .val (.int c0), .val (.int c1), .val (.int c2), .val (.ref b96), .val (.int 0)] [(.ref b96)])) rfl (by rw [hml]; rfl) (argsL := [(.ref b96)]) (rest := []) (lenOf pd_17 rfl) rfl (by show 2 * 0 + _ ≤ _; exact Nat.le_of_eq rfl) (hb hby at_180) (fun _ _ => ⟨rfl, eh138, (by decide : 3 + 0 ≤ _), (by decide : 10 + 0 ≤ _)⟩)
          dsimp only [Pt.U, Pt.locs, Pt.cells, Pt.slots] at X140 l140 y140 z140 st140 hQ140
          subst l140 y140 z140
          obtain ⟨rfl, Nq140, eh140⟩ := hQ140
          have N140 := Fr.app N138 Nq140
          refine own_ofc st140 ?_
          show own_gc p e below s _ _ _ _ _ (T140.setTop (mkF m 183 #[.val (.int p1), .val (.int p2), .val (.int p3), .val (.int p4), .val (.int 3), .val (.int c0), .val (.int c1), .val (.int c2), .val (.ref b96), .val (.int 0)] [(.int (own_okn [c0, c1, c2]))]))
          refine own_ofc (fun tt_ => XS.iload X140.here hx rfl (hb hby at_183) rfl) ?_
          have hb185_141 : (own_okn [c0, c1, c2]) = (0 : Int32) := own_okn0 (z := c1) (by simp) hb154_139
          refine own_ofc (fun tt_ => XS.icmpNo X140.here hx rfl (hb hby at_185) rfl (teq hb185_141).2) ?_
          show own_gc p e below s _ _ _ _ _ (T140.setTop (mkF m 188 #[.val (.int p1), .val (.int p2), .val (.int p3), .val (.int p4), .val (.int 3), .val (.int c0), .val (.int c1), .val (.int c2), .val (.ref b96), .val (.int 0)] []))
          refine own_ofc (fun tt_ => XS.iconst X140.here hx rfl (hb hby at_188)) ?_
          refine own_ofc (fun tt_ => XS.goto X140.here hx rfl (pc0 := 189) (pc' := 193) rfl (hb hby at_189) (by decide) (by decide)) ?_
          show own_gc p e below s _ _ _ _ _ (T140.setTop (mkF m 193 #[.val (.int p1), .val (.int p2), .val (.int p3), .val (.int p4), .val (.int 3), .val (.int c0), .val (.int c1), .val (.int c2), .val (.ref b96), .val (.int 0)] [(.int 1)]))
          refine own_retc X140 hx hlk hS0 (by rw [eh140]; omega : 0 ≤ T140.heap.size) hZ hEL (by rw [eh140]; exact CH129) Bd.returns rfl (Or.inl ⟨rfl, by simp, _, rfl⟩) (hb hby at_193) (by decide) (by decide) ?_
          rw [eh140]
          exact ⟨rfl, N140⟩
        · refine own_ofc (fun tt_ => XS.ifNo X138.here hx rfl (hb hby at_154) rfl ((if0 _ _).trans (feq hb154_139).1)) ?_
          show own_gc p e below s _ _ _ _ _ (T138.setTop (mkF m 157 #[.val (.int p1), .val (.int p2), .val (.int p3), .val (.int p4), .val (.int 3), .val (.int c0), .val (.int c1), .val (.int c2), .val (.ref b96), .unset] []))
          refine own_ofc (fun tt_ => XS.iload X138.here hx rfl (hb hby at_157) rfl) ?_
          refine own_ofc (fun tt_ => XS.iconst X138.here hx rfl (hb hby at_159)) ?_
          have hb160_142 : ¬ ((3 : Int32) < (3 : Int32)) := by decide
          refine own_ofc (fun tt_ => XS.icmpNo X138.here hx rfl (hb hby at_160) rfl (flt hb160_142).1) ?_
          show own_gc p e below s _ _ _ _ _ (T138.setTop (mkF m 163 #[.val (.int p1), .val (.int p2), .val (.int p3), .val (.int p4), .val (.int 3), .val (.int c0), .val (.int c1), .val (.int c2), .val (.ref b96), .unset] []))
          refine own_ofc (fun tt_ => XS.iload X138.here hx rfl (hb hby at_163) rfl) ?_
          show own_gc p e below s _ _ _ _ _ (T138.setTop (mkF m 165 #[.val (.int p1), .val (.int p2), .val (.int p3), .val (.int p4), .val (.int 3), .val (.int c0), .val (.int c1), .val (.int c2), .val (.ref b96), .unset] [(.int c2)]))
          obtain ⟨_, _, ⟨T143, L143, k143, n143⟩, -, X143, ⟨Lc143, hQ143, l143, y143, z143⟩, st143⟩ := Jvm.LawKit.callS X138 hx (y := ym8) hown (mvT hZ (hW 43 _ rfl)) (mvT hZ (hW 44 _ rfl)) (mvT hZ (hW 45 _ rfl)) (mvT hZ (hW 46 _ rfl)) (by decide) (backOf (W := 0) (rmOk l Z a0 hw [] c2 T129.heap n0 O129) hZ (hW 46 _ rfl) (hW 45 _ rfl) (by decide) (by decide)) (g := (mkF m 165 #[.val (.int p1), .val (.int p2), .val (.int p3), .val (.int p4), .val (.int 3), .val (.int c0), .val (.int c1), .val (.int c2), .val (.ref b96), .unset] [(.int c2)])) rfl (by rw [hml]; rfl) (argsL := [(.int c2)]) (rest := []) (lenOf pd_18 rfl) rfl (by show 2 * 0 + _ ≤ _; exact Nat.le_of_eq rfl) (hb hby at_165) (fun _ _ => ⟨rfl, eh138, (by decide : 3 + 0 ≤ _), (by decide : 10 + 0 ≤ _)⟩)
          dsimp only [Pt.U, Pt.locs, Pt.cells, Pt.slots] at X143 l143 y143 z143 st143 hQ143
          subst l143 y143 z143
          obtain ⟨rfl, Nq143, eh143⟩ := hQ143
          have N143 := Fr.app N138 Nq143
          refine own_ofc st143 ?_
          show own_gc p e below s _ _ _ _ _ (T143.setTop (mkF m 168 #[.val (.int p1), .val (.int p2), .val (.int p3), .val (.int p4), .val (.int 3), .val (.int c0), .val (.int c1), .val (.int c2), .val (.ref b96), .unset] [(.int (own_okv c2))]))
          by_cases hb168_144 : (own_okv c2) = (0 : Int32)
          · refine own_ofc (fun tt_ => XS.ifYes X143.here hx rfl (pc0 := 168) (pc' := 175) rfl (hb hby at_168) rfl ((if0 _ _).trans (teq hb168_144).1) (by decide) (by decide)) ?_
            show own_gc p e below s _ _ _ _ _ (T143.setTop (mkF m 175 #[.val (.int p1), .val (.int p2), .val (.int p3), .val (.int p4), .val (.int 3), .val (.int c0), .val (.int c1), .val (.int c2), .val (.ref b96), .unset] []))
            refine own_ofc (fun tt_ => XS.iconst X143.here hx rfl (hb hby at_175)) ?_
            refine own_ofc (fun tt_ => XS.istore X143.here hx rfl (hb hby at_176) rfl (l' := #[.val (.int p1), .val (.int p2), .val (.int p3), .val (.int p4), .val (.int 3), .val (.int c0), .val (.int c1), .val (.int c2), .val (.ref b96), .val (.int 0)]) rfl) ?_
            refine own_ofc (fun tt_ => XS.aload X143.here hx rfl (hb hby at_178) rfl rfl) ?_
            show own_gc p e below s _ _ _ _ _ (T143.setTop (mkF m 180 #[.val (.int p1), .val (.int p2), .val (.int p3), .val (.int p4), .val (.int 3), .val (.int c0), .val (.int c1), .val (.int c2), .val (.ref b96), .val (.int 0)] [(.ref b96)]))
            obtain ⟨_, _, ⟨T145, L145, k145, n145⟩, -, X145, ⟨Lc145, hQ145, l145, y145, z145⟩, st145⟩ := Jvm.LawKit.callS X143 hx (y := ym3) hown (mvT hZ (hW 23 _ rfl)) (mvT hZ (hW 24 _ rfl)) (mvT hZ (hW 25 _ rfl)) (mvT hZ (hW 26 _ rfl)) (by decide) (backOf (W := 0) (rmZ_3 l Z a0 hw [] b96 tq131 kq131 c0 c1 c2 Gc fm T129.heap n0 O129 S_ad S_hi S_lo Oc Pc S_f r_f Eq131 Vq131 (Or.inl ⟨Cq131, Aq131, wq0, wq1, wq2⟩) r0 r1 r2) hZ (hW 26 _ rfl) (hW 25 _ rfl) (by decide) (by decide)) (g := (mkF m 180 #[.val (.int p1), .val (.int p2), .val (.int p3), .val (.int p4), .val (.int 3), .val (.int c0), .val (.int c1), .val (.int c2), .val (.ref b96), .val (.int 0)] [(.ref b96)])) rfl (by rw [hml]; rfl) (argsL := [(.ref b96)]) (rest := []) (lenOf pd_17 rfl) rfl (by show 2 * 0 + _ ≤ _; exact Nat.le_of_eq rfl) (hb hby at_180) (fun _ _ => ⟨rfl, eh143, (by decide : 3 + 0 ≤ _), (by decide : 10 + 0 ≤ _)⟩)
            dsimp only [Pt.U, Pt.locs, Pt.cells, Pt.slots] at X145 l145 y145 z145 st145 hQ145
            subst l145 y145 z145
            obtain ⟨rfl, Nq145, eh145⟩ := hQ145
            have N145 := Fr.app N143 Nq145
            refine own_ofc st145 ?_
            show own_gc p e below s _ _ _ _ _ (T145.setTop (mkF m 183 #[.val (.int p1), .val (.int p2), .val (.int p3), .val (.int p4), .val (.int 3), .val (.int c0), .val (.int c1), .val (.int c2), .val (.ref b96), .val (.int 0)] [(.int (own_okn [c0, c1, c2]))]))
            refine own_ofc (fun tt_ => XS.iload X145.here hx rfl (hb hby at_183) rfl) ?_
            have hb185_146 : (own_okn [c0, c1, c2]) = (0 : Int32) := own_okn0 (z := c2) (by simp) hb168_144
            refine own_ofc (fun tt_ => XS.icmpNo X145.here hx rfl (hb hby at_185) rfl (teq hb185_146).2) ?_
            show own_gc p e below s _ _ _ _ _ (T145.setTop (mkF m 188 #[.val (.int p1), .val (.int p2), .val (.int p3), .val (.int p4), .val (.int 3), .val (.int c0), .val (.int c1), .val (.int c2), .val (.ref b96), .val (.int 0)] []))
            refine own_ofc (fun tt_ => XS.iconst X145.here hx rfl (hb hby at_188)) ?_
            refine own_ofc (fun tt_ => XS.goto X145.here hx rfl (pc0 := 189) (pc' := 193) rfl (hb hby at_189) (by decide) (by decide)) ?_
            show own_gc p e below s _ _ _ _ _ (T145.setTop (mkF m 193 #[.val (.int p1), .val (.int p2), .val (.int p3), .val (.int p4), .val (.int 3), .val (.int c0), .val (.int c1), .val (.int c2), .val (.ref b96), .val (.int 0)] [(.int 1)]))
            refine own_retc X145 hx hlk hS0 (by rw [eh145]; omega : 0 ≤ T145.heap.size) hZ hEL (by rw [eh145]; exact CH129) Bd.returns rfl (Or.inl ⟨rfl, by simp, _, rfl⟩) (hb hby at_193) (by decide) (by decide) ?_
            rw [eh145]
            exact ⟨rfl, N145⟩
          · refine own_ofc (fun tt_ => XS.ifNo X143.here hx rfl (hb hby at_168) rfl ((if0 _ _).trans (feq hb168_144).1)) ?_
            show own_gc p e below s _ _ _ _ _ (T143.setTop (mkF m 171 #[.val (.int p1), .val (.int p2), .val (.int p3), .val (.int p4), .val (.int 3), .val (.int c0), .val (.int c1), .val (.int c2), .val (.ref b96), .unset] []))
            refine own_ofc (fun tt_ => XS.iconst X143.here hx rfl (hb hby at_171)) ?_
            refine own_ofc (fun tt_ => XS.goto X143.here hx rfl (pc0 := 172) (pc' := 176) rfl (hb hby at_172) (by decide) (by decide)) ?_
            refine own_ofc (fun tt_ => XS.istore X143.here hx rfl (hb hby at_176) rfl (l' := #[.val (.int p1), .val (.int p2), .val (.int p3), .val (.int p4), .val (.int 3), .val (.int c0), .val (.int c1), .val (.int c2), .val (.ref b96), .val (.int 1)]) rfl) ?_
            refine own_ofc (fun tt_ => XS.aload X143.here hx rfl (hb hby at_178) rfl rfl) ?_
            show own_gc p e below s _ _ _ _ _ (T143.setTop (mkF m 180 #[.val (.int p1), .val (.int p2), .val (.int p3), .val (.int p4), .val (.int 3), .val (.int c0), .val (.int c1), .val (.int c2), .val (.ref b96), .val (.int 1)] [(.ref b96)]))
            obtain ⟨_, _, ⟨T147, L147, k147, n147⟩, -, X147, ⟨Lc147, hQ147, l147, y147, z147⟩, st147⟩ := Jvm.LawKit.callS X143 hx (y := ym3) hown (mvT hZ (hW 23 _ rfl)) (mvT hZ (hW 24 _ rfl)) (mvT hZ (hW 25 _ rfl)) (mvT hZ (hW 26 _ rfl)) (by decide) (backOf (W := 0) (rmZ_3 l Z a0 hw [] b96 tq131 kq131 c0 c1 c2 Gc fm T129.heap n0 O129 S_ad S_hi S_lo Oc Pc S_f r_f Eq131 Vq131 (Or.inl ⟨Cq131, Aq131, wq0, wq1, wq2⟩) r0 r1 r2) hZ (hW 26 _ rfl) (hW 25 _ rfl) (by decide) (by decide)) (g := (mkF m 180 #[.val (.int p1), .val (.int p2), .val (.int p3), .val (.int p4), .val (.int 3), .val (.int c0), .val (.int c1), .val (.int c2), .val (.ref b96), .val (.int 1)] [(.ref b96)])) rfl (by rw [hml]; rfl) (argsL := [(.ref b96)]) (rest := []) (lenOf pd_17 rfl) rfl (by show 2 * 0 + _ ≤ _; exact Nat.le_of_eq rfl) (hb hby at_180) (fun _ _ => ⟨rfl, eh143, (by decide : 3 + 0 ≤ _), (by decide : 10 + 0 ≤ _)⟩)
            dsimp only [Pt.U, Pt.locs, Pt.cells, Pt.slots] at X147 l147 y147 z147 st147 hQ147
            subst l147 y147 z147
            obtain ⟨rfl, Nq147, eh147⟩ := hQ147
            have N147 := Fr.app N143 Nq147
            refine own_ofc st147 ?_
            show own_gc p e below s _ _ _ _ _ (T147.setTop (mkF m 183 #[.val (.int p1), .val (.int p2), .val (.int p3), .val (.int p4), .val (.int 3), .val (.int c0), .val (.int c1), .val (.int c2), .val (.ref b96), .val (.int 1)] [(.int (own_okn [c0, c1, c2]))]))
            refine own_ofc (fun tt_ => XS.iload X147.here hx rfl (hb hby at_183) rfl) ?_
            have hb185_148 : (own_okn [c0, c1, c2]) = (1 : Int32) := by simp [own_okn, (own_okv01 c0).resolve_left hb140_134, (own_okv01 c1).resolve_left hb154_139, (own_okv01 c2).resolve_left hb168_144]
            refine own_ofc (fun tt_ => XS.icmpNo X147.here hx rfl (hb hby at_185) rfl (teq hb185_148).2) ?_
            show own_gc p e below s _ _ _ _ _ (T147.setTop (mkF m 188 #[.val (.int p1), .val (.int p2), .val (.int p3), .val (.int p4), .val (.int 3), .val (.int c0), .val (.int c1), .val (.int c2), .val (.ref b96), .val (.int 1)] []))
            refine own_ofc (fun tt_ => XS.iconst X147.here hx rfl (hb hby at_188)) ?_
            refine own_ofc (fun tt_ => XS.goto X147.here hx rfl (pc0 := 189) (pc' := 193) rfl (hb hby at_189) (by decide) (by decide)) ?_
            show own_gc p e below s _ _ _ _ _ (T147.setTop (mkF m 193 #[.val (.int p1), .val (.int p2), .val (.int p3), .val (.int p4), .val (.int 3), .val (.int c0), .val (.int c1), .val (.int c2), .val (.ref b96), .val (.int 1)] [(.int 1)]))
            refine own_retc X147 hx hlk hS0 (by rw [eh147]; omega : 0 ≤ T147.heap.size) hZ hEL (by rw [eh147]; exact CH129) Bd.returns rfl (Or.inl ⟨rfl, by simp, _, rfl⟩) (hb hby at_193) (by decide) (by decide) ?_
            rw [eh147]
            exact ⟨rfl, N147⟩
set_option maxRecDepth 65536 in
set_option maxHeartbeats 40000000 in
theorem comes_1 {Post : Tables → Env → Array Value → State → Outcome → State → Prop} (hpost : ∀ tb e args s v u, (limb_1_1.after args s (.returned v) u = true ∧ limb_1_2.after args s (.returned v) u = true ∧ True) → ReturnedEndW s (.returned v) u (Jvm.fieldLocs frame_1_writes args s ++ Jvm.arrayLocs frame_1_arrays args s ++ Jvm.staticLocs frame_1_statics s) 24 1152 → Post tb e args s (.returned v) u) :
    ArmFor flags0 classFile x code maxLocals ret World_1 tables_1 room_1 Calls_1 rest_1 Pre_1 Post := by
  intro l hfl _ _ p e ha hc hk s m args below hf hA hF happ hP
  obtain ⟨hcalls, hrest, hpre⟩ := hP
  obtain ⟨-, -, -, hnamed, -, -, -, hat⟩ := (Spec.applies_iff hf).mp happ
  obtain ⟨hg, hn⟩ := and_e (Cond.before_iff.mp (show (Jvm.Cond.and given_1 narrow_1).before args s = true from hpre))
  obtain ⟨g1, g2⟩ := and_e hg
  obtain ⟨g3, g4⟩ := and_e g2
  obtain ⟨g5, g6⟩ := and_e g4
  obtain ⟨g7, g8⟩ := and_e g6
  obtain ⟨w0, w1, w2, w3, rfl⟩ : ∃ w0 w1 w2 w3 : Value, args = #[w0, w1, w2, w3] := by
    have hs : args.size = 4 := by simpa [Cond.value, given_1] using g1
    obtain ⟨L⟩ := args
    match L, hs with
    | [w0, w1, w2, w3], _ => exact ⟨w0, w1, w2, w3, rfl⟩
  have hw := fun d (hd : d ∈ tables_1) => atoms_spec (ws := Jvm.Cond.code x code maxLocals ret :: tables_1) hat d (List.mem_cons_of_mem _ hd)
  have hW : ∀ (i : Nat) (d : Jvm.Cond), tables_1[i]? = some d → d.before _ s = true := fun i d h => hw d (List.mem_of_getElem? h)
  have hfit : Fit s := fun {y c} hc i hi => by
    obtain ⟨ha, rfl⟩ := Array.getElem?_eq_some_iff.mp hc
    have q := List.all_eq_true.mp ((Array.all_eq_true_iff_forall_mem.mp hF) _ (Array.getElem_mem ha)) i (List.mem_range.mpr hi)
    simpa [Array.getElem?_eq_getElem hi] using q
  obtain ⟨hsets, hown0⟩ := atoms_of _ (rest_1_c_eq ▸ (show rest_1_c.before _ s = true from hrest))
  have hr0 := Cond.before_iff.mp hown0
  obtain ⟨i0, ei0⟩ := is_v g3
  obtain rfl : w0 = (.int i0) := Option.some.inj ei0
  obtain ⟨i1, ei1⟩ := is_v g5
  obtain rfl : w1 = (.int i1) := Option.some.inj ei1
  obtain ⟨i2, ei2⟩ := is_v g7
  obtain rfl : w2 = (.int i2) := Option.some.inj ei2
  obtain ⟨i3, ei3⟩ := is_v g8
  obtain rfl : w3 = (.int i3) := Option.some.inj ei3
  have n3 := not_v (Cond.before_iff.mp (hsets _ (List.mem_of_getElem? (i := 2) rfl)))
  obtain ⟨i7, e6⟩ := is_v (Cond.before_iff.mp (hsets _ (List.mem_of_getElem? (i := 1) rfl)))
  have S8 : Sta s s.heap "java/lang/String" "COMPACT_STRINGS" "Z" (.int i7) := Sta.start e6 (Or.inl (hsets _ (List.mem_of_getElem? (i := 0) rfl)))
  have c13 : ¬ (i7 = (0 : Int32)) := gotF (Cond.eq_ints e6 (Term.int_eval (0))) n3
  have hEL : EW s _ own_EL := EW.cons (own := "java/lang/String") (index := 7) (hW 15 _ rfl) (by decide) EW.nil
  have hCH : CHv s own_EL s.vm s.heap := CHv.start hEL (fun p hp => hcalls.1 p ((by decide : ∀ p ∈ own_EL, p ∈ consts_1) p hp)) (Cond.before_iff.mpr (not_i (nay (Cond.eq_ints e6 (Term.int_eval (0))) c13))) (hW 16 _ rfl) (hW 2 _ rfl)
  obtain ⟨fm, ef, rf⟩ := isR_v (Cond.before_iff.mp (hsets _ (List.mem_of_getElem? (i := 8) rfl)))
  have S_f : Sta s s.heap "jdk/internal/util/Preconditions" "SIOOBE_FORMATTER" "Ljava/util/function/BiFunction;" fm := Sta.start ef (Or.inl (hsets _ (List.mem_of_getElem? (i := 7) rfl)))
  have S_ad : Sta s s.heap "java/lang/StringUTF16" "$assertionsDisabled" "Z" (.int 1) := Sta.start (own_si (Cond.before_iff.mp (hsets _ (List.mem_of_getElem? (i := 12) rfl)))) (Or.inl (hsets _ (List.mem_of_getElem? (i := 11) rfl)))
  have S_hi : Sta s s.heap "java/lang/StringUTF16" "HI_BYTE_SHIFT" "I" (.int 0) := Sta.start (own_si (Cond.before_iff.mp (hsets _ (List.mem_of_getElem? (i := 15) rfl)))) (Or.inl (hsets _ (List.mem_of_getElem? (i := 14) rfl)))
  have S_lo : Sta s s.heap "java/lang/StringUTF16" "LO_BYTE_SHIFT" "I" (.int 8) := Sta.start (own_si (Cond.before_iff.mp (hsets _ (List.mem_of_getElem? (i := 18) rfl)))) (Or.inl (hsets _ (List.mem_of_getElem? (i := 17) rfl)))
  obtain ⟨n, o, h1, h2, h3, _, L, rfl, ⟨rfl, N⟩, -, hq⟩ := rm0 l s _ hw tables_1 i0 i1 i2 i3 i7 fm s.heap s.heap.size hEL (Old.start s) S_ad S_hi S_lo S8 c13 S_f rf p e ha hc hk s m _ below hf ((Spec.applies_iff_loose hf).mp happ).1 ⟨rfl, State.Warmed39.refl s, rfl, hCH⟩ trivial
  refine ⟨n, _, h1, h2, h3, hpost _ _ _ _ _ _ ⟨Cond.after_iff.mpr rfl, Cond.after_iff.mpr (eq_i res_at (Term.int_eval (1)) rfl), trivial⟩ ⟨hq.1, hq.2.1, hq.2.2.1, (hq.2.2.2.sift fun y hy => Or.inr (N y hy)).mono (by decide) (by decide)⟩⟩
theorem main_1_1 : Claimed_1_1 := comes_1 fun _ _ _ _ _ _ h hF => ⟨h.1, hF⟩
theorem main_1_2 : Claimed_1_2 := comes_1 fun _ _ _ _ _ _ h hF => ⟨h.2.1, hF⟩
end Jvm.Pilot.@@N@@
namespace Jvm.Pilot.@@N@@
open Jvm Jvm.ClassFile Sem Op Lib Jvm.Free Jvm.Stand Jvm.Pilot.@@N@@.Jvm.D
/-! MADE BY PROGRAM (witnessworld.py) out of the Statement's table words and the real class files: 20 classes; the members and pool entries that the words name. The judged class is class 1, her method 1. -/
namespace start1
open Jvm.ClassFile
def u (s : String) : CpInfo := .utf8 (stringToUtf16 s)
/-- a pool by its gaps: so many unusable entries, then the entry; so many at the end -/
def gap : Nat → List CpInfo → List CpInfo
  | 0, r => r
  | n + 1, r => .unusable :: gap n r
def poolList (es : List (Nat × CpInfo)) (last : Nat) : List CpInfo := es.foldr (fun e r => gap e.1 (e.2 :: r)) (gap last [])
def pool (es : List (Nat × CpInfo)) (last : Nat) : Array CpInfo := ⟨poolList es last⟩
def fileOf (pool : Array CpInfo) (this : Nat) (attrs : Array Attribute := #[]) (ms : Array MethodInfo := #[]) (fl : Nat := 33) (sup : Nat := 0) (ifs : Array Nat := #[]) (fds : Array FieldInfo := #[]) : ClassFile where
  minorVersion := 0
  majorVersion := 65
  constantPool := pool
  accessFlags := fl
  thisClass := this
  superClass := sup
  interfaces := ifs
  fields := fds
  methods := ms
  attributes := attrs
def plain (name : String) (sup : Option ClassId) : Class where
  name := name
  kind := .ordinary
  loader := none
  accessFlags := 33
  super := sup
  interfaces := #[]
  cf := none
  fields := #[]
  methods := #[]
  instanceTypes := #[]
  staticTypes := #[]
  resolved := #[]
  callSites := []
  init := .initialized
  statics := none
  mirror := none

def pool0 : Array CpInfo := pool [(5, u "<init>"), (0, u "()V"), (1, .class_ 10), (1, u "java/lang/Object")] 113

def k0c0 : Code := { maxStack := 0, maxLocals := 1, code := object_method_1_code, exceptionTable := #[], attributes := #[] }
def k0m0 : Method := { name := "<init>", desc := "()V", sig := { parameters := [], returnType := none }, accessFlags := 1, code := some k0c0 }
/-- java/lang/Object -/
def k0 : Class := { plain "java/lang/Object" none with
  accessFlags := 33
  interfaces := #[]
  cf := some (fileOf pool0 8 #[] #[{ accessFlags := 1, nameIndex := 5, descriptorIndex := 6, attributes := #[] }] 33 0 #[] #[])
  fields := #[]
  methods := #[k0m0]
  instanceTypes := #[]
  staticTypes := #[]
  resolved := Array.replicate 124 none
  statics := none }

def pool1 : Array CpInfo := pool [(2, .class_ 4), (1, u "java/lang/Object"), (0, u "<init>"), (0, u "()V"), (0, .integer 65535), (0, .class_ 9), (0, u "java/lang/String"), (0, .methodref 8 11), (0, .nameAndType 5 12), (0, u "([C)V"), (0, .methodref 14 15), (0, .class_ 16), (0, .nameAndType 17 18), (0, u "com/example/grantway/grantway/protocol/ScopesIsScopeTokenPinLaw"), (0, u "ok"), (0, u "(C)Z"), (0, .methodref 20 21), (0, .class_ 22), (0, .nameAndType 23 24), (0, u "com/example/grantway/grantway/protocol/Scopes"), (0, u "isScopeToken"), (0, u "(Ljava/lang/String;)Z"), (2, u "law"), (0, u "(IIII)Z")] 3

def k1m0 : Method := { name := "<init>", desc := "()V", sig := { parameters := [], returnType := none }, accessFlags := 1, code := none }
def k1c1 : Code := { maxStack := 6, maxLocals := 10, code := code, exceptionTable := #[], attributes := #[] }
def k1m1 : Method := { name := "law", desc := "(IIII)Z", sig := { parameters := [.int, .int, .int, .int], returnType := some .boolean }, accessFlags := 9, code := some k1c1 }
def k1c2 : Code := { maxStack := 2, maxLocals := 1, code := method_3_code, exceptionTable := #[], attributes := #[] }
def k1m2 : Method := { name := "ok", desc := "(C)Z", sig := { parameters := [.char], returnType := some .boolean }, accessFlags := 10, code := some k1c2 }
/-- com/example/grantway/grantway/protocol/ScopesIsScopeTokenPinLaw -/
def k1 : Class := { plain "com/example/grantway/grantway/protocol/ScopesIsScopeTokenPinLaw" (some 0) with
  accessFlags := 49
  interfaces := #[]
  cf := some (fileOf pool1 14 #[] #[{ accessFlags := 1, nameIndex := 5, descriptorIndex := 6, attributes := #[] }, { accessFlags := 9, nameIndex := 27, descriptorIndex := 28, attributes := #[] }, { accessFlags := 10, nameIndex := 17, descriptorIndex := 18, attributes := #[] }] 49 2 #[] #[])
  fields := #[]
  methods := #[k1m0, k1m1, k1m2]
  instanceTypes := #[]
  staticTypes := #[]
  resolved := Array.replicate 32 none
  statics := none }

def pool2 : Array CpInfo := pool [(1, .class_ 2), (0, u "java/io/Serializable"), (0, .class_ 4), (0, u "java/lang/Object")] 2

/-- java/io/Serializable -/
def k2 : Class := { plain "java/io/Serializable" (some 0) with
  accessFlags := 1537
  interfaces := #[]
  cf := some (fileOf pool2 1 #[] #[] 1537 3 #[] #[])
  fields := #[]
  methods := #[]
  instanceTypes := #[]
  staticTypes := #[]
  resolved := Array.replicate 7 none
  statics := none }

def pool3 : Array CpInfo := pool [(1, .class_ 2), (0, u "java/lang/Comparable"), (0, .class_ 4), (0, u "java/lang/Object")] 7

/-- java/lang/Comparable -/
def k3 : Class := { plain "java/lang/Comparable" (some 0) with
  accessFlags := 1537
  interfaces := #[]
  cf := some (fileOf pool3 1 #[] #[] 1537 3 #[] #[])
  fields := #[]
  methods := #[]
  instanceTypes := #[]
  staticTypes := #[]
  resolved := Array.replicate 12 none
  statics := none }

def pool4 : Array CpInfo := pool [(2, .class_ 4), (1, u "java/lang/CharSequence"), (42, .class_ 48), (0, u "java/lang/CharSequence$1CodePointIterator"), (10, .class_ 60), (0, u "java/lang/CharSequence$1CharIterator"), (5, .class_ 67), (0, u "java/lang/Object")] 63

/-- java/lang/CharSequence -/
def k4 : Class := { plain "java/lang/CharSequence" (some 0) with
  accessFlags := 1537
  interfaces := #[]
  cf := some (fileOf pool4 2 #[.nestMembers #[47, 59]] #[] 1537 66 #[] #[])
  fields := #[]
  methods := #[]
  instanceTypes := #[]
  staticTypes := #[]
  resolved := Array.replicate 131 none
  statics := none }

def pool5 : Array CpInfo := pool [(1, .class_ 2), (0, u "java/lang/constant/Constable"), (0, .class_ 4), (0, u "java/lang/Object")] 6

/-- java/lang/constant/Constable -/
def k5 : Class := { plain "java/lang/constant/Constable" (some 0) with
  accessFlags := 1537
  interfaces := #[]
  cf := some (fileOf pool5 1 #[] #[] 1537 3 #[] #[])
  fields := #[]
  methods := #[]
  instanceTypes := #[]
  staticTypes := #[]
  resolved := Array.replicate 11 none
  statics := none }

def pool6 : Array CpInfo := pool [(1, .class_ 2), (0, u "java/lang/constant/ConstantDesc"), (0, .class_ 4), (0, u "java/lang/Object")] 32

/-- java/lang/constant/ConstantDesc -/
def k6 : Class := { plain "java/lang/constant/ConstantDesc" (some 0) with
  accessFlags := 1537
  interfaces := #[]
  cf := some (fileOf pool6 1 #[] #[] 1537 3 #[] #[])
  fields := #[]
  methods := #[]
  instanceTypes := #[]
  staticTypes := #[]
  resolved := Array.replicate 37 none
  statics := none }

def pool7 : Array CpInfo := pool [(1, .methodref 2 3), (0, .class_ 4), (0, .nameAndType 5 6), (0, u "java/lang/Object"), (0, u "<init>"), (0, u "()V"), (0, .string 8), (0, u ""), (0, .fieldref 10 11), (0, .class_ 12), (0, .nameAndType 13 14), (0, u "java/lang/String"), (0, u "value"), (0, u "[B"), (0, .fieldref 10 16), (0, .nameAndType 17 18), (0, u "coder"), (0, u "B"), (2, u "hash"), (0, u "I"), (2, u "hashIsZero"), (0, u "Z"), (0, .methodref 10 28), (0, .nameAndType 5 29), (0, u "([CIILjava/lang/Void;)V"), (8, .fieldref 10 39), (0, .nameAndType 40 26), (0, u "COMPACT_STRINGS"), (1, .class_ 44), (1, u "java/lang/StringUTF16"), (0, u "compress"), (1, .methodref 42 48), (0, .nameAndType 49 50), (0, u "coderFromArrayLen"), (0, u "([BI)B"), (56, .class_ 109), (1, u "java/lang/StringLatin1"), (32, u "()Z"), (34, .methodref 42 178), (0, .nameAndType 45 179), (0, u "([CII)[B"), (154, u "()I"), (0, .methodref 10 336), (0, .nameAndType 17 337), (0, u "()B"), (25, u "([BI)C"), (27, u "(II)V"), (35, u "(I)C"), (64, .methodref 10 493), (0, .nameAndType 494 142), (0, u "isLatin1"), (0, .methodref 107 496), (0, .nameAndType 497 363), (0, u "charAt"), (0, .methodref 42 496), (2, u "checkIndex"), (5, u "length"), (67, .class_ 576), (0, u "java/lang/CharSequence"), (22, u "CASE_INSENSITIVE_ORDER"), (0, u "Ljava/util/Comparator;"), (91, u "isEmpty"), (317, u "([C)V"), (42, .fieldref 1054 1055), (0, .class_ 1056), (0, .nameAndType 1057 1058), (0, u "jdk/internal/util/Preconditions"), (0, u "SIOOBE_FORMATTER"), (0, u "Ljava/util/function/BiFunction;"), (0, .methodref 1054 1060), (0, .nameAndType 501 1061), (0, u "(IILjava/util/function/BiFunction;)I"), (39, u "serialPersistentFields"), (0, u "[Ljava/io/ObjectStreamField;"), (0, .class_ 1104), (0, u "java/lang/String$CaseInsensitiveComparator"), (1, .class_ 1107), (0, u "java/io/Serializable"), (0, .class_ 1109), (0, u "java/lang/Comparable"), (0, .class_ 1111), (0, u "java/lang/constant/Constable"), (0, .class_ 1113), (0, u "java/lang/constant/ConstantDesc"), (2, u "serialVersionUID"), (0, u "J"), (3, u "REPL"), (0, u "C"), (2, u "LATIN1"), (1, u "UTF16")] 323

def k7m0 : Method := { name := "<init>", desc := "()V", sig := { parameters := [], returnType := none }, accessFlags := 1, code := none }
def k7c1 : Code := { maxStack := 5, maxLocals := 2, code := jdk_42_method_3_code, exceptionTable := #[], attributes := #[] }
def k7m1 : Method := { name := "<init>", desc := "([C)V", sig := { parameters := [(.array .char)], returnType := none }, accessFlags := 1, code := some k7c1 }
def k7c2 : Code := { maxStack := 2, maxLocals := 1, code := jdk_42_method_54_code, exceptionTable := #[], attributes := #[] }
def k7m2 : Method := { name := "length", desc := "()I", sig := { parameters := [], returnType := some .int }, accessFlags := 1, code := some k7c2 }
def k7c3 : Code := { maxStack := 1, maxLocals := 1, code := jdk_42_method_55_code, exceptionTable := #[], attributes := #[] }
def k7m3 : Method := { name := "isEmpty", desc := "()Z", sig := { parameters := [], returnType := some .boolean }, accessFlags := 1, code := some k7c3 }
def k7c4 : Code := { maxStack := 2, maxLocals := 2, code := jdk_42_method_56_code, exceptionTable := #[], attributes := #[] }
def k7m4 : Method := { name := "charAt", desc := "(I)C", sig := { parameters := [.int], returnType := some .char }, accessFlags := 1, code := some k7c4 }
def k7c5 : Code := { maxStack := 4, maxLocals := 6, code := jdk_42_method_149_code, exceptionTable := #[], attributes := #[] }
def k7m5 : Method := { name := "<init>", desc := "([CIILjava/lang/Void;)V", sig := { parameters := [(.array .char), .int, .int, (.object "java/lang/Void")], returnType := none }, accessFlags := 2, code := some k7c5 }
def k7c6 : Code := { maxStack := 1, maxLocals := 1, code := jdk_42_method_152_code, exceptionTable := #[], attributes := #[] }
def k7m6 : Method := { name := "coder", desc := "()B", sig := { parameters := [], returnType := some .byte }, accessFlags := 0, code := some k7c6 }
def k7c7 : Code := { maxStack := 1, maxLocals := 1, code := jdk_42_method_154_code, exceptionTable := #[], attributes := #[] }
def k7m7 : Method := { name := "isLatin1", desc := "()Z", sig := { parameters := [], returnType := some .boolean }, accessFlags := 0, code := some k7c7 }
def k7c8 : Code := { maxStack := 3, maxLocals := 2, code := jdk_42_method_155_code, exceptionTable := #[], attributes := #[] }
def k7m8 : Method := { name := "checkIndex", desc := "(II)V", sig := { parameters := [.int, .int], returnType := none }, accessFlags := 8, code := some k7c8 }
/-- java/lang/String -/
def k7 : Class := { plain "java/lang/String" (some 0) with
  accessFlags := 49
  interfaces := #[2, 3, 4, 5, 6]
  cf := some (fileOf pool7 10 #[.nestMembers #[1103]] #[{ accessFlags := 1, nameIndex := 5, descriptorIndex := 6, attributes := #[] }, { accessFlags := 1, nameIndex := 5, descriptorIndex := 1010, attributes := #[] }, { accessFlags := 1, nameIndex := 507, descriptorIndex := 334, attributes := #[] }, { accessFlags := 1, nameIndex := 692, descriptorIndex := 142, attributes := #[] }, { accessFlags := 1, nameIndex := 497, descriptorIndex := 427, attributes := #[] }, { accessFlags := 2, nameIndex := 5, descriptorIndex := 29, attributes := #[] }, { accessFlags := 0, nameIndex := 17, descriptorIndex := 337, attributes := #[] }, { accessFlags := 0, nameIndex := 494, descriptorIndex := 142, attributes := #[] }, { accessFlags := 8, nameIndex := 501, descriptorIndex := 391, attributes := #[] }] 49 2 #[1106, 1108, 575, 1110, 1112] #[{ accessFlags := 18, nameIndex := 13, descriptorIndex := 14, attributes := #[] }, { accessFlags := 18, nameIndex := 17, descriptorIndex := 18, attributes := #[] }, { accessFlags := 2, nameIndex := 21, descriptorIndex := 22, attributes := #[] }, { accessFlags := 2, nameIndex := 25, descriptorIndex := 26, attributes := #[] }, { accessFlags := 26, nameIndex := 1116, descriptorIndex := 1117, attributes := #[] }, { accessFlags := 24, nameIndex := 40, descriptorIndex := 26, attributes := #[] }, { accessFlags := 26, nameIndex := 1101, descriptorIndex := 1102, attributes := #[] }, { accessFlags := 26, nameIndex := 1121, descriptorIndex := 1122, attributes := #[] }, { accessFlags := 25, nameIndex := 599, descriptorIndex := 600, attributes := #[] }, { accessFlags := 24, nameIndex := 1125, descriptorIndex := 18, attributes := #[] }, { accessFlags := 24, nameIndex := 1127, descriptorIndex := 18, attributes := #[] }])
  fields := #[{ name := "value", type := (.array .byte), accessFlags := 18, slot := 0, constantValue := 0 }, { name := "coder", type := .byte, accessFlags := 18, slot := 1, constantValue := 0 }, { name := "hash", type := .int, accessFlags := 2, slot := 2, constantValue := 0 }, { name := "hashIsZero", type := .boolean, accessFlags := 2, slot := 3, constantValue := 0 }, { name := "serialVersionUID", type := .long, accessFlags := 26, slot := 0, constantValue := 0 }, { name := "COMPACT_STRINGS", type := .boolean, accessFlags := 24, slot := 1, constantValue := 0 }, { name := "serialPersistentFields", type := (.array (.object "java/io/ObjectStreamField")), accessFlags := 26, slot := 2, constantValue := 0 }, { name := "REPL", type := .char, accessFlags := 26, slot := 3, constantValue := 0 }, { name := "CASE_INSENSITIVE_ORDER", type := (.object "java/util/Comparator"), accessFlags := 25, slot := 4, constantValue := 0 }, { name := "LATIN1", type := .byte, accessFlags := 24, slot := 5, constantValue := 0 }, { name := "UTF16", type := .byte, accessFlags := 24, slot := 6, constantValue := 0 }]
  methods := #[k7m0, k7m1, k7m2, k7m3, k7m4, k7m5, k7m6, k7m7, k7m8]
  instanceTypes := #[(.array .byte), .byte, .int, .boolean]
  staticTypes := #[.long, .boolean, (.array (.object "java/io/ObjectStreamField")), .char, (.object "java/util/Comparator"), .byte, .byte]
  resolved := Array.replicate 1451 none
  statics := some 0 }

def pool8 : Array CpInfo := pool [(2, .class_ 4), (1, u "java/lang/Object"), (0, u "<init>"), (0, u "()V"), (0, .methodref 8 9), (0, .class_ 10), (0, .nameAndType 11 12), (0, u "java/lang/String"), (0, u "isEmpty"), (0, u "()Z"), (0, .methodref 8 14), (0, .nameAndType 15 16), (0, u "length"), (0, u "()I"), (0, .methodref 8 18), (0, .nameAndType 19 20), (0, u "charAt"), (0, u "(I)C"), (10, .class_ 33), (1, u "com/example/grantway/grantway/protocol/Scopes"), (0, u "isScopeToken"), (0, u "(Ljava/lang/String;)Z")] 63

def k8m0 : Method := { name := "<init>", desc := "()V", sig := { parameters := [], returnType := none }, accessFlags := 2, code := none }
def k8c1 : Code := { maxStack := 2, maxLocals := 3, code := prog_43_method_2_code, exceptionTable := #[], attributes := #[] }
def k8m1 : Method := { name := "isScopeToken", desc := "(Ljava/lang/String;)Z", sig := { parameters := [(.object "java/lang/String")], returnType := some .boolean }, accessFlags := 9, code := some k8c1 }
/-- com/example/grantway/grantway/protocol/Scopes -/
def k8 : Class := { plain "com/example/grantway/grantway/protocol/Scopes" (some 0) with
  accessFlags := 49
  interfaces := #[]
  cf := some (fileOf pool8 31 #[] #[{ accessFlags := 2, nameIndex := 5, descriptorIndex := 6, attributes := #[] }, { accessFlags := 9, nameIndex := 34, descriptorIndex := 35, attributes := #[] }] 49 2 #[] #[])
  fields := #[]
  methods := #[k8m0, k8m1]
  instanceTypes := #[]
  staticTypes := #[]
  resolved := Array.replicate 99 none
  statics := none }

def pool9 : Array CpInfo := pool [(3, .class_ 4), (0, u "java/lang/String"), (1, .class_ 8), (1, u "java/lang/Object"), (0, u "<init>"), (0, u "()V"), (0, .methodref 12 13), (0, .class_ 14), (0, .nameAndType 15 16), (0, u "java/lang/StringUTF16"), (0, u "newBytesLength"), (0, u "(I)I"), (3, .integer 1073741823), (23, .fieldref 12 45), (0, .nameAndType 46 47), (0, u "$assertionsDisabled"), (0, u "Z"), (0, .methodref 12 49), (0, .nameAndType 50 51), (0, u "length"), (0, u "([B)I"), (7, .fieldref 12 60), (0, .nameAndType 61 62), (0, u "HI_BYTE_SHIFT"), (0, u "I"), (0, .fieldref 12 64), (0, .nameAndType 65 62), (0, u "LO_BYTE_SHIFT"), (1, .methodref 12 68), (0, .nameAndType 69 70), (0, u "checkIndex"), (0, u "(I[B)V"), (0, .methodref 12 72), (0, .nameAndType 73 74), (0, u "getChar"), (0, u "([BI)C"), (32, .methodref 12 108), (0, .nameAndType 109 110), (0, u "newBytesFor"), (0, u "(I)[B"), (0, .methodref 12 112), (0, .nameAndType 113 114), (0, u "putChar"), (0, u "([BII)V"), (0, .methodref 12 116), (0, .nameAndType 117 118), (0, u "compress"), (0, u "([CI[BII)I"), (0, .methodref 12 120), (0, .nameAndType 121 122), (0, u "toBytes"), (0, u "([CII)[B"), (138, u "coderFromArrayLen"), (0, u "([BI)B"), (106, .class_ 371), (1, u "java/lang/StringUTF16$LinesSpliterator"), (20, u "charAt"), (21, .methodref 3 415), (0, .nameAndType 69 416), (0, u "(II)V"), (13, u "MAX_LENGTH"), (196, .class_ 628), (0, u "java/lang/StringUTF16$CodePointsSpliterator"), (0, .class_ 630), (0, u "java/lang/StringUTF16$CharsSpliterator")] 4

def k9m0 : Method := { name := "<init>", desc := "()V", sig := { parameters := [], returnType := none }, accessFlags := 0, code := none }
def k9c1 : Code := { maxStack := 1, maxLocals := 1, code := jdk_52_method_2_code, exceptionTable := #[], attributes := #[] }
def k9m1 : Method := { name := "newBytesFor", desc := "(I)[B", sig := { parameters := [.int], returnType := some (.array .byte) }, accessFlags := 9, code := some k9c1 }
def k9c2 : Code := { maxStack := 4, maxLocals := 1, code := jdk_52_method_3_code, exceptionTable := #[], attributes := #[] }
def k9m2 : Method := { name := "newBytesLength", desc := "(I)I", sig := { parameters := [.int], returnType := some .int }, accessFlags := 9, code := some k9c2 }
def k9c3 : Code := { maxStack := 4, maxLocals := 3, code := jdk_52_method_4_code, exceptionTable := #[], attributes := #[] }
def k9m3 : Method := { name := "putChar", desc := "([BII)V", sig := { parameters := [(.array .byte), .int, .int], returnType := none }, accessFlags := 8, code := some k9c3 }
def k9c4 : Code := { maxStack := 3, maxLocals := 2, code := jdk_52_method_5_code, exceptionTable := #[], attributes := #[] }
def k9m4 : Method := { name := "getChar", desc := "([BI)C", sig := { parameters := [(.array .byte), .int], returnType := some .char }, accessFlags := 8, code := some k9c4 }
def k9c5 : Code := { maxStack := 2, maxLocals := 1, code := jdk_52_method_6_code, exceptionTable := #[], attributes := #[] }
def k9m5 : Method := { name := "length", desc := "([B)I", sig := { parameters := [(.array .byte)], returnType := some .int }, accessFlags := 9, code := some k9c5 }
def k9c6 : Code := { maxStack := 4, maxLocals := 5, code := jdk_52_method_14_code, exceptionTable := #[], attributes := #[] }
def k9m6 : Method := { name := "toBytes", desc := "([CII)[B", sig := { parameters := [(.array .char), .int, .int], returnType := some (.array .byte) }, accessFlags := 9, code := some k9c6 }
def k9c7 : Code := { maxStack := 2, maxLocals := 2, code := jdk_52_method_15_code, exceptionTable := #[], attributes := #[] }
def k9m7 : Method := { name := "coderFromArrayLen", desc := "([BI)B", sig := { parameters := [(.array .byte), .int], returnType := some .byte }, accessFlags := 8, code := some k9c7 }
def k9c8 : Code := { maxStack := 5, maxLocals := 6, code := jdk_52_method_16_code, exceptionTable := #[], attributes := #[] }
def k9m8 : Method := { name := "compress", desc := "([CII)[B", sig := { parameters := [(.array .char), .int, .int], returnType := some (.array .byte) }, accessFlags := 9, code := some k9c8 }
def k9c9 : Code := { maxStack := 3, maxLocals := 7, code := jdk_52_method_21_code, exceptionTable := #[], attributes := #[] }
def k9m9 : Method := { name := "compress", desc := "([CI[BII)I", sig := { parameters := [(.array .char), .int, (.array .byte), .int, .int], returnType := some .int }, accessFlags := 9, code := some k9c9 }
def k9c10 : Code := { maxStack := 2, maxLocals := 2, code := jdk_52_method_83_code, exceptionTable := #[], attributes := #[] }
def k9m10 : Method := { name := "charAt", desc := "([BI)C", sig := { parameters := [(.array .byte), .int], returnType := some .char }, accessFlags := 9, code := some k9c10 }
def k9c11 : Code := { maxStack := 2, maxLocals := 2, code := jdk_52_method_91_code, exceptionTable := #[], attributes := #[] }
def k9m11 : Method := { name := "checkIndex", desc := "(I[B)V", sig := { parameters := [.int, (.array .byte)], returnType := none }, accessFlags := 9, code := some k9c11 }
/-- java/lang/StringUTF16 -/
def k9 : Class := { plain "java/lang/StringUTF16" (some 0) with
  accessFlags := 48
  interfaces := #[]
  cf := some (fileOf pool9 12 #[.nestMembers #[627, 629, 369]] #[{ accessFlags := 0, nameIndex := 9, descriptorIndex := 10, attributes := #[] }, { accessFlags := 9, nameIndex := 109, descriptorIndex := 110, attributes := #[] }, { accessFlags := 9, nameIndex := 15, descriptorIndex := 16, attributes := #[] }, { accessFlags := 8, nameIndex := 113, descriptorIndex := 114, attributes := #[] }, { accessFlags := 8, nameIndex := 73, descriptorIndex := 74, attributes := #[] }, { accessFlags := 9, nameIndex := 50, descriptorIndex := 51, attributes := #[] }, { accessFlags := 9, nameIndex := 121, descriptorIndex := 122, attributes := #[] }, { accessFlags := 8, nameIndex := 261, descriptorIndex := 262, attributes := #[] }, { accessFlags := 9, nameIndex := 117, descriptorIndex := 122, attributes := #[] }, { accessFlags := 9, nameIndex := 117, descriptorIndex := 118, attributes := #[] }, { accessFlags := 9, nameIndex := 392, descriptorIndex := 74, attributes := #[] }, { accessFlags := 9, nameIndex := 69, descriptorIndex := 70, attributes := #[] }] 48 6 #[] #[{ accessFlags := 26, nameIndex := 61, descriptorIndex := 62, attributes := #[] }, { accessFlags := 26, nameIndex := 65, descriptorIndex := 62, attributes := #[] }, { accessFlags := 24, nameIndex := 430, descriptorIndex := 62, attributes := #[] }, { accessFlags := 4120, nameIndex := 46, descriptorIndex := 47, attributes := #[] }])
  fields := #[{ name := "HI_BYTE_SHIFT", type := .int, accessFlags := 26, slot := 0, constantValue := 0 }, { name := "LO_BYTE_SHIFT", type := .int, accessFlags := 26, slot := 1, constantValue := 0 }, { name := "MAX_LENGTH", type := .int, accessFlags := 24, slot := 2, constantValue := 0 }, { name := "$assertionsDisabled", type := .boolean, accessFlags := 4120, slot := 3, constantValue := 0 }]
  methods := #[k9m0, k9m1, k9m2, k9m3, k9m4, k9m5, k9m6, k9m7, k9m8, k9m9, k9m10, k9m11]
  instanceTypes := #[]
  staticTypes := #[.int, .int, .int, .boolean]
  resolved := Array.replicate 635 none
  statics := some 1 }

def pool10 : Array CpInfo := pool [(1, .class_ 2), (0, u "java/lang/String"), (1, .class_ 6), (1, u "java/lang/Object"), (0, u "<init>"), (0, u "()V"), (0, .methodref 1 10), (0, .nameAndType 11 12), (0, u "checkIndex"), (0, u "(II)V"), (1, .class_ 16), (1, u "java/lang/StringLatin1"), (36, u "([BI)C"), (67, u "$assertionsDisabled"), (0, u "Z"), (98, .class_ 223), (1, u "java/lang/StringLatin1$LinesSpliterator"), (28, u "charAt"), (137, .class_ 391), (0, u "java/lang/StringLatin1$CharsSpliterator")] 3

def k10m0 : Method := { name := "<init>", desc := "()V", sig := { parameters := [], returnType := none }, accessFlags := 0, code := none }
def k10c1 : Code := { maxStack := 2, maxLocals := 2, code := jdk_43_method_2_code, exceptionTable := #[], attributes := #[] }
def k10m1 : Method := { name := "charAt", desc := "([BI)C", sig := { parameters := [(.array .byte), .int], returnType := some .char }, accessFlags := 9, code := some k10c1 }
/-- java/lang/StringLatin1 -/
def k10 : Class := { plain "java/lang/StringLatin1" (some 0) with
  accessFlags := 48
  interfaces := #[]
  cf := some (fileOf pool10 14 #[.nestMembers #[390, 221]] #[{ accessFlags := 0, nameIndex := 7, descriptorIndex := 8, attributes := #[] }, { accessFlags := 9, nameIndex := 252, descriptorIndex := 53, attributes := #[] }] 48 4 #[] #[{ accessFlags := 4120, nameIndex := 121, descriptorIndex := 122, attributes := #[] }])
  fields := #[{ name := "$assertionsDisabled", type := .boolean, accessFlags := 4120, slot := 0, constantValue := 0 }]
  methods := #[k10m0, k10m1]
  instanceTypes := #[]
  staticTypes := #[.boolean]
  resolved := Array.replicate 395 none
  statics := none }

def pool11 : Array CpInfo := pool [(2, .class_ 4), (1, u "java/lang/Object"), (0, u "<init>"), (0, u "()V"), (17, .class_ 26), (1, u "jdk/internal/util/Preconditions"), (6, u "checkIndex"), (21, .class_ 56), (0, u "jdk/internal/util/Preconditions$4"), (57, .class_ 115), (0, u "jdk/internal/util/Preconditions$1"), (7, u "SIOOBE_FORMATTER"), (0, u "Ljava/util/function/BiFunction;"), (0, .class_ 126), (0, u "jdk/internal/util/Preconditions$2"), (3, u "AIOOBE_FORMATTER"), (0, .class_ 132), (0, u "jdk/internal/util/Preconditions$3"), (3, u "IOOBE_FORMATTER"), (41, u "(IILjava/util/function/BiFunction;)I")] 15

def k11m0 : Method := { name := "<init>", desc := "()V", sig := { parameters := [], returnType := none }, accessFlags := 1, code := none }
def k11c1 : Code := { maxStack := 3, maxLocals := 3, code := jdk_41_method_11_code, exceptionTable := #[], attributes := #[] }
def k11m1 : Method := { name := "checkIndex", desc := "(IILjava/util/function/BiFunction;)I", sig := { parameters := [.int, .int, (.object "java/util/function/BiFunction")], returnType := some .int }, accessFlags := 9, code := some k11c1 }
/-- jdk/internal/util/Preconditions -/
def k11 : Class := { plain "jdk/internal/util/Preconditions" (some 0) with
  accessFlags := 33
  interfaces := #[]
  cf := some (fileOf pool11 24 #[.nestMembers #[55, 131, 125, 114]] #[{ accessFlags := 1, nameIndex := 5, descriptorIndex := 6, attributes := #[] }, { accessFlags := 9, nameIndex := 33, descriptorIndex := 178, attributes := #[] }] 33 2 #[] #[{ accessFlags := 25, nameIndex := 123, descriptorIndex := 124, attributes := #[] }, { accessFlags := 25, nameIndex := 130, descriptorIndex := 124, attributes := #[] }, { accessFlags := 25, nameIndex := 136, descriptorIndex := 124, attributes := #[] }])
  fields := #[{ name := "SIOOBE_FORMATTER", type := (.object "java/util/function/BiFunction"), accessFlags := 25, slot := 0, constantValue := 0 }, { name := "AIOOBE_FORMATTER", type := (.object "java/util/function/BiFunction"), accessFlags := 25, slot := 1, constantValue := 0 }, { name := "IOOBE_FORMATTER", type := (.object "java/util/function/BiFunction"), accessFlags := 25, slot := 2, constantValue := 0 }]
  methods := #[k11m0, k11m1]
  instanceTypes := #[]
  staticTypes := #[(.object "java/util/function/BiFunction"), (.object "java/util/function/BiFunction"), (.object "java/util/function/BiFunction")]
  resolved := Array.replicate 194 none
  statics := some 2 }

def pool12 : Array CpInfo := pool [(9, u "<init>"), (6, .class_ 18), (1, u "java/lang/Object"), (0, u "()V"), (1, .class_ 23), (1, u "jdk/internal/util/ArraysSupport"), (0, u "LOG2_ARRAY_LONG_INDEX_SCALE"), (0, u "I"), (2, u "U"), (0, u "Ljdk/internal/misc/Unsafe;"), (8, u "BIG_ENDIAN"), (0, u "Z"), (8, u "LOG2_BYTE_BIT_SIZE"), (4, u "LOG2_ARRAY_INT_INDEX_SCALE"), (54, u "JLA"), (0, u "Ljdk/internal/access/JavaLangAccess;"), (11, u "LOG2_ARRAY_BOOLEAN_INDEX_SCALE"), (9, u "LOG2_ARRAY_BYTE_INDEX_SCALE"), (5, u "LOG2_ARRAY_CHAR_INDEX_SCALE"), (5, u "LOG2_ARRAY_SHORT_INDEX_SCALE"), (18, u "LOG2_ARRAY_FLOAT_INDEX_SCALE"), (24, u "LOG2_ARRAY_DOUBLE_INDEX_SCALE"), (89, u "T_BOOLEAN"), (2, u "T_CHAR"), (1, u "T_FLOAT"), (1, u "T_DOUBLE"), (1, u "T_BYTE"), (1, u "T_SHORT"), (1, u "T_INT"), (1, u "T_LONG"), (1, u "SOFT_MAX_ARRAY_LENGTH")] 83

def k12m0 : Method := { name := "<init>", desc := "()V", sig := { parameters := [], returnType := none }, accessFlags := 2, code := none }
/-- jdk/internal/util/ArraysSupport -/
def k12 : Class := { plain "jdk/internal/util/ArraysSupport" (some 0) with
  accessFlags := 33
  interfaces := #[]
  cf := some (fileOf pool12 21 #[] #[{ accessFlags := 2, nameIndex := 9, descriptorIndex := 19, attributes := #[] }] 33 16 #[] #[{ accessFlags := 24, nameIndex := 28, descriptorIndex := 29, attributes := #[] }, { accessFlags := 26, nameIndex := 38, descriptorIndex := 39, attributes := #[] }, { accessFlags := 25, nameIndex := 121, descriptorIndex := 25, attributes := #[] }, { accessFlags := 25, nameIndex := 131, descriptorIndex := 25, attributes := #[] }, { accessFlags := 25, nameIndex := 137, descriptorIndex := 25, attributes := #[] }, { accessFlags := 25, nameIndex := 143, descriptorIndex := 25, attributes := #[] }, { accessFlags := 25, nameIndex := 53, descriptorIndex := 25, attributes := #[] }, { accessFlags := 25, nameIndex := 24, descriptorIndex := 25, attributes := #[] }, { accessFlags := 25, nameIndex := 162, descriptorIndex := 25, attributes := #[] }, { accessFlags := 25, nameIndex := 187, descriptorIndex := 25, attributes := #[] }, { accessFlags := 26, nameIndex := 48, descriptorIndex := 25, attributes := #[] }, { accessFlags := 25, nameIndex := 277, descriptorIndex := 25, attributes := #[] }, { accessFlags := 25, nameIndex := 280, descriptorIndex := 25, attributes := #[] }, { accessFlags := 25, nameIndex := 282, descriptorIndex := 25, attributes := #[] }, { accessFlags := 25, nameIndex := 284, descriptorIndex := 25, attributes := #[] }, { accessFlags := 25, nameIndex := 286, descriptorIndex := 25, attributes := #[] }, { accessFlags := 25, nameIndex := 288, descriptorIndex := 25, attributes := #[] }, { accessFlags := 25, nameIndex := 290, descriptorIndex := 25, attributes := #[] }, { accessFlags := 25, nameIndex := 292, descriptorIndex := 25, attributes := #[] }, { accessFlags := 26, nameIndex := 108, descriptorIndex := 109, attributes := #[] }, { accessFlags := 25, nameIndex := 294, descriptorIndex := 25, attributes := #[] }])
  fields := #[{ name := "U", type := (.object "jdk/internal/misc/Unsafe"), accessFlags := 24, slot := 0, constantValue := 0 }, { name := "BIG_ENDIAN", type := .boolean, accessFlags := 26, slot := 1, constantValue := 0 }, { name := "LOG2_ARRAY_BOOLEAN_INDEX_SCALE", type := .int, accessFlags := 25, slot := 2, constantValue := 0 }, { name := "LOG2_ARRAY_BYTE_INDEX_SCALE", type := .int, accessFlags := 25, slot := 3, constantValue := 0 }, { name := "LOG2_ARRAY_CHAR_INDEX_SCALE", type := .int, accessFlags := 25, slot := 4, constantValue := 0 }, { name := "LOG2_ARRAY_SHORT_INDEX_SCALE", type := .int, accessFlags := 25, slot := 5, constantValue := 0 }, { name := "LOG2_ARRAY_INT_INDEX_SCALE", type := .int, accessFlags := 25, slot := 6, constantValue := 0 }, { name := "LOG2_ARRAY_LONG_INDEX_SCALE", type := .int, accessFlags := 25, slot := 7, constantValue := 0 }, { name := "LOG2_ARRAY_FLOAT_INDEX_SCALE", type := .int, accessFlags := 25, slot := 8, constantValue := 0 }, { name := "LOG2_ARRAY_DOUBLE_INDEX_SCALE", type := .int, accessFlags := 25, slot := 9, constantValue := 0 }, { name := "LOG2_BYTE_BIT_SIZE", type := .int, accessFlags := 26, slot := 10, constantValue := 0 }, { name := "T_BOOLEAN", type := .int, accessFlags := 25, slot := 11, constantValue := 0 }, { name := "T_CHAR", type := .int, accessFlags := 25, slot := 12, constantValue := 0 }, { name := "T_FLOAT", type := .int, accessFlags := 25, slot := 13, constantValue := 0 }, { name := "T_DOUBLE", type := .int, accessFlags := 25, slot := 14, constantValue := 0 }, { name := "T_BYTE", type := .int, accessFlags := 25, slot := 15, constantValue := 0 }, { name := "T_SHORT", type := .int, accessFlags := 25, slot := 16, constantValue := 0 }, { name := "T_INT", type := .int, accessFlags := 25, slot := 17, constantValue := 0 }, { name := "T_LONG", type := .int, accessFlags := 25, slot := 18, constantValue := 0 }, { name := "JLA", type := (.object "jdk/internal/access/JavaLangAccess"), accessFlags := 26, slot := 19, constantValue := 0 }, { name := "SOFT_MAX_ARRAY_LENGTH", type := .int, accessFlags := 25, slot := 20, constantValue := 0 }]
  methods := #[k12m0]
  instanceTypes := #[]
  staticTypes := #[(.object "jdk/internal/misc/Unsafe"), .boolean, .int, .int, .int, .int, .int, .int, .int, .int, .int, .int, .int, .int, .int, .int, .int, .int, .int, (.object "jdk/internal/access/JavaLangAccess"), .int]
  resolved := Array.replicate 378 none
  statics := none }

def pool13 : Array CpInfo := pool [(1, u "java/lang/Cloneable"), (0, .class_ 1), (0, u "java/lang/Object"), (0, .class_ 3)] 3

/-- java/lang/Cloneable -/
def k13 : Class := { plain "java/lang/Cloneable" (some 0) with
  accessFlags := 1537
  interfaces := #[]
  cf := some (fileOf pool13 2 #[] #[] 1537 4 #[] #[])
  fields := #[]
  methods := #[]
  instanceTypes := #[]
  staticTypes := #[]
  resolved := Array.replicate 8 none
  statics := none }

/-- the primitive byte -/
def k14 : Class := { plain "byte" none with kind := .primitive 'B', accessFlags := 0x411 }
/-- [B -/
def k15 : Class := { plain "[B" (some 0) with kind := .array 14 .byte, interfaces := #[13, 2], accessFlags := 1041 }

/-- the primitive char -/
def k16 : Class := { plain "char" none with kind := .primitive 'C', accessFlags := 0x411 }
/-- [C -/
def k17 : Class := { plain "[C" (some 0) with kind := .array 16 .char, interfaces := #[13, 2], accessFlags := 1041 }

/-- the primitive int -/
def k18 : Class := { plain "int" none with kind := .primitive 'I', accessFlags := 0x411 }
/-- [I -/
def k19 : Class := { plain "[I" (some 0) with kind := .array 18 .int, interfaces := #[13, 2], accessFlags := 1041 }

def heap : Heap := #[{ cls := 7, slots := #[.long 0, .int 1, .null, .int 0, .null, .int 0, .int 0], vm := .statics 7 },
  { cls := 9, slots := #[.int 0, .int 8, .int 0, .int 1], vm := .statics 9 },
  { cls := 11, slots := #[.null, .null, .null], vm := .statics 11 }]
def classes : Array Class := #[k0, k1, k2, k3, k4, k5, k6, k7, k8, k9, k10, k11, k12, k13, k14, k15, k16, k17, k18, k19]
def interned : List (Array UInt16 × Addr) := []
def slotsUsed : Nat := 14
def theMethod : MethodId := ⟨1, 1⟩
def args0 : Array Value := #[.int 1, .int 65, .int 0, .int 0]
def aboutOver (below : List Frame) : State where
  vm := { classes := classes, interned := interned.toArray }
  heap := heap
  slotsUsed := slotsUsed
  threads := #[{ frames := .invoking theMethod args0 :: below }]
def below0 : List Frame := [.native { method := ⟨0, 0⟩, args := #[] }]
def about1 : State := aboutOver below0
def p0 : Program := .bare "" "" ""
def e0 : Env := launch0.env 0 0 0
theorem w_frames : about1.frames = Frame.invoking theMethod args0 :: below0 := rfl
set_option maxRecDepth 65536 in
theorem w_args : argsFit about1.vm theMethod args0 = true := by decide +kernel
set_option maxRecDepth 65536 in
theorem w_heap : heapFits about1 = true := by decide +kernel
set_option maxRecDepth 65536 in
theorem w_runnable : about1.curStatus? = some .runnable := by decide +kernel
set_option maxRecDepth 65536 in
theorem w_alone : about1.alone = true := by decide +kernel
set_option maxRecDepth 65536 in
theorem w_named : about1.methodNamed? x = some theMethod := by decide +kernel
set_option maxRecDepth 65536 in
theorem w_hears : about1.hears theMethod below0 = true := by decide +kernel
set_option maxRecDepth 65536 in
theorem w_ripe : about1.ripe theMethod args0 below0 = true := by decide +kernel
theorem w_running : about1.status = .running := rfl
set_option maxRecDepth 65536 in
theorem w_room : about1.hasRoom e0.platform room_1 = true :=
  launch0.hasRoom_least _ room_1 (by decide +kernel) (by decide +kernel) (by decide +kernel) (by decide +kernel) (by decide +kernel) (by decide +kernel)
theorem allAtoms_all (ts : List Jvm.Cond) (a : Array Jvm.Value) (st : Jvm.State) : (allAtoms ts).before a st = ts.all (fun c => c.before a st) := by
  induction ts with
  | nil => rfl
  | cons c t ih =>
    show (Jvm.Cond.and c (allAtoms t)).before a st = _
    rw [Jvm.Cond.before_and, ih, List.all_cons]
def words1 : List Jvm.Cond := Jvm.Cond.code x code maxLocals ret :: tables_1
/-- a 'code' word, met by the world's own term for the bytes: nothing is compared byte by byte -/
theorem code_word {y : MethodName} {bytes : ByteArray} {mx : Nat} {rt : Option FieldType} {a : Array Value} {s : State} {m : MethodId} {meth : Method} {c : Code} (h1 : s.methodNamed? y = some m) (h2 : s.vm.method? m = some meth) (h3 : meth.code = some c) (h4 : c.code = bytes)
    (h5 : (c.maxLocals == mx && c.exceptionTable.isEmpty && decide (c.maxStack ≤ mostOperands) && decide (meth.sig.returnType = rt) && !meth.locks && decide (parseMethodDescriptor y.desc = some meth.sig)) = true) : (Jvm.Cond.code y bytes mx rt).before a s = true := by
  simp only [Bool.and_eq_true, beq_iff_eq, Bool.not_eq_true', decide_eq_true_eq] at h5
  obtain ⟨⟨⟨⟨⟨g1, g2⟩, g3⟩, g4⟩, g5⟩, g6⟩ := h5
  simp [Cond.before, Cond.holds, Cond.value, h1, h2, h3, h4, g1, g2, g3, g4, g5, g6]
def isCode : Jvm.Cond → Bool
  | .code _ _ _ _ => true
  | _ => false
theorem all_split {L : List Jvm.Cond} {P : Jvm.Cond → Bool} (h1 : L.all (fun c => isCode c || P c) = true) (h2 : ∀ c ∈ L.filter isCode, P c = true) : L.all P = true := by
  refine List.all_eq_true.mpr fun c hc => ?_
  have h := List.all_eq_true.mp h1 c hc
  rcases Bool.eq_false_or_eq_true (isCode c) with hi | hi
  · exact h2 c (List.mem_filter.mpr ⟨hc, hi⟩)
  · simpa [hi] using h
set_option maxRecDepth 65536 in
theorem w_c0 : (Jvm.Cond.code x code maxLocals ret).before args0 about1 = true := code_word (m := ⟨1, 1⟩) (meth := k1m1) (c := k1c1) (by decide +kernel) rfl rfl rfl (by decide +kernel)
set_option maxRecDepth 65536 in
theorem w_c1 : (Jvm.Cond.code ({ cls := "java/lang/String", name := "<init>", desc := "([C)V" } : Jvm.MethodName) jdk_42_method_3_code (2 : Nat) (Option.none : Option Jvm.ClassFile.FieldType)).before args0 about1 = true := code_word (m := ⟨7, 1⟩) (meth := k7m1) (c := k7c1) (by decide +kernel) rfl rfl rfl (by decide +kernel)
set_option maxRecDepth 65536 in
theorem w_c2 : (Jvm.Cond.code ({ cls := "java/lang/String", name := "<init>", desc := "([CIILjava/lang/Void;)V" } : Jvm.MethodName) jdk_42_method_149_code (6 : Nat) (Option.none : Option Jvm.ClassFile.FieldType)).before args0 about1 = true := code_word (m := ⟨7, 5⟩) (meth := k7m5) (c := k7c5) (by decide +kernel) rfl rfl rfl (by decide +kernel)
set_option maxRecDepth 65536 in
theorem w_c3 : (Jvm.Cond.code ({ cls := "java/lang/Object", name := "<init>", desc := "()V" } : Jvm.MethodName) object_method_1_code (1 : Nat) (Option.none : Option Jvm.ClassFile.FieldType)).before args0 about1 = true := code_word (m := ⟨0, 0⟩) (meth := k0m0) (c := k0c0) (by decide +kernel) rfl rfl rfl (by decide +kernel)
set_option maxRecDepth 65536 in
theorem w_c4 : (Jvm.Cond.code ({ cls := "com/example/grantway/grantway/protocol/Scopes", name := "isScopeToken", desc := "(Ljava/lang/String;)Z" } : Jvm.MethodName) prog_43_method_2_code (3 : Nat) (Option.some Jvm.ClassFile.FieldType.boolean)).before args0 about1 = true := code_word (m := ⟨8, 1⟩) (meth := k8m1) (c := k8c1) (by decide +kernel) rfl rfl rfl (by decide +kernel)
set_option maxRecDepth 65536 in
theorem w_c5 : (Jvm.Cond.code ({ cls := "java/lang/String", name := "isEmpty", desc := "()Z" } : Jvm.MethodName) jdk_42_method_55_code (1 : Nat) (Option.some Jvm.ClassFile.FieldType.boolean)).before args0 about1 = true := code_word (m := ⟨7, 3⟩) (meth := k7m3) (c := k7c3) (by decide +kernel) rfl rfl rfl (by decide +kernel)
set_option maxRecDepth 65536 in
theorem w_c6 : (Jvm.Cond.code ({ cls := "java/lang/StringUTF16", name := "compress", desc := "([CII)[B" } : Jvm.MethodName) jdk_52_method_16_code (6 : Nat) (Option.some (Jvm.ClassFile.FieldType.array Jvm.ClassFile.FieldType.byte))).before args0 about1 = true := code_word (m := ⟨9, 8⟩) (meth := k9m8) (c := k9c8) (by decide +kernel) rfl rfl rfl (by decide +kernel)
set_option maxRecDepth 65536 in
theorem w_c7 : (Jvm.Cond.code ({ cls := "java/lang/StringUTF16", name := "compress", desc := "([CI[BII)I" } : Jvm.MethodName) jdk_52_method_21_code (7 : Nat) (Option.some Jvm.ClassFile.FieldType.int)).before args0 about1 = true := code_word (m := ⟨9, 9⟩) (meth := k9m9) (c := k9c9) (by decide +kernel) rfl rfl rfl (by decide +kernel)
set_option maxRecDepth 65536 in
theorem w_c8 : (Jvm.Cond.code ({ cls := "java/lang/StringUTF16", name := "coderFromArrayLen", desc := "([BI)B" } : Jvm.MethodName) jdk_52_method_15_code (2 : Nat) (Option.some Jvm.ClassFile.FieldType.byte)).before args0 about1 = true := code_word (m := ⟨9, 7⟩) (meth := k9m7) (c := k9c7) (by decide +kernel) rfl rfl rfl (by decide +kernel)
set_option maxRecDepth 65536 in
theorem w_c9 : (Jvm.Cond.code ({ cls := "com/example/grantway/grantway/protocol/ScopesIsScopeTokenPinLaw", name := "ok", desc := "(C)Z" } : Jvm.MethodName) method_3_code (1 : Nat) (Option.some Jvm.ClassFile.FieldType.boolean)).before args0 about1 = true := code_word (m := ⟨1, 2⟩) (meth := k1m2) (c := k1c2) (by decide +kernel) rfl rfl rfl (by decide +kernel)
set_option maxRecDepth 65536 in
theorem w_c10 : (Jvm.Cond.code ({ cls := "java/lang/String", name := "length", desc := "()I" } : Jvm.MethodName) jdk_42_method_54_code (1 : Nat) (Option.some Jvm.ClassFile.FieldType.int)).before args0 about1 = true := code_word (m := ⟨7, 2⟩) (meth := k7m2) (c := k7c2) (by decide +kernel) rfl rfl rfl (by decide +kernel)
set_option maxRecDepth 65536 in
theorem w_c11 : (Jvm.Cond.code ({ cls := "java/lang/String", name := "coder", desc := "()B" } : Jvm.MethodName) jdk_42_method_152_code (1 : Nat) (Option.some Jvm.ClassFile.FieldType.byte)).before args0 about1 = true := code_word (m := ⟨7, 6⟩) (meth := k7m6) (c := k7c6) (by decide +kernel) rfl rfl rfl (by decide +kernel)
set_option maxRecDepth 65536 in
theorem w_c12 : (Jvm.Cond.code ({ cls := "java/lang/String", name := "charAt", desc := "(I)C" } : Jvm.MethodName) jdk_42_method_56_code (2 : Nat) (Option.some Jvm.ClassFile.FieldType.char)).before args0 about1 = true := code_word (m := ⟨7, 4⟩) (meth := k7m4) (c := k7c4) (by decide +kernel) rfl rfl rfl (by decide +kernel)
set_option maxRecDepth 65536 in
theorem w_c13 : (Jvm.Cond.code ({ cls := "java/lang/String", name := "isLatin1", desc := "()Z" } : Jvm.MethodName) jdk_42_method_154_code (1 : Nat) (Option.some Jvm.ClassFile.FieldType.boolean)).before args0 about1 = true := code_word (m := ⟨7, 7⟩) (meth := k7m7) (c := k7c7) (by decide +kernel) rfl rfl rfl (by decide +kernel)
set_option maxRecDepth 65536 in
theorem w_c14 : (Jvm.Cond.code ({ cls := "java/lang/StringLatin1", name := "charAt", desc := "([BI)C" } : Jvm.MethodName) jdk_43_method_2_code (2 : Nat) (Option.some Jvm.ClassFile.FieldType.char)).before args0 about1 = true := code_word (m := ⟨10, 1⟩) (meth := k10m1) (c := k10c1) (by decide +kernel) rfl rfl rfl (by decide +kernel)
set_option maxRecDepth 65536 in
theorem w_c15 : (Jvm.Cond.code ({ cls := "java/lang/String", name := "checkIndex", desc := "(II)V" } : Jvm.MethodName) jdk_42_method_155_code (2 : Nat) (Option.none : Option Jvm.ClassFile.FieldType)).before args0 about1 = true := code_word (m := ⟨7, 8⟩) (meth := k7m8) (c := k7c8) (by decide +kernel) rfl rfl rfl (by decide +kernel)
set_option maxRecDepth 65536 in
theorem w_c16 : (Jvm.Cond.code ({ cls := "jdk/internal/util/Preconditions", name := "checkIndex", desc := "(IILjava/util/function/BiFunction;)I" } : Jvm.MethodName) jdk_41_method_11_code (3 : Nat) (Option.some Jvm.ClassFile.FieldType.int)).before args0 about1 = true := code_word (m := ⟨11, 1⟩) (meth := k11m1) (c := k11c1) (by decide +kernel) rfl rfl rfl (by decide +kernel)
set_option maxRecDepth 65536 in
theorem w_c17 : (Jvm.Cond.code ({ cls := "java/lang/StringUTF16", name := "toBytes", desc := "([CII)[B" } : Jvm.MethodName) jdk_52_method_14_code (5 : Nat) (Option.some (Jvm.ClassFile.FieldType.array Jvm.ClassFile.FieldType.byte))).before args0 about1 = true := code_word (m := ⟨9, 6⟩) (meth := k9m6) (c := k9c6) (by decide +kernel) rfl rfl rfl (by decide +kernel)
set_option maxRecDepth 65536 in
theorem w_c18 : (Jvm.Cond.code ({ cls := "java/lang/StringUTF16", name := "newBytesFor", desc := "(I)[B" } : Jvm.MethodName) jdk_52_method_2_code (1 : Nat) (Option.some (Jvm.ClassFile.FieldType.array Jvm.ClassFile.FieldType.byte))).before args0 about1 = true := code_word (m := ⟨9, 1⟩) (meth := k9m1) (c := k9c1) (by decide +kernel) rfl rfl rfl (by decide +kernel)
set_option maxRecDepth 65536 in
theorem w_c19 : (Jvm.Cond.code ({ cls := "java/lang/StringUTF16", name := "newBytesLength", desc := "(I)I" } : Jvm.MethodName) jdk_52_method_3_code (1 : Nat) (Option.some Jvm.ClassFile.FieldType.int)).before args0 about1 = true := code_word (m := ⟨9, 2⟩) (meth := k9m2) (c := k9c2) (by decide +kernel) rfl rfl rfl (by decide +kernel)
set_option maxRecDepth 65536 in
theorem w_c20 : (Jvm.Cond.code ({ cls := "java/lang/StringUTF16", name := "putChar", desc := "([BII)V" } : Jvm.MethodName) jdk_52_method_4_code (3 : Nat) (Option.none : Option Jvm.ClassFile.FieldType)).before args0 about1 = true := code_word (m := ⟨9, 3⟩) (meth := k9m3) (c := k9c3) (by decide +kernel) rfl rfl rfl (by decide +kernel)
set_option maxRecDepth 65536 in
theorem w_c21 : (Jvm.Cond.code ({ cls := "java/lang/StringUTF16", name := "getChar", desc := "([BI)C" } : Jvm.MethodName) jdk_52_method_5_code (2 : Nat) (Option.some Jvm.ClassFile.FieldType.char)).before args0 about1 = true := code_word (m := ⟨9, 4⟩) (meth := k9m4) (c := k9c4) (by decide +kernel) rfl rfl rfl (by decide +kernel)
set_option maxRecDepth 65536 in
theorem w_c22 : (Jvm.Cond.code ({ cls := "java/lang/StringUTF16", name := "charAt", desc := "([BI)C" } : Jvm.MethodName) jdk_52_method_83_code (2 : Nat) (Option.some Jvm.ClassFile.FieldType.char)).before args0 about1 = true := code_word (m := ⟨9, 10⟩) (meth := k9m10) (c := k9c10) (by decide +kernel) rfl rfl rfl (by decide +kernel)
set_option maxRecDepth 65536 in
theorem w_c23 : (Jvm.Cond.code ({ cls := "java/lang/StringUTF16", name := "checkIndex", desc := "(I[B)V" } : Jvm.MethodName) jdk_52_method_91_code (2 : Nat) (Option.none : Option Jvm.ClassFile.FieldType)).before args0 about1 = true := code_word (m := ⟨9, 11⟩) (meth := k9m11) (c := k9c11) (by decide +kernel) rfl rfl rfl (by decide +kernel)
set_option maxRecDepth 65536 in
theorem w_c24 : (Jvm.Cond.code ({ cls := "java/lang/StringUTF16", name := "length", desc := "([B)I" } : Jvm.MethodName) jdk_52_method_6_code (1 : Nat) (Option.some Jvm.ClassFile.FieldType.int)).before args0 about1 = true := code_word (m := ⟨9, 5⟩) (meth := k9m5) (c := k9c5) (by decide +kernel) rfl rfl rfl (by decide +kernel)
def codes1 : List Jvm.Cond := [Jvm.Cond.code x code maxLocals ret, Jvm.Cond.code ({ cls := "java/lang/String", name := "<init>", desc := "([C)V" } : Jvm.MethodName) jdk_42_method_3_code (2 : Nat) (Option.none : Option Jvm.ClassFile.FieldType), Jvm.Cond.code ({ cls := "java/lang/String", name := "<init>", desc := "([CIILjava/lang/Void;)V" } : Jvm.MethodName) jdk_42_method_149_code (6 : Nat) (Option.none : Option Jvm.ClassFile.FieldType), Jvm.Cond.code ({ cls := "java/lang/Object", name := "<init>", desc := "()V" } : Jvm.MethodName) object_method_1_code (1 : Nat) (Option.none : Option Jvm.ClassFile.FieldType), Jvm.Cond.code ({ cls := "com/example/grantway/grantway/protocol/Scopes", name := "isScopeToken", desc := "(Ljava/lang/String;)Z" } : Jvm.MethodName) prog_43_method_2_code (3 : Nat) (Option.some Jvm.ClassFile.FieldType.boolean), Jvm.Cond.code ({ cls := "java/lang/String", name := "isEmpty", desc := "()Z" } : Jvm.MethodName) jdk_42_method_55_code (1 : Nat) (Option.some Jvm.ClassFile.FieldType.boolean), Jvm.Cond.code ({ cls := "java/lang/StringUTF16", name := "compress", desc := "([CII)[B" } : Jvm.MethodName) jdk_52_method_16_code (6 : Nat) (Option.some (Jvm.ClassFile.FieldType.array Jvm.ClassFile.FieldType.byte)), Jvm.Cond.code ({ cls := "java/lang/StringUTF16", name := "compress", desc := "([CI[BII)I" } : Jvm.MethodName) jdk_52_method_21_code (7 : Nat) (Option.some Jvm.ClassFile.FieldType.int), Jvm.Cond.code ({ cls := "java/lang/StringUTF16", name := "coderFromArrayLen", desc := "([BI)B" } : Jvm.MethodName) jdk_52_method_15_code (2 : Nat) (Option.some Jvm.ClassFile.FieldType.byte), Jvm.Cond.code ({ cls := "com/example/grantway/grantway/protocol/ScopesIsScopeTokenPinLaw", name := "ok", desc := "(C)Z" } : Jvm.MethodName) method_3_code (1 : Nat) (Option.some Jvm.ClassFile.FieldType.boolean), Jvm.Cond.code ({ cls := "java/lang/String", name := "length", desc := "()I" } : Jvm.MethodName) jdk_42_method_54_code (1 : Nat) (Option.some Jvm.ClassFile.FieldType.int), Jvm.Cond.code ({ cls := "java/lang/String", name := "coder", desc := "()B" } : Jvm.MethodName) jdk_42_method_152_code (1 : Nat) (Option.some Jvm.ClassFile.FieldType.byte), Jvm.Cond.code ({ cls := "java/lang/String", name := "charAt", desc := "(I)C" } : Jvm.MethodName) jdk_42_method_56_code (2 : Nat) (Option.some Jvm.ClassFile.FieldType.char), Jvm.Cond.code ({ cls := "java/lang/String", name := "isLatin1", desc := "()Z" } : Jvm.MethodName) jdk_42_method_154_code (1 : Nat) (Option.some Jvm.ClassFile.FieldType.boolean), Jvm.Cond.code ({ cls := "java/lang/StringLatin1", name := "charAt", desc := "([BI)C" } : Jvm.MethodName) jdk_43_method_2_code (2 : Nat) (Option.some Jvm.ClassFile.FieldType.char), Jvm.Cond.code ({ cls := "java/lang/String", name := "checkIndex", desc := "(II)V" } : Jvm.MethodName) jdk_42_method_155_code (2 : Nat) (Option.none : Option Jvm.ClassFile.FieldType), Jvm.Cond.code ({ cls := "jdk/internal/util/Preconditions", name := "checkIndex", desc := "(IILjava/util/function/BiFunction;)I" } : Jvm.MethodName) jdk_41_method_11_code (3 : Nat) (Option.some Jvm.ClassFile.FieldType.int), Jvm.Cond.code ({ cls := "java/lang/StringUTF16", name := "toBytes", desc := "([CII)[B" } : Jvm.MethodName) jdk_52_method_14_code (5 : Nat) (Option.some (Jvm.ClassFile.FieldType.array Jvm.ClassFile.FieldType.byte)), Jvm.Cond.code ({ cls := "java/lang/StringUTF16", name := "newBytesFor", desc := "(I)[B" } : Jvm.MethodName) jdk_52_method_2_code (1 : Nat) (Option.some (Jvm.ClassFile.FieldType.array Jvm.ClassFile.FieldType.byte)), Jvm.Cond.code ({ cls := "java/lang/StringUTF16", name := "newBytesLength", desc := "(I)I" } : Jvm.MethodName) jdk_52_method_3_code (1 : Nat) (Option.some Jvm.ClassFile.FieldType.int), Jvm.Cond.code ({ cls := "java/lang/StringUTF16", name := "putChar", desc := "([BII)V" } : Jvm.MethodName) jdk_52_method_4_code (3 : Nat) (Option.none : Option Jvm.ClassFile.FieldType), Jvm.Cond.code ({ cls := "java/lang/StringUTF16", name := "getChar", desc := "([BI)C" } : Jvm.MethodName) jdk_52_method_5_code (2 : Nat) (Option.some Jvm.ClassFile.FieldType.char), Jvm.Cond.code ({ cls := "java/lang/StringUTF16", name := "charAt", desc := "([BI)C" } : Jvm.MethodName) jdk_52_method_83_code (2 : Nat) (Option.some Jvm.ClassFile.FieldType.char), Jvm.Cond.code ({ cls := "java/lang/StringUTF16", name := "checkIndex", desc := "(I[B)V" } : Jvm.MethodName) jdk_52_method_91_code (2 : Nat) (Option.none : Option Jvm.ClassFile.FieldType), Jvm.Cond.code ({ cls := "java/lang/StringUTF16", name := "length", desc := "([B)I" } : Jvm.MethodName) jdk_52_method_6_code (1 : Nat) (Option.some Jvm.ClassFile.FieldType.int)]
set_option maxRecDepth 65536 in
theorem codes_eq : words1.filter isCode = codes1 := rfl
theorem w_codes : ∀ c ∈ words1.filter isCode, c.before args0 about1 = true := by
  rw [codes_eq]
  intro c hc
  simp only [codes1, List.mem_cons, List.not_mem_nil, or_false] at hc
  rcases hc with rfl | rfl | rfl | rfl | rfl | rfl | rfl | rfl | rfl | rfl | rfl | rfl | rfl | rfl | rfl | rfl | rfl | rfl | rfl | rfl | rfl | rfl | rfl | rfl | rfl
  · exact w_c0
  · exact w_c1
  · exact w_c2
  · exact w_c3
  · exact w_c4
  · exact w_c5
  · exact w_c6
  · exact w_c7
  · exact w_c8
  · exact w_c9
  · exact w_c10
  · exact w_c11
  · exact w_c12
  · exact w_c13
  · exact w_c14
  · exact w_c15
  · exact w_c16
  · exact w_c17
  · exact w_c18
  · exact w_c19
  · exact w_c20
  · exact w_c21
  · exact w_c22
  · exact w_c23
  · exact w_c24
set_option maxRecDepth 65536 in
theorem w_t1 : (words1.take 24).all (fun c => isCode c || c.before args0 about1) = true := by decide +kernel
set_option maxRecDepth 65536 in
theorem w_t2 : ((words1.drop 24).take 24).all (fun c => isCode c || c.before args0 about1) = true := by decide +kernel
set_option maxRecDepth 65536 in
theorem w_t3 : (((words1.drop 24).drop 24).take 24).all (fun c => isCode c || c.before args0 about1) = true := by decide +kernel
set_option maxRecDepth 65536 in
theorem w_t4 : ((((words1.drop 24).drop 24).drop 24).take 24).all (fun c => isCode c || c.before args0 about1) = true := by decide +kernel
set_option maxRecDepth 65536 in
theorem w_t5 : ((((words1.drop 24).drop 24).drop 24).drop 24).all (fun c => isCode c || c.before args0 about1) = true := by decide +kernel
theorem w_tables : (allAtoms (Jvm.Cond.code x code maxLocals ret :: tables_1)).before args0 about1 = true := by
  rw [allAtoms_all]
  show words1.all (fun c => c.before args0 about1) = true
  refine all_split ?_ w_codes
  rw [← List.take_append_drop 24 words1, List.all_append, w_t1, ← List.take_append_drop 24 (words1.drop 24), List.all_append, w_t2, ← List.take_append_drop 24 ((words1.drop 24).drop 24), List.all_append, w_t3, ← List.take_append_drop 24 (((words1.drop 24).drop 24).drop 24), List.all_append, w_t4, w_t5]
  rfl
set_option maxRecDepth 65536 in
theorem w_rest : rest_1_c.before args0 about1 = true := by decide +kernel
set_option maxRecDepth 65536 in
theorem w_case : (Jvm.Cond.and given_1 narrow_1).before args0 about1 = true := by decide +kernel
set_option maxRecDepth 65536 in
theorem w_consts : constsHeld consts_1 about1 := Jvm.Lit.constsHeldB_iff.mp (by decide +kernel)
theorem w_applies : (headSpec (Jvm.Cond.code x code maxLocals ret :: tables_1) room_1).applies x e0.platform about1 = true :=
  (Spec.applies_iff w_frames).mpr ⟨w_running, w_runnable, w_alone, w_named, w_hears, w_ripe, w_room, w_tables⟩
theorem atStart : AtStart classFile x code maxLocals ret World_1 tables_1 room_1 Calls_1 rest_1 Pre_1 launch0 p0 e0 about1 theMethod args0 below0 :=
  ⟨lists_1, trivial, launch0.admits_env _ _ _, launch0.least_env, fairChoices_fair.cas, fairChoices_fair.clock, w_frames, w_args, w_heap, w_applies, ⟨w_consts, trivial⟩, w_rest, w_case⟩
end start1
theorem witness_1 : WitnessClaimed_1 := ⟨start1.p0, start1.e0, start1.about1, start1.theMethod, start1.args0, start1.below0, start1.atStart⟩
end Jvm.Pilot.@@N@@
