import JvmDerived
import JvmDerived.Pilot.@@N@@Statement
import JvmDerived.Pilot.@@N@@Code
set_option linter.unusedVariables false
set_option linter.unusedSimpArgs false
@@BLOCK:NumsL.lean.txt@@
/- laws to paste: Road.backV, Road.empW, Road.codOf (cut by pick.py; bodies as the Statement names them) -/
namespace Jvm.Pilot.@@N@@
namespace StrChars
open Jvm Sem ClassFile Op Lib Jvm.Stand Jvm.Free.XT Jvm.Free.ALB Jvm.Free.JM Jvm.Free
open Jvm.Lib.Cold (StaticIs)
/-- a char array whose places are chars -/
def Ch (a : Addr) (A : Cell) (U : State) : Prop := Arr .char a A U ∧ Typed .char A
theorem Ch.mv {a : Addr} {A : Cell} {U U' : State} (h : Ch a A U) (hal : U.vm.Alike U'.vm) (hh : U'.heap = U.heap) : Ch a A U' := ⟨h.1.mv hal hh, h.2⟩
theorem Ch.keep {a : Addr} {A : Cell} {U U' : State} (h : Ch a A U) (hal : U.vm.Alike U'.vm) (hk : U'.heap[a]? = some A) : Ch a A U' := ⟨h.1.keep hal hk, h.2⟩
/-- what place i of a char[]'s cell holds -/
def cv (A : Cell) (i : Nat) : Int32 := match A.slots[i]? with | some (.int x) => x | _ => 0
theorem Ch.get {a : Addr} {A : Cell} {U : State} (h : Ch a A U) {i : Nat} (hi : i < A.slots.size) : A.slots[i]? = some (.int (cv A i)) := by
  have e := Array.getElem?_eq_getElem hi
  have f := h.2 i _ e
  unfold cv; rw [e]
  generalize A.slots[i] = v at f
  cases v <;> simp [fits] at f ⊢
/-- the byte that i2b leaves of a char -/
def lo8 (x : Int32) : Int32 := x.toInt8.toInt32
theorem fits_lo8 (y : Int32) : fits .byte (.int (lo8 y)) = true := by
  have h1 := y.toInt8.le_toInt
  have h2 := y.toInt8.toInt_lt
  simp only [lo8, fits, Bool.and_eq_true, decide_eq_true_eq, Int32.le_iff_toInt_le, Int8.toInt_toInt32, show (-128 : Int32).toInt = -128 from by decide, show (127 : Int32).toInt = 127 from by decide]
  omega
/-- A' is A but that each place j of lo .. hi - 1 holds f j -/
def Laid (A A' : Cell) (lo hi : Nat) (f : Nat → Value) : Prop := A'.cls = A.cls ∧ A'.vm = A.vm ∧ A'.slots.size = A.slots.size ∧ ∀ i, A'.slots[i]? = if lo ≤ i ∧ i < hi then some (f i) else A.slots[i]?
theorem Laid.zero (A : Cell) (lo : Nat) (f : Nat → Value) : Laid A A lo (lo + 0) f := ⟨rfl, rfl, rfl, fun i => by rw [if_neg (by omega)]⟩
theorem Laid.step {A Ak : Cell} {lo k : Nat} {f : Nat → Value} {v : Value} (h : Laid A Ak lo k f) (hlo : lo ≤ k) (hk : k < Ak.slots.size) (hv : v = f k) : Laid A (Ak.setSlot k v) lo (k + 1) f := by
  refine ⟨h.1, h.2.1, by simpa [Cell.setSlot] using h.2.2.1, fun i => ?_⟩
  by_cases e : k = i
  · subst e; rw [Cell.slots_setSlot_self v hk, if_pos (by omega), hv]
  · rw [Cell.slots_setSlot_ne v e, h.2.2.2 i]
    by_cases q : lo ≤ i ∧ i < k
    · rw [if_pos q, if_pos (by omega)]
    · rw [if_neg q, if_neg (by omega)]
def U16 : String := "java/lang/StringUTF16"
namespace Cmp5
def yN : MethodName := ⟨"java/lang/StringUTF16", "compress", "([CI[BII)I"⟩
abbrev yB : ByteArray := jdk_52_method_21_code
theorem d0 : decode yB 0 = .ok (.iconst 0, 1) := by decide +kernel
theorem d1 : decode yB 1 = .ok (.istore 5, 2) := by decide +kernel
theorem d3 : decode yB 3 = .ok (.iload 5, 2) := by decide +kernel
theorem d5 : decode yB 5 = .ok (.iload 4, 2) := by decide +kernel
theorem d7 : decode yB 7 = .ok (.if_icmp (.ge) 37, 3) := by decide +kernel
theorem d10 : decode yB 10 = .ok (.aload_n 0, 1) := by decide +kernel
theorem d11 : decode yB 11 = .ok (.iload_n 1, 1) := by decide +kernel
theorem d12 : decode yB 12 = .ok (.caload, 1) := by decide +kernel
theorem d13 : decode yB 13 = .ok (.istore 6, 2) := by decide +kernel
theorem d15 : decode yB 15 = .ok (.iload 6, 2) := by decide +kernel
theorem d17 : decode yB 17 = .ok (.sipush 255, 3) := by decide +kernel
theorem d20 : decode yB 20 = .ok (.if_icmp (.le) 6, 3) := by decide +kernel
theorem d26 : decode yB 26 = .ok (.aload_n 2, 1) := by decide +kernel
theorem d27 : decode yB 27 = .ok (.iload_n 3, 1) := by decide +kernel
theorem d28 : decode yB 28 = .ok (.iload 6, 2) := by decide +kernel
theorem d30 : decode yB 30 = .ok (.i2b, 1) := by decide +kernel
theorem d31 : decode yB 31 = .ok (.bastore, 1) := by decide +kernel
theorem d32 : decode yB 32 = .ok (.iinc 1 1, 3) := by decide +kernel
theorem d35 : decode yB 35 = .ok (.iinc 3 1, 3) := by decide +kernel
theorem d38 : decode yB 38 = .ok (.iinc 5 1, 3) := by decide +kernel
theorem d41 : decode yB 41 = .ok (.goto (-38), 3) := by decide +kernel
theorem d44 : decode yB 44 = .ok (.iload 4, 2) := by decide +kernel
theorem d46 : decode yB 46 = .ok (.ireturn, 1) := by decide +kernel
def site : List Cond := []
def tab : Cond := tabOf yN yB 7 (some .int) site
def P (b : Addr) (A : Cell) (d : Addr) (B : Cell) (o q len : Nat) (args : Array Value) (s : State) : Prop := args = #[.ref b, .int (Int32.ofNat o), .ref d, .int (Int32.ofNat q), .int (Int32.ofNat len)] ∧ Ch b A s ∧ Arr .byte d B s ∧ b ≠ d ∧ o + len ≤ A.slots.size ∧ q + len ≤ B.slots.size ∧ ∀ i, i < len → ¬ 255 < cv A (o + i)
def E (b : Addr) (A : Cell) (d : Addr) (B : Cell) (o q len : Nat) (r : Option Value) (s u : State) : Prop := r = some (.int (Int32.ofNat len)) ∧ ∃ B', Put d B' s u ∧ Laid B B' q (q + len) (fun j => Value.int (lo8 (cv A (o + (j - q)))))
/-- no char of the range above 255: len; the places written hold each char's low byte -/
theorem law (l : Launch) (b : Addr) (A : Cell) (d : Addr) (B : Cell) (o q len : Nat) : Law l yN 5 5 0 0 yB 7 (some .int) site (P b A d B o q len) (E b A d B o q len) (copyLocs d q len) 0 0 := by
  refine Law.of_walk (plainFor_of_name (by decide +kernel)) (by decide +kernel) (by decide +kernel) (by decide) (fun _ _ h => by rw [h.1]; rfl) (fun _ U U' hal hh h => ⟨h.1, h.2.1.mv hal hh, h.2.2.1.mv hal hh, h.2.2.2⟩) (fun r U U' V V' h1 hal h2 h => ⟨h.1, h.2.elim fun B' q => ⟨B', q.1.mv h1 h2, q.2⟩⟩) ?_
  intro p e s m args below meth c s₁ X0 hexec hbytes hml hret hlk hnm hown hh0 W hP
  obtain ⟨rfl, hA, hB, hne, l1, l2, hp⟩ := hP
  have c1 : Steps p.tables e below (s₁.setTop (entryFrame m #[.ref b, .int (Int32.ofNat o), .ref d, .int (Int32.ofNat q), .int (Int32.ofNat len)] 7)) (s₁.setTop (mkF m 0 #[.val (.ref b), .val (.int (Int32.ofNat o)), .val (.ref d), .val (.int (Int32.ofNat q)), .val (.int (Int32.ofNat len)), .unset, .unset] [])) := entry rfl
  have hA0 := hA.1.mv X0.warmed.alike hh0
  have hB0 := hB.mv X0.warmed.alike hh0
  have a31 := hA.1.2.2.2
  have c2 : Steps p.tables e below (s₁.setTop (entryFrame m #[.ref b, .int (Int32.ofNat o), .ref d, .int (Int32.ofNat q), .int (Int32.ofNat len)] 7)) (s₁.setTop (mkF m 3 #[.val (.ref b), .val (.int (Int32.ofNat o)), .val (.ref d), .val (.int (Int32.ofNat q)), .val (.int (Int32.ofNat len)), .val (.int 0), .unset] [])) := c1.trans (by
    refine iconstV X0.here hexec rfl 0 (hb hbytes d0) (by decide) ?_
    refine XS.istore X0.here hexec rfl (hb hbytes d1) rfl rfl ?_
    exact Steps.refl _)
  have loop : ∀ (r i : Nat), i + r = len → ∀ (z : Slot), (z = .unset ∨ ∃ w, z = .val w ∧ w.category = 1) → ∀ (Tl : State) (Bk : Cell), Stand p l e { frames := 0, locals := 0, cells := 0, slots := 0 } s m #[.ref b, .int (Int32.ofNat o), .ref d, .int (Int32.ofNat q), .int (Int32.ofNat len)] below meth c Tl ([] ++ copyLocs d q i) 0 0 → Put d Bk s₁ Tl → Laid B Bk q (q + i) (fun j => Value.int (lo8 (cv A (o + (j - q))))) →
      Steps p.tables e below (s₁.setTop (entryFrame m #[.ref b, .int (Int32.ofNat o), .ref d, .int (Int32.ofNat q), .int (Int32.ofNat len)] 7)) (Tl.setTop (mkF m 3 #[.val (.ref b), .val (.int (Int32.ofNat (o + i))), .val (.ref d), .val (.int (Int32.ofNat (q + i))), .val (.int (Int32.ofNat len)), .val (.int (Int32.ofNat i)), z] [])) → ∃ (T' : State) (B' : Cell) (z' : Slot), Stand p l e { frames := 0, locals := 0, cells := 0, slots := 0 } s m #[.ref b, .int (Int32.ofNat o), .ref d, .int (Int32.ofNat q), .int (Int32.ofNat len)] below meth c T' ([] ++ copyLocs d q len) 0 0 ∧ Put d B' s₁ T' ∧ Laid B B' q (q + len) (fun j => Value.int (lo8 (cv A (o + (j - q))))) ∧
      Steps p.tables e below (s₁.setTop (entryFrame m #[.ref b, .int (Int32.ofNat o), .ref d, .int (Int32.ofNat q), .int (Int32.ofNat len)] 7)) (T'.setTop (mkF m 3 #[.val (.ref b), .val (.int (Int32.ofNat (o + len))), .val (.ref d), .val (.int (Int32.ofNat (q + len))), .val (.int (Int32.ofNat len)), .val (.int (Int32.ofNat len)), z'] [])) := by
    intro r
    induction r with
    | zero =>
      intro i hi z hz Tl Bk Xl pl fl cl
      have hil : i = len := by omega
      rw [hil] at Xl fl cl
      exact ⟨Tl, Bk, z, Xl, pl, fl, cl⟩
    | succ r ih =>
      intro i hi z hz Tl Bk Xl pl fl cl
      have all := X0.warmed.alike.symm.trans Xl.warmed.alike
      have hAl := hA0.keep all (pl.other hne hA0.1)
      have hBk := hB0.like all pl.1 fl.1 fl.2.1 fl.2.2.1
      have hlt : q + i < Bk.slots.size := by rw [fl.2.2.1]; omega
      have c3 : Steps p.tables e below (s₁.setTop (entryFrame m #[.ref b, .int (Int32.ofNat o), .ref d, .int (Int32.ofNat q), .int (Int32.ofNat len)] 7)) (Tl.setTop (mkF m 12 #[.val (.ref b), .val (.int (Int32.ofNat (o + i))), .val (.ref d), .val (.int (Int32.ofNat (q + i))), .val (.int (Int32.ofNat len)), .val (.int (Int32.ofNat i)), z] [.int (Int32.ofNat (o + i)), .ref b])) := cl.trans (by
        refine XS.iload Xl.here hexec rfl (hb hbytes d3) rfl ?_
        refine XS.iload Xl.here hexec rfl (hb hbytes d5) rfl ?_
        refine XS.icmpNo Xl.here hexec rfl (hb hbytes d7) rfl (ii_ge_f (lt32 (by omega) (by omega))) ?_
        refine XS.aloadN Xl.here hexec rfl (hb hbytes d10) rfl rfl ?_
        refine XS.iloadN Xl.here hexec rfl (hb hbytes d11) rfl ?_
        exact Steps.refl _)
      have c4 : Steps p.tables e below (s₁.setTop (entryFrame m #[.ref b, .int (Int32.ofNat o), .ref d, .int (Int32.ofNat q), .int (Int32.ofNat len)] 7)) (Tl.setTop (mkF m 13 #[.val (.ref b), .val (.int (Int32.ofNat (o + i))), .val (.ref d), .val (.int (Int32.ofNat (q + i))), .val (.int (Int32.ofNat len)), .val (.int (Int32.ofNat i)), z] [.int (cv A (o + i))])) := c3.trans (by
        refine Xl.aget hexec hAl rfl (hA.get (i := o + i) (by omega)) rfl rfl (hb hbytes d12) ?_
        exact Steps.refl _)
      have c5 : Steps p.tables e below (s₁.setTop (entryFrame m #[.ref b, .int (Int32.ofNat o), .ref d, .int (Int32.ofNat q), .int (Int32.ofNat len)] 7)) (Tl.setTop (mkF m 15 #[.val (.ref b), .val (.int (Int32.ofNat (o + i))), .val (.ref d), .val (.int (Int32.ofNat (q + i))), .val (.int (Int32.ofNat len)), .val (.int (Int32.ofNat i)), .val (.int (cv A (o + i)))] [])) := c4.trans (by
        refine XS.istoreS Xl.here hexec rfl (hb hbytes d13) rfl rfl hz ?_
        exact Steps.refl _)
      have c6 : Steps p.tables e below (s₁.setTop (entryFrame m #[.ref b, .int (Int32.ofNat o), .ref d, .int (Int32.ofNat q), .int (Int32.ofNat len)] 7)) (Tl.setTop (mkF m 31 #[.val (.ref b), .val (.int (Int32.ofNat (o + i))), .val (.ref d), .val (.int (Int32.ofNat (q + i))), .val (.int (Int32.ofNat len)), .val (.int (Int32.ofNat i)), .val (.int (cv A (o + i)))] [.int (lo8 (cv A (o + i))), .int (Int32.ofNat (q + i)), .ref d])) := c5.trans (by
        refine XS.iload Xl.here hexec rfl (hb hbytes d15) rfl ?_
        refine sipushV Xl.here hexec rfl 255 (hb hbytes d17) (by decide) ?_
        refine XS.icmpYes Xl.here hexec rfl (pc0 := 20) rfl (hb hbytes d20) rfl (ii_le_t (hp i (by omega))) (by decide) rfl ?_
        refine XS.aloadN Xl.here hexec rfl (hb hbytes d26) rfl rfl ?_
        refine XS.iloadN Xl.here hexec rfl (hb hbytes d27) rfl ?_
        refine XS.iload Xl.here hexec rfl (hb hbytes d28) rfl ?_
        refine i2b Xl.here hexec rfl (hb hbytes d30) rfl ?_
        exact Steps.refl _)
      obtain ⟨T7, X7, p7, st7⟩ := Xl.aput hexec hBk rfl hlt rfl (fits_lo8 (cv A (o + i))) (g := (mkF m 31 #[.val (.ref b), .val (.int (Int32.ofNat (o + i))), .val (.ref d), .val (.int (Int32.ofNat (q + i))), .val (.int (Int32.ofNat len)), .val (.int (Int32.ofNat i)), .val (.int (cv A (o + i)))] [.int (lo8 (cv A (o + i))), .int (Int32.ofNat (q + i)), .ref d])) rfl (rest := []) rfl (hb hbytes d31)
      have c8 : Steps p.tables e below (s₁.setTop (entryFrame m #[.ref b, .int (Int32.ofNat o), .ref d, .int (Int32.ofNat q), .int (Int32.ofNat len)] 7)) (T7.setTop (mkF m 32 #[.val (.ref b), .val (.int (Int32.ofNat (o + i))), .val (.ref d), .val (.int (Int32.ofNat (q + i))), .val (.int (Int32.ofNat len)), .val (.int (Int32.ofNat i)), .val (.int (cv A (o + i)))] [])) := c6.trans (st7 _ (Steps.refl _))
      have c9 : Steps p.tables e below (s₁.setTop (entryFrame m #[.ref b, .int (Int32.ofNat o), .ref d, .int (Int32.ofNat q), .int (Int32.ofNat len)] 7)) (T7.setTop (mkF m 3 #[.val (.ref b), .val (.int (Int32.ofNat (o + i) + 1)), .val (.ref d), .val (.int (Int32.ofNat (q + i) + 1)), .val (.int (Int32.ofNat len)), .val (.int (Int32.ofNat i + 1)), .val (.int (cv A (o + i)))] [])) := c8.trans (by
        refine iincV X7.here hexec rfl 1 (hb hbytes d32) (by decide) rfl rfl ?_
        refine iincV X7.here hexec rfl 1 (hb hbytes d35) (by decide) rfl rfl ?_
        refine iincV X7.here hexec rfl 1 (hb hbytes d38) (by decide) rfl rfl ?_
        refine XS.goto X7.here hexec rfl (pc0 := 41) rfl (hb hbytes d41) (by decide) rfl ?_
        exact Steps.refl _)
      have c10 : Steps p.tables e below (s₁.setTop (entryFrame m #[.ref b, .int (Int32.ofNat o), .ref d, .int (Int32.ofNat q), .int (Int32.ofNat len)] 7)) (T7.setTop (mkF m 3 #[.val (.ref b), .val (.int (Int32.ofNat (o + (i + 1)))), .val (.ref d), .val (.int (Int32.ofNat (q + (i + 1)))), .val (.int (Int32.ofNat len)), .val (.int (Int32.ofNat (i + 1))), .val (.int (cv A (o + i)))] [])) := by
        have := c9
        rw [succ32, succ32, succ32] at this
        exact this
      exact ih (i + 1) (by omega) _ (Or.inr ⟨_, rfl, rfl⟩) T7 _ (by rw [copyLocs_step, ← List.append_assoc]; exact X7) (pl.trans p7) (fl.step (by omega) hlt (by simp)) c10
  obtain ⟨T9, B9, z9, X9, p9, f9, g9⟩ := loop len 0 (by omega) .unset (Or.inl rfl) s₁ B (by simpa [copyLocs] using X0) ⟨hB0.1, fun _ _ => rfl, rfl⟩ (Laid.zero _ _ _) c2
  have c11 : Steps p.tables e below (s₁.setTop (entryFrame m #[.ref b, .int (Int32.ofNat o), .ref d, .int (Int32.ofNat q), .int (Int32.ofNat len)] 7)) (T9.setTop (mkF m 46 #[.val (.ref b), .val (.int (Int32.ofNat (o + len))), .val (.ref d), .val (.int (Int32.ofNat (q + len))), .val (.int (Int32.ofNat len)), .val (.int (Int32.ofNat len)), z9] [.int (Int32.ofNat len)])) := g9.trans (by
    refine XS.iload X9.here hexec rfl (hb hbytes d3) rfl ?_
    refine XS.iload X9.here hexec rfl (hb hbytes d5) rfl ?_
    refine XS.icmpYes X9.here hexec rfl (pc0 := 7) rfl (hb hbytes d7) rfl (ii_ge_t (nlt32 (by omega) (Nat.le_refl _))) (by decide) rfl ?_
    refine XS.iload X9.here hexec rfl (hb hbytes d44) rfl ?_
    exact Steps.refl _)
  exact ⟨T9, some (.int (Int32.ofNat len)), _, _, _, X9, by simp, rfl, rfl, (fun h => by cases h), ⟨rfl, B9, p9.from hh0, f9⟩, fun fs hl => c11.trans (X9.ireturnOut hexec hret rfl (Or.inl rfl) (hb hbytes d46) hl)⟩
end Cmp5
namespace Cmp3
def yN : MethodName := ⟨"java/lang/StringUTF16", "compress", "([CII)[B"⟩
abbrev yB : ByteArray := jdk_52_method_16_code
theorem d0 : decode yB 0 = .ok (.iload_n 2, 1) := by decide +kernel
theorem d1 : decode yB 1 = .ok (.newarray .byte, 2) := by decide +kernel
theorem d3 : decode yB 3 = .ok (.astore_n 3, 1) := by decide +kernel
theorem d4 : decode yB 4 = .ok (.aload_n 0, 1) := by decide +kernel
theorem d5 : decode yB 5 = .ok (.iload_n 1, 1) := by decide +kernel
theorem d6 : decode yB 6 = .ok (.aload_n 3, 1) := by decide +kernel
theorem d7 : decode yB 7 = .ok (.iconst 0, 1) := by decide +kernel
theorem d8 : decode yB 8 = .ok (.iload_n 2, 1) := by decide +kernel
theorem d9 : decode yB 9 = .ok (.invokestatic 115, 3) := by decide +kernel
theorem d12 : decode yB 12 = .ok (.istore 4, 2) := by decide +kernel
theorem d14 : decode yB 14 = .ok (.iload 4, 2) := by decide +kernel
theorem d16 : decode yB 16 = .ok (.iload_n 2, 1) := by decide +kernel
theorem d17 : decode yB 17 = .ok (.if_icmp (.eq) 40, 3) := by decide +kernel
theorem d57 : decode yB 57 = .ok (.aload_n 3, 1) := by decide +kernel
theorem d58 : decode yB 58 = .ok (.areturn, 1) := by decide +kernel
def site : List Cond := [.arrayClass .byte, Cmp5.tab] ++ staticW U16 115 Cmp5.yN
def tab : Cond := tabOf yN yB 6 (some (.array .byte)) site
def P (b : Addr) (A : Cell) (o len : Nat) (args : Array Value) (s : State) : Prop := args = #[.ref b, .int (Int32.ofNat o), .int (Int32.ofNat len)] ∧ Ch b A s ∧ o + len ≤ A.slots.size ∧ len ≤ 536870912 ∧ ∀ i, i < len → ¬ 255 < cv A (o + i)
def E (b : Addr) (A : Cell) (o len : Nat) (r : Option Value) (s u : State) : Prop := NewArr .byte "[B" len (fun j => .int (lo8 (cv A (o + j)))) r s u ∧ u.heap.size = s.heap.size + 1
/-- no char of the range above 255: a new byte[] of their low bytes -/
theorem law (l : Launch) (b : Addr) (A : Cell) (o len : Nat) : Law l yN 3 3 1 18 yB 6 (some (.array .byte)) site (P b A o len) (E b A o len) [] 1 len := by
  refine Law.of_walk (plainFor_of_name (by decide +kernel)) (by decide +kernel) (by decide +kernel) (by decide) (fun _ _ h => by rw [h.1]; rfl) (fun _ U U' hal hh h => ⟨h.1, h.2.1.mv hal hh, h.2.2⟩) (fun r U U' V V' h1 hal h2 h => ⟨NewArr.mv r U U' V V' h1 hal h2 h.1, by rw [h1, h2]; exact h.2⟩) ?_
  intro p e s m args below meth c s₁ X0 hexec hbytes hml hret hlk hnm hown hh0 W hP
  obtain ⟨rfl, hA, l1, l2, hp⟩ := hP
  have a31 := hA.1.2.2.2
  have c1 : Steps p.tables e below (s₁.setTop (entryFrame m #[.ref b, .int (Int32.ofNat o), .int (Int32.ofNat len)] 6)) (s₁.setTop (mkF m 0 #[.val (.ref b), .val (.int (Int32.ofNat o)), .val (.int (Int32.ofNat len)), .unset, .unset, .unset] [])) := entry rfl
  have c2 : Steps p.tables e below (s₁.setTop (entryFrame m #[.ref b, .int (Int32.ofNat o), .int (Int32.ofNat len)] 6)) (s₁.setTop (mkF m 1 #[.val (.ref b), .val (.int (Int32.ofNat o)), .val (.int (Int32.ofNat len)), .unset, .unset, .unset] [.int (Int32.ofNat len)])) := c1.trans (by
    refine XS.iloadN X0.here hexec rfl (hb hbytes d0) rfl ?_
    exact Steps.refl _)
  obtain ⟨T3, B3, X3, ba3, bs3, bv3, bh3, bf3, st3⟩ := X0.anew hexec (atype := .byte) (wk W (.arrayClass .byte)) rfl (by show len * 1 ≤ _; omega) (by omega) (g := (mkF m 1 #[.val (.ref b), .val (.int (Int32.ofNat o)), .val (.int (Int32.ofNat len)), .unset, .unset, .unset] [.int (Int32.ofNat len)])) rfl (hb hbytes d1) (rest := []) rfl (Nat.le_refl _) (by show 0 + len ≤ len; omega)
  rw [hh0] at ba3 st3
  have kp3 : XT.Kept s T3 := (XT.Kept.of_eq hh0).push bh3
  have hA3 := hA.keep X3.warmed.alike (kp3 _ _ hA.1.1)
  have hne : b ≠ s.heap.size := hA.1.ne
  have c4 : Steps p.tables e below (s₁.setTop (entryFrame m #[.ref b, .int (Int32.ofNat o), .int (Int32.ofNat len)] 6)) (T3.setTop (mkF m 3 #[.val (.ref b), .val (.int (Int32.ofNat o)), .val (.int (Int32.ofNat len)), .unset, .unset, .unset] [.ref s.heap.size])) := c2.trans (st3 _ (Steps.refl _))
  have c5 : Steps p.tables e below (s₁.setTop (entryFrame m #[.ref b, .int (Int32.ofNat o), .int (Int32.ofNat len)] 6)) (T3.setTop (mkF m 9 #[.val (.ref b), .val (.int (Int32.ofNat o)), .val (.int (Int32.ofNat len)), .val (.ref s.heap.size), .unset, .unset] [.int (Int32.ofNat len), .int 0, .ref s.heap.size, .int (Int32.ofNat o), .ref b])) := c4.trans (by
    refine XS.astoreN X3.here hexec rfl (hb hbytes d3) rfl rfl rfl ?_
    refine XS.aloadN X3.here hexec rfl (hb hbytes d4) rfl rfl ?_
    refine XS.iloadN X3.here hexec rfl (hb hbytes d5) rfl ?_
    refine XS.aloadN X3.here hexec rfl (hb hbytes d6) rfl rfl ?_
    refine iconstV X3.here hexec rfl 0 (hb hbytes d7) (by decide) ?_
    refine XS.iloadN X3.here hexec rfl (hb hbytes d8) rfl ?_
    exact Steps.refl _)
  obtain ⟨v6, T6, X6, E6, g6⟩ := X3.callS hexec (Cmp5.law l b A s.heap.size B3 o 0 len) hown (wks W (staticW U16 115 Cmp5.yN)) (wk W Cmp5.tab) (W := 0) (Nat.le_of_ble_eq_true rfl) (Nat.le_of_ble_eq_true rfl) (Nat.le_refl _) (by show 0 + len + 0 ≤ len; omega) (g := (mkF m 9 #[.val (.ref b), .val (.int (Int32.ofNat o)), .val (.int (Int32.ofNat len)), .val (.ref s.heap.size), .unset, .unset] [.int (Int32.ofNat len), .int (Int32.ofNat 0), .ref s.heap.size, .int (Int32.ofNat o), .ref b])) rfl (by rw [hml]; rfl) c5 (argsL := [.ref b, .int (Int32.ofNat o), .ref s.heap.size, .int (Int32.ofNat 0), .int (Int32.ofNat len)]) (rest := []) rfl rfl (by show 2 * 0 + 0 ≤ _; decide) (hb hbytes d9) (⟨rfl, hA3, ba3, hne, l1, by rw [bs3]; simp, hp⟩)
  obtain ⟨rfl, B6, p6, f6⟩ := E6
  have c7 : Steps p.tables e below (s₁.setTop (entryFrame m #[.ref b, .int (Int32.ofNat o), .int (Int32.ofNat len)] 6)) (T6.setTop (mkF m 12 #[.val (.ref b), .val (.int (Int32.ofNat o)), .val (.int (Int32.ofNat len)), .val (.ref s.heap.size), .unset, .unset] [.int (Int32.ofNat len)])) := g6
  have c8 : Steps p.tables e below (s₁.setTop (entryFrame m #[.ref b, .int (Int32.ofNat o), .int (Int32.ofNat len)] 6)) (T6.setTop (mkF m 58 #[.val (.ref b), .val (.int (Int32.ofNat o)), .val (.int (Int32.ofNat len)), .val (.ref s.heap.size), .val (.int (Int32.ofNat len)), .unset] [.ref s.heap.size])) := c7.trans (by
    refine XS.istore X6.here hexec rfl (hb hbytes d12) rfl rfl ?_
    refine XS.iload X6.here hexec rfl (hb hbytes d14) rfl ?_
    refine XS.iloadN X6.here hexec rfl (hb hbytes d16) rfl ?_
    refine XS.icmpYes X6.here hexec rfl (pc0 := 17) rfl (hb hbytes d17) rfl (ii_eq_t rfl) (by decide) rfl ?_
    refine XS.aloadN X6.here hexec rfl (hb hbytes d57) rfl rfl ?_
    exact Steps.refl _)
  have X8 := X6.wide (L' := []) (cells' := 1) (slots' := len) (fun x hx hlt => by
    simp only [List.nil_append, copyLocs, List.mem_map, List.mem_range] at hx
    obtain ⟨i, -, rfl⟩ := hx
    exact absurd hlt (Nat.lt_irrefl _)) (Nat.le_refl _) (by omega)
  exact ⟨T6, some (.ref s.heap.size), _, _, _, X8, rfl, rfl, rfl, (fun h => by cases h), ⟨⟨rfl, B6, ba3.like (X3.warmed.alike.symm.trans X6.warmed.alike) p6.1 f6.1 f6.2.1 f6.2.2.1, f6.2.1.trans bv3, by rw [X6.warmed.alike.findClass, f6.1]; exact bf3, by rw [f6.2.2.1, bs3]; simp, fun j hj => by rw [f6.2.2.2 j, if_pos (by omega)]; rfl, kp3.put p6 (Nat.le_refl _)⟩, by rw [p6.2.2, bh3, hh0]; simp⟩, fun fs hl => c8.trans (X8.areturnOut hexec rfl hret rfl (hb hbytes d58) hl)⟩
end Cmp3
namespace CodL
def yN : MethodName := ⟨"java/lang/StringUTF16", "coderFromArrayLen", "([BI)B"⟩
abbrev yB : ByteArray := jdk_52_method_15_code
theorem d0 : decode yB 0 = .ok (.iload_n 1, 1) := by decide +kernel
theorem d1 : decode yB 1 = .ok (.aload_n 0, 1) := by decide +kernel
theorem d2 : decode yB 2 = .ok (.arraylength, 1) := by decide +kernel
theorem d3 : decode yB 3 = .ok (.isub, 1) := by decide +kernel
theorem d4 : decode yB 4 = .ok (.bipush 31, 2) := by decide +kernel
theorem d6 : decode yB 6 = .ok (.iushr, 1) := by decide +kernel
theorem d7 : decode yB 7 = .ok (.i2b, 1) := by decide +kernel
theorem d8 : decode yB 8 = .ok (.ireturn, 1) := by decide +kernel
def site : List Cond := []
def tab : Cond := tabOf yN yB 2 (some .byte) site
def P (d : Addr) (B : Cell) (args : Array Value) (s : State) : Prop := args = #[.ref d, .int (Int32.ofNat B.slots.size)] ∧ Arr .byte d B s
def E (r : Option Value) (s u : State) : Prop := XT.PureE (some (.int 0)) r s u
/-- an array as long as the number of chars: LATIN1 -/
theorem law (l : Launch) (d : Addr) (B : Cell) : Law l yN 2 2 0 0 yB 2 (some .byte) site (P d B) E [] 0 0 := by
  refine Law.of_walk (plainFor_of_name (by decide +kernel)) (by decide +kernel) (by decide +kernel) (by decide) (fun _ _ h => by rw [h.1]; rfl) (fun _ U U' hal hh h => ⟨h.1, h.2.mv hal hh⟩) (fun r U U' V V' h1 hal h2 h => XT.PureE.mv r U U' V V' h1 hal h2 h) ?_
  intro p e s m args below meth c s₁ X0 hexec hbytes hml hret hlk hnm hown hh0 W hP
  obtain ⟨rfl, hB⟩ := hP
  have hB0 := hB.mv X0.warmed.alike hh0
  have c1 : Steps p.tables e below (s₁.setTop (entryFrame m #[.ref d, .int (Int32.ofNat B.slots.size)] 2)) (s₁.setTop (mkF m 0 #[.val (.ref d), .val (.int (Int32.ofNat B.slots.size))] [])) := entry rfl
  have c2 : Steps p.tables e below (s₁.setTop (entryFrame m #[.ref d, .int (Int32.ofNat B.slots.size)] 2)) (s₁.setTop (mkF m 2 #[.val (.ref d), .val (.int (Int32.ofNat B.slots.size))] [.ref d, .int (Int32.ofNat B.slots.size)])) := c1.trans (by
    refine XS.iloadN X0.here hexec rfl (hb hbytes d0) rfl ?_
    refine XS.aloadN X0.here hexec rfl (hb hbytes d1) rfl rfl ?_
    exact Steps.refl _)
  have c3 : Steps p.tables e below (s₁.setTop (entryFrame m #[.ref d, .int (Int32.ofNat B.slots.size)] 2)) (s₁.setTop (mkF m 8 #[.val (.ref d), .val (.int (Int32.ofNat B.slots.size))] [.int (lo8 (ushr (Int32.ofNat B.slots.size - Int32.ofNat B.slots.size) 31))])) := c2.trans (by
    refine X0.alen hexec hB0 rfl rfl (hb hbytes d2) ?_
    refine XS.isub X0.here hexec rfl (hb hbytes d3) rfl ?_
    refine bipushV X0.here hexec rfl 31 (hb hbytes d4) (by decide) ?_
    refine iushr X0.here hexec rfl (hb hbytes d6) rfl ?_
    refine i2b X0.here hexec rfl (hb hbytes d7) rfl ?_
    exact Steps.refl _)
  have e0 : lo8 (ushr (Int32.ofNat B.slots.size - Int32.ofNat B.slots.size) 31) = 0 := by rw [Int32.sub_self]; decide
  rw [e0] at c3
  exact ⟨s₁, some (.int 0), _, _, _, X0, rfl, rfl, rfl, (fun h => by cases h), ⟨rfl, hh0⟩, fun fs hl => c3.trans (X0.ireturnOut hexec hret rfl (Or.inr (Or.inr (Or.inl rfl))) (hb hbytes d8) hl)⟩
end CodL
/-- the String at a is Latin-1 over a new byte[] (the heap's one new cell): the low bytes of the len chars of A from o on; every cell but a is kept -/
def Got (a : Addr) (D : Cell) (fV fC : Field) (A : Cell) (o len : Nat) (r : Option Value) (s u : State) : Prop := r = none ∧ ∃ D' V : Cell, Blank "java/lang/String" a D' u ∧ Same D D' [fV.slot, fC.slot] ∧ D'.slots[fV.slot]? = some (.ref s.heap.size) ∧ D'.slots[fC.slot]? = some (.int 0) ∧ Arr .byte s.heap.size V u ∧ V.vm = .none ∧ u.vm.findClass "[B" = some V.cls ∧ V.slots.size = len ∧ (∀ j, j < len → V.slots[j]? = some (.int (lo8 (cv A (o + j))))) ∧ (∀ (y : Addr) (c : Cell), y ≠ a → s.heap[y]? = some c → u.heap[y]? = some c) ∧ u.heap.size = s.heap.size + 1
theorem Got.mv {a : Addr} {D A : Cell} {fV fC : Field} {o len : Nat} : ∀ r (U U' V V' : State), U'.heap = U.heap → V.vm.Alike V'.vm → V'.heap = V.heap → Got a D fV fC A o len r U V → Got a D fV fC A o len r U' V' :=
  fun r U U' V V' h1 hal h2 ⟨e0, D', X, a1, a2, a3, a4, a5, a6, a7, a8, a9, a10, a11⟩ => ⟨e0, D', X, a1.mv hal h2, a2, by rw [h1]; exact a3, a4, by rw [h1]; exact a5.mv hal h2, a6, by rw [hal.findClass]; exact a7, a8, a9, by rw [h1, h2]; exact a10, by rw [h1, h2]; exact a11⟩
namespace New4
def yN : MethodName := ⟨"java/lang/String", "<init>", "([CIILjava/lang/Void;)V"⟩
abbrev yB : ByteArray := jdk_42_method_149_code
theorem d0 : decode yB 0 = .ok (.aload_n 0, 1) := by decide +kernel
theorem d1 : decode yB 1 = .ok (.invokespecial 1, 3) := by decide +kernel
theorem d4 : decode yB 4 = .ok (.iload_n 3, 1) := by decide +kernel
theorem d5 : decode yB 5 = .ok (.ifCond (.ne) 22, 3) := by decide +kernel
theorem d27 : decode yB 27 = .ok (.getstatic 38, 3) := by decide +kernel
theorem d30 : decode yB 30 = .ok (.ifCond (.eq) 28, 3) := by decide +kernel
theorem d33 : decode yB 33 = .ok (.aload_n 1, 1) := by decide +kernel
theorem d34 : decode yB 34 = .ok (.iload_n 2, 1) := by decide +kernel
theorem d35 : decode yB 35 = .ok (.iload_n 3, 1) := by decide +kernel
theorem d36 : decode yB 36 = .ok (.invokestatic 177, 3) := by decide +kernel
theorem d39 : decode yB 39 = .ok (.astore 5, 2) := by decide +kernel
theorem d41 : decode yB 41 = .ok (.aload_n 0, 1) := by decide +kernel
theorem d42 : decode yB 42 = .ok (.aload 5, 2) := by decide +kernel
theorem d44 : decode yB 44 = .ok (.iload_n 3, 1) := by decide +kernel
theorem d45 : decode yB 45 = .ok (.invokestatic 47, 3) := by decide +kernel
theorem d48 : decode yB 48 = .ok (.putfield 15, 3) := by decide +kernel
theorem d51 : decode yB 51 = .ok (.aload_n 0, 1) := by decide +kernel
theorem d52 : decode yB 52 = .ok (.aload 5, 2) := by decide +kernel
theorem d54 : decode yB 54 = .ok (.putfield 9, 3) := by decide +kernel
theorem d57 : decode yB 57 = .ok (.return_, 1) := by decide +kernel
def site : List Cond := [.fieldLink "java/lang/String" 38 "java/lang/String" "COMPACT_STRINGS" "Z", Cmp3.tab, CodL.tab, .laysFinal "java/lang/String" "java/lang/String" "value" "[B", .fieldLink "java/lang/String" 9 "java/lang/String" "value" "[B", .laysFinal "java/lang/String" "java/lang/String" "coder" "B", .fieldLink "java/lang/String" 15 "java/lang/String" "coder" "B"] ++ objW "java/lang/String" 1 ++ staticW "java/lang/String" 177 Cmp3.yN ++ staticW "java/lang/String" 47 CodL.yN
def tab : Cond := tabOf yN yB 6 none site
def P (a : Addr) (D : Cell) (fV fC : Field) (b : Addr) (A : Cell) (z : Int32) (o len : Nat) (args : Array Value) (s : State) : Prop := args = #[.ref a, .ref b, .int (Int32.ofNat o), .int (Int32.ofNat len), .null] ∧ Blank "java/lang/String" a D s ∧ Found "java/lang/String" "value" "[B" fV s ∧ Found "java/lang/String" "coder" "B" fC s ∧ Ch b A s ∧ StaticIs s "java/lang/String" "COMPACT_STRINGS" "Z" (.int z) ∧ ¬ z = 0 ∧ 0 < len ∧ o + len ≤ A.slots.size ∧ len ≤ 536870912 ∧ ∀ i, i < len → ¬ 255 < cv A (o + i)
def E (a : Addr) (D : Cell) (fV fC : Field) (A : Cell) (o len : Nat) (r : Option Value) (s u : State) : Prop := Got a D fV fC A o len r s u
/-- len > 0, no char of the range above 255: a Latin-1 String of their low bytes -/
theorem law (l : Launch) (a : Addr) (D : Cell) (fV fC : Field) (b : Addr) (A : Cell) (z : Int32) (o len : Nat) : Law l yN 5 4 2 35 yB 6 none site (P a D fV fC b A z o len) (E a D fV fC A o len) [⟨a, fC.slot⟩, ⟨a, fV.slot⟩] 1 len := by
  refine Law.of_walk (plainFor_of_name (by decide +kernel)) (by decide +kernel) (by decide +kernel) (by decide) (fun _ _ h => by rw [h.1]; rfl) (fun _ U U' hal hh h => ⟨h.1, h.2.1.mv hal hh, h.2.2.1.al hal, h.2.2.2.1.al hal, h.2.2.2.2.1.mv hal hh, h.2.2.2.2.2.1.there hal hh, h.2.2.2.2.2.2⟩) (fun r U U' V V' h1 hal h2 h => Got.mv r U U' V V' h1 hal h2 h) ?_
  intro p e s m args below meth c s₁ X0 hexec hbytes hml hret hlk hnm hown hh0 W hP
  obtain ⟨rfl, hB, f1, f2, hA, s1, hz, l0, l1, l2, hp⟩ := hP
  have a31 := hA.1.2.2.2
  have c1 : Steps p.tables e below (s₁.setTop (entryFrame m #[.ref a, .ref b, .int (Int32.ofNat o), .int (Int32.ofNat len), .null] 6)) (s₁.setTop (mkF m 0 #[.val (.ref a), .val (.ref b), .val (.int (Int32.ofNat o)), .val (.int (Int32.ofNat len)), .val .null, .unset] [])) := entry rfl
  have c2 : Steps p.tables e below (s₁.setTop (entryFrame m #[.ref a, .ref b, .int (Int32.ofNat o), .int (Int32.ofNat len), .null] 6)) (s₁.setTop (mkF m 1 #[.val (.ref a), .val (.ref b), .val (.int (Int32.ofNat o)), .val (.int (Int32.ofNat len)), .val .null, .unset] [.ref a])) := c1.trans (by
    refine XS.aloadN X0.here hexec rfl (hb hbytes d0) rfl rfl ?_
    exact Steps.refl _)
  obtain ⟨T3, X3, q3, st3⟩ := X0.oinit hexec hown (wks W (objW "java/lang/String" 1)) (g := (mkF m 1 #[.val (.ref a), .val (.ref b), .val (.int (Int32.ofNat o)), .val (.int (Int32.ofNat len)), .val .null, .unset] [.ref a])) rfl (by rw [hml]; rfl) (rest := []) rfl (hb hbytes d1) (W := 0) (by show 2 * 0 + 0 ≤ _; decide) (Nat.le_of_ble_eq_true rfl) (Nat.le_of_ble_eq_true rfl)
  have hh3 := q3.trans hh0
  have c4 : Steps p.tables e below (s₁.setTop (entryFrame m #[.ref a, .ref b, .int (Int32.ofNat o), .int (Int32.ofNat len), .null] 6)) (T3.setTop (mkF m 27 #[.val (.ref a), .val (.ref b), .val (.int (Int32.ofNat o)), .val (.int (Int32.ofNat len)), .val .null, .unset] [])) := (c2.trans (st3 _ (Steps.refl _))).trans (by
    refine XS.iloadN X3.here hexec rfl (hb hbytes d4) rfl ?_
    refine XS.ifYes X3.here hexec rfl (pc0 := 5) rfl (hb hbytes d5) rfl (i0_ne_t (nz32 (by omega) l0)) (by decide) rfl ?_
    exact Steps.refl _)
  obtain ⟨T5, X5, q5, st5⟩ := X3.sget hexec hown (wk W (.fieldLink "java/lang/String" 38 "java/lang/String" "COMPACT_STRINGS" "Z")) s1 (fun _ _ h => by rw [hh3]; exact h) (g := (mkF m 27 #[.val (.ref a), .val (.ref b), .val (.int (Int32.ofNat o)), .val (.int (Int32.ofNat len)), .val .null, .unset] [])) rfl (hb hbytes d27)
  have hh5 := q5.trans hh3
  have c6 : Steps p.tables e below (s₁.setTop (entryFrame m #[.ref a, .ref b, .int (Int32.ofNat o), .int (Int32.ofNat len), .null] 6)) (T5.setTop (mkF m 30 #[.val (.ref a), .val (.ref b), .val (.int (Int32.ofNat o)), .val (.int (Int32.ofNat len)), .val .null, .unset] [.int z])) := c4.trans (st5 _ (Steps.refl _))
  have c7 : Steps p.tables e below (s₁.setTop (entryFrame m #[.ref a, .ref b, .int (Int32.ofNat o), .int (Int32.ofNat len), .null] 6)) (T5.setTop (mkF m 36 #[.val (.ref a), .val (.ref b), .val (.int (Int32.ofNat o)), .val (.int (Int32.ofNat len)), .val .null, .unset] [.int (Int32.ofNat len), .int (Int32.ofNat o), .ref b])) := c6.trans (by
    refine XS.ifNo X5.here hexec rfl (hb hbytes d30) rfl (i0_eq_f hz) ?_
    refine XS.aloadN X5.here hexec rfl (hb hbytes d33) rfl rfl ?_
    refine XS.iloadN X5.here hexec rfl (hb hbytes d34) rfl ?_
    refine XS.iloadN X5.here hexec rfl (hb hbytes d35) rfl ?_
    exact Steps.refl _)
  obtain ⟨v8, T8, X8, E8, g8⟩ := X5.callS hexec (Cmp3.law l b A o len) hown (wks W (staticW "java/lang/String" 177 Cmp3.yN)) (wk W Cmp3.tab) (W := 0) (Nat.le_of_ble_eq_true rfl) (Nat.le_of_ble_eq_true rfl) (Nat.le_refl _) (by show 0 + len ≤ len; omega) (g := (mkF m 36 #[.val (.ref a), .val (.ref b), .val (.int (Int32.ofNat o)), .val (.int (Int32.ofNat len)), .val .null, .unset] [.int (Int32.ofNat len), .int (Int32.ofNat o), .ref b])) rfl (by rw [hml]; rfl) c7 (argsL := [.ref b, .int (Int32.ofNat o), .int (Int32.ofNat len)]) (rest := []) rfl rfl (by show 2 * 0 + 0 ≤ _; decide) (hb hbytes d36) (⟨rfl, hA.mv X5.warmed.alike hh5, l1, l2, hp⟩)
  obtain ⟨e8, z8⟩ := E8
  obtain ⟨rfl, N, n1, n2, n3, n4, n5, n6⟩ := NewArr.mv _ T5 s _ _ hh5.symm (Vm.Alike.refl _) rfl e8
  rw [hh5] at z8
  have hB1 := hB.keep X8.warmed.alike (n6 _ _ hB.1)
  have hne : s.heap.size ≠ a := (Nat.ne_of_lt (Array.getElem?_eq_some_iff.mp hB.1).1).symm
  have c9 : Steps p.tables e below (s₁.setTop (entryFrame m #[.ref a, .ref b, .int (Int32.ofNat o), .int (Int32.ofNat len), .null] 6)) (T8.setTop (mkF m 39 #[.val (.ref a), .val (.ref b), .val (.int (Int32.ofNat o)), .val (.int (Int32.ofNat len)), .val .null, .unset] [.ref s.heap.size])) := g8
  have c10 : Steps p.tables e below (s₁.setTop (entryFrame m #[.ref a, .ref b, .int (Int32.ofNat o), .int (Int32.ofNat len), .null] 6)) (T8.setTop (mkF m 45 #[.val (.ref a), .val (.ref b), .val (.int (Int32.ofNat o)), .val (.int (Int32.ofNat len)), .val .null, .val (.ref s.heap.size)] [.int (Int32.ofNat N.slots.size), .ref s.heap.size, .ref a])) := by
    have hc : Steps p.tables e below (s₁.setTop (entryFrame m #[.ref a, .ref b, .int (Int32.ofNat o), .int (Int32.ofNat len), .null] 6)) (T8.setTop (mkF m 45 #[.val (.ref a), .val (.ref b), .val (.int (Int32.ofNat o)), .val (.int (Int32.ofNat len)), .val .null, .val (.ref s.heap.size)] [.int (Int32.ofNat len), .ref s.heap.size, .ref a])) := c9.trans (by
      refine XS.astore X8.here hexec rfl (hb hbytes d39) rfl rfl rfl ?_
      refine XS.aloadN X8.here hexec rfl (hb hbytes d41) rfl rfl ?_
      refine XS.aload X8.here hexec rfl (hb hbytes d42) rfl rfl ?_
      refine XS.iloadN X8.here hexec rfl (hb hbytes d44) rfl ?_
      exact Steps.refl _)
    rw [n4]; exact hc
  obtain ⟨v11, T11, X11, E11, g11⟩ := X8.callS hexec (CodL.law l s.heap.size N) hown (wks W (staticW "java/lang/String" 47 CodL.yN)) (wk W CodL.tab) (W := 1) (Nat.le_of_ble_eq_true rfl) (Nat.le_of_ble_eq_true rfl) (Nat.le_refl _) (by show 0 + len + 0 ≤ len; omega) (g := (mkF m 45 #[.val (.ref a), .val (.ref b), .val (.int (Int32.ofNat o)), .val (.int (Int32.ofNat len)), .val .null, .val (.ref s.heap.size)] [.int (Int32.ofNat N.slots.size), .ref s.heap.size, .ref a])) rfl (by rw [hml]; rfl) c10 (argsL := [.ref s.heap.size, .int (Int32.ofNat N.slots.size)]) (rest := [.ref a]) rfl rfl (by show 2 * 0 + (1 + 0) ≤ _; decide) (hb hbytes d45) (⟨rfl, n1⟩)
  obtain ⟨rfl, q11⟩ := E11
  have hB11 := hB1.mv (X8.warmed.alike.symm.trans X11.warmed.alike) q11
  have c12 : Steps p.tables e below (s₁.setTop (entryFrame m #[.ref a, .ref b, .int (Int32.ofNat o), .int (Int32.ofNat len), .null] 6)) (T11.setTop (mkF m 48 #[.val (.ref a), .val (.ref b), .val (.int (Int32.ofNat o)), .val (.int (Int32.ofNat len)), .val .null, .val (.ref s.heap.size)] [.int 0, .ref a])) := g11
  obtain ⟨T13, X13, p13, bl13, sl13, st13⟩ := X11.finit hexec hown (wk W (.fieldLink "java/lang/String" 15 "java/lang/String" "coder" "B")) (Or.inr ⟨_, (wk W (.laysFinal "java/lang/String" "java/lang/String" "coder" "B"))⟩) (Or.inl ⟨rfl, hnm⟩) f2 (Or.inl rfl) hB11 (t := .byte) (by decide +kernel) rfl (g := (mkF m 48 #[.val (.ref a), .val (.ref b), .val (.int (Int32.ofNat o)), .val (.int (Int32.ofNat len)), .val .null, .val (.ref s.heap.size)] [.int 0, .ref a])) rfl (rest := []) rfl (hb hbytes d48)
  have c14 : Steps p.tables e below (s₁.setTop (entryFrame m #[.ref a, .ref b, .int (Int32.ofNat o), .int (Int32.ofNat len), .null] 6)) (T13.setTop (mkF m 54 #[.val (.ref a), .val (.ref b), .val (.int (Int32.ofNat o)), .val (.int (Int32.ofNat len)), .val .null, .val (.ref s.heap.size)] [.ref s.heap.size, .ref a])) := (c12.trans (st13 _ (Steps.refl _))).trans (by
    refine XS.aloadN X13.here hexec rfl (hb hbytes d51) rfl rfl ?_
    refine XS.aload X13.here hexec rfl (hb hbytes d52) rfl rfl ?_
    exact Steps.refl _)
  obtain ⟨T15, X15, p15, bl15, sl15, st15⟩ := X13.finit hexec hown (wk W (.fieldLink "java/lang/String" 9 "java/lang/String" "value" "[B")) (Or.inr ⟨_, (wk W (.laysFinal "java/lang/String" "java/lang/String" "value" "[B"))⟩) (Or.inl ⟨rfl, hnm⟩) f1 (Or.inl rfl) bl13 (t := (.array .byte)) (by decide +kernel) rfl (g := (mkF m 54 #[.val (.ref a), .val (.ref b), .val (.int (Int32.ofNat o)), .val (.int (Int32.ofNat len)), .val .null, .val (.ref s.heap.size)] [.ref s.heap.size, .ref a])) rfl (rest := []) rfl (hb hbytes d54)
  have c16 : Steps p.tables e below (s₁.setTop (entryFrame m #[.ref a, .ref b, .int (Int32.ofNat o), .int (Int32.ofNat len), .null] 6)) (T15.setTop (mkF m 57 #[.val (.ref a), .val (.ref b), .val (.int (Int32.ofNat o)), .val (.int (Int32.ofNat len)), .val .null, .val (.ref s.heap.size)] [])) := c14.trans (st15 _ (Steps.refl _))
  have ap := apart (Or.inr ⟨_, (wk W (.laysFinal "java/lang/String" "java/lang/String" "value" "[B"))⟩) (Or.inr ⟨_, (wk W (.laysFinal "java/lang/String" "java/lang/String" "coder" "B"))⟩) f1 f2 (t₁ := .array .byte) (t₂ := .byte) (by decide +kernel) (by decide +kernel) (by decide)
  have al := X8.warmed.alike.symm.trans X15.warmed.alike
  have n7 : T11.heap[s.heap.size]? = some N := by rw [q11]; exact n1.1
  exact ⟨T15, none, _, _, _, X15, by simp, rfl, by omega, (fun _ => rfl), ⟨rfl, _, N, bl15, ((Same.refl D _).set _ (by simp)).set _ (by simp), sl15, (Cell.slots_setSlot_ne _ ap).trans sl13, n1.keep al (p15.other hne (p13.other hne n7)), n2, by rw [al.findClass]; exact n3, n4, n5, fun y c h1 h2 => p15.other h1 (p13.other h1 (by rw [q11]; exact n6 y c h2)), by rw [p15.2.2, p13.2.2, q11]; exact z8⟩, fun fs hl => c16.trans (X15.returnOut hexec hret (hb hbytes d57) hl)⟩
end New4
namespace New1
def yN : MethodName := ⟨"java/lang/String", "<init>", "([C)V"⟩
abbrev yB : ByteArray := jdk_42_method_3_code
theorem d0 : decode yB 0 = .ok (.aload_n 0, 1) := by decide +kernel
theorem d1 : decode yB 1 = .ok (.aload_n 1, 1) := by decide +kernel
theorem d2 : decode yB 2 = .ok (.iconst 0, 1) := by decide +kernel
theorem d3 : decode yB 3 = .ok (.aload_n 1, 1) := by decide +kernel
theorem d4 : decode yB 4 = .ok (.arraylength, 1) := by decide +kernel
theorem d5 : decode yB 5 = .ok (.aconst_null, 1) := by decide +kernel
theorem d6 : decode yB 6 = .ok (.invokespecial 27, 3) := by decide +kernel
theorem d9 : decode yB 9 = .ok (.return_, 1) := by decide +kernel
def site : List Cond := [New4.tab] ++ initW "java/lang/String" 27 New4.yN
def tab : Cond := tabOf yN yB 2 none site
def P (a : Addr) (D : Cell) (fV fC : Field) (b : Addr) (A : Cell) (z : Int32) (args : Array Value) (s : State) : Prop := args = #[.ref a, .ref b] ∧ Blank "java/lang/String" a D s ∧ Found "java/lang/String" "value" "[B" fV s ∧ Found "java/lang/String" "coder" "B" fC s ∧ Ch b A s ∧ StaticIs s "java/lang/String" "COMPACT_STRINGS" "Z" (.int z) ∧ ¬ z = 0 ∧ 0 < A.slots.size ∧ A.slots.size ≤ 536870912 ∧ ∀ i, i < A.slots.size → ¬ 255 < cv A i
def E (a : Addr) (D : Cell) (fV fC : Field) (A : Cell) (r : Option Value) (s u : State) : Prop := Got a D fV fC A 0 A.slots.size r s u
/-- new String(chars), not empty, no char above 255: a Latin-1 String of their low bytes -/
theorem law (l : Launch) (a : Addr) (D : Cell) (fV fC : Field) (b : Addr) (A : Cell) (z : Int32) : Law l yN 2 1 3 52 yB 2 none site (P a D fV fC b A z) (E a D fV fC A) [⟨a, fC.slot⟩, ⟨a, fV.slot⟩] 1 A.slots.size := by
  refine Law.of_walk (plainFor_of_name (by decide +kernel)) (by decide +kernel) (by decide +kernel) (by decide) (fun _ _ h => by rw [h.1]; rfl) (fun _ U U' hal hh h => ⟨h.1, h.2.1.mv hal hh, h.2.2.1.al hal, h.2.2.2.1.al hal, h.2.2.2.2.1.mv hal hh, h.2.2.2.2.2.1.there hal hh, h.2.2.2.2.2.2⟩) (fun r U U' V V' h1 hal h2 h => Got.mv r U U' V V' h1 hal h2 h) ?_
  intro p e s m args below meth c s₁ X0 hexec hbytes hml hret hlk hnm hown hh0 W hP
  obtain ⟨rfl, hB, f1, f2, hA, s1, hz, l0, l2, hp⟩ := hP
  have c1 : Steps p.tables e below (s₁.setTop (entryFrame m #[.ref a, .ref b] 2)) (s₁.setTop (mkF m 0 #[.val (.ref a), .val (.ref b)] [])) := entry rfl
  have c2 : Steps p.tables e below (s₁.setTop (entryFrame m #[.ref a, .ref b] 2)) (s₁.setTop (mkF m 6 #[.val (.ref a), .val (.ref b)] [.null, .int (Int32.ofNat A.slots.size), .int 0, .ref b, .ref a])) := c1.trans (by
    refine XS.aloadN X0.here hexec rfl (hb hbytes d0) rfl rfl ?_
    refine XS.aloadN X0.here hexec rfl (hb hbytes d1) rfl rfl ?_
    refine iconstV X0.here hexec rfl 0 (hb hbytes d2) (by decide) ?_
    refine XS.aloadN X0.here hexec rfl (hb hbytes d3) rfl rfl ?_
    refine X0.alen hexec (hA.1.mv X0.warmed.alike hh0) rfl rfl (hb hbytes d4) ?_
    refine XS.aconstNull X0.here hexec rfl (hb hbytes d5) ?_
    exact Steps.refl _)
  obtain ⟨v3, T3, X3, E3, g3⟩ := X0.callN hexec (New4.law l a D fV fC b A z 0 A.slots.size) rfl hown (wks W (initW "java/lang/String" 27 New4.yN)) (W New4.tab (by simp only [site, List.mem_cons, List.mem_append, true_or, or_true])) (W := 0) (Nat.le_of_ble_eq_true rfl) (Nat.le_of_ble_eq_true rfl) (Nat.le_refl _) (by show 0 + A.slots.size ≤ A.slots.size; omega) (g := (mkF m 6 #[.val (.ref a), .val (.ref b)] [.null, .int (Int32.ofNat A.slots.size), .int (Int32.ofNat 0), .ref b, .ref a])) rfl (by rw [hml]; rfl) c2 (argsL := [.ref b, .int (Int32.ofNat 0), .int (Int32.ofNat A.slots.size), .null]) (rest := []) rfl rfl (by show 2 * 0 + 0 ≤ _; decide) (hb hbytes d6) (⟨rfl, hB.mv X0.warmed.alike hh0, f1.al X0.warmed.alike, f2.al X0.warmed.alike, hA.mv X0.warmed.alike hh0, s1.there X0.warmed.alike hh0, hz, l0, by omega, l2, fun i hi => by rw [Nat.zero_add]; exact hp i hi⟩)
  have e0 := Got.mv _ s₁ s _ _ hh0.symm (Vm.Alike.refl _) rfl E3
  obtain rfl := e0.1
  have c4 : Steps p.tables e below (s₁.setTop (entryFrame m #[.ref a, .ref b] 2)) (T3.setTop (mkF m 9 #[.val (.ref a), .val (.ref b)] [])) := g3
  exact ⟨T3, none, _, _, _, X3, by simp, rfl, by omega, (fun _ => rfl), e0, fun fs hl => c4.trans (X3.returnOut hexec hret (hb hbytes d9) hl)⟩
theorem pays {l : Launch} {R : Room} {p : Program} {e : Env} {below : List Frame} {s : State} {sargs : Array Value} {len W : Nat} (a : Addr) (D : Cell) (fV fC : Field) (b : Addr) (A : Cell) (z : Int32) (htab : tab.before sargs s = true) (hfr : 4 ≤ R.frames) (hlo : W + 65 ≤ R.locals) :
    Back l R p e below s sargs yN len W (fun A₁ a₁ => A₁.cells + 1 ≤ R.cells ∧ A₁.slots + A.slots.size ≤ R.slots ∧ P a D fV fC b A z a₁ A₁.U) (fun A₁ _ v₁ B₁ => E a D fV fC A v₁ A₁.U B₁.U ∧ B₁.locs = A₁.locs ++ [⟨a, fC.slot⟩, ⟨a, fV.slot⟩] ∧ B₁.cells = A₁.cells + 1 ∧ B₁.slots = A₁.slots + A.slots.size) :=
  (law l a D fV fC b A z).pays htab hfr (by omega)
end New1
end StrChars
namespace StrChars.Road
open Jvm Sem ClassFile Op Lib Jvm.Stand Jvm.Free Jvm.Free.XT
open Jvm.Lib.Cold (StaticIs)
abbrev ST : String := "java/lang/String"
/-- every table word that New1's law asks, flat -/
abbrev words : List Jvm.Cond := [.code New1.yN New1.yB 2 none, .initialized ST, .methodLink ST 27 New4.yN, .instanceMethod New4.yN,
  .code New4.yN New4.yB 6 none, .fieldLink ST 38 ST "COMPACT_STRINGS" "Z", .laysFinal ST ST "value" "[B", .fieldLink ST 9 ST "value" "[B", .laysFinal ST ST "coder" "B", .fieldLink ST 15 ST "coder" "B",
  .methodLink ST 1 Lib.objectInit, .instanceMethod Lib.objectInit, .code Lib.objectInit ⟨#[0xb1]⟩ 1 none, .methodLink ST 177 Cmp3.yN, .static Cmp3.yN, .methodLink ST 47 CodL.yN, .static CodL.yN,
  .code Cmp3.yN Cmp3.yB 6 (some (.array .byte)), .initialized U16, .arrayClass .byte, .methodLink U16 115 Cmp5.yN, .static Cmp5.yN, .code Cmp5.yN Cmp5.yB 7 (some .int), .code CodL.yN CodL.yB 2 (some .byte)]
theorem tab_of {a : Array Value} {s : State} (h : ∀ w ∈ words, w.before a s = true) : New1.tab.before a s = true := by
  have h5 : Cmp5.tab.before a s = true := unparts (wk h (.code Cmp5.yN Cmp5.yB 7 (some .int))) (wks h (.initialized Cmp5.yN.cls :: Cmp5.site))
  have hc : CodL.tab.before a s = true := unparts (wk h (.code CodL.yN CodL.yB 2 (some .byte))) (wks h (.initialized CodL.yN.cls :: CodL.site))
  have q5 : ∀ w ∈ Cmp5.tab :: words, w.before a s = true := fun w hw => (List.mem_cons.mp hw).elim (fun e => e ▸ h5) (h w)
  have h3 : Cmp3.tab.before a s = true := unparts (wk q5 (.code Cmp3.yN Cmp3.yB 6 (some (.array .byte)))) (wks q5 (.initialized Cmp3.yN.cls :: Cmp3.site))
  have q3 : ∀ w ∈ Cmp3.tab :: CodL.tab :: words, w.before a s = true := fun w hw => (List.mem_cons.mp hw).elim (fun e => e ▸ h3) fun hw => (List.mem_cons.mp hw).elim (fun e => e ▸ hc) (h w)
  have h4 : New4.tab.before a s = true := unparts (wk q3 (.code New4.yN New4.yB 6 none)) (wks q3 (.initialized New4.yN.cls :: New4.site))
  have q4 : ∀ w ∈ New4.tab :: words, w.before a s = true := fun w hw => (List.mem_cons.mp hw).elim (fun e => e ▸ h4) (h w)
  exact unparts (wk q4 (.code New1.yN New1.yB 2 none)) (wks q4 (.initialized New1.yN.cls :: New1.site))
/-- the words ride from the start Z to the walk's own state -/
theorem moved {Z s : State} {a0 args : Array Value} (hZ : Z.Warmed39 s.vm) (hw : ∀ d ∈ words, d.before a0 Z = true) : ∀ d ∈ words, d.before args s = true := fun d hd => by
  have q := hw d hd
  have t : ∀ d ∈ words, d = .arrayClass .byte ∨ (d.onTables && d.keepsFace) = true := by decide +kernel
  rcases t d hd with rfl | t
  · exact RoadKit.mvA hZ q
  · exact RoadKit.mv hZ q t
/-- WHAT COMES BACK, over the tables of the start Z: h the heap at the call, h' behind it -/
def Q (Z : State) (x : Addr) (A : Cell) (h : Heap) (v : Option Value) (h' : Heap) (L : List Loc) : Prop := v = none ∧ (∀ y ∈ L, y.base = x) ∧ RoadKit.Keep h h' [x] ∧ h'.size = h.size + 1 ∧ RoadKit.Exa Z h' x ST ∧ RoadKit.Fld Z h' x ST "value" "[B" (.ref h.size) ∧ RoadKit.Fld Z h' x ST "coder" "B" (.int 0) ∧
  (∃ V : Cell, RoadKit.Arr Z h' h.size V .byte ∧ V.vm = .none ∧ Z.vm.findClass "[B" = some V.cls ∧ V.slots.size = A.slots.size ∧ ∀ j, j < A.slots.size → V.slots[j]? = some (.int (lo8 (cv A j)))) ∧
  ∀ (O n d : String) (w : Value), RoadKit.Fld Z h x O n d w → RoadKit.slotOf Z O n d ≠ RoadKit.slotOf Z ST "value" "[B" → RoadKit.slotOf Z O n d ≠ RoadKit.slotOf Z ST "coder" "B" → RoadKit.Fld Z h' x O n d w
/-- **new String(chars) AT A CALL, IN THE ROAD'S FORM**: for specialBack behind newO: x the fresh String, b the char[] with the cell A -/
theorem back {p : Program} {l : Launch} {e : Env} {R : Room} {s : State} {args : Array Value} {below : List Frame} {len W : Nat} {Z : State} {a0 : Array Value} {h : Heap} (hZ : Z.Warmed39 s.vm) (hw : ∀ d ∈ words, d.before a0 Z = true) {kI : Nat} (wi : (Jvm.Cond.instantiable ST kI).before a0 Z = true)
    {x b : Addr} {A : Cell} {z : Int32} {v0 c0 : Value} (E : RoadKit.Exa Z h x ST) (V : RoadKit.Fld Z h x ST "value" "[B" v0) (C : RoadKit.Fld Z h x ST "coder" "B" c0) (K : RoadKit.Arr Z h b A .char) (hty : Typed .char A) (S : RoadKit.Sta Z h ST "COMPACT_STRINGS" "Z" (.int z)) (hz : ¬ z = 0)
    (l0 : 0 < A.slots.size) (l2 : A.slots.size ≤ 536870912) (hp : ∀ i, i < A.slots.size → ¬ 255 < cv A i) (hfr : 4 ≤ R.frames) (hlo : W + 65 ≤ R.locals) :
    Back l R p e below s args New1.yN len W (fun P a => a = #[.ref x, .ref b] ∧ P.U.heap = h ∧ P.cells + 1 ≤ R.cells ∧ P.slots + A.slots.size ≤ R.slots)
      (fun P _ v B => ∃ L, Q Z x A h v B.U.heap L ∧ B.locs = P.locs ++ L ∧ B.cells = P.cells + 1 ∧ B.slots = P.slots + A.slots.size) := by
  intro m meth c P g ig mk a X hg hsize hdg hW hn hp'
  obtain ⟨rfl, rfl, r1, r2⟩ := hp'
  have al : Z.vm.Alike P.U.vm := hZ.alike.trans X.warmed.alike
  obtain ⟨D, cfV, kV, iV, fV, hD, gV, stV, knV, obV, asV, slV⟩ := id V
  obtain ⟨D', cfC, kC, iC, fC, hD', gC, stC, -, -, asC, slC⟩ := id C
  cases hD.symm.trans hD'
  obtain ⟨D2, kD, e1, e2, e3, e4, e5⟩ := id E
  cases hD.symm.trans e1
  obtain ⟨c2, k2, i1, i2, i3, -⟩ := Cond.instantiable_spec wi
  cases e2.symm.trans i1
  cases e3.symm.trans i2
  obtain ⟨kU, u1, u2⟩ := al.2.2 _ _ e3
  have hB : Blank ST x D P.U := ⟨hD, ⟨knV, fun q hq => by rw [hq] at obV; cases obV⟩, by rw [al.findClass]; exact e2, kU, u1, by rw [u2]; exact i3, by rw [u2]; exact e5 i3⟩
  have F1 : Found ST "value" "[B" fV P.U := ⟨SBG.found_only al ⟨cfV, kV, iV, gV⟩, stV⟩
  have F2 : Found ST "coder" "B" fC P.U := ⟨SBG.found_only al ⟨cfC, kC, iC, gC⟩, stC⟩
  have hA : Ch b A P.U := ⟨⟨K.1, State.isArrayOf_alike al K.2.1, K.2.2, by omega⟩, hty⟩
  have hS : StaticIs P.U ST "COMPACT_STRINGS" "Z" (.int z) := by
    obtain ⟨cfS, iS, kS, fS, st, cS, t1, t2, t3, t4, t5, t6, t7⟩ := S
    exact StaticIs.there (s := { Z with heap := P.U.heap }) ⟨cfS, iS, kS, fS, st, cS, t1, t2, t3, t4, t5, (fun q => by rw [q] at t6; cases t6), t7⟩ al rfl
  obtain ⟨v, B, X', ⟨⟨hv, E', V', q1, q2, q3, q4, q5, q6, q7, q8, q9, q10, q11⟩, hl, hc, hs⟩, st⟩ := New1.pays x D fV fC b A z (tab_of (moved hZ hw)) hfr hlo m meth c P g ig mk _ X hg hsize hdg hW hn ⟨r1, r2, rfl, hB, F1, F2, hA, hS, hz, l0, l2, hp⟩
  have al' : Z.vm.Alike B.U.vm := hZ.alike.trans X'.warmed.alike
  have hsz : E'.slots.size = D.slots.size := by
    obtain ⟨-, -, -, kB, w1, w2, w3⟩ := q1
    obtain ⟨kB', y1, y2⟩ := al'.2.2 _ _ e3
    rw [q2.2.1] at w1
    cases w1.symm.trans y1
    rw [w3, e5 i3, y2]
  refine ⟨v, B, X', ⟨_, ⟨hv, ?_, ⟨by omega, fun y cy hy hn' => q10 y cy (by simpa using hn') hy, fun y cy hy => ?_⟩, q11, ⟨E', _, q1.1, by rw [q2.2.1]; exact e2, by rw [q2.2.1]; exact e3, by rw [q2.1]; exact obV, fun _ => by rw [hsz]; exact e5 i3⟩,
    ⟨E', cfV, kV, iV, fV, q1.1, gV, stV, by rw [q2.1]; exact knV, by rw [q2.1]; exact obV, by rw [q2.2.1]; exact asV, q3⟩, ⟨E', cfC, kC, iC, fC, q1.1, gC, stC, by rw [q2.1]; exact knV, by rw [q2.1]; exact obV, by rw [q2.2.1]; exact asC, q4⟩,
    ⟨V', ⟨q5.1, State.isArrayOf_alike al'.symm q5.2.1, q5.2.2.1⟩, q6, by rw [← al'.findClass]; exact q7, q8, fun j hj => by have := q9 j hj; rwa [Nat.zero_add] at this⟩, fun O n d w F n1 n2 => ?_⟩, hl, hc, hs⟩, st⟩
  · intro y hy
    simp only [List.mem_cons, List.not_mem_nil, or_false] at hy
    rcases hy with rfl | rfl <;> rfl
  · by_cases q : y = x
    · subst q
      cases hD.symm.trans hy
      exact ⟨E', q1.1, q2.2.1, q2.1, hsz⟩
    · exact ⟨cy, q10 y cy q hy, rfl, rfl, rfl⟩
  · obtain ⟨D3, cf, k, i, f, g1, g2, g3, g4, g5, g6, g7⟩ := F
    cases hD.symm.trans g1
    simp only [RoadKit.slotOf, g2, gV, gC, Option.map_some, Option.getD_some] at n1 n2
    exact ⟨E', cf, k, i, f, q1.1, g2, g3, by rw [q2.1]; exact g4, by rw [q2.1]; exact g5, by rw [q2.2.1]; exact g6, by rw [q2.2.2 f.slot (by simp [n1, n2])]; exact g7⟩
end StrChars.Road
namespace StrChars.Road
open Jvm Sem ClassFile Op Lib Jvm.Stand Jvm.Free Jvm.Free.XT
/-- WHAT COMES BACK, the byte[] as a list of values -/
def QA (Z : State) (x : Addr) (zn : Int32) (cs : List Int32) (h : Heap) (v : Option Value) (h' : Heap) (L : List Loc) : Prop := v = none ∧ (∀ y ∈ L, y.base = x) ∧ RoadKit.Keep h h' [x] ∧ h'.size = h.size + 1 ∧ RoadKit.Exa Z h' x ST ∧ RoadKit.Fld Z h' x ST "value" "[B" (.ref h.size) ∧ RoadKit.Fld Z h' x ST "coder" "B" (.int 0) ∧
  (∃ kb, Z.vm.findClass "[B" = some kb ∧ RoadKit.Arv Z h' h.size kb .byte zn (cs.map fun c => .int (lo8 c)) (.int 0)) ∧
  ∀ (O n d : String) (w : Value), RoadKit.Fld Z h x O n d w → RoadKit.slotOf Z O n d ≠ RoadKit.slotOf Z ST "value" "[B" → RoadKit.slotOf Z O n d ≠ RoadKit.slotOf Z ST "coder" "B" → RoadKit.Fld Z h' x O n d w
/-- **new String(chars) AT A CALL, THE ARRAYS AS LISTS**: the char[] at b holds cs, not empty, no char above 255 -/
theorem backArv {p : Program} {l : Launch} {e : Env} {R : Room} {s : State} {args : Array Value} {below : List Frame} {len W : Nat} {Z : State} {a0 : Array Value} {h : Heap} (hZ : Z.Warmed39 s.vm) (hw : ∀ d ∈ words, d.before a0 Z = true) {kI : Nat} (wi : (Jvm.Cond.instantiable ST kI).before a0 Z = true)
    {x b : Addr} {k : ClassId} {zn z : Int32} {cs : List Int32} {dv v0 c0 : Value} (E : RoadKit.Exa Z h x ST) (V : RoadKit.Fld Z h x ST "value" "[B" v0) (C : RoadKit.Fld Z h x ST "coder" "B" c0) (K : RoadKit.Arv Z h b k .char zn (cs.map Value.int) dv) (S : RoadKit.Sta Z h ST "COMPACT_STRINGS" "Z" (.int z)) (hz : ¬ z = 0)
    (hlen : zn.toNatClampNeg = cs.length) (h0 : 0 < cs.length) (hbig : cs.length ≤ 536870912) (hall : ∀ c ∈ cs, ¬ 255 < c) (hfr : 4 ≤ R.frames) (hlo : W + 65 ≤ R.locals) :
    Back l R p e below s args New1.yN len W (fun P a => a = #[.ref x, .ref b] ∧ P.U.heap = h ∧ P.cells + 1 ≤ R.cells ∧ P.slots + cs.length ≤ R.slots)
      (fun P _ v B => ∃ L, QA Z x zn cs h v B.U.heap L ∧ B.locs = P.locs ++ L ∧ B.cells = P.cells + 1 ∧ B.slots = P.slots + cs.length) := by
  obtain ⟨A, K1, K2, K3, K4, K5, K6⟩ := K
  have e : A.slots.size = cs.length := K3.trans hlen
  have hat : ∀ (i : Nat) (hi : i < cs.length), A.slots[i]? = some (.int cs[i]) := fun i hi => by rw [K5 i (by omega)]; simp [List.getD_eq_getElem?_getD, hi]
  have hcv : ∀ (i : Nat) (hi : i < cs.length), cv A i = cs[i] := fun i hi => by unfold cv; rw [hat i hi]
  have hty : Typed .char A := fun i v hv => by
    have hi : i < A.slots.size := (Array.getElem?_eq_some_iff.mp hv).1
    have q := K5 i hi
    rw [hv] at q
    rw [Option.some.inj q]
    exact K6 i hi
  refine Back.mono (back hZ hw wi E V C K1 hty S hz (by omega) (by omega) (fun i hi => by rw [hcv i (by omega)]; exact hall _ (List.getElem_mem _)) hfr hlo) (fun P a hp => ⟨hp.1, hp.2.1, hp.2.2.1, by rw [e]; exact hp.2.2.2⟩) (fun P a v B hp hq => ?_)
  obtain ⟨L, ⟨q1, q2, q3, q4, q5, q6, q7, ⟨V', v1, v2, v3, v4, v5⟩, q9⟩, hl, hc, hs⟩ := hq
  refine ⟨L, ⟨q1, q2, q3, q4, q5, q6, q7, ⟨V'.cls, v3, V', v1, rfl, by rw [v4, e, hlen], K4, fun i hi => ?_, fun i hi => ?_⟩, q9⟩, hl, hc, by rw [hs, e]⟩
  · have hi' : i < cs.length := by omega
    rw [v5 i (by omega), hcv i hi']; simp [List.getD_eq_getElem?_getD, hi']
  · have hi' : i < cs.length := by omega
    simp only [List.getD_eq_getElem?_getD, List.getElem?_map, List.getElem?_eq_getElem hi', Option.map_some, Option.getD_some]
    exact fits_lo8 _
end StrChars.Road
namespace StrChars.Road
open Jvm Sem ClassFile Op Lib Jvm.Stand Jvm.Free Jvm.Free.XT
/-- WHAT COMES BACK, in the writer's own shape -/
def QV (Z : State) (x : Addr) (N : Int32) (bs : List Int32) (h : Heap) (n0 : Nat) (v : Option Value) (h' : Heap) (L : List Loc) : Prop := v = none ∧ RoadKit.Fr n0 L ∧ RoadKit.Keep h h' [x] ∧ RoadKit.Exa Z h' x ST ∧ RoadKit.Fld Z h' x ST "coder" "B" (.int 0) ∧
  ∃ (t : Addr) (kb : ClassId), n0 ≤ t ∧ h.size ≤ t ∧ ¬ t = x ∧ RoadKit.Fld Z h' x ST "value" "[B" (.ref t) ∧ RoadKit.Arv Z h' t kb .byte N (bs.map Value.int) (.int 0)
/-- **new String(chars) AT A CALL, FOR THE WRITER**: a char[] of n known ints, each 0 to 255 -/
theorem backV {p : Program} {l : Launch} {e : Env} {R : Room} {s : State} {args : Array Value} {below : List Frame} {len W : Nat} {Z : State} {a0 : Array Value} {h : Heap} (hZ : Z.Warmed39 s.vm) (hw : ∀ d ∈ words, d.before a0 Z = true) {kI : Nat} (wi : (Jvm.Cond.instantiable ST kI).before a0 Z = true)
    {x b : Addr} {kC : ClassId} {cs bs : List Int32} {d v0 c0 : Value} {z N : Int32} {n n0 : Nat} (hx0 : n0 ≤ x) (hh0 : n0 ≤ h.size) (E : RoadKit.Exa Z h x ST) (V : RoadKit.Fld Z h x ST "value" "[B" v0) (C : RoadKit.Fld Z h x ST "coder" "B" c0) (K : RoadKit.Arv Z h b kC .char N (cs.map Value.int) d) (S : RoadKit.Sta Z h ST "COMPACT_STRINGS" "Z" (.int z)) (hz : ¬ z = 0)
    (hn : cs.length = n) (hN : N = Int32.ofNat n) (l0 : 0 < n) (l2 : n ≤ 4000) (hp : ∀ c ∈ cs, ¬ c < 0 ∧ ¬ (255 : Int32) < c) (hb : bs = cs.map (fun c => c.toInt8.toInt32)) (hfr : 4 ≤ R.frames) (hlo : W + 65 ≤ R.locals) :
    Back l R p e below s args (⟨"java/lang/String", "<init>", "([C)V"⟩ : MethodName) len W (fun P a => a = #[.ref x, .ref b] ∧ P.U.heap = h ∧ P.cells + 1 ≤ R.cells ∧ P.slots + n ≤ R.slots)
      (fun P _ v B => ∃ L, QV Z x N bs h n0 v B.U.heap L ∧ B.locs = P.locs ++ L ∧ B.cells = P.cells + 1 ∧ B.slots = P.slots + n) := by
  subst hn hN hb
  refine Back.mono (backArv hZ hw wi E V C K S hz (n32 (by omega)) l0 (by omega) (fun c hc => (hp c hc).2) hfr hlo) (fun P a hp => hp) (fun P a v B hp hq => ?_)
  obtain ⟨L, ⟨q1, q2, q3, q4, q5, q6, q7, ⟨kb, v1, v2⟩, q9⟩, hl, hc, hs⟩ := hq
  exact ⟨L, ⟨q1, fun y hy => by rw [q2 y hy]; exact hx0, q3, q5, q7, h.size, kb, hh0, Nat.le_refl _, Nat.ne_of_gt E.lt, q6, by rw [List.map_map]; exact v2⟩, hl, hc, hs⟩
end StrChars.Road
namespace StrChars
open Jvm Sem ClassFile Op Lib Jvm.Stand Jvm.Free.XT Jvm.Free.ALB Jvm.Free.JM Jvm.Free
open Jvm.Lib.Cold (StaticIs)
def hi8 (x : Int32) : Int32 := lo8 (x >>> ((8 : Int32) &&& 31))
end StrChars
namespace StrChars
open Jvm Sem ClassFile Op Lib Jvm.Stand Jvm.Free.XT Jvm.Free.ALB Jvm.Free.JM Jvm.Free
open Jvm.Lib.Cold (StaticIs)
/-- the array's cell V codes the n chars f 0 .. f (n - 1) by the coder cd, as the JDK does: coder 1 just where some char is above 255 -/
def Cod (cd : Int32) (n : Nat) (f : Nat → Int32) (V : Cell) : Prop := (cd = 0 ∧ V.slots.size = n ∧ ∀ j, j < n → V.slots[j]? = some (.int (lo8 (f j))) ∧ ¬ 255 < f j) ∨ (cd = 1 ∧ V.slots.size = 2 * n ∧ (∀ j, j < n → V.slots[2 * j]? = some (.int (lo8 (f j))) ∧ V.slots[2 * j + 1]? = some (.int (hi8 (f j)))) ∧ ∃ j, j < n ∧ 255 < f j)
/-- **x is a String of the n chars f 0 .. f (n - 1)**, Latin-1 or UTF-16; its array at t has the cell V -/
def Txt (x t : Addr) (V : Cell) (cd : Int32) (n : Nat) (f : Nat → Int32) (U : State) : Prop := Exact "java/lang/String" x U ∧ Has x "java/lang/String" "value" "[B" (.ref t) U ∧ Has x "java/lang/String" "coder" "B" (.int cd) U ∧ XT.Arr .byte t V U ∧ Cod cd n f V ∧ ∀ j, j < n → ¬ f j < 0 ∧ ¬ 65535 < f j
theorem Txt.mv {x t : Addr} {V : Cell} {cd : Int32} {n : Nat} {f : Nat → Int32} {U U' : State} (h : Txt x t V cd n f U) (hal : U.vm.Alike U'.vm) (hh : U'.heap = U.heap) : Txt x t V cd n f U' := ⟨h.1.mv hal hh, h.2.1.mv hal hh, h.2.2.1.mv hal hh, h.2.2.2.1.mv hal hh, h.2.2.2.2⟩
end StrChars
namespace StrChars.Road
open Jvm Sem ClassFile Op Lib Jvm.Stand Jvm.Free Jvm.Free.XT
open Jvm.Lib.Cold (StaticIs)
/-- the bytes of the chars cs, low before high -/
def wideBytes : List Int32 → List Value
  | [] => []
  | c :: cs => .int (lo8 c) :: .int (hi8 c) :: wideBytes cs
theorem wide_lo (d : Value) : ∀ (cs : List Int32) (j : Nat), j < cs.length → (wideBytes cs).getD (2 * j) d = .int (lo8 (cs.getD j 0))
  | [], j, h => absurd h (Nat.not_lt_zero j)
  | c :: cs, 0, _ => rfl
  | c :: cs, j + 1, h => by
    have q := wide_lo d cs j (by simpa using h)
    rw [show 2 * (j + 1) = 2 * j + 1 + 1 from by omega]
    simpa [wideBytes] using q
theorem wide_hi (d : Value) : ∀ (cs : List Int32) (j : Nat), j < cs.length → (wideBytes cs).getD (2 * j + 1) d = .int (hi8 (cs.getD j 0))
  | [], j, h => absurd h (Nat.not_lt_zero j)
  | c :: cs, 0, _ => rfl
  | c :: cs, j + 1, h => by
    have q := wide_hi d cs j (by simpa using h)
    rw [show 2 * (j + 1) + 1 = 2 * j + 1 + 1 + 1 from by omega]
    simpa [wideBytes] using q
theorem low_at (d : Value) (cs : List Int32) (j : Nat) (h : j < cs.length) : (cs.map fun c => Value.int (lo8 c)).getD j d = .int (lo8 (cs.getD j 0)) := by
  simp [List.getD_eq_getElem?_getD, h]
/-- an array of N2 bytes vs codes the chars cs by the coder cd -/
def CodA (cs : List Int32) (cd N2 : Int32) (vs : List Value) : Prop := (cd = 0 ∧ N2 = Int32.ofNat cs.length ∧ vs = (cs.map fun c => Value.int (lo8 c)) ∧ ∀ c ∈ cs, ¬ 255 < c) ∨ (cd = 1 ∧ N2 = Int32.ofNat (2 * cs.length) ∧ vs = wideBytes cs ∧ ∃ c ∈ cs, 255 < c)
theorem CodA.cod {cs : List Int32} {cd N2 : Int32} {vs : List Value} {V : Cell} (h : CodA cs cd N2 vs) (hn : 2 * cs.length < 2 ^ 31) (hs : V.slots.size = N2.toNatClampNeg) (hv : RoadKit.Has V vs (.int 0)) : Cod cd cs.length (fun j => cs.getD j 0) V := by
  rcases h with ⟨rfl, rfl, rfl, h⟩ | ⟨rfl, rfl, rfl, c, hc, hw⟩
  · rw [n32 (by omega)] at hs
    exact Or.inl ⟨rfl, hs, fun j hj => ⟨by rw [hv j (by omega), low_at _ _ _ hj], by
      have e : cs.getD j 0 = cs[j] := by simp [List.getD_eq_getElem?_getD, hj]
      show ¬ 255 < cs.getD j 0
      rw [e]; exact h _ (List.getElem_mem _)⟩⟩
  · rw [n32 (by omega)] at hs
    obtain ⟨j, hj, rfl⟩ := List.getElem_of_mem hc
    exact Or.inr ⟨rfl, hs, fun j hj => ⟨by rw [hv _ (by omega), wide_lo _ _ _ hj], by rw [hv _ (by omega), wide_hi _ _ _ hj]⟩, j, hj, by
      have e : cs.getD j 0 = cs[j] := by simp [List.getD_eq_getElem?_getD, hj]
      show 255 < cs.getD j 0
      rw [e]; exact hw⟩
/-- an object of exactly java/lang/String, its two fields found: as the laws ask it -/
theorem strObj {Z U : State} {a0 : Array Value} {kI : Nat} (wi : (Jvm.Cond.instantiable ST kI).before a0 Z = true) (al : Z.vm.Alike U.vm) {x : Addr} {v0 c0 : Value} (E : RoadKit.Exa Z U.heap x ST) (V : RoadKit.Fld Z U.heap x ST "value" "[B" v0) (C : RoadKit.Fld Z U.heap x ST "coder" "B" c0) :
    ∃ (D : Cell) (fV fC : Field), Blank ST x D U ∧ Found ST "value" "[B" fV U ∧ Found ST "coder" "B" fC U ∧ D.slots[fV.slot]? = some v0 ∧ D.slots[fC.slot]? = some c0 ∧ RoadKit.slotOf Z ST "value" "[B" = fV.slot ∧ RoadKit.slotOf Z ST "coder" "B" = fC.slot := by
  obtain ⟨D, cfV, kV, iV, fV, hD, gV, stV, knV, obV, asV, slV⟩ := V
  obtain ⟨D', cfC, kC, iC, fC, hD', gC, stC, -, -, asC, slC⟩ := C
  cases hD.symm.trans hD'
  obtain ⟨D2, kD, e1, e2, e3, e4, e5⟩ := E
  cases hD.symm.trans e1
  obtain ⟨c2, k2, i1, i2, i3, -⟩ := Cond.instantiable_spec wi
  cases e2.symm.trans i1
  cases e3.symm.trans i2
  obtain ⟨kU, u1, u2⟩ := al.2.2 _ _ e3
  exact ⟨D, fV, fC, ⟨hD, ⟨knV, fun q hq => by rw [hq] at obV; cases obV⟩, by rw [al.findClass]; exact e2, kU, u1, by rw [u2]; exact i3, by rw [u2]; exact e5 i3⟩, ⟨SBG.found_only al ⟨cfV, kV, iV, gV⟩, stV⟩, ⟨SBG.found_only al ⟨cfC, kC, iC, gC⟩, stC⟩, slV, slC, by simp [RoadKit.slotOf, gV], by simp [RoadKit.slotOf, gC]⟩
end StrChars.Road
namespace StrChars
open Jvm Sem ClassFile Op Lib Jvm.Stand Jvm.Free.XT Jvm.Free.ALB Jvm.Free.JM Jvm.Free
open Jvm.Lib.Cold (StaticIs)
namespace Emp
def yN : MethodName := ⟨"java/lang/String", "isEmpty", "()Z"⟩
abbrev yB : ByteArray := jdk_42_method_55_code
theorem d0 : decode yB 0 = .ok (.aload_n 0, 1) := by decide +kernel
theorem d1 : decode yB 1 = .ok (.getfield 9, 3) := by decide +kernel
theorem d4 : decode yB 4 = .ok (.arraylength, 1) := by decide +kernel
theorem d5 : decode yB 5 = .ok (.ifCond (.ne) 7, 3) := by decide +kernel
theorem d8 : decode yB 8 = .ok (.iconst 1, 1) := by decide +kernel
theorem d9 : decode yB 9 = .ok (.goto 4, 3) := by decide +kernel
theorem d12 : decode yB 12 = .ok (.iconst 0, 1) := by decide +kernel
theorem d13 : decode yB 13 = .ok (.ireturn, 1) := by decide +kernel
def site : List Cond := [.fieldLink "java/lang/String" 9 "java/lang/String" "value" "[B"]
def tab : Cond := tabOf yN yB 1 (some .boolean) site
def P (x t : Addr) (V : Cell) (cd : Int32) (n : Nat) (f : Nat → Int32) (args : Array Value) (s : State) : Prop := args = #[.ref x] ∧ Txt x t V cd n f s
def E (n : Nat) (r : Option Value) (s u : State) : Prop := XT.PureE (some (.int (if n = 0 then 1 else 0))) r s u
/-- isEmpty() of a String of n chars -/
theorem law (l : Launch) (x t : Addr) (V : Cell) (cd : Int32) (n : Nat) (f : Nat → Int32) : Law l yN 1 0 0 0 yB 1 (some .boolean) site (P x t V cd n f) (E n) [] 0 0 := by
  refine Law.of_walk (plainFor_of_name (by decide +kernel)) (by decide +kernel) (by decide +kernel) (by decide) (fun _ _ h => by rw [h.1]; rfl) (fun _ U U' hal hh h => ⟨h.1, h.2.mv hal hh⟩) (fun r U U' V V' h1 hal h2 h => XT.PureE.mv r U U' V V' h1 hal h2 h) ?_
  intro p e s m args below meth c s₁ X0 hexec hbytes hml hret hlk hnm hown hh0 W hP
  obtain ⟨rfl, hx⟩ := hP
  have v31 := hx.2.2.2.1.2.2.2
  have c1 : Steps p.tables e below (s₁.setTop (entryFrame m #[.ref x] 1)) (s₁.setTop (mkF m 1 #[.val (.ref x)] [.ref x])) := Steps.trans (entry rfl) (by
    show Steps p.tables e below (s₁.setTop (mkF m 0 #[.val (.ref x)] [])) _
    refine XS.aloadN X0.here hexec rfl (hb hbytes d0) rfl rfl ?_
    exact Steps.refl _)
  obtain ⟨T2, X2, q2, st2⟩ := X0.hget hexec hown (wk W (.fieldLink "java/lang/String" 9 "java/lang/String" "value" "[B")) (hx.mv X0.warmed.alike hh0).2.1 (g := (mkF m 1 #[.val (.ref x)] [.ref x])) rfl (rest := []) rfl (hb hbytes d1)
  have hh2 := q2.trans hh0
  have hx2 := hx.mv X2.warmed.alike hh2
  have c3 : Steps p.tables e below (s₁.setTop (entryFrame m #[.ref x] 1)) (T2.setTop (mkF m 5 #[.val (.ref x)] [.int (Int32.ofNat V.slots.size)])) := (c1.trans (st2 _ (Steps.refl _))).trans (by
    refine X2.alen hexec hx2.2.2.2.1 rfl rfl (hb hbytes d4) ?_
    exact Steps.refl _)
  have hz : V.slots.size = 0 ↔ n = 0 := by
    rcases hx.2.2.2.2.1 with ⟨-, q, -⟩ | ⟨-, q, -⟩ <;> omega
  by_cases h0 : n = 0
  · have c4 : Steps p.tables e below (s₁.setTop (entryFrame m #[.ref x] 1)) (T2.setTop (mkF m 13 #[.val (.ref x)] [.int 1])) := c3.trans (by
      refine XS.ifNo X2.here hexec rfl (hb hbytes d5) rfl (i0_ne_f (by rw [hz.mpr h0]; rfl)) ?_
      refine iconstV X2.here hexec rfl 1 (hb hbytes d8) (by decide) ?_
      refine XS.goto X2.here hexec rfl (pc0 := 9) rfl (hb hbytes d9) (by decide) rfl ?_
      exact Steps.refl _)
    exact ⟨T2, some (.int 1), _, _, _, X2, rfl, rfl, rfl, (fun h => by cases h), ⟨by rw [if_pos h0], hh2⟩, fun fs hl => c4.trans (X2.ireturnOut hexec hret rfl (Or.inr (Or.inl rfl)) (hb hbytes d13) hl)⟩
  · have c4 : Steps p.tables e below (s₁.setTop (entryFrame m #[.ref x] 1)) (T2.setTop (mkF m 13 #[.val (.ref x)] [.int 0])) := c3.trans (by
      refine XS.ifYes X2.here hexec rfl (pc0 := 5) rfl (hb hbytes d5) rfl (i0_ne_t (nz32 v31 (by omega))) (by decide) rfl ?_
      refine iconstV X2.here hexec rfl 0 (hb hbytes d12) (by decide) ?_
      exact Steps.refl _)
    exact ⟨T2, some (.int 0), _, _, _, X2, rfl, rfl, rfl, (fun h => by cases h), ⟨by rw [if_neg h0], hh2⟩, fun fs hl => c4.trans (X2.ireturnOut hexec hret rfl (Or.inr (Or.inl rfl)) (hb hbytes d13) hl)⟩
theorem pays {l : Launch} {R : Room} {p : Program} {e : Env} {below : List Frame} {s : State} {sargs : Array Value} {len W : Nat} (x t : Addr) (V : Cell) (cd : Int32) (n : Nat) (f : Nat → Int32) (htab : tab.before sargs s = true) (hfr : 1 ≤ R.frames) (hlo : W + 12 ≤ R.locals) :
    Back l R p e below s sargs yN len W (fun A₁ a₁ => A₁.cells + 0 ≤ R.cells ∧ A₁.slots + 0 ≤ R.slots ∧ P x t V cd n f a₁ A₁.U) (fun A₁ _ v₁ B₁ => E n v₁ A₁.U B₁.U ∧ B₁.locs = A₁.locs ++ [] ∧ B₁.cells = A₁.cells + 0 ∧ B₁.slots = A₁.slots + 0) :=
  (law l x t V cd n f).pays htab hfr (by omega)
end Emp
end StrChars
namespace StrChars.Road
open Jvm Sem ClassFile Op Lib Jvm.Stand Jvm.Free Jvm.Free.XT
open Jvm.Lib.Cold (StaticIs)
/-- the words of String.isEmpty() -/
abbrev wordsEmp : List Jvm.Cond := [.code Emp.yN Emp.yB 1 (some .boolean), .initialized ST, .fieldLink ST 9 ST "value" "[B"]
theorem tabEmp_of {a : Array Value} {s : State} (h : ∀ w ∈ wordsEmp, w.before a s = true) : Emp.tab.before a s = true := unparts (wk h (.code Emp.yN Emp.yB 1 (some .boolean))) (wks h (.initialized Emp.yN.cls :: Emp.site))
theorem movedEmp {Z s : State} {a0 args : Array Value} (hZ : Z.Warmed39 s.vm) (hw : ∀ d ∈ wordsEmp, d.before a0 Z = true) : ∀ d ∈ wordsEmp, d.before args s = true := fun d hd => by
  have t : ∀ d ∈ wordsEmp, (d.onTables && d.keepsFace) = true := by decide +kernel
  exact RoadKit.mv hZ (hw d hd) (t d hd)
/-- the road's facts of a String, as the laws ask it -/
theorem txt_of {Z U : State} {a0 : Array Value} {kI : Nat} (wi : (Jvm.Cond.instantiable ST kI).before a0 Z = true) (al : Z.vm.Alike U.vm) {x t : Addr} {kb : ClassId} {cs : List Int32} {cd N2 : Int32} {vs : List Value} (E : RoadKit.Exa Z U.heap x ST) (V : RoadKit.Fld Z U.heap x ST "value" "[B" (.ref t)) (C : RoadKit.Fld Z U.heap x ST "coder" "B" (.int cd)) (K : RoadKit.Arv Z U.heap t kb .byte N2 vs (.int 0)) (hc : CodA cs cd N2 vs) (hb : ∀ c ∈ cs, ¬ c < 0 ∧ ¬ (65535 : Int32) < c) (l2 : cs.length ≤ 4000) :
    ∃ A, Txt x t A cd cs.length (fun j => cs.getD j 0) U := by
  obtain ⟨A, K1, K2, K3, K4, K5, K6⟩ := K
  have hcod := hc.cod (by omega) K3 K5
  obtain ⟨D, fV, fC, hB, F1, F2, g1, g2, -, -⟩ := strObj wi al E V C
  exact ⟨A, ⟨_, hB.2.2.1, D, hB.1, rfl, by cases q : D.vm <;> first | rfl | exact absurd q (hB.2.1.2 _)⟩, Has.of hB F1 g1, Has.of hB F2 g2, ⟨K1.1, State.isArrayOf_alike al K1.2.1, K1.2.2, by rcases hcod with ⟨-, q, -⟩ | ⟨-, q, -⟩ <;> omega⟩, hcod, fun j hj => by
    have e : cs.getD j 0 = cs[j] := by simp [List.getD_eq_getElem?_getD, hj]
    show ¬ cs.getD j 0 < 0 ∧ ¬ 65535 < cs.getD j 0
    rw [e]; exact hb _ (List.getElem_mem _)⟩
/-- **isEmpty() OF SUCH A STRING** -/
theorem empW {p : Program} {l : Launch} {e : Env} {R : Room} {s : State} {args : Array Value} {below : List Frame} {len W : Nat} {Z : State} {a0 : Array Value} {h : Heap} (hZ : Z.Warmed39 s.vm) (hw : ∀ d ∈ wordsEmp, d.before a0 Z = true) {kI : Nat} (wi : (Jvm.Cond.instantiable ST kI).before a0 Z = true)
    {x t : Addr} {kb : ClassId} {cs : List Int32} {cd N2 : Int32} {vs : List Value} (E : RoadKit.Exa Z h x ST) (V : RoadKit.Fld Z h x ST "value" "[B" (.ref t)) (C : RoadKit.Fld Z h x ST "coder" "B" (.int cd)) (K : RoadKit.Arv Z h t kb .byte N2 vs (.int 0)) (hc : CodA cs cd N2 vs) (hb : ∀ c ∈ cs, ¬ c < 0 ∧ ¬ (65535 : Int32) < c) (l2 : cs.length ≤ 4000) (hfr : 1 ≤ R.frames) (hlo : W + 12 ≤ R.locals) :
    Back l R p e below s args (⟨"java/lang/String", "isEmpty", "()Z"⟩ : MethodName) len W (fun P a => a = #[.ref x] ∧ P.U.heap = h ∧ P.cells + 0 ≤ R.cells ∧ P.slots + 0 ≤ R.slots)
      (fun P _ v B => ∃ L, (v = some (.int (if cs.length = 0 then 1 else 0)) ∧ L = [] ∧ B.U.heap = h) ∧ B.locs = P.locs ++ L ∧ B.cells = P.cells + 0 ∧ B.slots = P.slots + 0) := by
  intro m meth c P g ig mk a X hg hsize hdg hW hn hp'
  obtain ⟨rfl, rfl, r1, r2⟩ := hp'
  have al : Z.vm.Alike P.U.vm := hZ.alike.trans X.warmed.alike
  obtain ⟨A, hx⟩ := txt_of wi al E V C K hc hb l2
  obtain ⟨v, B, X', ⟨⟨hv, hh⟩, hl, hk, hs⟩, st⟩ := Emp.pays x t A cd cs.length (fun j => cs.getD j 0) (tabEmp_of (movedEmp hZ hw)) hfr hlo m meth c P g ig mk _ X hg hsize hdg hW hn ⟨r1, r2, rfl, hx⟩
  exact ⟨v, B, X', ⟨[], ⟨hv, rfl, hh⟩, hl, hk, hs⟩, st⟩
end StrChars.Road
namespace StrChars.Road
open Jvm Sem ClassFile Op Lib Jvm.Stand Jvm.Free Jvm.Free.XT
open Jvm.Lib.Cold (StaticIs)
/-- what backV says of its String, as the contracts of this text ask it: cs's low bytes, coder 0 -/
theorem codOf {cs : List Int32} {n : Nat} (hn : cs.length = n) (hb : ∀ c ∈ cs, ¬ 255 < c) : CodA cs 0 (Int32.ofNat n) ((cs.map lo8).map Value.int) := Or.inl ⟨rfl, by rw [hn], by simp [List.map_map, Function.comp_def], hb⟩
end StrChars.Road
end Jvm.Pilot.@@N@@

namespace Jvm.Pilot.@@N@@
open Jvm Jvm.ClassFile Sem Op Lib Jvm.Free Jvm.Stand Jvm.LawKit Jvm.RoadKit Bundle Jvm.Pilot.@@N@@.Jvm.D
section Own
variable {p : Program} {l : Launch} {e : Env} {R : Room} {s : State} {m : MethodId} {args : Array Value} {below : List Frame} {meth : Method} {c : Code} {T : State} {locs : List Loc} {cells slots : Nat}
/-- from A the run ends, and what it leaves is as Q says -/
def own_go (p : Program) (e : Env) (below : List Frame) (s : State) (Q : Option Value → Heap → List Loc → Prop) (C S : Nat) (A : State) : Prop :=
  ∃ t o, Steps p.tables e below A t ∧ t.status = .running ∧ Ended t below o ∧ ∃ v L, o = .returned v ∧ Q v t.heap L ∧ FrameEnd s o t L C S
variable {Q : Option Value → Heap → List Loc → Prop} {C S : Nat} {A B : State}
theorem own_in (h : own_go p e below s Q C S A) : ∃ t o, Steps p.tables e below A t ∧ t.status = .running ∧ Ended t below o ∧ ∃ v L, o = .returned v ∧ Q v t.heap L ∧ FrameEnd s o t L C S := h
theorem own_of (k : ∀ t, Steps p.tables e below B t → Steps p.tables e below A t) (h : own_go p e below s Q C S B) : own_go p e below s Q C S A := by
  obtain ⟨t, o, h1, h2⟩ := h
  exact ⟨t, o, k t h1, h2⟩
theorem own_lt {a b : Nat} (h : a < b) : a < b := h
theorem own_ne {a b : Nat} (h : a ≠ b) : a ≠ b := h
theorem own_use {α : Type} (X : Stand p l e R s m args below meth c T locs cells slots) {h : Heap} {g : α → JFrame} {G : State → Prop} (k : ∀ (r : α) (T' : State), Stand p l e R s m args below meth c T' locs cells slots → T'.heap = h → G (T'.setTop (g r)))
    (b : (∀ (r : α) (T' : State), Stand p l e R s m args below meth c T' locs cells slots → T'.heap = h → G (T'.setTop (g r))) → G A) : G A := b k
theorem own_ret (X : Stand p l e R s m args below meth c T locs cells slots) (hx : p.tables.exec = Jvm.exec) (hlk : meth.locks = false) {pc : Nat} {Ls : Array Slot} {w : Value} {t : FieldType} {i : Instr} {rest : List Value} (hret : meth.sig.returnType = some t) (hn : narrow t w = w)
    (hi : (i = .ireturn ∧ (t = .int ∨ t = .boolean ∨ t = .byte ∨ t = .char ∨ t = .short) ∧ ∃ z, w = .int z) ∨ (i = .lreturn ∧ t = .long ∧ ∃ z, w = .long z) ∨ (i = .dreturn ∧ t = .double ∧ ∃ z, w = .double z) ∨ (i = .freturn ∧ t = .float ∧ ∃ z, w = .float z) ∨ (i = .areturn ∧ t.isReference = true ∧ w.isRef = true))
    (hd : decode c.code pc = .ok (i, 1)) (hc : cells ≤ C) (hs : slots ≤ S) (hQ : Q (some w) T.heap locs) : own_go p e below s Q C S (T.setTop (mkF m pc Ls (w :: rest))) := by
  obtain ⟨fs, hr, hrun, hended, hW, hsame⟩ := X.leave (v := some w) (fun h => by rw [hret] at h; cases h) hlk
  exact ⟨_, _, retOut X hx hret hn hi hd hr, hrun, hended, _, _, rfl, hQ, ⟨_, rfl⟩, hW, hsame.mono hc hs⟩
theorem own_retV (X : Stand p l e R s m args below meth c T locs cells slots) (hx : p.tables.exec = Jvm.exec) (hlk : meth.locks = false) {pc : Nat} {Ls : Array Slot} (hret : meth.sig.returnType = none)
    (hd : decode c.code pc = .ok (.return_, 1)) (hc : cells ≤ C) (hs : slots ≤ S) (hQ : Q none T.heap locs) : own_go p e below s Q C S (T.setTop (mkF m pc Ls [])) := by
  obtain ⟨fs, hr, hrun, hended, hW, hsame⟩ := X.leave (v := none) (fun _ => rfl) hlk
  exact ⟨_, _, X.returnOut hx hret hd hr, hrun, hended, _, _, rfl, hQ, ⟨_, rfl⟩, hW, hsame.mono hc hs⟩
/-- the same where String constants may have been loaded -/
def own_gw (p : Program) (e : Env) (below : List Frame) (s : State) (Q : Option Value → Heap → List Loc → Prop) (C S : Nat) (A : State) : Prop :=
  ∃ t o, Steps p.tables e below A t ∧ t.status = .running ∧ Ended t below o ∧ ∃ v L, o = .returned v ∧ Q v t.heap L ∧ ReturnedEndW s o t L C S
theorem own_inw (h : own_gw p e below s Q C S A) : ∃ t o, Steps p.tables e below A t ∧ t.status = .running ∧ Ended t below o ∧ ∃ v L, o = .returned v ∧ Q v t.heap L ∧ ReturnedEndW s o t L C S := h
theorem own_ofw (k : ∀ t, Steps p.tables e below B t → Steps p.tables e below A t) (h : own_gw p e below s Q C S B) : own_gw p e below s Q C S A := by
  obtain ⟨t, o, h1, h2⟩ := h
  exact ⟨t, o, k t h1, h2⟩
theorem own_retw {vm0 : Vm} {k0 : Nat} (X : Stand p l e R (s.setVm vm0) m args below meth c T locs cells slots) (hx : p.tables.exec = Jvm.exec) (hlk : meth.locks = false) (hS : s.Since vm0 k0) (hk : k0 ≤ T.heap.size) {pc : Nat} {Ls : Array Slot} {w : Value} {t : FieldType} {i : Instr} {rest : List Value} (hret : meth.sig.returnType = some t) (hn : narrow t w = w)
    (hi : (i = .ireturn ∧ (t = .int ∨ t = .boolean ∨ t = .byte ∨ t = .char ∨ t = .short) ∧ ∃ z, w = .int z) ∨ (i = .lreturn ∧ t = .long ∧ ∃ z, w = .long z) ∨ (i = .dreturn ∧ t = .double ∧ ∃ z, w = .double z) ∨ (i = .freturn ∧ t = .float ∧ ∃ z, w = .float z) ∨ (i = .areturn ∧ t.isReference = true ∧ w.isRef = true))
    (hd : decode c.code pc = .ok (i, 1)) (hc : cells ≤ C) (hs : slots ≤ S) (hQ : Q (some w) T.heap locs) : own_gw p e below s Q C S (T.setTop (mkF m pc Ls (w :: rest))) := by
  obtain ⟨fs, hr, hrun, hended, h1, h2, h3, h4⟩ := X.leaveW hS hk (v := some w) (fun h => by rw [hret] at h; cases h) hlk
  exact ⟨_, _, retOut X hx hret hn hi hd hr, hrun, hended, _, _, rfl, hQ, h1, h2, h3, h4.mono hc hs⟩
theorem own_retVw {vm0 : Vm} {k0 : Nat} (X : Stand p l e R (s.setVm vm0) m args below meth c T locs cells slots) (hx : p.tables.exec = Jvm.exec) (hlk : meth.locks = false) (hS : s.Since vm0 k0) (hk : k0 ≤ T.heap.size) {pc : Nat} {Ls : Array Slot} (hret : meth.sig.returnType = none)
    (hd : decode c.code pc = .ok (.return_, 1)) (hc : cells ≤ C) (hs : slots ≤ S) (hQ : Q none T.heap locs) : own_gw p e below s Q C S (T.setTop (mkF m pc Ls [])) := by
  obtain ⟨fs, hr, hrun, hended, h1, h2, h3, h4⟩ := X.leaveW hS hk (v := none) (fun _ => rfl) hlk
  exact ⟨_, _, X.returnOut hx hret hd hr, hrun, hended, _, _, rfl, hQ, h1, h2, h3, h4.mono hc hs⟩
/-- the same, with what the JVM holds for the constants of EL -/
def own_gc (p : Program) (e : Env) (below : List Frame) (s : State) (Z : State) (EL : List (String × Nat)) (Q : Option Value → Heap → List Loc → Prop) (C S : Nat) (A : State) : Prop :=
  ∃ t o, Steps p.tables e below A t ∧ t.status = .running ∧ Ended t below o ∧ ∃ v L, o = .returned v ∧ Q v t.heap L ∧ CHr Z EL s.vm s.heap t.vm t.heap ∧ ReturnedEndW s o t L C S
variable {Z : State} {EL : List (String × Nat)} {a0 : Array Value}
theorem own_inc (h : own_gc p e below s Z EL Q C S A) : ∃ t o, Steps p.tables e below A t ∧ t.status = .running ∧ Ended t below o ∧ ∃ v L, o = .returned v ∧ Q v t.heap L ∧ CHr Z EL s.vm s.heap t.vm t.heap ∧ ReturnedEndW s o t L C S := h
theorem own_ofc (k : ∀ t, Steps p.tables e below B t → Steps p.tables e below A t) (h : own_gc p e below s Z EL Q C S B) : own_gc p e below s Z EL Q C S A := by
  obtain ⟨t, o, h1, h2⟩ := h
  exact ⟨t, o, k t h1, h2⟩
theorem own_retc {vm0 : Vm} {k0 : Nat} (X : Stand p l e R (s.setVm vm0) m args below meth c T locs cells slots) (hx : p.tables.exec = Jvm.exec) (hlk : meth.locks = false) (hS : s.Since vm0 k0) (hk : k0 ≤ T.heap.size) (hZ : Z.Warmed39 vm0) (hEL : EW Z a0 EL) (H : CHr Z EL s.vm s.heap vm0 T.heap) {pc : Nat} {Ls : Array Slot} {w : Value} {t : FieldType} {i : Instr} {rest : List Value} (hret : meth.sig.returnType = some t) (hn : narrow t w = w)
    (hi : (i = .ireturn ∧ (t = .int ∨ t = .boolean ∨ t = .byte ∨ t = .char ∨ t = .short) ∧ ∃ z, w = .int z) ∨ (i = .lreturn ∧ t = .long ∧ ∃ z, w = .long z) ∨ (i = .dreturn ∧ t = .double ∧ ∃ z, w = .double z) ∨ (i = .freturn ∧ t = .float ∧ ∃ z, w = .float z) ∨ (i = .areturn ∧ t.isReference = true ∧ w.isRef = true))
    (hd : decode c.code pc = .ok (i, 1)) (hc : cells ≤ C) (hs : slots ≤ S) (hQ : Q (some w) T.heap locs) : own_gc p e below s Z EL Q C S (T.setTop (mkF m pc Ls (w :: rest))) := by
  obtain ⟨fs, hr, hrun, hended, h1, h2, h3, h4⟩ := X.leaveW hS hk (v := some w) (fun h => by rw [hret] at h; cases h) hlk
  have q : CHr Z EL s.vm s.heap T.vm T.heap := H.trans (CHv.at X hZ hEL H.1)
  exact ⟨_, _, retOut X hx hret hn hi hd hr, hrun, hended, _, _, rfl, hQ, q, h1, h2, h3, h4.mono hc hs⟩
theorem own_retVc {vm0 : Vm} {k0 : Nat} (X : Stand p l e R (s.setVm vm0) m args below meth c T locs cells slots) (hx : p.tables.exec = Jvm.exec) (hlk : meth.locks = false) (hS : s.Since vm0 k0) (hk : k0 ≤ T.heap.size) (hZ : Z.Warmed39 vm0) (hEL : EW Z a0 EL) (H : CHr Z EL s.vm s.heap vm0 T.heap) {pc : Nat} {Ls : Array Slot} (hret : meth.sig.returnType = none)
    (hd : decode c.code pc = .ok (.return_, 1)) (hc : cells ≤ C) (hs : slots ≤ S) (hQ : Q none T.heap locs) : own_gc p e below s Z EL Q C S (T.setTop (mkF m pc Ls [])) := by
  obtain ⟨fs, hr, hrun, hended, h1, h2, h3, h4⟩ := X.leaveW hS hk (v := none) (fun _ => rfl) hlk
  have q : CHr Z EL s.vm s.heap T.vm T.heap := H.trans (CHv.at X hZ hEL H.1)
  exact ⟨_, _, X.returnOut hx hret hd hr, hrun, hended, _, _, rfl, hQ, q, h1, h2, h3, h4.mono hc hs⟩
open Jvm.Free.SB Jvm.Free.SBG in
/-- a String that has no array yet is no constant's -/
theorem own_safe_null {vm : Vm} {h : Heap} {x : Addr} (hal : Z.vm.Alike vm) (E : Exa Z h x "java/lang/String") (F : Fld Z h x "java/lang/String" "value" "[B" .null) : Safe Z EL vm h x := fun B => by
  obtain ⟨p, -, u, a, -, q, -, F', rfl | rfl⟩ := B
  · obtain ⟨cS, ⟨⟨s1, s2, s3, ⟨cv, kv, iv, s4, s4'⟩, s5, s6, s7, s8, -⟩, -, -⟩, -⟩ := F'
    obtain ⟨cell, cf, k, i, f, h1, h2, h3, -, -, -, h7⟩ := F
    cases (show h[q.sa]? = some q.sC from s1).symm.trans h1
    obtain ⟨kv', z4⟩ := ff_back (U := Wst Z vm h) hal s4
    have e4 := z4.symm.trans h2
    simp only [Option.some.injEq, Prod.mk.injEq] at e4
    rw [e4.2.2.2] at s8
    have := s8.symm.trans h7
    simp at this
  · obtain ⟨cell, k, e1, e2, e3, -, -⟩ := E
    cases (show h[q.sd]? = some q.SA from F'.hd).symm.trans e1
    obtain ⟨cS, -, -, f, -⟩ := F'
    have f' : vm.findClass "[B" = some q.SA.cls := f
    rw [hal.findClass] at f'
    obtain ⟨k1, q1, q2⟩ := Vm.findClass_spec f'
    obtain ⟨k2, q3, q4⟩ := Vm.findClass_spec e2
    cases q1.symm.trans q3
    have := q2.symm.trans q4
    simp at this
theorem own_ex {t : Term} {K : String} (h : (Jvm.Cond.exactly t K).value args s none s [] = some true) : ∃ a, t.eval args s none [] s = some (.ref a) ∧ Exa s s.heap a K := by
  obtain ⟨a, ha⟩ := exa_v h
  exact ⟨a, ha, Exa.start ha h⟩
theorem own_fi {t : Term} {K n d : String} {a : Addr} {k : Int32} (ht : t.eval args s none [] s = some (.ref a)) (h : (Jvm.Cond.eq (Term.field t K n d) (Term.int k)).value args s none s [] = some true) : Fld s s.heap a K n d (.int k) := by
  obtain ⟨x, y, h1, h2, h3, h4⟩ := cmp_v (Or.inl h)
  have e2 := Option.some.inj ((Term.int_eval k).symm.trans h2)
  subst e2
  rw [fld_at ht] at h1
  obtain ⟨z, rfl⟩ := h4
  have hz : s.fieldOf? a K n d = some (.int z) := h1
  have : z = k := by
    have h5 : (Term.field t K n d).eval args s none [] s = some (.int z) := (fld_at ht).trans hz
    simpa [Cond.value, h5, Term.int_eval] using h
  subst this
  exact Fld.start hz
end Own
theorem own_len {s : State} {args : Array Value} {t : Term} {a : Addr} {cl : Cell} {ty : FieldType} {k : Int32} (ht : t.eval args s none [] s = some (.ref a)) (A : Arr s s.heap a cl ty) (h : (Jvm.Cond.eq (Term.length t) (Term.int k)).value args s none s [] = some true) : cl.slots.size.toInt32 = k ∧ cl.slots.size < 2 ^ 31 := by
  obtain ⟨x, y, h1, h2, h3, h4⟩ := cmp_v (Or.inl h)
  have e2 := Option.some.inj ((Term.int_eval k).symm.trans h2)
  subst e2
  obtain ⟨z, rfl⟩ := h4
  have hA : s.arrayAt? a = some cl := A.fin (Vm.Alike.refl _)
  by_cases hl : cl.slots.size < 2 ^ 31
  · have h5 := len_f ht hA hl
    have h6 : cl.slots.size.toInt32 = z := by have := h5.symm.trans h1; simpa using this
    refine ⟨?_, hl⟩
    rw [h6]
    simpa [Cond.value, h1, Term.int_eval] using h
  · simp [Term.eval, ht, hA, hl] at h1
theorem own_el {s : State} {args : Array Value} {t : Term} {a : Addr} {cl : Cell} {ty : FieldType} {k j : Int32} (ht : t.eval args s none [] s = some (.ref a)) (A : Arr s s.heap a cl ty) (h : (Jvm.Cond.eq (Term.elem t (Term.int j)) (Term.int k)).value args s none s [] = some true) : cl.slots[j.toNatClampNeg]? = some (.int k) := by
  obtain ⟨x, y, h1, h2, h3, h4⟩ := cmp_v (Or.inl h)
  have e2 := Option.some.inj ((Term.int_eval k).symm.trans h2)
  subst e2
  obtain ⟨z, rfl⟩ := h4
  have h5 := (elem_in h1 ht (Term.int_eval j) A.1).2
  have : z = k := by simpa [Cond.value, h1, Term.int_eval] using h
  rw [h5, this]
theorem own_er {s : State} {args : Array Value} {t u : Term} {a b : Addr} {cl : Cell} {ty : FieldType} {j : Int32} (ht : t.eval args s none [] s = some (.ref a)) (hu : u.eval args s none [] s = some (.ref b)) (A : Arr s s.heap a cl ty) (h : (Jvm.Cond.eq (Term.elem t (Term.int j)) u).value args s none s [] = some true) : cl.slots[j.toNatClampNeg]? = some (.ref b) := by
  obtain ⟨x, y, h1, h2, h3, h4⟩ := cmp_v (Or.inl h)
  have e2 := Option.some.inj (hu.symm.trans h2)
  subst e2
  have h5 := (elem_in h1 ht (Term.int_eval j) A.1).2
  rw [h5]
  cases x <;> simp [Cond.value, h1, hu] at h ⊢
  exact h
theorem own_fr {s : State} {args : Array Value} {t : Term} {a b : Addr} {K n d : String} (ht : t.eval args s none [] s = some (.ref a)) (hf : (Term.field t K n d).eval args s none [] s = some (.ref b)) : Fld s s.heap a K n d (.ref b) := Fld.start ((fld_at ht).symm.trans hf)
def own_str (Z : State) (h : Heap) (x : Addr) (cs : List Int32) : Prop := ∃ (t : Addr) (kb : ClassId) (N : Int32) (vs : List Value), Exa Z h x "java/lang/String" ∧ Fld Z h x "java/lang/String" "value" "[B" (.ref t) ∧ Fld Z h x "java/lang/String" "coder" "B" (.int 0) ∧ Arv Z h t kb .byte N vs (.int 0) ∧ StrChars.Road.CodA cs 0 N vs
theorem own_str.ext {Z : State} {h h' : Heap} {x : Addr} {cs : List Int32} (S : own_str Z h x cs) (E : Ext h h') : own_str Z h' x cs := by
  obtain ⟨t, kb, N, vs, a, b, c, d, e⟩ := S
  exact ⟨t, kb, N, vs, a.ext E, b.ext E, c.ext E, d.ext E, e⟩
theorem own_str.lt {Z : State} {h : Heap} {x : Addr} {cs : List Int32} (S : own_str Z h x cs) : x < h.size := by
  obtain ⟨_, _, _, _, a, -⟩ := S
  exact a.lt
theorem own_str.keep1 {Z : State} {h h' : Heap} {x y : Addr} {cs : List Int32} {C : String} {k : Nat} {a0 : Array Value} (S : own_str Z h x cs) (K : Keep h h' [y]) (hx : x ≠ y) (E : Exa Z h y C) (wi : (Jvm.Cond.instantiable C k).before a0 Z = true) : own_str Z h' x cs := by
  obtain ⟨t, kb, N, vs, a, b, c, ⟨cl, A, r⟩, e⟩ := S
  have ht : t ≠ y := (ne_arr E wi A).symm
  exact ⟨t, kb, N, vs, a.keep K, b.keep K (ninS hx nin0), c.keep K (ninS hx nin0), ⟨cl, ⟨K.2.1 t cl A.1 (ninS ht nin0), A.2⟩, r⟩, e⟩
theorem own_str.keep {Z : State} {h h' : Heap} {x : Addr} {cs : List Int32} (S : own_str Z h x cs) (K : Keep h h' []) (q : x ∉ ([] : List Addr)) : own_str Z h' x cs := by
  obtain ⟨t, kb, N, vs, a, b, c, d, e⟩ := S
  exact ⟨t, kb, N, vs, a.keep K, b.keep K nin0, c.keep K nin0, d.keep K nin0, e⟩
theorem own_and255 (x : Int32) : ¬ nar .char ((x &&& (255 : Int32)).toUInt32.toUInt16.toUInt32.toInt32) < 0 ∧ ¬ (255 : Int32) < nar .char ((x &&& (255 : Int32)).toUInt32.toUInt16.toUInt32.toInt32) := by
  have t : ∀ k : Fin 256, ¬ nar .char ((Int32.ofNat k.val).toUInt32.toUInt16.toUInt32.toInt32) < 0 ∧ ¬ (255 : Int32) < nar .char ((Int32.ofNat k.val).toUInt32.toUInt16.toUInt32.toInt32) := by decide +kernel
  have h : (x &&& 255).toBitVec.toNat < 256 := by
    simp only [Int32.toBitVec_and, BitVec.toNat_and]
    exact Nat.lt_succ_of_le Nat.and_le_right
  have e : (x &&& 255) = Int32.ofNat (x &&& 255).toBitVec.toNat := by
    apply Int32.toBitVec_inj.mp
    show _ = BitVec.ofNat 32 _
    rw [BitVec.ofNat_toNat]; simp
  rw [e]
  exact t ⟨_, h⟩
theorem own_and3 (x : Int32) : x &&& 3 = 0 ∨ x &&& 3 = 1 ∨ x &&& 3 = 2 ∨ x &&& 3 = 3 := by
  have e1 : (x &&& 3).toInt = x.toInt % 2 ^ 2 := Jvm.Kit.i32_mask x 3 (k := 2) (by decide) (by decide)
  simp only [← Int32.toInt_inj, show (0 : Int32).toInt = 0 from rfl, show (1 : Int32).toInt = 1 from rfl, show (2 : Int32).toInt = 2 from rfl, show (3 : Int32).toInt = 3 from rfl]
  omega
theorem own_up (cs : List Int32) (h : ∀ c ∈ cs, ¬ c < 0 ∧ ¬ (255 : Int32) < c) : ∀ c ∈ cs, ¬ c < 0 ∧ ¬ (65535 : Int32) < c := fun c hc => ⟨(h c hc).1, fun q => (h c hc).2 (by rw [Int32.lt_iff_toInt_lt] at q ⊢; have e1 : (65535 : Int32).toInt = 65535 := rfl; have e2 : (255 : Int32).toInt = 255 := rfl; omega)⟩
def own_EL : List (String × Nat) := [("java/lang/String", 7)]
theorem ef_rmN4 (m : MethodId) (x0 : Nat) (x1 : Nat) (x2 : Int32) (x3 : Int32) : entryFrame m #[(.ref x0), (.ref x1), (.int x2), (.int x3), .null] 6 = mkF m 0 #[.val (.ref x0), .val (.ref x1), .val (.int x2), .val (.int x3), .val .null, .unset] [] := by first | (simp [entryFrame, mkF, argsToLocals, Value.category]; done) | rfl
theorem pn_0 : plainName "java/lang/String" = true := by first | (simp [plainName, overriddenIn]; done) | decide +kernel
theorem d2_0 : decode jdk_42_method_149_code 0 = .ok (.aload_n 0, 1) := by decide +kernel
theorem d2_1 : decode jdk_42_method_149_code 1 = .ok (.invokespecial 1, 3) := by decide +kernel
theorem d2_4 : decode jdk_42_method_149_code 4 = .ok (.iload_n 3, 1) := by decide +kernel
theorem d2_5 : decode jdk_42_method_149_code 5 = .ok (.ifCond .ne 22, 3) := by decide +kernel
theorem d2_8 : decode jdk_42_method_149_code 8 = .ok (.aload_n 0, 1) := by decide +kernel
theorem d2_9 : decode jdk_42_method_149_code 9 = .ok (.ldc 7, 2) := by decide +kernel
theorem d2_11 : decode jdk_42_method_149_code 11 = .ok (.getfield 9, 3) := by decide +kernel
theorem d2_14 : decode jdk_42_method_149_code 14 = .ok (.putfield 9, 3) := by decide +kernel
theorem d2_17 : decode jdk_42_method_149_code 17 = .ok (.aload_n 0, 1) := by decide +kernel
theorem d2_18 : decode jdk_42_method_149_code 18 = .ok (.ldc 7, 2) := by decide +kernel
theorem d2_20 : decode jdk_42_method_149_code 20 = .ok (.getfield 15, 3) := by decide +kernel
theorem d2_23 : decode jdk_42_method_149_code 23 = .ok (.putfield 15, 3) := by decide +kernel
theorem d2_26 : decode jdk_42_method_149_code 26 = .ok (.return_, 1) := by decide +kernel
def Q_rmN4 (Z : State) (x : Nat) (ar : Nat) (h0 : Heap) (n0 : Nat) (v : Option Value) (h : Heap) (L : List Loc) : Prop := v = none ∧ Fr n0 L ∧ Keep h0 h [x] ∧ own_str Z h x []
set_option maxRecDepth 65536 in
set_option maxHeartbeats 40000000 in
theorem rmN4 (l : Launch) (Z : State) (a0 : Array Value) (hw : ∀ d ∈ tables_1, d.before a0 Z = true) (ws : List Jvm.Cond) (x : Nat) (ar : Nat) (h0 : Heap) (n0 : Nat) (hEL : EW Z a0 own_EL) (XO0 : Old Z n0 h0) (g_x : n0 ≤ x) (E_x : Exa Z h0 x "java/lang/String") (F_v : Fld Z h0 x "java/lang/String" "value" "[B" .null) (F_c : Fld Z h0 x "java/lang/String" "coder" "B" (.int (0 : Int32))) :
    MetFree l (⟨"java/lang/String", "<init>", "([CIILjava/lang/Void;)V"⟩ : MethodName) (head1 (Jvm.Cond.code (⟨"java/lang/String", "<init>", "([CIILjava/lang/Void;)V"⟩ : MethodName) jdk_42_method_149_code 6 none :: ws) ({ frames := 1, cells := 4, slots := 8, locals := 12 } : Room)) (fun zz_ U => zz_ = #[(.ref x), (.ref ar), (.int (0 : Int32)), (.int (0 : Int32)), .null] ∧ Z.Warmed39 U.vm ∧ U.heap = h0 ∧ CHv Z own_EL U.vm h0) (fun _ _ _ _ _ => True) (fun _ U o U' => ∃ v L, o = .returned v ∧ Q_rmN4 Z x ar h0 n0 v U'.heap L ∧ CHr Z own_EL U.vm U.heap U'.vm U'.heap ∧ ReturnedEndW U o U' L ({ frames := 1, cells := 4, slots := 8, locals := 12 } : Room).cells ({ frames := 1, cells := 4, slots := 8, locals := 12 } : Room).slots) := by
  refine MetFree.of_bodySF (plainFor_of_name pn_0) hisR ?_
  intro p e s m args below meth c s₁ Bd hml0 hP hK
  obtain ⟨rfl, hZ, hh, hCH⟩ := hP
  have hx := Bd.exec
  have hby := Bd.bytes
  have hlk := Bd.notSynchronized
  have hW : ∀ (i : Nat) (d : Jvm.Cond), tables_1[i]? = some d → d.before a0 Z = true := fun i d h => hw d (List.mem_of_getElem? h)
  have hml : c.maxLocals = 6 := hml0
  have hown : s.vm.findClass "java/lang/String" = some m.cls := findClass_of_methodNamed Bd.named
  have hnm := (name_of_methodNamed Bd.named Bd.method).1
  have X0 : Stand p l e ({ frames := 1, cells := 4, slots := 8, locals := 12 } : Room) (s.setVm s.vm) m #[(.ref x), (.ref ar), (.int (0 : Int32)), (.int (0 : Int32)), .null] below meth c s₁ [] 0 0 := Stand.of_body Bd
  have e0 : s₁.heap = h0 := by rw [← hh, Bd.state]; rfl
  have N0 := Fr.nil n0
  have hS0 : s.Since s.vm 0 := (State.WarmedH.refl s).since 0
  have CH0 : CHr Z own_EL s.vm s.heap s.vm h0 := by rw [hh]; exact CHr.refl hCH
  refine own_inc ?_
  refine own_ofc (fun t k => castTop (ef_rmN4 m x ar (0 : Int32) (0 : Int32)) k) ?_
  show own_gc p e below s _ _ _ _ _ (s₁.setTop (mkF m 0 #[.val (.ref x), .val (.ref ar), .val (.int (0 : Int32)), .val (.int (0 : Int32)), .val .null, .unset] []))
  refine own_ofc (fun t => XS.aloadN X0.here hx rfl (hb hby d2_0) rfl rfl) ?_
  show own_gc p e below s _ _ _ _ _ (s₁.setTop (mkF m 1 #[.val (.ref x), .val (.ref ar), .val (.int (0 : Int32)), .val (.int (0 : Int32)), .val .null, .unset] [(.ref x)]))
  have wS : ∀ a ∈ Bundle.stringAtoms, a.before a0 Z = true := fun d hd => hw d ((by decide +kernel : ∀ d ∈ Bundle.stringAtoms, d ∈ tables_1) d hd)
  have K0 : Keep h0 h0 [x] := Keep.refl h0 [x]
  have lt_x := own_lt E_x.lt
  obtain ⟨T1, X1, e1, st1⟩ := initO X0 hx hZ hown (hW 11 _ rfl) (hW 12 _ rfl) (hW 13 _ rfl) e0 (g := (mkF m 1 #[.val (.ref x), .val (.ref ar), .val (.int (0 : Int32)), .val (.int (0 : Int32)), .val .null, .unset] [(.ref x)])) rfl (by rw [hml]; rfl) rfl (hb hby d2_1) (by decide) (W := 0) (by show 2 * 0 + _ ≤ _; exact Nat.le_of_eq rfl) (by decide)
  refine own_ofc st1 ?_
  show own_gc p e below s _ _ _ _ _ (T1.setTop (mkF m 4 #[.val (.ref x), .val (.ref ar), .val (.int (0 : Int32)), .val (.int (0 : Int32)), .val .null, .unset] []))
  refine own_ofc (fun t => XS.iloadN X1.here hx rfl (hb hby d2_4) rfl) ?_
  show own_gc p e below s _ _ _ _ _ (T1.setTop (mkF m 5 #[.val (.ref x), .val (.ref ar), .val (.int (0 : Int32)), .val (.int (0 : Int32)), .val .null, .unset] [(.int (0 : Int32))]))
  have hb5_2 : (0 : Int32) = (0 : Int32) := by decide
  refine own_ofc (fun t => XS.ifNo X1.here hx rfl (hb hby d2_5) rfl ((if0 _ _).trans (teq hb5_2).2)) ?_
  show own_gc p e below s _ _ _ _ _ (T1.setTop (mkF m 8 #[.val (.ref x), .val (.ref ar), .val (.int (0 : Int32)), .val (.int (0 : Int32)), .val .null, .unset] []))
  refine own_ofc (fun t => XS.aloadN X1.here hx rfl (hb hby d2_8) rfl rfl) ?_
  show own_gc p e below s _ _ _ _ _ (T1.setTop (mkF m 9 #[.val (.ref x), .val (.ref ar), .val (.int (0 : Int32)), .val (.int (0 : Int32)), .val .null, .unset] [(.ref x)]))
  obtain ⟨b3, T3, h3, k3, t3, kb3, X3, e3, E3, hS3, hk3, hZ3, hown3, Ex3, Cx3, Vx3, Kx3, la3, lb3, CHs3, -, hne3, st3⟩ := ldcCH X1 hx hZ hown (hW 14 _ rfl) wS e1 hS0 (by omega : 0 ≤ h0.size) hEL (by decide) CH0.1 (vs := []) (z := 0) ⟨by decide +kernel, by decide +kernel⟩ (by decide) (by decide) (g := (mkF m 9 #[.val (.ref x), .val (.ref ar), .val (.int (0 : Int32)), .val (.int (0 : Int32)), .val .null, .unset] [(.ref x)])) rfl (hb hby d2_9) (n := 0) (by decide +kernel) (by decide) (by decide) (by decide)
  have CH3 := CH0.trans CHs3
  have Ss3 : own_str Z h3 b3 ([] : List Int32) := ⟨t3, kb3, _, _, Ex3, Vx3, Cx3, Kx3, Or.inl ⟨rfl, rfl, rfl, by decide⟩⟩
  refine own_ofc st3 ?_
  have sz3 : h0.size ≤ h3.size := E3.1
  have O3 : Old Z n0 h3 := XO0.ext E3
  have K3 : Keep h0 h3 [x] := K0.ext E3
  have lla3 := own_lt la3
  have llb3 := own_lt lb3
  have f5 : Exa Z h3 x "java/lang/String" := (E_x.ext E3)
  have f6 : Fld Z h3 x "java/lang/String" "value" "[B" .null := (F_v.ext E3)
  have Sf4 := own_safe_null (EL := own_EL) hZ3.alike f5 f6
  have nx3 := hne3 x Sf4
  have nxa3 := own_ne nx3.1
  have nxb3 := own_ne nx3.2
  show own_gc p e below s _ _ _ _ _ (T3.setTop (mkF m 11 #[.val (.ref x), .val (.ref ar), .val (.int (0 : Int32)), .val (.int (0 : Int32)), .val .null, .unset] [(.ref b3), (.ref x)]))
  obtain ⟨T7, X7, e7, st7⟩ := getF X3 hx hZ3 hown3 (host := "") (Or.inl (hW 20 _ rfl)) Via.refl e3 Vx3 (g := (mkF m 11 #[.val (.ref x), .val (.ref ar), .val (.int (0 : Int32)), .val (.int (0 : Int32)), .val .null, .unset] [(.ref b3), (.ref x)])) rfl rfl (hb hby d2_11)
  refine own_ofc st7 ?_
  show own_gc p e below s _ _ _ _ _ (T7.setTop (mkF m 14 #[.val (.ref x), .val (.ref ar), .val (.int (0 : Int32)), .val (.int (0 : Int32)), .val .null, .unset] [(.ref t3), (.ref x)]))
  obtain ⟨T8, h8, X8, e8, W8, st8⟩ := putF X7 hx hZ3 hown3 (host := "") (Or.inl (hW 20 _ rfl)) Via.refl e7 f6 f5 (Or.inr ⟨(hW 16 _ rfl), rfl, hnm⟩) (hW 2 _ rfl) (ty := (.array .byte)) (by decide) rfl rfl (g := (mkF m 14 #[.val (.ref x), .val (.ref ar), .val (.int (0 : Int32)), .val (.int (0 : Int32)), .val .null, .unset] [(.ref t3), (.ref x)])) rfl rfl (hb hby d2_14)
  refine own_ofc st8 ?_
  have CHs8 := CHr.wr W8 Sf4 CH3.1
  have CH8 := CH3.trans CHs8
  have N8 := Fr.snoc X8 N0 (by omega : n0 ≤ x)
  have sz8 : h8.size = h3.size := W8.size
  have O8 : Old Z n0 h8 := O3.wr W8 (by omega)
  have K8 : Keep h0 h8 [x] := K3.wr W8 (Or.inl (List.mem_of_getElem? (i := 0) rfl))
  have Fw8 := f6.same W8
  show own_gc p e below s _ _ _ _ _ (T8.setTop (mkF m 17 #[.val (.ref x), .val (.ref ar), .val (.int (0 : Int32)), .val (.int (0 : Int32)), .val .null, .unset] []))
  refine own_ofc (fun t => XS.aloadN X8.here hx rfl (hb hby d2_17) rfl rfl) ?_
  show own_gc p e below s _ _ _ _ _ (T8.setTop (mkF m 18 #[.val (.ref x), .val (.ref ar), .val (.int (0 : Int32)), .val (.int (0 : Int32)), .val .null, .unset] [(.ref x)]))
  obtain ⟨b9, T9, h9, k9, t9, kb9, X9, e9, E9, hS9, hk9, hZ9, hown9, Ex9, Cx9, Vx9, Kx9, la9, lb9, CHs9, -, hne9, st9⟩ := ldcCH X8 hx hZ3 hown3 (hW 14 _ rfl) wS e8 hS3 (by omega : k3 ≤ h8.size) hEL (by decide) CH8.1 (vs := []) (z := 0) ⟨by decide +kernel, by decide +kernel⟩ (by decide) (by decide) (g := (mkF m 18 #[.val (.ref x), .val (.ref ar), .val (.int (0 : Int32)), .val (.int (0 : Int32)), .val .null, .unset] [(.ref x)])) rfl (hb hby d2_18) (n := 0) (by decide +kernel) (by decide) (by decide) (by decide)
  have CH9 := CH8.trans CHs9
  have Ss9 : own_str Z h9 b9 ([] : List Int32) := ⟨t9, kb9, _, _, Ex9, Vx9, Cx9, Kx9, Or.inl ⟨rfl, rfl, rfl, by decide⟩⟩
  refine own_ofc st9 ?_
  have sz9 : h8.size ≤ h9.size := E9.1
  have O9 : Old Z n0 h9 := O8.ext E9
  have K9 : Keep h0 h9 [x] := K8.ext E9
  have lla9 := own_lt la9
  have llb9 := own_lt lb9
  have f10 := (CHs9.safe (own_lt (by omega)) (CHs8.safe (own_lt (by omega)) Sf4))
  have nx9 := hne9 x f10
  have nxa9 := own_ne nx9.1
  have nxb9 := own_ne nx9.2
  show own_gc p e below s _ _ _ _ _ (T9.setTop (mkF m 20 #[.val (.ref x), .val (.ref ar), .val (.int (0 : Int32)), .val (.int (0 : Int32)), .val .null, .unset] [(.ref b9), (.ref x)]))
  obtain ⟨T11, X11, e11, st11⟩ := getF X9 hx hZ9 hown9 (host := "") (Or.inl (hW 21 _ rfl)) Via.refl e9 Cx9 (g := (mkF m 20 #[.val (.ref x), .val (.ref ar), .val (.int (0 : Int32)), .val (.int (0 : Int32)), .val .null, .unset] [(.ref b9), (.ref x)])) rfl rfl (hb hby d2_20)
  refine own_ofc st11 ?_
  show own_gc p e below s _ _ _ _ _ (T11.setTop (mkF m 23 #[.val (.ref x), .val (.ref ar), .val (.int (0 : Int32)), .val (.int (0 : Int32)), .val .null, .unset] [(.int (0 : Int32)), (.ref x)]))
  have f12 : Exa Z h9 x "java/lang/String" := ((f5.wr W8).ext E9)
  have f13 : Fld Z h9 x "java/lang/String" "coder" "B" (.int (0 : Int32)) := (((F_c.ext E3).other W8 (Or.inr (slot_ne (Or.inr (hW 17 _ rfl)) (Or.inr (hW 16 _ rfl)) (by decide) (t := .byte) (t' := (.array .byte)) (by decide) (by decide)))).ext E9)
  obtain ⟨T14, h14, X14, e14, W14, st14⟩ := putFN X11 hx hZ9 hown9 (hW 21 _ rfl) Via.refl e11 f13 f12 (Or.inr ⟨(hW 17 _ rfl), rfl, hnm⟩) (hW 2 _ rfl) (ty := .byte) (v' := .int (nar .byte (0 : Int32))) (by decide) rfl (fits_nar_byte _) (g := (mkF m 23 #[.val (.ref x), .val (.ref ar), .val (.int (0 : Int32)), .val (.int (0 : Int32)), .val .null, .unset] [(.int (0 : Int32)), (.ref x)])) rfl rfl (hb hby d2_23)
  refine own_ofc st14 ?_
  have CHs14 := CHr.wr W14 f10 CH9.1
  have CH14 := CH9.trans CHs14
  have N14 := Fr.snoc X14 N8 (by omega : n0 ≤ x)
  have sz14 : h14.size = h9.size := W14.size
  have O14 : Old Z n0 h14 := O9.wr W14 (by omega)
  have K14 : Keep h0 h14 [x] := K9.wr W14 (Or.inl (List.mem_of_getElem? (i := 0) rfl))
  have Fw14 := f13.same W14
  show own_gc p e below s _ _ _ _ _ (T14.setTop (mkF m 26 #[.val (.ref x), .val (.ref ar), .val (.int (0 : Int32)), .val (.int (0 : Int32)), .val .null, .unset] []))
  refine own_retVc X14 hx hlk hS9 (by rw [e14]; omega : k9 ≤ T14.heap.size) hZ9 hEL (by rw [e14]; exact CH14) Bd.returns (hb hby d2_26) (by decide) (by decide) ?_
  rw [e14]
  have f15 : Exa Z h14 x "java/lang/String" := (f12.wr W14)
  have f16 : Fld Z h14 x "java/lang/String" "value" "[B" (.ref t3) := ((Fw8.ext E9).other W14 (Or.inr (slot_ne (Or.inr (hW 16 _ rfl)) (Or.inr (hW 17 _ rfl)) (by decide) (t := (.array .byte)) (t' := .byte) (by decide) (by decide))))
  have f17 : Arv Z h14 t3 kb3 .byte (0 : Int32) [] (.int 0) := (((Kx3.other W8 (own_ne (by omega))).ext E9).other W14 (own_ne (by omega)))
  exact ⟨rfl, N14, K14, t3, kb3, _, _, f15, f16, Fw14, f17, Or.inl ⟨rfl, rfl, rfl, by simp⟩⟩
theorem ef_rmN1 (m : MethodId) (x0 : Nat) (x1 : Nat) : entryFrame m #[(.ref x0), (.ref x1)] 2 = mkF m 0 #[.val (.ref x0), .val (.ref x1)] [] := by first | (simp [entryFrame, mkF, argsToLocals, Value.category]; done) | rfl
theorem d1_0 : decode jdk_42_method_3_code 0 = .ok (.aload_n 0, 1) := by decide +kernel
theorem d1_1 : decode jdk_42_method_3_code 1 = .ok (.aload_n 1, 1) := by decide +kernel
theorem d1_2 : decode jdk_42_method_3_code 2 = .ok (.iconst 0, 1) := by decide +kernel
theorem d1_3 : decode jdk_42_method_3_code 3 = .ok (.aload_n 1, 1) := by decide +kernel
theorem d1_4 : decode jdk_42_method_3_code 4 = .ok (.arraylength, 1) := by decide +kernel
theorem d1_5 : decode jdk_42_method_3_code 5 = .ok (.aconst_null, 1) := by decide +kernel
theorem d1_6 : decode jdk_42_method_3_code 6 = .ok (.invokespecial 27, 3) := by decide +kernel
theorem pd_0 : parseMethodDescriptor "([CIILjava/lang/Void;)V" = some ⟨[(.array .char), .int, .int, (.object "java/lang/Void")], none⟩ := by decide +kernel
theorem d1_9 : decode jdk_42_method_3_code 9 = .ok (.return_, 1) := by decide +kernel
def Q_rmN1 (Z : State) (x : Nat) (ar : Nat) (k : ClassId) (h0 : Heap) (n0 : Nat) (v : Option Value) (h : Heap) (L : List Loc) : Prop := v = none ∧ Fr n0 L ∧ Keep h0 h [x] ∧ own_str Z h x []
set_option maxRecDepth 65536 in
set_option maxHeartbeats 40000000 in
theorem rmN1 (l : Launch) (Z : State) (a0 : Array Value) (hw : ∀ d ∈ tables_1, d.before a0 Z = true) (ws : List Jvm.Cond) (x : Nat) (ar : Nat) (k : ClassId) (h0 : Heap) (n0 : Nat) (hEL : EW Z a0 own_EL) (XO0 : Old Z n0 h0) (g_x : n0 ≤ x) (E_x : Exa Z h0 x "java/lang/String") (F_v : Fld Z h0 x "java/lang/String" "value" "[B" .null) (F_c : Fld Z h0 x "java/lang/String" "coder" "B" (.int (0 : Int32))) (V_a : Arv Z h0 ar k .char (0 : Int32) [] (.int (0 : Int32))) :
    MetFree l (⟨"java/lang/String", "<init>", "([C)V"⟩ : MethodName) (head1 (Jvm.Cond.code (⟨"java/lang/String", "<init>", "([C)V"⟩ : MethodName) jdk_42_method_3_code 2 none :: ws) ({ frames := 2, cells := 4, slots := 8, locals := 29 } : Room)) (fun zz_ U => zz_ = #[(.ref x), (.ref ar)] ∧ Z.Warmed39 U.vm ∧ U.heap = h0 ∧ CHv Z own_EL U.vm h0) (fun _ _ _ _ _ => True) (fun _ U o U' => ∃ v L, o = .returned v ∧ Q_rmN1 Z x ar k h0 n0 v U'.heap L ∧ CHr Z own_EL U.vm U.heap U'.vm U'.heap ∧ ReturnedEndW U o U' L ({ frames := 2, cells := 4, slots := 8, locals := 29 } : Room).cells ({ frames := 2, cells := 4, slots := 8, locals := 29 } : Room).slots) := by
  refine MetFree.of_bodySF (plainFor_of_name pn_0) hisR ?_
  intro p e s m args below meth c s₁ Bd hml0 hP hK
  obtain ⟨rfl, hZ, hh, hCH⟩ := hP
  have hx := Bd.exec
  have hby := Bd.bytes
  have hlk := Bd.notSynchronized
  have hW : ∀ (i : Nat) (d : Jvm.Cond), tables_1[i]? = some d → d.before a0 Z = true := fun i d h => hw d (List.mem_of_getElem? h)
  have hml : c.maxLocals = 2 := hml0
  have hown : s.vm.findClass "java/lang/String" = some m.cls := findClass_of_methodNamed Bd.named
  have hnm := (name_of_methodNamed Bd.named Bd.method).1
  have X0 : Stand p l e ({ frames := 2, cells := 4, slots := 8, locals := 29 } : Room) (s.setVm s.vm) m #[(.ref x), (.ref ar)] below meth c s₁ [] 0 0 := Stand.of_body Bd
  have e0 : s₁.heap = h0 := by rw [← hh, Bd.state]; rfl
  have N0 := Fr.nil n0
  have hS0 : s.Since s.vm 0 := (State.WarmedH.refl s).since 0
  have CH0 : CHr Z own_EL s.vm s.heap s.vm h0 := by rw [hh]; exact CHr.refl hCH
  refine own_inc ?_
  refine own_ofc (fun t k => castTop (ef_rmN1 m x ar) k) ?_
  show own_gc p e below s _ _ _ _ _ (s₁.setTop (mkF m 0 #[.val (.ref x), .val (.ref ar)] []))
  refine own_ofc (fun t => XS.aloadN X0.here hx rfl (hb hby d1_0) rfl rfl) ?_
  show own_gc p e below s _ _ _ _ _ (s₁.setTop (mkF m 1 #[.val (.ref x), .val (.ref ar)] [(.ref x)]))
  refine own_ofc (fun t => XS.aloadN X0.here hx rfl (hb hby d1_1) rfl rfl) ?_
  show own_gc p e below s _ _ _ _ _ (s₁.setTop (mkF m 2 #[.val (.ref x), .val (.ref ar)] [(.ref ar), (.ref x)]))
  refine own_ofc (fun t => XS.iconst X0.here hx rfl (hb hby d1_2)) ?_
  show own_gc p e below s _ _ _ _ _ (s₁.setTop (mkF m 3 #[.val (.ref x), .val (.ref ar)] [(.int (0 : Int32)), (.ref ar), (.ref x)]))
  refine own_ofc (fun t => XS.aloadN X0.here hx rfl (hb hby d1_3) rfl rfl) ?_
  show own_gc p e below s _ _ _ _ _ (s₁.setTop (mkF m 4 #[.val (.ref x), .val (.ref ar)] [(.ref ar), (.int (0 : Int32)), (.ref ar), (.ref x)]))
  obtain ⟨cl1, Ar1, q1, S1, Ng1, H1, G1⟩ := id V_a
  refine own_ofc (fun t kk => X0.arraylength hx (by rw [e0]; exact Ar1.1) (State.isArrayOf_alike hZ.alike Ar1.2.1) (g := (mkF m 4 #[.val (.ref x), .val (.ref ar)] [(.ref ar), (.int (0 : Int32)), (.ref ar), (.ref x)])) rfl rfl (hb hby d1_4) _ (by rw [len_of S1 Ng1]; exact kk)) ?_
  show own_gc p e below s _ _ _ _ _ (s₁.setTop (mkF m 5 #[.val (.ref x), .val (.ref ar)] [(.int (0 : Int32)), (.int (0 : Int32)), (.ref ar), (.ref x)]))
  refine own_ofc (fun t => XS.aconstNull X0.here hx rfl (hb hby d1_5)) ?_
  show own_gc p e below s _ _ _ _ _ (s₁.setTop (mkF m 6 #[.val (.ref x), .val (.ref ar)] [.null, (.int (0 : Int32)), (.int (0 : Int32)), (.ref ar), (.ref x)]))
  have K0 : Keep h0 h0 [x] := Keep.refl h0 [x]
  have lt_x := own_lt E_x.lt
  obtain ⟨_, _, ⟨T2, L2, k2, n2⟩, -, Xr2, hSr2, hgr2, ⟨Lc2, hQ2, l2, y2, z2, CHs2⟩, st2⟩ := X0.specialBackS hx (y := (⟨"java/lang/String", "<init>", "([CIILjava/lang/Void;)V"⟩ : MethodName)) rfl hown (mvT hZ (hW 7 _ rfl)) (mvT hZ (hW 8 _ rfl)) (mvT hZ (hW 10 _ rfl)) (by decide) (backOfSH (W := 0) (rmN4 l Z a0 hw [] x ar h0 n0 hEL XO0 g_x E_x F_v F_c) hZ (hW 10 _ rfl) (hW 3 _ rfl) (by decide) (by decide) hEL CH0.1) (g := (mkF m 6 #[.val (.ref x), .val (.ref ar)] [.null, (.int (0 : Int32)), (.int (0 : Int32)), (.ref ar), (.ref x)])) rfl (by rw [hml]; rfl) (Steps.refl _) (a := x) (argsL := [(.ref ar), (.int (0 : Int32)), (.int (0 : Int32)), .null]) (rest := []) (lenOf pd_0 rfl) rfl (by show 2 * 0 + _ ≤ _; exact Nat.le_of_eq rfl) (hb hby d1_6) (fun _ _ => ⟨rfl, e0, (by decide : 0 + 4 ≤ _), (by decide : 0 + 8 ≤ _)⟩)
  dsimp only [Pt.U, Pt.locs, Pt.cells, Pt.slots] at Xr2 l2 y2 z2 st2 hQ2 hSr2 hgr2 CHs2
  obtain ⟨X2, hS2, hZ2, hown2⟩ := rebS hS0 (by rw [e0]; omega : 0 ≤ s₁.heap.size) Xr2 hSr2 hgr2 hZ hown
  subst l2 y2 z2
  obtain ⟨rfl, Nq2, Kp2, Sx2⟩ := hQ2
  have N2 := Fr.app N0 Nq2
  refine own_ofc (fun t k => st2.trans k) ?_
  have CH2 := CH0.trans CHs2
  have sz2 : h0.size ≤ T2.heap.size := Kp2.1
  have O2 : Old Z n0 T2.heap := XO0.keep Kp2 (allS (by omega) all0)
  have K2 : Keep h0 T2.heap [x] := K0.trans Kp2 (allS (Or.inl (List.mem_of_getElem? (i := 0) rfl)) all0)
  show own_gc p e below s _ _ _ _ _ (T2.setTop (mkF m 9 #[.val (.ref x), .val (.ref ar)] []))
  refine own_retVc X2 hx hlk hS2 (by omega : T2.heap.size ≤ T2.heap.size) hZ2 hEL CH2 Bd.returns (hb hby d1_9) (by decide) (by decide) ?_
  skip
  exact ⟨rfl, N2, K2, Sx2⟩
theorem ef_rmR (m : MethodId) (x0 : Nat) : entryFrame m #[(.ref x0)] 1 = mkF m 0 #[.val (.ref x0)] [] := by first | (simp [entryFrame, mkF, argsToLocals, Value.category]; done) | rfl
theorem pn_1 : plainName "java/lang/Record" = true := by first | (simp [plainName, overriddenIn]; done) | decide +kernel
theorem d5_0 : decode jdk_30_method_1_code 0 = .ok (.aload_n 0, 1) := by decide +kernel
theorem d5_1 : decode jdk_30_method_1_code 1 = .ok (.invokespecial 1, 3) := by decide +kernel
theorem d5_4 : decode jdk_30_method_1_code 4 = .ok (.return_, 1) := by decide +kernel
def Q_rmR (Z : State) (a : Nat) (h0 : Heap) (n0 : Nat) (v : Option Value) (h : Heap) (L : List Loc) : Prop := v = none ∧ Fr n0 L ∧ h = h0
set_option maxRecDepth 65536 in
set_option maxHeartbeats 40000000 in
theorem rmR (l : Launch) (Z : State) (a0 : Array Value) (hw : ∀ d ∈ tables_1, d.before a0 Z = true) (ws : List Jvm.Cond) (a : Nat) (h0 : Heap) (n0 : Nat) (XO0 : Old Z n0 h0) :
    MetFree l (⟨"java/lang/Record", "<init>", "()V"⟩ : MethodName) (head1 (Jvm.Cond.code (⟨"java/lang/Record", "<init>", "()V"⟩ : MethodName) jdk_30_method_1_code 1 none :: ws) ({ frames := 1, cells := 0, slots := 0, locals := 12 } : Room)) (fun zz_ U => zz_ = #[(.ref a)] ∧ Z.Warmed39 U.vm ∧ U.heap = h0) (fun _ _ _ _ _ => True) (fun _ U o U' => ∃ v L, o = .returned v ∧ Q_rmR Z a h0 n0 v U'.heap L ∧ FrameEnd U o U' L ({ frames := 1, cells := 0, slots := 0, locals := 12 } : Room).cells ({ frames := 1, cells := 0, slots := 0, locals := 12 } : Room).slots) := by
  refine MetFree.of_bodySF (plainFor_of_name pn_1) hisR ?_
  intro p e s m args below meth c s₁ Bd hml0 hP hK
  obtain ⟨rfl, hZ, hh⟩ := hP
  have hx := Bd.exec
  have hby := Bd.bytes
  have hlk := Bd.notSynchronized
  have hW : ∀ (i : Nat) (d : Jvm.Cond), tables_1[i]? = some d → d.before a0 Z = true := fun i d h => hw d (List.mem_of_getElem? h)
  have hml : c.maxLocals = 1 := hml0
  have hown : s.vm.findClass "java/lang/Record" = some m.cls := findClass_of_methodNamed Bd.named
  have hnm := (name_of_methodNamed Bd.named Bd.method).1
  have X0 : Stand p l e ({ frames := 1, cells := 0, slots := 0, locals := 12 } : Room) s m #[(.ref a)] below meth c s₁ [] 0 0 := Stand.of_body Bd
  have e0 : s₁.heap = h0 := by rw [← hh, Bd.state]; rfl
  have N0 := Fr.nil n0
  refine own_in ?_
  refine own_of (fun t k => castTop (ef_rmR m a) k) ?_
  show own_go p e below s _ _ _ (s₁.setTop (mkF m 0 #[.val (.ref a)] []))
  refine own_of (fun t => XS.aloadN X0.here hx rfl (hb hby d5_0) rfl rfl) ?_
  show own_go p e below s _ _ _ (s₁.setTop (mkF m 1 #[.val (.ref a)] [(.ref a)]))
  obtain ⟨T1, X1, e1, st1⟩ := initO X0 hx hZ hown (hW 36 _ rfl) (hW 12 _ rfl) (hW 13 _ rfl) e0 (g := (mkF m 1 #[.val (.ref a)] [(.ref a)])) rfl (by rw [hml]; rfl) rfl (hb hby d5_1) (by decide) (W := 0) (by show 2 * 0 + _ ≤ _; exact Nat.le_of_eq rfl) (by decide)
  refine own_of st1 ?_
  show own_go p e below s _ _ _ (T1.setTop (mkF m 4 #[.val (.ref a)] []))
  refine own_retV X1 hx hlk Bd.returns (hb hby d5_4) (by decide) (by decide) ?_
  rw [e1]
  exact ⟨rfl, N0, rfl⟩
theorem ef_rmL (m : MethodId) (x0 : Nat) (x2 : Nat) (x3 : Nat) (x4 : Int32) : entryFrame m #[(.ref x0), .null, (.ref x2), (.ref x3), (.int x4)] 5 = mkF m 0 #[.val (.ref x0), .val .null, .val (.ref x2), .val (.ref x3), .val (.int x4)] [] := by first | (simp [entryFrame, mkF, argsToLocals, Value.category]; done) | rfl
theorem pn_2 : plainName "com/example/sachfeld/sachfeld/SubjectField$Layout" = true := by first | (simp [plainName, overriddenIn]; done) | decide +kernel
theorem d4_0 : decode prog_46_method_1_code 0 = .ok (.aload_n 0, 1) := by decide +kernel
theorem d4_1 : decode prog_46_method_1_code 1 = .ok (.invokespecial 1, 3) := by decide +kernel
theorem pd_1 : parseMethodDescriptor "()V" = some ⟨[], none⟩ := by decide +kernel
theorem d4_4 : decode prog_46_method_1_code 4 = .ok (.aload_n 0, 1) := by decide +kernel
theorem d4_5 : decode prog_46_method_1_code 5 = .ok (.aload_n 1, 1) := by decide +kernel
theorem d4_6 : decode prog_46_method_1_code 6 = .ok (.putfield 7, 3) := by decide +kernel
theorem d4_9 : decode prog_46_method_1_code 9 = .ok (.aload_n 0, 1) := by decide +kernel
theorem d4_10 : decode prog_46_method_1_code 10 = .ok (.aload_n 2, 1) := by decide +kernel
theorem d4_11 : decode prog_46_method_1_code 11 = .ok (.putfield 13, 3) := by decide +kernel
theorem d4_14 : decode prog_46_method_1_code 14 = .ok (.aload_n 0, 1) := by decide +kernel
theorem d4_15 : decode prog_46_method_1_code 15 = .ok (.aload_n 3, 1) := by decide +kernel
theorem d4_16 : decode prog_46_method_1_code 16 = .ok (.putfield 17, 3) := by decide +kernel
theorem d4_19 : decode prog_46_method_1_code 19 = .ok (.aload_n 0, 1) := by decide +kernel
theorem d4_20 : decode prog_46_method_1_code 20 = .ok (.iload 4, 2) := by decide +kernel
theorem d4_22 : decode prog_46_method_1_code 22 = .ok (.putfield 21, 3) := by decide +kernel
theorem d4_25 : decode prog_46_method_1_code 25 = .ok (.return_, 1) := by decide +kernel
def Q_rmL (Z : State) (a : Nat) (x : Nat) (r : Nat) (z : Int32) (h0 : Heap) (n0 : Nat) (v : Option Value) (h : Heap) (L : List Loc) : Prop := v = none ∧ Fr n0 L ∧ Keep h0 h [a] ∧ Fld Z h a "com/example/sachfeld/sachfeld/SubjectField$Layout" "provenanceCodes" "Ljava/lang/String;" (.ref x)
set_option maxRecDepth 65536 in
set_option maxHeartbeats 40000000 in
theorem rmL (l : Launch) (Z : State) (a0 : Array Value) (hw : ∀ d ∈ tables_1, d.before a0 Z = true) (ws : List Jvm.Cond) (a : Nat) (x : Nat) (r : Nat) (z : Int32) (h0 : Heap) (n0 : Nat) (XO0 : Old Z n0 h0) (g_a : n0 ≤ a) (E_a : Exa Z h0 a "com/example/sachfeld/sachfeld/SubjectField$Layout") (F_groupSubfields : Fld Z h0 a "com/example/sachfeld/sachfeld/SubjectField$Layout" "groupSubfields" "Ljava/util/Map;" .null) (F_provenanceCodes : Fld Z h0 a "com/example/sachfeld/sachfeld/SubjectField$Layout" "provenanceCodes" "Ljava/lang/String;" .null) (F_manyDdcGroups : Fld Z h0 a "com/example/sachfeld/sachfeld/SubjectField$Layout" "manyDdcGroups" "Lcom/example/sachfeld/sachfeld/Rule;" .null) (F_repeatable : Fld Z h0 a "com/example/sachfeld/sachfeld/SubjectField$Layout" "repeatable" "Z" (.int (0 : Int32))) :
    MetFree l (⟨"com/example/sachfeld/sachfeld/SubjectField$Layout", "<init>", "(Ljava/util/Map;Ljava/lang/String;Lcom/example/sachfeld/sachfeld/Rule;Z)V"⟩ : MethodName) (head1 (Jvm.Cond.code (⟨"com/example/sachfeld/sachfeld/SubjectField$Layout", "<init>", "(Ljava/util/Map;Ljava/lang/String;Lcom/example/sachfeld/sachfeld/Rule;Z)V"⟩ : MethodName) prog_46_method_1_code 5 none :: ws) ({ frames := 2, cells := 0, slots := 0, locals := 24 } : Room)) (fun zz_ U => zz_ = #[(.ref a), .null, (.ref x), (.ref r), (.int z)] ∧ Z.Warmed39 U.vm ∧ U.heap = h0) (fun _ _ _ _ _ => True) (fun _ U o U' => ∃ v L, o = .returned v ∧ Q_rmL Z a x r z h0 n0 v U'.heap L ∧ FrameEnd U o U' L ({ frames := 2, cells := 0, slots := 0, locals := 24 } : Room).cells ({ frames := 2, cells := 0, slots := 0, locals := 24 } : Room).slots) := by
  refine MetFree.of_bodySF (plainFor_of_name pn_2) hisR ?_
  intro p e s m args below meth c s₁ Bd hml0 hP hK
  obtain ⟨rfl, hZ, hh⟩ := hP
  have hx := Bd.exec
  have hby := Bd.bytes
  have hlk := Bd.notSynchronized
  have hW : ∀ (i : Nat) (d : Jvm.Cond), tables_1[i]? = some d → d.before a0 Z = true := fun i d h => hw d (List.mem_of_getElem? h)
  have hml : c.maxLocals = 5 := hml0
  have hown : s.vm.findClass "com/example/sachfeld/sachfeld/SubjectField$Layout" = some m.cls := findClass_of_methodNamed Bd.named
  have hnm := (name_of_methodNamed Bd.named Bd.method).1
  have X0 : Stand p l e ({ frames := 2, cells := 0, slots := 0, locals := 24 } : Room) s m #[(.ref a), .null, (.ref x), (.ref r), (.int z)] below meth c s₁ [] 0 0 := Stand.of_body Bd
  have e0 : s₁.heap = h0 := by rw [← hh, Bd.state]; rfl
  have N0 := Fr.nil n0
  refine own_in ?_
  refine own_of (fun t k => castTop (ef_rmL m a x r z) k) ?_
  show own_go p e below s _ _ _ (s₁.setTop (mkF m 0 #[.val (.ref a), .val .null, .val (.ref x), .val (.ref r), .val (.int z)] []))
  refine own_of (fun t => XS.aloadN X0.here hx rfl (hb hby d4_0) rfl rfl) ?_
  show own_go p e below s _ _ _ (s₁.setTop (mkF m 1 #[.val (.ref a), .val .null, .val (.ref x), .val (.ref r), .val (.int z)] [(.ref a)]))
  have K0 : Keep h0 h0 [a] := Keep.refl h0 [a]
  have lt_a := own_lt E_a.lt
  obtain ⟨_, _, ⟨T1, L1, k1, n1⟩, -, X1, ⟨Lc1, hQ1, l1, y1, z1⟩, st1⟩ := X0.specialBack hx (y := (⟨"java/lang/Record", "<init>", "()V"⟩ : MethodName)) rfl hown (mvT hZ (hW 31 _ rfl)) (mvT hZ (hW 32 _ rfl)) (mvT hZ (hW 35 _ rfl)) (by decide) (backOf (W := 0) (rmR l Z a0 hw [] a h0 n0 XO0) hZ (hW 35 _ rfl) (hW 34 _ rfl) (by decide) (by decide)) (g := (mkF m 1 #[.val (.ref a), .val .null, .val (.ref x), .val (.ref r), .val (.int z)] [(.ref a)])) rfl (by rw [hml]; rfl) (Steps.refl _) (a := a) (argsL := []) (rest := []) (lenOf pd_1 rfl) rfl (by show 2 * 0 + _ ≤ _; exact Nat.le_of_eq rfl) (hb hby d4_1) (fun _ _ => ⟨rfl, e0, (by decide : 0 + 0 ≤ _), (by decide : 0 + 0 ≤ _)⟩)
  dsimp only [Pt.U, Pt.locs, Pt.cells, Pt.slots] at X1 l1 y1 z1 st1 hQ1
  subst l1 y1 z1
  obtain ⟨rfl, Nq1, eh1⟩ := hQ1
  have N1 := Fr.app N0 Nq1
  refine own_of (fun t k => st1.trans k) ?_
  show own_go p e below s _ _ _ (T1.setTop (mkF m 4 #[.val (.ref a), .val .null, .val (.ref x), .val (.ref r), .val (.int z)] []))
  refine own_of (fun t => XS.aloadN X1.here hx rfl (hb hby d4_4) rfl rfl) ?_
  show own_go p e below s _ _ _ (T1.setTop (mkF m 5 #[.val (.ref a), .val .null, .val (.ref x), .val (.ref r), .val (.int z)] [(.ref a)]))
  refine own_of (fun t => XS.aloadN X1.here hx rfl (hb hby d4_5) rfl rfl) ?_
  show own_go p e below s _ _ _ (T1.setTop (mkF m 6 #[.val (.ref a), .val .null, .val (.ref x), .val (.ref r), .val (.int z)] [.null, (.ref a)]))
  obtain ⟨T2, h2, X2, e2, W2, st2⟩ := putF X1 hx hZ hown (host := "") (Or.inl (hW 37 _ rfl)) Via.refl eh1 F_groupSubfields E_a (Or.inr ⟨(hW 38 _ rfl), rfl, hnm⟩) (hW 26 _ rfl) (ty := (.object "java/util/Map")) (by decide) rfl rfl (g := (mkF m 6 #[.val (.ref a), .val .null, .val (.ref x), .val (.ref r), .val (.int z)] [.null, (.ref a)])) rfl rfl (hb hby d4_6)
  refine own_of st2 ?_
  have N2 := Fr.snoc X2 N1 (by omega : n0 ≤ a)
  have sz2 : h2.size = h0.size := W2.size
  have O2 : Old Z n0 h2 := XO0.wr W2 (by omega)
  have K2 : Keep h0 h2 [a] := K0.wr W2 (Or.inl (List.mem_of_getElem? (i := 0) rfl))
  have Fw2 := F_groupSubfields.same W2
  show own_go p e below s _ _ _ (T2.setTop (mkF m 9 #[.val (.ref a), .val .null, .val (.ref x), .val (.ref r), .val (.int z)] []))
  refine own_of (fun t => XS.aloadN X2.here hx rfl (hb hby d4_9) rfl rfl) ?_
  show own_go p e below s _ _ _ (T2.setTop (mkF m 10 #[.val (.ref a), .val .null, .val (.ref x), .val (.ref r), .val (.int z)] [(.ref a)]))
  refine own_of (fun t => XS.aloadN X2.here hx rfl (hb hby d4_10) rfl rfl) ?_
  show own_go p e below s _ _ _ (T2.setTop (mkF m 11 #[.val (.ref a), .val .null, .val (.ref x), .val (.ref r), .val (.int z)] [(.ref x), (.ref a)]))
  have f3 : Exa Z h2 a "com/example/sachfeld/sachfeld/SubjectField$Layout" := (E_a.wr W2)
  have f4 : Fld Z h2 a "com/example/sachfeld/sachfeld/SubjectField$Layout" "provenanceCodes" "Ljava/lang/String;" .null := (F_provenanceCodes.other W2 (Or.inr (slot_ne (Or.inr (hW 40 _ rfl)) (Or.inr (hW 38 _ rfl)) (by decide) (t := (.object "java/lang/String")) (t' := (.object "java/util/Map")) (by decide) (by decide))))
  obtain ⟨T5, h5, X5, e5, W5, st5⟩ := putF X2 hx hZ hown (host := "") (Or.inl (hW 39 _ rfl)) Via.refl e2 f4 f3 (Or.inr ⟨(hW 40 _ rfl), rfl, hnm⟩) (hW 26 _ rfl) (ty := (.object "java/lang/String")) (by decide) rfl rfl (g := (mkF m 11 #[.val (.ref a), .val .null, .val (.ref x), .val (.ref r), .val (.int z)] [(.ref x), (.ref a)])) rfl rfl (hb hby d4_11)
  refine own_of st5 ?_
  have N5 := Fr.snoc X5 N2 (by omega : n0 ≤ a)
  have sz5 : h5.size = h2.size := W5.size
  have O5 : Old Z n0 h5 := O2.wr W5 (by omega)
  have K5 : Keep h0 h5 [a] := K2.wr W5 (Or.inl (List.mem_of_getElem? (i := 0) rfl))
  have Fw5 := f4.same W5
  show own_go p e below s _ _ _ (T5.setTop (mkF m 14 #[.val (.ref a), .val .null, .val (.ref x), .val (.ref r), .val (.int z)] []))
  refine own_of (fun t => XS.aloadN X5.here hx rfl (hb hby d4_14) rfl rfl) ?_
  show own_go p e below s _ _ _ (T5.setTop (mkF m 15 #[.val (.ref a), .val .null, .val (.ref x), .val (.ref r), .val (.int z)] [(.ref a)]))
  refine own_of (fun t => XS.aloadN X5.here hx rfl (hb hby d4_15) rfl rfl) ?_
  show own_go p e below s _ _ _ (T5.setTop (mkF m 16 #[.val (.ref a), .val .null, .val (.ref x), .val (.ref r), .val (.int z)] [(.ref r), (.ref a)]))
  have f6 : Exa Z h5 a "com/example/sachfeld/sachfeld/SubjectField$Layout" := (f3.wr W5)
  have f7 : Fld Z h5 a "com/example/sachfeld/sachfeld/SubjectField$Layout" "manyDdcGroups" "Lcom/example/sachfeld/sachfeld/Rule;" .null := ((F_manyDdcGroups.other W2 (Or.inr (slot_ne (Or.inr (hW 42 _ rfl)) (Or.inr (hW 38 _ rfl)) (by decide) (t := (.object "com/example/sachfeld/sachfeld/Rule")) (t' := (.object "java/util/Map")) (by decide) (by decide)))).other W5 (Or.inr (slot_ne (Or.inr (hW 42 _ rfl)) (Or.inr (hW 40 _ rfl)) (by decide) (t := (.object "com/example/sachfeld/sachfeld/Rule")) (t' := (.object "java/lang/String")) (by decide) (by decide))))
  obtain ⟨T8, h8, X8, e8, W8, st8⟩ := putF X5 hx hZ hown (host := "") (Or.inl (hW 41 _ rfl)) Via.refl e5 f7 f6 (Or.inr ⟨(hW 42 _ rfl), rfl, hnm⟩) (hW 26 _ rfl) (ty := (.object "com/example/sachfeld/sachfeld/Rule")) (by decide) rfl rfl (g := (mkF m 16 #[.val (.ref a), .val .null, .val (.ref x), .val (.ref r), .val (.int z)] [(.ref r), (.ref a)])) rfl rfl (hb hby d4_16)
  refine own_of st8 ?_
  have N8 := Fr.snoc X8 N5 (by omega : n0 ≤ a)
  have sz8 : h8.size = h5.size := W8.size
  have O8 : Old Z n0 h8 := O5.wr W8 (by omega)
  have K8 : Keep h0 h8 [a] := K5.wr W8 (Or.inl (List.mem_of_getElem? (i := 0) rfl))
  have Fw8 := f7.same W8
  show own_go p e below s _ _ _ (T8.setTop (mkF m 19 #[.val (.ref a), .val .null, .val (.ref x), .val (.ref r), .val (.int z)] []))
  refine own_of (fun t => XS.aloadN X8.here hx rfl (hb hby d4_19) rfl rfl) ?_
  show own_go p e below s _ _ _ (T8.setTop (mkF m 20 #[.val (.ref a), .val .null, .val (.ref x), .val (.ref r), .val (.int z)] [(.ref a)]))
  refine own_of (fun t => XS.iload X8.here hx rfl (hb hby d4_20) rfl) ?_
  show own_go p e below s _ _ _ (T8.setTop (mkF m 22 #[.val (.ref a), .val .null, .val (.ref x), .val (.ref r), .val (.int z)] [(.int z), (.ref a)]))
  have f9 : Exa Z h8 a "com/example/sachfeld/sachfeld/SubjectField$Layout" := (f6.wr W8)
  have f10 : Fld Z h8 a "com/example/sachfeld/sachfeld/SubjectField$Layout" "repeatable" "Z" (.int (0 : Int32)) := (((F_repeatable.other W2 (Or.inr (slot_ne (Or.inr (hW 44 _ rfl)) (Or.inr (hW 38 _ rfl)) (by decide) (t := .boolean) (t' := (.object "java/util/Map")) (by decide) (by decide)))).other W5 (Or.inr (slot_ne (Or.inr (hW 44 _ rfl)) (Or.inr (hW 40 _ rfl)) (by decide) (t := .boolean) (t' := (.object "java/lang/String")) (by decide) (by decide)))).other W8 (Or.inr (slot_ne (Or.inr (hW 44 _ rfl)) (Or.inr (hW 42 _ rfl)) (by decide) (t := .boolean) (t' := (.object "com/example/sachfeld/sachfeld/Rule")) (by decide) (by decide))))
  obtain ⟨T11, h11, X11, e11, W11, st11⟩ := putFN X8 hx hZ hown (hW 43 _ rfl) Via.refl e8 f10 f9 (Or.inr ⟨(hW 44 _ rfl), rfl, hnm⟩) (hW 26 _ rfl) (ty := .boolean) (v' := .int (nar .boolean z)) (by decide) rfl (fits_nar_bool _) (g := (mkF m 22 #[.val (.ref a), .val .null, .val (.ref x), .val (.ref r), .val (.int z)] [(.int z), (.ref a)])) rfl rfl (hb hby d4_22)
  refine own_of st11 ?_
  have N11 := Fr.snoc X11 N8 (by omega : n0 ≤ a)
  have sz11 : h11.size = h8.size := W11.size
  have O11 : Old Z n0 h11 := O8.wr W11 (by omega)
  have K11 : Keep h0 h11 [a] := K8.wr W11 (Or.inl (List.mem_of_getElem? (i := 0) rfl))
  have Fw11 := f10.same W11
  show own_go p e below s _ _ _ (T11.setTop (mkF m 25 #[.val (.ref a), .val .null, .val (.ref x), .val (.ref r), .val (.int z)] []))
  refine own_retV X11 hx hlk Bd.returns (hb hby d4_25) (by decide) (by decide) ?_
  rw [e11]
  have f12 : Fld Z h11 a "com/example/sachfeld/sachfeld/SubjectField$Layout" "provenanceCodes" "Ljava/lang/String;" (.ref x) := ((Fw5.other W8 (Or.inr (slot_ne (Or.inr (hW 40 _ rfl)) (Or.inr (hW 42 _ rfl)) (by decide) (t := (.object "java/lang/String")) (t' := (.object "com/example/sachfeld/sachfeld/Rule")) (by decide) (by decide)))).other W11 (Or.inr (slot_ne (Or.inr (hW 40 _ rfl)) (Or.inr (hW 44 _ rfl)) (by decide) (t := (.object "java/lang/String")) (t' := .boolean) (by decide) (by decide))))
  exact ⟨rfl, N11, K11, f12⟩
theorem ef_rmP (m : MethodId) (x0 : Nat) : entryFrame m #[(.ref x0)] 1 = mkF m 0 #[.val (.ref x0)] [] := by first | (simp [entryFrame, mkF, argsToLocals, Value.category]; done) | rfl
theorem d6_0 : decode prog_46_method_2_code 0 = .ok (.aload_n 0, 1) := by decide +kernel
theorem d6_1 : decode prog_46_method_2_code 1 = .ok (.getfield 13, 3) := by decide +kernel
theorem d6_4 : decode prog_46_method_2_code 4 = .ok (.invokevirtual 25, 3) := by decide +kernel
theorem pd_2 : parseMethodDescriptor "()Z" = some ⟨[], some .boolean⟩ := by decide +kernel
theorem d6_7 : decode prog_46_method_2_code 7 = .ok (.ifCond .ne 7, 3) := by decide +kernel
theorem d6_10 : decode prog_46_method_2_code 10 = .ok (.iconst 1, 1) := by decide +kernel
theorem d6_11 : decode prog_46_method_2_code 11 = .ok (.goto 4, 3) := by decide +kernel
theorem d6_15 : decode prog_46_method_2_code 15 = .ok (.ireturn, 1) := by decide +kernel
theorem d6_14 : decode prog_46_method_2_code 14 = .ok (.iconst 0, 1) := by decide +kernel
def Q_rmP (Z : State) (a : Nat) (x : Nat) (cs : List Int32) (h0 : Heap) (n0 : Nat) (v : Option Value) (h : Heap) (L : List Loc) : Prop := v = some (.int (if cs.length = 0 then 0 else 1)) ∧ Fr n0 L ∧ h = h0
set_option maxRecDepth 65536 in
set_option maxHeartbeats 40000000 in
theorem rmP (l : Launch) (Z : State) (a0 : Array Value) (hw : ∀ d ∈ tables_1, d.before a0 Z = true) (ws : List Jvm.Cond) (a : Nat) (x : Nat) (cs : List Int32) (h0 : Heap) (n0 : Nat) (XO0 : Old Z n0 h0) (F_p : Fld Z h0 a "com/example/sachfeld/sachfeld/SubjectField$Layout" "provenanceCodes" "Ljava/lang/String;" (.ref x)) (Sx : own_str Z h0 x cs) (hbd : ∀ c ∈ cs, ¬ c < 0 ∧ ¬ (65535 : Int32) < c) (hle : cs.length ≤ 4000) :
    MetFree l (⟨"com/example/sachfeld/sachfeld/SubjectField$Layout", "recordsProvenance", "()Z"⟩ : MethodName) (head1 (Jvm.Cond.code (⟨"com/example/sachfeld/sachfeld/SubjectField$Layout", "recordsProvenance", "()Z"⟩ : MethodName) prog_46_method_2_code 1 (some .boolean) :: ws) ({ frames := 1, cells := 0, slots := 0, locals := 12 } : Room)) (fun zz_ U => zz_ = #[(.ref a)] ∧ Z.Warmed39 U.vm ∧ U.heap = h0) (fun _ _ _ _ _ => True) (fun _ U o U' => ∃ v L, o = .returned v ∧ Q_rmP Z a x cs h0 n0 v U'.heap L ∧ FrameEnd U o U' L ({ frames := 1, cells := 0, slots := 0, locals := 12 } : Room).cells ({ frames := 1, cells := 0, slots := 0, locals := 12 } : Room).slots) := by
  refine MetFree.of_bodySF (plainFor_of_name pn_2) hisR ?_
  intro p e s m args below meth c s₁ Bd hml0 hP hK
  obtain ⟨rfl, hZ, hh⟩ := hP
  have hx := Bd.exec
  have hby := Bd.bytes
  have hlk := Bd.notSynchronized
  have hW : ∀ (i : Nat) (d : Jvm.Cond), tables_1[i]? = some d → d.before a0 Z = true := fun i d h => hw d (List.mem_of_getElem? h)
  have hml : c.maxLocals = 1 := hml0
  have hown : s.vm.findClass "com/example/sachfeld/sachfeld/SubjectField$Layout" = some m.cls := findClass_of_methodNamed Bd.named
  have hnm := (name_of_methodNamed Bd.named Bd.method).1
  have X0 : Stand p l e ({ frames := 1, cells := 0, slots := 0, locals := 12 } : Room) s m #[(.ref a)] below meth c s₁ [] 0 0 := Stand.of_body Bd
  have e0 : s₁.heap = h0 := by rw [← hh, Bd.state]; rfl
  have N0 := Fr.nil n0
  refine own_in ?_
  refine own_of (fun t k => castTop (ef_rmP m a) k) ?_
  show own_go p e below s _ _ _ (s₁.setTop (mkF m 0 #[.val (.ref a)] []))
  refine own_of (fun t => XS.aloadN X0.here hx rfl (hb hby d6_0) rfl rfl) ?_
  show own_go p e below s _ _ _ (s₁.setTop (mkF m 1 #[.val (.ref a)] [(.ref a)]))
  obtain ⟨T1, X1, e1, st1⟩ := getF X0 hx hZ hown (host := "") (Or.inl (hW 39 _ rfl)) Via.refl e0 F_p (g := (mkF m 1 #[.val (.ref a)] [(.ref a)])) rfl rfl (hb hby d6_1)
  refine own_of st1 ?_
  show own_go p e below s _ _ _ (T1.setTop (mkF m 4 #[.val (.ref a)] [(.ref x)]))
  have hem : ∀ d ∈ StrChars.Road.wordsEmp, d.before a0 Z = true := fun d hd => hw d ((by decide +kernel : ∀ d ∈ StrChars.Road.wordsEmp, d ∈ tables_1) d hd)
  obtain ⟨t, kb, N, vs, Ea, Va, Ca, Ka, cd⟩ := id Sx
  obtain ⟨cq2, kq2, q2a, q2b, q2c⟩ := isOf hZ e1 Ea
  obtain ⟨_, _, ⟨T2, L2, k2, n2⟩, -, X2, ⟨Lc2, hQ2, l2, y2, z2⟩, st2⟩ := X1.virtualBack hx (y := (⟨"java/lang/String", "isEmpty", "()Z"⟩ : MethodName)) (z := (⟨"java/lang/String", "isEmpty", "()Z"⟩ : MethodName)) hown (mvT hZ (hW 50 _ rfl)) (mvT hZ (hW 51 _ rfl)) (notFace_of_selects (args := #[]) (mvT hZ (hW 53 _ rfl))) (mvT hZ (hW 53 _ rfl)) (mvT hZ (hW 52 _ rfl)) (by decide) (StrChars.Road.empW (W := 0) hZ hem (kI := 4) (hW 2 _ rfl) Ea Va Ca Ka cd hbd hle (by decide) (by decide)) q2a q2c (g := (mkF m 4 #[.val (.ref a)] [(.ref x)])) rfl (by rw [hml]; rfl) (Steps.refl _) (argsL := []) (rest := []) (lenOf pd_2 rfl) rfl (by show 2 * 0 + _ ≤ _; exact Nat.le_of_eq rfl) (hb hby d6_4) (fun _ _ => ⟨rfl, e1, (by decide : 0 + 0 ≤ _), (by decide : 0 + 0 ≤ _)⟩)
  dsimp only [Pt.U, Pt.locs, Pt.cells, Pt.slots] at X2 l2 y2 z2 st2 hQ2
  subst l2 y2 z2
  obtain ⟨rfl, rfl, eh2⟩ := hQ2
  have Nq2 : Fr n0 ([] : List Loc) := Fr.nil n0
  have N2 := Fr.app N0 Nq2
  refine own_of (fun t k => st2.trans k) ?_
  show own_go p e below s _ _ _ (T2.setTop (mkF m 7 #[.val (.ref a)] [(.int (if cs.length = 0 then (1 : Int32) else 0))]))
  by_cases hb7_3 : (if cs.length = 0 then (1 : Int32) else 0) = (0 : Int32)
  · refine own_of (fun t => XS.ifNo X2.here hx rfl (hb hby d6_7) rfl ((if0 _ _).trans (teq hb7_3).2)) ?_
    show own_go p e below s _ _ _ (T2.setTop (mkF m 10 #[.val (.ref a)] []))
    refine own_of (fun t => XS.iconst X2.here hx rfl (hb hby d6_10)) ?_
    show own_go p e below s _ _ _ (T2.setTop (mkF m 11 #[.val (.ref a)] [(.int (1 : Int32))]))
    refine own_of (fun t => XS.goto X2.here hx rfl (pc0 := 11) (pc' := 15) rfl (hb hby d6_11) (by decide) (by decide)) ?_
    show own_go p e below s _ _ _ (T2.setTop (mkF m 15 #[.val (.ref a)] [(.int (1 : Int32))]))
    refine own_ret X2 hx hlk Bd.returns rfl (Or.inl ⟨rfl, by simp, _, rfl⟩) (hb hby d6_15) (by decide) (by decide) ?_
    rw [eh2]
    refine ⟨?_, N2, rfl⟩
    by_cases hq : cs.length = 0 <;> simp_all
  · refine own_of (fun t => XS.ifYes X2.here hx rfl (pc0 := 7) (pc' := 14) rfl (hb hby d6_7) rfl ((if0 _ _).trans (feq hb7_3).2) (by decide) (by decide)) ?_
    show own_go p e below s _ _ _ (T2.setTop (mkF m 14 #[.val (.ref a)] []))
    refine own_of (fun t => XS.iconst X2.here hx rfl (hb hby d6_14)) ?_
    show own_go p e below s _ _ _ (T2.setTop (mkF m 15 #[.val (.ref a)] [(.int (0 : Int32))]))
    refine own_ret X2 hx hlk Bd.returns rfl (Or.inl ⟨rfl, by simp, _, rfl⟩) (hb hby d6_15) (by decide) (by decide) ?_
    rw [eh2]
    refine ⟨?_, N2, rfl⟩
    by_cases hq : cs.length = 0 <;> simp_all
theorem ef_rm0 (m : MethodId) (x0 : Int32) (x1 : Int32) (x2 : Int32) (x3 : Int32) (x4 : Int32) : entryFrame m #[(.int x0), (.int x1), (.int x2), (.int x3), (.int x4)] maxLocals = mkF m 0 #[.val (.int x0), .val (.int x1), .val (.int x2), .val (.int x3), .val (.int x4), .unset, .unset, .unset, .unset, .unset, .unset, .unset] [] := by first | (simp [entryFrame, mkF, argsToLocals, Value.category, maxLocals]; done) | rfl
theorem pn_3 : plainName "com/example/sachfeld/sachfeld/LayoutRecordsProvenancePinLaw" = true := by first | (simp [plainName, overriddenIn]; done) | decide +kernel
theorem pd_3 : parseMethodDescriptor "([C)V" = some ⟨[(.array .char)], none⟩ := by decide +kernel
theorem pd_4 : parseMethodDescriptor "(Ljava/util/Map;Ljava/lang/String;Lcom/example/sachfeld/sachfeld/Rule;Z)V" = some ⟨[(.object "java/util/Map"), (.object "java/lang/String"), (.object "com/example/sachfeld/sachfeld/Rule"), .boolean], none⟩ := by decide +kernel
def Q_rm0 (Z : State) (p1 : Int32) (p2 : Int32) (p3 : Int32) (p4 : Int32) (p5 : Int32) (wa : Nat) (wb : Nat) (G1 : Int32) (h0 : Heap) (n0 : Nat) (v : Option Value) (h : Heap) (L : List Loc) : Prop := v = some (.int 1) ∧ Fr n0 L
set_option maxRecDepth 65536 in
set_option maxHeartbeats 40000000 in
theorem rm0 (l : Launch) (Z : State) (a0 : Array Value) (hw : ∀ d ∈ tables_1, d.before a0 Z = true) (ws : List Jvm.Cond) (p1 : Int32) (p2 : Int32) (p3 : Int32) (p4 : Int32) (p5 : Int32) (wa : Nat) (wb : Nat) (G1 : Int32) (h0 : Heap) (n0 : Nat) (hEL : EW Z a0 own_EL) (XO0 : Old Z n0 h0) (S_MANY_GROUPS : Sta Z Z.heap "com/example/sachfeld/sachfeld/Rule" "MANY_GROUPS" "Lcom/example/sachfeld/sachfeld/Rule;" (.ref wa)) (S_TOO_MANY_GROUPS : Sta Z Z.heap "com/example/sachfeld/sachfeld/Rule" "TOO_MANY_GROUPS" "Lcom/example/sachfeld/sachfeld/Rule;" (.ref wb)) (O2 : Sta Z Z.heap "java/lang/String" "COMPACT_STRINGS" "Z" (.int G1)) (P5 : ¬ (G1 = (0 : Int32))) :
    MetFree l x (head1 (Jvm.Cond.code x code maxLocals ret :: ws) room_1) (fun zz_ U => zz_ = #[(.int p1), (.int p2), (.int p3), (.int p4), (.int p5)] ∧ Z.Warmed39 U.vm ∧ U.heap = h0 ∧ CHv Z own_EL U.vm h0) (fun _ _ _ _ _ => True) (fun _ U o U' => ∃ v L, o = .returned v ∧ Q_rm0 Z p1 p2 p3 p4 p5 wa wb G1 h0 n0 v U'.heap L ∧ CHr Z own_EL U.vm U.heap U'.vm U'.heap ∧ ReturnedEndW U o U' L room_1.cells room_1.slots) := by
  refine MetFree.of_bodySF (plainFor_of_name pn_3) hisR ?_
  intro p e s m args below meth c s₁ Bd hml0 hP hK
  obtain ⟨rfl, hZ, hh, hCH⟩ := hP
  have hx := Bd.exec
  have hby := Bd.bytes
  have hlk := Bd.notSynchronized
  have hW : ∀ (i : Nat) (d : Jvm.Cond), tables_1[i]? = some d → d.before a0 Z = true := fun i d h => hw d (List.mem_of_getElem? h)
  have hml : c.maxLocals = 12 := hml0
  have hown : s.vm.findClass "com/example/sachfeld/sachfeld/LayoutRecordsProvenancePinLaw" = some m.cls := findClass_of_methodNamed Bd.named
  have hnm := (name_of_methodNamed Bd.named Bd.method).1
  have X0 : Stand p l e room_1 (s.setVm s.vm) m #[(.int p1), (.int p2), (.int p3), (.int p4), (.int p5)] below meth c s₁ [] 0 0 := Stand.of_body Bd
  have e0 : s₁.heap = h0 := by rw [← hh, Bd.state]; rfl
  have N0 := Fr.nil n0
  have hS0 : s.Since s.vm 0 := (State.WarmedH.refl s).since 0
  have CH0 : CHr Z own_EL s.vm s.heap s.vm h0 := by rw [hh]; exact CHr.refl hCH
  refine own_inc ?_
  refine own_ofc (fun t k => castTop (ef_rm0 m p1 p2 p3 p4 p5) k) ?_
  show own_gc p e below s _ _ _ _ _ (s₁.setTop (mkF m 0 #[.val (.int p1), .val (.int p2), .val (.int p3), .val (.int p4), .val (.int p5), .unset, .unset, .unset, .unset, .unset, .unset, .unset] []))
  refine own_ofc (fun t => XS.iloadN X0.here hx rfl (hb hby at_0) rfl) ?_
  show own_gc p e below s _ _ _ _ _ (s₁.setTop (mkF m 1 #[.val (.int p1), .val (.int p2), .val (.int p3), .val (.int p4), .val (.int p5), .unset, .unset, .unset, .unset, .unset, .unset, .unset] [(.int p1)]))
  refine own_ofc (fun t => XS.iconst X0.here hx rfl (hb hby at_1)) ?_
  show own_gc p e below s _ _ _ _ _ (s₁.setTop (mkF m 2 #[.val (.int p1), .val (.int p2), .val (.int p3), .val (.int p4), .val (.int p5), .unset, .unset, .unset, .unset, .unset, .unset, .unset] [(.int (3 : Int32)), (.int p1)]))
  refine own_ofc (fun t => XS.iand X0.here hx rfl (hb hby at_2) rfl) ?_
  show own_gc p e below s _ _ _ _ _ (s₁.setTop (mkF m 3 #[.val (.int p1), .val (.int p2), .val (.int p3), .val (.int p4), .val (.int p5), .unset, .unset, .unset, .unset, .unset, .unset, .unset] [(.int (p1 &&& (3 : Int32)))]))
  have wS : ∀ a ∈ Bundle.stringAtoms, a.before a0 Z = true := fun d hd => hw d ((by decide +kernel : ∀ d ∈ Bundle.stringAtoms, d ∈ tables_1) d hd)
  have hws : ∀ d ∈ StrChars.Road.words, d.before a0 Z = true := fun d hd => hw d ((by decide +kernel : ∀ d ∈ StrChars.Road.words, d ∈ tables_1) d hd)
  rcases own_and3 p1 with hi | hi | hi | hi
  · rw [hi]
    show own_gc p e below s _ _ _ _ _ (s₁.setTop (mkF m 3 #[.val (.int p1), .val (.int p2), .val (.int p3), .val (.int p4), .val (.int p5), .unset, .unset, .unset, .unset, .unset, .unset, .unset] [(.int (0 : Int32))]))
    refine own_ofc (fun t => XS.istore X0.here hx rfl (hb hby at_3) rfl (l' := #[.val (.int p1), .val (.int p2), .val (.int p3), .val (.int p4), .val (.int p5), .val (.int (0 : Int32)), .unset, .unset, .unset, .unset, .unset, .unset]) rfl) ?_
    show own_gc p e below s _ _ _ _ _ (s₁.setTop (mkF m 5 #[.val (.int p1), .val (.int p2), .val (.int p3), .val (.int p4), .val (.int p5), .val (.int (0 : Int32)), .unset, .unset, .unset, .unset, .unset, .unset] []))
    refine own_ofc (fun t => XS.iload X0.here hx rfl (hb hby at_5) rfl) ?_
    show own_gc p e below s _ _ _ _ _ (s₁.setTop (mkF m 7 #[.val (.int p1), .val (.int p2), .val (.int p3), .val (.int p4), .val (.int p5), .val (.int (0 : Int32)), .unset, .unset, .unset, .unset, .unset, .unset] [(.int (0 : Int32))]))
    have hb7_1 : (0 : Int32) = (0 : Int32) := by decide
    refine own_ofc (fun t => XS.ifNo X0.here hx rfl (hb hby at_7) rfl ((if0 _ _).trans (teq hb7_1).2)) ?_
    show own_gc p e below s _ _ _ _ _ (s₁.setTop (mkF m 10 #[.val (.int p1), .val (.int p2), .val (.int p3), .val (.int p4), .val (.int p5), .val (.int (0 : Int32)), .unset, .unset, .unset, .unset, .unset, .unset] []))
    refine own_ofc (fun t => XS.iconst X0.here hx rfl (hb hby at_10)) ?_
    show own_gc p e below s _ _ _ _ _ (s₁.setTop (mkF m 11 #[.val (.int p1), .val (.int p2), .val (.int p3), .val (.int p4), .val (.int p5), .val (.int (0 : Int32)), .unset, .unset, .unset, .unset, .unset, .unset] [(.int (0 : Int32))]))
    obtain ⟨T2, h2, k2, X2, e2, E2, A2, st2⟩ := newP X0 hx hZ (hW 0 _ rfl) e0 (g := (mkF m 11 #[.val (.int p1), .val (.int p2), .val (.int p3), .val (.int p4), .val (.int p5), .val (.int (0 : Int32)), .unset, .unset, .unset, .unset, .unset, .unset] [(.int (0 : Int32))])) rfl (hb hby at_11) rfl (by decide) (cap := 0) (by decide) (by decide) (by decide) (by decide)
    obtain ⟨b2, g2⟩ : ∃ z, z = h0.size := ⟨_, rfl⟩
    rw [← g2] at A2 st2
    refine own_ofc st2 ?_
    have lt2 := own_lt A2.lt
    have sz2 : h0.size ≤ h2.size := E2.1
    have O2 : Old Z n0 h2 := XO0.ext E2
    have z2 : n0 ≤ b2 := by have := XO0.1 ▸ XO0.2.1; omega
    have CHs2 := CHr.ext E2 CH0.1
    have Sf2 := Safe.ext E2 CH0.1 (Safe.new (Nat.le_of_eq g2.symm))
    have CH2 := CH0.trans CHs2
    have V2 : Arv Z h2 b2 k2 .char (0 : Int32) [] (.int (0 : Int32)) := Arv.new A2 (by decide)
    show own_gc p e below s _ _ _ _ _ (T2.setTop (mkF m 13 #[.val (.int p1), .val (.int p2), .val (.int p3), .val (.int p4), .val (.int p5), .val (.int (0 : Int32)), .unset, .unset, .unset, .unset, .unset, .unset] [(.ref b2)]))
    refine own_ofc (fun t => XS.astore X2.here hx rfl (hb hby at_13) rfl rfl (l' := #[.val (.int p1), .val (.int p2), .val (.int p3), .val (.int p4), .val (.int p5), .val (.int (0 : Int32)), .val (.ref b2), .unset, .unset, .unset, .unset, .unset]) rfl) ?_
    show own_gc p e below s _ _ _ _ _ (T2.setTop (mkF m 15 #[.val (.int p1), .val (.int p2), .val (.int p3), .val (.int p4), .val (.int p5), .val (.int (0 : Int32)), .val (.ref b2), .unset, .unset, .unset, .unset, .unset] []))
    refine own_ofc (fun t => XS.goto X2.here hx rfl (pc0 := 15) (pc' := 51) rfl (hb hby at_15) (by decide) (by decide)) ?_
    show own_gc p e below s _ _ _ _ _ (T2.setTop (mkF m 51 #[.val (.int p1), .val (.int p2), .val (.int p3), .val (.int p4), .val (.int p5), .val (.int (0 : Int32)), .val (.ref b2), .unset, .unset, .unset, .unset, .unset] []))
    refine own_ofc (fun t => XS.iload X2.here hx rfl (hb hby at_51) rfl) ?_
    show own_gc p e below s _ _ _ _ _ (T2.setTop (mkF m 53 #[.val (.int p1), .val (.int p2), .val (.int p3), .val (.int p4), .val (.int p5), .val (.int (0 : Int32)), .val (.ref b2), .unset, .unset, .unset, .unset, .unset] [(.int (0 : Int32))]))
    have hb53_3 : ¬ ((0 : Int32) < (0 : Int32)) := by decide
    refine own_ofc (fun t => XS.ifYes X2.here hx rfl (pc0 := 53) (pc' := 66) rfl (hb hby at_53) rfl ((if0 _ _).trans (flt hb53_3).2.2.2) (by decide) (by decide)) ?_
    show own_gc p e below s _ _ _ _ _ (T2.setTop (mkF m 66 #[.val (.int p1), .val (.int p2), .val (.int p3), .val (.int p4), .val (.int p5), .val (.int (0 : Int32)), .val (.ref b2), .unset, .unset, .unset, .unset, .unset] []))
    refine own_ofc (fun t => XS.iload X2.here hx rfl (hb hby at_66) rfl) ?_
    show own_gc p e below s _ _ _ _ _ (T2.setTop (mkF m 68 #[.val (.int p1), .val (.int p2), .val (.int p3), .val (.int p4), .val (.int p5), .val (.int (0 : Int32)), .val (.ref b2), .unset, .unset, .unset, .unset, .unset] [(.int (0 : Int32))]))
    refine own_ofc (fun t => XS.iconst X2.here hx rfl (hb hby at_68)) ?_
    show own_gc p e below s _ _ _ _ _ (T2.setTop (mkF m 69 #[.val (.int p1), .val (.int p2), .val (.int p3), .val (.int p4), .val (.int p5), .val (.int (0 : Int32)), .val (.ref b2), .unset, .unset, .unset, .unset, .unset] [(.int (1 : Int32)), (.int (0 : Int32))]))
    have hb69_4 : ¬ ((1 : Int32) < (0 : Int32)) := by decide
    refine own_ofc (fun t => XS.icmpYes X2.here hx rfl (pc0 := 69) (pc' := 82) rfl (hb hby at_69) rfl (flt hb69_4).2.2.2 (by decide) (by decide)) ?_
    show own_gc p e below s _ _ _ _ _ (T2.setTop (mkF m 82 #[.val (.int p1), .val (.int p2), .val (.int p3), .val (.int p4), .val (.int p5), .val (.int (0 : Int32)), .val (.ref b2), .unset, .unset, .unset, .unset, .unset] []))
    refine own_ofc (fun t => XS.iload X2.here hx rfl (hb hby at_82) rfl) ?_
    show own_gc p e below s _ _ _ _ _ (T2.setTop (mkF m 84 #[.val (.int p1), .val (.int p2), .val (.int p3), .val (.int p4), .val (.int p5), .val (.int (0 : Int32)), .val (.ref b2), .unset, .unset, .unset, .unset, .unset] [(.int (0 : Int32))]))
    refine own_ofc (fun t => XS.iconst X2.here hx rfl (hb hby at_84)) ?_
    show own_gc p e below s _ _ _ _ _ (T2.setTop (mkF m 85 #[.val (.int p1), .val (.int p2), .val (.int p3), .val (.int p4), .val (.int p5), .val (.int (0 : Int32)), .val (.ref b2), .unset, .unset, .unset, .unset, .unset] [(.int (2 : Int32)), (.int (0 : Int32))]))
    have hb85_5 : ¬ ((2 : Int32) < (0 : Int32)) := by decide
    refine own_ofc (fun t => XS.icmpYes X2.here hx rfl (pc0 := 85) (pc' := 98) rfl (hb hby at_85) rfl (flt hb85_5).2.2.2 (by decide) (by decide)) ?_
    show own_gc p e below s _ _ _ _ _ (T2.setTop (mkF m 98 #[.val (.int p1), .val (.int p2), .val (.int p3), .val (.int p4), .val (.int p5), .val (.int (0 : Int32)), .val (.ref b2), .unset, .unset, .unset, .unset, .unset] []))
    obtain ⟨T6, h6, X6, e6, E6, A6, D6, -, st6⟩ := newO X2 hx hZ hown (hW 1 _ rfl) (hW 2 _ rfl) (hW 3 _ rfl) e2 (g := (mkF m 98 #[.val (.int p1), .val (.int p2), .val (.int p3), .val (.int p4), .val (.int p5), .val (.int (0 : Int32)), .val (.ref b2), .unset, .unset, .unset, .unset, .unset] [])) rfl (hb hby at_98) (by decide) (by decide)
    obtain ⟨b6, g6⟩ : ∃ z, z = h2.size := ⟨_, rfl⟩
    rw [← g6] at A6 D6 st6
    refine own_ofc st6 ?_
    have lt6 := own_lt A6.lt
    have sz6 : h2.size ≤ h6.size := E6.1
    have O6 : Old Z n0 h6 := O2.ext E6
    have z6 : n0 ≤ b6 := by have := O2.1 ▸ O2.2.1; omega
    have CHs6 := CHr.ext E6 CH2.1
    have Sf6 := Safe.ext E6 CH2.1 (Safe.new (Nat.le_of_eq g6.symm))
    have CH6 := CH2.trans CHs6
    have F6_value : Fld Z h6 b6 "java/lang/String" "value" "[B" .null := D6 (Or.inr (hW 16 _ rfl)) (ty := (.array .byte)) (by decide)
    have F6_coder : Fld Z h6 b6 "java/lang/String" "coder" "B" (.int (0 : Int32)) := D6 (Or.inr (hW 17 _ rfl)) (ty := .byte) (by decide)
    show own_gc p e below s _ _ _ _ _ (T6.setTop (mkF m 101 #[.val (.int p1), .val (.int p2), .val (.int p3), .val (.int p4), .val (.int p5), .val (.int (0 : Int32)), .val (.ref b2), .unset, .unset, .unset, .unset, .unset] [(.ref b6)]))
    refine own_ofc (fun t => XS.dup X6.here hx rfl (hb hby at_101) rfl rfl) ?_
    show own_gc p e below s _ _ _ _ _ (T6.setTop (mkF m 102 #[.val (.int p1), .val (.int p2), .val (.int p3), .val (.int p4), .val (.int p5), .val (.int (0 : Int32)), .val (.ref b2), .unset, .unset, .unset, .unset, .unset] [(.ref b6), (.ref b6)]))
    refine own_ofc (fun t => XS.aload X6.here hx rfl (hb hby at_102) rfl rfl) ?_
    show own_gc p e below s _ _ _ _ _ (T6.setTop (mkF m 104 #[.val (.int p1), .val (.int p2), .val (.int p3), .val (.int p4), .val (.int p5), .val (.int (0 : Int32)), .val (.ref b2), .unset, .unset, .unset, .unset, .unset] [(.ref b2), (.ref b6), (.ref b6)]))
    have f7 : Arv Z h6 b2 k2 .char (0 : Int32) [] (.int (0 : Int32)) := (V2.ext E6)
    obtain ⟨_, _, ⟨T8, L8, k8, n8⟩, -, Xr8, hSr8, hgr8, ⟨Lc8, hQ8, l8, y8, z8, CHs8⟩, st8⟩ := X6.specialBackS hx (y := (⟨"java/lang/String", "<init>", "([C)V"⟩ : MethodName)) rfl hown (mvT hZ (hW 4 _ rfl)) (mvT hZ (hW 5 _ rfl)) (mvT hZ (hW 6 _ rfl)) (by decide) (backOfSH (W := 1) (rmN1 l Z a0 hw [] b6 b2 k2 h6 n0 hEL O6 (by omega) A6 F6_value F6_coder f7) hZ (hW 6 _ rfl) (hW 3 _ rfl) (by decide) (by decide) hEL CH6.1) (g := (mkF m 104 #[.val (.int p1), .val (.int p2), .val (.int p3), .val (.int p4), .val (.int p5), .val (.int (0 : Int32)), .val (.ref b2), .unset, .unset, .unset, .unset, .unset] [(.ref b2), (.ref b6), (.ref b6)])) rfl (by rw [hml]; rfl) (Steps.refl _) (a := b6) (argsL := [(.ref b2)]) (rest := [(.ref b6)]) (lenOf pd_3 rfl) rfl (by show 2 * 0 + _ ≤ _; exact Nat.le_of_eq rfl) (hb hby at_104) (fun _ _ => ⟨rfl, e6, (by decide : 2 + 4 ≤ _), (by decide : 4 + 8 ≤ _)⟩)
    dsimp only [Pt.U, Pt.locs, Pt.cells, Pt.slots] at Xr8 l8 y8 z8 st8 hQ8 hSr8 hgr8 CHs8
    obtain ⟨X8, hS8, hZ8, hown8⟩ := rebS hS0 (by rw [e6]; omega : 0 ≤ T6.heap.size) Xr8 hSr8 hgr8 hZ hown
    subst l8 y8 z8
    obtain ⟨rfl, Nq8, Kp8, Sx8⟩ := hQ8
    have N8 := Fr.app N0 Nq8
    refine own_ofc (fun t k => st8.trans k) ?_
    have CH8 := CH6.trans CHs8
    have sz8 : h6.size ≤ T8.heap.size := Kp8.1
    have O8 : Old Z n0 T8.heap := O6.keep Kp8 (allS (by omega) all0)
    have Ex8 : Exa Z T8.heap b6 "java/lang/String" := by obtain ⟨_, _, _, _, q, -⟩ := id Sx8; exact q
    show own_gc p e below s _ _ _ _ _ (T8.setTop (mkF m 107 #[.val (.int p1), .val (.int p2), .val (.int p3), .val (.int p4), .val (.int p5), .val (.int (0 : Int32)), .val (.ref b2), .unset, .unset, .unset, .unset, .unset] [(.ref b6)]))
    refine own_ofc (fun t => XS.astore X8.here hx rfl (hb hby at_107) rfl rfl (l' := #[.val (.int p1), .val (.int p2), .val (.int p3), .val (.int p4), .val (.int p5), .val (.int (0 : Int32)), .val (.ref b2), .val (.ref b6), .unset, .unset, .unset, .unset]) rfl) ?_
    show own_gc p e below s _ _ _ _ _ (T8.setTop (mkF m 109 #[.val (.int p1), .val (.int p2), .val (.int p3), .val (.int p4), .val (.int p5), .val (.int (0 : Int32)), .val (.ref b2), .val (.ref b6), .unset, .unset, .unset, .unset] []))
    refine own_ofc (fun t => XS.iload X8.here hx rfl (hb hby at_109) rfl) ?_
    show own_gc p e below s _ _ _ _ _ (T8.setTop (mkF m 111 #[.val (.int p1), .val (.int p2), .val (.int p3), .val (.int p4), .val (.int p5), .val (.int (0 : Int32)), .val (.ref b2), .val (.ref b6), .unset, .unset, .unset, .unset] [(.int p5)]))
    refine own_ofc (fun t => XS.iconst X8.here hx rfl (hb hby at_111)) ?_
    show own_gc p e below s _ _ _ _ _ (T8.setTop (mkF m 112 #[.val (.int p1), .val (.int p2), .val (.int p3), .val (.int p4), .val (.int p5), .val (.int (0 : Int32)), .val (.ref b2), .val (.ref b6), .unset, .unset, .unset, .unset] [(.int (1 : Int32)), (.int p5)]))
    refine own_ofc (fun t => XS.iand X8.here hx rfl (hb hby at_112) rfl) ?_
    show own_gc p e below s _ _ _ _ _ (T8.setTop (mkF m 113 #[.val (.int p1), .val (.int p2), .val (.int p3), .val (.int p4), .val (.int p5), .val (.int (0 : Int32)), .val (.ref b2), .val (.ref b6), .unset, .unset, .unset, .unset] [(.int (p5 &&& (1 : Int32)))]))
    refine own_use X8 (h := T8.heap) (g := fun r9 : Addr => (mkF m 125 #[.val (.int p1), .val (.int p2), .val (.int p3), .val (.int p4), .val (.int p5), .val (.int (0 : Int32)), .val (.ref b2), .val (.ref b6), .unset, .unset, .unset, .unset] [(.ref r9)])) (G := own_gc p e below s _ _ _ _ _) ?_ ?_
    · intro r9 T9 X9 e9
      show own_gc p e below s _ _ _ _ _ (T9.setTop (mkF m 125 #[.val (.int p1), .val (.int p2), .val (.int p3), .val (.int p4), .val (.int p5), .val (.int (0 : Int32)), .val (.ref b2), .val (.ref b6), .unset, .unset, .unset, .unset] [(.ref r9)]))
      refine own_ofc (fun t => XS.astore X9.here hx rfl (hb hby at_125) rfl rfl (l' := #[.val (.int p1), .val (.int p2), .val (.int p3), .val (.int p4), .val (.int p5), .val (.int (0 : Int32)), .val (.ref b2), .val (.ref b6), .val (.ref r9), .unset, .unset, .unset]) rfl) ?_
      show own_gc p e below s _ _ _ _ _ (T9.setTop (mkF m 127 #[.val (.int p1), .val (.int p2), .val (.int p3), .val (.int p4), .val (.int p5), .val (.int (0 : Int32)), .val (.ref b2), .val (.ref b6), .val (.ref r9), .unset, .unset, .unset] []))
      refine own_ofc (fun t => XS.iload X9.here hx rfl (hb hby at_127) rfl) ?_
      show own_gc p e below s _ _ _ _ _ (T9.setTop (mkF m 129 #[.val (.int p1), .val (.int p2), .val (.int p3), .val (.int p4), .val (.int p5), .val (.int (0 : Int32)), .val (.ref b2), .val (.ref b6), .val (.ref r9), .unset, .unset, .unset] [(.int p5)]))
      refine own_ofc (fun t => XS.iconst X9.here hx rfl (hb hby at_129)) ?_
      show own_gc p e below s _ _ _ _ _ (T9.setTop (mkF m 130 #[.val (.int p1), .val (.int p2), .val (.int p3), .val (.int p4), .val (.int p5), .val (.int (0 : Int32)), .val (.ref b2), .val (.ref b6), .val (.ref r9), .unset, .unset, .unset] [(.int (2 : Int32)), (.int p5)]))
      refine own_ofc (fun t => XS.iand X9.here hx rfl (hb hby at_130) rfl) ?_
      show own_gc p e below s _ _ _ _ _ (T9.setTop (mkF m 131 #[.val (.int p1), .val (.int p2), .val (.int p3), .val (.int p4), .val (.int p5), .val (.int (0 : Int32)), .val (.ref b2), .val (.ref b6), .val (.ref r9), .unset, .unset, .unset] [(.int (p5 &&& (2 : Int32)))]))
      refine own_use X9 (h := T8.heap) (g := fun z10 : Int32 => (mkF m 139 #[.val (.int p1), .val (.int p2), .val (.int p3), .val (.int p4), .val (.int p5), .val (.int (0 : Int32)), .val (.ref b2), .val (.ref b6), .val (.ref r9), .unset, .unset, .unset] [(.int z10)])) (G := own_gc p e below s _ _ _ _ _) ?_ ?_
      · intro z10 T10 X10 e10
        show own_gc p e below s _ _ _ _ _ (T10.setTop (mkF m 139 #[.val (.int p1), .val (.int p2), .val (.int p3), .val (.int p4), .val (.int p5), .val (.int (0 : Int32)), .val (.ref b2), .val (.ref b6), .val (.ref r9), .unset, .unset, .unset] [(.int z10)]))
        refine own_ofc (fun t => XS.istore X10.here hx rfl (hb hby at_139) rfl (l' := #[.val (.int p1), .val (.int p2), .val (.int p3), .val (.int p4), .val (.int p5), .val (.int (0 : Int32)), .val (.ref b2), .val (.ref b6), .val (.ref r9), .val (.int z10), .unset, .unset]) rfl) ?_
        show own_gc p e below s _ _ _ _ _ (T10.setTop (mkF m 141 #[.val (.int p1), .val (.int p2), .val (.int p3), .val (.int p4), .val (.int p5), .val (.int (0 : Int32)), .val (.ref b2), .val (.ref b6), .val (.ref r9), .val (.int z10), .unset, .unset] []))
        obtain ⟨T11, h11, X11, e11, E11, A11, D11, -, st11⟩ := newO X10 hx hZ8 hown8 (hW 25 _ rfl) (hW 26 _ rfl) (hW 27 _ rfl) e10 (g := (mkF m 141 #[.val (.int p1), .val (.int p2), .val (.int p3), .val (.int p4), .val (.int p5), .val (.int (0 : Int32)), .val (.ref b2), .val (.ref b6), .val (.ref r9), .val (.int z10), .unset, .unset] [])) rfl (hb hby at_141) (by decide) (by decide)
        obtain ⟨b11, g11⟩ : ∃ z, z = T8.heap.size := ⟨_, rfl⟩
        rw [← g11] at A11 D11 st11
        refine own_ofc st11 ?_
        have lt11 := own_lt A11.lt
        have sz11 : T8.heap.size ≤ h11.size := E11.1
        have O11 : Old Z n0 h11 := O8.ext E11
        have z11 : n0 ≤ b11 := by have := O8.1 ▸ O8.2.1; omega
        have CHs11 := CHr.ext E11 CH8.1
        have Sf11 := Safe.ext E11 CH8.1 (Safe.new (Nat.le_of_eq g11.symm))
        have CH11 := CH8.trans CHs11
        have F11_groupSubfields : Fld Z h11 b11 "com/example/sachfeld/sachfeld/SubjectField$Layout" "groupSubfields" "Ljava/util/Map;" .null := D11 (Or.inr (hW 38 _ rfl)) (ty := (.object "java/util/Map")) (by decide)
        have F11_provenanceCodes : Fld Z h11 b11 "com/example/sachfeld/sachfeld/SubjectField$Layout" "provenanceCodes" "Ljava/lang/String;" .null := D11 (Or.inr (hW 40 _ rfl)) (ty := (.object "java/lang/String")) (by decide)
        have F11_manyDdcGroups : Fld Z h11 b11 "com/example/sachfeld/sachfeld/SubjectField$Layout" "manyDdcGroups" "Lcom/example/sachfeld/sachfeld/Rule;" .null := D11 (Or.inr (hW 42 _ rfl)) (ty := (.object "com/example/sachfeld/sachfeld/Rule")) (by decide)
        have F11_repeatable : Fld Z h11 b11 "com/example/sachfeld/sachfeld/SubjectField$Layout" "repeatable" "Z" (.int (0 : Int32)) := D11 (Or.inr (hW 44 _ rfl)) (ty := .boolean) (by decide)
        show own_gc p e below s _ _ _ _ _ (T11.setTop (mkF m 144 #[.val (.int p1), .val (.int p2), .val (.int p3), .val (.int p4), .val (.int p5), .val (.int (0 : Int32)), .val (.ref b2), .val (.ref b6), .val (.ref r9), .val (.int z10), .unset, .unset] [(.ref b11)]))
        refine own_ofc (fun t => XS.dup X11.here hx rfl (hb hby at_144) rfl rfl) ?_
        show own_gc p e below s _ _ _ _ _ (T11.setTop (mkF m 145 #[.val (.int p1), .val (.int p2), .val (.int p3), .val (.int p4), .val (.int p5), .val (.int (0 : Int32)), .val (.ref b2), .val (.ref b6), .val (.ref r9), .val (.int z10), .unset, .unset] [(.ref b11), (.ref b11)]))
        refine own_ofc (fun t => XS.aconstNull X11.here hx rfl (hb hby at_145)) ?_
        show own_gc p e below s _ _ _ _ _ (T11.setTop (mkF m 146 #[.val (.int p1), .val (.int p2), .val (.int p3), .val (.int p4), .val (.int p5), .val (.int (0 : Int32)), .val (.ref b2), .val (.ref b6), .val (.ref r9), .val (.int z10), .unset, .unset] [.null, (.ref b11), (.ref b11)]))
        refine own_ofc (fun t => XS.aload X11.here hx rfl (hb hby at_146) rfl rfl) ?_
        show own_gc p e below s _ _ _ _ _ (T11.setTop (mkF m 148 #[.val (.int p1), .val (.int p2), .val (.int p3), .val (.int p4), .val (.int p5), .val (.int (0 : Int32)), .val (.ref b2), .val (.ref b6), .val (.ref r9), .val (.int z10), .unset, .unset] [(.ref b6), .null, (.ref b11), (.ref b11)]))
        refine own_ofc (fun t => XS.aload X11.here hx rfl (hb hby at_148) rfl rfl) ?_
        show own_gc p e below s _ _ _ _ _ (T11.setTop (mkF m 150 #[.val (.int p1), .val (.int p2), .val (.int p3), .val (.int p4), .val (.int p5), .val (.int (0 : Int32)), .val (.ref b2), .val (.ref b6), .val (.ref r9), .val (.int z10), .unset, .unset] [(.ref r9), (.ref b6), .null, (.ref b11), (.ref b11)]))
        refine own_ofc (fun t => XS.iload X11.here hx rfl (hb hby at_150) rfl) ?_
        show own_gc p e below s _ _ _ _ _ (T11.setTop (mkF m 152 #[.val (.int p1), .val (.int p2), .val (.int p3), .val (.int p4), .val (.int p5), .val (.int (0 : Int32)), .val (.ref b2), .val (.ref b6), .val (.ref r9), .val (.int z10), .unset, .unset] [(.int z10), (.ref r9), (.ref b6), .null, (.ref b11), (.ref b11)]))
        obtain ⟨_, _, ⟨T12, L12, k12, n12⟩, -, X12, ⟨Lc12, hQ12, l12, y12, z12⟩, st12⟩ := X11.specialBack hx (y := (⟨"com/example/sachfeld/sachfeld/SubjectField$Layout", "<init>", "(Ljava/util/Map;Ljava/lang/String;Lcom/example/sachfeld/sachfeld/Rule;Z)V"⟩ : MethodName)) rfl hown8 (mvT hZ8 (hW 28 _ rfl)) (mvT hZ8 (hW 29 _ rfl)) (mvT hZ8 (hW 30 _ rfl)) (by decide) (backOf (W := 1) (rmL l Z a0 hw [] b11 b6 r9 z10 h11 n0 O11 (by omega) A11 F11_groupSubfields F11_provenanceCodes F11_manyDdcGroups F11_repeatable) hZ8 (hW 30 _ rfl) (hW 27 _ rfl) (by decide) (by decide)) (g := (mkF m 152 #[.val (.int p1), .val (.int p2), .val (.int p3), .val (.int p4), .val (.int p5), .val (.int (0 : Int32)), .val (.ref b2), .val (.ref b6), .val (.ref r9), .val (.int z10), .unset, .unset] [(.int z10), (.ref r9), (.ref b6), .null, (.ref b11), (.ref b11)])) rfl (by rw [hml]; rfl) (Steps.refl _) (a := b11) (argsL := [.null, (.ref b6), (.ref r9), (.int z10)]) (rest := [(.ref b11)]) (lenOf pd_4 rfl) rfl (by show 2 * 0 + _ ≤ _; exact Nat.le_of_eq rfl) (hb hby at_152) (fun _ _ => ⟨rfl, e11, (by decide : 7 + 0 ≤ _), (by decide : 16 + 0 ≤ _)⟩)
        dsimp only [Pt.U, Pt.locs, Pt.cells, Pt.slots] at X12 l12 y12 z12 st12 hQ12
        subst l12 y12 z12
        obtain ⟨rfl, Nq12, Kp12, Fp12⟩ := hQ12
        have N12 := Fr.app N8 Nq12
        refine own_ofc (fun t k => st12.trans k) ?_
        have CHs12 := CHr.keep Kp12 (allS Sf11 all0) CH11.1
        have CH12 := CH11.trans CHs12
        have sz12 : h11.size ≤ T12.heap.size := Kp12.1
        have O12 : Old Z n0 T12.heap := O11.keep Kp12 (allS (by omega) all0)
        show own_gc p e below s _ _ _ _ _ (T12.setTop (mkF m 155 #[.val (.int p1), .val (.int p2), .val (.int p3), .val (.int p4), .val (.int p5), .val (.int (0 : Int32)), .val (.ref b2), .val (.ref b6), .val (.ref r9), .val (.int z10), .unset, .unset] [(.ref b11)]))
        refine own_ofc (fun t => XS.astore X12.here hx rfl (hb hby at_155) rfl rfl (l' := #[.val (.int p1), .val (.int p2), .val (.int p3), .val (.int p4), .val (.int p5), .val (.int (0 : Int32)), .val (.ref b2), .val (.ref b6), .val (.ref r9), .val (.int z10), .val (.ref b11), .unset]) rfl) ?_
        show own_gc p e below s _ _ _ _ _ (T12.setTop (mkF m 157 #[.val (.int p1), .val (.int p2), .val (.int p3), .val (.int p4), .val (.int p5), .val (.int (0 : Int32)), .val (.ref b2), .val (.ref b6), .val (.ref r9), .val (.int z10), .val (.ref b11), .unset] []))
        refine own_ofc (fun t => XS.aload X12.here hx rfl (hb hby at_157) rfl rfl) ?_
        show own_gc p e below s _ _ _ _ _ (T12.setTop (mkF m 159 #[.val (.int p1), .val (.int p2), .val (.int p3), .val (.int p4), .val (.int p5), .val (.int (0 : Int32)), .val (.ref b2), .val (.ref b6), .val (.ref r9), .val (.int z10), .val (.ref b11), .unset] [(.ref b11)]))
        have f13 : own_str Z T12.heap b6 ([] : List Int32) := ((Sx8.ext E11).keep1 Kp12 (own_ne (by omega)) A11 (hW 26 _ rfl))
        have f15 : Exa Z T12.heap b11 "com/example/sachfeld/sachfeld/SubjectField$Layout" := (A11.keep Kp12)
        obtain ⟨cq14, kq14, q14a, q14b, q14c⟩ := isOf hZ8 rfl f15
        obtain ⟨_, _, ⟨T14, L14, k14, n14⟩, -, X14, ⟨Lc14, hQ14, l14, y14, z14⟩, st14⟩ := X12.virtualBack hx (y := (⟨"com/example/sachfeld/sachfeld/SubjectField$Layout", "recordsProvenance", "()Z"⟩ : MethodName)) (z := (⟨"com/example/sachfeld/sachfeld/SubjectField$Layout", "recordsProvenance", "()Z"⟩ : MethodName)) hown8 (mvT hZ8 (hW 45 _ rfl)) (mvT hZ8 (hW 46 _ rfl)) (notFace_of_selects (args := #[]) (mvT hZ8 (hW 48 _ rfl))) (mvT hZ8 (hW 48 _ rfl)) (mvT hZ8 (hW 47 _ rfl)) (by decide) (backOf (W := 0) (rmP l Z a0 hw [] b11 b6 ([] : List Int32) T12.heap n0 O12 Fp12 f13 (by simp) (Nat.le_of_ble_eq_true rfl)) hZ8 (hW 49 _ rfl) (hW 27 _ rfl) (by decide) (by decide)) q14a q14c (g := (mkF m 159 #[.val (.int p1), .val (.int p2), .val (.int p3), .val (.int p4), .val (.int p5), .val (.int (0 : Int32)), .val (.ref b2), .val (.ref b6), .val (.ref r9), .val (.int z10), .val (.ref b11), .unset] [(.ref b11)])) rfl (by rw [hml]; rfl) (Steps.refl _) (argsL := []) (rest := []) (lenOf pd_2 rfl) rfl (by show 2 * 0 + _ ≤ _; exact Nat.le_of_eq rfl) (hb hby at_159) (fun _ _ => ⟨rfl, rfl, (by decide : 7 + 0 ≤ _), (by decide : 16 + 0 ≤ _)⟩)
        dsimp only [Pt.U, Pt.locs, Pt.cells, Pt.slots] at X14 l14 y14 z14 st14 hQ14
        subst l14 y14 z14
        obtain ⟨rfl, Nq14, eh14⟩ := hQ14
        have N14 := Fr.app N12 Nq14
        refine own_ofc (fun t k => st14.trans k) ?_
        show own_gc p e below s _ _ _ _ _ (T14.setTop (mkF m 162 #[.val (.int p1), .val (.int p2), .val (.int p3), .val (.int p4), .val (.int p5), .val (.int (0 : Int32)), .val (.ref b2), .val (.ref b6), .val (.ref r9), .val (.int z10), .val (.ref b11), .unset] [(.int (0 : Int32))]))
        refine own_ofc (fun t => XS.istore X14.here hx rfl (hb hby at_162) rfl (l' := #[.val (.int p1), .val (.int p2), .val (.int p3), .val (.int p4), .val (.int p5), .val (.int (0 : Int32)), .val (.ref b2), .val (.ref b6), .val (.ref r9), .val (.int z10), .val (.ref b11), .val (.int (0 : Int32))]) rfl) ?_
        show own_gc p e below s _ _ _ _ _ (T14.setTop (mkF m 164 #[.val (.int p1), .val (.int p2), .val (.int p3), .val (.int p4), .val (.int p5), .val (.int (0 : Int32)), .val (.ref b2), .val (.ref b6), .val (.ref r9), .val (.int z10), .val (.ref b11), .val (.int (0 : Int32))] []))
        refine own_ofc (fun t => XS.iload X14.here hx rfl (hb hby at_164) rfl) ?_
        show own_gc p e below s _ _ _ _ _ (T14.setTop (mkF m 166 #[.val (.int p1), .val (.int p2), .val (.int p3), .val (.int p4), .val (.int p5), .val (.int (0 : Int32)), .val (.ref b2), .val (.ref b6), .val (.ref r9), .val (.int z10), .val (.ref b11), .val (.int (0 : Int32))] [(.int (0 : Int32))]))
        refine own_ofc (fun t => XS.iload X14.here hx rfl (hb hby at_166) rfl) ?_
        show own_gc p e below s _ _ _ _ _ (T14.setTop (mkF m 168 #[.val (.int p1), .val (.int p2), .val (.int p3), .val (.int p4), .val (.int p5), .val (.int (0 : Int32)), .val (.ref b2), .val (.ref b6), .val (.ref r9), .val (.int z10), .val (.ref b11), .val (.int (0 : Int32))] [(.int (0 : Int32)), (.int (0 : Int32))]))
        have hb168_16 : (0 : Int32) = (0 : Int32) := by decide
        refine own_ofc (fun t => XS.ifYes X14.here hx rfl (pc0 := 168) (pc' := 175) rfl (hb hby at_168) rfl ((if0 _ _).trans (teq hb168_16).1) (by decide) (by decide)) ?_
        show own_gc p e below s _ _ _ _ _ (T14.setTop (mkF m 175 #[.val (.int p1), .val (.int p2), .val (.int p3), .val (.int p4), .val (.int p5), .val (.int (0 : Int32)), .val (.ref b2), .val (.ref b6), .val (.ref r9), .val (.int z10), .val (.ref b11), .val (.int (0 : Int32))] [(.int (0 : Int32))]))
        refine own_ofc (fun t => XS.iconst X14.here hx rfl (hb hby at_175)) ?_
        show own_gc p e below s _ _ _ _ _ (T14.setTop (mkF m 176 #[.val (.int p1), .val (.int p2), .val (.int p3), .val (.int p4), .val (.int p5), .val (.int (0 : Int32)), .val (.ref b2), .val (.ref b6), .val (.ref r9), .val (.int z10), .val (.ref b11), .val (.int (0 : Int32))] [(.int (0 : Int32)), (.int (0 : Int32))]))
        have hb176_17 : (0 : Int32) = (0 : Int32) := by decide
        refine own_ofc (fun t => XS.icmpNo X14.here hx rfl (hb hby at_176) rfl (teq hb176_17).2) ?_
        show own_gc p e below s _ _ _ _ _ (T14.setTop (mkF m 179 #[.val (.int p1), .val (.int p2), .val (.int p3), .val (.int p4), .val (.int p5), .val (.int (0 : Int32)), .val (.ref b2), .val (.ref b6), .val (.ref r9), .val (.int z10), .val (.ref b11), .val (.int (0 : Int32))] []))
        refine own_ofc (fun t => XS.iconst X14.here hx rfl (hb hby at_179)) ?_
        show own_gc p e below s _ _ _ _ _ (T14.setTop (mkF m 180 #[.val (.int p1), .val (.int p2), .val (.int p3), .val (.int p4), .val (.int p5), .val (.int (0 : Int32)), .val (.ref b2), .val (.ref b6), .val (.ref r9), .val (.int z10), .val (.ref b11), .val (.int (0 : Int32))] [(.int (1 : Int32))]))
        refine own_ofc (fun t => XS.goto X14.here hx rfl (pc0 := 180) (pc' := 184) rfl (hb hby at_180) (by decide) (by decide)) ?_
        show own_gc p e below s _ _ _ _ _ (T14.setTop (mkF m 184 #[.val (.int p1), .val (.int p2), .val (.int p3), .val (.int p4), .val (.int p5), .val (.int (0 : Int32)), .val (.ref b2), .val (.ref b6), .val (.ref r9), .val (.int z10), .val (.ref b11), .val (.int (0 : Int32))] [(.int (1 : Int32))]))
        refine own_retc X14 hx hlk hS8 (by rw [eh14]; omega : T8.heap.size ≤ T14.heap.size) hZ8 hEL (by rw [eh14]; exact CH12) Bd.returns rfl (Or.inl ⟨rfl, by simp, _, rfl⟩) (hb hby at_184) (by decide) (by decide) ?_
        rw [eh14]
        exact ⟨rfl, N14⟩
      · intro j10
        show own_gc p e below s _ _ _ _ _ (T9.setTop (mkF m 131 #[.val (.int p1), .val (.int p2), .val (.int p3), .val (.int p4), .val (.int p5), .val (.int (0 : Int32)), .val (.ref b2), .val (.ref b6), .val (.ref r9), .unset, .unset, .unset] [(.int (p5 &&& (2 : Int32)))]))
        by_cases hb131_18 : (p5 &&& (2 : Int32)) = (0 : Int32)
        · refine own_ofc (fun t => XS.ifYes X9.here hx rfl (pc0 := 131) (pc' := 138) rfl (hb hby at_131) rfl ((if0 _ _).trans (teq hb131_18).1) (by decide) (by decide)) ?_
          show own_gc p e below s _ _ _ _ _ (T9.setTop (mkF m 138 #[.val (.int p1), .val (.int p2), .val (.int p3), .val (.int p4), .val (.int p5), .val (.int (0 : Int32)), .val (.ref b2), .val (.ref b6), .val (.ref r9), .unset, .unset, .unset] []))
          refine own_ofc (fun t => XS.iconst X9.here hx rfl (hb hby at_138)) ?_
          show own_gc p e below s _ _ _ _ _ (T9.setTop (mkF m 139 #[.val (.int p1), .val (.int p2), .val (.int p3), .val (.int p4), .val (.int p5), .val (.int (0 : Int32)), .val (.ref b2), .val (.ref b6), .val (.ref r9), .unset, .unset, .unset] [(.int (0 : Int32))]))
          exact j10 _ _ X9 e9
        · refine own_ofc (fun t => XS.ifNo X9.here hx rfl (hb hby at_131) rfl ((if0 _ _).trans (feq hb131_18).1)) ?_
          show own_gc p e below s _ _ _ _ _ (T9.setTop (mkF m 134 #[.val (.int p1), .val (.int p2), .val (.int p3), .val (.int p4), .val (.int p5), .val (.int (0 : Int32)), .val (.ref b2), .val (.ref b6), .val (.ref r9), .unset, .unset, .unset] []))
          refine own_ofc (fun t => XS.iconst X9.here hx rfl (hb hby at_134)) ?_
          show own_gc p e below s _ _ _ _ _ (T9.setTop (mkF m 135 #[.val (.int p1), .val (.int p2), .val (.int p3), .val (.int p4), .val (.int p5), .val (.int (0 : Int32)), .val (.ref b2), .val (.ref b6), .val (.ref r9), .unset, .unset, .unset] [(.int (1 : Int32))]))
          refine own_ofc (fun t => XS.goto X9.here hx rfl (pc0 := 135) (pc' := 139) rfl (hb hby at_135) (by decide) (by decide)) ?_
          show own_gc p e below s _ _ _ _ _ (T9.setTop (mkF m 139 #[.val (.int p1), .val (.int p2), .val (.int p3), .val (.int p4), .val (.int p5), .val (.int (0 : Int32)), .val (.ref b2), .val (.ref b6), .val (.ref r9), .unset, .unset, .unset] [(.int (1 : Int32))]))
          exact j10 _ _ X9 e9
    · intro j9
      show own_gc p e below s _ _ _ _ _ (T8.setTop (mkF m 113 #[.val (.int p1), .val (.int p2), .val (.int p3), .val (.int p4), .val (.int p5), .val (.int (0 : Int32)), .val (.ref b2), .val (.ref b6), .unset, .unset, .unset, .unset] [(.int (p5 &&& (1 : Int32)))]))
      by_cases hb113_19 : (p5 &&& (1 : Int32)) = (0 : Int32)
      · refine own_ofc (fun t => XS.ifYes X8.here hx rfl (pc0 := 113) (pc' := 122) rfl (hb hby at_113) rfl ((if0 _ _).trans (teq hb113_19).1) (by decide) (by decide)) ?_
        show own_gc p e below s _ _ _ _ _ (T8.setTop (mkF m 122 #[.val (.int p1), .val (.int p2), .val (.int p3), .val (.int p4), .val (.int p5), .val (.int (0 : Int32)), .val (.ref b2), .val (.ref b6), .unset, .unset, .unset, .unset] []))
        obtain ⟨T20, X20, e20, st20⟩ := getS2 X8 hx hZ8 hown8 (host := "") (Or.inl (hW 22 _ rfl)) Via.refl rfl (S_MANY_GROUPS.ext O8.2) (g := (mkF m 122 #[.val (.int p1), .val (.int p2), .val (.int p3), .val (.int p4), .val (.int p5), .val (.int (0 : Int32)), .val (.ref b2), .val (.ref b6), .unset, .unset, .unset, .unset] [])) rfl (hb hby at_122)
        refine own_ofc st20 ?_
        show own_gc p e below s _ _ _ _ _ (T20.setTop (mkF m 125 #[.val (.int p1), .val (.int p2), .val (.int p3), .val (.int p4), .val (.int p5), .val (.int (0 : Int32)), .val (.ref b2), .val (.ref b6), .unset, .unset, .unset, .unset] [(.ref wa)]))
        exact j9 _ _ X20 e20
      · refine own_ofc (fun t => XS.ifNo X8.here hx rfl (hb hby at_113) rfl ((if0 _ _).trans (feq hb113_19).1)) ?_
        show own_gc p e below s _ _ _ _ _ (T8.setTop (mkF m 116 #[.val (.int p1), .val (.int p2), .val (.int p3), .val (.int p4), .val (.int p5), .val (.int (0 : Int32)), .val (.ref b2), .val (.ref b6), .unset, .unset, .unset, .unset] []))
        obtain ⟨T21, X21, e21, st21⟩ := getS2 X8 hx hZ8 hown8 (host := "") (Or.inl (hW 66 _ rfl)) Via.refl rfl (S_TOO_MANY_GROUPS.ext O8.2) (g := (mkF m 116 #[.val (.int p1), .val (.int p2), .val (.int p3), .val (.int p4), .val (.int p5), .val (.int (0 : Int32)), .val (.ref b2), .val (.ref b6), .unset, .unset, .unset, .unset] [])) rfl (hb hby at_116)
        refine own_ofc st21 ?_
        show own_gc p e below s _ _ _ _ _ (T21.setTop (mkF m 119 #[.val (.int p1), .val (.int p2), .val (.int p3), .val (.int p4), .val (.int p5), .val (.int (0 : Int32)), .val (.ref b2), .val (.ref b6), .unset, .unset, .unset, .unset] [(.ref wb)]))
        refine own_ofc (fun t => XS.goto X21.here hx rfl (pc0 := 119) (pc' := 125) rfl (hb hby at_119) (by decide) (by decide)) ?_
        show own_gc p e below s _ _ _ _ _ (T21.setTop (mkF m 125 #[.val (.int p1), .val (.int p2), .val (.int p3), .val (.int p4), .val (.int p5), .val (.int (0 : Int32)), .val (.ref b2), .val (.ref b6), .unset, .unset, .unset, .unset] [(.ref wb)]))
        exact j9 _ _ X21 e21
  · rw [hi]
    show own_gc p e below s _ _ _ _ _ (s₁.setTop (mkF m 3 #[.val (.int p1), .val (.int p2), .val (.int p3), .val (.int p4), .val (.int p5), .unset, .unset, .unset, .unset, .unset, .unset, .unset] [(.int (1 : Int32))]))
    refine own_ofc (fun t => XS.istore X0.here hx rfl (hb hby at_3) rfl (l' := #[.val (.int p1), .val (.int p2), .val (.int p3), .val (.int p4), .val (.int p5), .val (.int (1 : Int32)), .unset, .unset, .unset, .unset, .unset, .unset]) rfl) ?_
    show own_gc p e below s _ _ _ _ _ (s₁.setTop (mkF m 5 #[.val (.int p1), .val (.int p2), .val (.int p3), .val (.int p4), .val (.int p5), .val (.int (1 : Int32)), .unset, .unset, .unset, .unset, .unset, .unset] []))
    refine own_ofc (fun t => XS.iload X0.here hx rfl (hb hby at_5) rfl) ?_
    show own_gc p e below s _ _ _ _ _ (s₁.setTop (mkF m 7 #[.val (.int p1), .val (.int p2), .val (.int p3), .val (.int p4), .val (.int p5), .val (.int (1 : Int32)), .unset, .unset, .unset, .unset, .unset, .unset] [(.int (1 : Int32))]))
    have hb7_22 : ¬ ((1 : Int32) = (0 : Int32)) := by decide
    refine own_ofc (fun t => XS.ifYes X0.here hx rfl (pc0 := 7) (pc' := 18) rfl (hb hby at_7) rfl ((if0 _ _).trans (feq hb7_22).2) (by decide) (by decide)) ?_
    show own_gc p e below s _ _ _ _ _ (s₁.setTop (mkF m 18 #[.val (.int p1), .val (.int p2), .val (.int p3), .val (.int p4), .val (.int p5), .val (.int (1 : Int32)), .unset, .unset, .unset, .unset, .unset, .unset] []))
    refine own_ofc (fun t => XS.iload X0.here hx rfl (hb hby at_18) rfl) ?_
    show own_gc p e below s _ _ _ _ _ (s₁.setTop (mkF m 20 #[.val (.int p1), .val (.int p2), .val (.int p3), .val (.int p4), .val (.int p5), .val (.int (1 : Int32)), .unset, .unset, .unset, .unset, .unset, .unset] [(.int (1 : Int32))]))
    refine own_ofc (fun t => XS.iconst X0.here hx rfl (hb hby at_20)) ?_
    show own_gc p e below s _ _ _ _ _ (s₁.setTop (mkF m 21 #[.val (.int p1), .val (.int p2), .val (.int p3), .val (.int p4), .val (.int p5), .val (.int (1 : Int32)), .unset, .unset, .unset, .unset, .unset, .unset] [(.int (1 : Int32)), (.int (1 : Int32))]))
    have hb21_23 : (1 : Int32) = (1 : Int32) := by decide
    refine own_ofc (fun t => XS.icmpNo X0.here hx rfl (hb hby at_21) rfl (teq hb21_23).2) ?_
    show own_gc p e below s _ _ _ _ _ (s₁.setTop (mkF m 24 #[.val (.int p1), .val (.int p2), .val (.int p3), .val (.int p4), .val (.int p5), .val (.int (1 : Int32)), .unset, .unset, .unset, .unset, .unset, .unset] []))
    refine own_ofc (fun t => XS.iconst X0.here hx rfl (hb hby at_24)) ?_
    show own_gc p e below s _ _ _ _ _ (s₁.setTop (mkF m 25 #[.val (.int p1), .val (.int p2), .val (.int p3), .val (.int p4), .val (.int p5), .val (.int (1 : Int32)), .unset, .unset, .unset, .unset, .unset, .unset] [(.int (1 : Int32))]))
    obtain ⟨T24, h24, k24, X24, e24, E24, A24, st24⟩ := newP X0 hx hZ (hW 0 _ rfl) e0 (g := (mkF m 25 #[.val (.int p1), .val (.int p2), .val (.int p3), .val (.int p4), .val (.int p5), .val (.int (1 : Int32)), .unset, .unset, .unset, .unset, .unset, .unset] [(.int (1 : Int32))])) rfl (hb hby at_25) rfl (by decide) (cap := 1) (by decide) (by decide) (by decide) (by decide)
    obtain ⟨b24, g24⟩ : ∃ z, z = h0.size := ⟨_, rfl⟩
    rw [← g24] at A24 st24
    refine own_ofc st24 ?_
    have lt24 := own_lt A24.lt
    have sz24 : h0.size ≤ h24.size := E24.1
    have O24 : Old Z n0 h24 := XO0.ext E24
    have z24 : n0 ≤ b24 := by have := XO0.1 ▸ XO0.2.1; omega
    have CHs24 := CHr.ext E24 CH0.1
    have Sf24 := Safe.ext E24 CH0.1 (Safe.new (Nat.le_of_eq g24.symm))
    have CH24 := CH0.trans CHs24
    have V24 : Arv Z h24 b24 k24 .char (1 : Int32) [(.int (0 : Int32))] (.int (0 : Int32)) := (Arv.new A24 (by decide)).pad (pad_rep [] (.int (0 : Int32)) 1)
    show own_gc p e below s _ _ _ _ _ (T24.setTop (mkF m 27 #[.val (.int p1), .val (.int p2), .val (.int p3), .val (.int p4), .val (.int p5), .val (.int (1 : Int32)), .unset, .unset, .unset, .unset, .unset, .unset] [(.ref b24)]))
    refine own_ofc (fun t => XS.astore X24.here hx rfl (hb hby at_27) rfl rfl (l' := #[.val (.int p1), .val (.int p2), .val (.int p3), .val (.int p4), .val (.int p5), .val (.int (1 : Int32)), .val (.ref b24), .unset, .unset, .unset, .unset, .unset]) rfl) ?_
    show own_gc p e below s _ _ _ _ _ (T24.setTop (mkF m 29 #[.val (.int p1), .val (.int p2), .val (.int p3), .val (.int p4), .val (.int p5), .val (.int (1 : Int32)), .val (.ref b24), .unset, .unset, .unset, .unset, .unset] []))
    refine own_ofc (fun t => XS.goto X24.here hx rfl (pc0 := 29) (pc' := 51) rfl (hb hby at_29) (by decide) (by decide)) ?_
    show own_gc p e below s _ _ _ _ _ (T24.setTop (mkF m 51 #[.val (.int p1), .val (.int p2), .val (.int p3), .val (.int p4), .val (.int p5), .val (.int (1 : Int32)), .val (.ref b24), .unset, .unset, .unset, .unset, .unset] []))
    refine own_ofc (fun t => XS.iload X24.here hx rfl (hb hby at_51) rfl) ?_
    show own_gc p e below s _ _ _ _ _ (T24.setTop (mkF m 53 #[.val (.int p1), .val (.int p2), .val (.int p3), .val (.int p4), .val (.int p5), .val (.int (1 : Int32)), .val (.ref b24), .unset, .unset, .unset, .unset, .unset] [(.int (1 : Int32))]))
    have hb53_25 : (0 : Int32) < (1 : Int32) := by decide
    refine own_ofc (fun t => XS.ifNo X24.here hx rfl (hb hby at_53) rfl ((if0 _ _).trans (tlt hb53_25).2.2.2)) ?_
    show own_gc p e below s _ _ _ _ _ (T24.setTop (mkF m 56 #[.val (.int p1), .val (.int p2), .val (.int p3), .val (.int p4), .val (.int p5), .val (.int (1 : Int32)), .val (.ref b24), .unset, .unset, .unset, .unset, .unset] []))
    refine own_ofc (fun t => XS.aload X24.here hx rfl (hb hby at_56) rfl rfl) ?_
    show own_gc p e below s _ _ _ _ _ (T24.setTop (mkF m 58 #[.val (.int p1), .val (.int p2), .val (.int p3), .val (.int p4), .val (.int p5), .val (.int (1 : Int32)), .val (.ref b24), .unset, .unset, .unset, .unset, .unset] [(.ref b24)]))
    refine own_ofc (fun t => XS.iconst X24.here hx rfl (hb hby at_58)) ?_
    show own_gc p e below s _ _ _ _ _ (T24.setTop (mkF m 59 #[.val (.int p1), .val (.int p2), .val (.int p3), .val (.int p4), .val (.int p5), .val (.int (1 : Int32)), .val (.ref b24), .unset, .unset, .unset, .unset, .unset] [(.int (0 : Int32)), (.ref b24)]))
    refine own_ofc (fun t => XS.iloadN X24.here hx rfl (hb hby at_59) rfl) ?_
    show own_gc p e below s _ _ _ _ _ (T24.setTop (mkF m 60 #[.val (.int p1), .val (.int p2), .val (.int p3), .val (.int p4), .val (.int p5), .val (.int (1 : Int32)), .val (.ref b24), .unset, .unset, .unset, .unset, .unset] [(.int p2), (.int (0 : Int32)), (.ref b24)]))
    refine own_ofc (fun t => XS.sipush X24.here hx rfl (hb hby at_60)) ?_
    show own_gc p e below s _ _ _ _ _ (T24.setTop (mkF m 63 #[.val (.int p1), .val (.int p2), .val (.int p3), .val (.int p4), .val (.int p5), .val (.int (1 : Int32)), .val (.ref b24), .unset, .unset, .unset, .unset, .unset] [(.int (255 : Int32)), (.int p2), (.int (0 : Int32)), (.ref b24)]))
    refine own_ofc (fun t => XS.iand X24.here hx rfl (hb hby at_63) rfl) ?_
    show own_gc p e below s _ _ _ _ _ (T24.setTop (mkF m 64 #[.val (.int p1), .val (.int p2), .val (.int p3), .val (.int p4), .val (.int p5), .val (.int (1 : Int32)), .val (.ref b24), .unset, .unset, .unset, .unset, .unset] [(.int (p2 &&& (255 : Int32))), (.int (0 : Int32)), (.ref b24)]))
    refine own_ofc (fun t => XS.i2c X24.here hx rfl (hb hby at_64) rfl) ?_
    show own_gc p e below s _ _ _ _ _ (T24.setTop (mkF m 65 #[.val (.int p1), .val (.int p2), .val (.int p3), .val (.int p4), .val (.int p5), .val (.int (1 : Int32)), .val (.ref b24), .unset, .unset, .unset, .unset, .unset] [(.int ((p2 &&& (255 : Int32)).toUInt32.toUInt16.toUInt32.toInt32)), (.int (0 : Int32)), (.ref b24)]))
    obtain ⟨cl26, Ar26, q26, S26, Ng26, H26, G26⟩ := V24
    obtain ⟨T26, h26, X26, e26, W26, st26⟩ := stC X24 hx hZ e24 Ar26 (j := (0 : Int32)) (inb_of S26 ⟨by decide, by decide⟩) (g := (mkF m 65 #[.val (.int p1), .val (.int p2), .val (.int p3), .val (.int p4), .val (.int p5), .val (.int (1 : Int32)), .val (.ref b24), .unset, .unset, .unset, .unset, .unset] [(.int ((p2 &&& (255 : Int32)).toUInt32.toUInt16.toUInt32.toInt32)), (.int (0 : Int32)), (.ref b24)])) rfl rfl (hb hby at_65)
    have V26 : Arv Z h26 b24 k24 .char (1 : Int32) [(.int (nar .char ((p2 &&& (255 : Int32)).toUInt32.toUInt16.toUInt32.toInt32)))] (.int (0 : Int32)) := Arv.set Ar26 q26 S26 Ng26 H26 G26 (fits_nar_char _) W26 0 rfl (Nat.le_of_ble_eq_true rfl)
    refine own_ofc st26 ?_
    have CHs26 := CHr.wr W26 Sf24 CH24.1
    have CH26 := CH24.trans CHs26
    have N26 := Fr.snoc X26 N0 (by omega : n0 ≤ b24)
    have sz26 : h26.size = h24.size := W26.size
    have O26 : Old Z n0 h26 := O24.wr W26 (by omega)
    show own_gc p e below s _ _ _ _ _ (T26.setTop (mkF m 66 #[.val (.int p1), .val (.int p2), .val (.int p3), .val (.int p4), .val (.int p5), .val (.int (1 : Int32)), .val (.ref b24), .unset, .unset, .unset, .unset, .unset] []))
    refine own_ofc (fun t => XS.iload X26.here hx rfl (hb hby at_66) rfl) ?_
    show own_gc p e below s _ _ _ _ _ (T26.setTop (mkF m 68 #[.val (.int p1), .val (.int p2), .val (.int p3), .val (.int p4), .val (.int p5), .val (.int (1 : Int32)), .val (.ref b24), .unset, .unset, .unset, .unset, .unset] [(.int (1 : Int32))]))
    refine own_ofc (fun t => XS.iconst X26.here hx rfl (hb hby at_68)) ?_
    show own_gc p e below s _ _ _ _ _ (T26.setTop (mkF m 69 #[.val (.int p1), .val (.int p2), .val (.int p3), .val (.int p4), .val (.int p5), .val (.int (1 : Int32)), .val (.ref b24), .unset, .unset, .unset, .unset, .unset] [(.int (1 : Int32)), (.int (1 : Int32))]))
    have hb69_27 : ¬ ((1 : Int32) < (1 : Int32)) := by decide
    refine own_ofc (fun t => XS.icmpYes X26.here hx rfl (pc0 := 69) (pc' := 82) rfl (hb hby at_69) rfl (flt hb69_27).2.2.2 (by decide) (by decide)) ?_
    show own_gc p e below s _ _ _ _ _ (T26.setTop (mkF m 82 #[.val (.int p1), .val (.int p2), .val (.int p3), .val (.int p4), .val (.int p5), .val (.int (1 : Int32)), .val (.ref b24), .unset, .unset, .unset, .unset, .unset] []))
    refine own_ofc (fun t => XS.iload X26.here hx rfl (hb hby at_82) rfl) ?_
    show own_gc p e below s _ _ _ _ _ (T26.setTop (mkF m 84 #[.val (.int p1), .val (.int p2), .val (.int p3), .val (.int p4), .val (.int p5), .val (.int (1 : Int32)), .val (.ref b24), .unset, .unset, .unset, .unset, .unset] [(.int (1 : Int32))]))
    refine own_ofc (fun t => XS.iconst X26.here hx rfl (hb hby at_84)) ?_
    show own_gc p e below s _ _ _ _ _ (T26.setTop (mkF m 85 #[.val (.int p1), .val (.int p2), .val (.int p3), .val (.int p4), .val (.int p5), .val (.int (1 : Int32)), .val (.ref b24), .unset, .unset, .unset, .unset, .unset] [(.int (2 : Int32)), (.int (1 : Int32))]))
    have hb85_28 : ¬ ((2 : Int32) < (1 : Int32)) := by decide
    refine own_ofc (fun t => XS.icmpYes X26.here hx rfl (pc0 := 85) (pc' := 98) rfl (hb hby at_85) rfl (flt hb85_28).2.2.2 (by decide) (by decide)) ?_
    show own_gc p e below s _ _ _ _ _ (T26.setTop (mkF m 98 #[.val (.int p1), .val (.int p2), .val (.int p3), .val (.int p4), .val (.int p5), .val (.int (1 : Int32)), .val (.ref b24), .unset, .unset, .unset, .unset, .unset] []))
    obtain ⟨T29, h29, X29, e29, E29, A29, D29, -, st29⟩ := newO X26 hx hZ hown (hW 1 _ rfl) (hW 2 _ rfl) (hW 3 _ rfl) e26 (g := (mkF m 98 #[.val (.int p1), .val (.int p2), .val (.int p3), .val (.int p4), .val (.int p5), .val (.int (1 : Int32)), .val (.ref b24), .unset, .unset, .unset, .unset, .unset] [])) rfl (hb hby at_98) (by decide) (by decide)
    obtain ⟨b29, g29⟩ : ∃ z, z = h26.size := ⟨_, rfl⟩
    rw [← g29] at A29 D29 st29
    refine own_ofc st29 ?_
    have lt29 := own_lt A29.lt
    have sz29 : h26.size ≤ h29.size := E29.1
    have O29 : Old Z n0 h29 := O26.ext E29
    have z29 : n0 ≤ b29 := by have := O26.1 ▸ O26.2.1; omega
    have CHs29 := CHr.ext E29 CH26.1
    have Sf29 := Safe.ext E29 CH26.1 (Safe.new (Nat.le_of_eq g29.symm))
    have CH29 := CH26.trans CHs29
    have F29_value : Fld Z h29 b29 "java/lang/String" "value" "[B" .null := D29 (Or.inr (hW 16 _ rfl)) (ty := (.array .byte)) (by decide)
    have F29_coder : Fld Z h29 b29 "java/lang/String" "coder" "B" (.int (0 : Int32)) := D29 (Or.inr (hW 17 _ rfl)) (ty := .byte) (by decide)
    show own_gc p e below s _ _ _ _ _ (T29.setTop (mkF m 101 #[.val (.int p1), .val (.int p2), .val (.int p3), .val (.int p4), .val (.int p5), .val (.int (1 : Int32)), .val (.ref b24), .unset, .unset, .unset, .unset, .unset] [(.ref b29)]))
    refine own_ofc (fun t => XS.dup X29.here hx rfl (hb hby at_101) rfl rfl) ?_
    show own_gc p e below s _ _ _ _ _ (T29.setTop (mkF m 102 #[.val (.int p1), .val (.int p2), .val (.int p3), .val (.int p4), .val (.int p5), .val (.int (1 : Int32)), .val (.ref b24), .unset, .unset, .unset, .unset, .unset] [(.ref b29), (.ref b29)]))
    refine own_ofc (fun t => XS.aload X29.here hx rfl (hb hby at_102) rfl rfl) ?_
    show own_gc p e below s _ _ _ _ _ (T29.setTop (mkF m 104 #[.val (.int p1), .val (.int p2), .val (.int p3), .val (.int p4), .val (.int p5), .val (.int (1 : Int32)), .val (.ref b24), .unset, .unset, .unset, .unset, .unset] [(.ref b24), (.ref b29), (.ref b29)]))
    have hp30 : ∀ c ∈ ([nar .char ((p2 &&& (255 : Int32)).toUInt32.toUInt16.toUInt32.toInt32)] : List Int32), ¬ c < 0 ∧ ¬ (255 : Int32) < c := by
      intro c hc
      simp only [List.mem_cons, List.not_mem_nil, or_false] at hc
      rcases hc with rfl
      · exact own_and255 _
    have f31 : Arv Z h29 b24 k24 .char (1 : Int32) [(.int (nar .char ((p2 &&& (255 : Int32)).toUInt32.toUInt16.toUInt32.toInt32)))] (.int (0 : Int32)) := (V26.ext E29)
    obtain ⟨_, _, ⟨T32, L32, k32, n32⟩, -, X32, ⟨Lc32, hQ32, l32, y32, z32⟩, st32⟩ := X29.specialBack hx (y := (⟨"java/lang/String", "<init>", "([C)V"⟩ : MethodName)) rfl hown (mvT hZ (hW 4 _ rfl)) (mvT hZ (hW 5 _ rfl)) (mvT hZ (hW 6 _ rfl)) (by decide) (StrChars.Road.backV (W := 1) hZ hws (kI := 4) (hW 2 _ rfl) (cs := ([nar .char ((p2 &&& (255 : Int32)).toUInt32.toUInt16.toUInt32.toInt32)] : List Int32)) (bs := ([nar .char ((p2 &&& (255 : Int32)).toUInt32.toUInt16.toUInt32.toInt32)] : List Int32).map (fun c => c.toInt8.toInt32)) (n := 1) (by omega : n0 ≤ b29) (by omega : n0 ≤ h29.size) A29 F29_value F29_coder f31 (O2.ext O29.2) P5 rfl rfl (by decide) (by decide) hp30 rfl (by decide) (by decide)) (g := (mkF m 104 #[.val (.int p1), .val (.int p2), .val (.int p3), .val (.int p4), .val (.int p5), .val (.int (1 : Int32)), .val (.ref b24), .unset, .unset, .unset, .unset, .unset] [(.ref b24), (.ref b29), (.ref b29)])) rfl (by rw [hml]; rfl) (Steps.refl _) (a := b29) (argsL := [(.ref b24)]) (rest := [(.ref b29)]) (lenOf pd_3 rfl) rfl (by show 2 * 0 + _ ≤ _; exact Nat.le_of_eq rfl) (hb hby at_104) (fun _ _ => ⟨rfl, e29, (by decide : 2 + 1 ≤ _), (by decide : 5 + 1 ≤ _)⟩)
    dsimp only [Pt.U, Pt.locs, Pt.cells, Pt.slots] at X32 l32 y32 z32 st32 hQ32
    subst l32 y32 z32
    obtain ⟨rfl, Nq32, Kp32, g132, g232, t32, kb32, u132, u232, u332, g432, g532⟩ := hQ32
    have N32 := Fr.app N26 Nq32
    refine own_ofc (fun t k => st32.trans k) ?_
    have CHs32 := CHr.keep Kp32 (allS Sf29 all0) CH29.1
    have CH32 := CH29.trans CHs32
    have sz32 : h29.size ≤ T32.heap.size := Kp32.1
    have O32 : Old Z n0 T32.heap := O29.keep Kp32 (allS (by omega) all0)
    have Sx32 : own_str Z T32.heap b29 ([nar .char ((p2 &&& (255 : Int32)).toUInt32.toUInt16.toUInt32.toInt32)] : List Int32) := ⟨t32, kb32, _, _, g132, g432, g232, g532, StrChars.Road.codOf (n := 1) rfl (fun c hc => (hp30 c hc).2)⟩
    have Ex32 : Exa Z T32.heap b29 "java/lang/String" := by obtain ⟨_, _, _, _, q, -⟩ := id Sx32; exact q
    show own_gc p e below s _ _ _ _ _ (T32.setTop (mkF m 107 #[.val (.int p1), .val (.int p2), .val (.int p3), .val (.int p4), .val (.int p5), .val (.int (1 : Int32)), .val (.ref b24), .unset, .unset, .unset, .unset, .unset] [(.ref b29)]))
    refine own_ofc (fun t => XS.astore X32.here hx rfl (hb hby at_107) rfl rfl (l' := #[.val (.int p1), .val (.int p2), .val (.int p3), .val (.int p4), .val (.int p5), .val (.int (1 : Int32)), .val (.ref b24), .val (.ref b29), .unset, .unset, .unset, .unset]) rfl) ?_
    show own_gc p e below s _ _ _ _ _ (T32.setTop (mkF m 109 #[.val (.int p1), .val (.int p2), .val (.int p3), .val (.int p4), .val (.int p5), .val (.int (1 : Int32)), .val (.ref b24), .val (.ref b29), .unset, .unset, .unset, .unset] []))
    refine own_ofc (fun t => XS.iload X32.here hx rfl (hb hby at_109) rfl) ?_
    show own_gc p e below s _ _ _ _ _ (T32.setTop (mkF m 111 #[.val (.int p1), .val (.int p2), .val (.int p3), .val (.int p4), .val (.int p5), .val (.int (1 : Int32)), .val (.ref b24), .val (.ref b29), .unset, .unset, .unset, .unset] [(.int p5)]))
    refine own_ofc (fun t => XS.iconst X32.here hx rfl (hb hby at_111)) ?_
    show own_gc p e below s _ _ _ _ _ (T32.setTop (mkF m 112 #[.val (.int p1), .val (.int p2), .val (.int p3), .val (.int p4), .val (.int p5), .val (.int (1 : Int32)), .val (.ref b24), .val (.ref b29), .unset, .unset, .unset, .unset] [(.int (1 : Int32)), (.int p5)]))
    refine own_ofc (fun t => XS.iand X32.here hx rfl (hb hby at_112) rfl) ?_
    show own_gc p e below s _ _ _ _ _ (T32.setTop (mkF m 113 #[.val (.int p1), .val (.int p2), .val (.int p3), .val (.int p4), .val (.int p5), .val (.int (1 : Int32)), .val (.ref b24), .val (.ref b29), .unset, .unset, .unset, .unset] [(.int (p5 &&& (1 : Int32)))]))
    refine own_use X32 (h := T32.heap) (g := fun r33 : Addr => (mkF m 125 #[.val (.int p1), .val (.int p2), .val (.int p3), .val (.int p4), .val (.int p5), .val (.int (1 : Int32)), .val (.ref b24), .val (.ref b29), .unset, .unset, .unset, .unset] [(.ref r33)])) (G := own_gc p e below s _ _ _ _ _) ?_ ?_
    · intro r33 T33 X33 e33
      show own_gc p e below s _ _ _ _ _ (T33.setTop (mkF m 125 #[.val (.int p1), .val (.int p2), .val (.int p3), .val (.int p4), .val (.int p5), .val (.int (1 : Int32)), .val (.ref b24), .val (.ref b29), .unset, .unset, .unset, .unset] [(.ref r33)]))
      refine own_ofc (fun t => XS.astore X33.here hx rfl (hb hby at_125) rfl rfl (l' := #[.val (.int p1), .val (.int p2), .val (.int p3), .val (.int p4), .val (.int p5), .val (.int (1 : Int32)), .val (.ref b24), .val (.ref b29), .val (.ref r33), .unset, .unset, .unset]) rfl) ?_
      show own_gc p e below s _ _ _ _ _ (T33.setTop (mkF m 127 #[.val (.int p1), .val (.int p2), .val (.int p3), .val (.int p4), .val (.int p5), .val (.int (1 : Int32)), .val (.ref b24), .val (.ref b29), .val (.ref r33), .unset, .unset, .unset] []))
      refine own_ofc (fun t => XS.iload X33.here hx rfl (hb hby at_127) rfl) ?_
      show own_gc p e below s _ _ _ _ _ (T33.setTop (mkF m 129 #[.val (.int p1), .val (.int p2), .val (.int p3), .val (.int p4), .val (.int p5), .val (.int (1 : Int32)), .val (.ref b24), .val (.ref b29), .val (.ref r33), .unset, .unset, .unset] [(.int p5)]))
      refine own_ofc (fun t => XS.iconst X33.here hx rfl (hb hby at_129)) ?_
      show own_gc p e below s _ _ _ _ _ (T33.setTop (mkF m 130 #[.val (.int p1), .val (.int p2), .val (.int p3), .val (.int p4), .val (.int p5), .val (.int (1 : Int32)), .val (.ref b24), .val (.ref b29), .val (.ref r33), .unset, .unset, .unset] [(.int (2 : Int32)), (.int p5)]))
      refine own_ofc (fun t => XS.iand X33.here hx rfl (hb hby at_130) rfl) ?_
      show own_gc p e below s _ _ _ _ _ (T33.setTop (mkF m 131 #[.val (.int p1), .val (.int p2), .val (.int p3), .val (.int p4), .val (.int p5), .val (.int (1 : Int32)), .val (.ref b24), .val (.ref b29), .val (.ref r33), .unset, .unset, .unset] [(.int (p5 &&& (2 : Int32)))]))
      refine own_use X33 (h := T32.heap) (g := fun z34 : Int32 => (mkF m 139 #[.val (.int p1), .val (.int p2), .val (.int p3), .val (.int p4), .val (.int p5), .val (.int (1 : Int32)), .val (.ref b24), .val (.ref b29), .val (.ref r33), .unset, .unset, .unset] [(.int z34)])) (G := own_gc p e below s _ _ _ _ _) ?_ ?_
      · intro z34 T34 X34 e34
        show own_gc p e below s _ _ _ _ _ (T34.setTop (mkF m 139 #[.val (.int p1), .val (.int p2), .val (.int p3), .val (.int p4), .val (.int p5), .val (.int (1 : Int32)), .val (.ref b24), .val (.ref b29), .val (.ref r33), .unset, .unset, .unset] [(.int z34)]))
        refine own_ofc (fun t => XS.istore X34.here hx rfl (hb hby at_139) rfl (l' := #[.val (.int p1), .val (.int p2), .val (.int p3), .val (.int p4), .val (.int p5), .val (.int (1 : Int32)), .val (.ref b24), .val (.ref b29), .val (.ref r33), .val (.int z34), .unset, .unset]) rfl) ?_
        show own_gc p e below s _ _ _ _ _ (T34.setTop (mkF m 141 #[.val (.int p1), .val (.int p2), .val (.int p3), .val (.int p4), .val (.int p5), .val (.int (1 : Int32)), .val (.ref b24), .val (.ref b29), .val (.ref r33), .val (.int z34), .unset, .unset] []))
        obtain ⟨T35, h35, X35, e35, E35, A35, D35, -, st35⟩ := newO X34 hx hZ hown (hW 25 _ rfl) (hW 26 _ rfl) (hW 27 _ rfl) e34 (g := (mkF m 141 #[.val (.int p1), .val (.int p2), .val (.int p3), .val (.int p4), .val (.int p5), .val (.int (1 : Int32)), .val (.ref b24), .val (.ref b29), .val (.ref r33), .val (.int z34), .unset, .unset] [])) rfl (hb hby at_141) (by decide) (by decide)
        obtain ⟨b35, g35⟩ : ∃ z, z = T32.heap.size := ⟨_, rfl⟩
        rw [← g35] at A35 D35 st35
        refine own_ofc st35 ?_
        have lt35 := own_lt A35.lt
        have sz35 : T32.heap.size ≤ h35.size := E35.1
        have O35 : Old Z n0 h35 := O32.ext E35
        have z35 : n0 ≤ b35 := by have := O32.1 ▸ O32.2.1; omega
        have CHs35 := CHr.ext E35 CH32.1
        have Sf35 := Safe.ext E35 CH32.1 (Safe.new (Nat.le_of_eq g35.symm))
        have CH35 := CH32.trans CHs35
        have F35_groupSubfields : Fld Z h35 b35 "com/example/sachfeld/sachfeld/SubjectField$Layout" "groupSubfields" "Ljava/util/Map;" .null := D35 (Or.inr (hW 38 _ rfl)) (ty := (.object "java/util/Map")) (by decide)
        have F35_provenanceCodes : Fld Z h35 b35 "com/example/sachfeld/sachfeld/SubjectField$Layout" "provenanceCodes" "Ljava/lang/String;" .null := D35 (Or.inr (hW 40 _ rfl)) (ty := (.object "java/lang/String")) (by decide)
        have F35_manyDdcGroups : Fld Z h35 b35 "com/example/sachfeld/sachfeld/SubjectField$Layout" "manyDdcGroups" "Lcom/example/sachfeld/sachfeld/Rule;" .null := D35 (Or.inr (hW 42 _ rfl)) (ty := (.object "com/example/sachfeld/sachfeld/Rule")) (by decide)
        have F35_repeatable : Fld Z h35 b35 "com/example/sachfeld/sachfeld/SubjectField$Layout" "repeatable" "Z" (.int (0 : Int32)) := D35 (Or.inr (hW 44 _ rfl)) (ty := .boolean) (by decide)
        show own_gc p e below s _ _ _ _ _ (T35.setTop (mkF m 144 #[.val (.int p1), .val (.int p2), .val (.int p3), .val (.int p4), .val (.int p5), .val (.int (1 : Int32)), .val (.ref b24), .val (.ref b29), .val (.ref r33), .val (.int z34), .unset, .unset] [(.ref b35)]))
        refine own_ofc (fun t => XS.dup X35.here hx rfl (hb hby at_144) rfl rfl) ?_
        show own_gc p e below s _ _ _ _ _ (T35.setTop (mkF m 145 #[.val (.int p1), .val (.int p2), .val (.int p3), .val (.int p4), .val (.int p5), .val (.int (1 : Int32)), .val (.ref b24), .val (.ref b29), .val (.ref r33), .val (.int z34), .unset, .unset] [(.ref b35), (.ref b35)]))
        refine own_ofc (fun t => XS.aconstNull X35.here hx rfl (hb hby at_145)) ?_
        show own_gc p e below s _ _ _ _ _ (T35.setTop (mkF m 146 #[.val (.int p1), .val (.int p2), .val (.int p3), .val (.int p4), .val (.int p5), .val (.int (1 : Int32)), .val (.ref b24), .val (.ref b29), .val (.ref r33), .val (.int z34), .unset, .unset] [.null, (.ref b35), (.ref b35)]))
        refine own_ofc (fun t => XS.aload X35.here hx rfl (hb hby at_146) rfl rfl) ?_
        show own_gc p e below s _ _ _ _ _ (T35.setTop (mkF m 148 #[.val (.int p1), .val (.int p2), .val (.int p3), .val (.int p4), .val (.int p5), .val (.int (1 : Int32)), .val (.ref b24), .val (.ref b29), .val (.ref r33), .val (.int z34), .unset, .unset] [(.ref b29), .null, (.ref b35), (.ref b35)]))
        refine own_ofc (fun t => XS.aload X35.here hx rfl (hb hby at_148) rfl rfl) ?_
        show own_gc p e below s _ _ _ _ _ (T35.setTop (mkF m 150 #[.val (.int p1), .val (.int p2), .val (.int p3), .val (.int p4), .val (.int p5), .val (.int (1 : Int32)), .val (.ref b24), .val (.ref b29), .val (.ref r33), .val (.int z34), .unset, .unset] [(.ref r33), (.ref b29), .null, (.ref b35), (.ref b35)]))
        refine own_ofc (fun t => XS.iload X35.here hx rfl (hb hby at_150) rfl) ?_
        show own_gc p e below s _ _ _ _ _ (T35.setTop (mkF m 152 #[.val (.int p1), .val (.int p2), .val (.int p3), .val (.int p4), .val (.int p5), .val (.int (1 : Int32)), .val (.ref b24), .val (.ref b29), .val (.ref r33), .val (.int z34), .unset, .unset] [(.int z34), (.ref r33), (.ref b29), .null, (.ref b35), (.ref b35)]))
        obtain ⟨_, _, ⟨T36, L36, k36, n36⟩, -, X36, ⟨Lc36, hQ36, l36, y36, z36⟩, st36⟩ := X35.specialBack hx (y := (⟨"com/example/sachfeld/sachfeld/SubjectField$Layout", "<init>", "(Ljava/util/Map;Ljava/lang/String;Lcom/example/sachfeld/sachfeld/Rule;Z)V"⟩ : MethodName)) rfl hown (mvT hZ (hW 28 _ rfl)) (mvT hZ (hW 29 _ rfl)) (mvT hZ (hW 30 _ rfl)) (by decide) (backOf (W := 1) (rmL l Z a0 hw [] b35 b29 r33 z34 h35 n0 O35 (by omega) A35 F35_groupSubfields F35_provenanceCodes F35_manyDdcGroups F35_repeatable) hZ (hW 30 _ rfl) (hW 27 _ rfl) (by decide) (by decide)) (g := (mkF m 152 #[.val (.int p1), .val (.int p2), .val (.int p3), .val (.int p4), .val (.int p5), .val (.int (1 : Int32)), .val (.ref b24), .val (.ref b29), .val (.ref r33), .val (.int z34), .unset, .unset] [(.int z34), (.ref r33), (.ref b29), .null, (.ref b35), (.ref b35)])) rfl (by rw [hml]; rfl) (Steps.refl _) (a := b35) (argsL := [.null, (.ref b29), (.ref r33), (.int z34)]) (rest := [(.ref b35)]) (lenOf pd_4 rfl) rfl (by show 2 * 0 + _ ≤ _; exact Nat.le_of_eq rfl) (hb hby at_152) (fun _ _ => ⟨rfl, e35, (by decide : 4 + 0 ≤ _), (by decide : 10 + 0 ≤ _)⟩)
        dsimp only [Pt.U, Pt.locs, Pt.cells, Pt.slots] at X36 l36 y36 z36 st36 hQ36
        subst l36 y36 z36
        obtain ⟨rfl, Nq36, Kp36, Fp36⟩ := hQ36
        have N36 := Fr.app N32 Nq36
        refine own_ofc (fun t k => st36.trans k) ?_
        have CHs36 := CHr.keep Kp36 (allS Sf35 all0) CH35.1
        have CH36 := CH35.trans CHs36
        have sz36 : h35.size ≤ T36.heap.size := Kp36.1
        have O36 : Old Z n0 T36.heap := O35.keep Kp36 (allS (by omega) all0)
        show own_gc p e below s _ _ _ _ _ (T36.setTop (mkF m 155 #[.val (.int p1), .val (.int p2), .val (.int p3), .val (.int p4), .val (.int p5), .val (.int (1 : Int32)), .val (.ref b24), .val (.ref b29), .val (.ref r33), .val (.int z34), .unset, .unset] [(.ref b35)]))
        refine own_ofc (fun t => XS.astore X36.here hx rfl (hb hby at_155) rfl rfl (l' := #[.val (.int p1), .val (.int p2), .val (.int p3), .val (.int p4), .val (.int p5), .val (.int (1 : Int32)), .val (.ref b24), .val (.ref b29), .val (.ref r33), .val (.int z34), .val (.ref b35), .unset]) rfl) ?_
        show own_gc p e below s _ _ _ _ _ (T36.setTop (mkF m 157 #[.val (.int p1), .val (.int p2), .val (.int p3), .val (.int p4), .val (.int p5), .val (.int (1 : Int32)), .val (.ref b24), .val (.ref b29), .val (.ref r33), .val (.int z34), .val (.ref b35), .unset] []))
        refine own_ofc (fun t => XS.aload X36.here hx rfl (hb hby at_157) rfl rfl) ?_
        show own_gc p e below s _ _ _ _ _ (T36.setTop (mkF m 159 #[.val (.int p1), .val (.int p2), .val (.int p3), .val (.int p4), .val (.int p5), .val (.int (1 : Int32)), .val (.ref b24), .val (.ref b29), .val (.ref r33), .val (.int z34), .val (.ref b35), .unset] [(.ref b35)]))
        have f37 : own_str Z T36.heap b29 ([nar .char ((p2 &&& (255 : Int32)).toUInt32.toUInt16.toUInt32.toInt32)] : List Int32) := ((Sx32.ext E35).keep1 Kp36 (own_ne (by omega)) A35 (hW 26 _ rfl))
        have f39 : Exa Z T36.heap b35 "com/example/sachfeld/sachfeld/SubjectField$Layout" := (A35.keep Kp36)
        obtain ⟨cq38, kq38, q38a, q38b, q38c⟩ := isOf hZ rfl f39
        obtain ⟨_, _, ⟨T38, L38, k38, n38⟩, -, X38, ⟨Lc38, hQ38, l38, y38, z38⟩, st38⟩ := X36.virtualBack hx (y := (⟨"com/example/sachfeld/sachfeld/SubjectField$Layout", "recordsProvenance", "()Z"⟩ : MethodName)) (z := (⟨"com/example/sachfeld/sachfeld/SubjectField$Layout", "recordsProvenance", "()Z"⟩ : MethodName)) hown (mvT hZ (hW 45 _ rfl)) (mvT hZ (hW 46 _ rfl)) (notFace_of_selects (args := #[]) (mvT hZ (hW 48 _ rfl))) (mvT hZ (hW 48 _ rfl)) (mvT hZ (hW 47 _ rfl)) (by decide) (backOf (W := 0) (rmP l Z a0 hw [] b35 b29 ([nar .char ((p2 &&& (255 : Int32)).toUInt32.toUInt16.toUInt32.toInt32)] : List Int32) T36.heap n0 O36 Fp36 f37 (own_up _ hp30) (Nat.le_of_ble_eq_true rfl)) hZ (hW 49 _ rfl) (hW 27 _ rfl) (by decide) (by decide)) q38a q38c (g := (mkF m 159 #[.val (.int p1), .val (.int p2), .val (.int p3), .val (.int p4), .val (.int p5), .val (.int (1 : Int32)), .val (.ref b24), .val (.ref b29), .val (.ref r33), .val (.int z34), .val (.ref b35), .unset] [(.ref b35)])) rfl (by rw [hml]; rfl) (Steps.refl _) (argsL := []) (rest := []) (lenOf pd_2 rfl) rfl (by show 2 * 0 + _ ≤ _; exact Nat.le_of_eq rfl) (hb hby at_159) (fun _ _ => ⟨rfl, rfl, (by decide : 4 + 0 ≤ _), (by decide : 10 + 0 ≤ _)⟩)
        dsimp only [Pt.U, Pt.locs, Pt.cells, Pt.slots] at X38 l38 y38 z38 st38 hQ38
        subst l38 y38 z38
        obtain ⟨rfl, Nq38, eh38⟩ := hQ38
        have N38 := Fr.app N36 Nq38
        refine own_ofc (fun t k => st38.trans k) ?_
        show own_gc p e below s _ _ _ _ _ (T38.setTop (mkF m 162 #[.val (.int p1), .val (.int p2), .val (.int p3), .val (.int p4), .val (.int p5), .val (.int (1 : Int32)), .val (.ref b24), .val (.ref b29), .val (.ref r33), .val (.int z34), .val (.ref b35), .unset] [(.int (1 : Int32))]))
        refine own_ofc (fun t => XS.istore X38.here hx rfl (hb hby at_162) rfl (l' := #[.val (.int p1), .val (.int p2), .val (.int p3), .val (.int p4), .val (.int p5), .val (.int (1 : Int32)), .val (.ref b24), .val (.ref b29), .val (.ref r33), .val (.int z34), .val (.ref b35), .val (.int (1 : Int32))]) rfl) ?_
        show own_gc p e below s _ _ _ _ _ (T38.setTop (mkF m 164 #[.val (.int p1), .val (.int p2), .val (.int p3), .val (.int p4), .val (.int p5), .val (.int (1 : Int32)), .val (.ref b24), .val (.ref b29), .val (.ref r33), .val (.int z34), .val (.ref b35), .val (.int (1 : Int32))] []))
        refine own_ofc (fun t => XS.iload X38.here hx rfl (hb hby at_164) rfl) ?_
        show own_gc p e below s _ _ _ _ _ (T38.setTop (mkF m 166 #[.val (.int p1), .val (.int p2), .val (.int p3), .val (.int p4), .val (.int p5), .val (.int (1 : Int32)), .val (.ref b24), .val (.ref b29), .val (.ref r33), .val (.int z34), .val (.ref b35), .val (.int (1 : Int32))] [(.int (1 : Int32))]))
        refine own_ofc (fun t => XS.iload X38.here hx rfl (hb hby at_166) rfl) ?_
        show own_gc p e below s _ _ _ _ _ (T38.setTop (mkF m 168 #[.val (.int p1), .val (.int p2), .val (.int p3), .val (.int p4), .val (.int p5), .val (.int (1 : Int32)), .val (.ref b24), .val (.ref b29), .val (.ref r33), .val (.int z34), .val (.ref b35), .val (.int (1 : Int32))] [(.int (1 : Int32)), (.int (1 : Int32))]))
        have hb168_40 : ¬ ((1 : Int32) = (0 : Int32)) := by decide
        refine own_ofc (fun t => XS.ifNo X38.here hx rfl (hb hby at_168) rfl ((if0 _ _).trans (feq hb168_40).1)) ?_
        show own_gc p e below s _ _ _ _ _ (T38.setTop (mkF m 171 #[.val (.int p1), .val (.int p2), .val (.int p3), .val (.int p4), .val (.int p5), .val (.int (1 : Int32)), .val (.ref b24), .val (.ref b29), .val (.ref r33), .val (.int z34), .val (.ref b35), .val (.int (1 : Int32))] [(.int (1 : Int32))]))
        refine own_ofc (fun t => XS.iconst X38.here hx rfl (hb hby at_171)) ?_
        show own_gc p e below s _ _ _ _ _ (T38.setTop (mkF m 172 #[.val (.int p1), .val (.int p2), .val (.int p3), .val (.int p4), .val (.int p5), .val (.int (1 : Int32)), .val (.ref b24), .val (.ref b29), .val (.ref r33), .val (.int z34), .val (.ref b35), .val (.int (1 : Int32))] [(.int (1 : Int32)), (.int (1 : Int32))]))
        refine own_ofc (fun t => XS.goto X38.here hx rfl (pc0 := 172) (pc' := 176) rfl (hb hby at_172) (by decide) (by decide)) ?_
        show own_gc p e below s _ _ _ _ _ (T38.setTop (mkF m 176 #[.val (.int p1), .val (.int p2), .val (.int p3), .val (.int p4), .val (.int p5), .val (.int (1 : Int32)), .val (.ref b24), .val (.ref b29), .val (.ref r33), .val (.int z34), .val (.ref b35), .val (.int (1 : Int32))] [(.int (1 : Int32)), (.int (1 : Int32))]))
        have hb176_41 : (1 : Int32) = (1 : Int32) := by decide
        refine own_ofc (fun t => XS.icmpNo X38.here hx rfl (hb hby at_176) rfl (teq hb176_41).2) ?_
        show own_gc p e below s _ _ _ _ _ (T38.setTop (mkF m 179 #[.val (.int p1), .val (.int p2), .val (.int p3), .val (.int p4), .val (.int p5), .val (.int (1 : Int32)), .val (.ref b24), .val (.ref b29), .val (.ref r33), .val (.int z34), .val (.ref b35), .val (.int (1 : Int32))] []))
        refine own_ofc (fun t => XS.iconst X38.here hx rfl (hb hby at_179)) ?_
        show own_gc p e below s _ _ _ _ _ (T38.setTop (mkF m 180 #[.val (.int p1), .val (.int p2), .val (.int p3), .val (.int p4), .val (.int p5), .val (.int (1 : Int32)), .val (.ref b24), .val (.ref b29), .val (.ref r33), .val (.int z34), .val (.ref b35), .val (.int (1 : Int32))] [(.int (1 : Int32))]))
        refine own_ofc (fun t => XS.goto X38.here hx rfl (pc0 := 180) (pc' := 184) rfl (hb hby at_180) (by decide) (by decide)) ?_
        show own_gc p e below s _ _ _ _ _ (T38.setTop (mkF m 184 #[.val (.int p1), .val (.int p2), .val (.int p3), .val (.int p4), .val (.int p5), .val (.int (1 : Int32)), .val (.ref b24), .val (.ref b29), .val (.ref r33), .val (.int z34), .val (.ref b35), .val (.int (1 : Int32))] [(.int (1 : Int32))]))
        refine own_retc X38 hx hlk hS0 (by rw [eh38]; omega : 0 ≤ T38.heap.size) hZ hEL (by rw [eh38]; exact CH36) Bd.returns rfl (Or.inl ⟨rfl, by simp, _, rfl⟩) (hb hby at_184) (by decide) (by decide) ?_
        rw [eh38]
        exact ⟨rfl, N38⟩
      · intro j34
        show own_gc p e below s _ _ _ _ _ (T33.setTop (mkF m 131 #[.val (.int p1), .val (.int p2), .val (.int p3), .val (.int p4), .val (.int p5), .val (.int (1 : Int32)), .val (.ref b24), .val (.ref b29), .val (.ref r33), .unset, .unset, .unset] [(.int (p5 &&& (2 : Int32)))]))
        by_cases hb131_42 : (p5 &&& (2 : Int32)) = (0 : Int32)
        · refine own_ofc (fun t => XS.ifYes X33.here hx rfl (pc0 := 131) (pc' := 138) rfl (hb hby at_131) rfl ((if0 _ _).trans (teq hb131_42).1) (by decide) (by decide)) ?_
          show own_gc p e below s _ _ _ _ _ (T33.setTop (mkF m 138 #[.val (.int p1), .val (.int p2), .val (.int p3), .val (.int p4), .val (.int p5), .val (.int (1 : Int32)), .val (.ref b24), .val (.ref b29), .val (.ref r33), .unset, .unset, .unset] []))
          refine own_ofc (fun t => XS.iconst X33.here hx rfl (hb hby at_138)) ?_
          show own_gc p e below s _ _ _ _ _ (T33.setTop (mkF m 139 #[.val (.int p1), .val (.int p2), .val (.int p3), .val (.int p4), .val (.int p5), .val (.int (1 : Int32)), .val (.ref b24), .val (.ref b29), .val (.ref r33), .unset, .unset, .unset] [(.int (0 : Int32))]))
          exact j34 _ _ X33 e33
        · refine own_ofc (fun t => XS.ifNo X33.here hx rfl (hb hby at_131) rfl ((if0 _ _).trans (feq hb131_42).1)) ?_
          show own_gc p e below s _ _ _ _ _ (T33.setTop (mkF m 134 #[.val (.int p1), .val (.int p2), .val (.int p3), .val (.int p4), .val (.int p5), .val (.int (1 : Int32)), .val (.ref b24), .val (.ref b29), .val (.ref r33), .unset, .unset, .unset] []))
          refine own_ofc (fun t => XS.iconst X33.here hx rfl (hb hby at_134)) ?_
          show own_gc p e below s _ _ _ _ _ (T33.setTop (mkF m 135 #[.val (.int p1), .val (.int p2), .val (.int p3), .val (.int p4), .val (.int p5), .val (.int (1 : Int32)), .val (.ref b24), .val (.ref b29), .val (.ref r33), .unset, .unset, .unset] [(.int (1 : Int32))]))
          refine own_ofc (fun t => XS.goto X33.here hx rfl (pc0 := 135) (pc' := 139) rfl (hb hby at_135) (by decide) (by decide)) ?_
          show own_gc p e below s _ _ _ _ _ (T33.setTop (mkF m 139 #[.val (.int p1), .val (.int p2), .val (.int p3), .val (.int p4), .val (.int p5), .val (.int (1 : Int32)), .val (.ref b24), .val (.ref b29), .val (.ref r33), .unset, .unset, .unset] [(.int (1 : Int32))]))
          exact j34 _ _ X33 e33
    · intro j33
      show own_gc p e below s _ _ _ _ _ (T32.setTop (mkF m 113 #[.val (.int p1), .val (.int p2), .val (.int p3), .val (.int p4), .val (.int p5), .val (.int (1 : Int32)), .val (.ref b24), .val (.ref b29), .unset, .unset, .unset, .unset] [(.int (p5 &&& (1 : Int32)))]))
      by_cases hb113_43 : (p5 &&& (1 : Int32)) = (0 : Int32)
      · refine own_ofc (fun t => XS.ifYes X32.here hx rfl (pc0 := 113) (pc' := 122) rfl (hb hby at_113) rfl ((if0 _ _).trans (teq hb113_43).1) (by decide) (by decide)) ?_
        show own_gc p e below s _ _ _ _ _ (T32.setTop (mkF m 122 #[.val (.int p1), .val (.int p2), .val (.int p3), .val (.int p4), .val (.int p5), .val (.int (1 : Int32)), .val (.ref b24), .val (.ref b29), .unset, .unset, .unset, .unset] []))
        obtain ⟨T44, X44, e44, st44⟩ := getS2 X32 hx hZ hown (host := "") (Or.inl (hW 22 _ rfl)) Via.refl rfl (S_MANY_GROUPS.ext O32.2) (g := (mkF m 122 #[.val (.int p1), .val (.int p2), .val (.int p3), .val (.int p4), .val (.int p5), .val (.int (1 : Int32)), .val (.ref b24), .val (.ref b29), .unset, .unset, .unset, .unset] [])) rfl (hb hby at_122)
        refine own_ofc st44 ?_
        show own_gc p e below s _ _ _ _ _ (T44.setTop (mkF m 125 #[.val (.int p1), .val (.int p2), .val (.int p3), .val (.int p4), .val (.int p5), .val (.int (1 : Int32)), .val (.ref b24), .val (.ref b29), .unset, .unset, .unset, .unset] [(.ref wa)]))
        exact j33 _ _ X44 e44
      · refine own_ofc (fun t => XS.ifNo X32.here hx rfl (hb hby at_113) rfl ((if0 _ _).trans (feq hb113_43).1)) ?_
        show own_gc p e below s _ _ _ _ _ (T32.setTop (mkF m 116 #[.val (.int p1), .val (.int p2), .val (.int p3), .val (.int p4), .val (.int p5), .val (.int (1 : Int32)), .val (.ref b24), .val (.ref b29), .unset, .unset, .unset, .unset] []))
        obtain ⟨T45, X45, e45, st45⟩ := getS2 X32 hx hZ hown (host := "") (Or.inl (hW 66 _ rfl)) Via.refl rfl (S_TOO_MANY_GROUPS.ext O32.2) (g := (mkF m 116 #[.val (.int p1), .val (.int p2), .val (.int p3), .val (.int p4), .val (.int p5), .val (.int (1 : Int32)), .val (.ref b24), .val (.ref b29), .unset, .unset, .unset, .unset] [])) rfl (hb hby at_116)
        refine own_ofc st45 ?_
        show own_gc p e below s _ _ _ _ _ (T45.setTop (mkF m 119 #[.val (.int p1), .val (.int p2), .val (.int p3), .val (.int p4), .val (.int p5), .val (.int (1 : Int32)), .val (.ref b24), .val (.ref b29), .unset, .unset, .unset, .unset] [(.ref wb)]))
        refine own_ofc (fun t => XS.goto X45.here hx rfl (pc0 := 119) (pc' := 125) rfl (hb hby at_119) (by decide) (by decide)) ?_
        show own_gc p e below s _ _ _ _ _ (T45.setTop (mkF m 125 #[.val (.int p1), .val (.int p2), .val (.int p3), .val (.int p4), .val (.int p5), .val (.int (1 : Int32)), .val (.ref b24), .val (.ref b29), .unset, .unset, .unset, .unset] [(.ref wb)]))
        exact j33 _ _ X45 e45
  · rw [hi]
    show own_gc p e below s _ _ _ _ _ (s₁.setTop (mkF m 3 #[.val (.int p1), .val (.int p2), .val (.int p3), .val (.int p4), .val (.int p5), .unset, .unset, .unset, .unset, .unset, .unset, .unset] [(.int (2 : Int32))]))
    refine own_ofc (fun t => XS.istore X0.here hx rfl (hb hby at_3) rfl (l' := #[.val (.int p1), .val (.int p2), .val (.int p3), .val (.int p4), .val (.int p5), .val (.int (2 : Int32)), .unset, .unset, .unset, .unset, .unset, .unset]) rfl) ?_
    show own_gc p e below s _ _ _ _ _ (s₁.setTop (mkF m 5 #[.val (.int p1), .val (.int p2), .val (.int p3), .val (.int p4), .val (.int p5), .val (.int (2 : Int32)), .unset, .unset, .unset, .unset, .unset, .unset] []))
    refine own_ofc (fun t => XS.iload X0.here hx rfl (hb hby at_5) rfl) ?_
    show own_gc p e below s _ _ _ _ _ (s₁.setTop (mkF m 7 #[.val (.int p1), .val (.int p2), .val (.int p3), .val (.int p4), .val (.int p5), .val (.int (2 : Int32)), .unset, .unset, .unset, .unset, .unset, .unset] [(.int (2 : Int32))]))
    have hb7_46 : ¬ ((2 : Int32) = (0 : Int32)) := by decide
    refine own_ofc (fun t => XS.ifYes X0.here hx rfl (pc0 := 7) (pc' := 18) rfl (hb hby at_7) rfl ((if0 _ _).trans (feq hb7_46).2) (by decide) (by decide)) ?_
    show own_gc p e below s _ _ _ _ _ (s₁.setTop (mkF m 18 #[.val (.int p1), .val (.int p2), .val (.int p3), .val (.int p4), .val (.int p5), .val (.int (2 : Int32)), .unset, .unset, .unset, .unset, .unset, .unset] []))
    refine own_ofc (fun t => XS.iload X0.here hx rfl (hb hby at_18) rfl) ?_
    show own_gc p e below s _ _ _ _ _ (s₁.setTop (mkF m 20 #[.val (.int p1), .val (.int p2), .val (.int p3), .val (.int p4), .val (.int p5), .val (.int (2 : Int32)), .unset, .unset, .unset, .unset, .unset, .unset] [(.int (2 : Int32))]))
    refine own_ofc (fun t => XS.iconst X0.here hx rfl (hb hby at_20)) ?_
    show own_gc p e below s _ _ _ _ _ (s₁.setTop (mkF m 21 #[.val (.int p1), .val (.int p2), .val (.int p3), .val (.int p4), .val (.int p5), .val (.int (2 : Int32)), .unset, .unset, .unset, .unset, .unset, .unset] [(.int (1 : Int32)), (.int (2 : Int32))]))
    have hb21_47 : ¬ ((2 : Int32) = (1 : Int32)) := by decide
    refine own_ofc (fun t => XS.icmpYes X0.here hx rfl (pc0 := 21) (pc' := 32) rfl (hb hby at_21) rfl (feq hb21_47).2 (by decide) (by decide)) ?_
    show own_gc p e below s _ _ _ _ _ (s₁.setTop (mkF m 32 #[.val (.int p1), .val (.int p2), .val (.int p3), .val (.int p4), .val (.int p5), .val (.int (2 : Int32)), .unset, .unset, .unset, .unset, .unset, .unset] []))
    refine own_ofc (fun t => XS.iload X0.here hx rfl (hb hby at_32) rfl) ?_
    show own_gc p e below s _ _ _ _ _ (s₁.setTop (mkF m 34 #[.val (.int p1), .val (.int p2), .val (.int p3), .val (.int p4), .val (.int p5), .val (.int (2 : Int32)), .unset, .unset, .unset, .unset, .unset, .unset] [(.int (2 : Int32))]))
    refine own_ofc (fun t => XS.iconst X0.here hx rfl (hb hby at_34)) ?_
    show own_gc p e below s _ _ _ _ _ (s₁.setTop (mkF m 35 #[.val (.int p1), .val (.int p2), .val (.int p3), .val (.int p4), .val (.int p5), .val (.int (2 : Int32)), .unset, .unset, .unset, .unset, .unset, .unset] [(.int (2 : Int32)), (.int (2 : Int32))]))
    have hb35_48 : (2 : Int32) = (2 : Int32) := by decide
    refine own_ofc (fun t => XS.icmpNo X0.here hx rfl (hb hby at_35) rfl (teq hb35_48).2) ?_
    show own_gc p e below s _ _ _ _ _ (s₁.setTop (mkF m 38 #[.val (.int p1), .val (.int p2), .val (.int p3), .val (.int p4), .val (.int p5), .val (.int (2 : Int32)), .unset, .unset, .unset, .unset, .unset, .unset] []))
    refine own_ofc (fun t => XS.iconst X0.here hx rfl (hb hby at_38)) ?_
    show own_gc p e below s _ _ _ _ _ (s₁.setTop (mkF m 39 #[.val (.int p1), .val (.int p2), .val (.int p3), .val (.int p4), .val (.int p5), .val (.int (2 : Int32)), .unset, .unset, .unset, .unset, .unset, .unset] [(.int (2 : Int32))]))
    obtain ⟨T49, h49, k49, X49, e49, E49, A49, st49⟩ := newP X0 hx hZ (hW 0 _ rfl) e0 (g := (mkF m 39 #[.val (.int p1), .val (.int p2), .val (.int p3), .val (.int p4), .val (.int p5), .val (.int (2 : Int32)), .unset, .unset, .unset, .unset, .unset, .unset] [(.int (2 : Int32))])) rfl (hb hby at_39) rfl (by decide) (cap := 2) (by decide) (by decide) (by decide) (by decide)
    obtain ⟨b49, g49⟩ : ∃ z, z = h0.size := ⟨_, rfl⟩
    rw [← g49] at A49 st49
    refine own_ofc st49 ?_
    have lt49 := own_lt A49.lt
    have sz49 : h0.size ≤ h49.size := E49.1
    have O49 : Old Z n0 h49 := XO0.ext E49
    have z49 : n0 ≤ b49 := by have := XO0.1 ▸ XO0.2.1; omega
    have CHs49 := CHr.ext E49 CH0.1
    have Sf49 := Safe.ext E49 CH0.1 (Safe.new (Nat.le_of_eq g49.symm))
    have CH49 := CH0.trans CHs49
    have V49 : Arv Z h49 b49 k49 .char (2 : Int32) [(.int (0 : Int32)), (.int (0 : Int32))] (.int (0 : Int32)) := (Arv.new A49 (by decide)).pad (pad_rep [] (.int (0 : Int32)) 2)
    show own_gc p e below s _ _ _ _ _ (T49.setTop (mkF m 41 #[.val (.int p1), .val (.int p2), .val (.int p3), .val (.int p4), .val (.int p5), .val (.int (2 : Int32)), .unset, .unset, .unset, .unset, .unset, .unset] [(.ref b49)]))
    refine own_ofc (fun t => XS.astore X49.here hx rfl (hb hby at_41) rfl rfl (l' := #[.val (.int p1), .val (.int p2), .val (.int p3), .val (.int p4), .val (.int p5), .val (.int (2 : Int32)), .val (.ref b49), .unset, .unset, .unset, .unset, .unset]) rfl) ?_
    show own_gc p e below s _ _ _ _ _ (T49.setTop (mkF m 43 #[.val (.int p1), .val (.int p2), .val (.int p3), .val (.int p4), .val (.int p5), .val (.int (2 : Int32)), .val (.ref b49), .unset, .unset, .unset, .unset, .unset] []))
    refine own_ofc (fun t => XS.goto X49.here hx rfl (pc0 := 43) (pc' := 51) rfl (hb hby at_43) (by decide) (by decide)) ?_
    show own_gc p e below s _ _ _ _ _ (T49.setTop (mkF m 51 #[.val (.int p1), .val (.int p2), .val (.int p3), .val (.int p4), .val (.int p5), .val (.int (2 : Int32)), .val (.ref b49), .unset, .unset, .unset, .unset, .unset] []))
    refine own_ofc (fun t => XS.iload X49.here hx rfl (hb hby at_51) rfl) ?_
    show own_gc p e below s _ _ _ _ _ (T49.setTop (mkF m 53 #[.val (.int p1), .val (.int p2), .val (.int p3), .val (.int p4), .val (.int p5), .val (.int (2 : Int32)), .val (.ref b49), .unset, .unset, .unset, .unset, .unset] [(.int (2 : Int32))]))
    have hb53_50 : (0 : Int32) < (2 : Int32) := by decide
    refine own_ofc (fun t => XS.ifNo X49.here hx rfl (hb hby at_53) rfl ((if0 _ _).trans (tlt hb53_50).2.2.2)) ?_
    show own_gc p e below s _ _ _ _ _ (T49.setTop (mkF m 56 #[.val (.int p1), .val (.int p2), .val (.int p3), .val (.int p4), .val (.int p5), .val (.int (2 : Int32)), .val (.ref b49), .unset, .unset, .unset, .unset, .unset] []))
    refine own_ofc (fun t => XS.aload X49.here hx rfl (hb hby at_56) rfl rfl) ?_
    show own_gc p e below s _ _ _ _ _ (T49.setTop (mkF m 58 #[.val (.int p1), .val (.int p2), .val (.int p3), .val (.int p4), .val (.int p5), .val (.int (2 : Int32)), .val (.ref b49), .unset, .unset, .unset, .unset, .unset] [(.ref b49)]))
    refine own_ofc (fun t => XS.iconst X49.here hx rfl (hb hby at_58)) ?_
    show own_gc p e below s _ _ _ _ _ (T49.setTop (mkF m 59 #[.val (.int p1), .val (.int p2), .val (.int p3), .val (.int p4), .val (.int p5), .val (.int (2 : Int32)), .val (.ref b49), .unset, .unset, .unset, .unset, .unset] [(.int (0 : Int32)), (.ref b49)]))
    refine own_ofc (fun t => XS.iloadN X49.here hx rfl (hb hby at_59) rfl) ?_
    show own_gc p e below s _ _ _ _ _ (T49.setTop (mkF m 60 #[.val (.int p1), .val (.int p2), .val (.int p3), .val (.int p4), .val (.int p5), .val (.int (2 : Int32)), .val (.ref b49), .unset, .unset, .unset, .unset, .unset] [(.int p2), (.int (0 : Int32)), (.ref b49)]))
    refine own_ofc (fun t => XS.sipush X49.here hx rfl (hb hby at_60)) ?_
    show own_gc p e below s _ _ _ _ _ (T49.setTop (mkF m 63 #[.val (.int p1), .val (.int p2), .val (.int p3), .val (.int p4), .val (.int p5), .val (.int (2 : Int32)), .val (.ref b49), .unset, .unset, .unset, .unset, .unset] [(.int (255 : Int32)), (.int p2), (.int (0 : Int32)), (.ref b49)]))
    refine own_ofc (fun t => XS.iand X49.here hx rfl (hb hby at_63) rfl) ?_
    show own_gc p e below s _ _ _ _ _ (T49.setTop (mkF m 64 #[.val (.int p1), .val (.int p2), .val (.int p3), .val (.int p4), .val (.int p5), .val (.int (2 : Int32)), .val (.ref b49), .unset, .unset, .unset, .unset, .unset] [(.int (p2 &&& (255 : Int32))), (.int (0 : Int32)), (.ref b49)]))
    refine own_ofc (fun t => XS.i2c X49.here hx rfl (hb hby at_64) rfl) ?_
    show own_gc p e below s _ _ _ _ _ (T49.setTop (mkF m 65 #[.val (.int p1), .val (.int p2), .val (.int p3), .val (.int p4), .val (.int p5), .val (.int (2 : Int32)), .val (.ref b49), .unset, .unset, .unset, .unset, .unset] [(.int ((p2 &&& (255 : Int32)).toUInt32.toUInt16.toUInt32.toInt32)), (.int (0 : Int32)), (.ref b49)]))
    obtain ⟨cl51, Ar51, q51, S51, Ng51, H51, G51⟩ := V49
    obtain ⟨T51, h51, X51, e51, W51, st51⟩ := stC X49 hx hZ e49 Ar51 (j := (0 : Int32)) (inb_of S51 ⟨by decide, by decide⟩) (g := (mkF m 65 #[.val (.int p1), .val (.int p2), .val (.int p3), .val (.int p4), .val (.int p5), .val (.int (2 : Int32)), .val (.ref b49), .unset, .unset, .unset, .unset, .unset] [(.int ((p2 &&& (255 : Int32)).toUInt32.toUInt16.toUInt32.toInt32)), (.int (0 : Int32)), (.ref b49)])) rfl rfl (hb hby at_65)
    have V51 : Arv Z h51 b49 k49 .char (2 : Int32) [(.int (nar .char ((p2 &&& (255 : Int32)).toUInt32.toUInt16.toUInt32.toInt32))), (.int (0 : Int32))] (.int (0 : Int32)) := Arv.set Ar51 q51 S51 Ng51 H51 G51 (fits_nar_char _) W51 0 rfl (Nat.le_of_ble_eq_true rfl)
    refine own_ofc st51 ?_
    have CHs51 := CHr.wr W51 Sf49 CH49.1
    have CH51 := CH49.trans CHs51
    have N51 := Fr.snoc X51 N0 (by omega : n0 ≤ b49)
    have sz51 : h51.size = h49.size := W51.size
    have O51 : Old Z n0 h51 := O49.wr W51 (by omega)
    show own_gc p e below s _ _ _ _ _ (T51.setTop (mkF m 66 #[.val (.int p1), .val (.int p2), .val (.int p3), .val (.int p4), .val (.int p5), .val (.int (2 : Int32)), .val (.ref b49), .unset, .unset, .unset, .unset, .unset] []))
    refine own_ofc (fun t => XS.iload X51.here hx rfl (hb hby at_66) rfl) ?_
    show own_gc p e below s _ _ _ _ _ (T51.setTop (mkF m 68 #[.val (.int p1), .val (.int p2), .val (.int p3), .val (.int p4), .val (.int p5), .val (.int (2 : Int32)), .val (.ref b49), .unset, .unset, .unset, .unset, .unset] [(.int (2 : Int32))]))
    refine own_ofc (fun t => XS.iconst X51.here hx rfl (hb hby at_68)) ?_
    show own_gc p e below s _ _ _ _ _ (T51.setTop (mkF m 69 #[.val (.int p1), .val (.int p2), .val (.int p3), .val (.int p4), .val (.int p5), .val (.int (2 : Int32)), .val (.ref b49), .unset, .unset, .unset, .unset, .unset] [(.int (1 : Int32)), (.int (2 : Int32))]))
    have hb69_52 : (1 : Int32) < (2 : Int32) := by decide
    refine own_ofc (fun t => XS.icmpNo X51.here hx rfl (hb hby at_69) rfl (tlt hb69_52).2.2.2) ?_
    show own_gc p e below s _ _ _ _ _ (T51.setTop (mkF m 72 #[.val (.int p1), .val (.int p2), .val (.int p3), .val (.int p4), .val (.int p5), .val (.int (2 : Int32)), .val (.ref b49), .unset, .unset, .unset, .unset, .unset] []))
    refine own_ofc (fun t => XS.aload X51.here hx rfl (hb hby at_72) rfl rfl) ?_
    show own_gc p e below s _ _ _ _ _ (T51.setTop (mkF m 74 #[.val (.int p1), .val (.int p2), .val (.int p3), .val (.int p4), .val (.int p5), .val (.int (2 : Int32)), .val (.ref b49), .unset, .unset, .unset, .unset, .unset] [(.ref b49)]))
    refine own_ofc (fun t => XS.iconst X51.here hx rfl (hb hby at_74)) ?_
    show own_gc p e below s _ _ _ _ _ (T51.setTop (mkF m 75 #[.val (.int p1), .val (.int p2), .val (.int p3), .val (.int p4), .val (.int p5), .val (.int (2 : Int32)), .val (.ref b49), .unset, .unset, .unset, .unset, .unset] [(.int (1 : Int32)), (.ref b49)]))
    refine own_ofc (fun t => XS.iloadN X51.here hx rfl (hb hby at_75) rfl) ?_
    show own_gc p e below s _ _ _ _ _ (T51.setTop (mkF m 76 #[.val (.int p1), .val (.int p2), .val (.int p3), .val (.int p4), .val (.int p5), .val (.int (2 : Int32)), .val (.ref b49), .unset, .unset, .unset, .unset, .unset] [(.int p3), (.int (1 : Int32)), (.ref b49)]))
    refine own_ofc (fun t => XS.sipush X51.here hx rfl (hb hby at_76)) ?_
    show own_gc p e below s _ _ _ _ _ (T51.setTop (mkF m 79 #[.val (.int p1), .val (.int p2), .val (.int p3), .val (.int p4), .val (.int p5), .val (.int (2 : Int32)), .val (.ref b49), .unset, .unset, .unset, .unset, .unset] [(.int (255 : Int32)), (.int p3), (.int (1 : Int32)), (.ref b49)]))
    refine own_ofc (fun t => XS.iand X51.here hx rfl (hb hby at_79) rfl) ?_
    show own_gc p e below s _ _ _ _ _ (T51.setTop (mkF m 80 #[.val (.int p1), .val (.int p2), .val (.int p3), .val (.int p4), .val (.int p5), .val (.int (2 : Int32)), .val (.ref b49), .unset, .unset, .unset, .unset, .unset] [(.int (p3 &&& (255 : Int32))), (.int (1 : Int32)), (.ref b49)]))
    refine own_ofc (fun t => XS.i2c X51.here hx rfl (hb hby at_80) rfl) ?_
    show own_gc p e below s _ _ _ _ _ (T51.setTop (mkF m 81 #[.val (.int p1), .val (.int p2), .val (.int p3), .val (.int p4), .val (.int p5), .val (.int (2 : Int32)), .val (.ref b49), .unset, .unset, .unset, .unset, .unset] [(.int ((p3 &&& (255 : Int32)).toUInt32.toUInt16.toUInt32.toInt32)), (.int (1 : Int32)), (.ref b49)]))
    obtain ⟨cl53, Ar53, q53, S53, Ng53, H53, G53⟩ := V51
    obtain ⟨T53, h53, X53, e53, W53, st53⟩ := stC X51 hx hZ e51 Ar53 (j := (1 : Int32)) (inb_of S53 ⟨by decide, by decide⟩) (g := (mkF m 81 #[.val (.int p1), .val (.int p2), .val (.int p3), .val (.int p4), .val (.int p5), .val (.int (2 : Int32)), .val (.ref b49), .unset, .unset, .unset, .unset, .unset] [(.int ((p3 &&& (255 : Int32)).toUInt32.toUInt16.toUInt32.toInt32)), (.int (1 : Int32)), (.ref b49)])) rfl rfl (hb hby at_81)
    have V53 : Arv Z h53 b49 k49 .char (2 : Int32) [(.int (nar .char ((p2 &&& (255 : Int32)).toUInt32.toUInt16.toUInt32.toInt32))), (.int (nar .char ((p3 &&& (255 : Int32)).toUInt32.toUInt16.toUInt32.toInt32)))] (.int (0 : Int32)) := Arv.set Ar53 q53 S53 Ng53 H53 G53 (fits_nar_char _) W53 1 rfl (Nat.le_of_ble_eq_true rfl)
    refine own_ofc st53 ?_
    have f54 := (CHs51.safe (own_lt (by omega)) Sf49)
    have CHs53 := CHr.wr W53 f54 CH51.1
    have CH53 := CH51.trans CHs53
    have N53 := Fr.snoc X53 N51 (by omega : n0 ≤ b49)
    have sz53 : h53.size = h51.size := W53.size
    have O53 : Old Z n0 h53 := O51.wr W53 (by omega)
    show own_gc p e below s _ _ _ _ _ (T53.setTop (mkF m 82 #[.val (.int p1), .val (.int p2), .val (.int p3), .val (.int p4), .val (.int p5), .val (.int (2 : Int32)), .val (.ref b49), .unset, .unset, .unset, .unset, .unset] []))
    refine own_ofc (fun t => XS.iload X53.here hx rfl (hb hby at_82) rfl) ?_
    show own_gc p e below s _ _ _ _ _ (T53.setTop (mkF m 84 #[.val (.int p1), .val (.int p2), .val (.int p3), .val (.int p4), .val (.int p5), .val (.int (2 : Int32)), .val (.ref b49), .unset, .unset, .unset, .unset, .unset] [(.int (2 : Int32))]))
    refine own_ofc (fun t => XS.iconst X53.here hx rfl (hb hby at_84)) ?_
    show own_gc p e below s _ _ _ _ _ (T53.setTop (mkF m 85 #[.val (.int p1), .val (.int p2), .val (.int p3), .val (.int p4), .val (.int p5), .val (.int (2 : Int32)), .val (.ref b49), .unset, .unset, .unset, .unset, .unset] [(.int (2 : Int32)), (.int (2 : Int32))]))
    have hb85_55 : ¬ ((2 : Int32) < (2 : Int32)) := by decide
    refine own_ofc (fun t => XS.icmpYes X53.here hx rfl (pc0 := 85) (pc' := 98) rfl (hb hby at_85) rfl (flt hb85_55).2.2.2 (by decide) (by decide)) ?_
    show own_gc p e below s _ _ _ _ _ (T53.setTop (mkF m 98 #[.val (.int p1), .val (.int p2), .val (.int p3), .val (.int p4), .val (.int p5), .val (.int (2 : Int32)), .val (.ref b49), .unset, .unset, .unset, .unset, .unset] []))
    obtain ⟨T56, h56, X56, e56, E56, A56, D56, -, st56⟩ := newO X53 hx hZ hown (hW 1 _ rfl) (hW 2 _ rfl) (hW 3 _ rfl) e53 (g := (mkF m 98 #[.val (.int p1), .val (.int p2), .val (.int p3), .val (.int p4), .val (.int p5), .val (.int (2 : Int32)), .val (.ref b49), .unset, .unset, .unset, .unset, .unset] [])) rfl (hb hby at_98) (by decide) (by decide)
    obtain ⟨b56, g56⟩ : ∃ z, z = h53.size := ⟨_, rfl⟩
    rw [← g56] at A56 D56 st56
    refine own_ofc st56 ?_
    have lt56 := own_lt A56.lt
    have sz56 : h53.size ≤ h56.size := E56.1
    have O56 : Old Z n0 h56 := O53.ext E56
    have z56 : n0 ≤ b56 := by have := O53.1 ▸ O53.2.1; omega
    have CHs56 := CHr.ext E56 CH53.1
    have Sf56 := Safe.ext E56 CH53.1 (Safe.new (Nat.le_of_eq g56.symm))
    have CH56 := CH53.trans CHs56
    have F56_value : Fld Z h56 b56 "java/lang/String" "value" "[B" .null := D56 (Or.inr (hW 16 _ rfl)) (ty := (.array .byte)) (by decide)
    have F56_coder : Fld Z h56 b56 "java/lang/String" "coder" "B" (.int (0 : Int32)) := D56 (Or.inr (hW 17 _ rfl)) (ty := .byte) (by decide)
    show own_gc p e below s _ _ _ _ _ (T56.setTop (mkF m 101 #[.val (.int p1), .val (.int p2), .val (.int p3), .val (.int p4), .val (.int p5), .val (.int (2 : Int32)), .val (.ref b49), .unset, .unset, .unset, .unset, .unset] [(.ref b56)]))
    refine own_ofc (fun t => XS.dup X56.here hx rfl (hb hby at_101) rfl rfl) ?_
    show own_gc p e below s _ _ _ _ _ (T56.setTop (mkF m 102 #[.val (.int p1), .val (.int p2), .val (.int p3), .val (.int p4), .val (.int p5), .val (.int (2 : Int32)), .val (.ref b49), .unset, .unset, .unset, .unset, .unset] [(.ref b56), (.ref b56)]))
    refine own_ofc (fun t => XS.aload X56.here hx rfl (hb hby at_102) rfl rfl) ?_
    show own_gc p e below s _ _ _ _ _ (T56.setTop (mkF m 104 #[.val (.int p1), .val (.int p2), .val (.int p3), .val (.int p4), .val (.int p5), .val (.int (2 : Int32)), .val (.ref b49), .unset, .unset, .unset, .unset, .unset] [(.ref b49), (.ref b56), (.ref b56)]))
    have hp57 : ∀ c ∈ ([nar .char ((p2 &&& (255 : Int32)).toUInt32.toUInt16.toUInt32.toInt32), nar .char ((p3 &&& (255 : Int32)).toUInt32.toUInt16.toUInt32.toInt32)] : List Int32), ¬ c < 0 ∧ ¬ (255 : Int32) < c := by
      intro c hc
      simp only [List.mem_cons, List.not_mem_nil, or_false] at hc
      rcases hc with rfl | rfl
      · exact own_and255 _
      · exact own_and255 _
    have f58 : Arv Z h56 b49 k49 .char (2 : Int32) [(.int (nar .char ((p2 &&& (255 : Int32)).toUInt32.toUInt16.toUInt32.toInt32))), (.int (nar .char ((p3 &&& (255 : Int32)).toUInt32.toUInt16.toUInt32.toInt32)))] (.int (0 : Int32)) := (V53.ext E56)
    obtain ⟨_, _, ⟨T59, L59, k59, n59⟩, -, X59, ⟨Lc59, hQ59, l59, y59, z59⟩, st59⟩ := X56.specialBack hx (y := (⟨"java/lang/String", "<init>", "([C)V"⟩ : MethodName)) rfl hown (mvT hZ (hW 4 _ rfl)) (mvT hZ (hW 5 _ rfl)) (mvT hZ (hW 6 _ rfl)) (by decide) (StrChars.Road.backV (W := 1) hZ hws (kI := 4) (hW 2 _ rfl) (cs := ([nar .char ((p2 &&& (255 : Int32)).toUInt32.toUInt16.toUInt32.toInt32), nar .char ((p3 &&& (255 : Int32)).toUInt32.toUInt16.toUInt32.toInt32)] : List Int32)) (bs := ([nar .char ((p2 &&& (255 : Int32)).toUInt32.toUInt16.toUInt32.toInt32), nar .char ((p3 &&& (255 : Int32)).toUInt32.toUInt16.toUInt32.toInt32)] : List Int32).map (fun c => c.toInt8.toInt32)) (n := 2) (by omega : n0 ≤ b56) (by omega : n0 ≤ h56.size) A56 F56_value F56_coder f58 (O2.ext O56.2) P5 rfl rfl (by decide) (by decide) hp57 rfl (by decide) (by decide)) (g := (mkF m 104 #[.val (.int p1), .val (.int p2), .val (.int p3), .val (.int p4), .val (.int p5), .val (.int (2 : Int32)), .val (.ref b49), .unset, .unset, .unset, .unset, .unset] [(.ref b49), (.ref b56), (.ref b56)])) rfl (by rw [hml]; rfl) (Steps.refl _) (a := b56) (argsL := [(.ref b49)]) (rest := [(.ref b56)]) (lenOf pd_3 rfl) rfl (by show 2 * 0 + _ ≤ _; exact Nat.le_of_eq rfl) (hb hby at_104) (fun _ _ => ⟨rfl, e56, (by decide : 2 + 1 ≤ _), (by decide : 6 + 2 ≤ _)⟩)
    dsimp only [Pt.U, Pt.locs, Pt.cells, Pt.slots] at X59 l59 y59 z59 st59 hQ59
    subst l59 y59 z59
    obtain ⟨rfl, Nq59, Kp59, g159, g259, t59, kb59, u159, u259, u359, g459, g559⟩ := hQ59
    have N59 := Fr.app N53 Nq59
    refine own_ofc (fun t k => st59.trans k) ?_
    have CHs59 := CHr.keep Kp59 (allS Sf56 all0) CH56.1
    have CH59 := CH56.trans CHs59
    have sz59 : h56.size ≤ T59.heap.size := Kp59.1
    have O59 : Old Z n0 T59.heap := O56.keep Kp59 (allS (by omega) all0)
    have Sx59 : own_str Z T59.heap b56 ([nar .char ((p2 &&& (255 : Int32)).toUInt32.toUInt16.toUInt32.toInt32), nar .char ((p3 &&& (255 : Int32)).toUInt32.toUInt16.toUInt32.toInt32)] : List Int32) := ⟨t59, kb59, _, _, g159, g459, g259, g559, StrChars.Road.codOf (n := 2) rfl (fun c hc => (hp57 c hc).2)⟩
    have Ex59 : Exa Z T59.heap b56 "java/lang/String" := by obtain ⟨_, _, _, _, q, -⟩ := id Sx59; exact q
    show own_gc p e below s _ _ _ _ _ (T59.setTop (mkF m 107 #[.val (.int p1), .val (.int p2), .val (.int p3), .val (.int p4), .val (.int p5), .val (.int (2 : Int32)), .val (.ref b49), .unset, .unset, .unset, .unset, .unset] [(.ref b56)]))
    refine own_ofc (fun t => XS.astore X59.here hx rfl (hb hby at_107) rfl rfl (l' := #[.val (.int p1), .val (.int p2), .val (.int p3), .val (.int p4), .val (.int p5), .val (.int (2 : Int32)), .val (.ref b49), .val (.ref b56), .unset, .unset, .unset, .unset]) rfl) ?_
    show own_gc p e below s _ _ _ _ _ (T59.setTop (mkF m 109 #[.val (.int p1), .val (.int p2), .val (.int p3), .val (.int p4), .val (.int p5), .val (.int (2 : Int32)), .val (.ref b49), .val (.ref b56), .unset, .unset, .unset, .unset] []))
    refine own_ofc (fun t => XS.iload X59.here hx rfl (hb hby at_109) rfl) ?_
    show own_gc p e below s _ _ _ _ _ (T59.setTop (mkF m 111 #[.val (.int p1), .val (.int p2), .val (.int p3), .val (.int p4), .val (.int p5), .val (.int (2 : Int32)), .val (.ref b49), .val (.ref b56), .unset, .unset, .unset, .unset] [(.int p5)]))
    refine own_ofc (fun t => XS.iconst X59.here hx rfl (hb hby at_111)) ?_
    show own_gc p e below s _ _ _ _ _ (T59.setTop (mkF m 112 #[.val (.int p1), .val (.int p2), .val (.int p3), .val (.int p4), .val (.int p5), .val (.int (2 : Int32)), .val (.ref b49), .val (.ref b56), .unset, .unset, .unset, .unset] [(.int (1 : Int32)), (.int p5)]))
    refine own_ofc (fun t => XS.iand X59.here hx rfl (hb hby at_112) rfl) ?_
    show own_gc p e below s _ _ _ _ _ (T59.setTop (mkF m 113 #[.val (.int p1), .val (.int p2), .val (.int p3), .val (.int p4), .val (.int p5), .val (.int (2 : Int32)), .val (.ref b49), .val (.ref b56), .unset, .unset, .unset, .unset] [(.int (p5 &&& (1 : Int32)))]))
    refine own_use X59 (h := T59.heap) (g := fun r60 : Addr => (mkF m 125 #[.val (.int p1), .val (.int p2), .val (.int p3), .val (.int p4), .val (.int p5), .val (.int (2 : Int32)), .val (.ref b49), .val (.ref b56), .unset, .unset, .unset, .unset] [(.ref r60)])) (G := own_gc p e below s _ _ _ _ _) ?_ ?_
    · intro r60 T60 X60 e60
      show own_gc p e below s _ _ _ _ _ (T60.setTop (mkF m 125 #[.val (.int p1), .val (.int p2), .val (.int p3), .val (.int p4), .val (.int p5), .val (.int (2 : Int32)), .val (.ref b49), .val (.ref b56), .unset, .unset, .unset, .unset] [(.ref r60)]))
      refine own_ofc (fun t => XS.astore X60.here hx rfl (hb hby at_125) rfl rfl (l' := #[.val (.int p1), .val (.int p2), .val (.int p3), .val (.int p4), .val (.int p5), .val (.int (2 : Int32)), .val (.ref b49), .val (.ref b56), .val (.ref r60), .unset, .unset, .unset]) rfl) ?_
      show own_gc p e below s _ _ _ _ _ (T60.setTop (mkF m 127 #[.val (.int p1), .val (.int p2), .val (.int p3), .val (.int p4), .val (.int p5), .val (.int (2 : Int32)), .val (.ref b49), .val (.ref b56), .val (.ref r60), .unset, .unset, .unset] []))
      refine own_ofc (fun t => XS.iload X60.here hx rfl (hb hby at_127) rfl) ?_
      show own_gc p e below s _ _ _ _ _ (T60.setTop (mkF m 129 #[.val (.int p1), .val (.int p2), .val (.int p3), .val (.int p4), .val (.int p5), .val (.int (2 : Int32)), .val (.ref b49), .val (.ref b56), .val (.ref r60), .unset, .unset, .unset] [(.int p5)]))
      refine own_ofc (fun t => XS.iconst X60.here hx rfl (hb hby at_129)) ?_
      show own_gc p e below s _ _ _ _ _ (T60.setTop (mkF m 130 #[.val (.int p1), .val (.int p2), .val (.int p3), .val (.int p4), .val (.int p5), .val (.int (2 : Int32)), .val (.ref b49), .val (.ref b56), .val (.ref r60), .unset, .unset, .unset] [(.int (2 : Int32)), (.int p5)]))
      refine own_ofc (fun t => XS.iand X60.here hx rfl (hb hby at_130) rfl) ?_
      show own_gc p e below s _ _ _ _ _ (T60.setTop (mkF m 131 #[.val (.int p1), .val (.int p2), .val (.int p3), .val (.int p4), .val (.int p5), .val (.int (2 : Int32)), .val (.ref b49), .val (.ref b56), .val (.ref r60), .unset, .unset, .unset] [(.int (p5 &&& (2 : Int32)))]))
      refine own_use X60 (h := T59.heap) (g := fun z61 : Int32 => (mkF m 139 #[.val (.int p1), .val (.int p2), .val (.int p3), .val (.int p4), .val (.int p5), .val (.int (2 : Int32)), .val (.ref b49), .val (.ref b56), .val (.ref r60), .unset, .unset, .unset] [(.int z61)])) (G := own_gc p e below s _ _ _ _ _) ?_ ?_
      · intro z61 T61 X61 e61
        show own_gc p e below s _ _ _ _ _ (T61.setTop (mkF m 139 #[.val (.int p1), .val (.int p2), .val (.int p3), .val (.int p4), .val (.int p5), .val (.int (2 : Int32)), .val (.ref b49), .val (.ref b56), .val (.ref r60), .unset, .unset, .unset] [(.int z61)]))
        refine own_ofc (fun t => XS.istore X61.here hx rfl (hb hby at_139) rfl (l' := #[.val (.int p1), .val (.int p2), .val (.int p3), .val (.int p4), .val (.int p5), .val (.int (2 : Int32)), .val (.ref b49), .val (.ref b56), .val (.ref r60), .val (.int z61), .unset, .unset]) rfl) ?_
        show own_gc p e below s _ _ _ _ _ (T61.setTop (mkF m 141 #[.val (.int p1), .val (.int p2), .val (.int p3), .val (.int p4), .val (.int p5), .val (.int (2 : Int32)), .val (.ref b49), .val (.ref b56), .val (.ref r60), .val (.int z61), .unset, .unset] []))
        obtain ⟨T62, h62, X62, e62, E62, A62, D62, -, st62⟩ := newO X61 hx hZ hown (hW 25 _ rfl) (hW 26 _ rfl) (hW 27 _ rfl) e61 (g := (mkF m 141 #[.val (.int p1), .val (.int p2), .val (.int p3), .val (.int p4), .val (.int p5), .val (.int (2 : Int32)), .val (.ref b49), .val (.ref b56), .val (.ref r60), .val (.int z61), .unset, .unset] [])) rfl (hb hby at_141) (by decide) (by decide)
        obtain ⟨b62, g62⟩ : ∃ z, z = T59.heap.size := ⟨_, rfl⟩
        rw [← g62] at A62 D62 st62
        refine own_ofc st62 ?_
        have lt62 := own_lt A62.lt
        have sz62 : T59.heap.size ≤ h62.size := E62.1
        have O62 : Old Z n0 h62 := O59.ext E62
        have z62 : n0 ≤ b62 := by have := O59.1 ▸ O59.2.1; omega
        have CHs62 := CHr.ext E62 CH59.1
        have Sf62 := Safe.ext E62 CH59.1 (Safe.new (Nat.le_of_eq g62.symm))
        have CH62 := CH59.trans CHs62
        have F62_groupSubfields : Fld Z h62 b62 "com/example/sachfeld/sachfeld/SubjectField$Layout" "groupSubfields" "Ljava/util/Map;" .null := D62 (Or.inr (hW 38 _ rfl)) (ty := (.object "java/util/Map")) (by decide)
        have F62_provenanceCodes : Fld Z h62 b62 "com/example/sachfeld/sachfeld/SubjectField$Layout" "provenanceCodes" "Ljava/lang/String;" .null := D62 (Or.inr (hW 40 _ rfl)) (ty := (.object "java/lang/String")) (by decide)
        have F62_manyDdcGroups : Fld Z h62 b62 "com/example/sachfeld/sachfeld/SubjectField$Layout" "manyDdcGroups" "Lcom/example/sachfeld/sachfeld/Rule;" .null := D62 (Or.inr (hW 42 _ rfl)) (ty := (.object "com/example/sachfeld/sachfeld/Rule")) (by decide)
        have F62_repeatable : Fld Z h62 b62 "com/example/sachfeld/sachfeld/SubjectField$Layout" "repeatable" "Z" (.int (0 : Int32)) := D62 (Or.inr (hW 44 _ rfl)) (ty := .boolean) (by decide)
        show own_gc p e below s _ _ _ _ _ (T62.setTop (mkF m 144 #[.val (.int p1), .val (.int p2), .val (.int p3), .val (.int p4), .val (.int p5), .val (.int (2 : Int32)), .val (.ref b49), .val (.ref b56), .val (.ref r60), .val (.int z61), .unset, .unset] [(.ref b62)]))
        refine own_ofc (fun t => XS.dup X62.here hx rfl (hb hby at_144) rfl rfl) ?_
        show own_gc p e below s _ _ _ _ _ (T62.setTop (mkF m 145 #[.val (.int p1), .val (.int p2), .val (.int p3), .val (.int p4), .val (.int p5), .val (.int (2 : Int32)), .val (.ref b49), .val (.ref b56), .val (.ref r60), .val (.int z61), .unset, .unset] [(.ref b62), (.ref b62)]))
        refine own_ofc (fun t => XS.aconstNull X62.here hx rfl (hb hby at_145)) ?_
        show own_gc p e below s _ _ _ _ _ (T62.setTop (mkF m 146 #[.val (.int p1), .val (.int p2), .val (.int p3), .val (.int p4), .val (.int p5), .val (.int (2 : Int32)), .val (.ref b49), .val (.ref b56), .val (.ref r60), .val (.int z61), .unset, .unset] [.null, (.ref b62), (.ref b62)]))
        refine own_ofc (fun t => XS.aload X62.here hx rfl (hb hby at_146) rfl rfl) ?_
        show own_gc p e below s _ _ _ _ _ (T62.setTop (mkF m 148 #[.val (.int p1), .val (.int p2), .val (.int p3), .val (.int p4), .val (.int p5), .val (.int (2 : Int32)), .val (.ref b49), .val (.ref b56), .val (.ref r60), .val (.int z61), .unset, .unset] [(.ref b56), .null, (.ref b62), (.ref b62)]))
        refine own_ofc (fun t => XS.aload X62.here hx rfl (hb hby at_148) rfl rfl) ?_
        show own_gc p e below s _ _ _ _ _ (T62.setTop (mkF m 150 #[.val (.int p1), .val (.int p2), .val (.int p3), .val (.int p4), .val (.int p5), .val (.int (2 : Int32)), .val (.ref b49), .val (.ref b56), .val (.ref r60), .val (.int z61), .unset, .unset] [(.ref r60), (.ref b56), .null, (.ref b62), (.ref b62)]))
        refine own_ofc (fun t => XS.iload X62.here hx rfl (hb hby at_150) rfl) ?_
        show own_gc p e below s _ _ _ _ _ (T62.setTop (mkF m 152 #[.val (.int p1), .val (.int p2), .val (.int p3), .val (.int p4), .val (.int p5), .val (.int (2 : Int32)), .val (.ref b49), .val (.ref b56), .val (.ref r60), .val (.int z61), .unset, .unset] [(.int z61), (.ref r60), (.ref b56), .null, (.ref b62), (.ref b62)]))
        obtain ⟨_, _, ⟨T63, L63, k63, n63⟩, -, X63, ⟨Lc63, hQ63, l63, y63, z63⟩, st63⟩ := X62.specialBack hx (y := (⟨"com/example/sachfeld/sachfeld/SubjectField$Layout", "<init>", "(Ljava/util/Map;Ljava/lang/String;Lcom/example/sachfeld/sachfeld/Rule;Z)V"⟩ : MethodName)) rfl hown (mvT hZ (hW 28 _ rfl)) (mvT hZ (hW 29 _ rfl)) (mvT hZ (hW 30 _ rfl)) (by decide) (backOf (W := 1) (rmL l Z a0 hw [] b62 b56 r60 z61 h62 n0 O62 (by omega) A62 F62_groupSubfields F62_provenanceCodes F62_manyDdcGroups F62_repeatable) hZ (hW 30 _ rfl) (hW 27 _ rfl) (by decide) (by decide)) (g := (mkF m 152 #[.val (.int p1), .val (.int p2), .val (.int p3), .val (.int p4), .val (.int p5), .val (.int (2 : Int32)), .val (.ref b49), .val (.ref b56), .val (.ref r60), .val (.int z61), .unset, .unset] [(.int z61), (.ref r60), (.ref b56), .null, (.ref b62), (.ref b62)])) rfl (by rw [hml]; rfl) (Steps.refl _) (a := b62) (argsL := [.null, (.ref b56), (.ref r60), (.int z61)]) (rest := [(.ref b62)]) (lenOf pd_4 rfl) rfl (by show 2 * 0 + _ ≤ _; exact Nat.le_of_eq rfl) (hb hby at_152) (fun _ _ => ⟨rfl, e62, (by decide : 4 + 0 ≤ _), (by decide : 12 + 0 ≤ _)⟩)
        dsimp only [Pt.U, Pt.locs, Pt.cells, Pt.slots] at X63 l63 y63 z63 st63 hQ63
        subst l63 y63 z63
        obtain ⟨rfl, Nq63, Kp63, Fp63⟩ := hQ63
        have N63 := Fr.app N59 Nq63
        refine own_ofc (fun t k => st63.trans k) ?_
        have CHs63 := CHr.keep Kp63 (allS Sf62 all0) CH62.1
        have CH63 := CH62.trans CHs63
        have sz63 : h62.size ≤ T63.heap.size := Kp63.1
        have O63 : Old Z n0 T63.heap := O62.keep Kp63 (allS (by omega) all0)
        show own_gc p e below s _ _ _ _ _ (T63.setTop (mkF m 155 #[.val (.int p1), .val (.int p2), .val (.int p3), .val (.int p4), .val (.int p5), .val (.int (2 : Int32)), .val (.ref b49), .val (.ref b56), .val (.ref r60), .val (.int z61), .unset, .unset] [(.ref b62)]))
        refine own_ofc (fun t => XS.astore X63.here hx rfl (hb hby at_155) rfl rfl (l' := #[.val (.int p1), .val (.int p2), .val (.int p3), .val (.int p4), .val (.int p5), .val (.int (2 : Int32)), .val (.ref b49), .val (.ref b56), .val (.ref r60), .val (.int z61), .val (.ref b62), .unset]) rfl) ?_
        show own_gc p e below s _ _ _ _ _ (T63.setTop (mkF m 157 #[.val (.int p1), .val (.int p2), .val (.int p3), .val (.int p4), .val (.int p5), .val (.int (2 : Int32)), .val (.ref b49), .val (.ref b56), .val (.ref r60), .val (.int z61), .val (.ref b62), .unset] []))
        refine own_ofc (fun t => XS.aload X63.here hx rfl (hb hby at_157) rfl rfl) ?_
        show own_gc p e below s _ _ _ _ _ (T63.setTop (mkF m 159 #[.val (.int p1), .val (.int p2), .val (.int p3), .val (.int p4), .val (.int p5), .val (.int (2 : Int32)), .val (.ref b49), .val (.ref b56), .val (.ref r60), .val (.int z61), .val (.ref b62), .unset] [(.ref b62)]))
        have f64 : own_str Z T63.heap b56 ([nar .char ((p2 &&& (255 : Int32)).toUInt32.toUInt16.toUInt32.toInt32), nar .char ((p3 &&& (255 : Int32)).toUInt32.toUInt16.toUInt32.toInt32)] : List Int32) := ((Sx59.ext E62).keep1 Kp63 (own_ne (by omega)) A62 (hW 26 _ rfl))
        have f66 : Exa Z T63.heap b62 "com/example/sachfeld/sachfeld/SubjectField$Layout" := (A62.keep Kp63)
        obtain ⟨cq65, kq65, q65a, q65b, q65c⟩ := isOf hZ rfl f66
        obtain ⟨_, _, ⟨T65, L65, k65, n65⟩, -, X65, ⟨Lc65, hQ65, l65, y65, z65⟩, st65⟩ := X63.virtualBack hx (y := (⟨"com/example/sachfeld/sachfeld/SubjectField$Layout", "recordsProvenance", "()Z"⟩ : MethodName)) (z := (⟨"com/example/sachfeld/sachfeld/SubjectField$Layout", "recordsProvenance", "()Z"⟩ : MethodName)) hown (mvT hZ (hW 45 _ rfl)) (mvT hZ (hW 46 _ rfl)) (notFace_of_selects (args := #[]) (mvT hZ (hW 48 _ rfl))) (mvT hZ (hW 48 _ rfl)) (mvT hZ (hW 47 _ rfl)) (by decide) (backOf (W := 0) (rmP l Z a0 hw [] b62 b56 ([nar .char ((p2 &&& (255 : Int32)).toUInt32.toUInt16.toUInt32.toInt32), nar .char ((p3 &&& (255 : Int32)).toUInt32.toUInt16.toUInt32.toInt32)] : List Int32) T63.heap n0 O63 Fp63 f64 (own_up _ hp57) (Nat.le_of_ble_eq_true rfl)) hZ (hW 49 _ rfl) (hW 27 _ rfl) (by decide) (by decide)) q65a q65c (g := (mkF m 159 #[.val (.int p1), .val (.int p2), .val (.int p3), .val (.int p4), .val (.int p5), .val (.int (2 : Int32)), .val (.ref b49), .val (.ref b56), .val (.ref r60), .val (.int z61), .val (.ref b62), .unset] [(.ref b62)])) rfl (by rw [hml]; rfl) (Steps.refl _) (argsL := []) (rest := []) (lenOf pd_2 rfl) rfl (by show 2 * 0 + _ ≤ _; exact Nat.le_of_eq rfl) (hb hby at_159) (fun _ _ => ⟨rfl, rfl, (by decide : 4 + 0 ≤ _), (by decide : 12 + 0 ≤ _)⟩)
        dsimp only [Pt.U, Pt.locs, Pt.cells, Pt.slots] at X65 l65 y65 z65 st65 hQ65
        subst l65 y65 z65
        obtain ⟨rfl, Nq65, eh65⟩ := hQ65
        have N65 := Fr.app N63 Nq65
        refine own_ofc (fun t k => st65.trans k) ?_
        show own_gc p e below s _ _ _ _ _ (T65.setTop (mkF m 162 #[.val (.int p1), .val (.int p2), .val (.int p3), .val (.int p4), .val (.int p5), .val (.int (2 : Int32)), .val (.ref b49), .val (.ref b56), .val (.ref r60), .val (.int z61), .val (.ref b62), .unset] [(.int (1 : Int32))]))
        refine own_ofc (fun t => XS.istore X65.here hx rfl (hb hby at_162) rfl (l' := #[.val (.int p1), .val (.int p2), .val (.int p3), .val (.int p4), .val (.int p5), .val (.int (2 : Int32)), .val (.ref b49), .val (.ref b56), .val (.ref r60), .val (.int z61), .val (.ref b62), .val (.int (1 : Int32))]) rfl) ?_
        show own_gc p e below s _ _ _ _ _ (T65.setTop (mkF m 164 #[.val (.int p1), .val (.int p2), .val (.int p3), .val (.int p4), .val (.int p5), .val (.int (2 : Int32)), .val (.ref b49), .val (.ref b56), .val (.ref r60), .val (.int z61), .val (.ref b62), .val (.int (1 : Int32))] []))
        refine own_ofc (fun t => XS.iload X65.here hx rfl (hb hby at_164) rfl) ?_
        show own_gc p e below s _ _ _ _ _ (T65.setTop (mkF m 166 #[.val (.int p1), .val (.int p2), .val (.int p3), .val (.int p4), .val (.int p5), .val (.int (2 : Int32)), .val (.ref b49), .val (.ref b56), .val (.ref r60), .val (.int z61), .val (.ref b62), .val (.int (1 : Int32))] [(.int (1 : Int32))]))
        refine own_ofc (fun t => XS.iload X65.here hx rfl (hb hby at_166) rfl) ?_
        show own_gc p e below s _ _ _ _ _ (T65.setTop (mkF m 168 #[.val (.int p1), .val (.int p2), .val (.int p3), .val (.int p4), .val (.int p5), .val (.int (2 : Int32)), .val (.ref b49), .val (.ref b56), .val (.ref r60), .val (.int z61), .val (.ref b62), .val (.int (1 : Int32))] [(.int (2 : Int32)), (.int (1 : Int32))]))
        have hb168_67 : ¬ ((2 : Int32) = (0 : Int32)) := by decide
        refine own_ofc (fun t => XS.ifNo X65.here hx rfl (hb hby at_168) rfl ((if0 _ _).trans (feq hb168_67).1)) ?_
        show own_gc p e below s _ _ _ _ _ (T65.setTop (mkF m 171 #[.val (.int p1), .val (.int p2), .val (.int p3), .val (.int p4), .val (.int p5), .val (.int (2 : Int32)), .val (.ref b49), .val (.ref b56), .val (.ref r60), .val (.int z61), .val (.ref b62), .val (.int (1 : Int32))] [(.int (1 : Int32))]))
        refine own_ofc (fun t => XS.iconst X65.here hx rfl (hb hby at_171)) ?_
        show own_gc p e below s _ _ _ _ _ (T65.setTop (mkF m 172 #[.val (.int p1), .val (.int p2), .val (.int p3), .val (.int p4), .val (.int p5), .val (.int (2 : Int32)), .val (.ref b49), .val (.ref b56), .val (.ref r60), .val (.int z61), .val (.ref b62), .val (.int (1 : Int32))] [(.int (1 : Int32)), (.int (1 : Int32))]))
        refine own_ofc (fun t => XS.goto X65.here hx rfl (pc0 := 172) (pc' := 176) rfl (hb hby at_172) (by decide) (by decide)) ?_
        show own_gc p e below s _ _ _ _ _ (T65.setTop (mkF m 176 #[.val (.int p1), .val (.int p2), .val (.int p3), .val (.int p4), .val (.int p5), .val (.int (2 : Int32)), .val (.ref b49), .val (.ref b56), .val (.ref r60), .val (.int z61), .val (.ref b62), .val (.int (1 : Int32))] [(.int (1 : Int32)), (.int (1 : Int32))]))
        have hb176_68 : (1 : Int32) = (1 : Int32) := by decide
        refine own_ofc (fun t => XS.icmpNo X65.here hx rfl (hb hby at_176) rfl (teq hb176_68).2) ?_
        show own_gc p e below s _ _ _ _ _ (T65.setTop (mkF m 179 #[.val (.int p1), .val (.int p2), .val (.int p3), .val (.int p4), .val (.int p5), .val (.int (2 : Int32)), .val (.ref b49), .val (.ref b56), .val (.ref r60), .val (.int z61), .val (.ref b62), .val (.int (1 : Int32))] []))
        refine own_ofc (fun t => XS.iconst X65.here hx rfl (hb hby at_179)) ?_
        show own_gc p e below s _ _ _ _ _ (T65.setTop (mkF m 180 #[.val (.int p1), .val (.int p2), .val (.int p3), .val (.int p4), .val (.int p5), .val (.int (2 : Int32)), .val (.ref b49), .val (.ref b56), .val (.ref r60), .val (.int z61), .val (.ref b62), .val (.int (1 : Int32))] [(.int (1 : Int32))]))
        refine own_ofc (fun t => XS.goto X65.here hx rfl (pc0 := 180) (pc' := 184) rfl (hb hby at_180) (by decide) (by decide)) ?_
        show own_gc p e below s _ _ _ _ _ (T65.setTop (mkF m 184 #[.val (.int p1), .val (.int p2), .val (.int p3), .val (.int p4), .val (.int p5), .val (.int (2 : Int32)), .val (.ref b49), .val (.ref b56), .val (.ref r60), .val (.int z61), .val (.ref b62), .val (.int (1 : Int32))] [(.int (1 : Int32))]))
        refine own_retc X65 hx hlk hS0 (by rw [eh65]; omega : 0 ≤ T65.heap.size) hZ hEL (by rw [eh65]; exact CH63) Bd.returns rfl (Or.inl ⟨rfl, by simp, _, rfl⟩) (hb hby at_184) (by decide) (by decide) ?_
        rw [eh65]
        exact ⟨rfl, N65⟩
      · intro j61
        show own_gc p e below s _ _ _ _ _ (T60.setTop (mkF m 131 #[.val (.int p1), .val (.int p2), .val (.int p3), .val (.int p4), .val (.int p5), .val (.int (2 : Int32)), .val (.ref b49), .val (.ref b56), .val (.ref r60), .unset, .unset, .unset] [(.int (p5 &&& (2 : Int32)))]))
        by_cases hb131_69 : (p5 &&& (2 : Int32)) = (0 : Int32)
        · refine own_ofc (fun t => XS.ifYes X60.here hx rfl (pc0 := 131) (pc' := 138) rfl (hb hby at_131) rfl ((if0 _ _).trans (teq hb131_69).1) (by decide) (by decide)) ?_
          show own_gc p e below s _ _ _ _ _ (T60.setTop (mkF m 138 #[.val (.int p1), .val (.int p2), .val (.int p3), .val (.int p4), .val (.int p5), .val (.int (2 : Int32)), .val (.ref b49), .val (.ref b56), .val (.ref r60), .unset, .unset, .unset] []))
          refine own_ofc (fun t => XS.iconst X60.here hx rfl (hb hby at_138)) ?_
          show own_gc p e below s _ _ _ _ _ (T60.setTop (mkF m 139 #[.val (.int p1), .val (.int p2), .val (.int p3), .val (.int p4), .val (.int p5), .val (.int (2 : Int32)), .val (.ref b49), .val (.ref b56), .val (.ref r60), .unset, .unset, .unset] [(.int (0 : Int32))]))
          exact j61 _ _ X60 e60
        · refine own_ofc (fun t => XS.ifNo X60.here hx rfl (hb hby at_131) rfl ((if0 _ _).trans (feq hb131_69).1)) ?_
          show own_gc p e below s _ _ _ _ _ (T60.setTop (mkF m 134 #[.val (.int p1), .val (.int p2), .val (.int p3), .val (.int p4), .val (.int p5), .val (.int (2 : Int32)), .val (.ref b49), .val (.ref b56), .val (.ref r60), .unset, .unset, .unset] []))
          refine own_ofc (fun t => XS.iconst X60.here hx rfl (hb hby at_134)) ?_
          show own_gc p e below s _ _ _ _ _ (T60.setTop (mkF m 135 #[.val (.int p1), .val (.int p2), .val (.int p3), .val (.int p4), .val (.int p5), .val (.int (2 : Int32)), .val (.ref b49), .val (.ref b56), .val (.ref r60), .unset, .unset, .unset] [(.int (1 : Int32))]))
          refine own_ofc (fun t => XS.goto X60.here hx rfl (pc0 := 135) (pc' := 139) rfl (hb hby at_135) (by decide) (by decide)) ?_
          show own_gc p e below s _ _ _ _ _ (T60.setTop (mkF m 139 #[.val (.int p1), .val (.int p2), .val (.int p3), .val (.int p4), .val (.int p5), .val (.int (2 : Int32)), .val (.ref b49), .val (.ref b56), .val (.ref r60), .unset, .unset, .unset] [(.int (1 : Int32))]))
          exact j61 _ _ X60 e60
    · intro j60
      show own_gc p e below s _ _ _ _ _ (T59.setTop (mkF m 113 #[.val (.int p1), .val (.int p2), .val (.int p3), .val (.int p4), .val (.int p5), .val (.int (2 : Int32)), .val (.ref b49), .val (.ref b56), .unset, .unset, .unset, .unset] [(.int (p5 &&& (1 : Int32)))]))
      by_cases hb113_70 : (p5 &&& (1 : Int32)) = (0 : Int32)
      · refine own_ofc (fun t => XS.ifYes X59.here hx rfl (pc0 := 113) (pc' := 122) rfl (hb hby at_113) rfl ((if0 _ _).trans (teq hb113_70).1) (by decide) (by decide)) ?_
        show own_gc p e below s _ _ _ _ _ (T59.setTop (mkF m 122 #[.val (.int p1), .val (.int p2), .val (.int p3), .val (.int p4), .val (.int p5), .val (.int (2 : Int32)), .val (.ref b49), .val (.ref b56), .unset, .unset, .unset, .unset] []))
        obtain ⟨T71, X71, e71, st71⟩ := getS2 X59 hx hZ hown (host := "") (Or.inl (hW 22 _ rfl)) Via.refl rfl (S_MANY_GROUPS.ext O59.2) (g := (mkF m 122 #[.val (.int p1), .val (.int p2), .val (.int p3), .val (.int p4), .val (.int p5), .val (.int (2 : Int32)), .val (.ref b49), .val (.ref b56), .unset, .unset, .unset, .unset] [])) rfl (hb hby at_122)
        refine own_ofc st71 ?_
        show own_gc p e below s _ _ _ _ _ (T71.setTop (mkF m 125 #[.val (.int p1), .val (.int p2), .val (.int p3), .val (.int p4), .val (.int p5), .val (.int (2 : Int32)), .val (.ref b49), .val (.ref b56), .unset, .unset, .unset, .unset] [(.ref wa)]))
        exact j60 _ _ X71 e71
      · refine own_ofc (fun t => XS.ifNo X59.here hx rfl (hb hby at_113) rfl ((if0 _ _).trans (feq hb113_70).1)) ?_
        show own_gc p e below s _ _ _ _ _ (T59.setTop (mkF m 116 #[.val (.int p1), .val (.int p2), .val (.int p3), .val (.int p4), .val (.int p5), .val (.int (2 : Int32)), .val (.ref b49), .val (.ref b56), .unset, .unset, .unset, .unset] []))
        obtain ⟨T72, X72, e72, st72⟩ := getS2 X59 hx hZ hown (host := "") (Or.inl (hW 66 _ rfl)) Via.refl rfl (S_TOO_MANY_GROUPS.ext O59.2) (g := (mkF m 116 #[.val (.int p1), .val (.int p2), .val (.int p3), .val (.int p4), .val (.int p5), .val (.int (2 : Int32)), .val (.ref b49), .val (.ref b56), .unset, .unset, .unset, .unset] [])) rfl (hb hby at_116)
        refine own_ofc st72 ?_
        show own_gc p e below s _ _ _ _ _ (T72.setTop (mkF m 119 #[.val (.int p1), .val (.int p2), .val (.int p3), .val (.int p4), .val (.int p5), .val (.int (2 : Int32)), .val (.ref b49), .val (.ref b56), .unset, .unset, .unset, .unset] [(.ref wb)]))
        refine own_ofc (fun t => XS.goto X72.here hx rfl (pc0 := 119) (pc' := 125) rfl (hb hby at_119) (by decide) (by decide)) ?_
        show own_gc p e below s _ _ _ _ _ (T72.setTop (mkF m 125 #[.val (.int p1), .val (.int p2), .val (.int p3), .val (.int p4), .val (.int p5), .val (.int (2 : Int32)), .val (.ref b49), .val (.ref b56), .unset, .unset, .unset, .unset] [(.ref wb)]))
        exact j60 _ _ X72 e72
  · rw [hi]
    show own_gc p e below s _ _ _ _ _ (s₁.setTop (mkF m 3 #[.val (.int p1), .val (.int p2), .val (.int p3), .val (.int p4), .val (.int p5), .unset, .unset, .unset, .unset, .unset, .unset, .unset] [(.int (3 : Int32))]))
    refine own_ofc (fun t => XS.istore X0.here hx rfl (hb hby at_3) rfl (l' := #[.val (.int p1), .val (.int p2), .val (.int p3), .val (.int p4), .val (.int p5), .val (.int (3 : Int32)), .unset, .unset, .unset, .unset, .unset, .unset]) rfl) ?_
    show own_gc p e below s _ _ _ _ _ (s₁.setTop (mkF m 5 #[.val (.int p1), .val (.int p2), .val (.int p3), .val (.int p4), .val (.int p5), .val (.int (3 : Int32)), .unset, .unset, .unset, .unset, .unset, .unset] []))
    refine own_ofc (fun t => XS.iload X0.here hx rfl (hb hby at_5) rfl) ?_
    show own_gc p e below s _ _ _ _ _ (s₁.setTop (mkF m 7 #[.val (.int p1), .val (.int p2), .val (.int p3), .val (.int p4), .val (.int p5), .val (.int (3 : Int32)), .unset, .unset, .unset, .unset, .unset, .unset] [(.int (3 : Int32))]))
    have hb7_73 : ¬ ((3 : Int32) = (0 : Int32)) := by decide
    refine own_ofc (fun t => XS.ifYes X0.here hx rfl (pc0 := 7) (pc' := 18) rfl (hb hby at_7) rfl ((if0 _ _).trans (feq hb7_73).2) (by decide) (by decide)) ?_
    show own_gc p e below s _ _ _ _ _ (s₁.setTop (mkF m 18 #[.val (.int p1), .val (.int p2), .val (.int p3), .val (.int p4), .val (.int p5), .val (.int (3 : Int32)), .unset, .unset, .unset, .unset, .unset, .unset] []))
    refine own_ofc (fun t => XS.iload X0.here hx rfl (hb hby at_18) rfl) ?_
    show own_gc p e below s _ _ _ _ _ (s₁.setTop (mkF m 20 #[.val (.int p1), .val (.int p2), .val (.int p3), .val (.int p4), .val (.int p5), .val (.int (3 : Int32)), .unset, .unset, .unset, .unset, .unset, .unset] [(.int (3 : Int32))]))
    refine own_ofc (fun t => XS.iconst X0.here hx rfl (hb hby at_20)) ?_
    show own_gc p e below s _ _ _ _ _ (s₁.setTop (mkF m 21 #[.val (.int p1), .val (.int p2), .val (.int p3), .val (.int p4), .val (.int p5), .val (.int (3 : Int32)), .unset, .unset, .unset, .unset, .unset, .unset] [(.int (1 : Int32)), (.int (3 : Int32))]))
    have hb21_74 : ¬ ((3 : Int32) = (1 : Int32)) := by decide
    refine own_ofc (fun t => XS.icmpYes X0.here hx rfl (pc0 := 21) (pc' := 32) rfl (hb hby at_21) rfl (feq hb21_74).2 (by decide) (by decide)) ?_
    show own_gc p e below s _ _ _ _ _ (s₁.setTop (mkF m 32 #[.val (.int p1), .val (.int p2), .val (.int p3), .val (.int p4), .val (.int p5), .val (.int (3 : Int32)), .unset, .unset, .unset, .unset, .unset, .unset] []))
    refine own_ofc (fun t => XS.iload X0.here hx rfl (hb hby at_32) rfl) ?_
    show own_gc p e below s _ _ _ _ _ (s₁.setTop (mkF m 34 #[.val (.int p1), .val (.int p2), .val (.int p3), .val (.int p4), .val (.int p5), .val (.int (3 : Int32)), .unset, .unset, .unset, .unset, .unset, .unset] [(.int (3 : Int32))]))
    refine own_ofc (fun t => XS.iconst X0.here hx rfl (hb hby at_34)) ?_
    show own_gc p e below s _ _ _ _ _ (s₁.setTop (mkF m 35 #[.val (.int p1), .val (.int p2), .val (.int p3), .val (.int p4), .val (.int p5), .val (.int (3 : Int32)), .unset, .unset, .unset, .unset, .unset, .unset] [(.int (2 : Int32)), (.int (3 : Int32))]))
    have hb35_75 : ¬ ((3 : Int32) = (2 : Int32)) := by decide
    refine own_ofc (fun t => XS.icmpYes X0.here hx rfl (pc0 := 35) (pc' := 46) rfl (hb hby at_35) rfl (feq hb35_75).2 (by decide) (by decide)) ?_
    show own_gc p e below s _ _ _ _ _ (s₁.setTop (mkF m 46 #[.val (.int p1), .val (.int p2), .val (.int p3), .val (.int p4), .val (.int p5), .val (.int (3 : Int32)), .unset, .unset, .unset, .unset, .unset, .unset] []))
    refine own_ofc (fun t => XS.iconst X0.here hx rfl (hb hby at_46)) ?_
    show own_gc p e below s _ _ _ _ _ (s₁.setTop (mkF m 47 #[.val (.int p1), .val (.int p2), .val (.int p3), .val (.int p4), .val (.int p5), .val (.int (3 : Int32)), .unset, .unset, .unset, .unset, .unset, .unset] [(.int (3 : Int32))]))
    obtain ⟨T76, h76, k76, X76, e76, E76, A76, st76⟩ := newP X0 hx hZ (hW 0 _ rfl) e0 (g := (mkF m 47 #[.val (.int p1), .val (.int p2), .val (.int p3), .val (.int p4), .val (.int p5), .val (.int (3 : Int32)), .unset, .unset, .unset, .unset, .unset, .unset] [(.int (3 : Int32))])) rfl (hb hby at_47) rfl (by decide) (cap := 3) (by decide) (by decide) (by decide) (by decide)
    obtain ⟨b76, g76⟩ : ∃ z, z = h0.size := ⟨_, rfl⟩
    rw [← g76] at A76 st76
    refine own_ofc st76 ?_
    have lt76 := own_lt A76.lt
    have sz76 : h0.size ≤ h76.size := E76.1
    have O76 : Old Z n0 h76 := XO0.ext E76
    have z76 : n0 ≤ b76 := by have := XO0.1 ▸ XO0.2.1; omega
    have CHs76 := CHr.ext E76 CH0.1
    have Sf76 := Safe.ext E76 CH0.1 (Safe.new (Nat.le_of_eq g76.symm))
    have CH76 := CH0.trans CHs76
    have V76 : Arv Z h76 b76 k76 .char (3 : Int32) [(.int (0 : Int32)), (.int (0 : Int32)), (.int (0 : Int32))] (.int (0 : Int32)) := (Arv.new A76 (by decide)).pad (pad_rep [] (.int (0 : Int32)) 3)
    show own_gc p e below s _ _ _ _ _ (T76.setTop (mkF m 49 #[.val (.int p1), .val (.int p2), .val (.int p3), .val (.int p4), .val (.int p5), .val (.int (3 : Int32)), .unset, .unset, .unset, .unset, .unset, .unset] [(.ref b76)]))
    refine own_ofc (fun t => XS.astore X76.here hx rfl (hb hby at_49) rfl rfl (l' := #[.val (.int p1), .val (.int p2), .val (.int p3), .val (.int p4), .val (.int p5), .val (.int (3 : Int32)), .val (.ref b76), .unset, .unset, .unset, .unset, .unset]) rfl) ?_
    show own_gc p e below s _ _ _ _ _ (T76.setTop (mkF m 51 #[.val (.int p1), .val (.int p2), .val (.int p3), .val (.int p4), .val (.int p5), .val (.int (3 : Int32)), .val (.ref b76), .unset, .unset, .unset, .unset, .unset] []))
    refine own_ofc (fun t => XS.iload X76.here hx rfl (hb hby at_51) rfl) ?_
    show own_gc p e below s _ _ _ _ _ (T76.setTop (mkF m 53 #[.val (.int p1), .val (.int p2), .val (.int p3), .val (.int p4), .val (.int p5), .val (.int (3 : Int32)), .val (.ref b76), .unset, .unset, .unset, .unset, .unset] [(.int (3 : Int32))]))
    have hb53_77 : (0 : Int32) < (3 : Int32) := by decide
    refine own_ofc (fun t => XS.ifNo X76.here hx rfl (hb hby at_53) rfl ((if0 _ _).trans (tlt hb53_77).2.2.2)) ?_
    show own_gc p e below s _ _ _ _ _ (T76.setTop (mkF m 56 #[.val (.int p1), .val (.int p2), .val (.int p3), .val (.int p4), .val (.int p5), .val (.int (3 : Int32)), .val (.ref b76), .unset, .unset, .unset, .unset, .unset] []))
    refine own_ofc (fun t => XS.aload X76.here hx rfl (hb hby at_56) rfl rfl) ?_
    show own_gc p e below s _ _ _ _ _ (T76.setTop (mkF m 58 #[.val (.int p1), .val (.int p2), .val (.int p3), .val (.int p4), .val (.int p5), .val (.int (3 : Int32)), .val (.ref b76), .unset, .unset, .unset, .unset, .unset] [(.ref b76)]))
    refine own_ofc (fun t => XS.iconst X76.here hx rfl (hb hby at_58)) ?_
    show own_gc p e below s _ _ _ _ _ (T76.setTop (mkF m 59 #[.val (.int p1), .val (.int p2), .val (.int p3), .val (.int p4), .val (.int p5), .val (.int (3 : Int32)), .val (.ref b76), .unset, .unset, .unset, .unset, .unset] [(.int (0 : Int32)), (.ref b76)]))
    refine own_ofc (fun t => XS.iloadN X76.here hx rfl (hb hby at_59) rfl) ?_
    show own_gc p e below s _ _ _ _ _ (T76.setTop (mkF m 60 #[.val (.int p1), .val (.int p2), .val (.int p3), .val (.int p4), .val (.int p5), .val (.int (3 : Int32)), .val (.ref b76), .unset, .unset, .unset, .unset, .unset] [(.int p2), (.int (0 : Int32)), (.ref b76)]))
    refine own_ofc (fun t => XS.sipush X76.here hx rfl (hb hby at_60)) ?_
    show own_gc p e below s _ _ _ _ _ (T76.setTop (mkF m 63 #[.val (.int p1), .val (.int p2), .val (.int p3), .val (.int p4), .val (.int p5), .val (.int (3 : Int32)), .val (.ref b76), .unset, .unset, .unset, .unset, .unset] [(.int (255 : Int32)), (.int p2), (.int (0 : Int32)), (.ref b76)]))
    refine own_ofc (fun t => XS.iand X76.here hx rfl (hb hby at_63) rfl) ?_
    show own_gc p e below s _ _ _ _ _ (T76.setTop (mkF m 64 #[.val (.int p1), .val (.int p2), .val (.int p3), .val (.int p4), .val (.int p5), .val (.int (3 : Int32)), .val (.ref b76), .unset, .unset, .unset, .unset, .unset] [(.int (p2 &&& (255 : Int32))), (.int (0 : Int32)), (.ref b76)]))
    refine own_ofc (fun t => XS.i2c X76.here hx rfl (hb hby at_64) rfl) ?_
    show own_gc p e below s _ _ _ _ _ (T76.setTop (mkF m 65 #[.val (.int p1), .val (.int p2), .val (.int p3), .val (.int p4), .val (.int p5), .val (.int (3 : Int32)), .val (.ref b76), .unset, .unset, .unset, .unset, .unset] [(.int ((p2 &&& (255 : Int32)).toUInt32.toUInt16.toUInt32.toInt32)), (.int (0 : Int32)), (.ref b76)]))
    obtain ⟨cl78, Ar78, q78, S78, Ng78, H78, G78⟩ := V76
    obtain ⟨T78, h78, X78, e78, W78, st78⟩ := stC X76 hx hZ e76 Ar78 (j := (0 : Int32)) (inb_of S78 ⟨by decide, by decide⟩) (g := (mkF m 65 #[.val (.int p1), .val (.int p2), .val (.int p3), .val (.int p4), .val (.int p5), .val (.int (3 : Int32)), .val (.ref b76), .unset, .unset, .unset, .unset, .unset] [(.int ((p2 &&& (255 : Int32)).toUInt32.toUInt16.toUInt32.toInt32)), (.int (0 : Int32)), (.ref b76)])) rfl rfl (hb hby at_65)
    have V78 : Arv Z h78 b76 k76 .char (3 : Int32) [(.int (nar .char ((p2 &&& (255 : Int32)).toUInt32.toUInt16.toUInt32.toInt32))), (.int (0 : Int32)), (.int (0 : Int32))] (.int (0 : Int32)) := Arv.set Ar78 q78 S78 Ng78 H78 G78 (fits_nar_char _) W78 0 rfl (Nat.le_of_ble_eq_true rfl)
    refine own_ofc st78 ?_
    have CHs78 := CHr.wr W78 Sf76 CH76.1
    have CH78 := CH76.trans CHs78
    have N78 := Fr.snoc X78 N0 (by omega : n0 ≤ b76)
    have sz78 : h78.size = h76.size := W78.size
    have O78 : Old Z n0 h78 := O76.wr W78 (by omega)
    show own_gc p e below s _ _ _ _ _ (T78.setTop (mkF m 66 #[.val (.int p1), .val (.int p2), .val (.int p3), .val (.int p4), .val (.int p5), .val (.int (3 : Int32)), .val (.ref b76), .unset, .unset, .unset, .unset, .unset] []))
    refine own_ofc (fun t => XS.iload X78.here hx rfl (hb hby at_66) rfl) ?_
    show own_gc p e below s _ _ _ _ _ (T78.setTop (mkF m 68 #[.val (.int p1), .val (.int p2), .val (.int p3), .val (.int p4), .val (.int p5), .val (.int (3 : Int32)), .val (.ref b76), .unset, .unset, .unset, .unset, .unset] [(.int (3 : Int32))]))
    refine own_ofc (fun t => XS.iconst X78.here hx rfl (hb hby at_68)) ?_
    show own_gc p e below s _ _ _ _ _ (T78.setTop (mkF m 69 #[.val (.int p1), .val (.int p2), .val (.int p3), .val (.int p4), .val (.int p5), .val (.int (3 : Int32)), .val (.ref b76), .unset, .unset, .unset, .unset, .unset] [(.int (1 : Int32)), (.int (3 : Int32))]))
    have hb69_79 : (1 : Int32) < (3 : Int32) := by decide
    refine own_ofc (fun t => XS.icmpNo X78.here hx rfl (hb hby at_69) rfl (tlt hb69_79).2.2.2) ?_
    show own_gc p e below s _ _ _ _ _ (T78.setTop (mkF m 72 #[.val (.int p1), .val (.int p2), .val (.int p3), .val (.int p4), .val (.int p5), .val (.int (3 : Int32)), .val (.ref b76), .unset, .unset, .unset, .unset, .unset] []))
    refine own_ofc (fun t => XS.aload X78.here hx rfl (hb hby at_72) rfl rfl) ?_
    show own_gc p e below s _ _ _ _ _ (T78.setTop (mkF m 74 #[.val (.int p1), .val (.int p2), .val (.int p3), .val (.int p4), .val (.int p5), .val (.int (3 : Int32)), .val (.ref b76), .unset, .unset, .unset, .unset, .unset] [(.ref b76)]))
    refine own_ofc (fun t => XS.iconst X78.here hx rfl (hb hby at_74)) ?_
    show own_gc p e below s _ _ _ _ _ (T78.setTop (mkF m 75 #[.val (.int p1), .val (.int p2), .val (.int p3), .val (.int p4), .val (.int p5), .val (.int (3 : Int32)), .val (.ref b76), .unset, .unset, .unset, .unset, .unset] [(.int (1 : Int32)), (.ref b76)]))
    refine own_ofc (fun t => XS.iloadN X78.here hx rfl (hb hby at_75) rfl) ?_
    show own_gc p e below s _ _ _ _ _ (T78.setTop (mkF m 76 #[.val (.int p1), .val (.int p2), .val (.int p3), .val (.int p4), .val (.int p5), .val (.int (3 : Int32)), .val (.ref b76), .unset, .unset, .unset, .unset, .unset] [(.int p3), (.int (1 : Int32)), (.ref b76)]))
    refine own_ofc (fun t => XS.sipush X78.here hx rfl (hb hby at_76)) ?_
    show own_gc p e below s _ _ _ _ _ (T78.setTop (mkF m 79 #[.val (.int p1), .val (.int p2), .val (.int p3), .val (.int p4), .val (.int p5), .val (.int (3 : Int32)), .val (.ref b76), .unset, .unset, .unset, .unset, .unset] [(.int (255 : Int32)), (.int p3), (.int (1 : Int32)), (.ref b76)]))
    refine own_ofc (fun t => XS.iand X78.here hx rfl (hb hby at_79) rfl) ?_
    show own_gc p e below s _ _ _ _ _ (T78.setTop (mkF m 80 #[.val (.int p1), .val (.int p2), .val (.int p3), .val (.int p4), .val (.int p5), .val (.int (3 : Int32)), .val (.ref b76), .unset, .unset, .unset, .unset, .unset] [(.int (p3 &&& (255 : Int32))), (.int (1 : Int32)), (.ref b76)]))
    refine own_ofc (fun t => XS.i2c X78.here hx rfl (hb hby at_80) rfl) ?_
    show own_gc p e below s _ _ _ _ _ (T78.setTop (mkF m 81 #[.val (.int p1), .val (.int p2), .val (.int p3), .val (.int p4), .val (.int p5), .val (.int (3 : Int32)), .val (.ref b76), .unset, .unset, .unset, .unset, .unset] [(.int ((p3 &&& (255 : Int32)).toUInt32.toUInt16.toUInt32.toInt32)), (.int (1 : Int32)), (.ref b76)]))
    obtain ⟨cl80, Ar80, q80, S80, Ng80, H80, G80⟩ := V78
    obtain ⟨T80, h80, X80, e80, W80, st80⟩ := stC X78 hx hZ e78 Ar80 (j := (1 : Int32)) (inb_of S80 ⟨by decide, by decide⟩) (g := (mkF m 81 #[.val (.int p1), .val (.int p2), .val (.int p3), .val (.int p4), .val (.int p5), .val (.int (3 : Int32)), .val (.ref b76), .unset, .unset, .unset, .unset, .unset] [(.int ((p3 &&& (255 : Int32)).toUInt32.toUInt16.toUInt32.toInt32)), (.int (1 : Int32)), (.ref b76)])) rfl rfl (hb hby at_81)
    have V80 : Arv Z h80 b76 k76 .char (3 : Int32) [(.int (nar .char ((p2 &&& (255 : Int32)).toUInt32.toUInt16.toUInt32.toInt32))), (.int (nar .char ((p3 &&& (255 : Int32)).toUInt32.toUInt16.toUInt32.toInt32))), (.int (0 : Int32))] (.int (0 : Int32)) := Arv.set Ar80 q80 S80 Ng80 H80 G80 (fits_nar_char _) W80 1 rfl (Nat.le_of_ble_eq_true rfl)
    refine own_ofc st80 ?_
    have f81 := (CHs78.safe (own_lt (by omega)) Sf76)
    have CHs80 := CHr.wr W80 f81 CH78.1
    have CH80 := CH78.trans CHs80
    have N80 := Fr.snoc X80 N78 (by omega : n0 ≤ b76)
    have sz80 : h80.size = h78.size := W80.size
    have O80 : Old Z n0 h80 := O78.wr W80 (by omega)
    show own_gc p e below s _ _ _ _ _ (T80.setTop (mkF m 82 #[.val (.int p1), .val (.int p2), .val (.int p3), .val (.int p4), .val (.int p5), .val (.int (3 : Int32)), .val (.ref b76), .unset, .unset, .unset, .unset, .unset] []))
    refine own_ofc (fun t => XS.iload X80.here hx rfl (hb hby at_82) rfl) ?_
    show own_gc p e below s _ _ _ _ _ (T80.setTop (mkF m 84 #[.val (.int p1), .val (.int p2), .val (.int p3), .val (.int p4), .val (.int p5), .val (.int (3 : Int32)), .val (.ref b76), .unset, .unset, .unset, .unset, .unset] [(.int (3 : Int32))]))
    refine own_ofc (fun t => XS.iconst X80.here hx rfl (hb hby at_84)) ?_
    show own_gc p e below s _ _ _ _ _ (T80.setTop (mkF m 85 #[.val (.int p1), .val (.int p2), .val (.int p3), .val (.int p4), .val (.int p5), .val (.int (3 : Int32)), .val (.ref b76), .unset, .unset, .unset, .unset, .unset] [(.int (2 : Int32)), (.int (3 : Int32))]))
    have hb85_82 : (2 : Int32) < (3 : Int32) := by decide
    refine own_ofc (fun t => XS.icmpNo X80.here hx rfl (hb hby at_85) rfl (tlt hb85_82).2.2.2) ?_
    show own_gc p e below s _ _ _ _ _ (T80.setTop (mkF m 88 #[.val (.int p1), .val (.int p2), .val (.int p3), .val (.int p4), .val (.int p5), .val (.int (3 : Int32)), .val (.ref b76), .unset, .unset, .unset, .unset, .unset] []))
    refine own_ofc (fun t => XS.aload X80.here hx rfl (hb hby at_88) rfl rfl) ?_
    show own_gc p e below s _ _ _ _ _ (T80.setTop (mkF m 90 #[.val (.int p1), .val (.int p2), .val (.int p3), .val (.int p4), .val (.int p5), .val (.int (3 : Int32)), .val (.ref b76), .unset, .unset, .unset, .unset, .unset] [(.ref b76)]))
    refine own_ofc (fun t => XS.iconst X80.here hx rfl (hb hby at_90)) ?_
    show own_gc p e below s _ _ _ _ _ (T80.setTop (mkF m 91 #[.val (.int p1), .val (.int p2), .val (.int p3), .val (.int p4), .val (.int p5), .val (.int (3 : Int32)), .val (.ref b76), .unset, .unset, .unset, .unset, .unset] [(.int (2 : Int32)), (.ref b76)]))
    refine own_ofc (fun t => XS.iloadN X80.here hx rfl (hb hby at_91) rfl) ?_
    show own_gc p e below s _ _ _ _ _ (T80.setTop (mkF m 92 #[.val (.int p1), .val (.int p2), .val (.int p3), .val (.int p4), .val (.int p5), .val (.int (3 : Int32)), .val (.ref b76), .unset, .unset, .unset, .unset, .unset] [(.int p4), (.int (2 : Int32)), (.ref b76)]))
    refine own_ofc (fun t => XS.sipush X80.here hx rfl (hb hby at_92)) ?_
    show own_gc p e below s _ _ _ _ _ (T80.setTop (mkF m 95 #[.val (.int p1), .val (.int p2), .val (.int p3), .val (.int p4), .val (.int p5), .val (.int (3 : Int32)), .val (.ref b76), .unset, .unset, .unset, .unset, .unset] [(.int (255 : Int32)), (.int p4), (.int (2 : Int32)), (.ref b76)]))
    refine own_ofc (fun t => XS.iand X80.here hx rfl (hb hby at_95) rfl) ?_
    show own_gc p e below s _ _ _ _ _ (T80.setTop (mkF m 96 #[.val (.int p1), .val (.int p2), .val (.int p3), .val (.int p4), .val (.int p5), .val (.int (3 : Int32)), .val (.ref b76), .unset, .unset, .unset, .unset, .unset] [(.int (p4 &&& (255 : Int32))), (.int (2 : Int32)), (.ref b76)]))
    refine own_ofc (fun t => XS.i2c X80.here hx rfl (hb hby at_96) rfl) ?_
    show own_gc p e below s _ _ _ _ _ (T80.setTop (mkF m 97 #[.val (.int p1), .val (.int p2), .val (.int p3), .val (.int p4), .val (.int p5), .val (.int (3 : Int32)), .val (.ref b76), .unset, .unset, .unset, .unset, .unset] [(.int ((p4 &&& (255 : Int32)).toUInt32.toUInt16.toUInt32.toInt32)), (.int (2 : Int32)), (.ref b76)]))
    obtain ⟨cl83, Ar83, q83, S83, Ng83, H83, G83⟩ := V80
    obtain ⟨T83, h83, X83, e83, W83, st83⟩ := stC X80 hx hZ e80 Ar83 (j := (2 : Int32)) (inb_of S83 ⟨by decide, by decide⟩) (g := (mkF m 97 #[.val (.int p1), .val (.int p2), .val (.int p3), .val (.int p4), .val (.int p5), .val (.int (3 : Int32)), .val (.ref b76), .unset, .unset, .unset, .unset, .unset] [(.int ((p4 &&& (255 : Int32)).toUInt32.toUInt16.toUInt32.toInt32)), (.int (2 : Int32)), (.ref b76)])) rfl rfl (hb hby at_97)
    have V83 : Arv Z h83 b76 k76 .char (3 : Int32) [(.int (nar .char ((p2 &&& (255 : Int32)).toUInt32.toUInt16.toUInt32.toInt32))), (.int (nar .char ((p3 &&& (255 : Int32)).toUInt32.toUInt16.toUInt32.toInt32))), (.int (nar .char ((p4 &&& (255 : Int32)).toUInt32.toUInt16.toUInt32.toInt32)))] (.int (0 : Int32)) := Arv.set Ar83 q83 S83 Ng83 H83 G83 (fits_nar_char _) W83 2 rfl (Nat.le_of_ble_eq_true rfl)
    refine own_ofc st83 ?_
    have f84 := (CHs80.safe (own_lt (by omega)) f81)
    have CHs83 := CHr.wr W83 f84 CH80.1
    have CH83 := CH80.trans CHs83
    have N83 := Fr.snoc X83 N80 (by omega : n0 ≤ b76)
    have sz83 : h83.size = h80.size := W83.size
    have O83 : Old Z n0 h83 := O80.wr W83 (by omega)
    show own_gc p e below s _ _ _ _ _ (T83.setTop (mkF m 98 #[.val (.int p1), .val (.int p2), .val (.int p3), .val (.int p4), .val (.int p5), .val (.int (3 : Int32)), .val (.ref b76), .unset, .unset, .unset, .unset, .unset] []))
    obtain ⟨T85, h85, X85, e85, E85, A85, D85, -, st85⟩ := newO X83 hx hZ hown (hW 1 _ rfl) (hW 2 _ rfl) (hW 3 _ rfl) e83 (g := (mkF m 98 #[.val (.int p1), .val (.int p2), .val (.int p3), .val (.int p4), .val (.int p5), .val (.int (3 : Int32)), .val (.ref b76), .unset, .unset, .unset, .unset, .unset] [])) rfl (hb hby at_98) (by decide) (by decide)
    obtain ⟨b85, g85⟩ : ∃ z, z = h83.size := ⟨_, rfl⟩
    rw [← g85] at A85 D85 st85
    refine own_ofc st85 ?_
    have lt85 := own_lt A85.lt
    have sz85 : h83.size ≤ h85.size := E85.1
    have O85 : Old Z n0 h85 := O83.ext E85
    have z85 : n0 ≤ b85 := by have := O83.1 ▸ O83.2.1; omega
    have CHs85 := CHr.ext E85 CH83.1
    have Sf85 := Safe.ext E85 CH83.1 (Safe.new (Nat.le_of_eq g85.symm))
    have CH85 := CH83.trans CHs85
    have F85_value : Fld Z h85 b85 "java/lang/String" "value" "[B" .null := D85 (Or.inr (hW 16 _ rfl)) (ty := (.array .byte)) (by decide)
    have F85_coder : Fld Z h85 b85 "java/lang/String" "coder" "B" (.int (0 : Int32)) := D85 (Or.inr (hW 17 _ rfl)) (ty := .byte) (by decide)
    show own_gc p e below s _ _ _ _ _ (T85.setTop (mkF m 101 #[.val (.int p1), .val (.int p2), .val (.int p3), .val (.int p4), .val (.int p5), .val (.int (3 : Int32)), .val (.ref b76), .unset, .unset, .unset, .unset, .unset] [(.ref b85)]))
    refine own_ofc (fun t => XS.dup X85.here hx rfl (hb hby at_101) rfl rfl) ?_
    show own_gc p e below s _ _ _ _ _ (T85.setTop (mkF m 102 #[.val (.int p1), .val (.int p2), .val (.int p3), .val (.int p4), .val (.int p5), .val (.int (3 : Int32)), .val (.ref b76), .unset, .unset, .unset, .unset, .unset] [(.ref b85), (.ref b85)]))
    refine own_ofc (fun t => XS.aload X85.here hx rfl (hb hby at_102) rfl rfl) ?_
    show own_gc p e below s _ _ _ _ _ (T85.setTop (mkF m 104 #[.val (.int p1), .val (.int p2), .val (.int p3), .val (.int p4), .val (.int p5), .val (.int (3 : Int32)), .val (.ref b76), .unset, .unset, .unset, .unset, .unset] [(.ref b76), (.ref b85), (.ref b85)]))
    have hp86 : ∀ c ∈ ([nar .char ((p2 &&& (255 : Int32)).toUInt32.toUInt16.toUInt32.toInt32), nar .char ((p3 &&& (255 : Int32)).toUInt32.toUInt16.toUInt32.toInt32), nar .char ((p4 &&& (255 : Int32)).toUInt32.toUInt16.toUInt32.toInt32)] : List Int32), ¬ c < 0 ∧ ¬ (255 : Int32) < c := by
      intro c hc
      simp only [List.mem_cons, List.not_mem_nil, or_false] at hc
      rcases hc with rfl | rfl | rfl
      · exact own_and255 _
      · exact own_and255 _
      · exact own_and255 _
    have f87 : Arv Z h85 b76 k76 .char (3 : Int32) [(.int (nar .char ((p2 &&& (255 : Int32)).toUInt32.toUInt16.toUInt32.toInt32))), (.int (nar .char ((p3 &&& (255 : Int32)).toUInt32.toUInt16.toUInt32.toInt32))), (.int (nar .char ((p4 &&& (255 : Int32)).toUInt32.toUInt16.toUInt32.toInt32)))] (.int (0 : Int32)) := (V83.ext E85)
    obtain ⟨_, _, ⟨T88, L88, k88, n88⟩, -, X88, ⟨Lc88, hQ88, l88, y88, z88⟩, st88⟩ := X85.specialBack hx (y := (⟨"java/lang/String", "<init>", "([C)V"⟩ : MethodName)) rfl hown (mvT hZ (hW 4 _ rfl)) (mvT hZ (hW 5 _ rfl)) (mvT hZ (hW 6 _ rfl)) (by decide) (StrChars.Road.backV (W := 1) hZ hws (kI := 4) (hW 2 _ rfl) (cs := ([nar .char ((p2 &&& (255 : Int32)).toUInt32.toUInt16.toUInt32.toInt32), nar .char ((p3 &&& (255 : Int32)).toUInt32.toUInt16.toUInt32.toInt32), nar .char ((p4 &&& (255 : Int32)).toUInt32.toUInt16.toUInt32.toInt32)] : List Int32)) (bs := ([nar .char ((p2 &&& (255 : Int32)).toUInt32.toUInt16.toUInt32.toInt32), nar .char ((p3 &&& (255 : Int32)).toUInt32.toUInt16.toUInt32.toInt32), nar .char ((p4 &&& (255 : Int32)).toUInt32.toUInt16.toUInt32.toInt32)] : List Int32).map (fun c => c.toInt8.toInt32)) (n := 3) (by omega : n0 ≤ b85) (by omega : n0 ≤ h85.size) A85 F85_value F85_coder f87 (O2.ext O85.2) P5 rfl rfl (by decide) (by decide) hp86 rfl (by decide) (by decide)) (g := (mkF m 104 #[.val (.int p1), .val (.int p2), .val (.int p3), .val (.int p4), .val (.int p5), .val (.int (3 : Int32)), .val (.ref b76), .unset, .unset, .unset, .unset, .unset] [(.ref b76), (.ref b85), (.ref b85)])) rfl (by rw [hml]; rfl) (Steps.refl _) (a := b85) (argsL := [(.ref b76)]) (rest := [(.ref b85)]) (lenOf pd_3 rfl) rfl (by show 2 * 0 + _ ≤ _; exact Nat.le_of_eq rfl) (hb hby at_104) (fun _ _ => ⟨rfl, e85, (by decide : 2 + 1 ≤ _), (by decide : 7 + 3 ≤ _)⟩)
    dsimp only [Pt.U, Pt.locs, Pt.cells, Pt.slots] at X88 l88 y88 z88 st88 hQ88
    subst l88 y88 z88
    obtain ⟨rfl, Nq88, Kp88, g188, g288, t88, kb88, u188, u288, u388, g488, g588⟩ := hQ88
    have N88 := Fr.app N83 Nq88
    refine own_ofc (fun t k => st88.trans k) ?_
    have CHs88 := CHr.keep Kp88 (allS Sf85 all0) CH85.1
    have CH88 := CH85.trans CHs88
    have sz88 : h85.size ≤ T88.heap.size := Kp88.1
    have O88 : Old Z n0 T88.heap := O85.keep Kp88 (allS (by omega) all0)
    have Sx88 : own_str Z T88.heap b85 ([nar .char ((p2 &&& (255 : Int32)).toUInt32.toUInt16.toUInt32.toInt32), nar .char ((p3 &&& (255 : Int32)).toUInt32.toUInt16.toUInt32.toInt32), nar .char ((p4 &&& (255 : Int32)).toUInt32.toUInt16.toUInt32.toInt32)] : List Int32) := ⟨t88, kb88, _, _, g188, g488, g288, g588, StrChars.Road.codOf (n := 3) rfl (fun c hc => (hp86 c hc).2)⟩
    have Ex88 : Exa Z T88.heap b85 "java/lang/String" := by obtain ⟨_, _, _, _, q, -⟩ := id Sx88; exact q
    show own_gc p e below s _ _ _ _ _ (T88.setTop (mkF m 107 #[.val (.int p1), .val (.int p2), .val (.int p3), .val (.int p4), .val (.int p5), .val (.int (3 : Int32)), .val (.ref b76), .unset, .unset, .unset, .unset, .unset] [(.ref b85)]))
    refine own_ofc (fun t => XS.astore X88.here hx rfl (hb hby at_107) rfl rfl (l' := #[.val (.int p1), .val (.int p2), .val (.int p3), .val (.int p4), .val (.int p5), .val (.int (3 : Int32)), .val (.ref b76), .val (.ref b85), .unset, .unset, .unset, .unset]) rfl) ?_
    show own_gc p e below s _ _ _ _ _ (T88.setTop (mkF m 109 #[.val (.int p1), .val (.int p2), .val (.int p3), .val (.int p4), .val (.int p5), .val (.int (3 : Int32)), .val (.ref b76), .val (.ref b85), .unset, .unset, .unset, .unset] []))
    refine own_ofc (fun t => XS.iload X88.here hx rfl (hb hby at_109) rfl) ?_
    show own_gc p e below s _ _ _ _ _ (T88.setTop (mkF m 111 #[.val (.int p1), .val (.int p2), .val (.int p3), .val (.int p4), .val (.int p5), .val (.int (3 : Int32)), .val (.ref b76), .val (.ref b85), .unset, .unset, .unset, .unset] [(.int p5)]))
    refine own_ofc (fun t => XS.iconst X88.here hx rfl (hb hby at_111)) ?_
    show own_gc p e below s _ _ _ _ _ (T88.setTop (mkF m 112 #[.val (.int p1), .val (.int p2), .val (.int p3), .val (.int p4), .val (.int p5), .val (.int (3 : Int32)), .val (.ref b76), .val (.ref b85), .unset, .unset, .unset, .unset] [(.int (1 : Int32)), (.int p5)]))
    refine own_ofc (fun t => XS.iand X88.here hx rfl (hb hby at_112) rfl) ?_
    show own_gc p e below s _ _ _ _ _ (T88.setTop (mkF m 113 #[.val (.int p1), .val (.int p2), .val (.int p3), .val (.int p4), .val (.int p5), .val (.int (3 : Int32)), .val (.ref b76), .val (.ref b85), .unset, .unset, .unset, .unset] [(.int (p5 &&& (1 : Int32)))]))
    refine own_use X88 (h := T88.heap) (g := fun r89 : Addr => (mkF m 125 #[.val (.int p1), .val (.int p2), .val (.int p3), .val (.int p4), .val (.int p5), .val (.int (3 : Int32)), .val (.ref b76), .val (.ref b85), .unset, .unset, .unset, .unset] [(.ref r89)])) (G := own_gc p e below s _ _ _ _ _) ?_ ?_
    · intro r89 T89 X89 e89
      show own_gc p e below s _ _ _ _ _ (T89.setTop (mkF m 125 #[.val (.int p1), .val (.int p2), .val (.int p3), .val (.int p4), .val (.int p5), .val (.int (3 : Int32)), .val (.ref b76), .val (.ref b85), .unset, .unset, .unset, .unset] [(.ref r89)]))
      refine own_ofc (fun t => XS.astore X89.here hx rfl (hb hby at_125) rfl rfl (l' := #[.val (.int p1), .val (.int p2), .val (.int p3), .val (.int p4), .val (.int p5), .val (.int (3 : Int32)), .val (.ref b76), .val (.ref b85), .val (.ref r89), .unset, .unset, .unset]) rfl) ?_
      show own_gc p e below s _ _ _ _ _ (T89.setTop (mkF m 127 #[.val (.int p1), .val (.int p2), .val (.int p3), .val (.int p4), .val (.int p5), .val (.int (3 : Int32)), .val (.ref b76), .val (.ref b85), .val (.ref r89), .unset, .unset, .unset] []))
      refine own_ofc (fun t => XS.iload X89.here hx rfl (hb hby at_127) rfl) ?_
      show own_gc p e below s _ _ _ _ _ (T89.setTop (mkF m 129 #[.val (.int p1), .val (.int p2), .val (.int p3), .val (.int p4), .val (.int p5), .val (.int (3 : Int32)), .val (.ref b76), .val (.ref b85), .val (.ref r89), .unset, .unset, .unset] [(.int p5)]))
      refine own_ofc (fun t => XS.iconst X89.here hx rfl (hb hby at_129)) ?_
      show own_gc p e below s _ _ _ _ _ (T89.setTop (mkF m 130 #[.val (.int p1), .val (.int p2), .val (.int p3), .val (.int p4), .val (.int p5), .val (.int (3 : Int32)), .val (.ref b76), .val (.ref b85), .val (.ref r89), .unset, .unset, .unset] [(.int (2 : Int32)), (.int p5)]))
      refine own_ofc (fun t => XS.iand X89.here hx rfl (hb hby at_130) rfl) ?_
      show own_gc p e below s _ _ _ _ _ (T89.setTop (mkF m 131 #[.val (.int p1), .val (.int p2), .val (.int p3), .val (.int p4), .val (.int p5), .val (.int (3 : Int32)), .val (.ref b76), .val (.ref b85), .val (.ref r89), .unset, .unset, .unset] [(.int (p5 &&& (2 : Int32)))]))
      refine own_use X89 (h := T88.heap) (g := fun z90 : Int32 => (mkF m 139 #[.val (.int p1), .val (.int p2), .val (.int p3), .val (.int p4), .val (.int p5), .val (.int (3 : Int32)), .val (.ref b76), .val (.ref b85), .val (.ref r89), .unset, .unset, .unset] [(.int z90)])) (G := own_gc p e below s _ _ _ _ _) ?_ ?_
      · intro z90 T90 X90 e90
        show own_gc p e below s _ _ _ _ _ (T90.setTop (mkF m 139 #[.val (.int p1), .val (.int p2), .val (.int p3), .val (.int p4), .val (.int p5), .val (.int (3 : Int32)), .val (.ref b76), .val (.ref b85), .val (.ref r89), .unset, .unset, .unset] [(.int z90)]))
        refine own_ofc (fun t => XS.istore X90.here hx rfl (hb hby at_139) rfl (l' := #[.val (.int p1), .val (.int p2), .val (.int p3), .val (.int p4), .val (.int p5), .val (.int (3 : Int32)), .val (.ref b76), .val (.ref b85), .val (.ref r89), .val (.int z90), .unset, .unset]) rfl) ?_
        show own_gc p e below s _ _ _ _ _ (T90.setTop (mkF m 141 #[.val (.int p1), .val (.int p2), .val (.int p3), .val (.int p4), .val (.int p5), .val (.int (3 : Int32)), .val (.ref b76), .val (.ref b85), .val (.ref r89), .val (.int z90), .unset, .unset] []))
        obtain ⟨T91, h91, X91, e91, E91, A91, D91, -, st91⟩ := newO X90 hx hZ hown (hW 25 _ rfl) (hW 26 _ rfl) (hW 27 _ rfl) e90 (g := (mkF m 141 #[.val (.int p1), .val (.int p2), .val (.int p3), .val (.int p4), .val (.int p5), .val (.int (3 : Int32)), .val (.ref b76), .val (.ref b85), .val (.ref r89), .val (.int z90), .unset, .unset] [])) rfl (hb hby at_141) (by decide) (by decide)
        obtain ⟨b91, g91⟩ : ∃ z, z = T88.heap.size := ⟨_, rfl⟩
        rw [← g91] at A91 D91 st91
        refine own_ofc st91 ?_
        have lt91 := own_lt A91.lt
        have sz91 : T88.heap.size ≤ h91.size := E91.1
        have O91 : Old Z n0 h91 := O88.ext E91
        have z91 : n0 ≤ b91 := by have := O88.1 ▸ O88.2.1; omega
        have CHs91 := CHr.ext E91 CH88.1
        have Sf91 := Safe.ext E91 CH88.1 (Safe.new (Nat.le_of_eq g91.symm))
        have CH91 := CH88.trans CHs91
        have F91_groupSubfields : Fld Z h91 b91 "com/example/sachfeld/sachfeld/SubjectField$Layout" "groupSubfields" "Ljava/util/Map;" .null := D91 (Or.inr (hW 38 _ rfl)) (ty := (.object "java/util/Map")) (by decide)
        have F91_provenanceCodes : Fld Z h91 b91 "com/example/sachfeld/sachfeld/SubjectField$Layout" "provenanceCodes" "Ljava/lang/String;" .null := D91 (Or.inr (hW 40 _ rfl)) (ty := (.object "java/lang/String")) (by decide)
        have F91_manyDdcGroups : Fld Z h91 b91 "com/example/sachfeld/sachfeld/SubjectField$Layout" "manyDdcGroups" "Lcom/example/sachfeld/sachfeld/Rule;" .null := D91 (Or.inr (hW 42 _ rfl)) (ty := (.object "com/example/sachfeld/sachfeld/Rule")) (by decide)
        have F91_repeatable : Fld Z h91 b91 "com/example/sachfeld/sachfeld/SubjectField$Layout" "repeatable" "Z" (.int (0 : Int32)) := D91 (Or.inr (hW 44 _ rfl)) (ty := .boolean) (by decide)
        show own_gc p e below s _ _ _ _ _ (T91.setTop (mkF m 144 #[.val (.int p1), .val (.int p2), .val (.int p3), .val (.int p4), .val (.int p5), .val (.int (3 : Int32)), .val (.ref b76), .val (.ref b85), .val (.ref r89), .val (.int z90), .unset, .unset] [(.ref b91)]))
        refine own_ofc (fun t => XS.dup X91.here hx rfl (hb hby at_144) rfl rfl) ?_
        show own_gc p e below s _ _ _ _ _ (T91.setTop (mkF m 145 #[.val (.int p1), .val (.int p2), .val (.int p3), .val (.int p4), .val (.int p5), .val (.int (3 : Int32)), .val (.ref b76), .val (.ref b85), .val (.ref r89), .val (.int z90), .unset, .unset] [(.ref b91), (.ref b91)]))
        refine own_ofc (fun t => XS.aconstNull X91.here hx rfl (hb hby at_145)) ?_
        show own_gc p e below s _ _ _ _ _ (T91.setTop (mkF m 146 #[.val (.int p1), .val (.int p2), .val (.int p3), .val (.int p4), .val (.int p5), .val (.int (3 : Int32)), .val (.ref b76), .val (.ref b85), .val (.ref r89), .val (.int z90), .unset, .unset] [.null, (.ref b91), (.ref b91)]))
        refine own_ofc (fun t => XS.aload X91.here hx rfl (hb hby at_146) rfl rfl) ?_
        show own_gc p e below s _ _ _ _ _ (T91.setTop (mkF m 148 #[.val (.int p1), .val (.int p2), .val (.int p3), .val (.int p4), .val (.int p5), .val (.int (3 : Int32)), .val (.ref b76), .val (.ref b85), .val (.ref r89), .val (.int z90), .unset, .unset] [(.ref b85), .null, (.ref b91), (.ref b91)]))
        refine own_ofc (fun t => XS.aload X91.here hx rfl (hb hby at_148) rfl rfl) ?_
        show own_gc p e below s _ _ _ _ _ (T91.setTop (mkF m 150 #[.val (.int p1), .val (.int p2), .val (.int p3), .val (.int p4), .val (.int p5), .val (.int (3 : Int32)), .val (.ref b76), .val (.ref b85), .val (.ref r89), .val (.int z90), .unset, .unset] [(.ref r89), (.ref b85), .null, (.ref b91), (.ref b91)]))
        refine own_ofc (fun t => XS.iload X91.here hx rfl (hb hby at_150) rfl) ?_
        show own_gc p e below s _ _ _ _ _ (T91.setTop (mkF m 152 #[.val (.int p1), .val (.int p2), .val (.int p3), .val (.int p4), .val (.int p5), .val (.int (3 : Int32)), .val (.ref b76), .val (.ref b85), .val (.ref r89), .val (.int z90), .unset, .unset] [(.int z90), (.ref r89), (.ref b85), .null, (.ref b91), (.ref b91)]))
        obtain ⟨_, _, ⟨T92, L92, k92, n92⟩, -, X92, ⟨Lc92, hQ92, l92, y92, z92⟩, st92⟩ := X91.specialBack hx (y := (⟨"com/example/sachfeld/sachfeld/SubjectField$Layout", "<init>", "(Ljava/util/Map;Ljava/lang/String;Lcom/example/sachfeld/sachfeld/Rule;Z)V"⟩ : MethodName)) rfl hown (mvT hZ (hW 28 _ rfl)) (mvT hZ (hW 29 _ rfl)) (mvT hZ (hW 30 _ rfl)) (by decide) (backOf (W := 1) (rmL l Z a0 hw [] b91 b85 r89 z90 h91 n0 O91 (by omega) A91 F91_groupSubfields F91_provenanceCodes F91_manyDdcGroups F91_repeatable) hZ (hW 30 _ rfl) (hW 27 _ rfl) (by decide) (by decide)) (g := (mkF m 152 #[.val (.int p1), .val (.int p2), .val (.int p3), .val (.int p4), .val (.int p5), .val (.int (3 : Int32)), .val (.ref b76), .val (.ref b85), .val (.ref r89), .val (.int z90), .unset, .unset] [(.int z90), (.ref r89), (.ref b85), .null, (.ref b91), (.ref b91)])) rfl (by rw [hml]; rfl) (Steps.refl _) (a := b91) (argsL := [.null, (.ref b85), (.ref r89), (.int z90)]) (rest := [(.ref b91)]) (lenOf pd_4 rfl) rfl (by show 2 * 0 + _ ≤ _; exact Nat.le_of_eq rfl) (hb hby at_152) (fun _ _ => ⟨rfl, e91, (by decide : 4 + 0 ≤ _), (by decide : 14 + 0 ≤ _)⟩)
        dsimp only [Pt.U, Pt.locs, Pt.cells, Pt.slots] at X92 l92 y92 z92 st92 hQ92
        subst l92 y92 z92
        obtain ⟨rfl, Nq92, Kp92, Fp92⟩ := hQ92
        have N92 := Fr.app N88 Nq92
        refine own_ofc (fun t k => st92.trans k) ?_
        have CHs92 := CHr.keep Kp92 (allS Sf91 all0) CH91.1
        have CH92 := CH91.trans CHs92
        have sz92 : h91.size ≤ T92.heap.size := Kp92.1
        have O92 : Old Z n0 T92.heap := O91.keep Kp92 (allS (by omega) all0)
        show own_gc p e below s _ _ _ _ _ (T92.setTop (mkF m 155 #[.val (.int p1), .val (.int p2), .val (.int p3), .val (.int p4), .val (.int p5), .val (.int (3 : Int32)), .val (.ref b76), .val (.ref b85), .val (.ref r89), .val (.int z90), .unset, .unset] [(.ref b91)]))
        refine own_ofc (fun t => XS.astore X92.here hx rfl (hb hby at_155) rfl rfl (l' := #[.val (.int p1), .val (.int p2), .val (.int p3), .val (.int p4), .val (.int p5), .val (.int (3 : Int32)), .val (.ref b76), .val (.ref b85), .val (.ref r89), .val (.int z90), .val (.ref b91), .unset]) rfl) ?_
        show own_gc p e below s _ _ _ _ _ (T92.setTop (mkF m 157 #[.val (.int p1), .val (.int p2), .val (.int p3), .val (.int p4), .val (.int p5), .val (.int (3 : Int32)), .val (.ref b76), .val (.ref b85), .val (.ref r89), .val (.int z90), .val (.ref b91), .unset] []))
        refine own_ofc (fun t => XS.aload X92.here hx rfl (hb hby at_157) rfl rfl) ?_
        show own_gc p e below s _ _ _ _ _ (T92.setTop (mkF m 159 #[.val (.int p1), .val (.int p2), .val (.int p3), .val (.int p4), .val (.int p5), .val (.int (3 : Int32)), .val (.ref b76), .val (.ref b85), .val (.ref r89), .val (.int z90), .val (.ref b91), .unset] [(.ref b91)]))
        have f93 : own_str Z T92.heap b85 ([nar .char ((p2 &&& (255 : Int32)).toUInt32.toUInt16.toUInt32.toInt32), nar .char ((p3 &&& (255 : Int32)).toUInt32.toUInt16.toUInt32.toInt32), nar .char ((p4 &&& (255 : Int32)).toUInt32.toUInt16.toUInt32.toInt32)] : List Int32) := ((Sx88.ext E91).keep1 Kp92 (own_ne (by omega)) A91 (hW 26 _ rfl))
        have f95 : Exa Z T92.heap b91 "com/example/sachfeld/sachfeld/SubjectField$Layout" := (A91.keep Kp92)
        obtain ⟨cq94, kq94, q94a, q94b, q94c⟩ := isOf hZ rfl f95
        obtain ⟨_, _, ⟨T94, L94, k94, n94⟩, -, X94, ⟨Lc94, hQ94, l94, y94, z94⟩, st94⟩ := X92.virtualBack hx (y := (⟨"com/example/sachfeld/sachfeld/SubjectField$Layout", "recordsProvenance", "()Z"⟩ : MethodName)) (z := (⟨"com/example/sachfeld/sachfeld/SubjectField$Layout", "recordsProvenance", "()Z"⟩ : MethodName)) hown (mvT hZ (hW 45 _ rfl)) (mvT hZ (hW 46 _ rfl)) (notFace_of_selects (args := #[]) (mvT hZ (hW 48 _ rfl))) (mvT hZ (hW 48 _ rfl)) (mvT hZ (hW 47 _ rfl)) (by decide) (backOf (W := 0) (rmP l Z a0 hw [] b91 b85 ([nar .char ((p2 &&& (255 : Int32)).toUInt32.toUInt16.toUInt32.toInt32), nar .char ((p3 &&& (255 : Int32)).toUInt32.toUInt16.toUInt32.toInt32), nar .char ((p4 &&& (255 : Int32)).toUInt32.toUInt16.toUInt32.toInt32)] : List Int32) T92.heap n0 O92 Fp92 f93 (own_up _ hp86) (Nat.le_of_ble_eq_true rfl)) hZ (hW 49 _ rfl) (hW 27 _ rfl) (by decide) (by decide)) q94a q94c (g := (mkF m 159 #[.val (.int p1), .val (.int p2), .val (.int p3), .val (.int p4), .val (.int p5), .val (.int (3 : Int32)), .val (.ref b76), .val (.ref b85), .val (.ref r89), .val (.int z90), .val (.ref b91), .unset] [(.ref b91)])) rfl (by rw [hml]; rfl) (Steps.refl _) (argsL := []) (rest := []) (lenOf pd_2 rfl) rfl (by show 2 * 0 + _ ≤ _; exact Nat.le_of_eq rfl) (hb hby at_159) (fun _ _ => ⟨rfl, rfl, (by decide : 4 + 0 ≤ _), (by decide : 14 + 0 ≤ _)⟩)
        dsimp only [Pt.U, Pt.locs, Pt.cells, Pt.slots] at X94 l94 y94 z94 st94 hQ94
        subst l94 y94 z94
        obtain ⟨rfl, Nq94, eh94⟩ := hQ94
        have N94 := Fr.app N92 Nq94
        refine own_ofc (fun t k => st94.trans k) ?_
        show own_gc p e below s _ _ _ _ _ (T94.setTop (mkF m 162 #[.val (.int p1), .val (.int p2), .val (.int p3), .val (.int p4), .val (.int p5), .val (.int (3 : Int32)), .val (.ref b76), .val (.ref b85), .val (.ref r89), .val (.int z90), .val (.ref b91), .unset] [(.int (1 : Int32))]))
        refine own_ofc (fun t => XS.istore X94.here hx rfl (hb hby at_162) rfl (l' := #[.val (.int p1), .val (.int p2), .val (.int p3), .val (.int p4), .val (.int p5), .val (.int (3 : Int32)), .val (.ref b76), .val (.ref b85), .val (.ref r89), .val (.int z90), .val (.ref b91), .val (.int (1 : Int32))]) rfl) ?_
        show own_gc p e below s _ _ _ _ _ (T94.setTop (mkF m 164 #[.val (.int p1), .val (.int p2), .val (.int p3), .val (.int p4), .val (.int p5), .val (.int (3 : Int32)), .val (.ref b76), .val (.ref b85), .val (.ref r89), .val (.int z90), .val (.ref b91), .val (.int (1 : Int32))] []))
        refine own_ofc (fun t => XS.iload X94.here hx rfl (hb hby at_164) rfl) ?_
        show own_gc p e below s _ _ _ _ _ (T94.setTop (mkF m 166 #[.val (.int p1), .val (.int p2), .val (.int p3), .val (.int p4), .val (.int p5), .val (.int (3 : Int32)), .val (.ref b76), .val (.ref b85), .val (.ref r89), .val (.int z90), .val (.ref b91), .val (.int (1 : Int32))] [(.int (1 : Int32))]))
        refine own_ofc (fun t => XS.iload X94.here hx rfl (hb hby at_166) rfl) ?_
        show own_gc p e below s _ _ _ _ _ (T94.setTop (mkF m 168 #[.val (.int p1), .val (.int p2), .val (.int p3), .val (.int p4), .val (.int p5), .val (.int (3 : Int32)), .val (.ref b76), .val (.ref b85), .val (.ref r89), .val (.int z90), .val (.ref b91), .val (.int (1 : Int32))] [(.int (3 : Int32)), (.int (1 : Int32))]))
        have hb168_96 : ¬ ((3 : Int32) = (0 : Int32)) := by decide
        refine own_ofc (fun t => XS.ifNo X94.here hx rfl (hb hby at_168) rfl ((if0 _ _).trans (feq hb168_96).1)) ?_
        show own_gc p e below s _ _ _ _ _ (T94.setTop (mkF m 171 #[.val (.int p1), .val (.int p2), .val (.int p3), .val (.int p4), .val (.int p5), .val (.int (3 : Int32)), .val (.ref b76), .val (.ref b85), .val (.ref r89), .val (.int z90), .val (.ref b91), .val (.int (1 : Int32))] [(.int (1 : Int32))]))
        refine own_ofc (fun t => XS.iconst X94.here hx rfl (hb hby at_171)) ?_
        show own_gc p e below s _ _ _ _ _ (T94.setTop (mkF m 172 #[.val (.int p1), .val (.int p2), .val (.int p3), .val (.int p4), .val (.int p5), .val (.int (3 : Int32)), .val (.ref b76), .val (.ref b85), .val (.ref r89), .val (.int z90), .val (.ref b91), .val (.int (1 : Int32))] [(.int (1 : Int32)), (.int (1 : Int32))]))
        refine own_ofc (fun t => XS.goto X94.here hx rfl (pc0 := 172) (pc' := 176) rfl (hb hby at_172) (by decide) (by decide)) ?_
        show own_gc p e below s _ _ _ _ _ (T94.setTop (mkF m 176 #[.val (.int p1), .val (.int p2), .val (.int p3), .val (.int p4), .val (.int p5), .val (.int (3 : Int32)), .val (.ref b76), .val (.ref b85), .val (.ref r89), .val (.int z90), .val (.ref b91), .val (.int (1 : Int32))] [(.int (1 : Int32)), (.int (1 : Int32))]))
        have hb176_97 : (1 : Int32) = (1 : Int32) := by decide
        refine own_ofc (fun t => XS.icmpNo X94.here hx rfl (hb hby at_176) rfl (teq hb176_97).2) ?_
        show own_gc p e below s _ _ _ _ _ (T94.setTop (mkF m 179 #[.val (.int p1), .val (.int p2), .val (.int p3), .val (.int p4), .val (.int p5), .val (.int (3 : Int32)), .val (.ref b76), .val (.ref b85), .val (.ref r89), .val (.int z90), .val (.ref b91), .val (.int (1 : Int32))] []))
        refine own_ofc (fun t => XS.iconst X94.here hx rfl (hb hby at_179)) ?_
        show own_gc p e below s _ _ _ _ _ (T94.setTop (mkF m 180 #[.val (.int p1), .val (.int p2), .val (.int p3), .val (.int p4), .val (.int p5), .val (.int (3 : Int32)), .val (.ref b76), .val (.ref b85), .val (.ref r89), .val (.int z90), .val (.ref b91), .val (.int (1 : Int32))] [(.int (1 : Int32))]))
        refine own_ofc (fun t => XS.goto X94.here hx rfl (pc0 := 180) (pc' := 184) rfl (hb hby at_180) (by decide) (by decide)) ?_
        show own_gc p e below s _ _ _ _ _ (T94.setTop (mkF m 184 #[.val (.int p1), .val (.int p2), .val (.int p3), .val (.int p4), .val (.int p5), .val (.int (3 : Int32)), .val (.ref b76), .val (.ref b85), .val (.ref r89), .val (.int z90), .val (.ref b91), .val (.int (1 : Int32))] [(.int (1 : Int32))]))
        refine own_retc X94 hx hlk hS0 (by rw [eh94]; omega : 0 ≤ T94.heap.size) hZ hEL (by rw [eh94]; exact CH92) Bd.returns rfl (Or.inl ⟨rfl, by simp, _, rfl⟩) (hb hby at_184) (by decide) (by decide) ?_
        rw [eh94]
        exact ⟨rfl, N94⟩
      · intro j90
        show own_gc p e below s _ _ _ _ _ (T89.setTop (mkF m 131 #[.val (.int p1), .val (.int p2), .val (.int p3), .val (.int p4), .val (.int p5), .val (.int (3 : Int32)), .val (.ref b76), .val (.ref b85), .val (.ref r89), .unset, .unset, .unset] [(.int (p5 &&& (2 : Int32)))]))
        by_cases hb131_98 : (p5 &&& (2 : Int32)) = (0 : Int32)
        · refine own_ofc (fun t => XS.ifYes X89.here hx rfl (pc0 := 131) (pc' := 138) rfl (hb hby at_131) rfl ((if0 _ _).trans (teq hb131_98).1) (by decide) (by decide)) ?_
          show own_gc p e below s _ _ _ _ _ (T89.setTop (mkF m 138 #[.val (.int p1), .val (.int p2), .val (.int p3), .val (.int p4), .val (.int p5), .val (.int (3 : Int32)), .val (.ref b76), .val (.ref b85), .val (.ref r89), .unset, .unset, .unset] []))
          refine own_ofc (fun t => XS.iconst X89.here hx rfl (hb hby at_138)) ?_
          show own_gc p e below s _ _ _ _ _ (T89.setTop (mkF m 139 #[.val (.int p1), .val (.int p2), .val (.int p3), .val (.int p4), .val (.int p5), .val (.int (3 : Int32)), .val (.ref b76), .val (.ref b85), .val (.ref r89), .unset, .unset, .unset] [(.int (0 : Int32))]))
          exact j90 _ _ X89 e89
        · refine own_ofc (fun t => XS.ifNo X89.here hx rfl (hb hby at_131) rfl ((if0 _ _).trans (feq hb131_98).1)) ?_
          show own_gc p e below s _ _ _ _ _ (T89.setTop (mkF m 134 #[.val (.int p1), .val (.int p2), .val (.int p3), .val (.int p4), .val (.int p5), .val (.int (3 : Int32)), .val (.ref b76), .val (.ref b85), .val (.ref r89), .unset, .unset, .unset] []))
          refine own_ofc (fun t => XS.iconst X89.here hx rfl (hb hby at_134)) ?_
          show own_gc p e below s _ _ _ _ _ (T89.setTop (mkF m 135 #[.val (.int p1), .val (.int p2), .val (.int p3), .val (.int p4), .val (.int p5), .val (.int (3 : Int32)), .val (.ref b76), .val (.ref b85), .val (.ref r89), .unset, .unset, .unset] [(.int (1 : Int32))]))
          refine own_ofc (fun t => XS.goto X89.here hx rfl (pc0 := 135) (pc' := 139) rfl (hb hby at_135) (by decide) (by decide)) ?_
          show own_gc p e below s _ _ _ _ _ (T89.setTop (mkF m 139 #[.val (.int p1), .val (.int p2), .val (.int p3), .val (.int p4), .val (.int p5), .val (.int (3 : Int32)), .val (.ref b76), .val (.ref b85), .val (.ref r89), .unset, .unset, .unset] [(.int (1 : Int32))]))
          exact j90 _ _ X89 e89
    · intro j89
      show own_gc p e below s _ _ _ _ _ (T88.setTop (mkF m 113 #[.val (.int p1), .val (.int p2), .val (.int p3), .val (.int p4), .val (.int p5), .val (.int (3 : Int32)), .val (.ref b76), .val (.ref b85), .unset, .unset, .unset, .unset] [(.int (p5 &&& (1 : Int32)))]))
      by_cases hb113_99 : (p5 &&& (1 : Int32)) = (0 : Int32)
      · refine own_ofc (fun t => XS.ifYes X88.here hx rfl (pc0 := 113) (pc' := 122) rfl (hb hby at_113) rfl ((if0 _ _).trans (teq hb113_99).1) (by decide) (by decide)) ?_
        show own_gc p e below s _ _ _ _ _ (T88.setTop (mkF m 122 #[.val (.int p1), .val (.int p2), .val (.int p3), .val (.int p4), .val (.int p5), .val (.int (3 : Int32)), .val (.ref b76), .val (.ref b85), .unset, .unset, .unset, .unset] []))
        obtain ⟨T100, X100, e100, st100⟩ := getS2 X88 hx hZ hown (host := "") (Or.inl (hW 22 _ rfl)) Via.refl rfl (S_MANY_GROUPS.ext O88.2) (g := (mkF m 122 #[.val (.int p1), .val (.int p2), .val (.int p3), .val (.int p4), .val (.int p5), .val (.int (3 : Int32)), .val (.ref b76), .val (.ref b85), .unset, .unset, .unset, .unset] [])) rfl (hb hby at_122)
        refine own_ofc st100 ?_
        show own_gc p e below s _ _ _ _ _ (T100.setTop (mkF m 125 #[.val (.int p1), .val (.int p2), .val (.int p3), .val (.int p4), .val (.int p5), .val (.int (3 : Int32)), .val (.ref b76), .val (.ref b85), .unset, .unset, .unset, .unset] [(.ref wa)]))
        exact j89 _ _ X100 e100
      · refine own_ofc (fun t => XS.ifNo X88.here hx rfl (hb hby at_113) rfl ((if0 _ _).trans (feq hb113_99).1)) ?_
        show own_gc p e below s _ _ _ _ _ (T88.setTop (mkF m 116 #[.val (.int p1), .val (.int p2), .val (.int p3), .val (.int p4), .val (.int p5), .val (.int (3 : Int32)), .val (.ref b76), .val (.ref b85), .unset, .unset, .unset, .unset] []))
        obtain ⟨T101, X101, e101, st101⟩ := getS2 X88 hx hZ hown (host := "") (Or.inl (hW 66 _ rfl)) Via.refl rfl (S_TOO_MANY_GROUPS.ext O88.2) (g := (mkF m 116 #[.val (.int p1), .val (.int p2), .val (.int p3), .val (.int p4), .val (.int p5), .val (.int (3 : Int32)), .val (.ref b76), .val (.ref b85), .unset, .unset, .unset, .unset] [])) rfl (hb hby at_116)
        refine own_ofc st101 ?_
        show own_gc p e below s _ _ _ _ _ (T101.setTop (mkF m 119 #[.val (.int p1), .val (.int p2), .val (.int p3), .val (.int p4), .val (.int p5), .val (.int (3 : Int32)), .val (.ref b76), .val (.ref b85), .unset, .unset, .unset, .unset] [(.ref wb)]))
        refine own_ofc (fun t => XS.goto X101.here hx rfl (pc0 := 119) (pc' := 125) rfl (hb hby at_119) (by decide) (by decide)) ?_
        show own_gc p e below s _ _ _ _ _ (T101.setTop (mkF m 125 #[.val (.int p1), .val (.int p2), .val (.int p3), .val (.int p4), .val (.int p5), .val (.int (3 : Int32)), .val (.ref b76), .val (.ref b85), .unset, .unset, .unset, .unset] [(.ref wb)]))
        exact j89 _ _ X101 e101
set_option maxRecDepth 65536 in
set_option maxHeartbeats 40000000 in
theorem comes_1 {Post : Tables → Env → Array Value → State → Outcome → State → Prop} (hpost : ∀ tb e args s v u, (limb_1_1.after args s (.returned v) u = true ∧ limb_1_2.after args s (.returned v) u = true ∧ True) → ReturnedEndW s (.returned v) u (Jvm.fieldLocs frame_1_writes args s ++ Jvm.arrayLocs frame_1_arrays args s ++ Jvm.staticLocs frame_1_statics s) 24 1152 → Post tb e args s (.returned v) u) :
    ArmFor flags0 classFile x code maxLocals ret World_1 tables_1 room_1 Calls_1 rest_1 Pre_1 Post := by
  intro l hfl _ _ p e ha hc hk s m args below hf hA hF happ hP
  obtain ⟨hcalls, hrest, hpre⟩ := hP
  obtain ⟨-, -, -, hnamed, -, -, -, hat⟩ := (Spec.applies_iff hf).mp happ
  obtain ⟨hg, hn⟩ := and_e (Cond.before_iff.mp (show (Jvm.Cond.and given_1 narrow_1).before args s = true from hpre))
  obtain ⟨g1, g2⟩ := and_e hg
  obtain ⟨g3, g4⟩ := and_e g2
  obtain ⟨g5, g6⟩ := and_e g4
  obtain ⟨g7, g8⟩ := and_e g6
  obtain ⟨g9, g10⟩ := and_e g8
  obtain ⟨g11, g12⟩ := and_e hn
  obtain ⟨w0, w1, w2, w3, w4, rfl⟩ : ∃ w0 w1 w2 w3 w4 : Value, args = #[w0, w1, w2, w3, w4] := by
    have hs : args.size = 5 := by simpa [Cond.value, given_1] using g1
    obtain ⟨L⟩ := args
    match L, hs with
    | [w0, w1, w2, w3, w4], _ => exact ⟨w0, w1, w2, w3, w4, rfl⟩
  have hw := fun d (hd : d ∈ tables_1) => atoms_spec (ws := Jvm.Cond.code x code maxLocals ret :: tables_1) hat d (List.mem_cons_of_mem _ hd)
  have hW : ∀ (i : Nat) (d : Jvm.Cond), tables_1[i]? = some d → d.before _ s = true := fun i d h => hw d (List.mem_of_getElem? h)
  have hfit : Fit s := fun {y c} hc i hi => by
    obtain ⟨ha, rfl⟩ := Array.getElem?_eq_some_iff.mp hc
    have q := List.all_eq_true.mp ((Array.all_eq_true_iff_forall_mem.mp hF) _ (Array.getElem_mem ha)) i (List.mem_range.mpr hi)
    simpa [Array.getElem?_eq_getElem hi] using q
  obtain ⟨hsets, hown0⟩ := atoms_of _ (rest_1_c_eq ▸ (show rest_1_c.before _ s = true from hrest))
  have hr0 := Cond.before_iff.mp hown0
  obtain ⟨i0, ei0⟩ := is_v g3
  obtain rfl : w0 = (.int i0) := Option.some.inj ei0
  obtain ⟨i1, ei1⟩ := is_v g5
  obtain rfl : w1 = (.int i1) := Option.some.inj ei1
  obtain ⟨i2, ei2⟩ := is_v g7
  obtain rfl : w2 = (.int i2) := Option.some.inj ei2
  obtain ⟨i3, ei3⟩ := is_v g9
  obtain rfl : w3 = (.int i3) := Option.some.inj ei3
  obtain ⟨i4, ei4⟩ := is_v g10
  obtain rfl : w4 = (.int i4) := Option.some.inj ei4
  obtain ⟨a_MANY_GROUPS, ev_MANY_GROUPS, E_MANY_GROUPS⟩ := own_ex g11
  have S_MANY_GROUPS : Sta s s.heap "com/example/sachfeld/sachfeld/Rule" "MANY_GROUPS" "Lcom/example/sachfeld/sachfeld/Rule;" (.ref a_MANY_GROUPS) := Sta.start ev_MANY_GROUPS (Or.inr ⟨(hW 23 _ rfl), (hW 24 _ rfl)⟩)
  obtain ⟨a_TOO_MANY_GROUPS, ev_TOO_MANY_GROUPS, E_TOO_MANY_GROUPS⟩ := own_ex g12
  have S_TOO_MANY_GROUPS : Sta s s.heap "com/example/sachfeld/sachfeld/Rule" "TOO_MANY_GROUPS" "Lcom/example/sachfeld/sachfeld/Rule;" (.ref a_TOO_MANY_GROUPS) := Sta.start ev_TOO_MANY_GROUPS (Or.inr ⟨(hW 23 _ rfl), (hW 67 _ rfl)⟩)
  have n3 := not_v (Cond.before_iff.mp (hsets _ (List.mem_of_getElem? (i := 2) rfl)))
  obtain ⟨i7, e6⟩ := is_v (Cond.before_iff.mp (hsets _ (List.mem_of_getElem? (i := 1) rfl)))
  have S8 : Sta s s.heap "java/lang/String" "COMPACT_STRINGS" "Z" (.int i7) := Sta.start e6 (Or.inl (hsets _ (List.mem_of_getElem? (i := 0) rfl)))
  have c13 : ¬ (i7 = (0 : Int32)) := gotF (Cond.eq_ints e6 (Term.int_eval (0))) n3
  have hEL : EW s _ own_EL := EW.cons (own := "java/lang/String") (index := 7) (hW 14 _ rfl) (by decide) EW.nil
  have hCH : CHv s own_EL s.vm s.heap := CHv.start hEL (fun p hp => hcalls.1 p ((by decide : ∀ p ∈ own_EL, p ∈ consts_1) p hp)) (Cond.before_iff.mpr (not_i (nay (Cond.eq_ints e6 (Term.int_eval (0))) c13))) (hW 15 _ rfl) (hW 2 _ rfl)
  obtain ⟨n, o, h1, h2, h3, _, L, rfl, ⟨rfl, N⟩, -, hq⟩ := rm0 l s _ hw tables_1 i0 i1 i2 i3 i4 a_MANY_GROUPS a_TOO_MANY_GROUPS i7 s.heap s.heap.size hEL (Old.start s) S_MANY_GROUPS S_TOO_MANY_GROUPS S8 c13 p e ha hc hk s m _ below hf ((Spec.applies_iff_loose hf).mp happ).1 ⟨rfl, State.Warmed39.refl s, rfl, hCH⟩ trivial
  refine ⟨n, _, h1, h2, h3, hpost _ _ _ _ _ _ ⟨Cond.after_iff.mpr rfl, Cond.after_iff.mpr (eq_i res_at (Term.int_eval (1)) rfl), trivial⟩ ⟨hq.1, hq.2.1, hq.2.2.1, (hq.2.2.2.sift fun y hy => Or.inr (N y hy)).mono (by decide) (by decide)⟩⟩
theorem main_1_1 : Claimed_1_1 := comes_1 fun _ _ _ _ _ _ h hF => ⟨h.1, hF⟩
theorem main_1_2 : Claimed_1_2 := comes_1 fun _ _ _ _ _ _ h hF => ⟨h.2.1, hF⟩
end Jvm.Pilot.@@N@@
namespace Jvm.Pilot.@@N@@
open Jvm Jvm.ClassFile Sem Op Lib Jvm.Free Jvm.Stand Jvm.Pilot.@@N@@.Jvm.D
/-! MADE BY PROGRAM (witnessworld.py) out of the Statement's table words and the real class files: 23 classes; the members and pool entries that the words name. The judged class is class 1, her method 1. -/
namespace start1
open Jvm.ClassFile
def u (s : String) : CpInfo := .utf8 (stringToUtf16 s)
/-- a pool by its gaps: so many unusable entries, then the entry; so many at the end -/
def gap : Nat → List CpInfo → List CpInfo
  | 0, r => r
  | n + 1, r => .unusable :: gap n r
def poolList (es : List (Nat × CpInfo)) (last : Nat) : List CpInfo := es.foldr (fun e r => gap e.1 (e.2 :: r)) (gap last [])
def pool (es : List (Nat × CpInfo)) (last : Nat) : Array CpInfo := ⟨poolList es last⟩
def fileOf (pool : Array CpInfo) (this : Nat) (attrs : Array Attribute := #[]) (ms : Array MethodInfo := #[]) (fl : Nat := 33) (sup : Nat := 0) (ifs : Array Nat := #[]) (fds : Array FieldInfo := #[]) : ClassFile where
  minorVersion := 0
  majorVersion := 65
  constantPool := pool
  accessFlags := fl
  thisClass := this
  superClass := sup
  interfaces := ifs
  fields := fds
  methods := ms
  attributes := attrs
def plain (name : String) (sup : Option ClassId) : Class where
  name := name
  kind := .ordinary
  loader := none
  accessFlags := 33
  super := sup
  interfaces := #[]
  cf := none
  fields := #[]
  methods := #[]
  instanceTypes := #[]
  staticTypes := #[]
  resolved := #[]
  callSites := []
  init := .initialized
  statics := none
  mirror := none

def pool0 : Array CpInfo := pool [(5, u "<init>"), (0, u "()V"), (1, .class_ 10), (1, u "java/lang/Object")] 113

def k0c0 : Code := { maxStack := 0, maxLocals := 1, code := object_method_1_code, exceptionTable := #[], attributes := #[] }
def k0m0 : Method := { name := "<init>", desc := "()V", sig := { parameters := [], returnType := none }, accessFlags := 1, code := some k0c0 }
/-- java/lang/Object -/
def k0 : Class := { plain "java/lang/Object" none with
  accessFlags := 33
  interfaces := #[]
  cf := some (fileOf pool0 8 #[] #[{ accessFlags := 1, nameIndex := 5, descriptorIndex := 6, attributes := #[] }] 33 0 #[] #[])
  fields := #[]
  methods := #[k0m0]
  instanceTypes := #[]
  staticTypes := #[]
  resolved := Array.replicate 124 none
  statics := none }

def pool1 : Array CpInfo := pool [(2, .class_ 4), (1, u "java/lang/Object"), (0, u "<init>"), (0, u "()V"), (0, .class_ 8), (0, u "java/lang/String"), (0, .methodref 7 10), (0, .nameAndType 5 11), (0, u "([C)V"), (0, .fieldref 13 14), (0, .class_ 15), (0, .nameAndType 16 17), (0, u "com/example/sachfeld/sachfeld/Rule"), (0, u "TOO_MANY_GROUPS"), (0, u "Lcom/example/sachfeld/sachfeld/Rule;"), (0, .fieldref 13 19), (0, .nameAndType 20 17), (0, u "MANY_GROUPS"), (0, .class_ 22), (0, u "com/example/sachfeld/sachfeld/SubjectField$Layout"), (0, .methodref 21 24), (0, .nameAndType 5 25), (0, u "(Ljava/util/Map;Ljava/lang/String;Lcom/example/sachfeld/sachfeld/Rule;Z)V"), (0, .methodref 21 27), (0, .nameAndType 28 29), (0, u "recordsProvenance"), (0, u "()Z"), (0, .class_ 31), (0, u "com/example/sachfeld/sachfeld/LayoutRecordsProvenancePinLaw"), (2, u "law"), (0, u "(IIIII)Z")] 9

def k1m0 : Method := { name := "<init>", desc := "()V", sig := { parameters := [], returnType := none }, accessFlags := 1, code := none }
def k1c1 : Code := { maxStack := 6, maxLocals := 12, code := code, exceptionTable := #[], attributes := #[] }
def k1m1 : Method := { name := "law", desc := "(IIIII)Z", sig := { parameters := [.int, .int, .int, .int, .int], returnType := some .boolean }, accessFlags := 9, code := some k1c1 }
/-- com/example/sachfeld/sachfeld/LayoutRecordsProvenancePinLaw -/
def k1 : Class := { plain "com/example/sachfeld/sachfeld/LayoutRecordsProvenancePinLaw" (some 0) with
  accessFlags := 49
  interfaces := #[]
  cf := some (fileOf pool1 30 #[] #[{ accessFlags := 1, nameIndex := 5, descriptorIndex := 6, attributes := #[] }, { accessFlags := 9, nameIndex := 34, descriptorIndex := 35, attributes := #[] }] 49 2 #[] #[])
  fields := #[]
  methods := #[k1m0, k1m1]
  instanceTypes := #[]
  staticTypes := #[]
  resolved := Array.replicate 45 none
  statics := none }

def pool2 : Array CpInfo := pool [(1, .class_ 2), (0, u "java/io/Serializable"), (0, .class_ 4), (0, u "java/lang/Object")] 2

/-- java/io/Serializable -/
def k2 : Class := { plain "java/io/Serializable" (some 0) with
  accessFlags := 1537
  interfaces := #[]
  cf := some (fileOf pool2 1 #[] #[] 1537 3 #[] #[])
  fields := #[]
  methods := #[]
  instanceTypes := #[]
  staticTypes := #[]
  resolved := Array.replicate 7 none
  statics := none }

def pool3 : Array CpInfo := pool [(1, .class_ 2), (0, u "java/lang/Comparable"), (0, .class_ 4), (0, u "java/lang/Object")] 7

/-- java/lang/Comparable -/
def k3 : Class := { plain "java/lang/Comparable" (some 0) with
  accessFlags := 1537
  interfaces := #[]
  cf := some (fileOf pool3 1 #[] #[] 1537 3 #[] #[])
  fields := #[]
  methods := #[]
  instanceTypes := #[]
  staticTypes := #[]
  resolved := Array.replicate 12 none
  statics := none }

def pool4 : Array CpInfo := pool [(2, .class_ 4), (1, u "java/lang/CharSequence"), (42, .class_ 48), (0, u "java/lang/CharSequence$1CodePointIterator"), (10, .class_ 60), (0, u "java/lang/CharSequence$1CharIterator"), (5, .class_ 67), (0, u "java/lang/Object")] 63

/-- java/lang/CharSequence -/
def k4 : Class := { plain "java/lang/CharSequence" (some 0) with
  accessFlags := 1537
  interfaces := #[]
  cf := some (fileOf pool4 2 #[.nestMembers #[47, 59]] #[] 1537 66 #[] #[])
  fields := #[]
  methods := #[]
  instanceTypes := #[]
  staticTypes := #[]
  resolved := Array.replicate 131 none
  statics := none }

def pool5 : Array CpInfo := pool [(1, .class_ 2), (0, u "java/lang/constant/Constable"), (0, .class_ 4), (0, u "java/lang/Object")] 6

/-- java/lang/constant/Constable -/
def k5 : Class := { plain "java/lang/constant/Constable" (some 0) with
  accessFlags := 1537
  interfaces := #[]
  cf := some (fileOf pool5 1 #[] #[] 1537 3 #[] #[])
  fields := #[]
  methods := #[]
  instanceTypes := #[]
  staticTypes := #[]
  resolved := Array.replicate 11 none
  statics := none }

def pool6 : Array CpInfo := pool [(1, .class_ 2), (0, u "java/lang/constant/ConstantDesc"), (0, .class_ 4), (0, u "java/lang/Object")] 32

/-- java/lang/constant/ConstantDesc -/
def k6 : Class := { plain "java/lang/constant/ConstantDesc" (some 0) with
  accessFlags := 1537
  interfaces := #[]
  cf := some (fileOf pool6 1 #[] #[] 1537 3 #[] #[])
  fields := #[]
  methods := #[]
  instanceTypes := #[]
  staticTypes := #[]
  resolved := Array.replicate 37 none
  statics := none }

def pool7 : Array CpInfo := pool [(1, .methodref 2 3), (0, .class_ 4), (0, .nameAndType 5 6), (0, u "java/lang/Object"), (0, u "<init>"), (0, u "()V"), (0, .string 8), (0, u ""), (0, .fieldref 10 11), (0, .class_ 12), (0, .nameAndType 13 14), (0, u "java/lang/String"), (0, u "value"), (0, u "[B"), (0, .fieldref 10 16), (0, .nameAndType 17 18), (0, u "coder"), (0, u "B"), (2, u "hash"), (0, u "I"), (2, u "hashIsZero"), (0, u "Z"), (0, .methodref 10 28), (0, .nameAndType 5 29), (0, u "([CIILjava/lang/Void;)V"), (8, .fieldref 10 39), (0, .nameAndType 40 26), (0, u "COMPACT_STRINGS"), (1, .class_ 44), (1, u "java/lang/StringUTF16"), (0, u "compress"), (1, .methodref 42 48), (0, .nameAndType 49 50), (0, u "coderFromArrayLen"), (0, u "([BI)B"), (91, u "()Z"), (34, .methodref 42 178), (0, .nameAndType 45 179), (0, u "([CII)[B"), (395, .class_ 576), (0, u "java/lang/CharSequence"), (22, u "CASE_INSENSITIVE_ORDER"), (0, u "Ljava/util/Comparator;"), (91, u "isEmpty"), (317, u "([C)V"), (90, u "serialPersistentFields"), (0, u "[Ljava/io/ObjectStreamField;"), (0, .class_ 1104), (0, u "java/lang/String$CaseInsensitiveComparator"), (1, .class_ 1107), (0, u "java/io/Serializable"), (0, .class_ 1109), (0, u "java/lang/Comparable"), (0, .class_ 1111), (0, u "java/lang/constant/Constable"), (0, .class_ 1113), (0, u "java/lang/constant/ConstantDesc"), (2, u "serialVersionUID"), (0, u "J"), (3, u "REPL"), (0, u "C"), (2, u "LATIN1"), (1, u "UTF16")] 323

def k7m0 : Method := { name := "<init>", desc := "()V", sig := { parameters := [], returnType := none }, accessFlags := 1, code := none }
def k7c1 : Code := { maxStack := 5, maxLocals := 2, code := jdk_42_method_3_code, exceptionTable := #[], attributes := #[] }
def k7m1 : Method := { name := "<init>", desc := "([C)V", sig := { parameters := [(.array .char)], returnType := none }, accessFlags := 1, code := some k7c1 }
def k7c2 : Code := { maxStack := 1, maxLocals := 1, code := jdk_42_method_55_code, exceptionTable := #[], attributes := #[] }
def k7m2 : Method := { name := "isEmpty", desc := "()Z", sig := { parameters := [], returnType := some .boolean }, accessFlags := 1, code := some k7c2 }
def k7c3 : Code := { maxStack := 4, maxLocals := 6, code := jdk_42_method_149_code, exceptionTable := #[], attributes := #[] }
def k7m3 : Method := { name := "<init>", desc := "([CIILjava/lang/Void;)V", sig := { parameters := [(.array .char), .int, .int, (.object "java/lang/Void")], returnType := none }, accessFlags := 2, code := some k7c3 }
/-- java/lang/String -/
def k7 : Class := { plain "java/lang/String" (some 0) with
  accessFlags := 49
  interfaces := #[2, 3, 4, 5, 6]
  cf := some (fileOf pool7 10 #[.nestMembers #[1103]] #[{ accessFlags := 1, nameIndex := 5, descriptorIndex := 6, attributes := #[] }, { accessFlags := 1, nameIndex := 5, descriptorIndex := 1010, attributes := #[] }, { accessFlags := 1, nameIndex := 692, descriptorIndex := 142, attributes := #[] }, { accessFlags := 2, nameIndex := 5, descriptorIndex := 29, attributes := #[] }] 49 2 #[1106, 1108, 575, 1110, 1112] #[{ accessFlags := 18, nameIndex := 13, descriptorIndex := 14, attributes := #[] }, { accessFlags := 18, nameIndex := 17, descriptorIndex := 18, attributes := #[] }, { accessFlags := 2, nameIndex := 21, descriptorIndex := 22, attributes := #[] }, { accessFlags := 2, nameIndex := 25, descriptorIndex := 26, attributes := #[] }, { accessFlags := 26, nameIndex := 1116, descriptorIndex := 1117, attributes := #[] }, { accessFlags := 24, nameIndex := 40, descriptorIndex := 26, attributes := #[] }, { accessFlags := 26, nameIndex := 1101, descriptorIndex := 1102, attributes := #[] }, { accessFlags := 26, nameIndex := 1121, descriptorIndex := 1122, attributes := #[] }, { accessFlags := 25, nameIndex := 599, descriptorIndex := 600, attributes := #[] }, { accessFlags := 24, nameIndex := 1125, descriptorIndex := 18, attributes := #[] }, { accessFlags := 24, nameIndex := 1127, descriptorIndex := 18, attributes := #[] }])
  fields := #[{ name := "value", type := (.array .byte), accessFlags := 18, slot := 0, constantValue := 0 }, { name := "coder", type := .byte, accessFlags := 18, slot := 1, constantValue := 0 }, { name := "hash", type := .int, accessFlags := 2, slot := 2, constantValue := 0 }, { name := "hashIsZero", type := .boolean, accessFlags := 2, slot := 3, constantValue := 0 }, { name := "serialVersionUID", type := .long, accessFlags := 26, slot := 0, constantValue := 0 }, { name := "COMPACT_STRINGS", type := .boolean, accessFlags := 24, slot := 1, constantValue := 0 }, { name := "serialPersistentFields", type := (.array (.object "java/io/ObjectStreamField")), accessFlags := 26, slot := 2, constantValue := 0 }, { name := "REPL", type := .char, accessFlags := 26, slot := 3, constantValue := 0 }, { name := "CASE_INSENSITIVE_ORDER", type := (.object "java/util/Comparator"), accessFlags := 25, slot := 4, constantValue := 0 }, { name := "LATIN1", type := .byte, accessFlags := 24, slot := 5, constantValue := 0 }, { name := "UTF16", type := .byte, accessFlags := 24, slot := 6, constantValue := 0 }]
  methods := #[k7m0, k7m1, k7m2, k7m3]
  instanceTypes := #[(.array .byte), .byte, .int, .boolean]
  staticTypes := #[.long, .boolean, (.array (.object "java/io/ObjectStreamField")), .char, (.object "java/util/Comparator"), .byte, .byte]
  resolved := Array.replicate 1451 none
  statics := some 0 }

def pool8 : Array CpInfo := pool [(2, .class_ 4), (1, u "java/lang/Enum"), (0, u "name"), (0, u "Ljava/lang/String;"), (2, u "ordinal"), (0, u "I"), (1, .class_ 14), (1, u "java/lang/Object"), (4, u "hash"), (86, .class_ 108), (1, u "java/lang/Enum$EnumDesc"), (2, .class_ 112), (0, u "java/lang/constant/Constable"), (0, .class_ 114), (0, u "java/lang/Comparable"), (0, .class_ 116), (0, u "java/io/Serializable")] 87

/-- java/lang/Enum -/
def k8 : Class := { plain "java/lang/Enum" (some 0) with
  accessFlags := 1057
  interfaces := #[5, 3, 2]
  cf := some (fileOf pool8 2 #[.nestMembers #[106]] #[] 1057 12 #[111, 113, 115] #[{ accessFlags := 18, nameIndex := 5, descriptorIndex := 6, attributes := #[] }, { accessFlags := 18, nameIndex := 9, descriptorIndex := 10, attributes := #[] }, { accessFlags := 2, nameIndex := 19, descriptorIndex := 10, attributes := #[] }])
  fields := #[{ name := "name", type := (.object "java/lang/String"), accessFlags := 18, slot := 0, constantValue := 0 }, { name := "ordinal", type := .int, accessFlags := 18, slot := 1, constantValue := 0 }, { name := "hash", type := .int, accessFlags := 2, slot := 2, constantValue := 0 }]
  methods := #[]
  instanceTypes := #[(.object "java/lang/String"), .int, .int]
  staticTypes := #[]
  resolved := Array.replicate 204 none
  statics := none }

def pool9 : Array CpInfo := pool [(1, .class_ 2), (0, u "com/example/sachfeld/sachfeld/Rule"), (2, u "UNKNOWN_MARKER"), (0, u "Lcom/example/sachfeld/sachfeld/Rule;"), (2, u "EMPTY_SUBFIELD"), (2, u "REPEATED_SUBFIELD"), (2, u "REPEATED_FIELD"), (2, u "NO_GROUP"), (2, u "TOO_MANY_GROUPS"), (2, u "MANY_GROUPS"), (2, u "SECONDARY_WITHOUT_MAIN"), (2, u "GROUP_ORDER"), (2, u "UNKNOWN_GROUP"), (2, u "GROUP_FORM"), (2, u "PROVENANCE_INCOMPLETE"), (2, u "NO_PROVENANCE"), (2, u "UNKNOWN_CAPTURE"), (2, u "LEGACY_CAPTURE"), (2, u "UNKNOWN_PROCESS"), (2, u "LEGACY_PROCESS"), (2, u "CAPTURE_PROCESS_MISMATCH"), (2, u "CONFIDENCE_RANGE"), (2, u "CONFIDENCE_NOT_MACHINE"), (2, u "BAD_DATE"), (2, u "SHORT_DATE"), (2, u "$VALUES"), (0, u "[Lcom/example/sachfeld/sachfeld/Rule;"), (6, .class_ 82), (1, u "java/lang/Enum"), (8, u "id"), (0, u "Ljava/lang/String;"), (2, u "severity"), (0, u "Lcom/example/sachfeld/sachfeld/Rule$Severity;"), (2, u "meaningUnknown"), (0, u "Z"), (4, .class_ 107), (1, u "com/example/sachfeld/sachfeld/Rule$Severity")] 93

/-- com/example/sachfeld/sachfeld/Rule -/
def k9 : Class := { plain "com/example/sachfeld/sachfeld/Rule" (some 8) with
  accessFlags := 16433
  interfaces := #[]
  cf := some (fileOf pool9 1 #[.nestMembers #[105]] #[] 16433 80 #[] #[{ accessFlags := 16409, nameIndex := 5, descriptorIndex := 6, attributes := #[] }, { accessFlags := 16409, nameIndex := 9, descriptorIndex := 6, attributes := #[] }, { accessFlags := 16409, nameIndex := 12, descriptorIndex := 6, attributes := #[] }, { accessFlags := 16409, nameIndex := 15, descriptorIndex := 6, attributes := #[] }, { accessFlags := 16409, nameIndex := 18, descriptorIndex := 6, attributes := #[] }, { accessFlags := 16409, nameIndex := 21, descriptorIndex := 6, attributes := #[] }, { accessFlags := 16409, nameIndex := 24, descriptorIndex := 6, attributes := #[] }, { accessFlags := 16409, nameIndex := 27, descriptorIndex := 6, attributes := #[] }, { accessFlags := 16409, nameIndex := 30, descriptorIndex := 6, attributes := #[] }, { accessFlags := 16409, nameIndex := 33, descriptorIndex := 6, attributes := #[] }, { accessFlags := 16409, nameIndex := 36, descriptorIndex := 6, attributes := #[] }, { accessFlags := 16409, nameIndex := 39, descriptorIndex := 6, attributes := #[] }, { accessFlags := 16409, nameIndex := 42, descriptorIndex := 6, attributes := #[] }, { accessFlags := 16409, nameIndex := 45, descriptorIndex := 6, attributes := #[] }, { accessFlags := 16409, nameIndex := 48, descriptorIndex := 6, attributes := #[] }, { accessFlags := 16409, nameIndex := 51, descriptorIndex := 6, attributes := #[] }, { accessFlags := 16409, nameIndex := 54, descriptorIndex := 6, attributes := #[] }, { accessFlags := 16409, nameIndex := 57, descriptorIndex := 6, attributes := #[] }, { accessFlags := 16409, nameIndex := 60, descriptorIndex := 6, attributes := #[] }, { accessFlags := 16409, nameIndex := 63, descriptorIndex := 6, attributes := #[] }, { accessFlags := 16409, nameIndex := 66, descriptorIndex := 6, attributes := #[] }, { accessFlags := 16409, nameIndex := 69, descriptorIndex := 6, attributes := #[] }, { accessFlags := 18, nameIndex := 91, descriptorIndex := 92, attributes := #[] }, { accessFlags := 18, nameIndex := 95, descriptorIndex := 96, attributes := #[] }, { accessFlags := 18, nameIndex := 99, descriptorIndex := 100, attributes := #[] }, { accessFlags := 4122, nameIndex := 72, descriptorIndex := 73, attributes := #[] }])
  fields := #[{ name := "UNKNOWN_MARKER", type := (.object "com/example/sachfeld/sachfeld/Rule"), accessFlags := 16409, slot := 0, constantValue := 0 }, { name := "EMPTY_SUBFIELD", type := (.object "com/example/sachfeld/sachfeld/Rule"), accessFlags := 16409, slot := 1, constantValue := 0 }, { name := "REPEATED_SUBFIELD", type := (.object "com/example/sachfeld/sachfeld/Rule"), accessFlags := 16409, slot := 2, constantValue := 0 }, { name := "REPEATED_FIELD", type := (.object "com/example/sachfeld/sachfeld/Rule"), accessFlags := 16409, slot := 3, constantValue := 0 }, { name := "NO_GROUP", type := (.object "com/example/sachfeld/sachfeld/Rule"), accessFlags := 16409, slot := 4, constantValue := 0 }, { name := "TOO_MANY_GROUPS", type := (.object "com/example/sachfeld/sachfeld/Rule"), accessFlags := 16409, slot := 5, constantValue := 0 }, { name := "MANY_GROUPS", type := (.object "com/example/sachfeld/sachfeld/Rule"), accessFlags := 16409, slot := 6, constantValue := 0 }, { name := "SECONDARY_WITHOUT_MAIN", type := (.object "com/example/sachfeld/sachfeld/Rule"), accessFlags := 16409, slot := 7, constantValue := 0 }, { name := "GROUP_ORDER", type := (.object "com/example/sachfeld/sachfeld/Rule"), accessFlags := 16409, slot := 8, constantValue := 0 }, { name := "UNKNOWN_GROUP", type := (.object "com/example/sachfeld/sachfeld/Rule"), accessFlags := 16409, slot := 9, constantValue := 0 }, { name := "GROUP_FORM", type := (.object "com/example/sachfeld/sachfeld/Rule"), accessFlags := 16409, slot := 10, constantValue := 0 }, { name := "PROVENANCE_INCOMPLETE", type := (.object "com/example/sachfeld/sachfeld/Rule"), accessFlags := 16409, slot := 11, constantValue := 0 }, { name := "NO_PROVENANCE", type := (.object "com/example/sachfeld/sachfeld/Rule"), accessFlags := 16409, slot := 12, constantValue := 0 }, { name := "UNKNOWN_CAPTURE", type := (.object "com/example/sachfeld/sachfeld/Rule"), accessFlags := 16409, slot := 13, constantValue := 0 }, { name := "LEGACY_CAPTURE", type := (.object "com/example/sachfeld/sachfeld/Rule"), accessFlags := 16409, slot := 14, constantValue := 0 }, { name := "UNKNOWN_PROCESS", type := (.object "com/example/sachfeld/sachfeld/Rule"), accessFlags := 16409, slot := 15, constantValue := 0 }, { name := "LEGACY_PROCESS", type := (.object "com/example/sachfeld/sachfeld/Rule"), accessFlags := 16409, slot := 16, constantValue := 0 }, { name := "CAPTURE_PROCESS_MISMATCH", type := (.object "com/example/sachfeld/sachfeld/Rule"), accessFlags := 16409, slot := 17, constantValue := 0 }, { name := "CONFIDENCE_RANGE", type := (.object "com/example/sachfeld/sachfeld/Rule"), accessFlags := 16409, slot := 18, constantValue := 0 }, { name := "CONFIDENCE_NOT_MACHINE", type := (.object "com/example/sachfeld/sachfeld/Rule"), accessFlags := 16409, slot := 19, constantValue := 0 }, { name := "BAD_DATE", type := (.object "com/example/sachfeld/sachfeld/Rule"), accessFlags := 16409, slot := 20, constantValue := 0 }, { name := "SHORT_DATE", type := (.object "com/example/sachfeld/sachfeld/Rule"), accessFlags := 16409, slot := 21, constantValue := 0 }, { name := "id", type := (.object "java/lang/String"), accessFlags := 18, slot := 3, constantValue := 0 }, { name := "severity", type := (.object "com/example/sachfeld/sachfeld/Rule$Severity"), accessFlags := 18, slot := 4, constantValue := 0 }, { name := "meaningUnknown", type := .boolean, accessFlags := 18, slot := 5, constantValue := 0 }, { name := "$VALUES", type := (.array (.object "com/example/sachfeld/sachfeld/Rule")), accessFlags := 4122, slot := 22, constantValue := 0 }]
  methods := #[]
  instanceTypes := #[(.object "java/lang/String"), .int, .int, (.object "java/lang/String"), (.object "com/example/sachfeld/sachfeld/Rule$Severity"), .boolean]
  staticTypes := #[(.object "com/example/sachfeld/sachfeld/Rule"), (.object "com/example/sachfeld/sachfeld/Rule"), (.object "com/example/sachfeld/sachfeld/Rule"), (.object "com/example/sachfeld/sachfeld/Rule"), (.object "com/example/sachfeld/sachfeld/Rule"), (.object "com/example/sachfeld/sachfeld/Rule"), (.object "com/example/sachfeld/sachfeld/Rule"), (.object "com/example/sachfeld/sachfeld/Rule"), (.object "com/example/sachfeld/sachfeld/Rule"), (.object "com/example/sachfeld/sachfeld/Rule"), (.object "com/example/sachfeld/sachfeld/Rule"), (.object "com/example/sachfeld/sachfeld/Rule"), (.object "com/example/sachfeld/sachfeld/Rule"), (.object "com/example/sachfeld/sachfeld/Rule"), (.object "com/example/sachfeld/sachfeld/Rule"), (.object "com/example/sachfeld/sachfeld/Rule"), (.object "com/example/sachfeld/sachfeld/Rule"), (.object "com/example/sachfeld/sachfeld/Rule"), (.object "com/example/sachfeld/sachfeld/Rule"), (.object "com/example/sachfeld/sachfeld/Rule"), (.object "com/example/sachfeld/sachfeld/Rule"), (.object "com/example/sachfeld/sachfeld/Rule"), (.array (.object "com/example/sachfeld/sachfeld/Rule"))]
  resolved := Array.replicate 201 none
  statics := some 1 }

def pool10 : Array CpInfo := pool [(1, .methodref 2 3), (0, .class_ 4), (0, .nameAndType 5 6), (0, u "java/lang/Object"), (0, u "<init>"), (0, u "()V"), (0, .class_ 8), (0, u "java/lang/Record")] 13

def k10c0 : Code := { maxStack := 1, maxLocals := 1, code := jdk_30_method_1_code, exceptionTable := #[], attributes := #[] }
def k10m0 : Method := { name := "<init>", desc := "()V", sig := { parameters := [], returnType := none }, accessFlags := 4, code := some k10c0 }
/-- java/lang/Record -/
def k10 : Class := { plain "java/lang/Record" (some 0) with
  accessFlags := 1057
  interfaces := #[]
  cf := some (fileOf pool10 7 #[] #[{ accessFlags := 4, nameIndex := 5, descriptorIndex := 6, attributes := #[] }] 1057 2 #[] #[])
  fields := #[]
  methods := #[k10m0]
  instanceTypes := #[]
  staticTypes := #[]
  resolved := Array.replicate 22 none
  statics := none }

def pool11 : Array CpInfo := pool [(1, .methodref 2 3), (0, .class_ 4), (0, .nameAndType 5 6), (0, u "java/lang/Record"), (0, u "<init>"), (0, u "()V"), (0, .fieldref 8 9), (0, .class_ 10), (0, .nameAndType 11 12), (0, u "com/example/sachfeld/sachfeld/SubjectField$Layout"), (0, u "groupSubfields"), (0, u "Ljava/util/Map;"), (0, .fieldref 8 14), (0, .nameAndType 15 16), (0, u "provenanceCodes"), (0, u "Ljava/lang/String;"), (0, .fieldref 8 18), (0, .nameAndType 19 20), (0, u "manyDdcGroups"), (0, u "Lcom/example/sachfeld/sachfeld/Rule;"), (0, .fieldref 8 22), (0, .nameAndType 23 24), (0, u "repeatable"), (0, u "Z"), (0, .methodref 26 27), (0, .class_ 28), (0, .nameAndType 29 30), (0, u "java/lang/String"), (0, u "isEmpty"), (0, u "()Z"), (61, u "(Ljava/util/Map;Ljava/lang/String;Lcom/example/sachfeld/sachfeld/Rule;Z)V"), (4, u "recordsProvenance"), (12, .class_ 111), (0, u "com/example/sachfeld/sachfeld/SubjectField")] 30

def k11c0 : Code := { maxStack := 2, maxLocals := 5, code := prog_46_method_1_code, exceptionTable := #[], attributes := #[] }
def k11m0 : Method := { name := "<init>", desc := "(Ljava/util/Map;Ljava/lang/String;Lcom/example/sachfeld/sachfeld/Rule;Z)V", sig := { parameters := [(.object "java/util/Map"), (.object "java/lang/String"), (.object "com/example/sachfeld/sachfeld/Rule"), .boolean], returnType := none }, accessFlags := 0, code := some k11c0 }
def k11c1 : Code := { maxStack := 1, maxLocals := 1, code := prog_46_method_2_code, exceptionTable := #[], attributes := #[] }
def k11m1 : Method := { name := "recordsProvenance", desc := "()Z", sig := { parameters := [], returnType := some .boolean }, accessFlags := 0, code := some k11c1 }
/-- com/example/sachfeld/sachfeld/SubjectField$Layout -/
def k11 : Class := { plain "com/example/sachfeld/sachfeld/SubjectField$Layout" (some 10) with
  accessFlags := 48
  interfaces := #[]
  cf := some (fileOf pool11 8 #[.nestHost 110] #[{ accessFlags := 0, nameIndex := 5, descriptorIndex := 92, attributes := #[] }, { accessFlags := 0, nameIndex := 97, descriptorIndex := 30, attributes := #[] }] 48 2 #[] #[{ accessFlags := 18, nameIndex := 11, descriptorIndex := 12, attributes := #[] }, { accessFlags := 18, nameIndex := 15, descriptorIndex := 16, attributes := #[] }, { accessFlags := 18, nameIndex := 19, descriptorIndex := 20, attributes := #[] }, { accessFlags := 18, nameIndex := 23, descriptorIndex := 24, attributes := #[] }])
  fields := #[{ name := "groupSubfields", type := (.object "java/util/Map"), accessFlags := 18, slot := 0, constantValue := 0 }, { name := "provenanceCodes", type := (.object "java/lang/String"), accessFlags := 18, slot := 1, constantValue := 0 }, { name := "manyDdcGroups", type := (.object "com/example/sachfeld/sachfeld/Rule"), accessFlags := 18, slot := 2, constantValue := 0 }, { name := "repeatable", type := .boolean, accessFlags := 18, slot := 3, constantValue := 0 }]
  methods := #[k11m0, k11m1]
  instanceTypes := #[(.object "java/util/Map"), (.object "java/lang/String"), (.object "com/example/sachfeld/sachfeld/Rule"), .boolean]
  staticTypes := #[]
  resolved := Array.replicate 142 none
  statics := none }

def pool12 : Array CpInfo := pool [(6, .class_ 8), (1, u "java/lang/Object"), (0, u "<init>"), (0, u "()V"), (1, .class_ 14), (1, u "java/lang/StringUTF16"), (31, u "$assertionsDisabled"), (0, u "Z"), (13, u "HI_BYTE_SHIFT"), (0, u "I"), (2, u "LO_BYTE_SHIFT"), (49, .methodref 12 116), (0, .nameAndType 117 118), (0, u "compress"), (0, u "([CI[BII)I"), (3, u "([CII)[B"), (138, u "coderFromArrayLen"), (0, u "([BI)B"), (106, .class_ 371), (1, u "java/lang/StringUTF16$LinesSpliterator"), (58, u "MAX_LENGTH"), (196, .class_ 628), (0, u "java/lang/StringUTF16$CodePointsSpliterator"), (0, .class_ 630), (0, u "java/lang/StringUTF16$CharsSpliterator")] 4

def k12m0 : Method := { name := "<init>", desc := "()V", sig := { parameters := [], returnType := none }, accessFlags := 0, code := none }
def k12c1 : Code := { maxStack := 2, maxLocals := 2, code := jdk_52_method_15_code, exceptionTable := #[], attributes := #[] }
def k12m1 : Method := { name := "coderFromArrayLen", desc := "([BI)B", sig := { parameters := [(.array .byte), .int], returnType := some .byte }, accessFlags := 8, code := some k12c1 }
def k12c2 : Code := { maxStack := 5, maxLocals := 6, code := jdk_52_method_16_code, exceptionTable := #[], attributes := #[] }
def k12m2 : Method := { name := "compress", desc := "([CII)[B", sig := { parameters := [(.array .char), .int, .int], returnType := some (.array .byte) }, accessFlags := 9, code := some k12c2 }
def k12c3 : Code := { maxStack := 3, maxLocals := 7, code := jdk_52_method_21_code, exceptionTable := #[], attributes := #[] }
def k12m3 : Method := { name := "compress", desc := "([CI[BII)I", sig := { parameters := [(.array .char), .int, (.array .byte), .int, .int], returnType := some .int }, accessFlags := 9, code := some k12c3 }
/-- java/lang/StringUTF16 -/
def k12 : Class := { plain "java/lang/StringUTF16" (some 0) with
  accessFlags := 48
  interfaces := #[]
  cf := some (fileOf pool12 12 #[.nestMembers #[627, 629, 369]] #[{ accessFlags := 0, nameIndex := 9, descriptorIndex := 10, attributes := #[] }, { accessFlags := 8, nameIndex := 261, descriptorIndex := 262, attributes := #[] }, { accessFlags := 9, nameIndex := 117, descriptorIndex := 122, attributes := #[] }, { accessFlags := 9, nameIndex := 117, descriptorIndex := 118, attributes := #[] }] 48 6 #[] #[{ accessFlags := 26, nameIndex := 61, descriptorIndex := 62, attributes := #[] }, { accessFlags := 26, nameIndex := 65, descriptorIndex := 62, attributes := #[] }, { accessFlags := 24, nameIndex := 430, descriptorIndex := 62, attributes := #[] }, { accessFlags := 4120, nameIndex := 46, descriptorIndex := 47, attributes := #[] }])
  fields := #[{ name := "HI_BYTE_SHIFT", type := .int, accessFlags := 26, slot := 0, constantValue := 0 }, { name := "LO_BYTE_SHIFT", type := .int, accessFlags := 26, slot := 1, constantValue := 0 }, { name := "MAX_LENGTH", type := .int, accessFlags := 24, slot := 2, constantValue := 0 }, { name := "$assertionsDisabled", type := .boolean, accessFlags := 4120, slot := 3, constantValue := 0 }]
  methods := #[k12m0, k12m1, k12m2, k12m3]
  instanceTypes := #[]
  staticTypes := #[.int, .int, .int, .boolean]
  resolved := Array.replicate 635 none
  statics := none }

def pool13 : Array CpInfo := pool [(4, .class_ 6), (1, u "java/lang/Object"), (0, u "<init>"), (0, u "()V"), (5, .class_ 16), (1, u "java/lang/StringLatin1"), (104, u "$assertionsDisabled"), (0, u "Z"), (98, .class_ 223), (1, u "java/lang/StringLatin1$LinesSpliterator"), (166, .class_ 391), (0, u "java/lang/StringLatin1$CharsSpliterator")] 3

def k13m0 : Method := { name := "<init>", desc := "()V", sig := { parameters := [], returnType := none }, accessFlags := 0, code := none }
/-- java/lang/StringLatin1 -/
def k13 : Class := { plain "java/lang/StringLatin1" (some 0) with
  accessFlags := 48
  interfaces := #[]
  cf := some (fileOf pool13 14 #[.nestMembers #[390, 221]] #[{ accessFlags := 0, nameIndex := 7, descriptorIndex := 8, attributes := #[] }] 48 4 #[] #[{ accessFlags := 4120, nameIndex := 121, descriptorIndex := 122, attributes := #[] }])
  fields := #[{ name := "$assertionsDisabled", type := .boolean, accessFlags := 4120, slot := 0, constantValue := 0 }]
  methods := #[k13m0]
  instanceTypes := #[]
  staticTypes := #[.boolean]
  resolved := Array.replicate 395 none
  statics := none }

def pool14 : Array CpInfo := pool [(2, .class_ 4), (1, u "java/lang/Object"), (0, u "<init>"), (0, u "()V"), (17, .class_ 26), (1, u "jdk/internal/util/Preconditions"), (28, .class_ 56), (0, u "jdk/internal/util/Preconditions$4"), (57, .class_ 115), (0, u "jdk/internal/util/Preconditions$1"), (7, u "SIOOBE_FORMATTER"), (0, u "Ljava/util/function/BiFunction;"), (0, .class_ 126), (0, u "jdk/internal/util/Preconditions$2"), (3, u "AIOOBE_FORMATTER"), (0, .class_ 132), (0, u "jdk/internal/util/Preconditions$3"), (3, u "IOOBE_FORMATTER")] 57

def k14m0 : Method := { name := "<init>", desc := "()V", sig := { parameters := [], returnType := none }, accessFlags := 1, code := none }
/-- jdk/internal/util/Preconditions -/
def k14 : Class := { plain "jdk/internal/util/Preconditions" (some 0) with
  accessFlags := 33
  interfaces := #[]
  cf := some (fileOf pool14 24 #[.nestMembers #[55, 131, 125, 114]] #[{ accessFlags := 1, nameIndex := 5, descriptorIndex := 6, attributes := #[] }] 33 2 #[] #[{ accessFlags := 25, nameIndex := 123, descriptorIndex := 124, attributes := #[] }, { accessFlags := 25, nameIndex := 130, descriptorIndex := 124, attributes := #[] }, { accessFlags := 25, nameIndex := 136, descriptorIndex := 124, attributes := #[] }])
  fields := #[{ name := "SIOOBE_FORMATTER", type := (.object "java/util/function/BiFunction"), accessFlags := 25, slot := 0, constantValue := 0 }, { name := "AIOOBE_FORMATTER", type := (.object "java/util/function/BiFunction"), accessFlags := 25, slot := 1, constantValue := 0 }, { name := "IOOBE_FORMATTER", type := (.object "java/util/function/BiFunction"), accessFlags := 25, slot := 2, constantValue := 0 }]
  methods := #[k14m0]
  instanceTypes := #[]
  staticTypes := #[(.object "java/util/function/BiFunction"), (.object "java/util/function/BiFunction"), (.object "java/util/function/BiFunction")]
  resolved := Array.replicate 194 none
  statics := some 2 }

def pool15 : Array CpInfo := pool [(9, u "<init>"), (6, .class_ 18), (1, u "java/lang/Object"), (0, u "()V"), (1, .class_ 23), (1, u "jdk/internal/util/ArraysSupport"), (0, u "LOG2_ARRAY_LONG_INDEX_SCALE"), (0, u "I"), (2, u "U"), (0, u "Ljdk/internal/misc/Unsafe;"), (8, u "BIG_ENDIAN"), (0, u "Z"), (8, u "LOG2_BYTE_BIT_SIZE"), (4, u "LOG2_ARRAY_INT_INDEX_SCALE"), (54, u "JLA"), (0, u "Ljdk/internal/access/JavaLangAccess;"), (11, u "LOG2_ARRAY_BOOLEAN_INDEX_SCALE"), (9, u "LOG2_ARRAY_BYTE_INDEX_SCALE"), (5, u "LOG2_ARRAY_CHAR_INDEX_SCALE"), (5, u "LOG2_ARRAY_SHORT_INDEX_SCALE"), (18, u "LOG2_ARRAY_FLOAT_INDEX_SCALE"), (24, u "LOG2_ARRAY_DOUBLE_INDEX_SCALE"), (89, u "T_BOOLEAN"), (2, u "T_CHAR"), (1, u "T_FLOAT"), (1, u "T_DOUBLE"), (1, u "T_BYTE"), (1, u "T_SHORT"), (1, u "T_INT"), (1, u "T_LONG"), (1, u "SOFT_MAX_ARRAY_LENGTH")] 83

def k15m0 : Method := { name := "<init>", desc := "()V", sig := { parameters := [], returnType := none }, accessFlags := 2, code := none }
/-- jdk/internal/util/ArraysSupport -/
def k15 : Class := { plain "jdk/internal/util/ArraysSupport" (some 0) with
  accessFlags := 33
  interfaces := #[]
  cf := some (fileOf pool15 21 #[] #[{ accessFlags := 2, nameIndex := 9, descriptorIndex := 19, attributes := #[] }] 33 16 #[] #[{ accessFlags := 24, nameIndex := 28, descriptorIndex := 29, attributes := #[] }, { accessFlags := 26, nameIndex := 38, descriptorIndex := 39, attributes := #[] }, { accessFlags := 25, nameIndex := 121, descriptorIndex := 25, attributes := #[] }, { accessFlags := 25, nameIndex := 131, descriptorIndex := 25, attributes := #[] }, { accessFlags := 25, nameIndex := 137, descriptorIndex := 25, attributes := #[] }, { accessFlags := 25, nameIndex := 143, descriptorIndex := 25, attributes := #[] }, { accessFlags := 25, nameIndex := 53, descriptorIndex := 25, attributes := #[] }, { accessFlags := 25, nameIndex := 24, descriptorIndex := 25, attributes := #[] }, { accessFlags := 25, nameIndex := 162, descriptorIndex := 25, attributes := #[] }, { accessFlags := 25, nameIndex := 187, descriptorIndex := 25, attributes := #[] }, { accessFlags := 26, nameIndex := 48, descriptorIndex := 25, attributes := #[] }, { accessFlags := 25, nameIndex := 277, descriptorIndex := 25, attributes := #[] }, { accessFlags := 25, nameIndex := 280, descriptorIndex := 25, attributes := #[] }, { accessFlags := 25, nameIndex := 282, descriptorIndex := 25, attributes := #[] }, { accessFlags := 25, nameIndex := 284, descriptorIndex := 25, attributes := #[] }, { accessFlags := 25, nameIndex := 286, descriptorIndex := 25, attributes := #[] }, { accessFlags := 25, nameIndex := 288, descriptorIndex := 25, attributes := #[] }, { accessFlags := 25, nameIndex := 290, descriptorIndex := 25, attributes := #[] }, { accessFlags := 25, nameIndex := 292, descriptorIndex := 25, attributes := #[] }, { accessFlags := 26, nameIndex := 108, descriptorIndex := 109, attributes := #[] }, { accessFlags := 25, nameIndex := 294, descriptorIndex := 25, attributes := #[] }])
  fields := #[{ name := "U", type := (.object "jdk/internal/misc/Unsafe"), accessFlags := 24, slot := 0, constantValue := 0 }, { name := "BIG_ENDIAN", type := .boolean, accessFlags := 26, slot := 1, constantValue := 0 }, { name := "LOG2_ARRAY_BOOLEAN_INDEX_SCALE", type := .int, accessFlags := 25, slot := 2, constantValue := 0 }, { name := "LOG2_ARRAY_BYTE_INDEX_SCALE", type := .int, accessFlags := 25, slot := 3, constantValue := 0 }, { name := "LOG2_ARRAY_CHAR_INDEX_SCALE", type := .int, accessFlags := 25, slot := 4, constantValue := 0 }, { name := "LOG2_ARRAY_SHORT_INDEX_SCALE", type := .int, accessFlags := 25, slot := 5, constantValue := 0 }, { name := "LOG2_ARRAY_INT_INDEX_SCALE", type := .int, accessFlags := 25, slot := 6, constantValue := 0 }, { name := "LOG2_ARRAY_LONG_INDEX_SCALE", type := .int, accessFlags := 25, slot := 7, constantValue := 0 }, { name := "LOG2_ARRAY_FLOAT_INDEX_SCALE", type := .int, accessFlags := 25, slot := 8, constantValue := 0 }, { name := "LOG2_ARRAY_DOUBLE_INDEX_SCALE", type := .int, accessFlags := 25, slot := 9, constantValue := 0 }, { name := "LOG2_BYTE_BIT_SIZE", type := .int, accessFlags := 26, slot := 10, constantValue := 0 }, { name := "T_BOOLEAN", type := .int, accessFlags := 25, slot := 11, constantValue := 0 }, { name := "T_CHAR", type := .int, accessFlags := 25, slot := 12, constantValue := 0 }, { name := "T_FLOAT", type := .int, accessFlags := 25, slot := 13, constantValue := 0 }, { name := "T_DOUBLE", type := .int, accessFlags := 25, slot := 14, constantValue := 0 }, { name := "T_BYTE", type := .int, accessFlags := 25, slot := 15, constantValue := 0 }, { name := "T_SHORT", type := .int, accessFlags := 25, slot := 16, constantValue := 0 }, { name := "T_INT", type := .int, accessFlags := 25, slot := 17, constantValue := 0 }, { name := "T_LONG", type := .int, accessFlags := 25, slot := 18, constantValue := 0 }, { name := "JLA", type := (.object "jdk/internal/access/JavaLangAccess"), accessFlags := 26, slot := 19, constantValue := 0 }, { name := "SOFT_MAX_ARRAY_LENGTH", type := .int, accessFlags := 25, slot := 20, constantValue := 0 }]
  methods := #[k15m0]
  instanceTypes := #[]
  staticTypes := #[(.object "jdk/internal/misc/Unsafe"), .boolean, .int, .int, .int, .int, .int, .int, .int, .int, .int, .int, .int, .int, .int, .int, .int, .int, .int, (.object "jdk/internal/access/JavaLangAccess"), .int]
  resolved := Array.replicate 378 none
  statics := none }

def pool16 : Array CpInfo := pool [(1, u "java/lang/Cloneable"), (0, .class_ 1), (0, u "java/lang/Object"), (0, .class_ 3)] 3

/-- java/lang/Cloneable -/
def k16 : Class := { plain "java/lang/Cloneable" (some 0) with
  accessFlags := 1537
  interfaces := #[]
  cf := some (fileOf pool16 2 #[] #[] 1537 4 #[] #[])
  fields := #[]
  methods := #[]
  instanceTypes := #[]
  staticTypes := #[]
  resolved := Array.replicate 8 none
  statics := none }

/-- the primitive byte -/
def k17 : Class := { plain "byte" none with kind := .primitive 'B', accessFlags := 0x411 }
/-- [B -/
def k18 : Class := { plain "[B" (some 0) with kind := .array 17 .byte, interfaces := #[16, 2], accessFlags := 1041 }

/-- the primitive char -/
def k19 : Class := { plain "char" none with kind := .primitive 'C', accessFlags := 0x411 }
/-- [C -/
def k20 : Class := { plain "[C" (some 0) with kind := .array 19 .char, interfaces := #[16, 2], accessFlags := 1041 }

/-- the primitive int -/
def k21 : Class := { plain "int" none with kind := .primitive 'I', accessFlags := 0x411 }
/-- [I -/
def k22 : Class := { plain "[I" (some 0) with kind := .array 21 .int, interfaces := #[16, 2], accessFlags := 1041 }

def heap : Heap := #[{ cls := 7, slots := #[.long 0, .int 1, .null, .int 0, .null, .int 0, .int 0], vm := .statics 7 },
  { cls := 9, slots := #[.null, .null, .null, .null, .null, .ref 4, .ref 3, .null, .null, .null, .null, .null, .null, .null, .null, .null, .null, .null, .null, .null, .null, .null, .null], vm := .statics 9 },
  { cls := 14, slots := #[.null, .null, .null], vm := .statics 14 },
  { cls := 9, slots := #[.null, .int 0, .int 0, .null, .null, .int 0], vm := .none },
  { cls := 9, slots := #[.null, .int 1, .int 0, .null, .null, .int 0], vm := .none }]
def classes : Array Class := #[k0, k1, k2, k3, k4, k5, k6, k7, k8, k9, k10, k11, k12, k13, k14, k15, k16, k17, k18, k19, k20, k21, k22]
def interned : List (Array UInt16 × Addr) := []
def slotsUsed : Nat := 45
def theMethod : MethodId := ⟨1, 1⟩
def args0 : Array Value := #[.int 1, .int 65, .int 66, .int 67, .int 3]
def aboutOver (below : List Frame) : State where
  vm := { classes := classes, interned := interned.toArray }
  heap := heap
  slotsUsed := slotsUsed
  threads := #[{ frames := .invoking theMethod args0 :: below }]
def below0 : List Frame := [.native { method := ⟨0, 0⟩, args := #[] }]
def about1 : State := aboutOver below0
def p0 : Program := .bare "" "" ""
def e0 : Env := launch0.env 0 0 0
theorem w_frames : about1.frames = Frame.invoking theMethod args0 :: below0 := rfl
set_option maxRecDepth 65536 in
theorem w_args : argsFit about1.vm theMethod args0 = true := by decide +kernel
set_option maxRecDepth 65536 in
theorem w_heap : heapFits about1 = true := by decide +kernel
set_option maxRecDepth 65536 in
theorem w_runnable : about1.curStatus? = some .runnable := by decide +kernel
set_option maxRecDepth 65536 in
theorem w_alone : about1.alone = true := by decide +kernel
set_option maxRecDepth 65536 in
theorem w_named : about1.methodNamed? x = some theMethod := by decide +kernel
set_option maxRecDepth 65536 in
theorem w_hears : about1.hears theMethod below0 = true := by decide +kernel
set_option maxRecDepth 65536 in
theorem w_ripe : about1.ripe theMethod args0 below0 = true := by decide +kernel
theorem w_running : about1.status = .running := rfl
set_option maxRecDepth 65536 in
theorem w_room : about1.hasRoom e0.platform room_1 = true :=
  launch0.hasRoom_least _ room_1 (by decide +kernel) (by decide +kernel) (by decide +kernel) (by decide +kernel) (by decide +kernel) (by decide +kernel)
theorem allAtoms_all (ts : List Jvm.Cond) (a : Array Jvm.Value) (st : Jvm.State) : (allAtoms ts).before a st = ts.all (fun c => c.before a st) := by
  induction ts with
  | nil => rfl
  | cons c t ih =>
    show (Jvm.Cond.and c (allAtoms t)).before a st = _
    rw [Jvm.Cond.before_and, ih, List.all_cons]
def words1 : List Jvm.Cond := Jvm.Cond.code x code maxLocals ret :: tables_1
/-- a 'code' word, met by the world's own term for the bytes: nothing is compared byte by byte -/
theorem code_word {y : MethodName} {bytes : ByteArray} {mx : Nat} {rt : Option FieldType} {a : Array Value} {s : State} {m : MethodId} {meth : Method} {c : Code} (h1 : s.methodNamed? y = some m) (h2 : s.vm.method? m = some meth) (h3 : meth.code = some c) (h4 : c.code = bytes)
    (h5 : (c.maxLocals == mx && c.exceptionTable.isEmpty && decide (c.maxStack ≤ mostOperands) && decide (meth.sig.returnType = rt) && !meth.locks && decide (parseMethodDescriptor y.desc = some meth.sig)) = true) : (Jvm.Cond.code y bytes mx rt).before a s = true := by
  simp only [Bool.and_eq_true, beq_iff_eq, Bool.not_eq_true', decide_eq_true_eq] at h5
  obtain ⟨⟨⟨⟨⟨g1, g2⟩, g3⟩, g4⟩, g5⟩, g6⟩ := h5
  simp [Cond.before, Cond.holds, Cond.value, h1, h2, h3, h4, g1, g2, g3, g4, g5, g6]
def isCode : Jvm.Cond → Bool
  | .code _ _ _ _ => true
  | _ => false
theorem all_split {L : List Jvm.Cond} {P : Jvm.Cond → Bool} (h1 : L.all (fun c => isCode c || P c) = true) (h2 : ∀ c ∈ L.filter isCode, P c = true) : L.all P = true := by
  refine List.all_eq_true.mpr fun c hc => ?_
  have h := List.all_eq_true.mp h1 c hc
  rcases Bool.eq_false_or_eq_true (isCode c) with hi | hi
  · exact h2 c (List.mem_filter.mpr ⟨hc, hi⟩)
  · simpa [hi] using h
set_option maxRecDepth 65536 in
theorem w_c0 : (Jvm.Cond.code x code maxLocals ret).before args0 about1 = true := code_word (m := ⟨1, 1⟩) (meth := k1m1) (c := k1c1) (by decide +kernel) rfl rfl rfl (by decide +kernel)
set_option maxRecDepth 65536 in
theorem w_c1 : (Jvm.Cond.code ({ cls := "java/lang/String", name := "<init>", desc := "([C)V" } : Jvm.MethodName) jdk_42_method_3_code (2 : Nat) (Option.none : Option Jvm.ClassFile.FieldType)).before args0 about1 = true := code_word (m := ⟨7, 1⟩) (meth := k7m1) (c := k7c1) (by decide +kernel) rfl rfl rfl (by decide +kernel)
set_option maxRecDepth 65536 in
theorem w_c2 : (Jvm.Cond.code ({ cls := "java/lang/String", name := "<init>", desc := "([CIILjava/lang/Void;)V" } : Jvm.MethodName) jdk_42_method_149_code (6 : Nat) (Option.none : Option Jvm.ClassFile.FieldType)).before args0 about1 = true := code_word (m := ⟨7, 3⟩) (meth := k7m3) (c := k7c3) (by decide +kernel) rfl rfl rfl (by decide +kernel)
set_option maxRecDepth 65536 in
theorem w_c3 : (Jvm.Cond.code ({ cls := "java/lang/Object", name := "<init>", desc := "()V" } : Jvm.MethodName) object_method_1_code (1 : Nat) (Option.none : Option Jvm.ClassFile.FieldType)).before args0 about1 = true := code_word (m := ⟨0, 0⟩) (meth := k0m0) (c := k0c0) (by decide +kernel) rfl rfl rfl (by decide +kernel)
set_option maxRecDepth 65536 in
theorem w_c4 : (Jvm.Cond.code ({ cls := "com/example/sachfeld/sachfeld/SubjectField$Layout", name := "<init>", desc := "(Ljava/util/Map;Ljava/lang/String;Lcom/example/sachfeld/sachfeld/Rule;Z)V" } : Jvm.MethodName) prog_46_method_1_code (5 : Nat) (Option.none : Option Jvm.ClassFile.FieldType)).before args0 about1 = true := code_word (m := ⟨11, 0⟩) (meth := k11m0) (c := k11c0) (by decide +kernel) rfl rfl rfl (by decide +kernel)
set_option maxRecDepth 65536 in
theorem w_c5 : (Jvm.Cond.code ({ cls := "java/lang/Record", name := "<init>", desc := "()V" } : Jvm.MethodName) jdk_30_method_1_code (1 : Nat) (Option.none : Option Jvm.ClassFile.FieldType)).before args0 about1 = true := code_word (m := ⟨10, 0⟩) (meth := k10m0) (c := k10c0) (by decide +kernel) rfl rfl rfl (by decide +kernel)
set_option maxRecDepth 65536 in
theorem w_c6 : (Jvm.Cond.code ({ cls := "com/example/sachfeld/sachfeld/SubjectField$Layout", name := "recordsProvenance", desc := "()Z" } : Jvm.MethodName) prog_46_method_2_code (1 : Nat) (Option.some Jvm.ClassFile.FieldType.boolean)).before args0 about1 = true := code_word (m := ⟨11, 1⟩) (meth := k11m1) (c := k11c1) (by decide +kernel) rfl rfl rfl (by decide +kernel)
set_option maxRecDepth 65536 in
theorem w_c7 : (Jvm.Cond.code ({ cls := "java/lang/String", name := "isEmpty", desc := "()Z" } : Jvm.MethodName) jdk_42_method_55_code (1 : Nat) (Option.some Jvm.ClassFile.FieldType.boolean)).before args0 about1 = true := code_word (m := ⟨7, 2⟩) (meth := k7m2) (c := k7c2) (by decide +kernel) rfl rfl rfl (by decide +kernel)
set_option maxRecDepth 65536 in
theorem w_c8 : (Jvm.Cond.code ({ cls := "java/lang/StringUTF16", name := "compress", desc := "([CII)[B" } : Jvm.MethodName) jdk_52_method_16_code (6 : Nat) (Option.some (Jvm.ClassFile.FieldType.array Jvm.ClassFile.FieldType.byte))).before args0 about1 = true := code_word (m := ⟨12, 2⟩) (meth := k12m2) (c := k12c2) (by decide +kernel) rfl rfl rfl (by decide +kernel)
set_option maxRecDepth 65536 in
theorem w_c9 : (Jvm.Cond.code ({ cls := "java/lang/StringUTF16", name := "compress", desc := "([CI[BII)I" } : Jvm.MethodName) jdk_52_method_21_code (7 : Nat) (Option.some Jvm.ClassFile.FieldType.int)).before args0 about1 = true := code_word (m := ⟨12, 3⟩) (meth := k12m3) (c := k12c3) (by decide +kernel) rfl rfl rfl (by decide +kernel)
set_option maxRecDepth 65536 in
theorem w_c10 : (Jvm.Cond.code ({ cls := "java/lang/StringUTF16", name := "coderFromArrayLen", desc := "([BI)B" } : Jvm.MethodName) jdk_52_method_15_code (2 : Nat) (Option.some Jvm.ClassFile.FieldType.byte)).before args0 about1 = true := code_word (m := ⟨12, 1⟩) (meth := k12m1) (c := k12c1) (by decide +kernel) rfl rfl rfl (by decide +kernel)
def codes1 : List Jvm.Cond := [Jvm.Cond.code x code maxLocals ret, Jvm.Cond.code ({ cls := "java/lang/String", name := "<init>", desc := "([C)V" } : Jvm.MethodName) jdk_42_method_3_code (2 : Nat) (Option.none : Option Jvm.ClassFile.FieldType), Jvm.Cond.code ({ cls := "java/lang/String", name := "<init>", desc := "([CIILjava/lang/Void;)V" } : Jvm.MethodName) jdk_42_method_149_code (6 : Nat) (Option.none : Option Jvm.ClassFile.FieldType), Jvm.Cond.code ({ cls := "java/lang/Object", name := "<init>", desc := "()V" } : Jvm.MethodName) object_method_1_code (1 : Nat) (Option.none : Option Jvm.ClassFile.FieldType), Jvm.Cond.code ({ cls := "com/example/sachfeld/sachfeld/SubjectField$Layout", name := "<init>", desc := "(Ljava/util/Map;Ljava/lang/String;Lcom/example/sachfeld/sachfeld/Rule;Z)V" } : Jvm.MethodName) prog_46_method_1_code (5 : Nat) (Option.none : Option Jvm.ClassFile.FieldType), Jvm.Cond.code ({ cls := "java/lang/Record", name := "<init>", desc := "()V" } : Jvm.MethodName) jdk_30_method_1_code (1 : Nat) (Option.none : Option Jvm.ClassFile.FieldType), Jvm.Cond.code ({ cls := "com/example/sachfeld/sachfeld/SubjectField$Layout", name := "recordsProvenance", desc := "()Z" } : Jvm.MethodName) prog_46_method_2_code (1 : Nat) (Option.some Jvm.ClassFile.FieldType.boolean), Jvm.Cond.code ({ cls := "java/lang/String", name := "isEmpty", desc := "()Z" } : Jvm.MethodName) jdk_42_method_55_code (1 : Nat) (Option.some Jvm.ClassFile.FieldType.boolean), Jvm.Cond.code ({ cls := "java/lang/StringUTF16", name := "compress", desc := "([CII)[B" } : Jvm.MethodName) jdk_52_method_16_code (6 : Nat) (Option.some (Jvm.ClassFile.FieldType.array Jvm.ClassFile.FieldType.byte)), Jvm.Cond.code ({ cls := "java/lang/StringUTF16", name := "compress", desc := "([CI[BII)I" } : Jvm.MethodName) jdk_52_method_21_code (7 : Nat) (Option.some Jvm.ClassFile.FieldType.int), Jvm.Cond.code ({ cls := "java/lang/StringUTF16", name := "coderFromArrayLen", desc := "([BI)B" } : Jvm.MethodName) jdk_52_method_15_code (2 : Nat) (Option.some Jvm.ClassFile.FieldType.byte)]
set_option maxRecDepth 65536 in
theorem codes_eq : words1.filter isCode = codes1 := rfl
theorem w_codes : ∀ c ∈ words1.filter isCode, c.before args0 about1 = true := by
  rw [codes_eq]
  intro c hc
  simp only [codes1, List.mem_cons, List.not_mem_nil, or_false] at hc
  rcases hc with rfl | rfl | rfl | rfl | rfl | rfl | rfl | rfl | rfl | rfl | rfl
  · exact w_c0
  · exact w_c1
  · exact w_c2
  · exact w_c3
  · exact w_c4
  · exact w_c5
  · exact w_c6
  · exact w_c7
  · exact w_c8
  · exact w_c9
  · exact w_c10
set_option maxRecDepth 65536 in
theorem w_t1 : (words1.take 24).all (fun c => isCode c || c.before args0 about1) = true := by decide +kernel
set_option maxRecDepth 65536 in
theorem w_t2 : ((words1.drop 24).take 24).all (fun c => isCode c || c.before args0 about1) = true := by decide +kernel
set_option maxRecDepth 65536 in
theorem w_t3 : ((words1.drop 24).drop 24).all (fun c => isCode c || c.before args0 about1) = true := by decide +kernel
theorem w_tables : (allAtoms (Jvm.Cond.code x code maxLocals ret :: tables_1)).before args0 about1 = true := by
  rw [allAtoms_all]
  show words1.all (fun c => c.before args0 about1) = true
  refine all_split ?_ w_codes
  rw [← List.take_append_drop 24 words1, List.all_append, w_t1, ← List.take_append_drop 24 (words1.drop 24), List.all_append, w_t2, w_t3]
  rfl
set_option maxRecDepth 65536 in
theorem w_rest : rest_1_c.before args0 about1 = true := by decide +kernel
set_option maxRecDepth 65536 in
theorem w_case : (Jvm.Cond.and given_1 narrow_1).before args0 about1 = true := by decide +kernel
set_option maxRecDepth 65536 in
theorem w_consts : constsHeld consts_1 about1 := Jvm.Lit.constsHeldB_iff.mp (by decide +kernel)
theorem w_applies : (headSpec (Jvm.Cond.code x code maxLocals ret :: tables_1) room_1).applies x e0.platform about1 = true :=
  (Spec.applies_iff w_frames).mpr ⟨w_running, w_runnable, w_alone, w_named, w_hears, w_ripe, w_room, w_tables⟩
theorem atStart : AtStart classFile x code maxLocals ret World_1 tables_1 room_1 Calls_1 rest_1 Pre_1 launch0 p0 e0 about1 theMethod args0 below0 :=
  ⟨lists_1, trivial, launch0.admits_env _ _ _, launch0.least_env, fairChoices_fair.cas, fairChoices_fair.clock, w_frames, w_args, w_heap, w_applies, ⟨w_consts, trivial⟩, w_rest, w_case⟩
end start1
theorem witness_1 : WitnessClaimed_1 := ⟨start1.p0, start1.e0, start1.about1, start1.theMethod, start1.args0, start1.below0, start1.atStart⟩
end Jvm.Pilot.@@N@@
