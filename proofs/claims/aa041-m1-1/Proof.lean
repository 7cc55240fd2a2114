import JvmDerived
import JvmDerived.Pilot.@@N@@Statement
import JvmDerived.Pilot.@@N@@Code
set_option linter.unusedVariables false
set_option linter.unusedSimpArgs false
@@BLOCK:NumsL.lean.txt@@
/- laws to paste: Road.backV, Road.eqW, Road.codOf (cut by pick.py; bodies as the Statement names them) -/
namespace Jvm.Pilot.@@N@@
namespace StrChars
open Jvm Sem ClassFile Op Lib Jvm.Stand Jvm.Free.XT Jvm.Free.ALB Jvm.Free.JM Jvm.Free
open Jvm.Lib.Cold (StaticIs)
/-- a char array whose places are chars -/
def Ch (a : Addr) (A : Cell) (U : State) : Prop := Arr .char a A U ∧ Typed .char A
theorem Ch.mv {a : Addr} {A : Cell} {U U' : State} (h : Ch a A U) (hal : U.vm.Alike U'.vm) (hh : U'.heap = U.heap) : Ch a A U' := ⟨h.1.mv hal hh, h.2⟩
theorem Ch.keep {a : Addr} {A : Cell} {U U' : State} (h : Ch a A U) (hal : U.vm.Alike U'.vm) (hk : U'.heap[a]? = some A) : Ch a A U' := ⟨h.1.keep hal hk, h.2⟩
/-- what place i of a char[]'s cell holds -/
def cv (A : Cell) (i : Nat) : Int32 := match A.slots[i]? with | some (.int x) => x | _ => 0
theorem Ch.get {a : Addr} {A : Cell} {U : State} (h : Ch a A U) {i : Nat} (hi : i < A.slots.size) : A.slots[i]? = some (.int (cv A i)) := by
  have e := Array.getElem?_eq_getElem hi
  have f := h.2 i _ e
  unfold cv; rw [e]
  generalize A.slots[i] = v at f
  cases v <;> simp [fits] at f ⊢
/-- the byte that i2b leaves of a char -/
def lo8 (x : Int32) : Int32 := x.toInt8.toInt32
theorem fits_lo8 (y : Int32) : fits .byte (.int (lo8 y)) = true := by
  have h1 := y.toInt8.le_toInt
  have h2 := y.toInt8.toInt_lt
  simp only [lo8, fits, Bool.and_eq_true, decide_eq_true_eq, Int32.le_iff_toInt_le, Int8.toInt_toInt32, show (-128 : Int32).toInt = -128 from by decide, show (127 : Int32).toInt = 127 from by decide]
  omega
/-- A' is A but that each place j of lo .. hi - 1 holds f j -/
def Laid (A A' : Cell) (lo hi : Nat) (f : Nat → Value) : Prop := A'.cls = A.cls ∧ A'.vm = A.vm ∧ A'.slots.size = A.slots.size ∧ ∀ i, A'.slots[i]? = if lo ≤ i ∧ i < hi then some (f i) else A.slots[i]?
theorem Laid.zero (A : Cell) (lo : Nat) (f : Nat → Value) : Laid A A lo (lo + 0) f := ⟨rfl, rfl, rfl, fun i => by rw [if_neg (by omega)]⟩
theorem Laid.step {A Ak : Cell} {lo k : Nat} {f : Nat → Value} {v : Value} (h : Laid A Ak lo k f) (hlo : lo ≤ k) (hk : k < Ak.slots.size) (hv : v = f k) : Laid A (Ak.setSlot k v) lo (k + 1) f := by
  refine ⟨h.1, h.2.1, by simpa [Cell.setSlot] using h.2.2.1, fun i => ?_⟩
  by_cases e : k = i
  · subst e; rw [Cell.slots_setSlot_self v hk, if_pos (by omega), hv]
  · rw [Cell.slots_setSlot_ne v e, h.2.2.2 i]
    by_cases q : lo ≤ i ∧ i < k
    · rw [if_pos q, if_pos (by omega)]
    · rw [if_neg q, if_neg (by omega)]
def U16 : String := "java/lang/StringUTF16"
namespace Cmp5
def yN : MethodName := ⟨"java/lang/StringUTF16", "compress", "([CI[BII)I"⟩
abbrev yB : ByteArray := jdk_52_method_21_code
theorem d0 : decode yB 0 = .ok (.iconst 0, 1) := by decide +kernel
theorem d1 : decode yB 1 = .ok (.istore 5, 2) := by decide +kernel
theorem d3 : decode yB 3 = .ok (.iload 5, 2) := by decide +kernel
theorem d5 : decode yB 5 = .ok (.iload 4, 2) := by decide +kernel
theorem d7 : decode yB 7 = .ok (.if_icmp (.ge) 37, 3) := by decide +kernel
theorem d10 : decode yB 10 = .ok (.aload_n 0, 1) := by decide +kernel
theorem d11 : decode yB 11 = .ok (.iload_n 1, 1) := by decide +kernel
theorem d12 : decode yB 12 = .ok (.caload, 1) := by decide +kernel
theorem d13 : decode yB 13 = .ok (.istore 6, 2) := by decide +kernel
theorem d15 : decode yB 15 = .ok (.iload 6, 2) := by decide +kernel
theorem d17 : decode yB 17 = .ok (.sipush 255, 3) := by decide +kernel
theorem d20 : decode yB 20 = .ok (.if_icmp (.le) 6, 3) := by decide +kernel
theorem d26 : decode yB 26 = .ok (.aload_n 2, 1) := by decide +kernel
theorem d27 : decode yB 27 = .ok (.iload_n 3, 1) := by decide +kernel
theorem d28 : decode yB 28 = .ok (.iload 6, 2) := by decide +kernel
theorem d30 : decode yB 30 = .ok (.i2b, 1) := by decide +kernel
theorem d31 : decode yB 31 = .ok (.bastore, 1) := by decide +kernel
theorem d32 : decode yB 32 = .ok (.iinc 1 1, 3) := by decide +kernel
theorem d35 : decode yB 35 = .ok (.iinc 3 1, 3) := by decide +kernel
theorem d38 : decode yB 38 = .ok (.iinc 5 1, 3) := by decide +kernel
theorem d41 : decode yB 41 = .ok (.goto (-38), 3) := by decide +kernel
theorem d44 : decode yB 44 = .ok (.iload 4, 2) := by decide +kernel
theorem d46 : decode yB 46 = .ok (.ireturn, 1) := by decide +kernel
def site : List Cond := []
def tab : Cond := tabOf yN yB 7 (some .int) site
def P (b : Addr) (A : Cell) (d : Addr) (B : Cell) (o q len : Nat) (args : Array Value) (s : State) : Prop := args = #[.ref b, .int (Int32.ofNat o), .ref d, .int (Int32.ofNat q), .int (Int32.ofNat len)] ∧ Ch b A s ∧ Arr .byte d B s ∧ b ≠ d ∧ o + len ≤ A.slots.size ∧ q + len ≤ B.slots.size ∧ ∀ i, i < len → ¬ 255 < cv A (o + i)
def E (b : Addr) (A : Cell) (d : Addr) (B : Cell) (o q len : Nat) (r : Option Value) (s u : State) : Prop := r = some (.int (Int32.ofNat len)) ∧ ∃ B', Put d B' s u ∧ Laid B B' q (q + len) (fun j => Value.int (lo8 (cv A (o + (j - q)))))
/-- no char of the range above 255: len; the places written hold each char's low byte -/
theorem law (l : Launch) (b : Addr) (A : Cell) (d : Addr) (B : Cell) (o q len : Nat) : Law l yN 5 5 0 0 yB 7 (some .int) site (P b A d B o q len) (E b A d B o q len) (copyLocs d q len) 0 0 := by
  refine Law.of_walk (plainFor_of_name (by decide +kernel)) (by decide +kernel) (by decide +kernel) (by decide) (fun _ _ h => by rw [h.1]; rfl) (fun _ U U' hal hh h => ⟨h.1, h.2.1.mv hal hh, h.2.2.1.mv hal hh, h.2.2.2⟩) (fun r U U' V V' h1 hal h2 h => ⟨h.1, h.2.elim fun B' q => ⟨B', q.1.mv h1 h2, q.2⟩⟩) ?_
  intro p e s m args below meth c s₁ X0 hexec hbytes hml hret hlk hnm hown hh0 W hP
  obtain ⟨rfl, hA, hB, hne, l1, l2, hp⟩ := hP
  have c1 : Steps p.tables e below (s₁.setTop (entryFrame m #[.ref b, .int (Int32.ofNat o), .ref d, .int (Int32.ofNat q), .int (Int32.ofNat len)] 7)) (s₁.setTop (mkF m 0 #[.val (.ref b), .val (.int (Int32.ofNat o)), .val (.ref d), .val (.int (Int32.ofNat q)), .val (.int (Int32.ofNat len)), .unset, .unset] [])) := entry rfl
  have hA0 := hA.1.mv X0.warmed.alike hh0
  have hB0 := hB.mv X0.warmed.alike hh0
  have a31 := hA.1.2.2.2
  have c2 : Steps p.tables e below (s₁.setTop (entryFrame m #[.ref b, .int (Int32.ofNat o), .ref d, .int (Int32.ofNat q), .int (Int32.ofNat len)] 7)) (s₁.setTop (mkF m 3 #[.val (.ref b), .val (.int (Int32.ofNat o)), .val (.ref d), .val (.int (Int32.ofNat q)), .val (.int (Int32.ofNat len)), .val (.int 0), .unset] [])) := c1.trans (by
    refine iconstV X0.here hexec rfl 0 (hb hbytes d0) (by decide) ?_
    refine XS.istore X0.here hexec rfl (hb hbytes d1) rfl rfl ?_
    exact Steps.refl _)
  have loop : ∀ (r i : Nat), i + r = len → ∀ (z : Slot), (z = .unset ∨ ∃ w, z = .val w ∧ w.category = 1) → ∀ (Tl : State) (Bk : Cell), Stand p l e { frames := 0, locals := 0, cells := 0, slots := 0 } s m #[.ref b, .int (Int32.ofNat o), .ref d, .int (Int32.ofNat q), .int (Int32.ofNat len)] below meth c Tl ([] ++ copyLocs d q i) 0 0 → Put d Bk s₁ Tl → Laid B Bk q (q + i) (fun j => Value.int (lo8 (cv A (o + (j - q))))) →
      Steps p.tables e below (s₁.setTop (entryFrame m #[.ref b, .int (Int32.ofNat o), .ref d, .int (Int32.ofNat q), .int (Int32.ofNat len)] 7)) (Tl.setTop (mkF m 3 #[.val (.ref b), .val (.int (Int32.ofNat (o + i))), .val (.ref d), .val (.int (Int32.ofNat (q + i))), .val (.int (Int32.ofNat len)), .val (.int (Int32.ofNat i)), z] [])) → ∃ (T' : State) (B' : Cell) (z' : Slot), Stand p l e { frames := 0, locals := 0, cells := 0, slots := 0 } s m #[.ref b, .int (Int32.ofNat o), .ref d, .int (Int32.ofNat q), .int (Int32.ofNat len)] below meth c T' ([] ++ copyLocs d q len) 0 0 ∧ Put d B' s₁ T' ∧ Laid B B' q (q + len) (fun j => Value.int (lo8 (cv A (o + (j - q))))) ∧
      Steps p.tables e below (s₁.setTop (entryFrame m #[.ref b, .int (Int32.ofNat o), .ref d, .int (Int32.ofNat q), .int (Int32.ofNat len)] 7)) (T'.setTop (mkF m 3 #[.val (.ref b), .val (.int (Int32.ofNat (o + len))), .val (.ref d), .val (.int (Int32.ofNat (q + len))), .val (.int (Int32.ofNat len)), .val (.int (Int32.ofNat len)), z'] [])) := by
    intro r
    induction r with
    | zero =>
      intro i hi z hz Tl Bk Xl pl fl cl
      have hil : i = len := by omega
      rw [hil] at Xl fl cl
      exact ⟨Tl, Bk, z, Xl, pl, fl, cl⟩
    | succ r ih =>
      intro i hi z hz Tl Bk Xl pl fl cl
      have all := X0.warmed.alike.symm.trans Xl.warmed.alike
      have hAl := hA0.keep all (pl.other hne hA0.1)
      have hBk := hB0.like all pl.1 fl.1 fl.2.1 fl.2.2.1
      have hlt : q + i < Bk.slots.size := by rw [fl.2.2.1]; omega
      have c3 : Steps p.tables e below (s₁.setTop (entryFrame m #[.ref b, .int (Int32.ofNat o), .ref d, .int (Int32.ofNat q), .int (Int32.ofNat len)] 7)) (Tl.setTop (mkF m 12 #[.val (.ref b), .val (.int (Int32.ofNat (o + i))), .val (.ref d), .val (.int (Int32.ofNat (q + i))), .val (.int (Int32.ofNat len)), .val (.int (Int32.ofNat i)), z] [.int (Int32.ofNat (o + i)), .ref b])) := cl.trans (by
        refine XS.iload Xl.here hexec rfl (hb hbytes d3) rfl ?_
        refine XS.iload Xl.here hexec rfl (hb hbytes d5) rfl ?_
        refine XS.icmpNo Xl.here hexec rfl (hb hbytes d7) rfl (ii_ge_f (lt32 (by omega) (by omega))) ?_
        refine XS.aloadN Xl.here hexec rfl (hb hbytes d10) rfl rfl ?_
        refine XS.iloadN Xl.here hexec rfl (hb hbytes d11) rfl ?_
        exact Steps.refl _)
      have c4 : Steps p.tables e below (s₁.setTop (entryFrame m #[.ref b, .int (Int32.ofNat o), .ref d, .int (Int32.ofNat q), .int (Int32.ofNat len)] 7)) (Tl.setTop (mkF m 13 #[.val (.ref b), .val (.int (Int32.ofNat (o + i))), .val (.ref d), .val (.int (Int32.ofNat (q + i))), .val (.int (Int32.ofNat len)), .val (.int (Int32.ofNat i)), z] [.int (cv A (o + i))])) := c3.trans (by
        refine Xl.aget hexec hAl rfl (hA.get (i := o + i) (by omega)) rfl rfl (hb hbytes d12) ?_
        exact Steps.refl _)
      have c5 : Steps p.tables e below (s₁.setTop (entryFrame m #[.ref b, .int (Int32.ofNat o), .ref d, .int (Int32.ofNat q), .int (Int32.ofNat len)] 7)) (Tl.setTop (mkF m 15 #[.val (.ref b), .val (.int (Int32.ofNat (o + i))), .val (.ref d), .val (.int (Int32.ofNat (q + i))), .val (.int (Int32.ofNat len)), .val (.int (Int32.ofNat i)), .val (.int (cv A (o + i)))] [])) := c4.trans (by
        refine XS.istoreS Xl.here hexec rfl (hb hbytes d13) rfl rfl hz ?_
        exact Steps.refl _)
      have c6 : Steps p.tables e below (s₁.setTop (entryFrame m #[.ref b, .int (Int32.ofNat o), .ref d, .int (Int32.ofNat q), .int (Int32.ofNat len)] 7)) (Tl.setTop (mkF m 31 #[.val (.ref b), .val (.int (Int32.ofNat (o + i))), .val (.ref d), .val (.int (Int32.ofNat (q + i))), .val (.int (Int32.ofNat len)), .val (.int (Int32.ofNat i)), .val (.int (cv A (o + i)))] [.int (lo8 (cv A (o + i))), .int (Int32.ofNat (q + i)), .ref d])) := c5.trans (by
        refine XS.iload Xl.here hexec rfl (hb hbytes d15) rfl ?_
        refine sipushV Xl.here hexec rfl 255 (hb hbytes d17) (by decide) ?_
        refine XS.icmpYes Xl.here hexec rfl (pc0 := 20) rfl (hb hbytes d20) rfl (ii_le_t (hp i (by omega))) (by decide) rfl ?_
        refine XS.aloadN Xl.here hexec rfl (hb hbytes d26) rfl rfl ?_
        refine XS.iloadN Xl.here hexec rfl (hb hbytes d27) rfl ?_
        refine XS.iload Xl.here hexec rfl (hb hbytes d28) rfl ?_
        refine i2b Xl.here hexec rfl (hb hbytes d30) rfl ?_
        exact Steps.refl _)
      obtain ⟨T7, X7, p7, st7⟩ := Xl.aput hexec hBk rfl hlt rfl (fits_lo8 (cv A (o + i))) (g := (mkF m 31 #[.val (.ref b), .val (.int (Int32.ofNat (o + i))), .val (.ref d), .val (.int (Int32.ofNat (q + i))), .val (.int (Int32.ofNat len)), .val (.int (Int32.ofNat i)), .val (.int (cv A (o + i)))] [.int (lo8 (cv A (o + i))), .int (Int32.ofNat (q + i)), .ref d])) rfl (rest := []) rfl (hb hbytes d31)
      have c8 : Steps p.tables e below (s₁.setTop (entryFrame m #[.ref b, .int (Int32.ofNat o), .ref d, .int (Int32.ofNat q), .int (Int32.ofNat len)] 7)) (T7.setTop (mkF m 32 #[.val (.ref b), .val (.int (Int32.ofNat (o + i))), .val (.ref d), .val (.int (Int32.ofNat (q + i))), .val (.int (Int32.ofNat len)), .val (.int (Int32.ofNat i)), .val (.int (cv A (o + i)))] [])) := c6.trans (st7 _ (Steps.refl _))
      have c9 : Steps p.tables e below (s₁.setTop (entryFrame m #[.ref b, .int (Int32.ofNat o), .ref d, .int (Int32.ofNat q), .int (Int32.ofNat len)] 7)) (T7.setTop (mkF m 3 #[.val (.ref b), .val (.int (Int32.ofNat (o + i) + 1)), .val (.ref d), .val (.int (Int32.ofNat (q + i) + 1)), .val (.int (Int32.ofNat len)), .val (.int (Int32.ofNat i + 1)), .val (.int (cv A (o + i)))] [])) := c8.trans (by
        refine iincV X7.here hexec rfl 1 (hb hbytes d32) (by decide) rfl rfl ?_
        refine iincV X7.here hexec rfl 1 (hb hbytes d35) (by decide) rfl rfl ?_
        refine iincV X7.here hexec rfl 1 (hb hbytes d38) (by decide) rfl rfl ?_
        refine XS.goto X7.here hexec rfl (pc0 := 41) rfl (hb hbytes d41) (by decide) rfl ?_
        exact Steps.refl _)
      have c10 : Steps p.tables e below (s₁.setTop (entryFrame m #[.ref b, .int (Int32.ofNat o), .ref d, .int (Int32.ofNat q), .int (Int32.ofNat len)] 7)) (T7.setTop (mkF m 3 #[.val (.ref b), .val (.int (Int32.ofNat (o + (i + 1)))), .val (.ref d), .val (.int (Int32.ofNat (q + (i + 1)))), .val (.int (Int32.ofNat len)), .val (.int (Int32.ofNat (i + 1))), .val (.int (cv A (o + i)))] [])) := by
        have := c9
        rw [succ32, succ32, succ32] at this
        exact this
      exact ih (i + 1) (by omega) _ (Or.inr ⟨_, rfl, rfl⟩) T7 _ (by rw [copyLocs_step, ← List.append_assoc]; exact X7) (pl.trans p7) (fl.step (by omega) hlt (by simp)) c10
  obtain ⟨T9, B9, z9, X9, p9, f9, g9⟩ := loop len 0 (by omega) .unset (Or.inl rfl) s₁ B (by simpa [copyLocs] using X0) ⟨hB0.1, fun _ _ => rfl, rfl⟩ (Laid.zero _ _ _) c2
  have c11 : Steps p.tables e below (s₁.setTop (entryFrame m #[.ref b, .int (Int32.ofNat o), .ref d, .int (Int32.ofNat q), .int (Int32.ofNat len)] 7)) (T9.setTop (mkF m 46 #[.val (.ref b), .val (.int (Int32.ofNat (o + len))), .val (.ref d), .val (.int (Int32.ofNat (q + len))), .val (.int (Int32.ofNat len)), .val (.int (Int32.ofNat len)), z9] [.int (Int32.ofNat len)])) := g9.trans (by
    refine XS.iload X9.here hexec rfl (hb hbytes d3) rfl ?_
    refine XS.iload X9.here hexec rfl (hb hbytes d5) rfl ?_
    refine XS.icmpYes X9.here hexec rfl (pc0 := 7) rfl (hb hbytes d7) rfl (ii_ge_t (nlt32 (by omega) (Nat.le_refl _))) (by decide) rfl ?_
    refine XS.iload X9.here hexec rfl (hb hbytes d44) rfl ?_
    exact Steps.refl _)
  exact ⟨T9, some (.int (Int32.ofNat len)), _, _, _, X9, by simp, rfl, rfl, (fun h => by cases h), ⟨rfl, B9, p9.from hh0, f9⟩, fun fs hl => c11.trans (X9.ireturnOut hexec hret rfl (Or.inl rfl) (hb hbytes d46) hl)⟩
end Cmp5
namespace Cmp3
def yN : MethodName := ⟨"java/lang/StringUTF16", "compress", "([CII)[B"⟩
abbrev yB : ByteArray := jdk_52_method_16_code
theorem d0 : decode yB 0 = .ok (.iload_n 2, 1) := by decide +kernel
theorem d1 : decode yB 1 = .ok (.newarray .byte, 2) := by decide +kernel
theorem d3 : decode yB 3 = .ok (.astore_n 3, 1) := by decide +kernel
theorem d4 : decode yB 4 = .ok (.aload_n 0, 1) := by decide +kernel
theorem d5 : decode yB 5 = .ok (.iload_n 1, 1) := by decide +kernel
theorem d6 : decode yB 6 = .ok (.aload_n 3, 1) := by decide +kernel
theorem d7 : decode yB 7 = .ok (.iconst 0, 1) := by decide +kernel
theorem d8 : decode yB 8 = .ok (.iload_n 2, 1) := by decide +kernel
theorem d9 : decode yB 9 = .ok (.invokestatic 115, 3) := by decide +kernel
theorem d12 : decode yB 12 = .ok (.istore 4, 2) := by decide +kernel
theorem d14 : decode yB 14 = .ok (.iload 4, 2) := by decide +kernel
theorem d16 : decode yB 16 = .ok (.iload_n 2, 1) := by decide +kernel
theorem d17 : decode yB 17 = .ok (.if_icmp (.eq) 40, 3) := by decide +kernel
theorem d57 : decode yB 57 = .ok (.aload_n 3, 1) := by decide +kernel
theorem d58 : decode yB 58 = .ok (.areturn, 1) := by decide +kernel
def site : List Cond := [.arrayClass .byte, Cmp5.tab] ++ staticW U16 115 Cmp5.yN
def tab : Cond := tabOf yN yB 6 (some (.array .byte)) site
def P (b : Addr) (A : Cell) (o len : Nat) (args : Array Value) (s : State) : Prop := args = #[.ref b, .int (Int32.ofNat o), .int (Int32.ofNat len)] ∧ Ch b A s ∧ o + len ≤ A.slots.size ∧ len ≤ 536870912 ∧ ∀ i, i < len → ¬ 255 < cv A (o + i)
def E (b : Addr) (A : Cell) (o len : Nat) (r : Option Value) (s u : State) : Prop := NewArr .byte "[B" len (fun j => .int (lo8 (cv A (o + j)))) r s u ∧ u.heap.size = s.heap.size + 1
/-- no char of the range above 255: a new byte[] of their low bytes -/
theorem law (l : Launch) (b : Addr) (A : Cell) (o len : Nat) : Law l yN 3 3 1 18 yB 6 (some (.array .byte)) site (P b A o len) (E b A o len) [] 1 len := by
  refine Law.of_walk (plainFor_of_name (by decide +kernel)) (by decide +kernel) (by decide +kernel) (by decide) (fun _ _ h => by rw [h.1]; rfl) (fun _ U U' hal hh h => ⟨h.1, h.2.1.mv hal hh, h.2.2⟩) (fun r U U' V V' h1 hal h2 h => ⟨NewArr.mv r U U' V V' h1 hal h2 h.1, by rw [h1, h2]; exact h.2⟩) ?_
  intro p e s m args below meth c s₁ X0 hexec hbytes hml hret hlk hnm hown hh0 W hP
  obtain ⟨rfl, hA, l1, l2, hp⟩ := hP
  have a31 := hA.1.2.2.2
  have c1 : Steps p.tables e below (s₁.setTop (entryFrame m #[.ref b, .int (Int32.ofNat o), .int (Int32.ofNat len)] 6)) (s₁.setTop (mkF m 0 #[.val (.ref b), .val (.int (Int32.ofNat o)), .val (.int (Int32.ofNat len)), .unset, .unset, .unset] [])) := entry rfl
  have c2 : Steps p.tables e below (s₁.setTop (entryFrame m #[.ref b, .int (Int32.ofNat o), .int (Int32.ofNat len)] 6)) (s₁.setTop (mkF m 1 #[.val (.ref b), .val (.int (Int32.ofNat o)), .val (.int (Int32.ofNat len)), .unset, .unset, .unset] [.int (Int32.ofNat len)])) := c1.trans (by
    refine XS.iloadN X0.here hexec rfl (hb hbytes d0) rfl ?_
    exact Steps.refl _)
  obtain ⟨T3, B3, X3, ba3, bs3, bv3, bh3, bf3, st3⟩ := X0.anew hexec (atype := .byte) (wk W (.arrayClass .byte)) rfl (by show len * 1 ≤ _; omega) (by omega) (g := (mkF m 1 #[.val (.ref b), .val (.int (Int32.ofNat o)), .val (.int (Int32.ofNat len)), .unset, .unset, .unset] [.int (Int32.ofNat len)])) rfl (hb hbytes d1) (rest := []) rfl (Nat.le_refl _) (by show 0 + len ≤ len; omega)
  rw [hh0] at ba3 st3
  have kp3 : XT.Kept s T3 := (XT.Kept.of_eq hh0).push bh3
  have hA3 := hA.keep X3.warmed.alike (kp3 _ _ hA.1.1)
  have hne : b ≠ s.heap.size := hA.1.ne
  have c4 : Steps p.tables e below (s₁.setTop (entryFrame m #[.ref b, .int (Int32.ofNat o), .int (Int32.ofNat len)] 6)) (T3.setTop (mkF m 3 #[.val (.ref b), .val (.int (Int32.ofNat o)), .val (.int (Int32.ofNat len)), .unset, .unset, .unset] [.ref s.heap.size])) := c2.trans (st3 _ (Steps.refl _))
  have c5 : Steps p.tables e below (s₁.setTop (entryFrame m #[.ref b, .int (Int32.ofNat o), .int (Int32.ofNat len)] 6)) (T3.setTop (mkF m 9 #[.val (.ref b), .val (.int (Int32.ofNat o)), .val (.int (Int32.ofNat len)), .val (.ref s.heap.size), .unset, .unset] [.int (Int32.ofNat len), .int 0, .ref s.heap.size, .int (Int32.ofNat o), .ref b])) := c4.trans (by
    refine XS.astoreN X3.here hexec rfl (hb hbytes d3) rfl rfl rfl ?_
    refine XS.aloadN X3.here hexec rfl (hb hbytes d4) rfl rfl ?_
    refine XS.iloadN X3.here hexec rfl (hb hbytes d5) rfl ?_
    refine XS.aloadN X3.here hexec rfl (hb hbytes d6) rfl rfl ?_
    refine iconstV X3.here hexec rfl 0 (hb hbytes d7) (by decide) ?_
    refine XS.iloadN X3.here hexec rfl (hb hbytes d8) rfl ?_
    exact Steps.refl _)
  obtain ⟨v6, T6, X6, E6, g6⟩ := X3.callS hexec (Cmp5.law l b A s.heap.size B3 o 0 len) hown (wks W (staticW U16 115 Cmp5.yN)) (wk W Cmp5.tab) (W := 0) (Nat.le_of_ble_eq_true rfl) (Nat.le_of_ble_eq_true rfl) (Nat.le_refl _) (by show 0 + len + 0 ≤ len; omega) (g := (mkF m 9 #[.val (.ref b), .val (.int (Int32.ofNat o)), .val (.int (Int32.ofNat len)), .val (.ref s.heap.size), .unset, .unset] [.int (Int32.ofNat len), .int (Int32.ofNat 0), .ref s.heap.size, .int (Int32.ofNat o), .ref b])) rfl (by rw [hml]; rfl) c5 (argsL := [.ref b, .int (Int32.ofNat o), .ref s.heap.size, .int (Int32.ofNat 0), .int (Int32.ofNat len)]) (rest := []) rfl rfl (by show 2 * 0 + 0 ≤ _; decide) (hb hbytes d9) (⟨rfl, hA3, ba3, hne, l1, by rw [bs3]; simp, hp⟩)
  obtain ⟨rfl, B6, p6, f6⟩ := E6
  have c7 : Steps p.tables e below (s₁.setTop (entryFrame m #[.ref b, .int (Int32.ofNat o), .int (Int32.ofNat len)] 6)) (T6.setTop (mkF m 12 #[.val (.ref b), .val (.int (Int32.ofNat o)), .val (.int (Int32.ofNat len)), .val (.ref s.heap.size), .unset, .unset] [.int (Int32.ofNat len)])) := g6
  have c8 : Steps p.tables e below (s₁.setTop (entryFrame m #[.ref b, .int (Int32.ofNat o), .int (Int32.ofNat len)] 6)) (T6.setTop (mkF m 58 #[.val (.ref b), .val (.int (Int32.ofNat o)), .val (.int (Int32.ofNat len)), .val (.ref s.heap.size), .val (.int (Int32.ofNat len)), .unset] [.ref s.heap.size])) := c7.trans (by
    refine XS.istore X6.here hexec rfl (hb hbytes d12) rfl rfl ?_
    refine XS.iload X6.here hexec rfl (hb hbytes d14) rfl ?_
    refine XS.iloadN X6.here hexec rfl (hb hbytes d16) rfl ?_
    refine XS.icmpYes X6.here hexec rfl (pc0 := 17) rfl (hb hbytes d17) rfl (ii_eq_t rfl) (by decide) rfl ?_
    refine XS.aloadN X6.here hexec rfl (hb hbytes d57) rfl rfl ?_
    exact Steps.refl _)
  have X8 := X6.wide (L' := []) (cells' := 1) (slots' := len) (fun x hx hlt => by
    simp only [List.nil_append, copyLocs, List.mem_map, List.mem_range] at hx
    obtain ⟨i, -, rfl⟩ := hx
    exact absurd hlt (Nat.lt_irrefl _)) (Nat.le_refl _) (by omega)
  exact ⟨T6, some (.ref s.heap.size), _, _, _, X8, rfl, rfl, rfl, (fun h => by cases h), ⟨⟨rfl, B6, ba3.like (X3.warmed.alike.symm.trans X6.warmed.alike) p6.1 f6.1 f6.2.1 f6.2.2.1, f6.2.1.trans bv3, by rw [X6.warmed.alike.findClass, f6.1]; exact bf3, by rw [f6.2.2.1, bs3]; simp, fun j hj => by rw [f6.2.2.2 j, if_pos (by omega)]; rfl, kp3.put p6 (Nat.le_refl _)⟩, by rw [p6.2.2, bh3, hh0]; simp⟩, fun fs hl => c8.trans (X8.areturnOut hexec rfl hret rfl (hb hbytes d58) hl)⟩
end Cmp3
namespace CodL
def yN : MethodName := ⟨"java/lang/StringUTF16", "coderFromArrayLen", "([BI)B"⟩
abbrev yB : ByteArray := jdk_52_method_15_code
theorem d0 : decode yB 0 = .ok (.iload_n 1, 1) := by decide +kernel
theorem d1 : decode yB 1 = .ok (.aload_n 0, 1) := by decide +kernel
theorem d2 : decode yB 2 = .ok (.arraylength, 1) := by decide +kernel
theorem d3 : decode yB 3 = .ok (.isub, 1) := by decide +kernel
theorem d4 : decode yB 4 = .ok (.bipush 31, 2) := by decide +kernel
theorem d6 : decode yB 6 = .ok (.iushr, 1) := by decide +kernel
theorem d7 : decode yB 7 = .ok (.i2b, 1) := by decide +kernel
theorem d8 : decode yB 8 = .ok (.ireturn, 1) := by decide +kernel
def site : List Cond := []
def tab : Cond := tabOf yN yB 2 (some .byte) site
def P (d : Addr) (B : Cell) (args : Array Value) (s : State) : Prop := args = #[.ref d, .int (Int32.ofNat B.slots.size)] ∧ Arr .byte d B s
def E (r : Option Value) (s u : State) : Prop := XT.PureE (some (.int 0)) r s u
/-- an array as long as the number of chars: LATIN1 -/
theorem law (l : Launch) (d : Addr) (B : Cell) : Law l yN 2 2 0 0 yB 2 (some .byte) site (P d B) E [] 0 0 := by
  refine Law.of_walk (plainFor_of_name (by decide +kernel)) (by decide +kernel) (by decide +kernel) (by decide) (fun _ _ h => by rw [h.1]; rfl) (fun _ U U' hal hh h => ⟨h.1, h.2.mv hal hh⟩) (fun r U U' V V' h1 hal h2 h => XT.PureE.mv r U U' V V' h1 hal h2 h) ?_
  intro p e s m args below meth c s₁ X0 hexec hbytes hml hret hlk hnm hown hh0 W hP
  obtain ⟨rfl, hB⟩ := hP
  have hB0 := hB.mv X0.warmed.alike hh0
  have c1 : Steps p.tables e below (s₁.setTop (entryFrame m #[.ref d, .int (Int32.ofNat B.slots.size)] 2)) (s₁.setTop (mkF m 0 #[.val (.ref d), .val (.int (Int32.ofNat B.slots.size))] [])) := entry rfl
  have c2 : Steps p.tables e below (s₁.setTop (entryFrame m #[.ref d, .int (Int32.ofNat B.slots.size)] 2)) (s₁.setTop (mkF m 2 #[.val (.ref d), .val (.int (Int32.ofNat B.slots.size))] [.ref d, .int (Int32.ofNat B.slots.size)])) := c1.trans (by
    refine XS.iloadN X0.here hexec rfl (hb hbytes d0) rfl ?_
    refine XS.aloadN X0.here hexec rfl (hb hbytes d1) rfl rfl ?_
    exact Steps.refl _)
  have c3 : Steps p.tables e below (s₁.setTop (entryFrame m #[.ref d, .int (Int32.ofNat B.slots.size)] 2)) (s₁.setTop (mkF m 8 #[.val (.ref d), .val (.int (Int32.ofNat B.slots.size))] [.int (lo8 (ushr (Int32.ofNat B.slots.size - Int32.ofNat B.slots.size) 31))])) := c2.trans (by
    refine X0.alen hexec hB0 rfl rfl (hb hbytes d2) ?_
    refine XS.isub X0.here hexec rfl (hb hbytes d3) rfl ?_
    refine bipushV X0.here hexec rfl 31 (hb hbytes d4) (by decide) ?_
    refine iushr X0.here hexec rfl (hb hbytes d6) rfl ?_
    refine i2b X0.here hexec rfl (hb hbytes d7) rfl ?_
    exact Steps.refl _)
  have e0 : lo8 (ushr (Int32.ofNat B.slots.size - Int32.ofNat B.slots.size) 31) = 0 := by rw [Int32.sub_self]; decide
  rw [e0] at c3
  exact ⟨s₁, some (.int 0), _, _, _, X0, rfl, rfl, rfl, (fun h => by cases h), ⟨rfl, hh0⟩, fun fs hl => c3.trans (X0.ireturnOut hexec hret rfl (Or.inr (Or.inr (Or.inl rfl))) (hb hbytes d8) hl)⟩
end CodL
/-- the String at a is Latin-1 over a new byte[] (the heap's one new cell): the low bytes of the len chars of A from o on; every cell but a is kept -/
def Got (a : Addr) (D : Cell) (fV fC : Field) (A : Cell) (o len : Nat) (r : Option Value) (s u : State) : Prop := r = none ∧ ∃ D' V : Cell, Blank "java/lang/String" a D' u ∧ Same D D' [fV.slot, fC.slot] ∧ D'.slots[fV.slot]? = some (.ref s.heap.size) ∧ D'.slots[fC.slot]? = some (.int 0) ∧ Arr .byte s.heap.size V u ∧ V.vm = .none ∧ u.vm.findClass "[B" = some V.cls ∧ V.slots.size = len ∧ (∀ j, j < len → V.slots[j]? = some (.int (lo8 (cv A (o + j))))) ∧ (∀ (y : Addr) (c : Cell), y ≠ a → s.heap[y]? = some c → u.heap[y]? = some c) ∧ u.heap.size = s.heap.size + 1
theorem Got.mv {a : Addr} {D A : Cell} {fV fC : Field} {o len : Nat} : ∀ r (U U' V V' : State), U'.heap = U.heap → V.vm.Alike V'.vm → V'.heap = V.heap → Got a D fV fC A o len r U V → Got a D fV fC A o len r U' V' :=
  fun r U U' V V' h1 hal h2 ⟨e0, D', X, a1, a2, a3, a4, a5, a6, a7, a8, a9, a10, a11⟩ => ⟨e0, D', X, a1.mv hal h2, a2, by rw [h1]; exact a3, a4, by rw [h1]; exact a5.mv hal h2, a6, by rw [hal.findClass]; exact a7, a8, a9, by rw [h1, h2]; exact a10, by rw [h1, h2]; exact a11⟩
namespace New4
def yN : MethodName := ⟨"java/lang/String", "<init>", "([CIILjava/lang/Void;)V"⟩
abbrev yB : ByteArray := jdk_42_method_149_code
theorem d0 : decode yB 0 = .ok (.aload_n 0, 1) := by decide +kernel
theorem d1 : decode yB 1 = .ok (.invokespecial 1, 3) := by decide +kernel
theorem d4 : decode yB 4 = .ok (.iload_n 3, 1) := by decide +kernel
theorem d5 : decode yB 5 = .ok (.ifCond (.ne) 22, 3) := by decide +kernel
theorem d27 : decode yB 27 = .ok (.getstatic 38, 3) := by decide +kernel
theorem d30 : decode yB 30 = .ok (.ifCond (.eq) 28, 3) := by decide +kernel
theorem d33 : decode yB 33 = .ok (.aload_n 1, 1) := by decide +kernel
theorem d34 : decode yB 34 = .ok (.iload_n 2, 1) := by decide +kernel
theorem d35 : decode yB 35 = .ok (.iload_n 3, 1) := by decide +kernel
theorem d36 : decode yB 36 = .ok (.invokestatic 177, 3) := by decide +kernel
theorem d39 : decode yB 39 = .ok (.astore 5, 2) := by decide +kernel
theorem d41 : decode yB 41 = .ok (.aload_n 0, 1) := by decide +kernel
theorem d42 : decode yB 42 = .ok (.aload 5, 2) := by decide +kernel
theorem d44 : decode yB 44 = .ok (.iload_n 3, 1) := by decide +kernel
theorem d45 : decode yB 45 = .ok (.invokestatic 47, 3) := by decide +kernel
theorem d48 : decode yB 48 = .ok (.putfield 15, 3) := by decide +kernel
theorem d51 : decode yB 51 = .ok (.aload_n 0, 1) := by decide +kernel
theorem d52 : decode yB 52 = .ok (.aload 5, 2) := by decide +kernel
theorem d54 : decode yB 54 = .ok (.putfield 9, 3) := by decide +kernel
theorem d57 : decode yB 57 = .ok (.return_, 1) := by decide +kernel
def site : List Cond := [.fieldLink "java/lang/String" 38 "java/lang/String" "COMPACT_STRINGS" "Z", Cmp3.tab, CodL.tab, .laysFinal "java/lang/String" "java/lang/String" "value" "[B", .fieldLink "java/lang/String" 9 "java/lang/String" "value" "[B", .laysFinal "java/lang/String" "java/lang/String" "coder" "B", .fieldLink "java/lang/String" 15 "java/lang/String" "coder" "B"] ++ objW "java/lang/String" 1 ++ staticW "java/lang/String" 177 Cmp3.yN ++ staticW "java/lang/String" 47 CodL.yN
def tab : Cond := tabOf yN yB 6 none site
def P (a : Addr) (D : Cell) (fV fC : Field) (b : Addr) (A : Cell) (z : Int32) (o len : Nat) (args : Array Value) (s : State) : Prop := args = #[.ref a, .ref b, .int (Int32.ofNat o), .int (Int32.ofNat len), .null] ∧ Blank "java/lang/String" a D s ∧ Found "java/lang/String" "value" "[B" fV s ∧ Found "java/lang/String" "coder" "B" fC s ∧ Ch b A s ∧ StaticIs s "java/lang/String" "COMPACT_STRINGS" "Z" (.int z) ∧ ¬ z = 0 ∧ 0 < len ∧ o + len ≤ A.slots.size ∧ len ≤ 536870912 ∧ ∀ i, i < len → ¬ 255 < cv A (o + i)
def E (a : Addr) (D : Cell) (fV fC : Field) (A : Cell) (o len : Nat) (r : Option Value) (s u : State) : Prop := Got a D fV fC A o len r s u
/-- len > 0, no char of the range above 255: a Latin-1 String of their low bytes -/
theorem law (l : Launch) (a : Addr) (D : Cell) (fV fC : Field) (b : Addr) (A : Cell) (z : Int32) (o len : Nat) : Law l yN 5 4 2 35 yB 6 none site (P a D fV fC b A z o len) (E a D fV fC A o len) [⟨a, fC.slot⟩, ⟨a, fV.slot⟩] 1 len := by
  refine Law.of_walk (plainFor_of_name (by decide +kernel)) (by decide +kernel) (by decide +kernel) (by decide) (fun _ _ h => by rw [h.1]; rfl) (fun _ U U' hal hh h => ⟨h.1, h.2.1.mv hal hh, h.2.2.1.al hal, h.2.2.2.1.al hal, h.2.2.2.2.1.mv hal hh, h.2.2.2.2.2.1.there hal hh, h.2.2.2.2.2.2⟩) (fun r U U' V V' h1 hal h2 h => Got.mv r U U' V V' h1 hal h2 h) ?_
  intro p e s m args below meth c s₁ X0 hexec hbytes hml hret hlk hnm hown hh0 W hP
  obtain ⟨rfl, hB, f1, f2, hA, s1, hz, l0, l1, l2, hp⟩ := hP
  have a31 := hA.1.2.2.2
  have c1 : Steps p.tables e below (s₁.setTop (entryFrame m #[.ref a, .ref b, .int (Int32.ofNat o), .int (Int32.ofNat len), .null] 6)) (s₁.setTop (mkF m 0 #[.val (.ref a), .val (.ref b), .val (.int (Int32.ofNat o)), .val (.int (Int32.ofNat len)), .val .null, .unset] [])) := entry rfl
  have c2 : Steps p.tables e below (s₁.setTop (entryFrame m #[.ref a, .ref b, .int (Int32.ofNat o), .int (Int32.ofNat len), .null] 6)) (s₁.setTop (mkF m 1 #[.val (.ref a), .val (.ref b), .val (.int (Int32.ofNat o)), .val (.int (Int32.ofNat len)), .val .null, .unset] [.ref a])) := c1.trans (by
    refine XS.aloadN X0.here hexec rfl (hb hbytes d0) rfl rfl ?_
    exact Steps.refl _)
  obtain ⟨T3, X3, q3, st3⟩ := X0.oinit hexec hown (wks W (objW "java/lang/String" 1)) (g := (mkF m 1 #[.val (.ref a), .val (.ref b), .val (.int (Int32.ofNat o)), .val (.int (Int32.ofNat len)), .val .null, .unset] [.ref a])) rfl (by rw [hml]; rfl) (rest := []) rfl (hb hbytes d1) (W := 0) (by show 2 * 0 + 0 ≤ _; decide) (Nat.le_of_ble_eq_true rfl) (Nat.le_of_ble_eq_true rfl)
  have hh3 := q3.trans hh0
  have c4 : Steps p.tables e below (s₁.setTop (entryFrame m #[.ref a, .ref b, .int (Int32.ofNat o), .int (Int32.ofNat len), .null] 6)) (T3.setTop (mkF m 27 #[.val (.ref a), .val (.ref b), .val (.int (Int32.ofNat o)), .val (.int (Int32.ofNat len)), .val .null, .unset] [])) := (c2.trans (st3 _ (Steps.refl _))).trans (by
    refine XS.iloadN X3.here hexec rfl (hb hbytes d4) rfl ?_
    refine XS.ifYes X3.here hexec rfl (pc0 := 5) rfl (hb hbytes d5) rfl (i0_ne_t (nz32 (by omega) l0)) (by decide) rfl ?_
    exact Steps.refl _)
  obtain ⟨T5, X5, q5, st5⟩ := X3.sget hexec hown (wk W (.fieldLink "java/lang/String" 38 "java/lang/String" "COMPACT_STRINGS" "Z")) s1 (fun _ _ h => by rw [hh3]; exact h) (g := (mkF m 27 #[.val (.ref a), .val (.ref b), .val (.int (Int32.ofNat o)), .val (.int (Int32.ofNat len)), .val .null, .unset] [])) rfl (hb hbytes d27)
  have hh5 := q5.trans hh3
  have c6 : Steps p.tables e below (s₁.setTop (entryFrame m #[.ref a, .ref b, .int (Int32.ofNat o), .int (Int32.ofNat len), .null] 6)) (T5.setTop (mkF m 30 #[.val (.ref a), .val (.ref b), .val (.int (Int32.ofNat o)), .val (.int (Int32.ofNat len)), .val .null, .unset] [.int z])) := c4.trans (st5 _ (Steps.refl _))
  have c7 : Steps p.tables e below (s₁.setTop (entryFrame m #[.ref a, .ref b, .int (Int32.ofNat o), .int (Int32.ofNat len), .null] 6)) (T5.setTop (mkF m 36 #[.val (.ref a), .val (.ref b), .val (.int (Int32.ofNat o)), .val (.int (Int32.ofNat len)), .val .null, .unset] [.int (Int32.ofNat len), .int (Int32.ofNat o), .ref b])) := c6.trans (by
    refine XS.ifNo X5.here hexec rfl (hb hbytes d30) rfl (i0_eq_f hz) ?_
    refine XS.aloadN X5.here hexec rfl (hb hbytes d33) rfl rfl ?_
    refine XS.iloadN X5.here hexec rfl (hb hbytes d34) rfl ?_
    refine XS.iloadN X5.here hexec rfl (hb hbytes d35) rfl ?_
    exact Steps.refl _)
  obtain ⟨v8, T8, X8, E8, g8⟩ := X5.callS hexec (Cmp3.law l b A o len) hown (wks W (staticW "java/lang/String" 177 Cmp3.yN)) (wk W Cmp3.tab) (W := 0) (Nat.le_of_ble_eq_true rfl) (Nat.le_of_ble_eq_true rfl) (Nat.le_refl _) (by show 0 + len ≤ len; omega) (g := (mkF m 36 #[.val (.ref a), .val (.ref b), .val (.int (Int32.ofNat o)), .val (.int (Int32.ofNat len)), .val .null, .unset] [.int (Int32.ofNat len), .int (Int32.ofNat o), .ref b])) rfl (by rw [hml]; rfl) c7 (argsL := [.ref b, .int (Int32.ofNat o), .int (Int32.ofNat len)]) (rest := []) rfl rfl (by show 2 * 0 + 0 ≤ _; decide) (hb hbytes d36) (⟨rfl, hA.mv X5.warmed.alike hh5, l1, l2, hp⟩)
  obtain ⟨e8, z8⟩ := E8
  obtain ⟨rfl, N, n1, n2, n3, n4, n5, n6⟩ := NewArr.mv _ T5 s _ _ hh5.symm (Vm.Alike.refl _) rfl e8
  rw [hh5] at z8
  have hB1 := hB.keep X8.warmed.alike (n6 _ _ hB.1)
  have hne : s.heap.size ≠ a := (Nat.ne_of_lt (Array.getElem?_eq_some_iff.mp hB.1).1).symm
  have c9 : Steps p.tables e below (s₁.setTop (entryFrame m #[.ref a, .ref b, .int (Int32.ofNat o), .int (Int32.ofNat len), .null] 6)) (T8.setTop (mkF m 39 #[.val (.ref a), .val (.ref b), .val (.int (Int32.ofNat o)), .val (.int (Int32.ofNat len)), .val .null, .unset] [.ref s.heap.size])) := g8
  have c10 : Steps p.tables e below (s₁.setTop (entryFrame m #[.ref a, .ref b, .int (Int32.ofNat o), .int (Int32.ofNat len), .null] 6)) (T8.setTop (mkF m 45 #[.val (.ref a), .val (.ref b), .val (.int (Int32.ofNat o)), .val (.int (Int32.ofNat len)), .val .null, .val (.ref s.heap.size)] [.int (Int32.ofNat N.slots.size), .ref s.heap.size, .ref a])) := by
    have hc : Steps p.tables e below (s₁.setTop (entryFrame m #[.ref a, .ref b, .int (Int32.ofNat o), .int (Int32.ofNat len), .null] 6)) (T8.setTop (mkF m 45 #[.val (.ref a), .val (.ref b), .val (.int (Int32.ofNat o)), .val (.int (Int32.ofNat len)), .val .null, .val (.ref s.heap.size)] [.int (Int32.ofNat len), .ref s.heap.size, .ref a])) := c9.trans (by
      refine XS.astore X8.here hexec rfl (hb hbytes d39) rfl rfl rfl ?_
      refine XS.aloadN X8.here hexec rfl (hb hbytes d41) rfl rfl ?_
      refine XS.aload X8.here hexec rfl (hb hbytes d42) rfl rfl ?_
      refine XS.iloadN X8.here hexec rfl (hb hbytes d44) rfl ?_
      exact Steps.refl _)
    rw [n4]; exact hc
  obtain ⟨v11, T11, X11, E11, g11⟩ := X8.callS hexec (CodL.law l s.heap.size N) hown (wks W (staticW "java/lang/String" 47 CodL.yN)) (wk W CodL.tab) (W := 1) (Nat.le_of_ble_eq_true rfl) (Nat.le_of_ble_eq_true rfl) (Nat.le_refl _) (by show 0 + len + 0 ≤ len; omega) (g := (mkF m 45 #[.val (.ref a), .val (.ref b), .val (.int (Int32.ofNat o)), .val (.int (Int32.ofNat len)), .val .null, .val (.ref s.heap.size)] [.int (Int32.ofNat N.slots.size), .ref s.heap.size, .ref a])) rfl (by rw [hml]; rfl) c10 (argsL := [.ref s.heap.size, .int (Int32.ofNat N.slots.size)]) (rest := [.ref a]) rfl rfl (by show 2 * 0 + (1 + 0) ≤ _; decide) (hb hbytes d45) (⟨rfl, n1⟩)
  obtain ⟨rfl, q11⟩ := E11
  have hB11 := hB1.mv (X8.warmed.alike.symm.trans X11.warmed.alike) q11
  have c12 : Steps p.tables e below (s₁.setTop (entryFrame m #[.ref a, .ref b, .int (Int32.ofNat o), .int (Int32.ofNat len), .null] 6)) (T11.setTop (mkF m 48 #[.val (.ref a), .val (.ref b), .val (.int (Int32.ofNat o)), .val (.int (Int32.ofNat len)), .val .null, .val (.ref s.heap.size)] [.int 0, .ref a])) := g11
  obtain ⟨T13, X13, p13, bl13, sl13, st13⟩ := X11.finit hexec hown (wk W (.fieldLink "java/lang/String" 15 "java/lang/String" "coder" "B")) (Or.inr ⟨_, (wk W (.laysFinal "java/lang/String" "java/lang/String" "coder" "B"))⟩) (Or.inl ⟨rfl, hnm⟩) f2 (Or.inl rfl) hB11 (t := .byte) (by decide +kernel) rfl (g := (mkF m 48 #[.val (.ref a), .val (.ref b), .val (.int (Int32.ofNat o)), .val (.int (Int32.ofNat len)), .val .null, .val (.ref s.heap.size)] [.int 0, .ref a])) rfl (rest := []) rfl (hb hbytes d48)
  have c14 : Steps p.tables e below (s₁.setTop (entryFrame m #[.ref a, .ref b, .int (Int32.ofNat o), .int (Int32.ofNat len), .null] 6)) (T13.setTop (mkF m 54 #[.val (.ref a), .val (.ref b), .val (.int (Int32.ofNat o)), .val (.int (Int32.ofNat len)), .val .null, .val (.ref s.heap.size)] [.ref s.heap.size, .ref a])) := (c12.trans (st13 _ (Steps.refl _))).trans (by
    refine XS.aloadN X13.here hexec rfl (hb hbytes d51) rfl rfl ?_
    refine XS.aload X13.here hexec rfl (hb hbytes d52) rfl rfl ?_
    exact Steps.refl _)
  obtain ⟨T15, X15, p15, bl15, sl15, st15⟩ := X13.finit hexec hown (wk W (.fieldLink "java/lang/String" 9 "java/lang/String" "value" "[B")) (Or.inr ⟨_, (wk W (.laysFinal "java/lang/String" "java/lang/String" "value" "[B"))⟩) (Or.inl ⟨rfl, hnm⟩) f1 (Or.inl rfl) bl13 (t := (.array .byte)) (by decide +kernel) rfl (g := (mkF m 54 #[.val (.ref a), .val (.ref b), .val (.int (Int32.ofNat o)), .val (.int (Int32.ofNat len)), .val .null, .val (.ref s.heap.size)] [.ref s.heap.size, .ref a])) rfl (rest := []) rfl (hb hbytes d54)
  have c16 : Steps p.tables e below (s₁.setTop (entryFrame m #[.ref a, .ref b, .int (Int32.ofNat o), .int (Int32.ofNat len), .null] 6)) (T15.setTop (mkF m 57 #[.val (.ref a), .val (.ref b), .val (.int (Int32.ofNat o)), .val (.int (Int32.ofNat len)), .val .null, .val (.ref s.heap.size)] [])) := c14.trans (st15 _ (Steps.refl _))
  have ap := apart (Or.inr ⟨_, (wk W (.laysFinal "java/lang/String" "java/lang/String" "value" "[B"))⟩) (Or.inr ⟨_, (wk W (.laysFinal "java/lang/String" "java/lang/String" "coder" "B"))⟩) f1 f2 (t₁ := .array .byte) (t₂ := .byte) (by decide +kernel) (by decide +kernel) (by decide)
  have al := X8.warmed.alike.symm.trans X15.warmed.alike
  have n7 : T11.heap[s.heap.size]? = some N := by rw [q11]; exact n1.1
  exact ⟨T15, none, _, _, _, X15, by simp, rfl, by omega, (fun _ => rfl), ⟨rfl, _, N, bl15, ((Same.refl D _).set _ (by simp)).set _ (by simp), sl15, (Cell.slots_setSlot_ne _ ap).trans sl13, n1.keep al (p15.other hne (p13.other hne n7)), n2, by rw [al.findClass]; exact n3, n4, n5, fun y c h1 h2 => p15.other h1 (p13.other h1 (by rw [q11]; exact n6 y c h2)), by rw [p15.2.2, p13.2.2, q11]; exact z8⟩, fun fs hl => c16.trans (X15.returnOut hexec hret (hb hbytes d57) hl)⟩
end New4
namespace New1
def yN : MethodName := ⟨"java/lang/String", "<init>", "([C)V"⟩
abbrev yB : ByteArray := jdk_42_method_3_code
theorem d0 : decode yB 0 = .ok (.aload_n 0, 1) := by decide +kernel
theorem d1 : decode yB 1 = .ok (.aload_n 1, 1) := by decide +kernel
theorem d2 : decode yB 2 = .ok (.iconst 0, 1) := by decide +kernel
theorem d3 : decode yB 3 = .ok (.aload_n 1, 1) := by decide +kernel
theorem d4 : decode yB 4 = .ok (.arraylength, 1) := by decide +kernel
theorem d5 : decode yB 5 = .ok (.aconst_null, 1) := by decide +kernel
theorem d6 : decode yB 6 = .ok (.invokespecial 27, 3) := by decide +kernel
theorem d9 : decode yB 9 = .ok (.return_, 1) := by decide +kernel
def site : List Cond := [New4.tab] ++ initW "java/lang/String" 27 New4.yN
def tab : Cond := tabOf yN yB 2 none site
def P (a : Addr) (D : Cell) (fV fC : Field) (b : Addr) (A : Cell) (z : Int32) (args : Array Value) (s : State) : Prop := args = #[.ref a, .ref b] ∧ Blank "java/lang/String" a D s ∧ Found "java/lang/String" "value" "[B" fV s ∧ Found "java/lang/String" "coder" "B" fC s ∧ Ch b A s ∧ StaticIs s "java/lang/String" "COMPACT_STRINGS" "Z" (.int z) ∧ ¬ z = 0 ∧ 0 < A.slots.size ∧ A.slots.size ≤ 536870912 ∧ ∀ i, i < A.slots.size → ¬ 255 < cv A i
def E (a : Addr) (D : Cell) (fV fC : Field) (A : Cell) (r : Option Value) (s u : State) : Prop := Got a D fV fC A 0 A.slots.size r s u
/-- new String(chars), not empty, no char above 255: a Latin-1 String of their low bytes -/
theorem law (l : Launch) (a : Addr) (D : Cell) (fV fC : Field) (b : Addr) (A : Cell) (z : Int32) : Law l yN 2 1 3 52 yB 2 none site (P a D fV fC b A z) (E a D fV fC A) [⟨a, fC.slot⟩, ⟨a, fV.slot⟩] 1 A.slots.size := by
  refine Law.of_walk (plainFor_of_name (by decide +kernel)) (by decide +kernel) (by decide +kernel) (by decide) (fun _ _ h => by rw [h.1]; rfl) (fun _ U U' hal hh h => ⟨h.1, h.2.1.mv hal hh, h.2.2.1.al hal, h.2.2.2.1.al hal, h.2.2.2.2.1.mv hal hh, h.2.2.2.2.2.1.there hal hh, h.2.2.2.2.2.2⟩) (fun r U U' V V' h1 hal h2 h => Got.mv r U U' V V' h1 hal h2 h) ?_
  intro p e s m args below meth c s₁ X0 hexec hbytes hml hret hlk hnm hown hh0 W hP
  obtain ⟨rfl, hB, f1, f2, hA, s1, hz, l0, l2, hp⟩ := hP
  have c1 : Steps p.tables e below (s₁.setTop (entryFrame m #[.ref a, .ref b] 2)) (s₁.setTop (mkF m 0 #[.val (.ref a), .val (.ref b)] [])) := entry rfl
  have c2 : Steps p.tables e below (s₁.setTop (entryFrame m #[.ref a, .ref b] 2)) (s₁.setTop (mkF m 6 #[.val (.ref a), .val (.ref b)] [.null, .int (Int32.ofNat A.slots.size), .int 0, .ref b, .ref a])) := c1.trans (by
    refine XS.aloadN X0.here hexec rfl (hb hbytes d0) rfl rfl ?_
    refine XS.aloadN X0.here hexec rfl (hb hbytes d1) rfl rfl ?_
    refine iconstV X0.here hexec rfl 0 (hb hbytes d2) (by decide) ?_
    refine XS.aloadN X0.here hexec rfl (hb hbytes d3) rfl rfl ?_
    refine X0.alen hexec (hA.1.mv X0.warmed.alike hh0) rfl rfl (hb hbytes d4) ?_
    refine XS.aconstNull X0.here hexec rfl (hb hbytes d5) ?_
    exact Steps.refl _)
  obtain ⟨v3, T3, X3, E3, g3⟩ := X0.callN hexec (New4.law l a D fV fC b A z 0 A.slots.size) rfl hown (wks W (initW "java/lang/String" 27 New4.yN)) (W New4.tab (by simp only [site, List.mem_cons, List.mem_append, true_or, or_true])) (W := 0) (Nat.le_of_ble_eq_true rfl) (Nat.le_of_ble_eq_true rfl) (Nat.le_refl _) (by show 0 + A.slots.size ≤ A.slots.size; omega) (g := (mkF m 6 #[.val (.ref a), .val (.ref b)] [.null, .int (Int32.ofNat A.slots.size), .int (Int32.ofNat 0), .ref b, .ref a])) rfl (by rw [hml]; rfl) c2 (argsL := [.ref b, .int (Int32.ofNat 0), .int (Int32.ofNat A.slots.size), .null]) (rest := []) rfl rfl (by show 2 * 0 + 0 ≤ _; decide) (hb hbytes d6) (⟨rfl, hB.mv X0.warmed.alike hh0, f1.al X0.warmed.alike, f2.al X0.warmed.alike, hA.mv X0.warmed.alike hh0, s1.there X0.warmed.alike hh0, hz, l0, by omega, l2, fun i hi => by rw [Nat.zero_add]; exact hp i hi⟩)
  have e0 := Got.mv _ s₁ s _ _ hh0.symm (Vm.Alike.refl _) rfl E3
  obtain rfl := e0.1
  have c4 : Steps p.tables e below (s₁.setTop (entryFrame m #[.ref a, .ref b] 2)) (T3.setTop (mkF m 9 #[.val (.ref a), .val (.ref b)] [])) := g3
  exact ⟨T3, none, _, _, _, X3, by simp, rfl, by omega, (fun _ => rfl), e0, fun fs hl => c4.trans (X3.returnOut hexec hret (hb hbytes d9) hl)⟩
theorem pays {l : Launch} {R : Room} {p : Program} {e : Env} {below : List Frame} {s : State} {sargs : Array Value} {len W : Nat} (a : Addr) (D : Cell) (fV fC : Field) (b : Addr) (A : Cell) (z : Int32) (htab : tab.before sargs s = true) (hfr : 4 ≤ R.frames) (hlo : W + 65 ≤ R.locals) :
    Back l R p e below s sargs yN len W (fun A₁ a₁ => A₁.cells + 1 ≤ R.cells ∧ A₁.slots + A.slots.size ≤ R.slots ∧ P a D fV fC b A z a₁ A₁.U) (fun A₁ _ v₁ B₁ => E a D fV fC A v₁ A₁.U B₁.U ∧ B₁.locs = A₁.locs ++ [⟨a, fC.slot⟩, ⟨a, fV.slot⟩] ∧ B₁.cells = A₁.cells + 1 ∧ B₁.slots = A₁.slots + A.slots.size) :=
  (law l a D fV fC b A z).pays htab hfr (by omega)
end New1
/-- the byte, read back as charAt reads it, is the char -/
theorem lo8_mask {x : Int32} (h0 : ¬ x < 0) (h1 : ¬ 255 < x) : lo8 x &&& 255 = x := by
  have t : ∀ k : Fin 256, lo8 (Int32.ofNat k.val) &&& 255 = Int32.ofNat k.val := by decide +kernel
  rw [Int32.lt_iff_toInt_lt] at h0 h1
  have e0 : (0 : Int32).toInt = 0 := rfl
  have e1 : (255 : Int32).toInt = 255 := rfl
  obtain ⟨k, hk⟩ : ∃ k : Nat, x.toInt = k := ⟨x.toInt.toNat, by omega⟩
  have hx : x = Int32.ofNat k := Int32.toInt_inj.mp (by rw [hk, Int32.toInt_ofNat_small (by omega)])
  rw [hx]
  exact t ⟨k, by omega⟩
end StrChars
namespace StrChars.Road
open Jvm Sem ClassFile Op Lib Jvm.Stand Jvm.Free Jvm.Free.XT
open Jvm.Lib.Cold (StaticIs)
abbrev ST : String := "java/lang/String"
/-- every table word that New1's law asks, flat -/
abbrev words : List Jvm.Cond := [.code New1.yN New1.yB 2 none, .initialized ST, .methodLink ST 27 New4.yN, .instanceMethod New4.yN,
  .code New4.yN New4.yB 6 none, .fieldLink ST 38 ST "COMPACT_STRINGS" "Z", .laysFinal ST ST "value" "[B", .fieldLink ST 9 ST "value" "[B", .laysFinal ST ST "coder" "B", .fieldLink ST 15 ST "coder" "B",
  .methodLink ST 1 Lib.objectInit, .instanceMethod Lib.objectInit, .code Lib.objectInit ⟨#[0xb1]⟩ 1 none, .methodLink ST 177 Cmp3.yN, .static Cmp3.yN, .methodLink ST 47 CodL.yN, .static CodL.yN,
  .code Cmp3.yN Cmp3.yB 6 (some (.array .byte)), .initialized U16, .arrayClass .byte, .methodLink U16 115 Cmp5.yN, .static Cmp5.yN, .code Cmp5.yN Cmp5.yB 7 (some .int), .code CodL.yN CodL.yB 2 (some .byte)]
theorem tab_of {a : Array Value} {s : State} (h : ∀ w ∈ words, w.before a s = true) : New1.tab.before a s = true := by
  have h5 : Cmp5.tab.before a s = true := unparts (wk h (.code Cmp5.yN Cmp5.yB 7 (some .int))) (wks h (.initialized Cmp5.yN.cls :: Cmp5.site))
  have hc : CodL.tab.before a s = true := unparts (wk h (.code CodL.yN CodL.yB 2 (some .byte))) (wks h (.initialized CodL.yN.cls :: CodL.site))
  have q5 : ∀ w ∈ Cmp5.tab :: words, w.before a s = true := fun w hw => (List.mem_cons.mp hw).elim (fun e => e ▸ h5) (h w)
  have h3 : Cmp3.tab.before a s = true := unparts (wk q5 (.code Cmp3.yN Cmp3.yB 6 (some (.array .byte)))) (wks q5 (.initialized Cmp3.yN.cls :: Cmp3.site))
  have q3 : ∀ w ∈ Cmp3.tab :: CodL.tab :: words, w.before a s = true := fun w hw => (List.mem_cons.mp hw).elim (fun e => e ▸ h3) fun hw => (List.mem_cons.mp hw).elim (fun e => e ▸ hc) (h w)
  have h4 : New4.tab.before a s = true := unparts (wk q3 (.code New4.yN New4.yB 6 none)) (wks q3 (.initialized New4.yN.cls :: New4.site))
  have q4 : ∀ w ∈ New4.tab :: words, w.before a s = true := fun w hw => (List.mem_cons.mp hw).elim (fun e => e ▸ h4) (h w)
  exact unparts (wk q4 (.code New1.yN New1.yB 2 none)) (wks q4 (.initialized New1.yN.cls :: New1.site))
/-- the words ride from the start Z to the walk's own state -/
theorem moved {Z s : State} {a0 args : Array Value} (hZ : Z.Warmed39 s.vm) (hw : ∀ d ∈ words, d.before a0 Z = true) : ∀ d ∈ words, d.before args s = true := fun d hd => by
  have q := hw d hd
  have t : ∀ d ∈ words, d = .arrayClass .byte ∨ (d.onTables && d.keepsFace) = true := by decide +kernel
  rcases t d hd with rfl | t
  · exact RoadKit.mvA hZ q
  · exact RoadKit.mv hZ q t
/-- WHAT COMES BACK, over the tables of the start Z: h the heap at the call, h' behind it -/
def Q (Z : State) (x : Addr) (A : Cell) (h : Heap) (v : Option Value) (h' : Heap) (L : List Loc) : Prop := v = none ∧ (∀ y ∈ L, y.base = x) ∧ RoadKit.Keep h h' [x] ∧ h'.size = h.size + 1 ∧ RoadKit.Exa Z h' x ST ∧ RoadKit.Fld Z h' x ST "value" "[B" (.ref h.size) ∧ RoadKit.Fld Z h' x ST "coder" "B" (.int 0) ∧
  (∃ V : Cell, RoadKit.Arr Z h' h.size V .byte ∧ V.vm = .none ∧ Z.vm.findClass "[B" = some V.cls ∧ V.slots.size = A.slots.size ∧ ∀ j, j < A.slots.size → V.slots[j]? = some (.int (lo8 (cv A j)))) ∧
  ∀ (O n d : String) (w : Value), RoadKit.Fld Z h x O n d w → RoadKit.slotOf Z O n d ≠ RoadKit.slotOf Z ST "value" "[B" → RoadKit.slotOf Z O n d ≠ RoadKit.slotOf Z ST "coder" "B" → RoadKit.Fld Z h' x O n d w
/-- **new String(chars) AT A CALL, IN THE ROAD'S FORM**: for specialBack behind newO: x the fresh String, b the char[] with the cell A -/
theorem back {p : Program} {l : Launch} {e : Env} {R : Room} {s : State} {args : Array Value} {below : List Frame} {len W : Nat} {Z : State} {a0 : Array Value} {h : Heap} (hZ : Z.Warmed39 s.vm) (hw : ∀ d ∈ words, d.before a0 Z = true) {kI : Nat} (wi : (Jvm.Cond.instantiable ST kI).before a0 Z = true)
    {x b : Addr} {A : Cell} {z : Int32} {v0 c0 : Value} (E : RoadKit.Exa Z h x ST) (V : RoadKit.Fld Z h x ST "value" "[B" v0) (C : RoadKit.Fld Z h x ST "coder" "B" c0) (K : RoadKit.Arr Z h b A .char) (hty : Typed .char A) (S : RoadKit.Sta Z h ST "COMPACT_STRINGS" "Z" (.int z)) (hz : ¬ z = 0)
    (l0 : 0 < A.slots.size) (l2 : A.slots.size ≤ 536870912) (hp : ∀ i, i < A.slots.size → ¬ 255 < cv A i) (hfr : 4 ≤ R.frames) (hlo : W + 65 ≤ R.locals) :
    Back l R p e below s args New1.yN len W (fun P a => a = #[.ref x, .ref b] ∧ P.U.heap = h ∧ P.cells + 1 ≤ R.cells ∧ P.slots + A.slots.size ≤ R.slots)
      (fun P _ v B => ∃ L, Q Z x A h v B.U.heap L ∧ B.locs = P.locs ++ L ∧ B.cells = P.cells + 1 ∧ B.slots = P.slots + A.slots.size) := by
  intro m meth c P g ig mk a X hg hsize hdg hW hn hp'
  obtain ⟨rfl, rfl, r1, r2⟩ := hp'
  have al : Z.vm.Alike P.U.vm := hZ.alike.trans X.warmed.alike
  obtain ⟨D, cfV, kV, iV, fV, hD, gV, stV, knV, obV, asV, slV⟩ := id V
  obtain ⟨D', cfC, kC, iC, fC, hD', gC, stC, -, -, asC, slC⟩ := id C
  cases hD.symm.trans hD'
  obtain ⟨D2, kD, e1, e2, e3, e4, e5⟩ := id E
  cases hD.symm.trans e1
  obtain ⟨c2, k2, i1, i2, i3, -⟩ := Cond.instantiable_spec wi
  cases e2.symm.trans i1
  cases e3.symm.trans i2
  obtain ⟨kU, u1, u2⟩ := al.2.2 _ _ e3
  have hB : Blank ST x D P.U := ⟨hD, ⟨knV, fun q hq => by rw [hq] at obV; cases obV⟩, by rw [al.findClass]; exact e2, kU, u1, by rw [u2]; exact i3, by rw [u2]; exact e5 i3⟩
  have F1 : Found ST "value" "[B" fV P.U := ⟨SBG.found_only al ⟨cfV, kV, iV, gV⟩, stV⟩
  have F2 : Found ST "coder" "B" fC P.U := ⟨SBG.found_only al ⟨cfC, kC, iC, gC⟩, stC⟩
  have hA : Ch b A P.U := ⟨⟨K.1, State.isArrayOf_alike al K.2.1, K.2.2, by omega⟩, hty⟩
  have hS : StaticIs P.U ST "COMPACT_STRINGS" "Z" (.int z) := by
    obtain ⟨cfS, iS, kS, fS, st, cS, t1, t2, t3, t4, t5, t6, t7⟩ := S
    exact StaticIs.there (s := { Z with heap := P.U.heap }) ⟨cfS, iS, kS, fS, st, cS, t1, t2, t3, t4, t5, (fun q => by rw [q] at t6; cases t6), t7⟩ al rfl
  obtain ⟨v, B, X', ⟨⟨hv, E', V', q1, q2, q3, q4, q5, q6, q7, q8, q9, q10, q11⟩, hl, hc, hs⟩, st⟩ := New1.pays x D fV fC b A z (tab_of (moved hZ hw)) hfr hlo m meth c P g ig mk _ X hg hsize hdg hW hn ⟨r1, r2, rfl, hB, F1, F2, hA, hS, hz, l0, l2, hp⟩
  have al' : Z.vm.Alike B.U.vm := hZ.alike.trans X'.warmed.alike
  have hsz : E'.slots.size = D.slots.size := by
    obtain ⟨-, -, -, kB, w1, w2, w3⟩ := q1
    obtain ⟨kB', y1, y2⟩ := al'.2.2 _ _ e3
    rw [q2.2.1] at w1
    cases w1.symm.trans y1
    rw [w3, e5 i3, y2]
  refine ⟨v, B, X', ⟨_, ⟨hv, ?_, ⟨by omega, fun y cy hy hn' => q10 y cy (by simpa using hn') hy, fun y cy hy => ?_⟩, q11, ⟨E', _, q1.1, by rw [q2.2.1]; exact e2, by rw [q2.2.1]; exact e3, by rw [q2.1]; exact obV, fun _ => by rw [hsz]; exact e5 i3⟩,
    ⟨E', cfV, kV, iV, fV, q1.1, gV, stV, by rw [q2.1]; exact knV, by rw [q2.1]; exact obV, by rw [q2.2.1]; exact asV, q3⟩, ⟨E', cfC, kC, iC, fC, q1.1, gC, stC, by rw [q2.1]; exact knV, by rw [q2.1]; exact obV, by rw [q2.2.1]; exact asC, q4⟩,
    ⟨V', ⟨q5.1, State.isArrayOf_alike al'.symm q5.2.1, q5.2.2.1⟩, q6, by rw [← al'.findClass]; exact q7, q8, fun j hj => by have := q9 j hj; rwa [Nat.zero_add] at this⟩, fun O n d w F n1 n2 => ?_⟩, hl, hc, hs⟩, st⟩
  · intro y hy
    simp only [List.mem_cons, List.not_mem_nil, or_false] at hy
    rcases hy with rfl | rfl <;> rfl
  · by_cases q : y = x
    · subst q
      cases hD.symm.trans hy
      exact ⟨E', q1.1, q2.2.1, q2.1, hsz⟩
    · exact ⟨cy, q10 y cy q hy, rfl, rfl, rfl⟩
  · obtain ⟨D3, cf, k, i, f, g1, g2, g3, g4, g5, g6, g7⟩ := F
    cases hD.symm.trans g1
    simp only [RoadKit.slotOf, g2, gV, gC, Option.map_some, Option.getD_some] at n1 n2
    exact ⟨E', cf, k, i, f, q1.1, g2, g3, by rw [q2.1]; exact g4, by rw [q2.1]; exact g5, by rw [q2.2.1]; exact g6, by rw [q2.2.2 f.slot (by simp [n1, n2])]; exact g7⟩
end StrChars.Road
namespace StrChars.Road
open Jvm Sem ClassFile Op Lib Jvm.Stand Jvm.Free Jvm.Free.XT
/-- WHAT COMES BACK, the byte[] as a list of values -/
def QA (Z : State) (x : Addr) (zn : Int32) (cs : List Int32) (h : Heap) (v : Option Value) (h' : Heap) (L : List Loc) : Prop := v = none ∧ (∀ y ∈ L, y.base = x) ∧ RoadKit.Keep h h' [x] ∧ h'.size = h.size + 1 ∧ RoadKit.Exa Z h' x ST ∧ RoadKit.Fld Z h' x ST "value" "[B" (.ref h.size) ∧ RoadKit.Fld Z h' x ST "coder" "B" (.int 0) ∧
  (∃ kb, Z.vm.findClass "[B" = some kb ∧ RoadKit.Arv Z h' h.size kb .byte zn (cs.map fun c => .int (lo8 c)) (.int 0)) ∧
  ∀ (O n d : String) (w : Value), RoadKit.Fld Z h x O n d w → RoadKit.slotOf Z O n d ≠ RoadKit.slotOf Z ST "value" "[B" → RoadKit.slotOf Z O n d ≠ RoadKit.slotOf Z ST "coder" "B" → RoadKit.Fld Z h' x O n d w
/-- **new String(chars) AT A CALL, THE ARRAYS AS LISTS**: the char[] at b holds cs, not empty, no char above 255 -/
theorem backArv {p : Program} {l : Launch} {e : Env} {R : Room} {s : State} {args : Array Value} {below : List Frame} {len W : Nat} {Z : State} {a0 : Array Value} {h : Heap} (hZ : Z.Warmed39 s.vm) (hw : ∀ d ∈ words, d.before a0 Z = true) {kI : Nat} (wi : (Jvm.Cond.instantiable ST kI).before a0 Z = true)
    {x b : Addr} {k : ClassId} {zn z : Int32} {cs : List Int32} {dv v0 c0 : Value} (E : RoadKit.Exa Z h x ST) (V : RoadKit.Fld Z h x ST "value" "[B" v0) (C : RoadKit.Fld Z h x ST "coder" "B" c0) (K : RoadKit.Arv Z h b k .char zn (cs.map Value.int) dv) (S : RoadKit.Sta Z h ST "COMPACT_STRINGS" "Z" (.int z)) (hz : ¬ z = 0)
    (hlen : zn.toNatClampNeg = cs.length) (h0 : 0 < cs.length) (hbig : cs.length ≤ 536870912) (hall : ∀ c ∈ cs, ¬ 255 < c) (hfr : 4 ≤ R.frames) (hlo : W + 65 ≤ R.locals) :
    Back l R p e below s args New1.yN len W (fun P a => a = #[.ref x, .ref b] ∧ P.U.heap = h ∧ P.cells + 1 ≤ R.cells ∧ P.slots + cs.length ≤ R.slots)
      (fun P _ v B => ∃ L, QA Z x zn cs h v B.U.heap L ∧ B.locs = P.locs ++ L ∧ B.cells = P.cells + 1 ∧ B.slots = P.slots + cs.length) := by
  obtain ⟨A, K1, K2, K3, K4, K5, K6⟩ := K
  have e : A.slots.size = cs.length := K3.trans hlen
  have hat : ∀ (i : Nat) (hi : i < cs.length), A.slots[i]? = some (.int cs[i]) := fun i hi => by rw [K5 i (by omega)]; simp [List.getD_eq_getElem?_getD, hi]
  have hcv : ∀ (i : Nat) (hi : i < cs.length), cv A i = cs[i] := fun i hi => by unfold cv; rw [hat i hi]
  have hty : Typed .char A := fun i v hv => by
    have hi : i < A.slots.size := (Array.getElem?_eq_some_iff.mp hv).1
    have q := K5 i hi
    rw [hv] at q
    rw [Option.some.inj q]
    exact K6 i hi
  refine Back.mono (back hZ hw wi E V C K1 hty S hz (by omega) (by omega) (fun i hi => by rw [hcv i (by omega)]; exact hall _ (List.getElem_mem _)) hfr hlo) (fun P a hp => ⟨hp.1, hp.2.1, hp.2.2.1, by rw [e]; exact hp.2.2.2⟩) (fun P a v B hp hq => ?_)
  obtain ⟨L, ⟨q1, q2, q3, q4, q5, q6, q7, ⟨V', v1, v2, v3, v4, v5⟩, q9⟩, hl, hc, hs⟩ := hq
  refine ⟨L, ⟨q1, q2, q3, q4, q5, q6, q7, ⟨V'.cls, v3, V', v1, rfl, by rw [v4, e, hlen], K4, fun i hi => ?_, fun i hi => ?_⟩, q9⟩, hl, hc, by rw [hs, e]⟩
  · have hi' : i < cs.length := by omega
    rw [v5 i (by omega), hcv i hi']; simp [List.getD_eq_getElem?_getD, hi']
  · have hi' : i < cs.length := by omega
    simp only [List.getD_eq_getElem?_getD, List.getElem?_map, List.getElem?_eq_getElem hi', Option.map_some, Option.getD_some]
    exact fits_lo8 _
end StrChars.Road
namespace StrChars.Road
open Jvm Sem ClassFile Op Lib Jvm.Stand Jvm.Free Jvm.Free.XT
/-- WHAT COMES BACK, in the writer's own shape -/
def QV (Z : State) (x : Addr) (N : Int32) (bs : List Int32) (h : Heap) (n0 : Nat) (v : Option Value) (h' : Heap) (L : List Loc) : Prop := v = none ∧ RoadKit.Fr n0 L ∧ RoadKit.Keep h h' [x] ∧ RoadKit.Exa Z h' x ST ∧ RoadKit.Fld Z h' x ST "coder" "B" (.int 0) ∧
  ∃ (t : Addr) (kb : ClassId), n0 ≤ t ∧ h.size ≤ t ∧ ¬ t = x ∧ RoadKit.Fld Z h' x ST "value" "[B" (.ref t) ∧ RoadKit.Arv Z h' t kb .byte N (bs.map Value.int) (.int 0)
/-- **new String(chars) AT A CALL, FOR THE WRITER**: a char[] of n known ints, each 0 to 255 -/
theorem backV {p : Program} {l : Launch} {e : Env} {R : Room} {s : State} {args : Array Value} {below : List Frame} {len W : Nat} {Z : State} {a0 : Array Value} {h : Heap} (hZ : Z.Warmed39 s.vm) (hw : ∀ d ∈ words, d.before a0 Z = true) {kI : Nat} (wi : (Jvm.Cond.instantiable ST kI).before a0 Z = true)
    {x b : Addr} {kC : ClassId} {cs bs : List Int32} {d v0 c0 : Value} {z N : Int32} {n n0 : Nat} (hx0 : n0 ≤ x) (hh0 : n0 ≤ h.size) (E : RoadKit.Exa Z h x ST) (V : RoadKit.Fld Z h x ST "value" "[B" v0) (C : RoadKit.Fld Z h x ST "coder" "B" c0) (K : RoadKit.Arv Z h b kC .char N (cs.map Value.int) d) (S : RoadKit.Sta Z h ST "COMPACT_STRINGS" "Z" (.int z)) (hz : ¬ z = 0)
    (hn : cs.length = n) (hN : N = Int32.ofNat n) (l0 : 0 < n) (l2 : n ≤ 4000) (hp : ∀ c ∈ cs, ¬ c < 0 ∧ ¬ (255 : Int32) < c) (hb : bs = cs.map (fun c => c.toInt8.toInt32)) (hfr : 4 ≤ R.frames) (hlo : W + 65 ≤ R.locals) :
    Back l R p e below s args (⟨"java/lang/String", "<init>", "([C)V"⟩ : MethodName) len W (fun P a => a = #[.ref x, .ref b] ∧ P.U.heap = h ∧ P.cells + 1 ≤ R.cells ∧ P.slots + n ≤ R.slots)
      (fun P _ v B => ∃ L, QV Z x N bs h n0 v B.U.heap L ∧ B.locs = P.locs ++ L ∧ B.cells = P.cells + 1 ∧ B.slots = P.slots + n) := by
  subst hn hN hb
  refine Back.mono (backArv hZ hw wi E V C K S hz (n32 (by omega)) l0 (by omega) (fun c hc => (hp c hc).2) hfr hlo) (fun P a hp => hp) (fun P a v B hp hq => ?_)
  obtain ⟨L, ⟨q1, q2, q3, q4, q5, q6, q7, ⟨kb, v1, v2⟩, q9⟩, hl, hc, hs⟩ := hq
  exact ⟨L, ⟨q1, fun y hy => by rw [q2 y hy]; exact hx0, q3, q5, q7, h.size, kb, hh0, Nat.le_refl _, Nat.ne_of_gt E.lt, q6, by rw [List.map_map]; exact v2⟩, hl, hc, hs⟩
end StrChars.Road
namespace StrChars
open Jvm Sem ClassFile Op Lib Jvm.Stand Jvm.Free.XT Jvm.Free.ALB Jvm.Free.JM Jvm.Free
open Jvm.Lib.Cold (StaticIs)
def hi8 (x : Int32) : Int32 := lo8 (x >>> ((8 : Int32) &&& 31))
/-- what StringUTF16.getChar makes of two bytes -/
def pairCh (u v : Int32) : Int32 := (((u &&& 255) <<< ((0 : Int32) &&& 31)) ||| ((v &&& 255) <<< ((8 : Int32) &&& 31))).toUInt32.toUInt16.toUInt32.toInt32
theorem lo8_and (x : Int32) : (lo8 x &&& 255).toBitVec.toNat = x.toBitVec.toNat % 256 := by
  have h : (lo8 x).toBitVec = (x.toBitVec.signExtend 8).signExtend 32 := by rw [lo8, Int8.toBitVec_toInt32, Int32.toBitVec_toInt8]
  rw [Int32.toBitVec_and, BitVec.toNat_and, h]
  have e : ((x.toBitVec.signExtend 8).signExtend 32).toNat % 256 = x.toBitVec.toNat % 256 := by
    rw [BitVec.toNat_signExtend]
    have hlt := x.toBitVec.isLt
    simp only [BitVec.toNat_setWidth, BitVec.toNat_signExtend]
    split <;> split <;> omega
  rw [← e]
  exact Nat.and_two_pow_sub_one_eq_mod _ 8
theorem pair_says {c : Int32} (h0 : ¬ c < 0) (h1 : ¬ 65535 < c) : pairCh (lo8 c) (hi8 c) = c := by
  rw [Int32.lt_iff_toInt_lt] at h0 h1
  have e0 : (0 : Int32).toInt = 0 := rfl
  have e1 : (65535 : Int32).toInt = 65535 := rfl
  have hc : c.toInt = c.toBitVec.toNat := by
    have := c.toBitVec.isLt
    have e : c.toInt = c.toBitVec.toInt := rfl
    rw [e] at h0 h1
    rw [e]
    rw [BitVec.toInt_eq_toNat_cond] at h0 h1 ⊢
    split at h0 <;> split <;> omega
  have hn : c.toBitVec.toNat < 65536 := by omega
  have a1 := lo8_and c
  have a2 : (hi8 c &&& 255).toBitVec.toNat = c.toBitVec.toNat / 256 := by
    rw [hi8, lo8_and]
    have e : ((8 : Int32) &&& 31) = 8 := by decide
    rw [e, Int32.toBitVec_shiftRight]
    have e2 : ((8 : Int32).toBitVec.smod 32) = 8#32 := by decide
    rw [e2, BitVec.sshiftRight_eq', BitVec.toNat_sshiftRight_of_msb_false (by rw [BitVec.msb_eq_false_iff_two_mul_lt]; omega)]
    show c.toBitVec.toNat >>> 8 % 256 = _
    rw [Nat.shiftRight_eq_div_pow]
    omega
  unfold pairCh
  apply Int32.toBitVec_inj.mp
  apply BitVec.eq_of_toNat_eq
  have f0 : ((0 : Int32) &&& 31) = 0 := by decide
  have f8 : ((8 : Int32) &&& 31) = 8 := by decide
  rw [f0, f8]
  have g : (((lo8 c &&& 255) <<< (0 : Int32)) ||| ((hi8 c &&& 255) <<< (8 : Int32))).toBitVec.toNat = c.toBitVec.toNat := by
    rw [Int32.toBitVec_or, Int32.toBitVec_shiftLeft, Int32.toBitVec_shiftLeft]
    have s0 : ((0 : Int32).toBitVec.smod 32) = 0#32 := by decide
    have s8 : ((8 : Int32).toBitVec.smod 32) = 8#32 := by decide
    rw [s0, s8, BitVec.toNat_or]
    simp only [BitVec.shiftLeft_eq', BitVec.toNat_shiftLeft, a1, a2]
    show (c.toBitVec.toNat % 256) <<< 0 % 2 ^ 32 ||| (c.toBitVec.toNat / 256) <<< 8 % 2 ^ 32 = _
    rw [Nat.shiftLeft_zero, Nat.mod_eq_of_lt (show c.toBitVec.toNat % 256 < 2 ^ 32 by omega), Nat.mod_eq_of_lt (show (c.toBitVec.toNat / 256) <<< 8 < 2 ^ 32 by rw [Nat.shiftLeft_eq]; omega), Nat.or_comm, ← Nat.shiftLeft_add_eq_or_of_lt (by omega), Nat.shiftLeft_eq]
    omega
  show BitVec.toNat (((((lo8 c &&& 255) <<< (0 : Int32)) ||| ((hi8 c &&& 255) <<< (8 : Int32))).toBitVec.setWidth 16).setWidth 32) = _
  rw [BitVec.toNat_setWidth, BitVec.toNat_setWidth, g]
  omega
end StrChars
namespace StrChars
open Jvm Sem ClassFile Op Lib Jvm.Stand Jvm.Free.XT Jvm.Free.ALB Jvm.Free.JM Jvm.Free
open Jvm.Lib.Cold (StaticIs)
/-- the array's cell V codes the n chars f 0 .. f (n - 1) by the coder cd, as the JDK does: coder 1 just where some char is above 255 -/
def Cod (cd : Int32) (n : Nat) (f : Nat → Int32) (V : Cell) : Prop := (cd = 0 ∧ V.slots.size = n ∧ ∀ j, j < n → V.slots[j]? = some (.int (lo8 (f j))) ∧ ¬ 255 < f j) ∨ (cd = 1 ∧ V.slots.size = 2 * n ∧ (∀ j, j < n → V.slots[2 * j]? = some (.int (lo8 (f j))) ∧ V.slots[2 * j + 1]? = some (.int (hi8 (f j)))) ∧ ∃ j, j < n ∧ 255 < f j)
/-- **x is a String of the n chars f 0 .. f (n - 1)**, Latin-1 or UTF-16; its array at t has the cell V -/
def Txt (x t : Addr) (V : Cell) (cd : Int32) (n : Nat) (f : Nat → Int32) (U : State) : Prop := Exact "java/lang/String" x U ∧ Has x "java/lang/String" "value" "[B" (.ref t) U ∧ Has x "java/lang/String" "coder" "B" (.int cd) U ∧ XT.Arr .byte t V U ∧ Cod cd n f V ∧ ∀ j, j < n → ¬ f j < 0 ∧ ¬ 65535 < f j
theorem Txt.mv {x t : Addr} {V : Cell} {cd : Int32} {n : Nat} {f : Nat → Int32} {U U' : State} (h : Txt x t V cd n f U) (hal : U.vm.Alike U'.vm) (hh : U'.heap = U.heap) : Txt x t V cd n f U' := ⟨h.1.mv hal hh, h.2.1.mv hal hh, h.2.2.1.mv hal hh, h.2.2.2.1.mv hal hh, h.2.2.2.2⟩
end StrChars
namespace StrChars.Road
open Jvm Sem ClassFile Op Lib Jvm.Stand Jvm.Free Jvm.Free.XT
open Jvm.Lib.Cold (StaticIs)
theorem consq {a : Array Value} {s : State} {c : Jvm.Cond} {L : List Jvm.Cond} (h0 : c.before a s = true) (h : ∀ w ∈ L, w.before a s = true) : ∀ w ∈ c :: L, w.before a s = true := fun w hw => (List.mem_cons.mp hw).elim (fun e => e ▸ h0) (h w)
/-- the bytes of the chars cs, low before high -/
def wideBytes : List Int32 → List Value
  | [] => []
  | c :: cs => .int (lo8 c) :: .int (hi8 c) :: wideBytes cs
theorem wide_lo (d : Value) : ∀ (cs : List Int32) (j : Nat), j < cs.length → (wideBytes cs).getD (2 * j) d = .int (lo8 (cs.getD j 0))
  | [], j, h => absurd h (Nat.not_lt_zero j)
  | c :: cs, 0, _ => rfl
  | c :: cs, j + 1, h => by
    have q := wide_lo d cs j (by simpa using h)
    rw [show 2 * (j + 1) = 2 * j + 1 + 1 from by omega]
    simpa [wideBytes] using q
theorem wide_hi (d : Value) : ∀ (cs : List Int32) (j : Nat), j < cs.length → (wideBytes cs).getD (2 * j + 1) d = .int (hi8 (cs.getD j 0))
  | [], j, h => absurd h (Nat.not_lt_zero j)
  | c :: cs, 0, _ => rfl
  | c :: cs, j + 1, h => by
    have q := wide_hi d cs j (by simpa using h)
    rw [show 2 * (j + 1) + 1 = 2 * j + 1 + 1 + 1 from by omega]
    simpa [wideBytes] using q
theorem low_at (d : Value) (cs : List Int32) (j : Nat) (h : j < cs.length) : (cs.map fun c => Value.int (lo8 c)).getD j d = .int (lo8 (cs.getD j 0)) := by
  simp [List.getD_eq_getElem?_getD, h]
/-- an array of N2 bytes vs codes the chars cs by the coder cd -/
def CodA (cs : List Int32) (cd N2 : Int32) (vs : List Value) : Prop := (cd = 0 ∧ N2 = Int32.ofNat cs.length ∧ vs = (cs.map fun c => Value.int (lo8 c)) ∧ ∀ c ∈ cs, ¬ 255 < c) ∨ (cd = 1 ∧ N2 = Int32.ofNat (2 * cs.length) ∧ vs = wideBytes cs ∧ ∃ c ∈ cs, 255 < c)
theorem CodA.cod {cs : List Int32} {cd N2 : Int32} {vs : List Value} {V : Cell} (h : CodA cs cd N2 vs) (hn : 2 * cs.length < 2 ^ 31) (hs : V.slots.size = N2.toNatClampNeg) (hv : RoadKit.Has V vs (.int 0)) : Cod cd cs.length (fun j => cs.getD j 0) V := by
  rcases h with ⟨rfl, rfl, rfl, h⟩ | ⟨rfl, rfl, rfl, c, hc, hw⟩
  · rw [n32 (by omega)] at hs
    exact Or.inl ⟨rfl, hs, fun j hj => ⟨by rw [hv j (by omega), low_at _ _ _ hj], by
      have e : cs.getD j 0 = cs[j] := by simp [List.getD_eq_getElem?_getD, hj]
      show ¬ 255 < cs.getD j 0
      rw [e]; exact h _ (List.getElem_mem _)⟩⟩
  · rw [n32 (by omega)] at hs
    obtain ⟨j, hj, rfl⟩ := List.getElem_of_mem hc
    exact Or.inr ⟨rfl, hs, fun j hj => ⟨by rw [hv _ (by omega), wide_lo _ _ _ hj], by rw [hv _ (by omega), wide_hi _ _ _ hj]⟩, j, hj, by
      have e : cs.getD j 0 = cs[j] := by simp [List.getD_eq_getElem?_getD, hj]
      show 255 < cs.getD j 0
      rw [e]; exact hw⟩
/-- an object of exactly java/lang/String, its two fields found: as the laws ask it -/
theorem strObj {Z U : State} {a0 : Array Value} {kI : Nat} (wi : (Jvm.Cond.instantiable ST kI).before a0 Z = true) (al : Z.vm.Alike U.vm) {x : Addr} {v0 c0 : Value} (E : RoadKit.Exa Z U.heap x ST) (V : RoadKit.Fld Z U.heap x ST "value" "[B" v0) (C : RoadKit.Fld Z U.heap x ST "coder" "B" c0) :
    ∃ (D : Cell) (fV fC : Field), Blank ST x D U ∧ Found ST "value" "[B" fV U ∧ Found ST "coder" "B" fC U ∧ D.slots[fV.slot]? = some v0 ∧ D.slots[fC.slot]? = some c0 ∧ RoadKit.slotOf Z ST "value" "[B" = fV.slot ∧ RoadKit.slotOf Z ST "coder" "B" = fC.slot := by
  obtain ⟨D, cfV, kV, iV, fV, hD, gV, stV, knV, obV, asV, slV⟩ := V
  obtain ⟨D', cfC, kC, iC, fC, hD', gC, stC, -, -, asC, slC⟩ := C
  cases hD.symm.trans hD'
  obtain ⟨D2, kD, e1, e2, e3, e4, e5⟩ := E
  cases hD.symm.trans e1
  obtain ⟨c2, k2, i1, i2, i3, -⟩ := Cond.instantiable_spec wi
  cases e2.symm.trans i1
  cases e3.symm.trans i2
  obtain ⟨kU, u1, u2⟩ := al.2.2 _ _ e3
  exact ⟨D, fV, fC, ⟨hD, ⟨knV, fun q hq => by rw [hq] at obV; cases obV⟩, by rw [al.findClass]; exact e2, kU, u1, by rw [u2]; exact i3, by rw [u2]; exact e5 i3⟩, ⟨SBG.found_only al ⟨cfV, kV, iV, gV⟩, stV⟩, ⟨SBG.found_only al ⟨cfC, kC, iC, gC⟩, stC⟩, slV, slC, by simp [RoadKit.slotOf, gV], by simp [RoadKit.slotOf, gC]⟩
theorem sta_is {Z U : State} (al : Z.vm.Alike U.vm) {C n d : String} {v : Value} (S : RoadKit.Sta Z U.heap C n d v) : StaticIs U C n d v := by
  obtain ⟨cfS, iS, kS, fS, st, cS, t1, t2, t3, t4, t5, t6, t7⟩ := S
  exact StaticIs.there (s := { Z with heap := U.heap }) ⟨cfS, iS, kS, fS, st, cS, t1, t2, t3, t4, t5, (fun q => by rw [q] at t6; cases t6), t7⟩ al rfl
end StrChars.Road
namespace StrChars
open Jvm Sem ClassFile Op Lib Jvm.Stand Jvm.Free.XT Jvm.Free.ALB Jvm.Free.JM Jvm.Free
open Jvm.Lib.Cold (StaticIs)
/-- what place i of a byte[]'s cell holds -/
def yv (A : Cell) (i : Nat) : Int32 := match A.slots[i]? with | some (.int x) => x | _ => 0
theorem yv_get {a : Addr} {A : Cell} {U : State} (h : XT.Arr .byte a A U) (ht : Typed .byte A) {i : Nat} (hi : i < A.slots.size) : A.slots[i]? = some (.int (yv A i)) := by
  have e := Array.getElem?_eq_getElem hi
  have f := ht i _ e
  unfold yv; rw [e]
  generalize A.slots[i] = v at f
  cases v <;> simp [fits] at f ⊢
/-- the two arrays are equal, place for place -/
def EqC (A B : Cell) : Prop := A.slots.size = B.slots.size ∧ ∀ i, i < A.slots.size → yv A i = yv B i
/-- a boolean that says whether p -/
def Says01 (q : Prop) (r : Option Value) (s u : State) : Prop := ∃ v : Int32, r = some (.int v) ∧ u.heap = s.heap ∧ ((v = 1 ∧ q) ∨ (v = 0 ∧ ¬ q))
theorem Says01.mv {q : Prop} : ∀ r (U U' V V' : State), U'.heap = U.heap → V.vm.Alike V'.vm → V'.heap = V.heap → Says01 q r U V → Says01 q r U' V' :=
  fun r U U' V V' h1 _ h2 ⟨v, a, b, c⟩ => ⟨v, a, by rw [h1, h2]; exact b, c⟩
namespace LEq
def yN : MethodName := ⟨"java/lang/StringLatin1", "equals", "([B[B)Z"⟩
abbrev yB : ByteArray := jdk_43_method_13_code
theorem d0 : decode yB 0 = .ok (.aload_n 0, 1) := by decide +kernel
theorem d1 : decode yB 1 = .ok (.arraylength, 1) := by decide +kernel
theorem d2 : decode yB 2 = .ok (.aload_n 1, 1) := by decide +kernel
theorem d3 : decode yB 3 = .ok (.arraylength, 1) := by decide +kernel
theorem d4 : decode yB 4 = .ok (.if_icmp (.ne) 30, 3) := by decide +kernel
theorem d7 : decode yB 7 = .ok (.iconst 0, 1) := by decide +kernel
theorem d8 : decode yB 8 = .ok (.istore_n 2, 1) := by decide +kernel
theorem d9 : decode yB 9 = .ok (.iload_n 2, 1) := by decide +kernel
theorem d10 : decode yB 10 = .ok (.aload_n 0, 1) := by decide +kernel
theorem d11 : decode yB 11 = .ok (.arraylength, 1) := by decide +kernel
theorem d12 : decode yB 12 = .ok (.if_icmp (.ge) 20, 3) := by decide +kernel
theorem d15 : decode yB 15 = .ok (.aload_n 0, 1) := by decide +kernel
theorem d16 : decode yB 16 = .ok (.iload_n 2, 1) := by decide +kernel
theorem d17 : decode yB 17 = .ok (.baload, 1) := by decide +kernel
theorem d18 : decode yB 18 = .ok (.aload_n 1, 1) := by decide +kernel
theorem d19 : decode yB 19 = .ok (.iload_n 2, 1) := by decide +kernel
theorem d20 : decode yB 20 = .ok (.baload, 1) := by decide +kernel
theorem d21 : decode yB 21 = .ok (.if_icmp (.eq) 5, 3) := by decide +kernel
theorem d24 : decode yB 24 = .ok (.iconst 0, 1) := by decide +kernel
theorem d25 : decode yB 25 = .ok (.ireturn, 1) := by decide +kernel
theorem d26 : decode yB 26 = .ok (.iinc 2 1, 3) := by decide +kernel
theorem d29 : decode yB 29 = .ok (.goto (-20), 3) := by decide +kernel
theorem d32 : decode yB 32 = .ok (.iconst 1, 1) := by decide +kernel
theorem d33 : decode yB 33 = .ok (.ireturn, 1) := by decide +kernel
theorem d34 : decode yB 34 = .ok (.iconst 0, 1) := by decide +kernel
theorem d35 : decode yB 35 = .ok (.ireturn, 1) := by decide +kernel
def site : List Cond := []
def tab : Cond := tabOf yN yB 3 (some .boolean) site
def P (a : Addr) (A : Cell) (b : Addr) (B : Cell) (args : Array Value) (s : State) : Prop := args = #[.ref a, .ref b] ∧ XT.Arr .byte a A s ∧ Typed .byte A ∧ XT.Arr .byte b B s ∧ Typed .byte B
/-- whether two byte[] are equal, place for place -/
theorem law (l : Launch) (a : Addr) (A : Cell) (b : Addr) (B : Cell) : Law l yN 2 2 0 0 yB 3 (some .boolean) site (P a A b B) (Says01 (EqC A B)) [] 0 0 := by
  refine Law.of_walk (plainFor_of_name (by decide +kernel)) (by decide +kernel) (by decide +kernel) (by decide) (fun _ _ h => by rw [h.1]; rfl) (fun _ U U' hal hh h => ⟨h.1, h.2.1.mv hal hh, h.2.2.1, h.2.2.2.1.mv hal hh, h.2.2.2.2⟩) (fun r U U' V V' h1 hal h2 h => Says01.mv r U U' V V' h1 hal h2 h) ?_
  intro p e s m args below meth c s₁ X0 hexec hbytes hml hret hlk hnm hown hh0 W hP
  obtain ⟨rfl, hA, tA, hB, tB⟩ := hP
  have a31 := hA.2.2.2
  have b31 := hB.2.2.2
  have hA0 := hA.mv X0.warmed.alike hh0
  have hB0 := hB.mv X0.warmed.alike hh0
  have c1 : Steps p.tables e below (s₁.setTop (entryFrame m #[.ref a, .ref b] 3)) (s₁.setTop (mkF m 0 #[.val (.ref a), .val (.ref b), .unset] [])) := entry rfl
  have c2 : Steps p.tables e below (s₁.setTop (entryFrame m #[.ref a, .ref b] 3)) (s₁.setTop (mkF m 4 #[.val (.ref a), .val (.ref b), .unset] [.int (Int32.ofNat B.slots.size), .int (Int32.ofNat A.slots.size)])) := c1.trans (by
    refine XS.aloadN X0.here hexec rfl (hb hbytes d0) rfl rfl ?_
    refine X0.alen hexec hA0 rfl rfl (hb hbytes d1) ?_
    refine XS.aloadN X0.here hexec rfl (hb hbytes d2) rfl rfl ?_
    refine X0.alen hexec hB0 rfl rfl (hb hbytes d3) ?_
    exact Steps.refl _)
  by_cases hs : A.slots.size = B.slots.size
  · have c3 : Steps p.tables e below (s₁.setTop (entryFrame m #[.ref a, .ref b] 3)) (s₁.setTop (mkF m 9 #[.val (.ref a), .val (.ref b), .val (.int 0)] [])) := c2.trans (by
      refine XS.icmpNo X0.here hexec rfl (hb hbytes d4) rfl (ii_ne_f (by rw [hs])) ?_
      refine iconstV X0.here hexec rfl 0 (hb hbytes d7) (by decide) ?_
      refine XS.istoreN X0.here hexec rfl (hb hbytes d8) rfl rfl ?_
      exact Steps.refl _)
    have loop : ∀ (r i : Nat), i + r = A.slots.size → (∀ j, j < i → yv A j = yv B j) → Steps p.tables e below (s₁.setTop (entryFrame m #[.ref a, .ref b] 3)) (s₁.setTop (mkF m 9 #[.val (.ref a), .val (.ref b), .val (.int (Int32.ofNat i))] [])) → ∃ (pc : Nat) (Ls : Array Slot) (v : Int32), (pc = 25 ∨ pc = 33) ∧ ((v = 1 ∧ EqC A B) ∨ (v = 0 ∧ ¬ EqC A B)) ∧ Steps p.tables e below (s₁.setTop (entryFrame m #[.ref a, .ref b] 3)) (s₁.setTop (mkF m pc Ls [.int v])) := by
      intro r
      induction r with
      | zero =>
        intro i hi he cl
        exact ⟨33, _, 1, Or.inr rfl, Or.inl ⟨rfl, hs, fun j hj => he j (by omega)⟩, cl.trans (by
          refine XS.iloadN X0.here hexec rfl (hb hbytes d9) rfl ?_
          refine XS.aloadN X0.here hexec rfl (hb hbytes d10) rfl rfl ?_
          refine X0.alen hexec hA0 rfl rfl (hb hbytes d11) ?_
          refine XS.icmpYes X0.here hexec rfl (pc0 := 12) rfl (hb hbytes d12) rfl (ii_ge_t (nlt32 (by omega) (by omega))) (by decide) rfl ?_
          refine iconstV X0.here hexec rfl 1 (hb hbytes d32) (by decide) ?_
          exact Steps.refl _)⟩
      | succ r ih =>
        intro i hi he cl
        have c4 : Steps p.tables e below (s₁.setTop (entryFrame m #[.ref a, .ref b] 3)) (s₁.setTop (mkF m 21 #[.val (.ref a), .val (.ref b), .val (.int (Int32.ofNat i))] [.int (yv B i), .int (yv A i)])) := cl.trans (by
          refine XS.iloadN X0.here hexec rfl (hb hbytes d9) rfl ?_
          refine XS.aloadN X0.here hexec rfl (hb hbytes d10) rfl rfl ?_
          refine X0.alen hexec hA0 rfl rfl (hb hbytes d11) ?_
          refine XS.icmpNo X0.here hexec rfl (hb hbytes d12) rfl (ii_ge_f (lt32 (by omega) (by omega))) ?_
          refine XS.aloadN X0.here hexec rfl (hb hbytes d15) rfl rfl ?_
          refine XS.iloadN X0.here hexec rfl (hb hbytes d16) rfl ?_
          refine X0.aget hexec hA0 rfl (yv_get hA tA (i := i) (by omega)) rfl rfl (hb hbytes d17) ?_
          refine XS.aloadN X0.here hexec rfl (hb hbytes d18) rfl rfl ?_
          refine XS.iloadN X0.here hexec rfl (hb hbytes d19) rfl ?_
          refine X0.aget hexec hB0 rfl (yv_get hB tB (i := i) (by omega)) rfl rfl (hb hbytes d20) ?_
          exact Steps.refl _)
        by_cases hv : yv A i = yv B i
        · have c5 : Steps p.tables e below (s₁.setTop (entryFrame m #[.ref a, .ref b] 3)) (s₁.setTop (mkF m 9 #[.val (.ref a), .val (.ref b), .val (.int (Int32.ofNat i + 1))] [])) := c4.trans (by
            refine XS.icmpYes X0.here hexec rfl (pc0 := 21) rfl (hb hbytes d21) rfl (ii_eq_t hv) (by decide) rfl ?_
            refine iincV X0.here hexec rfl 1 (hb hbytes d26) (by decide) rfl rfl ?_
            refine XS.goto X0.here hexec rfl (pc0 := 29) rfl (hb hbytes d29) (by decide) rfl ?_
            exact Steps.refl _)
          rw [succ32] at c5
          exact ih (i + 1) (by omega) (fun j hj => by
            by_cases e : j = i
            · rw [e]; exact hv
            · exact he j (by omega)) c5
        · exact ⟨25, _, 0, Or.inl rfl, Or.inr ⟨rfl, fun q => hv (q.2 i (by omega))⟩, c4.trans (by
            refine XS.icmpNo X0.here hexec rfl (hb hbytes d21) rfl (ii_eq_f hv) ?_
            refine iconstV X0.here hexec rfl 0 (hb hbytes d24) (by decide) ?_
            exact Steps.refl _)⟩
    obtain ⟨pc, Ls, v, hpc, hv, cz⟩ := loop A.slots.size 0 (by omega) (fun j hj => absurd hj (Nat.not_lt_zero j)) c3
    have nv : narrow .boolean (.int v) = .int v := by rcases hv with ⟨rfl, -⟩ | ⟨rfl, -⟩ <;> rfl
    rcases hpc with rfl | rfl
    · exact ⟨s₁, some (.int v), _, _, _, X0, rfl, rfl, rfl, (fun h => by cases h), ⟨v, rfl, hh0, hv⟩, fun fs hl => cz.trans (X0.ireturnOut hexec hret nv (Or.inr (Or.inl rfl)) (hb hbytes d25) hl)⟩
    · exact ⟨s₁, some (.int v), _, _, _, X0, rfl, rfl, rfl, (fun h => by cases h), ⟨v, rfl, hh0, hv⟩, fun fs hl => cz.trans (X0.ireturnOut hexec hret nv (Or.inr (Or.inl rfl)) (hb hbytes d33) hl)⟩
  · have c3 : Steps p.tables e below (s₁.setTop (entryFrame m #[.ref a, .ref b] 3)) (s₁.setTop (mkF m 35 #[.val (.ref a), .val (.ref b), .unset] [.int 0])) := c2.trans (by
      refine XS.icmpYes X0.here hexec rfl (pc0 := 4) rfl (hb hbytes d4) rfl (ii_ne_t (ne32 a31 b31 hs)) (by decide) rfl ?_
      refine iconstV X0.here hexec rfl 0 (hb hbytes d34) (by decide) ?_
      exact Steps.refl _)
    exact ⟨s₁, some (.int 0), _, _, _, X0, rfl, rfl, rfl, (fun h => by cases h), ⟨0, rfl, hh0, Or.inr ⟨rfl, fun q => hs q.1⟩⟩, fun fs hl => c3.trans (X0.ireturnOut hexec hret rfl (Or.inr (Or.inl rfl)) (hb hbytes d35) hl)⟩
end LEq
theorem Cod.ty {cd : Int32} {n : Nat} {f : Nat → Int32} {V : Cell} (h : Cod cd n f V) : Typed .byte V := fun i v hv => by
  have hi : i < V.slots.size := (Array.getElem?_eq_some_iff.mp hv).1
  rcases h with ⟨-, k1, k2⟩ | ⟨-, k1, k2, -⟩
  · rw [(k2 i (by omega)).1] at hv; cases hv; exact fits_lo8 _
  · rcases Nat.mod_two_eq_zero_or_one i with e | e
    · obtain ⟨j, rfl⟩ : ∃ j, i = 2 * j := ⟨i / 2, by omega⟩
      rw [(k2 j (by omega)).1] at hv; cases hv; exact fits_lo8 _
    · obtain ⟨j, rfl⟩ : ∃ j, i = 2 * j + 1 := ⟨i / 2, by omega⟩
      rw [(k2 j (by omega)).2] at hv; cases hv; exact fits_lo8 _
/-- the same text -/
def SameT (n : Nat) (f : Nat → Int32) (k : Nat) (g : Nat → Int32) : Prop := n = k ∧ ∀ j, j < n → f j = g j
theorem lo8_inj {x y : Int32} (h0 : ¬ x < 0) (h1 : ¬ 255 < x) (k0 : ¬ y < 0) (k1 : ¬ 255 < y) (h : lo8 x = lo8 y) : x = y := by
  rw [← lo8_mask h0 h1, ← lo8_mask k0 k1, h]
/-- arrays coded by one coder are equal just where the texts are -/
theorem Cod.eqv {cd : Int32} {n k : Nat} {f g : Nat → Int32} {V V' : Cell} (h : Cod cd n f V) (h' : Cod cd k g V') (hf : ∀ j, j < n → ¬ f j < 0 ∧ ¬ 65535 < f j) (hg : ∀ j, j < k → ¬ g j < 0 ∧ ¬ 65535 < g j) : EqC V V' ↔ SameT n f k g := by
  have yvv : ∀ {W : Cell} {i : Nat} {x : Int32}, W.slots[i]? = some (.int x) → yv W i = x := fun q => by unfold yv; rw [q]
  rcases h with ⟨rfl, k1, k2⟩ | ⟨rfl, k1, k2, -⟩
  · rcases h' with ⟨-, m1, m2⟩ | ⟨e, -⟩
    · constructor
      · rintro ⟨e1, e2⟩
        refine ⟨by omega, fun j hj => ?_⟩
        have q := e2 j (by omega)
        rw [yvv (k2 j hj).1, yvv (m2 j (by omega)).1] at q
        exact lo8_inj (hf j hj).1 (k2 j hj).2 (hg j (by omega)).1 (m2 j (by omega)).2 q
      · rintro ⟨rfl, e2⟩
        refine ⟨by omega, fun j hj => ?_⟩
        rw [yvv (k2 j (by omega)).1, yvv (m2 j (by omega)).1, e2 j (by omega)]
    · exact absurd e (by decide)
  · rcases h' with ⟨e, -⟩ | ⟨-, m1, m2, -⟩
    · exact absurd e (by decide)
    · constructor
      · rintro ⟨e1, e2⟩
        refine ⟨by omega, fun j hj => ?_⟩
        have q1 := e2 (2 * j) (by omega)
        have q2 := e2 (2 * j + 1) (by omega)
        rw [yvv (k2 j hj).1, yvv (m2 j (by omega)).1] at q1
        rw [yvv (k2 j hj).2, yvv (m2 j (by omega)).2] at q2
        rw [← pair_says (hf j hj).1 (hf j hj).2, ← pair_says (hg j (by omega)).1 (hg j (by omega)).2, q1, q2]
      · rintro ⟨rfl, e2⟩
        refine ⟨by omega, fun i hi => ?_⟩
        rcases Nat.mod_two_eq_zero_or_one i with e | e
        · obtain ⟨j, rfl⟩ : ∃ j, i = 2 * j := ⟨i / 2, by omega⟩
          rw [yvv (k2 j (by omega)).1, yvv (m2 j (by omega)).1, e2 j (by omega)]
        · obtain ⟨j, rfl⟩ : ∃ j, i = 2 * j + 1 := ⟨i / 2, by omega⟩
          rw [yvv (k2 j (by omega)).2, yvv (m2 j (by omega)).2, e2 j (by omega)]
/-- two codings differ: so do the texts -/
theorem Cod.dif {cd cd' : Int32} {n k : Nat} {f g : Nat → Int32} {V V' : Cell} (h : Cod cd n f V) (h' : Cod cd' k g V') (hne : ¬ cd = cd') : ¬ SameT n f k g := by
  rintro ⟨rfl, e⟩
  rcases h with ⟨rfl, -, k2⟩ | ⟨rfl, -, -, j, hj, hw⟩
  · rcases h' with ⟨rfl, -⟩ | ⟨-, -, -, j, hj, hw⟩
    · exact hne rfl
    · exact (k2 j hj).2 (by rw [e j hj]; exact hw)
  · rcases h' with ⟨-, -, m2⟩ | ⟨rfl, -⟩
    · exact (m2 j hj).2 (by rw [← e j hj]; exact hw)
    · exact hne rfl
/-- an object of exactly C is an instance of C -/
theorem cinst {p : Program} {l : Launch} {e : Env} {R : Room} {s : State} {m : MethodId} {args : Array Value} {below : List Frame} {meth : Method} {c : Code} {T : State} {locs : List Loc} {cells slots : Nat} (X : Stand p l e R s m args below meth c T locs cells slots) (hexec : p.tables.exec = Jvm.exec) {own C : String} {index : Nat} (hown : s.vm.findClass own = some m.cls) (hlink : (Cond.classLink own index C).before args s = true) {a : Addr} (hE : Exact C a T)
    {g : JFrame} (hg : g.method = m) {rest : List Value} (hstack : g.stack = .ref a :: rest) (hdg : decode c.code g.pc = .ok (.instanceof index, 3)) :
    ∃ T', Stand p l e R s m args below meth c T' locs cells slots ∧ T'.heap = T.heap ∧ ∀ target, Steps p.tables e below (T'.setTop { g with pc := g.pc + 3, stack := .int 1 :: rest }) target → Steps p.tables e below (T.setTop g) target := by
  obtain ⟨cB, h1, D, h2, h3, h4⟩ := hE
  have h1' : s.vm.findClass C = some cB := by rw [← X.warmed.alike.findClass]; exact h1
  obtain ⟨vm', X', st⟩ := X.instanceofYes hexec hown hlink h2 h4 h1' (by rw [h3]; exact Jvm.Free.SB.assignable_self _ _) hg hstack hdg
  exact ⟨_, X', rfl, st⟩
theorem cself {p : Program} {l : Launch} {e : Env} {R : Room} {s : State} {m : MethodId} {args : Array Value} {below : List Frame} {meth : Method} {c : Code} {T : State} {locs : List Loc} {cells slots : Nat} (X : Stand p l e R s m args below meth c T locs cells slots) (hexec : p.tables.exec = Jvm.exec) {own C : String} {index : Nat} (hown : s.vm.findClass own = some m.cls) (hlink : (Cond.classLink own index C).before args s = true) {a : Addr} (hE : Exact C a T)
    {g : JFrame} (hg : g.method = m) {rest : List Value} (hstack : g.stack = .ref a :: rest) (hdg : decode c.code g.pc = .ok (.checkcast index, 3)) :
    ∃ T', Stand p l e R s m args below meth c T' locs cells slots ∧ T'.heap = T.heap ∧ ∀ target, Steps p.tables e below (T'.setTop { g with pc := g.pc + 3, stack := .ref a :: rest }) target → Steps p.tables e below (T.setTop g) target := by
  obtain ⟨cB, h1, D, h2, h3, h4⟩ := hE
  have h1' : s.vm.findClass C = some cB := by rw [← X.warmed.alike.findClass]; exact h1
  obtain ⟨vm', X', st⟩ := X.checkcastYes hexec hown hlink h2 h4 h1' (by rw [h3]; exact Jvm.Free.SB.assignable_self _ _) hg hstack hdg
  exact ⟨_, X', rfl, fun t h => st t (by rw [← hstack] at h; exact h)⟩
namespace SEq
def yN : MethodName := ⟨"java/lang/String", "equals", "(Ljava/lang/Object;)Z"⟩
abbrev yB : ByteArray := jdk_42_method_66_code
theorem d0 : decode yB 0 = .ok (.aload_n 0, 1) := by decide +kernel
theorem d1 : decode yB 1 = .ok (.aload_n 1, 1) := by decide +kernel
theorem d2 : decode yB 2 = .ok (.if_acmp (.ne) 5, 3) := by decide +kernel
theorem d5 : decode yB 5 = .ok (.iconst 1, 1) := by decide +kernel
theorem d6 : decode yB 6 = .ok (.ireturn, 1) := by decide +kernel
theorem d7 : decode yB 7 = .ok (.aload_n 1, 1) := by decide +kernel
theorem d8 : decode yB 8 = .ok (.instanceof 10, 3) := by decide +kernel
theorem d11 : decode yB 11 = .ok (.ifCond (.eq) 43, 3) := by decide +kernel
theorem d14 : decode yB 14 = .ok (.aload_n 1, 1) := by decide +kernel
theorem d15 : decode yB 15 = .ok (.checkcast 10, 3) := by decide +kernel
theorem d18 : decode yB 18 = .ok (.astore_n 2, 1) := by decide +kernel
theorem d19 : decode yB 19 = .ok (.getstatic 38, 3) := by decide +kernel
theorem d22 : decode yB 22 = .ok (.ifCond (.eq) 14, 3) := by decide +kernel
theorem d25 : decode yB 25 = .ok (.aload_n 0, 1) := by decide +kernel
theorem d26 : decode yB 26 = .ok (.getfield 15, 3) := by decide +kernel
theorem d29 : decode yB 29 = .ok (.aload_n 2, 1) := by decide +kernel
theorem d30 : decode yB 30 = .ok (.getfield 15, 3) := by decide +kernel
theorem d33 : decode yB 33 = .ok (.if_icmp (.ne) 21, 3) := by decide +kernel
theorem d36 : decode yB 36 = .ok (.aload_n 0, 1) := by decide +kernel
theorem d37 : decode yB 37 = .ok (.getfield 9, 3) := by decide +kernel
theorem d40 : decode yB 40 = .ok (.aload_n 2, 1) := by decide +kernel
theorem d41 : decode yB 41 = .ok (.getfield 9, 3) := by decide +kernel
theorem d44 : decode yB 44 = .ok (.invokestatic 541, 3) := by decide +kernel
theorem d47 : decode yB 47 = .ok (.ifCond (.eq) 7, 3) := by decide +kernel
theorem d50 : decode yB 50 = .ok (.iconst 1, 1) := by decide +kernel
theorem d51 : decode yB 51 = .ok (.goto 4, 3) := by decide +kernel
theorem d54 : decode yB 54 = .ok (.iconst 0, 1) := by decide +kernel
theorem d55 : decode yB 55 = .ok (.ireturn, 1) := by decide +kernel
def site : List Cond := [.classLink "java/lang/String" 10 "java/lang/String", .fieldLink "java/lang/String" 38 "java/lang/String" "COMPACT_STRINGS" "Z", .fieldLink "java/lang/String" 15 "java/lang/String" "coder" "B", .fieldLink "java/lang/String" 9 "java/lang/String" "value" "[B", LEq.tab] ++ staticW "java/lang/String" 541 LEq.yN
def tab : Cond := tabOf yN yB 3 (some .boolean) site
def P (x t : Addr) (V : Cell) (cd : Int32) (n : Nat) (f : Nat → Int32) (y t' : Addr) (V' : Cell) (cd' : Int32) (k : Nat) (g : Nat → Int32) (z : Int32) (args : Array Value) (s : State) : Prop := args = #[.ref x, .ref y] ∧ Txt x t V cd n f s ∧ Txt y t' V' cd' k g s ∧ StaticIs s "java/lang/String" "COMPACT_STRINGS" "Z" (.int z) ∧ ¬ z = 0
/-- equals(Object) of two Strings: whether the texts are the same -/
theorem law (l : Launch) (x t : Addr) (V : Cell) (cd : Int32) (n : Nat) (f : Nat → Int32) (y t' : Addr) (V' : Cell) (cd' : Int32) (k : Nat) (g : Nat → Int32) (z : Int32) : Law l yN 2 1 1 14 yB 3 (some .boolean) site (P x t V cd n f y t' V' cd' k g z) (Says01 (SameT n f k g)) [] 0 0 := by
  refine Law.of_walk (plainFor_of_name (by decide +kernel)) (by decide +kernel) (by decide +kernel) (by decide) (fun _ _ h => by rw [h.1]; rfl) (fun _ U U' hal hh h => ⟨h.1, h.2.1.mv hal hh, h.2.2.1.mv hal hh, h.2.2.2.1.there hal hh, h.2.2.2.2⟩) (fun r U U' V V' h1 hal h2 h => Says01.mv r U U' V V' h1 hal h2 h) ?_
  intro p e s m args below meth c s₁ X0 hexec hbytes hml hret hlk hnm hown hh0 W hP
  obtain ⟨rfl, hx, hy, s1, hz⟩ := hP
  have c1 : Steps p.tables e below (s₁.setTop (entryFrame m #[.ref x, .ref y] 3)) (s₁.setTop (mkF m 2 #[.val (.ref x), .val (.ref y), .unset] [.ref y, .ref x])) := Steps.trans (entry rfl) (by
    show Steps p.tables e below (s₁.setTop (mkF m 0 #[.val (.ref x), .val (.ref y), .unset] [])) _
    refine XS.aloadN X0.here hexec rfl (hb hbytes d0) rfl rfl ?_
    refine XS.aloadN X0.here hexec rfl (hb hbytes d1) rfl rfl ?_
    exact Steps.refl _)
  by_cases hxy : x = y
  · have c2 : Steps p.tables e below (s₁.setTop (entryFrame m #[.ref x, .ref y] 3)) (s₁.setTop (mkF m 6 #[.val (.ref x), .val (.ref y), .unset] [.int 1])) := c1.trans (by
      refine acmpNo X0.here hexec rfl (hb hbytes d2) rfl rfl rfl (by simp [acmp, hxy]) ?_
      refine iconstV X0.here hexec rfl 1 (hb hbytes d5) (by decide) ?_
      exact Steps.refl _)
    subst hxy
    have ec : cd = cd' := by
      obtain ⟨D, fd, a1, a2, a3⟩ := hx.2.2.1
      obtain ⟨D', fd', b1, b2, b3⟩ := hy.2.2.1
      cases a1.symm.trans b1
      obtain ⟨q1, q2, q3, q4⟩ := a2.1
      obtain ⟨r1, r2, r3, r4⟩ := b2.1
      cases q4.symm.trans r4
      cases a3.symm.trans b3; rfl
    have et : t = t' := by
      obtain ⟨D, fd, a1, a2, a3⟩ := hx.2.1
      obtain ⟨D', fd', b1, b2, b3⟩ := hy.2.1
      cases a1.symm.trans b1
      obtain ⟨q1, q2, q3, q4⟩ := a2.1
      obtain ⟨r1, r2, r3, r4⟩ := b2.1
      cases q4.symm.trans r4
      cases a3.symm.trans b3; rfl
    subst ec et
    have ev : V = V' := by cases hx.2.2.2.1.1.symm.trans hy.2.2.2.1.1; rfl
    subst ev
    have hs : SameT n f k g := (Cod.eqv hx.2.2.2.2.1 hy.2.2.2.2.1 hx.2.2.2.2.2 hy.2.2.2.2.2).mp ⟨rfl, fun _ _ => rfl⟩
    exact ⟨s₁, some (.int 1), _, _, _, X0, rfl, rfl, rfl, (fun h => by cases h), ⟨1, rfl, hh0, Or.inl ⟨rfl, hs⟩⟩, fun fs hl => c2.trans (X0.ireturnOut hexec hret rfl (Or.inr (Or.inl rfl)) (hb hbytes d6) hl)⟩
  · have c2 : Steps p.tables e below (s₁.setTop (entryFrame m #[.ref x, .ref y] 3)) (s₁.setTop (mkF m 8 #[.val (.ref x), .val (.ref y), .unset] [.ref y])) := c1.trans (by
      refine acmpYes X0.here hexec rfl (pc0 := 2) rfl (hb hbytes d2) rfl rfl rfl (by simp [acmp, hxy]) (by decide) rfl ?_
      refine XS.aloadN X0.here hexec rfl (hb hbytes d7) rfl rfl ?_
      exact Steps.refl _)
    obtain ⟨T3, X3, q3, st3⟩ := cinst X0 hexec hown (wk W (.classLink "java/lang/String" 10 "java/lang/String")) (hy.mv X0.warmed.alike hh0).1 (g := (mkF m 8 #[.val (.ref x), .val (.ref y), .unset] [.ref y])) rfl (rest := []) rfl (hb hbytes d8)
    have hh3 := q3.trans hh0
    have c4 : Steps p.tables e below (s₁.setTop (entryFrame m #[.ref x, .ref y] 3)) (T3.setTop (mkF m 15 #[.val (.ref x), .val (.ref y), .unset] [.ref y])) := (c2.trans (st3 _ (Steps.refl _))).trans (by
      refine XS.ifNo X3.here hexec rfl (hb hbytes d11) rfl (i0_eq_f (by decide)) ?_
      refine XS.aloadN X3.here hexec rfl (hb hbytes d14) rfl rfl ?_
      exact Steps.refl _)
    obtain ⟨T5, X5, q5, st5⟩ := cself X3 hexec hown (wk W (.classLink "java/lang/String" 10 "java/lang/String")) (hy.mv X3.warmed.alike hh3).1 (g := (mkF m 15 #[.val (.ref x), .val (.ref y), .unset] [.ref y])) rfl (rest := []) rfl (hb hbytes d15)
    have hh5 := q5.trans hh3
    have c6 : Steps p.tables e below (s₁.setTop (entryFrame m #[.ref x, .ref y] 3)) (T5.setTop (mkF m 19 #[.val (.ref x), .val (.ref y), .val (.ref y)] [])) := (c4.trans (st5 _ (Steps.refl _))).trans (by
      refine XS.astoreN X5.here hexec rfl (hb hbytes d18) rfl rfl rfl ?_
      exact Steps.refl _)
    obtain ⟨T7, X7, q7, st7⟩ := X5.sget hexec hown (wk W (.fieldLink "java/lang/String" 38 "java/lang/String" "COMPACT_STRINGS" "Z")) s1 (fun _ _ h => by rw [hh5]; exact h) (g := (mkF m 19 #[.val (.ref x), .val (.ref y), .val (.ref y)] [])) rfl (hb hbytes d19)
    have hh7 := q7.trans hh5
    have c8 : Steps p.tables e below (s₁.setTop (entryFrame m #[.ref x, .ref y] 3)) (T7.setTop (mkF m 26 #[.val (.ref x), .val (.ref y), .val (.ref y)] [.ref x])) := (c6.trans (st7 _ (Steps.refl _))).trans (by
      refine XS.ifNo X7.here hexec rfl (hb hbytes d22) rfl (i0_eq_f hz) ?_
      refine XS.aloadN X7.here hexec rfl (hb hbytes d25) rfl rfl ?_
      exact Steps.refl _)
    obtain ⟨T9, X9, q9, st9⟩ := X7.hget hexec hown (wk W (.fieldLink "java/lang/String" 15 "java/lang/String" "coder" "B")) (hx.mv X7.warmed.alike hh7).2.2.1 (g := (mkF m 26 #[.val (.ref x), .val (.ref y), .val (.ref y)] [.ref x])) rfl (rest := []) rfl (hb hbytes d26)
    have hh9 := q9.trans hh7
    have c10 : Steps p.tables e below (s₁.setTop (entryFrame m #[.ref x, .ref y] 3)) (T9.setTop (mkF m 30 #[.val (.ref x), .val (.ref y), .val (.ref y)] [.ref y, .int cd])) := (c8.trans (st9 _ (Steps.refl _))).trans (by
      refine XS.aloadN X9.here hexec rfl (hb hbytes d29) rfl rfl ?_
      exact Steps.refl _)
    obtain ⟨T11, X11, q11, st11⟩ := X9.hget hexec hown (wk W (.fieldLink "java/lang/String" 15 "java/lang/String" "coder" "B")) (hy.mv X9.warmed.alike hh9).2.2.1 (g := (mkF m 30 #[.val (.ref x), .val (.ref y), .val (.ref y)] [.ref y, .int cd])) rfl (rest := [.int cd]) rfl (hb hbytes d30)
    have hh11 := q11.trans hh9
    have c12 : Steps p.tables e below (s₁.setTop (entryFrame m #[.ref x, .ref y] 3)) (T11.setTop (mkF m 33 #[.val (.ref x), .val (.ref y), .val (.ref y)] [.int cd', .int cd])) := c10.trans (st11 _ (Steps.refl _))
    by_cases hcd : cd = cd'
    · subst hcd
      have c13 : Steps p.tables e below (s₁.setTop (entryFrame m #[.ref x, .ref y] 3)) (T11.setTop (mkF m 37 #[.val (.ref x), .val (.ref y), .val (.ref y)] [.ref x])) := c12.trans (by
        refine XS.icmpNo X11.here hexec rfl (hb hbytes d33) rfl (ii_ne_f rfl) ?_
        refine XS.aloadN X11.here hexec rfl (hb hbytes d36) rfl rfl ?_
        exact Steps.refl _)
      obtain ⟨T14, X14, q14, st14⟩ := X11.hget hexec hown (wk W (.fieldLink "java/lang/String" 9 "java/lang/String" "value" "[B")) (hx.mv X11.warmed.alike hh11).2.1 (g := (mkF m 37 #[.val (.ref x), .val (.ref y), .val (.ref y)] [.ref x])) rfl (rest := []) rfl (hb hbytes d37)
      have hh14 := q14.trans hh11
      have c15 : Steps p.tables e below (s₁.setTop (entryFrame m #[.ref x, .ref y] 3)) (T14.setTop (mkF m 41 #[.val (.ref x), .val (.ref y), .val (.ref y)] [.ref y, .ref t])) := (c13.trans (st14 _ (Steps.refl _))).trans (by
        refine XS.aloadN X14.here hexec rfl (hb hbytes d40) rfl rfl ?_
        exact Steps.refl _)
      obtain ⟨T16, X16, q16, st16⟩ := X14.hget hexec hown (wk W (.fieldLink "java/lang/String" 9 "java/lang/String" "value" "[B")) (hy.mv X14.warmed.alike hh14).2.1 (g := (mkF m 41 #[.val (.ref x), .val (.ref y), .val (.ref y)] [.ref y, .ref t])) rfl (rest := [.ref t]) rfl (hb hbytes d41)
      have hh16 := q16.trans hh14
      have c17 : Steps p.tables e below (s₁.setTop (entryFrame m #[.ref x, .ref y] 3)) (T16.setTop (mkF m 44 #[.val (.ref x), .val (.ref y), .val (.ref y)] [.ref t', .ref t])) := c15.trans (st16 _ (Steps.refl _))
      obtain ⟨v18, T18, X18, E18, g18⟩ := X16.callS hexec (LEq.law l t V t' V') hown (wks W (staticW "java/lang/String" 541 LEq.yN)) (wk W LEq.tab) (W := 0) (Nat.le_of_ble_eq_true rfl) (Nat.le_of_ble_eq_true rfl) (Nat.le_refl _) (Nat.le_refl _) (g := (mkF m 44 #[.val (.ref x), .val (.ref y), .val (.ref y)] [.ref t', .ref t])) rfl (by rw [hml]; rfl) c17 (argsL := [.ref t, .ref t']) (rest := []) rfl rfl (by show 2 * 0 + 0 ≤ _; decide) (hb hbytes d44) (⟨rfl, hx.2.2.2.1.mv X16.warmed.alike hh16, hx.2.2.2.2.1.ty, hy.2.2.2.1.mv X16.warmed.alike hh16, hy.2.2.2.2.1.ty⟩)
      obtain ⟨v, rfl, q18, hv⟩ := E18
      have iff := Cod.eqv hx.2.2.2.2.1 hy.2.2.2.2.1 hx.2.2.2.2.2 hy.2.2.2.2.2
      rcases hv with ⟨rfl, he⟩ | ⟨rfl, he⟩
      · have c19 : Steps p.tables e below (s₁.setTop (entryFrame m #[.ref x, .ref y] 3)) (T18.setTop (mkF m 55 #[.val (.ref x), .val (.ref y), .val (.ref y)] [.int 1])) := Steps.trans g18 (by
          refine XS.ifNo X18.here hexec rfl (hb hbytes d47) rfl (i0_eq_f (by decide)) ?_
          refine iconstV X18.here hexec rfl 1 (hb hbytes d50) (by decide) ?_
          refine XS.goto X18.here hexec rfl (pc0 := 51) rfl (hb hbytes d51) (by decide) rfl ?_
          exact Steps.refl _)
        exact ⟨T18, some (.int 1), _, _, _, X18, rfl, rfl, rfl, (fun h => by cases h), ⟨1, rfl, q18.trans hh16, Or.inl ⟨rfl, iff.mp he⟩⟩, fun fs hl => c19.trans (X18.ireturnOut hexec hret rfl (Or.inr (Or.inl rfl)) (hb hbytes d55) hl)⟩
      · have c19 : Steps p.tables e below (s₁.setTop (entryFrame m #[.ref x, .ref y] 3)) (T18.setTop (mkF m 55 #[.val (.ref x), .val (.ref y), .val (.ref y)] [.int 0])) := Steps.trans g18 (by
          refine XS.ifYes X18.here hexec rfl (pc0 := 47) rfl (hb hbytes d47) rfl (i0_eq_t rfl) (by decide) rfl ?_
          refine iconstV X18.here hexec rfl 0 (hb hbytes d54) (by decide) ?_
          exact Steps.refl _)
        exact ⟨T18, some (.int 0), _, _, _, X18, rfl, rfl, rfl, (fun h => by cases h), ⟨0, rfl, q18.trans hh16, Or.inr ⟨rfl, fun q => he (iff.mpr q)⟩⟩, fun fs hl => c19.trans (X18.ireturnOut hexec hret rfl (Or.inr (Or.inl rfl)) (hb hbytes d55) hl)⟩
    · have c13 : Steps p.tables e below (s₁.setTop (entryFrame m #[.ref x, .ref y] 3)) (T11.setTop (mkF m 55 #[.val (.ref x), .val (.ref y), .val (.ref y)] [.int 0])) := c12.trans (by
        refine XS.icmpYes X11.here hexec rfl (pc0 := 33) rfl (hb hbytes d33) rfl (ii_ne_t hcd) (by decide) rfl ?_
        refine iconstV X11.here hexec rfl 0 (hb hbytes d54) (by decide) ?_
        exact Steps.refl _)
      exact ⟨T11, some (.int 0), _, _, _, X11, rfl, rfl, rfl, (fun h => by cases h), ⟨0, rfl, hh11, Or.inr ⟨rfl, Cod.dif hx.2.2.2.2.1 hy.2.2.2.2.1 hcd⟩⟩, fun fs hl => c13.trans (X11.ireturnOut hexec hret rfl (Or.inr (Or.inl rfl)) (hb hbytes d55) hl)⟩
theorem pays {l : Launch} {R : Room} {p : Program} {e : Env} {below : List Frame} {s : State} {sargs : Array Value} {len W : Nat} (x t : Addr) (V : Cell) (cd : Int32) (n : Nat) (f : Nat → Int32) (y t' : Addr) (V' : Cell) (cd' : Int32) (k : Nat) (g : Nat → Int32) (z : Int32) (htab : tab.before sargs s = true) (hfr : 2 ≤ R.frames) (hlo : W + 28 ≤ R.locals) :
    Back l R p e below s sargs yN len W (fun A₁ a₁ => A₁.cells + 0 ≤ R.cells ∧ A₁.slots + 0 ≤ R.slots ∧ P x t V cd n f y t' V' cd' k g z a₁ A₁.U) (fun A₁ _ v₁ B₁ => Says01 (SameT n f k g) v₁ A₁.U B₁.U ∧ B₁.locs = A₁.locs ++ [] ∧ B₁.cells = A₁.cells + 0 ∧ B₁.slots = A₁.slots + 0) :=
  (law l x t V cd n f y t' V' cd' k g z).pays htab hfr (by omega)
end SEq
end StrChars
namespace StrChars.Road
open Jvm Sem ClassFile Op Lib Jvm.Stand Jvm.Free Jvm.Free.XT
open Jvm.Lib.Cold (StaticIs)
/-- the words of String.equals(Object) -/
abbrev wordsEq : List Jvm.Cond := [.code SEq.yN SEq.yB 3 (some .boolean), .initialized ST, .classLink ST 10 ST, .fieldLink ST 38 ST "COMPACT_STRINGS" "Z", .fieldLink ST 15 ST "coder" "B", .fieldLink ST 9 ST "value" "[B", .methodLink ST 541 LEq.yN, .static LEq.yN, .code LEq.yN LEq.yB 3 (some .boolean), .initialized "java/lang/StringLatin1"]
theorem tabEq_of {a : Array Value} {s : State} (h : ∀ w ∈ wordsEq, w.before a s = true) : SEq.tab.before a s = true := by
  have hl : LEq.tab.before a s = true := unparts (wk h (.code LEq.yN LEq.yB 3 (some .boolean))) (wks h (.initialized LEq.yN.cls :: LEq.site))
  have q := consq hl h
  exact unparts (wk q (.code SEq.yN SEq.yB 3 (some .boolean))) (wks q (.initialized SEq.yN.cls :: SEq.site))
theorem movedEq {Z s : State} {a0 args : Array Value} (hZ : Z.Warmed39 s.vm) (hw : ∀ d ∈ wordsEq, d.before a0 Z = true) : ∀ d ∈ wordsEq, d.before args s = true := fun d hd => by
  have t : ∀ d ∈ wordsEq, (d.onTables && d.keepsFace) = true := by decide +kernel
  exact RoadKit.mv hZ (hw d hd) (t d hd)
/-- the road's facts of a String, as the laws ask it -/
theorem txt_of {Z U : State} {a0 : Array Value} {kI : Nat} (wi : (Jvm.Cond.instantiable ST kI).before a0 Z = true) (al : Z.vm.Alike U.vm) {x t : Addr} {kb : ClassId} {cs : List Int32} {cd N2 : Int32} {vs : List Value} (E : RoadKit.Exa Z U.heap x ST) (V : RoadKit.Fld Z U.heap x ST "value" "[B" (.ref t)) (C : RoadKit.Fld Z U.heap x ST "coder" "B" (.int cd)) (K : RoadKit.Arv Z U.heap t kb .byte N2 vs (.int 0)) (hc : CodA cs cd N2 vs) (hb : ∀ c ∈ cs, ¬ c < 0 ∧ ¬ (65535 : Int32) < c) (l2 : cs.length ≤ 4000) :
    ∃ A, Txt x t A cd cs.length (fun j => cs.getD j 0) U := by
  obtain ⟨A, K1, K2, K3, K4, K5, K6⟩ := K
  have hcod := hc.cod (by omega) K3 K5
  obtain ⟨D, fV, fC, hB, F1, F2, g1, g2, -, -⟩ := strObj wi al E V C
  exact ⟨A, ⟨_, hB.2.2.1, D, hB.1, rfl, by cases q : D.vm <;> first | rfl | exact absurd q (hB.2.1.2 _)⟩, Has.of hB F1 g1, Has.of hB F2 g2, ⟨K1.1, State.isArrayOf_alike al K1.2.1, K1.2.2, by rcases hcod with ⟨-, q, -⟩ | ⟨-, q, -⟩ <;> omega⟩, hcod, fun j hj => by
    have e : cs.getD j 0 = cs[j] := by simp [List.getD_eq_getElem?_getD, hj]
    show ¬ cs.getD j 0 < 0 ∧ ¬ 65535 < cs.getD j 0
    rw [e]; exact hb _ (List.getElem_mem _)⟩
theorem same_list (cs ds : List Int32) : SameT cs.length (fun j => cs.getD j 0) ds.length (fun j => ds.getD j 0) ↔ cs = ds := by
  constructor
  · rintro ⟨e, q⟩
    refine List.ext_getElem e fun j h1 h2 => ?_
    have := q j h1
    simpa [List.getD_eq_getElem?_getD, h1, h2] using this
  · rintro rfl
    exact ⟨rfl, fun _ _ => rfl⟩
/-- **equals(Object) OF TWO SUCH STRINGS**: 1 just where the chars are the same -/
theorem eqW {p : Program} {l : Launch} {e : Env} {R : Room} {s : State} {args : Array Value} {below : List Frame} {len W : Nat} {Z : State} {a0 : Array Value} {h : Heap} (hZ : Z.Warmed39 s.vm) (hw : ∀ d ∈ wordsEq, d.before a0 Z = true) {kI : Nat} (wi : (Jvm.Cond.instantiable ST kI).before a0 Z = true)
    {x t : Addr} {kb : ClassId} {cs : List Int32} {cd N2 : Int32} {vs : List Value} (E : RoadKit.Exa Z h x ST) (V : RoadKit.Fld Z h x ST "value" "[B" (.ref t)) (C : RoadKit.Fld Z h x ST "coder" "B" (.int cd)) (K : RoadKit.Arv Z h t kb .byte N2 vs (.int 0)) (hc : CodA cs cd N2 vs) (hb : ∀ c ∈ cs, ¬ c < 0 ∧ ¬ (65535 : Int32) < c) (l2 : cs.length ≤ 4000)
    {y t' : Addr} {kb' : ClassId} {ds : List Int32} {cd' N2' : Int32} {vs' : List Value} (E' : RoadKit.Exa Z h y ST) (V' : RoadKit.Fld Z h y ST "value" "[B" (.ref t')) (C' : RoadKit.Fld Z h y ST "coder" "B" (.int cd')) (K' : RoadKit.Arv Z h t' kb' .byte N2' vs' (.int 0)) (hc' : CodA ds cd' N2' vs') (hb' : ∀ c ∈ ds, ¬ c < 0 ∧ ¬ (65535 : Int32) < c) (l2' : ds.length ≤ 4000)
    {z : Int32} (S : RoadKit.Sta Z h ST "COMPACT_STRINGS" "Z" (.int z)) (hz : ¬ z = 0) (hfr : 2 ≤ R.frames) (hlo : W + 28 ≤ R.locals) :
    Back l R p e below s args (⟨"java/lang/String", "equals", "(Ljava/lang/Object;)Z"⟩ : MethodName) len W (fun P a => a = #[.ref x, .ref y] ∧ P.U.heap = h ∧ P.cells + 0 ≤ R.cells ∧ P.slots + 0 ≤ R.slots)
      (fun P _ v B => ∃ L, (((v = some (.int 1) ∧ cs = ds) ∨ (v = some (.int 0) ∧ ¬ cs = ds)) ∧ L = [] ∧ B.U.heap = h) ∧ B.locs = P.locs ++ L ∧ B.cells = P.cells + 0 ∧ B.slots = P.slots + 0) := by
  intro m meth c P g ig mk a X hg hsize hdg hW hn hp'
  obtain ⟨rfl, rfl, r1, r2⟩ := hp'
  have al : Z.vm.Alike P.U.vm := hZ.alike.trans X.warmed.alike
  obtain ⟨A, hx⟩ := txt_of wi al E V C K hc hb l2
  obtain ⟨A', hy⟩ := txt_of wi al E' V' C' K' hc' hb' l2'
  obtain ⟨v, B, X', ⟨⟨w, hv, hh, hq⟩, hl, hk, hs⟩, st⟩ := SEq.pays x t A cd cs.length (fun j => cs.getD j 0) y t' A' cd' ds.length (fun j => ds.getD j 0) z (tabEq_of (movedEq hZ hw)) hfr hlo m meth c P g ig mk _ X hg hsize hdg hW hn ⟨r1, r2, rfl, hx, hy, sta_is al S, hz⟩
  refine ⟨v, B, X', ⟨[], ⟨?_, rfl, hh⟩, hl, hk, hs⟩, st⟩
  rcases hq with ⟨rfl, q⟩ | ⟨rfl, q⟩
  · exact Or.inl ⟨hv, (same_list cs ds).mp q⟩
  · exact Or.inr ⟨hv, fun e => q ((same_list cs ds).mpr e)⟩
end StrChars.Road
namespace StrChars.Road
open Jvm Sem ClassFile Op Lib Jvm.Stand Jvm.Free Jvm.Free.XT
open Jvm.Lib.Cold (StaticIs)
/-- what backV says of its String, as the contracts of this text ask it: cs's low bytes, coder 0 -/
theorem codOf {cs : List Int32} {n : Nat} (hn : cs.length = n) (hb : ∀ c ∈ cs, ¬ 255 < c) : CodA cs 0 (Int32.ofNat n) ((cs.map lo8).map Value.int) := Or.inl ⟨rfl, by rw [hn], by simp [List.map_map, Function.comp_def], hb⟩
end StrChars.Road
end Jvm.Pilot.@@N@@

namespace Jvm.Pilot.@@N@@
open Jvm Jvm.ClassFile Sem Op Lib Jvm.Free Jvm.Stand Jvm.LawKit Jvm.RoadKit Bundle Jvm.Pilot.@@N@@.Jvm.D
section Own
variable {p : Program} {l : Launch} {e : Env} {R : Room} {s : State} {m : MethodId} {args : Array Value} {below : List Frame} {meth : Method} {c : Code} {T : State} {locs : List Loc} {cells slots : Nat}
/-- from A the run ends, and what it leaves is as Q says -/
def own_go (p : Program) (e : Env) (below : List Frame) (s : State) (Q : Option Value → Heap → List Loc → Prop) (C S : Nat) (A : State) : Prop :=
  ∃ t o, Steps p.tables e below A t ∧ t.status = .running ∧ Ended t below o ∧ ∃ v L, o = .returned v ∧ Q v t.heap L ∧ FrameEnd s o t L C S
variable {Q : Option Value → Heap → List Loc → Prop} {C S : Nat} {A B : State}
theorem own_in (h : own_go p e below s Q C S A) : ∃ t o, Steps p.tables e below A t ∧ t.status = .running ∧ Ended t below o ∧ ∃ v L, o = .returned v ∧ Q v t.heap L ∧ FrameEnd s o t L C S := h
theorem own_of (k : ∀ t, Steps p.tables e below B t → Steps p.tables e below A t) (h : own_go p e below s Q C S B) : own_go p e below s Q C S A := by
  obtain ⟨t, o, h1, h2⟩ := h
  exact ⟨t, o, k t h1, h2⟩
theorem own_lt {a b : Nat} (h : a < b) : a < b := h
theorem own_ne {a b : Nat} (h : a ≠ b) : a ≠ b := h
theorem own_use {α : Type} (X : Stand p l e R s m args below meth c T locs cells slots) {h : Heap} {g : α → JFrame} {G : State → Prop} (k : ∀ (r : α) (T' : State), Stand p l e R s m args below meth c T' locs cells slots → T'.heap = h → G (T'.setTop (g r)))
    (b : (∀ (r : α) (T' : State), Stand p l e R s m args below meth c T' locs cells slots → T'.heap = h → G (T'.setTop (g r))) → G A) : G A := b k
theorem own_ret (X : Stand p l e R s m args below meth c T locs cells slots) (hx : p.tables.exec = Jvm.exec) (hlk : meth.locks = false) {pc : Nat} {Ls : Array Slot} {w : Value} {t : FieldType} {i : Instr} {rest : List Value} (hret : meth.sig.returnType = some t) (hn : narrow t w = w)
    (hi : (i = .ireturn ∧ (t = .int ∨ t = .boolean ∨ t = .byte ∨ t = .char ∨ t = .short) ∧ ∃ z, w = .int z) ∨ (i = .lreturn ∧ t = .long ∧ ∃ z, w = .long z) ∨ (i = .dreturn ∧ t = .double ∧ ∃ z, w = .double z) ∨ (i = .freturn ∧ t = .float ∧ ∃ z, w = .float z) ∨ (i = .areturn ∧ t.isReference = true ∧ w.isRef = true))
    (hd : decode c.code pc = .ok (i, 1)) (hc : cells ≤ C) (hs : slots ≤ S) (hQ : Q (some w) T.heap locs) : own_go p e below s Q C S (T.setTop (mkF m pc Ls (w :: rest))) := by
  obtain ⟨fs, hr, hrun, hended, hW, hsame⟩ := X.leave (v := some w) (fun h => by rw [hret] at h; cases h) hlk
  exact ⟨_, _, retOut X hx hret hn hi hd hr, hrun, hended, _, _, rfl, hQ, ⟨_, rfl⟩, hW, hsame.mono hc hs⟩
theorem own_retV (X : Stand p l e R s m args below meth c T locs cells slots) (hx : p.tables.exec = Jvm.exec) (hlk : meth.locks = false) {pc : Nat} {Ls : Array Slot} (hret : meth.sig.returnType = none)
    (hd : decode c.code pc = .ok (.return_, 1)) (hc : cells ≤ C) (hs : slots ≤ S) (hQ : Q none T.heap locs) : own_go p e below s Q C S (T.setTop (mkF m pc Ls [])) := by
  obtain ⟨fs, hr, hrun, hended, hW, hsame⟩ := X.leave (v := none) (fun _ => rfl) hlk
  exact ⟨_, _, X.returnOut hx hret hd hr, hrun, hended, _, _, rfl, hQ, ⟨_, rfl⟩, hW, hsame.mono hc hs⟩
/-- the same where String constants may have been loaded -/
def own_gw (p : Program) (e : Env) (below : List Frame) (s : State) (Q : Option Value → Heap → List Loc → Prop) (C S : Nat) (A : State) : Prop :=
  ∃ t o, Steps p.tables e below A t ∧ t.status = .running ∧ Ended t below o ∧ ∃ v L, o = .returned v ∧ Q v t.heap L ∧ ReturnedEndW s o t L C S
theorem own_inw (h : own_gw p e below s Q C S A) : ∃ t o, Steps p.tables e below A t ∧ t.status = .running ∧ Ended t below o ∧ ∃ v L, o = .returned v ∧ Q v t.heap L ∧ ReturnedEndW s o t L C S := h
theorem own_ofw (k : ∀ t, Steps p.tables e below B t → Steps p.tables e below A t) (h : own_gw p e below s Q C S B) : own_gw p e below s Q C S A := by
  obtain ⟨t, o, h1, h2⟩ := h
  exact ⟨t, o, k t h1, h2⟩
theorem own_retw {vm0 : Vm} {k0 : Nat} (X : Stand p l e R (s.setVm vm0) m args below meth c T locs cells slots) (hx : p.tables.exec = Jvm.exec) (hlk : meth.locks = false) (hS : s.Since vm0 k0) (hk : k0 ≤ T.heap.size) {pc : Nat} {Ls : Array Slot} {w : Value} {t : FieldType} {i : Instr} {rest : List Value} (hret : meth.sig.returnType = some t) (hn : narrow t w = w)
    (hi : (i = .ireturn ∧ (t = .int ∨ t = .boolean ∨ t = .byte ∨ t = .char ∨ t = .short) ∧ ∃ z, w = .int z) ∨ (i = .lreturn ∧ t = .long ∧ ∃ z, w = .long z) ∨ (i = .dreturn ∧ t = .double ∧ ∃ z, w = .double z) ∨ (i = .freturn ∧ t = .float ∧ ∃ z, w = .float z) ∨ (i = .areturn ∧ t.isReference = true ∧ w.isRef = true))
    (hd : decode c.code pc = .ok (i, 1)) (hc : cells ≤ C) (hs : slots ≤ S) (hQ : Q (some w) T.heap locs) : own_gw p e below s Q C S (T.setTop (mkF m pc Ls (w :: rest))) := by
  obtain ⟨fs, hr, hrun, hended, h1, h2, h3, h4⟩ := X.leaveW hS hk (v := some w) (fun h => by rw [hret] at h; cases h) hlk
  exact ⟨_, _, retOut X hx hret hn hi hd hr, hrun, hended, _, _, rfl, hQ, h1, h2, h3, h4.mono hc hs⟩
theorem own_retVw {vm0 : Vm} {k0 : Nat} (X : Stand p l e R (s.setVm vm0) m args below meth c T locs cells slots) (hx : p.tables.exec = Jvm.exec) (hlk : meth.locks = false) (hS : s.Since vm0 k0) (hk : k0 ≤ T.heap.size) {pc : Nat} {Ls : Array Slot} (hret : meth.sig.returnType = none)
    (hd : decode c.code pc = .ok (.return_, 1)) (hc : cells ≤ C) (hs : slots ≤ S) (hQ : Q none T.heap locs) : own_gw p e below s Q C S (T.setTop (mkF m pc Ls [])) := by
  obtain ⟨fs, hr, hrun, hended, h1, h2, h3, h4⟩ := X.leaveW hS hk (v := none) (fun _ => rfl) hlk
  exact ⟨_, _, X.returnOut hx hret hd hr, hrun, hended, _, _, rfl, hQ, h1, h2, h3, h4.mono hc hs⟩
/-- the same, with what the JVM holds for the constants of EL -/
def own_gc (p : Program) (e : Env) (below : List Frame) (s : State) (Z : State) (EL : List (String × Nat)) (Q : Option Value → Heap → List Loc → Prop) (C S : Nat) (A : State) : Prop :=
  ∃ t o, Steps p.tables e below A t ∧ t.status = .running ∧ Ended t below o ∧ ∃ v L, o = .returned v ∧ Q v t.heap L ∧ CHr Z EL s.vm s.heap t.vm t.heap ∧ ReturnedEndW s o t L C S
variable {Z : State} {EL : List (String × Nat)} {a0 : Array Value}
theorem own_inc (h : own_gc p e below s Z EL Q C S A) : ∃ t o, Steps p.tables e below A t ∧ t.status = .running ∧ Ended t below o ∧ ∃ v L, o = .returned v ∧ Q v t.heap L ∧ CHr Z EL s.vm s.heap t.vm t.heap ∧ ReturnedEndW s o t L C S := h
theorem own_ofc (k : ∀ t, Steps p.tables e below B t → Steps p.tables e below A t) (h : own_gc p e below s Z EL Q C S B) : own_gc p e below s Z EL Q C S A := by
  obtain ⟨t, o, h1, h2⟩ := h
  exact ⟨t, o, k t h1, h2⟩
theorem own_retc {vm0 : Vm} {k0 : Nat} (X : Stand p l e R (s.setVm vm0) m args below meth c T locs cells slots) (hx : p.tables.exec = Jvm.exec) (hlk : meth.locks = false) (hS : s.Since vm0 k0) (hk : k0 ≤ T.heap.size) (hZ : Z.Warmed39 vm0) (hEL : EW Z a0 EL) (H : CHr Z EL s.vm s.heap vm0 T.heap) {pc : Nat} {Ls : Array Slot} {w : Value} {t : FieldType} {i : Instr} {rest : List Value} (hret : meth.sig.returnType = some t) (hn : narrow t w = w)
    (hi : (i = .ireturn ∧ (t = .int ∨ t = .boolean ∨ t = .byte ∨ t = .char ∨ t = .short) ∧ ∃ z, w = .int z) ∨ (i = .lreturn ∧ t = .long ∧ ∃ z, w = .long z) ∨ (i = .dreturn ∧ t = .double ∧ ∃ z, w = .double z) ∨ (i = .freturn ∧ t = .float ∧ ∃ z, w = .float z) ∨ (i = .areturn ∧ t.isReference = true ∧ w.isRef = true))
    (hd : decode c.code pc = .ok (i, 1)) (hc : cells ≤ C) (hs : slots ≤ S) (hQ : Q (some w) T.heap locs) : own_gc p e below s Z EL Q C S (T.setTop (mkF m pc Ls (w :: rest))) := by
  obtain ⟨fs, hr, hrun, hended, h1, h2, h3, h4⟩ := X.leaveW hS hk (v := some w) (fun h => by rw [hret] at h; cases h) hlk
  have q : CHr Z EL s.vm s.heap T.vm T.heap := H.trans (CHv.at X hZ hEL H.1)
  exact ⟨_, _, retOut X hx hret hn hi hd hr, hrun, hended, _, _, rfl, hQ, q, h1, h2, h3, h4.mono hc hs⟩
theorem own_retVc {vm0 : Vm} {k0 : Nat} (X : Stand p l e R (s.setVm vm0) m args below meth c T locs cells slots) (hx : p.tables.exec = Jvm.exec) (hlk : meth.locks = false) (hS : s.Since vm0 k0) (hk : k0 ≤ T.heap.size) (hZ : Z.Warmed39 vm0) (hEL : EW Z a0 EL) (H : CHr Z EL s.vm s.heap vm0 T.heap) {pc : Nat} {Ls : Array Slot} (hret : meth.sig.returnType = none)
    (hd : decode c.code pc = .ok (.return_, 1)) (hc : cells ≤ C) (hs : slots ≤ S) (hQ : Q none T.heap locs) : own_gc p e below s Z EL Q C S (T.setTop (mkF m pc Ls [])) := by
  obtain ⟨fs, hr, hrun, hended, h1, h2, h3, h4⟩ := X.leaveW hS hk (v := none) (fun _ => rfl) hlk
  have q : CHr Z EL s.vm s.heap T.vm T.heap := H.trans (CHv.at X hZ hEL H.1)
  exact ⟨_, _, X.returnOut hx hret hd hr, hrun, hended, _, _, rfl, hQ, q, h1, h2, h3, h4.mono hc hs⟩
open Jvm.Free.SB Jvm.Free.SBG in
/-- a String that has no array yet is no constant's -/
theorem own_safe_null {vm : Vm} {h : Heap} {x : Addr} (hal : Z.vm.Alike vm) (E : Exa Z h x "java/lang/String") (F : Fld Z h x "java/lang/String" "value" "[B" .null) : Safe Z EL vm h x := fun B => by
  obtain ⟨p, -, u, a, -, q, -, F', rfl | rfl⟩ := B
  · obtain ⟨cS, ⟨⟨s1, s2, s3, ⟨cv, kv, iv, s4, s4'⟩, s5, s6, s7, s8, -⟩, -, -⟩, -⟩ := F'
    obtain ⟨cell, cf, k, i, f, h1, h2, h3, -, -, -, h7⟩ := F
    cases (show h[q.sa]? = some q.sC from s1).symm.trans h1
    obtain ⟨kv', z4⟩ := ff_back (U := Wst Z vm h) hal s4
    have e4 := z4.symm.trans h2
    simp only [Option.some.injEq, Prod.mk.injEq] at e4
    rw [e4.2.2.2] at s8
    have := s8.symm.trans h7
    simp at this
  · obtain ⟨cell, k, e1, e2, e3, -, -⟩ := E
    cases (show h[q.sd]? = some q.SA from F'.hd).symm.trans e1
    obtain ⟨cS, -, -, f, -⟩ := F'
    have f' : vm.findClass "[B" = some q.SA.cls := f
    rw [hal.findClass] at f'
    obtain ⟨k1, q1, q2⟩ := Vm.findClass_spec f'
    obtain ⟨k2, q3, q4⟩ := Vm.findClass_spec e2
    cases q1.symm.trans q3
    have := q2.symm.trans q4
    simp at this
theorem own_ex {t : Term} {K : String} (h : (Jvm.Cond.exactly t K).value args s none s [] = some true) : ∃ a, t.eval args s none [] s = some (.ref a) ∧ Exa s s.heap a K := by
  obtain ⟨a, ha⟩ := exa_v h
  exact ⟨a, ha, Exa.start ha h⟩
theorem own_fi {t : Term} {K n d : String} {a : Addr} {k : Int32} (ht : t.eval args s none [] s = some (.ref a)) (h : (Jvm.Cond.eq (Term.field t K n d) (Term.int k)).value args s none s [] = some true) : Fld s s.heap a K n d (.int k) := by
  obtain ⟨x, y, h1, h2, h3, h4⟩ := cmp_v (Or.inl h)
  have e2 := Option.some.inj ((Term.int_eval k).symm.trans h2)
  subst e2
  rw [fld_at ht] at h1
  obtain ⟨z, rfl⟩ := h4
  have hz : s.fieldOf? a K n d = some (.int z) := h1
  have : z = k := by
    have h5 : (Term.field t K n d).eval args s none [] s = some (.int z) := (fld_at ht).trans hz
    simpa [Cond.value, h5, Term.int_eval] using h
  subst this
  exact Fld.start hz
end Own
theorem own_len {s : State} {args : Array Value} {t : Term} {a : Addr} {cl : Cell} {ty : FieldType} {k : Int32} (ht : t.eval args s none [] s = some (.ref a)) (A : Arr s s.heap a cl ty) (h : (Jvm.Cond.eq (Term.length t) (Term.int k)).value args s none s [] = some true) : cl.slots.size.toInt32 = k ∧ cl.slots.size < 2 ^ 31 := by
  obtain ⟨x, y, h1, h2, h3, h4⟩ := cmp_v (Or.inl h)
  have e2 := Option.some.inj ((Term.int_eval k).symm.trans h2)
  subst e2
  obtain ⟨z, rfl⟩ := h4
  have hA : s.arrayAt? a = some cl := A.fin (Vm.Alike.refl _)
  by_cases hl : cl.slots.size < 2 ^ 31
  · have h5 := len_f ht hA hl
    have h6 : cl.slots.size.toInt32 = z := by have := h5.symm.trans h1; simpa using this
    refine ⟨?_, hl⟩
    rw [h6]
    simpa [Cond.value, h1, Term.int_eval] using h
  · simp [Term.eval, ht, hA, hl] at h1
theorem own_el {s : State} {args : Array Value} {t : Term} {a : Addr} {cl : Cell} {ty : FieldType} {k j : Int32} (ht : t.eval args s none [] s = some (.ref a)) (A : Arr s s.heap a cl ty) (h : (Jvm.Cond.eq (Term.elem t (Term.int j)) (Term.int k)).value args s none s [] = some true) : cl.slots[j.toNatClampNeg]? = some (.int k) := by
  obtain ⟨x, y, h1, h2, h3, h4⟩ := cmp_v (Or.inl h)
  have e2 := Option.some.inj ((Term.int_eval k).symm.trans h2)
  subst e2
  obtain ⟨z, rfl⟩ := h4
  have h5 := (elem_in h1 ht (Term.int_eval j) A.1).2
  have : z = k := by simpa [Cond.value, h1, Term.int_eval] using h
  rw [h5, this]
theorem own_er {s : State} {args : Array Value} {t u : Term} {a b : Addr} {cl : Cell} {ty : FieldType} {j : Int32} (ht : t.eval args s none [] s = some (.ref a)) (hu : u.eval args s none [] s = some (.ref b)) (A : Arr s s.heap a cl ty) (h : (Jvm.Cond.eq (Term.elem t (Term.int j)) u).value args s none s [] = some true) : cl.slots[j.toNatClampNeg]? = some (.ref b) := by
  obtain ⟨x, y, h1, h2, h3, h4⟩ := cmp_v (Or.inl h)
  have e2 := Option.some.inj (hu.symm.trans h2)
  subst e2
  have h5 := (elem_in h1 ht (Term.int_eval j) A.1).2
  rw [h5]
  cases x <;> simp [Cond.value, h1, hu] at h ⊢
  exact h
theorem own_fr {s : State} {args : Array Value} {t : Term} {a b : Addr} {K n d : String} (ht : t.eval args s none [] s = some (.ref a)) (hf : (Term.field t K n d).eval args s none [] s = some (.ref b)) : Fld s s.heap a K n d (.ref b) := Fld.start ((fld_at ht).symm.trans hf)
def own_str (Z : State) (h : Heap) (x : Addr) (cs : List Int32) : Prop := ∃ (t : Addr) (kb : ClassId) (N : Int32) (vs : List Value), Exa Z h x "java/lang/String" ∧ Fld Z h x "java/lang/String" "value" "[B" (.ref t) ∧ Fld Z h x "java/lang/String" "coder" "B" (.int 0) ∧ Arv Z h t kb .byte N vs (.int 0) ∧ StrChars.Road.CodA cs 0 N vs
theorem own_str.ext {Z : State} {h h' : Heap} {x : Addr} {cs : List Int32} (S : own_str Z h x cs) (E : Ext h h') : own_str Z h' x cs := by
  obtain ⟨t, kb, N, vs, a, b, c, d, e⟩ := S
  exact ⟨t, kb, N, vs, a.ext E, b.ext E, c.ext E, d.ext E, e⟩
theorem own_str.lt {Z : State} {h : Heap} {x : Addr} {cs : List Int32} (S : own_str Z h x cs) : x < h.size := by
  obtain ⟨_, _, _, _, a, -⟩ := S
  exact a.lt
theorem own_str.keep1 {Z : State} {h h' : Heap} {x y : Addr} {cs : List Int32} {C : String} {k : Nat} {a0 : Array Value} (S : own_str Z h x cs) (K : Keep h h' [y]) (hx : x ≠ y) (E : Exa Z h y C) (wi : (Jvm.Cond.instantiable C k).before a0 Z = true) : own_str Z h' x cs := by
  obtain ⟨t, kb, N, vs, a, b, c, ⟨cl, A, r⟩, e⟩ := S
  have ht : t ≠ y := (ne_arr E wi A).symm
  exact ⟨t, kb, N, vs, a.keep K, b.keep K (ninS hx nin0), c.keep K (ninS hx nin0), ⟨cl, ⟨K.2.1 t cl A.1 (ninS ht nin0), A.2⟩, r⟩, e⟩
theorem own_str.keep {Z : State} {h h' : Heap} {x : Addr} {cs : List Int32} (S : own_str Z h x cs) (K : Keep h h' []) (q : x ∉ ([] : List Addr)) : own_str Z h' x cs := by
  obtain ⟨t, kb, N, vs, a, b, c, d, e⟩ := S
  exact ⟨t, kb, N, vs, a.keep K, b.keep K nin0, c.keep K nin0, d.keep K nin0, e⟩
theorem own_and255 (x : Int32) : ¬ nar .char ((x &&& (255 : Int32)).toUInt32.toUInt16.toUInt32.toInt32) < 0 ∧ ¬ (255 : Int32) < nar .char ((x &&& (255 : Int32)).toUInt32.toUInt16.toUInt32.toInt32) := by
  have t : ∀ k : Fin 256, ¬ nar .char ((Int32.ofNat k.val).toUInt32.toUInt16.toUInt32.toInt32) < 0 ∧ ¬ (255 : Int32) < nar .char ((Int32.ofNat k.val).toUInt32.toUInt16.toUInt32.toInt32) := by decide +kernel
  have h : (x &&& 255).toBitVec.toNat < 256 := by
    simp only [Int32.toBitVec_and, BitVec.toNat_and]
    exact Nat.lt_succ_of_le Nat.and_le_right
  have e : (x &&& 255) = Int32.ofNat (x &&& 255).toBitVec.toNat := by
    apply Int32.toBitVec_inj.mp
    show _ = BitVec.ofNat 32 _
    rw [BitVec.ofNat_toNat]; simp
  rw [e]
  exact t ⟨_, h⟩
theorem own_and3 (x : Int32) : x &&& 3 = 0 ∨ x &&& 3 = 1 ∨ x &&& 3 = 2 ∨ x &&& 3 = 3 := by
  have e1 : (x &&& 3).toInt = x.toInt % 2 ^ 2 := Jvm.Kit.i32_mask x 3 (k := 2) (by decide) (by decide)
  simp only [← Int32.toInt_inj, show (0 : Int32).toInt = 0 from rfl, show (1 : Int32).toInt = 1 from rfl, show (2 : Int32).toInt = 2 from rfl, show (3 : Int32).toInt = 3 from rfl]
  omega
theorem own_up (cs : List Int32) (h : ∀ c ∈ cs, ¬ c < 0 ∧ ¬ (255 : Int32) < c) : ∀ c ∈ cs, ¬ c < 0 ∧ ¬ (65535 : Int32) < c := fun c hc => ⟨(h c hc).1, fun q => (h c hc).2 (by rw [Int32.lt_iff_toInt_lt] at q ⊢; have e1 : (65535 : Int32).toInt = 65535 := rfl; have e2 : (255 : Int32).toInt = 255 := rfl; omega)⟩
def own_EL : List (String × Nat) := [("java/lang/String", 7)]
theorem own_eqv {v : Option Value} {p : Prop} [Decidable p] (h : (v = some (.int 1) ∧ p) ∨ (v = some (.int 0) ∧ ¬ p)) : v = some (.int (if p then (1 : Int32) else 0)) := by
  rcases h with ⟨h1, h2⟩ | ⟨h1, h2⟩
  · rw [if_pos h2]; exact h1
  · rw [if_neg h2]; exact h1
def own_cs (k : Nat) (a b c : Int32) : List Int32 := [a, b, c].take k
abbrev own_ch (z : Int32) : Prop := ¬ z < 0 ∧ ¬ (255 : Int32) < z
theorem own_c255 (x : Int32) : own_ch ((x &&& (255 : Int32)).toUInt32.toUInt16.toUInt32.toInt32) := by
  have t : ∀ k : Fin 256, own_ch ((Int32.ofNat k.val).toUInt32.toUInt16.toUInt32.toInt32) := by decide +kernel
  have h : (x &&& 255).toBitVec.toNat < 256 := by
    simp only [Int32.toBitVec_and, BitVec.toNat_and]
    exact Nat.lt_succ_of_le Nat.and_le_right
  have e : (x &&& 255) = Int32.ofNat (x &&& 255).toBitVec.toNat := by
    apply Int32.toBitVec_inj.mp
    show _ = BitVec.ofNat 32 _
    rw [BitVec.ofNat_toNat]; simp
  rw [e]
  exact t ⟨_, h⟩
theorem own_nar {z : Int32} (h : own_ch z) : nar .char z = z := by
  have t : ∀ k : Fin 256, nar .char (Int32.ofNat k.val) = Int32.ofNat k.val := by decide +kernel
  obtain ⟨h1, h2⟩ := h
  rw [Int32.lt_iff_toInt_lt] at h1 h2
  have e0 : (0 : Int32).toInt = 0 := rfl
  have e1 : (255 : Int32).toInt = 255 := rfl
  have e : z = Int32.ofNat z.toInt.toNat := by
    apply Int32.toInt_inj.mp
    rw [Int32.toInt_ofNat_small (by omega)]
    omega
  rw [e]
  exact t ⟨z.toInt.toNat, by omega⟩
theorem own_and3n (x : Int32) : ∃ k : Nat, k < 4 ∧ x &&& 3 = Int32.ofNat k := by
  rcases own_and3 x with h | h | h | h
  · exact ⟨0, by decide, h⟩
  · exact ⟨1, by decide, h⟩
  · exact ⟨2, by decide, h⟩
  · exact ⟨3, by decide, h⟩
theorem own_cs_ok {k : Nat} {a b c : Int32} (ha : own_ch a) (hb : own_ch b) (hc : own_ch c) : (∀ z ∈ own_cs k a b c, ¬ z < 0 ∧ ¬ (65535 : Int32) < z) ∧ (own_cs k a b c).length ≤ 4000 := by
  constructor
  · refine own_up _ fun z hz => ?_
    have hz2 : z ∈ [a, b, c] := List.mem_of_mem_take hz
    simp only [List.mem_cons, List.not_mem_nil, or_false] at hz2
    rcases hz2 with rfl | rfl | rfl <;> assumption
  · simp only [own_cs, List.length_take, List.length_cons, List.length_nil]
    omega
theorem own_inj4 : ∀ i j : Fin 4, Int32.ofNat i.val = Int32.ofNat j.val → i.val = j.val := by decide
theorem own_len_ne {i j : Nat} (hi : i < 4) (hj : j < 4) (h : ¬ Int32.ofNat i = Int32.ofNat j) {a b c d e f : Int32} : ¬ own_cs i a b c = own_cs j d e f := fun q => by
  have := congrArg List.length q
  simp only [own_cs, List.length_take, List.length_cons, List.length_nil] at this
  exact h (congrArg Int32.ofNat (by omega))
theorem own_lt4 : ∀ i : Fin 4, ((0 : Int32) < Int32.ofNat i.val ↔ 0 < i.val) ∧ ((1 : Int32) < Int32.ofNat i.val ↔ 1 < i.val) ∧ ((2 : Int32) < Int32.ofNat i.val ↔ 2 < i.val) := by decide
theorem own_dif {i : Nat} (hi : i < 4) {a b c d e f : Int32} (h : ((0 : Int32) < Int32.ofNat i ∧ ¬ a = d) ∨ ((1 : Int32) < Int32.ofNat i ∧ ¬ b = e) ∨ ((2 : Int32) < Int32.ofNat i ∧ ¬ c = f)) : ¬ own_cs i a b c = own_cs i d e f := fun q => by
  obtain ⟨l0, l1, l2⟩ := own_lt4 ⟨i, hi⟩
  simp only [l0, l1, l2] at h
  have hk : i = 0 ∨ i = 1 ∨ i = 2 ∨ i = 3 := by omega
  rcases hk with rfl | rfl | rfl | rfl <;> simp [own_cs] at q h <;> simp_all
theorem own_same {i : Nat} (hi : i < 4) {a b c d e f : Int32} (h0 : ¬ (0 : Int32) < Int32.ofNat i ∨ a = d) (h1 : ¬ (1 : Int32) < Int32.ofNat i ∨ b = e) (h2 : ¬ (2 : Int32) < Int32.ofNat i ∨ c = f) : own_cs i a b c = own_cs i d e f := by
  obtain ⟨l0, l1, l2⟩ := own_lt4 ⟨i, hi⟩
  simp only [l0, l1, l2] at h0 h1 h2
  have hk : i = 0 ∨ i = 1 ∨ i = 2 ∨ i = 3 := by omega
  rcases hk with rfl | rfl | rfl | rfl <;> simp [own_cs] at h0 h1 h2 ⊢ <;> simp_all
theorem ef_rmN4 (m : MethodId) (x0 : Nat) (x1 : Nat) (x2 : Int32) (x3 : Int32) : entryFrame m #[(.ref x0), (.ref x1), (.int x2), (.int x3), .null] 6 = mkF m 0 #[.val (.ref x0), .val (.ref x1), .val (.int x2), .val (.int x3), .val .null, .unset] [] := by first | (simp [entryFrame, mkF, argsToLocals, Value.category]; done) | rfl
theorem pn_0 : plainName "java/lang/String" = true := by first | (simp [plainName, overriddenIn]; done) | decide +kernel
theorem d3_0 : decode jdk_42_method_149_code 0 = .ok (.aload_n 0, 1) := by decide +kernel
theorem d3_1 : decode jdk_42_method_149_code 1 = .ok (.invokespecial 1, 3) := by decide +kernel
theorem d3_4 : decode jdk_42_method_149_code 4 = .ok (.iload_n 3, 1) := by decide +kernel
theorem d3_5 : decode jdk_42_method_149_code 5 = .ok (.ifCond .ne 22, 3) := by decide +kernel
theorem d3_8 : decode jdk_42_method_149_code 8 = .ok (.aload_n 0, 1) := by decide +kernel
theorem d3_9 : decode jdk_42_method_149_code 9 = .ok (.ldc 7, 2) := by decide +kernel
theorem d3_11 : decode jdk_42_method_149_code 11 = .ok (.getfield 9, 3) := by decide +kernel
theorem d3_14 : decode jdk_42_method_149_code 14 = .ok (.putfield 9, 3) := by decide +kernel
theorem pf_0 : parseFieldDescriptor "[B" = some (.array .byte) := by decide +kernel
theorem d3_17 : decode jdk_42_method_149_code 17 = .ok (.aload_n 0, 1) := by decide +kernel
theorem d3_18 : decode jdk_42_method_149_code 18 = .ok (.ldc 7, 2) := by decide +kernel
theorem d3_20 : decode jdk_42_method_149_code 20 = .ok (.getfield 15, 3) := by decide +kernel
theorem d3_23 : decode jdk_42_method_149_code 23 = .ok (.putfield 15, 3) := by decide +kernel
theorem pf_1 : parseFieldDescriptor "B" = some .byte := by decide +kernel
theorem d3_26 : decode jdk_42_method_149_code 26 = .ok (.return_, 1) := by decide +kernel
def Q_rmN4 (Z : State) (x : Nat) (ar : Nat) (h0 : Heap) (n0 : Nat) (v : Option Value) (h : Heap) (L : List Loc) : Prop := v = none ∧ Fr n0 L ∧ Keep h0 h [x] ∧ own_str Z h x []
set_option maxRecDepth 65536 in
set_option maxHeartbeats 40000000 in
theorem rmN4 (l : Launch) (Z : State) (a0 : Array Value) (hw : ∀ d ∈ tables_1, d.before a0 Z = true) (ws : List Jvm.Cond) (x : Nat) (ar : Nat) (h0 : Heap) (n0 : Nat) (hEL : EW Z a0 own_EL) (XO0 : Old Z n0 h0) (g_x : n0 ≤ x) (E_x : Exa Z h0 x "java/lang/String") (F_v : Fld Z h0 x "java/lang/String" "value" "[B" .null) (F_c : Fld Z h0 x "java/lang/String" "coder" "B" (.int (0 : Int32))) :
    MetFree l (⟨"java/lang/String", "<init>", "([CIILjava/lang/Void;)V"⟩ : MethodName) (head1 (Jvm.Cond.code (⟨"java/lang/String", "<init>", "([CIILjava/lang/Void;)V"⟩ : MethodName) jdk_42_method_149_code 6 none :: ws) ({ frames := 1, cells := 4, slots := 8, locals := 12 } : Room)) (fun zz_ U => zz_ = #[(.ref x), (.ref ar), (.int (0 : Int32)), (.int (0 : Int32)), .null] ∧ Z.Warmed39 U.vm ∧ U.heap = h0 ∧ CHv Z own_EL U.vm h0) (fun _ _ _ _ _ => True) (fun _ U o U' => ∃ v L, o = .returned v ∧ Q_rmN4 Z x ar h0 n0 v U'.heap L ∧ CHr Z own_EL U.vm U.heap U'.vm U'.heap ∧ ReturnedEndW U o U' L ({ frames := 1, cells := 4, slots := 8, locals := 12 } : Room).cells ({ frames := 1, cells := 4, slots := 8, locals := 12 } : Room).slots) := by
  refine MetFree.of_bodySF (plainFor_of_name pn_0) hisR ?_
  intro p e s m args below meth c s₁ Bd hml0 hP hK
  obtain ⟨rfl, hZ, hh, hCH⟩ := hP
  have hx := Bd.exec
  have hby := Bd.bytes
  have hlk := Bd.notSynchronized
  have hW : ∀ (i : Nat) (d : Jvm.Cond), tables_1[i]? = some d → d.before a0 Z = true := fun i d h => hw d (List.mem_of_getElem? h)
  have hml : c.maxLocals = 6 := hml0
  have hown : s.vm.findClass "java/lang/String" = some m.cls := findClass_of_methodNamed Bd.named
  have hnm := (name_of_methodNamed Bd.named Bd.method).1
  have X0 : Stand p l e ({ frames := 1, cells := 4, slots := 8, locals := 12 } : Room) (s.setVm s.vm) m #[(.ref x), (.ref ar), (.int (0 : Int32)), (.int (0 : Int32)), .null] below meth c s₁ [] 0 0 := Stand.of_body Bd
  have e0 : s₁.heap = h0 := by rw [← hh, Bd.state]; rfl
  have N0 := Fr.nil n0
  have hS0 : s.Since s.vm 0 := (State.WarmedH.refl s).since 0
  have CH0 : CHr Z own_EL s.vm s.heap s.vm h0 := by rw [hh]; exact CHr.refl hCH
  refine own_inc ?_
  refine own_ofc (fun tt_ kk_ => castTop (ef_rmN4 m x ar (0 : Int32) (0 : Int32)) kk_) ?_
  show own_gc p e below s _ _ _ _ _ (s₁.setTop (mkF m 0 #[.val (.ref x), .val (.ref ar), .val (.int (0 : Int32)), .val (.int (0 : Int32)), .val .null, .unset] []))
  refine own_ofc (fun tt_ => XS.aloadN X0.here hx rfl (hb hby d3_0) rfl rfl) ?_
  show own_gc p e below s _ _ _ _ _ (s₁.setTop (mkF m 1 #[.val (.ref x), .val (.ref ar), .val (.int (0 : Int32)), .val (.int (0 : Int32)), .val .null, .unset] [(.ref x)]))
  have wS : ∀ a ∈ Bundle.stringAtoms, a.before a0 Z = true := fun d hd => hw d ((by decide +kernel : ∀ d ∈ Bundle.stringAtoms, d ∈ tables_1) d hd)
  have K0 : Keep h0 h0 [x] := Keep.refl h0 [x]
  have lt_x := own_lt E_x.lt
  obtain ⟨T1, X1, e1, st1⟩ := initO X0 hx hZ hown (hW 15 _ rfl) (hW 16 _ rfl) (hW 17 _ rfl) e0 (g := (mkF m 1 #[.val (.ref x), .val (.ref ar), .val (.int (0 : Int32)), .val (.int (0 : Int32)), .val .null, .unset] [(.ref x)])) rfl (by rw [hml]; rfl) rfl (hb hby d3_1) (by decide) (W := 0) (by show 2 * 0 + _ ≤ _; exact Nat.le_of_eq rfl) (by decide)
  refine own_ofc st1 ?_
  show own_gc p e below s _ _ _ _ _ (T1.setTop (mkF m 4 #[.val (.ref x), .val (.ref ar), .val (.int (0 : Int32)), .val (.int (0 : Int32)), .val .null, .unset] []))
  refine own_ofc (fun tt_ => XS.iloadN X1.here hx rfl (hb hby d3_4) rfl) ?_
  show own_gc p e below s _ _ _ _ _ (T1.setTop (mkF m 5 #[.val (.ref x), .val (.ref ar), .val (.int (0 : Int32)), .val (.int (0 : Int32)), .val .null, .unset] [(.int (0 : Int32))]))
  have hb5_2 : (0 : Int32) = (0 : Int32) := by decide
  refine own_ofc (fun tt_ => XS.ifNo X1.here hx rfl (hb hby d3_5) rfl ((if0 _ _).trans (teq hb5_2).2)) ?_
  show own_gc p e below s _ _ _ _ _ (T1.setTop (mkF m 8 #[.val (.ref x), .val (.ref ar), .val (.int (0 : Int32)), .val (.int (0 : Int32)), .val .null, .unset] []))
  refine own_ofc (fun tt_ => XS.aloadN X1.here hx rfl (hb hby d3_8) rfl rfl) ?_
  show own_gc p e below s _ _ _ _ _ (T1.setTop (mkF m 9 #[.val (.ref x), .val (.ref ar), .val (.int (0 : Int32)), .val (.int (0 : Int32)), .val .null, .unset] [(.ref x)]))
  obtain ⟨b3, T3, h3, k3, t3, kb3, X3, e3, E3, hS3, hk3, hZ3, hown3, Ex3, Cx3, Vx3, Kx3, la3, lb3, CHs3, -, hne3, st3⟩ := ldcCH X1 hx hZ hown (hW 18 _ rfl) wS e1 hS0 (by omega : 0 ≤ h0.size) hEL (by decide +kernel) CH0.1 (vs := []) (z := 0) ⟨by decide +kernel, by decide +kernel⟩ (by decide +kernel) (by decide +kernel) (g := (mkF m 9 #[.val (.ref x), .val (.ref ar), .val (.int (0 : Int32)), .val (.int (0 : Int32)), .val .null, .unset] [(.ref x)])) rfl (hb hby d3_9) (n := 0) (by decide +kernel) (by decide) (by decide) (by decide)
  have CH3 := CH0.trans CHs3
  have Ss3 : own_str Z h3 b3 ([] : List Int32) := ⟨t3, kb3, _, _, Ex3, Vx3, Cx3, Kx3, Or.inl ⟨rfl, rfl, rfl, by decide⟩⟩
  refine own_ofc st3 ?_
  have sz3 : h0.size ≤ h3.size := E3.1
  have O3 : Old Z n0 h3 := XO0.ext E3
  have K3 : Keep h0 h3 [x] := K0.ext E3
  have lla3 := own_lt la3
  have llb3 := own_lt lb3
  have f5 : Exa Z h3 x "java/lang/String" := (E_x.ext E3)
  have f6 : Fld Z h3 x "java/lang/String" "value" "[B" .null := (F_v.ext E3)
  have Sf4 := own_safe_null (EL := own_EL) hZ3.alike f5 f6
  have nx3 := hne3 x Sf4
  have nxa3 := own_ne nx3.1
  have nxb3 := own_ne nx3.2
  show own_gc p e below s _ _ _ _ _ (T3.setTop (mkF m 11 #[.val (.ref x), .val (.ref ar), .val (.int (0 : Int32)), .val (.int (0 : Int32)), .val .null, .unset] [(.ref b3), (.ref x)]))
  obtain ⟨T7, X7, e7, st7⟩ := getF X3 hx hZ3 hown3 (host := "") (Or.inl (hW 24 _ rfl)) Via.refl e3 Vx3 (g := (mkF m 11 #[.val (.ref x), .val (.ref ar), .val (.int (0 : Int32)), .val (.int (0 : Int32)), .val .null, .unset] [(.ref b3), (.ref x)])) rfl rfl (hb hby d3_11)
  refine own_ofc st7 ?_
  show own_gc p e below s _ _ _ _ _ (T7.setTop (mkF m 14 #[.val (.ref x), .val (.ref ar), .val (.int (0 : Int32)), .val (.int (0 : Int32)), .val .null, .unset] [(.ref t3), (.ref x)]))
  obtain ⟨T8, h8, X8, e8, W8, st8⟩ := putF X7 hx hZ3 hown3 (host := "") (Or.inl (hW 24 _ rfl)) Via.refl e7 f6 f5 (Or.inr ⟨(hW 20 _ rfl), rfl, hnm⟩) (hW 5 _ rfl) (ty := (.array .byte)) pf_0 rfl rfl (g := (mkF m 14 #[.val (.ref x), .val (.ref ar), .val (.int (0 : Int32)), .val (.int (0 : Int32)), .val .null, .unset] [(.ref t3), (.ref x)])) rfl rfl (hb hby d3_14)
  refine own_ofc st8 ?_
  have CHs8 := CHr.wr W8 Sf4 CH3.1
  have CH8 := CH3.trans CHs8
  have N8 := Fr.snoc X8 N0 (by omega : n0 ≤ x)
  have sz8 : h8.size = h3.size := W8.size
  have O8 : Old Z n0 h8 := O3.wr W8 (by omega)
  have K8 : Keep h0 h8 [x] := K3.wr W8 (Or.inl (List.mem_of_getElem? (i := 0) rfl))
  have Fw8 := f6.same W8
  show own_gc p e below s _ _ _ _ _ (T8.setTop (mkF m 17 #[.val (.ref x), .val (.ref ar), .val (.int (0 : Int32)), .val (.int (0 : Int32)), .val .null, .unset] []))
  refine own_ofc (fun tt_ => XS.aloadN X8.here hx rfl (hb hby d3_17) rfl rfl) ?_
  show own_gc p e below s _ _ _ _ _ (T8.setTop (mkF m 18 #[.val (.ref x), .val (.ref ar), .val (.int (0 : Int32)), .val (.int (0 : Int32)), .val .null, .unset] [(.ref x)]))
  obtain ⟨b9, T9, h9, k9, t9, kb9, X9, e9, E9, hS9, hk9, hZ9, hown9, Ex9, Cx9, Vx9, Kx9, la9, lb9, CHs9, -, hne9, st9⟩ := ldcCH X8 hx hZ3 hown3 (hW 18 _ rfl) wS e8 hS3 (by omega : k3 ≤ h8.size) hEL (by decide +kernel) CH8.1 (vs := []) (z := 0) ⟨by decide +kernel, by decide +kernel⟩ (by decide +kernel) (by decide +kernel) (g := (mkF m 18 #[.val (.ref x), .val (.ref ar), .val (.int (0 : Int32)), .val (.int (0 : Int32)), .val .null, .unset] [(.ref x)])) rfl (hb hby d3_18) (n := 0) (by decide +kernel) (by decide) (by decide) (by decide)
  have CH9 := CH8.trans CHs9
  have Ss9 : own_str Z h9 b9 ([] : List Int32) := ⟨t9, kb9, _, _, Ex9, Vx9, Cx9, Kx9, Or.inl ⟨rfl, rfl, rfl, by decide⟩⟩
  refine own_ofc st9 ?_
  have sz9 : h8.size ≤ h9.size := E9.1
  have O9 : Old Z n0 h9 := O8.ext E9
  have K9 : Keep h0 h9 [x] := K8.ext E9
  have lla9 := own_lt la9
  have llb9 := own_lt lb9
  have f10 := (CHs9.safe (own_lt (by omega)) (CHs8.safe (own_lt (by omega)) Sf4))
  have nx9 := hne9 x f10
  have nxa9 := own_ne nx9.1
  have nxb9 := own_ne nx9.2
  show own_gc p e below s _ _ _ _ _ (T9.setTop (mkF m 20 #[.val (.ref x), .val (.ref ar), .val (.int (0 : Int32)), .val (.int (0 : Int32)), .val .null, .unset] [(.ref b9), (.ref x)]))
  obtain ⟨T11, X11, e11, st11⟩ := getF X9 hx hZ9 hown9 (host := "") (Or.inl (hW 25 _ rfl)) Via.refl e9 Cx9 (g := (mkF m 20 #[.val (.ref x), .val (.ref ar), .val (.int (0 : Int32)), .val (.int (0 : Int32)), .val .null, .unset] [(.ref b9), (.ref x)])) rfl rfl (hb hby d3_20)
  refine own_ofc st11 ?_
  show own_gc p e below s _ _ _ _ _ (T11.setTop (mkF m 23 #[.val (.ref x), .val (.ref ar), .val (.int (0 : Int32)), .val (.int (0 : Int32)), .val .null, .unset] [(.int (0 : Int32)), (.ref x)]))
  have f12 : Exa Z h9 x "java/lang/String" := ((f5.wr W8).ext E9)
  have f13 : Fld Z h9 x "java/lang/String" "coder" "B" (.int (0 : Int32)) := (((F_c.ext E3).other W8 (Or.inr (slot_ne (Or.inr (hW 21 _ rfl)) (Or.inr (hW 20 _ rfl)) (by decide) pf_1 pf_0))).ext E9)
  obtain ⟨T14, h14, X14, e14, W14, st14⟩ := putFN X11 hx hZ9 hown9 (hW 25 _ rfl) Via.refl e11 f13 f12 (Or.inr ⟨(hW 21 _ rfl), rfl, hnm⟩) (hW 5 _ rfl) (ty := .byte) (v' := .int (nar .byte (0 : Int32))) pf_1 rfl (fits_nar_byte _) (g := (mkF m 23 #[.val (.ref x), .val (.ref ar), .val (.int (0 : Int32)), .val (.int (0 : Int32)), .val .null, .unset] [(.int (0 : Int32)), (.ref x)])) rfl rfl (hb hby d3_23)
  refine own_ofc st14 ?_
  have CHs14 := CHr.wr W14 f10 CH9.1
  have CH14 := CH9.trans CHs14
  have N14 := Fr.snoc X14 N8 (by omega : n0 ≤ x)
  have sz14 : h14.size = h9.size := W14.size
  have O14 : Old Z n0 h14 := O9.wr W14 (by omega)
  have K14 : Keep h0 h14 [x] := K9.wr W14 (Or.inl (List.mem_of_getElem? (i := 0) rfl))
  have Fw14 := f13.same W14
  show own_gc p e below s _ _ _ _ _ (T14.setTop (mkF m 26 #[.val (.ref x), .val (.ref ar), .val (.int (0 : Int32)), .val (.int (0 : Int32)), .val .null, .unset] []))
  refine own_retVc X14 hx hlk hS9 (by rw [e14]; omega : k9 ≤ T14.heap.size) hZ9 hEL (by rw [e14]; exact CH14) Bd.returns (hb hby d3_26) (by decide) (by decide) ?_
  rw [e14]
  have f15 : Exa Z h14 x "java/lang/String" := (f12.wr W14)
  have f16 : Fld Z h14 x "java/lang/String" "value" "[B" (.ref t3) := ((Fw8.ext E9).other W14 (Or.inr (slot_ne (Or.inr (hW 20 _ rfl)) (Or.inr (hW 21 _ rfl)) (by decide) pf_0 pf_1)))
  have f17 : Arv Z h14 t3 kb3 .byte (0 : Int32) [] (.int 0) := (((Kx3.other W8 (own_ne (by omega))).ext E9).other W14 (own_ne (by omega)))
  exact ⟨rfl, N14, K14, t3, kb3, _, _, f15, f16, Fw14, f17, Or.inl ⟨rfl, rfl, rfl, by simp⟩⟩
theorem ef_rmN1 (m : MethodId) (x0 : Nat) (x1 : Nat) : entryFrame m #[(.ref x0), (.ref x1)] 2 = mkF m 0 #[.val (.ref x0), .val (.ref x1)] [] := by first | (simp [entryFrame, mkF, argsToLocals, Value.category]; done) | rfl
theorem d2_0 : decode jdk_42_method_3_code 0 = .ok (.aload_n 0, 1) := by decide +kernel
theorem d2_1 : decode jdk_42_method_3_code 1 = .ok (.aload_n 1, 1) := by decide +kernel
theorem d2_2 : decode jdk_42_method_3_code 2 = .ok (.iconst 0, 1) := by decide +kernel
theorem d2_3 : decode jdk_42_method_3_code 3 = .ok (.aload_n 1, 1) := by decide +kernel
theorem d2_4 : decode jdk_42_method_3_code 4 = .ok (.arraylength, 1) := by decide +kernel
theorem d2_5 : decode jdk_42_method_3_code 5 = .ok (.aconst_null, 1) := by decide +kernel
theorem d2_6 : decode jdk_42_method_3_code 6 = .ok (.invokespecial 27, 3) := by decide +kernel
theorem pd_0 : parseMethodDescriptor "([CIILjava/lang/Void;)V" = some ⟨[(.array .char), .int, .int, (.object "java/lang/Void")], none⟩ := by decide +kernel
theorem d2_9 : decode jdk_42_method_3_code 9 = .ok (.return_, 1) := by decide +kernel
def Q_rmN1 (Z : State) (x : Nat) (ar : Nat) (k : ClassId) (h0 : Heap) (n0 : Nat) (v : Option Value) (h : Heap) (L : List Loc) : Prop := v = none ∧ Fr n0 L ∧ Keep h0 h [x] ∧ own_str Z h x []
set_option maxRecDepth 65536 in
set_option maxHeartbeats 40000000 in
theorem rmN1 (l : Launch) (Z : State) (a0 : Array Value) (hw : ∀ d ∈ tables_1, d.before a0 Z = true) (ws : List Jvm.Cond) (x : Nat) (ar : Nat) (k : ClassId) (h0 : Heap) (n0 : Nat) (hEL : EW Z a0 own_EL) (XO0 : Old Z n0 h0) (g_x : n0 ≤ x) (E_x : Exa Z h0 x "java/lang/String") (F_v : Fld Z h0 x "java/lang/String" "value" "[B" .null) (F_c : Fld Z h0 x "java/lang/String" "coder" "B" (.int (0 : Int32))) (V_a : Arv Z h0 ar k .char (0 : Int32) [] (.int (0 : Int32))) :
    MetFree l (⟨"java/lang/String", "<init>", "([C)V"⟩ : MethodName) (head1 (Jvm.Cond.code (⟨"java/lang/String", "<init>", "([C)V"⟩ : MethodName) jdk_42_method_3_code 2 none :: ws) ({ frames := 2, cells := 4, slots := 8, locals := 29 } : Room)) (fun zz_ U => zz_ = #[(.ref x), (.ref ar)] ∧ Z.Warmed39 U.vm ∧ U.heap = h0 ∧ CHv Z own_EL U.vm h0) (fun _ _ _ _ _ => True) (fun _ U o U' => ∃ v L, o = .returned v ∧ Q_rmN1 Z x ar k h0 n0 v U'.heap L ∧ CHr Z own_EL U.vm U.heap U'.vm U'.heap ∧ ReturnedEndW U o U' L ({ frames := 2, cells := 4, slots := 8, locals := 29 } : Room).cells ({ frames := 2, cells := 4, slots := 8, locals := 29 } : Room).slots) := by
  refine MetFree.of_bodySF (plainFor_of_name pn_0) hisR ?_
  intro p e s m args below meth c s₁ Bd hml0 hP hK
  obtain ⟨rfl, hZ, hh, hCH⟩ := hP
  have hx := Bd.exec
  have hby := Bd.bytes
  have hlk := Bd.notSynchronized
  have hW : ∀ (i : Nat) (d : Jvm.Cond), tables_1[i]? = some d → d.before a0 Z = true := fun i d h => hw d (List.mem_of_getElem? h)
  have hml : c.maxLocals = 2 := hml0
  have hown : s.vm.findClass "java/lang/String" = some m.cls := findClass_of_methodNamed Bd.named
  have hnm := (name_of_methodNamed Bd.named Bd.method).1
  have X0 : Stand p l e ({ frames := 2, cells := 4, slots := 8, locals := 29 } : Room) (s.setVm s.vm) m #[(.ref x), (.ref ar)] below meth c s₁ [] 0 0 := Stand.of_body Bd
  have e0 : s₁.heap = h0 := by rw [← hh, Bd.state]; rfl
  have N0 := Fr.nil n0
  have hS0 : s.Since s.vm 0 := (State.WarmedH.refl s).since 0
  have CH0 : CHr Z own_EL s.vm s.heap s.vm h0 := by rw [hh]; exact CHr.refl hCH
  refine own_inc ?_
  refine own_ofc (fun tt_ kk_ => castTop (ef_rmN1 m x ar) kk_) ?_
  show own_gc p e below s _ _ _ _ _ (s₁.setTop (mkF m 0 #[.val (.ref x), .val (.ref ar)] []))
  refine own_ofc (fun tt_ => XS.aloadN X0.here hx rfl (hb hby d2_0) rfl rfl) ?_
  show own_gc p e below s _ _ _ _ _ (s₁.setTop (mkF m 1 #[.val (.ref x), .val (.ref ar)] [(.ref x)]))
  refine own_ofc (fun tt_ => XS.aloadN X0.here hx rfl (hb hby d2_1) rfl rfl) ?_
  show own_gc p e below s _ _ _ _ _ (s₁.setTop (mkF m 2 #[.val (.ref x), .val (.ref ar)] [(.ref ar), (.ref x)]))
  refine own_ofc (fun tt_ => XS.iconst X0.here hx rfl (hb hby d2_2)) ?_
  show own_gc p e below s _ _ _ _ _ (s₁.setTop (mkF m 3 #[.val (.ref x), .val (.ref ar)] [(.int (0 : Int32)), (.ref ar), (.ref x)]))
  refine own_ofc (fun tt_ => XS.aloadN X0.here hx rfl (hb hby d2_3) rfl rfl) ?_
  show own_gc p e below s _ _ _ _ _ (s₁.setTop (mkF m 4 #[.val (.ref x), .val (.ref ar)] [(.ref ar), (.int (0 : Int32)), (.ref ar), (.ref x)]))
  obtain ⟨cl1, Ar1, q1, S1, Ng1, H1, G1⟩ := id V_a
  refine own_ofc (fun tt_ kk => X0.arraylength hx (by rw [e0]; exact Ar1.1) (State.isArrayOf_alike hZ.alike Ar1.2.1) (g := (mkF m 4 #[.val (.ref x), .val (.ref ar)] [(.ref ar), (.int (0 : Int32)), (.ref ar), (.ref x)])) rfl rfl (hb hby d2_4) _ (by rw [len_of S1 Ng1]; exact kk)) ?_
  show own_gc p e below s _ _ _ _ _ (s₁.setTop (mkF m 5 #[.val (.ref x), .val (.ref ar)] [(.int (0 : Int32)), (.int (0 : Int32)), (.ref ar), (.ref x)]))
  refine own_ofc (fun tt_ => XS.aconstNull X0.here hx rfl (hb hby d2_5)) ?_
  show own_gc p e below s _ _ _ _ _ (s₁.setTop (mkF m 6 #[.val (.ref x), .val (.ref ar)] [.null, (.int (0 : Int32)), (.int (0 : Int32)), (.ref ar), (.ref x)]))
  have K0 : Keep h0 h0 [x] := Keep.refl h0 [x]
  have lt_x := own_lt E_x.lt
  obtain ⟨_, _, ⟨T2, L2, k2, n2⟩, -, Xr2, hSr2, hgr2, ⟨Lc2, hQ2, l2, y2, z2, CHs2⟩, st2⟩ := X0.specialBackS hx (y := (⟨"java/lang/String", "<init>", "([CIILjava/lang/Void;)V"⟩ : MethodName)) rfl hown (mvT hZ (hW 11 _ rfl)) (mvT hZ (hW 12 _ rfl)) (mvT hZ (hW 14 _ rfl)) (by decide) (backOfSH (W := 0) (rmN4 l Z a0 hw [] x ar h0 n0 hEL XO0 g_x E_x F_v F_c) hZ (hW 14 _ rfl) (hW 6 _ rfl) (by decide) (by decide) hEL CH0.1) (g := (mkF m 6 #[.val (.ref x), .val (.ref ar)] [.null, (.int (0 : Int32)), (.int (0 : Int32)), (.ref ar), (.ref x)])) rfl (by rw [hml]; rfl) (Steps.refl _) (a := x) (argsL := [(.ref ar), (.int (0 : Int32)), (.int (0 : Int32)), .null]) (rest := []) (lenOf pd_0 rfl) rfl (by show 2 * 0 + _ ≤ _; exact Nat.le_of_eq rfl) (hb hby d2_6) (fun _ _ => ⟨rfl, e0, (by decide : 0 + 4 ≤ _), (by decide : 0 + 8 ≤ _)⟩)
  dsimp only [Pt.U, Pt.locs, Pt.cells, Pt.slots] at Xr2 l2 y2 z2 st2 hQ2 hSr2 hgr2 CHs2
  obtain ⟨X2, hS2, hZ2, hown2⟩ := rebS hS0 (by rw [e0]; omega : 0 ≤ s₁.heap.size) Xr2 hSr2 hgr2 hZ hown
  subst l2 y2 z2
  obtain ⟨rfl, Nq2, Kp2, Sx2⟩ := hQ2
  have N2 := Fr.app N0 Nq2
  refine own_ofc (fun tt_ kk_ => st2.trans kk_) ?_
  have CH2 := CH0.trans CHs2
  have sz2 : h0.size ≤ T2.heap.size := Kp2.1
  have O2 : Old Z n0 T2.heap := XO0.keep Kp2 (allS (by omega) all0)
  have K2 : Keep h0 T2.heap [x] := K0.trans Kp2 (allS (Or.inl (List.mem_of_getElem? (i := 0) rfl)) all0)
  show own_gc p e below s _ _ _ _ _ (T2.setTop (mkF m 9 #[.val (.ref x), .val (.ref ar)] []))
  refine own_retVc X2 hx hlk hS2 (by omega : T2.heap.size ≤ T2.heap.size) hZ2 hEL CH2 Bd.returns (hb hby d2_9) (by decide) (by decide) ?_
  skip
  exact ⟨rfl, N2, K2, Sx2⟩
theorem ef_rmR (m : MethodId) (x0 : Nat) : entryFrame m #[(.ref x0)] 1 = mkF m 0 #[.val (.ref x0)] [] := by first | (simp [entryFrame, mkF, argsToLocals, Value.category]; done) | rfl
theorem pn_1 : plainName "java/lang/Record" = true := by first | (simp [plainName, overriddenIn]; done) | decide +kernel
theorem d6_0 : decode jdk_30_method_1_code 0 = .ok (.aload_n 0, 1) := by decide +kernel
theorem d6_1 : decode jdk_30_method_1_code 1 = .ok (.invokespecial 1, 3) := by decide +kernel
theorem d6_4 : decode jdk_30_method_1_code 4 = .ok (.return_, 1) := by decide +kernel
def Q_rmR (Z : State) (a : Nat) (h0 : Heap) (n0 : Nat) (v : Option Value) (h : Heap) (L : List Loc) : Prop := v = none ∧ Fr n0 L ∧ h = h0
set_option maxRecDepth 65536 in
set_option maxHeartbeats 40000000 in
theorem rmR (l : Launch) (Z : State) (a0 : Array Value) (hw : ∀ d ∈ tables_1, d.before a0 Z = true) (ws : List Jvm.Cond) (a : Nat) (h0 : Heap) (n0 : Nat) (XO0 : Old Z n0 h0) :
    MetFree l (⟨"java/lang/Record", "<init>", "()V"⟩ : MethodName) (head1 (Jvm.Cond.code (⟨"java/lang/Record", "<init>", "()V"⟩ : MethodName) jdk_30_method_1_code 1 none :: ws) ({ frames := 1, cells := 0, slots := 0, locals := 12 } : Room)) (fun zz_ U => zz_ = #[(.ref a)] ∧ Z.Warmed39 U.vm ∧ U.heap = h0) (fun _ _ _ _ _ => True) (fun _ U o U' => ∃ v L, o = .returned v ∧ Q_rmR Z a h0 n0 v U'.heap L ∧ FrameEnd U o U' L ({ frames := 1, cells := 0, slots := 0, locals := 12 } : Room).cells ({ frames := 1, cells := 0, slots := 0, locals := 12 } : Room).slots) := by
  refine MetFree.of_bodySF (plainFor_of_name pn_1) hisR ?_
  intro p e s m args below meth c s₁ Bd hml0 hP hK
  obtain ⟨rfl, hZ, hh⟩ := hP
  have hx := Bd.exec
  have hby := Bd.bytes
  have hlk := Bd.notSynchronized
  have hW : ∀ (i : Nat) (d : Jvm.Cond), tables_1[i]? = some d → d.before a0 Z = true := fun i d h => hw d (List.mem_of_getElem? h)
  have hml : c.maxLocals = 1 := hml0
  have hown : s.vm.findClass "java/lang/Record" = some m.cls := findClass_of_methodNamed Bd.named
  have hnm := (name_of_methodNamed Bd.named Bd.method).1
  have X0 : Stand p l e ({ frames := 1, cells := 0, slots := 0, locals := 12 } : Room) s m #[(.ref a)] below meth c s₁ [] 0 0 := Stand.of_body Bd
  have e0 : s₁.heap = h0 := by rw [← hh, Bd.state]; rfl
  have N0 := Fr.nil n0
  refine own_in ?_
  refine own_of (fun tt_ kk_ => castTop (ef_rmR m a) kk_) ?_
  show own_go p e below s _ _ _ (s₁.setTop (mkF m 0 #[.val (.ref a)] []))
  refine own_of (fun tt_ => XS.aloadN X0.here hx rfl (hb hby d6_0) rfl rfl) ?_
  show own_go p e below s _ _ _ (s₁.setTop (mkF m 1 #[.val (.ref a)] [(.ref a)]))
  obtain ⟨T1, X1, e1, st1⟩ := initO X0 hx hZ hown (hW 37 _ rfl) (hW 16 _ rfl) (hW 17 _ rfl) e0 (g := (mkF m 1 #[.val (.ref a)] [(.ref a)])) rfl (by rw [hml]; rfl) rfl (hb hby d6_1) (by decide) (W := 0) (by show 2 * 0 + _ ≤ _; exact Nat.le_of_eq rfl) (by decide)
  refine own_of st1 ?_
  show own_go p e below s _ _ _ (T1.setTop (mkF m 4 #[.val (.ref a)] []))
  refine own_retV X1 hx hlk Bd.returns (hb hby d6_4) (by decide) (by decide) ?_
  rw [e1]
  exact ⟨rfl, N0, rfl⟩
def Q_rmS (Z : State) (k : Nat) (c0 : Int32) (c1 : Int32) (c2 : Int32) (h0 : Heap) (n0 : Nat) (v : Option Value) (h : Heap) (L : List Loc) : Prop := ∃ a : Nat, v = some (.ref a) ∧ Fr n0 L ∧ Keep h0 h [] ∧ h0.size ≤ a ∧ own_str Z h a (own_cs k c0 c1 c2)
theorem ef_rmS_0 (m : MethodId) (x0 : Int32) (x1 : Int32) (x2 : Int32) (x3 : Int32) : entryFrame m #[(.int x0), (.int x1), (.int x2), (.int x3)] 4 = mkF m 0 #[.val (.int x0), .val (.int x1), .val (.int x2), .val (.int x3)] [] := by first | (simp [entryFrame, mkF, argsToLocals, Value.category]; done) | rfl
theorem pn_2 : plainName "com/example/practory/practory/resource/ElementDefinitionsDefinesItsElementsPinLaw" = true := by first | (simp [plainName, overriddenIn]; done) | decide +kernel
theorem d1_0 : decode method_2_code 0 = .ok (.iload_n 0, 1) := by decide +kernel
theorem d1_1 : decode method_2_code 1 = .ok (.ifCond .ne 14, 3) := by decide +kernel
theorem d1_4 : decode method_2_code 4 = .ok (.new 7, 3) := by decide +kernel
theorem d1_7 : decode method_2_code 7 = .ok (.dup, 1) := by decide +kernel
theorem d1_8 : decode method_2_code 8 = .ok (.iconst 0, 1) := by decide +kernel
theorem d1_9 : decode method_2_code 9 = .ok (.newarray .char, 2) := by decide +kernel
theorem d1_11 : decode method_2_code 11 = .ok (.invokespecial 9, 3) := by decide +kernel
theorem pd_1 : parseMethodDescriptor "([C)V" = some ⟨[(.array .char)], none⟩ := by decide +kernel
theorem d1_14 : decode method_2_code 14 = .ok (.areturn, 1) := by decide +kernel
set_option maxRecDepth 65536 in
set_option maxHeartbeats 40000000 in
theorem rmS_0 (l : Launch) (Z : State) (a0 : Array Value) (hw : ∀ d ∈ tables_1, d.before a0 Z = true) (ws : List Jvm.Cond) (c0 : Int32) (c1 : Int32) (c2 : Int32) (G1 : Int32) (h0 : Heap) (n0 : Nat) (hEL : EW Z a0 own_EL) (XO0 : Old Z n0 h0) (O2 : Sta Z Z.heap "java/lang/String" "COMPACT_STRINGS" "Z" (.int G1)) (P5 : ¬ (G1 = (0 : Int32))) (hh0 : own_ch c0) (hh1 : own_ch c1) (hh2 : own_ch c2) :
    MetFree l (⟨"com/example/practory/practory/resource/ElementDefinitionsDefinesItsElementsPinLaw", "str", "(ICCC)Ljava/lang/String;"⟩ : MethodName) (head1 (Jvm.Cond.code (⟨"com/example/practory/practory/resource/ElementDefinitionsDefinesItsElementsPinLaw", "str", "(ICCC)Ljava/lang/String;"⟩ : MethodName) method_2_code 4 (some (.object "java/lang/String")) :: ws) ({ frames := 4, cells := 6, slots := 12, locals := 66 } : Room)) (fun zz_ U => zz_ = #[(.int (0 : Int32)), (.int c0), (.int c1), (.int c2)] ∧ Z.Warmed39 U.vm ∧ U.heap = h0 ∧ CHv Z own_EL U.vm h0) (fun _ _ _ _ _ => True) (fun _ U o U' => ∃ v L, o = .returned v ∧ Q_rmS Z 0 c0 c1 c2 h0 n0 v U'.heap L ∧ CHr Z own_EL U.vm U.heap U'.vm U'.heap ∧ ReturnedEndW U o U' L ({ frames := 4, cells := 6, slots := 12, locals := 66 } : Room).cells ({ frames := 4, cells := 6, slots := 12, locals := 66 } : Room).slots) := by
  refine MetFree.of_bodySF (plainFor_of_name pn_2) hisR ?_
  intro p e s m args below meth c s₁ Bd hml0 hP hK
  obtain ⟨rfl, hZ, hh, hCH⟩ := hP
  have hx := Bd.exec
  have hby := Bd.bytes
  have hlk := Bd.notSynchronized
  have hW : ∀ (i : Nat) (d : Jvm.Cond), tables_1[i]? = some d → d.before a0 Z = true := fun i d h => hw d (List.mem_of_getElem? h)
  have hml : c.maxLocals = 4 := hml0
  have hown : s.vm.findClass "com/example/practory/practory/resource/ElementDefinitionsDefinesItsElementsPinLaw" = some m.cls := findClass_of_methodNamed Bd.named
  have hnm := (name_of_methodNamed Bd.named Bd.method).1
  have X0 : Stand p l e ({ frames := 4, cells := 6, slots := 12, locals := 66 } : Room) (s.setVm s.vm) m #[(.int (0 : Int32)), (.int c0), (.int c1), (.int c2)] below meth c s₁ [] 0 0 := Stand.of_body Bd
  have e0 : s₁.heap = h0 := by rw [← hh, Bd.state]; rfl
  have N0 := Fr.nil n0
  have hS0 : s.Since s.vm 0 := (State.WarmedH.refl s).since 0
  have CH0 : CHr Z own_EL s.vm s.heap s.vm h0 := by rw [hh]; exact CHr.refl hCH
  refine own_inc ?_
  refine own_ofc (fun tt_ kk_ => castTop (ef_rmS_0 m (0 : Int32) c0 c1 c2) kk_) ?_
  show own_gc p e below s _ _ _ _ _ (s₁.setTop (mkF m 0 #[.val (.int (0 : Int32)), .val (.int c0), .val (.int c1), .val (.int c2)] []))
  have wS : ∀ a ∈ Bundle.stringAtoms, a.before a0 Z = true := fun d hd => hw d ((by decide +kernel : ∀ d ∈ Bundle.stringAtoms, d ∈ tables_1) d hd)
  have hws : ∀ d ∈ StrChars.Road.words, d.before a0 Z = true := fun d hd => hw d ((by decide +kernel : ∀ d ∈ StrChars.Road.words, d ∈ tables_1) d hd)
  have K0 : Keep h0 h0 [] := Keep.refl h0 []
  refine own_ofc (fun tt_ => XS.iloadN X0.here hx rfl (hb hby d1_0) rfl) ?_
  show own_gc p e below s _ _ _ _ _ (s₁.setTop (mkF m 1 #[.val (.int (0 : Int32)), .val (.int c0), .val (.int c1), .val (.int c2)] [(.int (0 : Int32))]))
  have hb1_1 : (0 : Int32) = (0 : Int32) := by decide
  refine own_ofc (fun tt_ => XS.ifNo X0.here hx rfl (hb hby d1_1) rfl ((if0 _ _).trans (teq hb1_1).2)) ?_
  show own_gc p e below s _ _ _ _ _ (s₁.setTop (mkF m 4 #[.val (.int (0 : Int32)), .val (.int c0), .val (.int c1), .val (.int c2)] []))
  obtain ⟨T2, h2, X2, e2, E2, A2, D2, -, st2⟩ := newO X0 hx hZ hown (hW 4 _ rfl) (hW 5 _ rfl) (hW 6 _ rfl) e0 (g := (mkF m 4 #[.val (.int (0 : Int32)), .val (.int c0), .val (.int c1), .val (.int c2)] [])) rfl (hb hby d1_4) (by decide) (by decide)
  obtain ⟨b2, g2⟩ : ∃ z, z = h0.size := ⟨_, rfl⟩
  rw [← g2] at A2 D2 st2
  refine own_ofc st2 ?_
  have lt2 := own_lt A2.lt
  have sz2 : h0.size ≤ h2.size := E2.1
  have O2 : Old Z n0 h2 := XO0.ext E2
  have z2 : n0 ≤ b2 := by have := XO0.1 ▸ XO0.2.1; omega
  have CHs2 := CHr.ext E2 CH0.1
  have Sf2 := Safe.ext E2 CH0.1 (Safe.new (Nat.le_of_eq g2.symm))
  have CH2 := CH0.trans CHs2
  have K2 : Keep h0 h2 [] := K0.ext E2
  have F2_value : Fld Z h2 b2 "java/lang/String" "value" "[B" .null := D2 (Or.inr (hW 20 _ rfl)) (ty := (.array .byte)) pf_0
  have F2_coder : Fld Z h2 b2 "java/lang/String" "coder" "B" (.int (0 : Int32)) := D2 (Or.inr (hW 21 _ rfl)) (ty := .byte) pf_1
  show own_gc p e below s _ _ _ _ _ (T2.setTop (mkF m 7 #[.val (.int (0 : Int32)), .val (.int c0), .val (.int c1), .val (.int c2)] [(.ref b2)]))
  refine own_ofc (fun tt_ => XS.dup X2.here hx rfl (hb hby d1_7) rfl rfl) ?_
  show own_gc p e below s _ _ _ _ _ (T2.setTop (mkF m 8 #[.val (.int (0 : Int32)), .val (.int c0), .val (.int c1), .val (.int c2)] [(.ref b2), (.ref b2)]))
  refine own_ofc (fun tt_ => XS.iconst X2.here hx rfl (hb hby d1_8)) ?_
  show own_gc p e below s _ _ _ _ _ (T2.setTop (mkF m 9 #[.val (.int (0 : Int32)), .val (.int c0), .val (.int c1), .val (.int c2)] [(.int (0 : Int32)), (.ref b2), (.ref b2)]))
  obtain ⟨T3, h3, k3, X3, e3, E3, A3, st3⟩ := newP X2 hx hZ (hW 7 _ rfl) e2 (g := (mkF m 9 #[.val (.int (0 : Int32)), .val (.int c0), .val (.int c1), .val (.int c2)] [(.int (0 : Int32)), (.ref b2), (.ref b2)])) rfl (hb hby d1_9) rfl (by decide) (cap := 0) (by decide) (by decide) (by decide) (by decide)
  obtain ⟨b3, g3⟩ : ∃ z, z = h2.size := ⟨_, rfl⟩
  rw [← g3] at A3 st3
  refine own_ofc st3 ?_
  have lt3 := own_lt A3.lt
  have sz3 : h2.size ≤ h3.size := E3.1
  have O3 : Old Z n0 h3 := O2.ext E3
  have z3 : n0 ≤ b3 := by have := O2.1 ▸ O2.2.1; omega
  have CHs3 := CHr.ext E3 CH2.1
  have Sf3 := Safe.ext E3 CH2.1 (Safe.new (Nat.le_of_eq g3.symm))
  have CH3 := CH2.trans CHs3
  have K3 : Keep h0 h3 [] := K2.ext E3
  have V3 : Arv Z h3 b3 k3 .char (0 : Int32) [] (.int (0 : Int32)) := Arv.new A3 (by decide)
  show own_gc p e below s _ _ _ _ _ (T3.setTop (mkF m 11 #[.val (.int (0 : Int32)), .val (.int c0), .val (.int c1), .val (.int c2)] [(.ref b3), (.ref b2), (.ref b2)]))
  have f4 : Exa Z h3 b2 "java/lang/String" := (A2.ext E3)
  have f5 : Fld Z h3 b2 "java/lang/String" "value" "[B" .null := (F2_value.ext E3)
  have f6 : Fld Z h3 b2 "java/lang/String" "coder" "B" (.int (0 : Int32)) := (F2_coder.ext E3)
  obtain ⟨_, _, ⟨T7, L7, k7, n7⟩, -, Xr7, hSr7, hgr7, ⟨Lc7, hQ7, l7, y7, z7, CHs7⟩, st7⟩ := X3.specialBackS hx (y := (⟨"java/lang/String", "<init>", "([C)V"⟩ : MethodName)) rfl hown (mvT hZ (hW 8 _ rfl)) (mvT hZ (hW 9 _ rfl)) (mvT hZ (hW 10 _ rfl)) (by decide) (backOfSH (W := 1) (rmN1 l Z a0 hw [] b2 b3 k3 h3 n0 hEL O3 (by omega) f4 f5 f6 V3) hZ (hW 10 _ rfl) (hW 6 _ rfl) (by decide) (by decide) hEL CH3.1) (g := (mkF m 11 #[.val (.int (0 : Int32)), .val (.int c0), .val (.int c1), .val (.int c2)] [(.ref b3), (.ref b2), (.ref b2)])) rfl (by rw [hml]; rfl) (Steps.refl _) (a := b2) (argsL := [(.ref b3)]) (rest := [(.ref b2)]) (lenOf pd_1 rfl) rfl (by show 2 * 0 + _ ≤ _; exact Nat.le_of_eq rfl) (hb hby d1_11) (fun _ _ => ⟨rfl, e3, (by decide : 2 + 4 ≤ _), (by decide : 4 + 8 ≤ _)⟩)
  dsimp only [Pt.U, Pt.locs, Pt.cells, Pt.slots] at Xr7 l7 y7 z7 st7 hQ7 hSr7 hgr7 CHs7
  obtain ⟨X7, hS7, hZ7, hown7⟩ := rebS hS0 (by rw [e3]; omega : 0 ≤ T3.heap.size) Xr7 hSr7 hgr7 hZ hown
  subst l7 y7 z7
  obtain ⟨rfl, Nq7, Kp7, Sx7⟩ := hQ7
  have N7 := Fr.app N0 Nq7
  refine own_ofc (fun tt_ kk_ => st7.trans kk_) ?_
  have CH7 := CH3.trans CHs7
  have sz7 : h3.size ≤ T7.heap.size := Kp7.1
  have O7 : Old Z n0 T7.heap := O3.keep Kp7 (allS (by omega) all0)
  have K7 : Keep h0 T7.heap [] := K3.trans Kp7 (allS (Or.inr (by omega)) all0)
  have Ex7 : Exa Z T7.heap b2 "java/lang/String" := by obtain ⟨_, _, _, _, q, -⟩ := id Sx7; exact q
  show own_gc p e below s _ _ _ _ _ (T7.setTop (mkF m 14 #[.val (.int (0 : Int32)), .val (.int c0), .val (.int c1), .val (.int c2)] [(.ref b2)]))
  refine own_retc X7 hx hlk hS7 (by omega : T7.heap.size ≤ T7.heap.size) hZ7 hEL CH7 Bd.returns rfl (Or.inr (Or.inr (Or.inr (Or.inr ⟨rfl, rfl, rfl⟩)))) (hb hby d1_14) (by decide) (by decide) ?_
  skip
  have fin : own_str Z T7.heap b2 (own_cs 0 c0 c1 c2) := by
    have q := Sx7
    exact q
  exact ⟨b2, rfl, N7, K7, by omega, fin⟩
theorem ef_rmS_1 (m : MethodId) (x0 : Int32) (x1 : Int32) (x2 : Int32) (x3 : Int32) : entryFrame m #[(.int x0), (.int x1), (.int x2), (.int x3)] 4 = mkF m 0 #[.val (.int x0), .val (.int x1), .val (.int x2), .val (.int x3)] [] := by first | (simp [entryFrame, mkF, argsToLocals, Value.category]; done) | rfl
theorem d1_15 : decode method_2_code 15 = .ok (.iload_n 0, 1) := by decide +kernel
theorem d1_16 : decode method_2_code 16 = .ok (.iconst 1, 1) := by decide +kernel
theorem d1_17 : decode method_2_code 17 = .ok (.if_icmp .ne 18, 3) := by decide +kernel
theorem d1_20 : decode method_2_code 20 = .ok (.new 7, 3) := by decide +kernel
theorem d1_23 : decode method_2_code 23 = .ok (.dup, 1) := by decide +kernel
theorem d1_24 : decode method_2_code 24 = .ok (.iconst 1, 1) := by decide +kernel
theorem d1_25 : decode method_2_code 25 = .ok (.newarray .char, 2) := by decide +kernel
theorem d1_27 : decode method_2_code 27 = .ok (.dup, 1) := by decide +kernel
theorem d1_28 : decode method_2_code 28 = .ok (.iconst 0, 1) := by decide +kernel
theorem d1_29 : decode method_2_code 29 = .ok (.iload_n 1, 1) := by decide +kernel
theorem d1_30 : decode method_2_code 30 = .ok (.castore, 1) := by decide +kernel
theorem d1_31 : decode method_2_code 31 = .ok (.invokespecial 9, 3) := by decide +kernel
theorem d1_34 : decode method_2_code 34 = .ok (.areturn, 1) := by decide +kernel
set_option maxRecDepth 65536 in
set_option maxHeartbeats 40000000 in
theorem rmS_1 (l : Launch) (Z : State) (a0 : Array Value) (hw : ∀ d ∈ tables_1, d.before a0 Z = true) (ws : List Jvm.Cond) (c0 : Int32) (c1 : Int32) (c2 : Int32) (G1 : Int32) (h0 : Heap) (n0 : Nat) (hEL : EW Z a0 own_EL) (XO0 : Old Z n0 h0) (O2 : Sta Z Z.heap "java/lang/String" "COMPACT_STRINGS" "Z" (.int G1)) (P5 : ¬ (G1 = (0 : Int32))) (hh0 : own_ch c0) (hh1 : own_ch c1) (hh2 : own_ch c2) :
    MetFree l (⟨"com/example/practory/practory/resource/ElementDefinitionsDefinesItsElementsPinLaw", "str", "(ICCC)Ljava/lang/String;"⟩ : MethodName) (head1 (Jvm.Cond.code (⟨"com/example/practory/practory/resource/ElementDefinitionsDefinesItsElementsPinLaw", "str", "(ICCC)Ljava/lang/String;"⟩ : MethodName) method_2_code 4 (some (.object "java/lang/String")) :: ws) ({ frames := 4, cells := 6, slots := 12, locals := 66 } : Room)) (fun zz_ U => zz_ = #[(.int (1 : Int32)), (.int c0), (.int c1), (.int c2)] ∧ Z.Warmed39 U.vm ∧ U.heap = h0 ∧ CHv Z own_EL U.vm h0) (fun _ _ _ _ _ => True) (fun _ U o U' => ∃ v L, o = .returned v ∧ Q_rmS Z 1 c0 c1 c2 h0 n0 v U'.heap L ∧ CHr Z own_EL U.vm U.heap U'.vm U'.heap ∧ ReturnedEndW U o U' L ({ frames := 4, cells := 6, slots := 12, locals := 66 } : Room).cells ({ frames := 4, cells := 6, slots := 12, locals := 66 } : Room).slots) := by
  refine MetFree.of_bodySF (plainFor_of_name pn_2) hisR ?_
  intro p e s m args below meth c s₁ Bd hml0 hP hK
  obtain ⟨rfl, hZ, hh, hCH⟩ := hP
  have hx := Bd.exec
  have hby := Bd.bytes
  have hlk := Bd.notSynchronized
  have hW : ∀ (i : Nat) (d : Jvm.Cond), tables_1[i]? = some d → d.before a0 Z = true := fun i d h => hw d (List.mem_of_getElem? h)
  have hml : c.maxLocals = 4 := hml0
  have hown : s.vm.findClass "com/example/practory/practory/resource/ElementDefinitionsDefinesItsElementsPinLaw" = some m.cls := findClass_of_methodNamed Bd.named
  have hnm := (name_of_methodNamed Bd.named Bd.method).1
  have X0 : Stand p l e ({ frames := 4, cells := 6, slots := 12, locals := 66 } : Room) (s.setVm s.vm) m #[(.int (1 : Int32)), (.int c0), (.int c1), (.int c2)] below meth c s₁ [] 0 0 := Stand.of_body Bd
  have e0 : s₁.heap = h0 := by rw [← hh, Bd.state]; rfl
  have N0 := Fr.nil n0
  have hS0 : s.Since s.vm 0 := (State.WarmedH.refl s).since 0
  have CH0 : CHr Z own_EL s.vm s.heap s.vm h0 := by rw [hh]; exact CHr.refl hCH
  refine own_inc ?_
  refine own_ofc (fun tt_ kk_ => castTop (ef_rmS_1 m (1 : Int32) c0 c1 c2) kk_) ?_
  show own_gc p e below s _ _ _ _ _ (s₁.setTop (mkF m 0 #[.val (.int (1 : Int32)), .val (.int c0), .val (.int c1), .val (.int c2)] []))
  have wS : ∀ a ∈ Bundle.stringAtoms, a.before a0 Z = true := fun d hd => hw d ((by decide +kernel : ∀ d ∈ Bundle.stringAtoms, d ∈ tables_1) d hd)
  have hws : ∀ d ∈ StrChars.Road.words, d.before a0 Z = true := fun d hd => hw d ((by decide +kernel : ∀ d ∈ StrChars.Road.words, d ∈ tables_1) d hd)
  have K0 : Keep h0 h0 [] := Keep.refl h0 []
  refine own_ofc (fun tt_ => XS.iloadN X0.here hx rfl (hb hby d1_0) rfl) ?_
  show own_gc p e below s _ _ _ _ _ (s₁.setTop (mkF m 1 #[.val (.int (1 : Int32)), .val (.int c0), .val (.int c1), .val (.int c2)] [(.int (1 : Int32))]))
  have hb1_1 : ¬ ((1 : Int32) = (0 : Int32)) := by decide
  refine own_ofc (fun tt_ => XS.ifYes X0.here hx rfl (pc0 := 1) (pc' := 15) rfl (hb hby d1_1) rfl ((if0 _ _).trans (feq hb1_1).2) (by decide) (by decide)) ?_
  show own_gc p e below s _ _ _ _ _ (s₁.setTop (mkF m 15 #[.val (.int (1 : Int32)), .val (.int c0), .val (.int c1), .val (.int c2)] []))
  refine own_ofc (fun tt_ => XS.iloadN X0.here hx rfl (hb hby d1_15) rfl) ?_
  show own_gc p e below s _ _ _ _ _ (s₁.setTop (mkF m 16 #[.val (.int (1 : Int32)), .val (.int c0), .val (.int c1), .val (.int c2)] [(.int (1 : Int32))]))
  refine own_ofc (fun tt_ => XS.iconst X0.here hx rfl (hb hby d1_16)) ?_
  show own_gc p e below s _ _ _ _ _ (s₁.setTop (mkF m 17 #[.val (.int (1 : Int32)), .val (.int c0), .val (.int c1), .val (.int c2)] [(.int (1 : Int32)), (.int (1 : Int32))]))
  have hb17_2 : (1 : Int32) = (1 : Int32) := by decide
  refine own_ofc (fun tt_ => XS.icmpNo X0.here hx rfl (hb hby d1_17) rfl (teq hb17_2).2) ?_
  show own_gc p e below s _ _ _ _ _ (s₁.setTop (mkF m 20 #[.val (.int (1 : Int32)), .val (.int c0), .val (.int c1), .val (.int c2)] []))
  obtain ⟨T3, h3, X3, e3, E3, A3, D3, -, st3⟩ := newO X0 hx hZ hown (hW 4 _ rfl) (hW 5 _ rfl) (hW 6 _ rfl) e0 (g := (mkF m 20 #[.val (.int (1 : Int32)), .val (.int c0), .val (.int c1), .val (.int c2)] [])) rfl (hb hby d1_20) (by decide) (by decide)
  obtain ⟨b3, g3⟩ : ∃ z, z = h0.size := ⟨_, rfl⟩
  rw [← g3] at A3 D3 st3
  refine own_ofc st3 ?_
  have lt3 := own_lt A3.lt
  have sz3 : h0.size ≤ h3.size := E3.1
  have O3 : Old Z n0 h3 := XO0.ext E3
  have z3 : n0 ≤ b3 := by have := XO0.1 ▸ XO0.2.1; omega
  have CHs3 := CHr.ext E3 CH0.1
  have Sf3 := Safe.ext E3 CH0.1 (Safe.new (Nat.le_of_eq g3.symm))
  have CH3 := CH0.trans CHs3
  have K3 : Keep h0 h3 [] := K0.ext E3
  have F3_value : Fld Z h3 b3 "java/lang/String" "value" "[B" .null := D3 (Or.inr (hW 20 _ rfl)) (ty := (.array .byte)) pf_0
  have F3_coder : Fld Z h3 b3 "java/lang/String" "coder" "B" (.int (0 : Int32)) := D3 (Or.inr (hW 21 _ rfl)) (ty := .byte) pf_1
  show own_gc p e below s _ _ _ _ _ (T3.setTop (mkF m 23 #[.val (.int (1 : Int32)), .val (.int c0), .val (.int c1), .val (.int c2)] [(.ref b3)]))
  refine own_ofc (fun tt_ => XS.dup X3.here hx rfl (hb hby d1_23) rfl rfl) ?_
  show own_gc p e below s _ _ _ _ _ (T3.setTop (mkF m 24 #[.val (.int (1 : Int32)), .val (.int c0), .val (.int c1), .val (.int c2)] [(.ref b3), (.ref b3)]))
  refine own_ofc (fun tt_ => XS.iconst X3.here hx rfl (hb hby d1_24)) ?_
  show own_gc p e below s _ _ _ _ _ (T3.setTop (mkF m 25 #[.val (.int (1 : Int32)), .val (.int c0), .val (.int c1), .val (.int c2)] [(.int (1 : Int32)), (.ref b3), (.ref b3)]))
  obtain ⟨T4, h4, k4, X4, e4, E4, A4, st4⟩ := newP X3 hx hZ (hW 7 _ rfl) e3 (g := (mkF m 25 #[.val (.int (1 : Int32)), .val (.int c0), .val (.int c1), .val (.int c2)] [(.int (1 : Int32)), (.ref b3), (.ref b3)])) rfl (hb hby d1_25) rfl (by decide) (cap := 1) (by decide) (by decide) (by decide) (by decide)
  obtain ⟨b4, g4⟩ : ∃ z, z = h3.size := ⟨_, rfl⟩
  rw [← g4] at A4 st4
  refine own_ofc st4 ?_
  have lt4 := own_lt A4.lt
  have sz4 : h3.size ≤ h4.size := E4.1
  have O4 : Old Z n0 h4 := O3.ext E4
  have z4 : n0 ≤ b4 := by have := O3.1 ▸ O3.2.1; omega
  have CHs4 := CHr.ext E4 CH3.1
  have Sf4 := Safe.ext E4 CH3.1 (Safe.new (Nat.le_of_eq g4.symm))
  have CH4 := CH3.trans CHs4
  have K4 : Keep h0 h4 [] := K3.ext E4
  have V4 : Arv Z h4 b4 k4 .char (1 : Int32) [(.int (0 : Int32))] (.int (0 : Int32)) := (Arv.new A4 (by decide)).pad (pad_rep [] (.int (0 : Int32)) 1)
  show own_gc p e below s _ _ _ _ _ (T4.setTop (mkF m 27 #[.val (.int (1 : Int32)), .val (.int c0), .val (.int c1), .val (.int c2)] [(.ref b4), (.ref b3), (.ref b3)]))
  refine own_ofc (fun tt_ => XS.dup X4.here hx rfl (hb hby d1_27) rfl rfl) ?_
  show own_gc p e below s _ _ _ _ _ (T4.setTop (mkF m 28 #[.val (.int (1 : Int32)), .val (.int c0), .val (.int c1), .val (.int c2)] [(.ref b4), (.ref b4), (.ref b3), (.ref b3)]))
  refine own_ofc (fun tt_ => XS.iconst X4.here hx rfl (hb hby d1_28)) ?_
  show own_gc p e below s _ _ _ _ _ (T4.setTop (mkF m 29 #[.val (.int (1 : Int32)), .val (.int c0), .val (.int c1), .val (.int c2)] [(.int (0 : Int32)), (.ref b4), (.ref b4), (.ref b3), (.ref b3)]))
  refine own_ofc (fun tt_ => XS.iloadN X4.here hx rfl (hb hby d1_29) rfl) ?_
  show own_gc p e below s _ _ _ _ _ (T4.setTop (mkF m 30 #[.val (.int (1 : Int32)), .val (.int c0), .val (.int c1), .val (.int c2)] [(.int c0), (.int (0 : Int32)), (.ref b4), (.ref b4), (.ref b3), (.ref b3)]))
  obtain ⟨cl5, Ar5, q5, S5, Ng5, H5, G5⟩ := V4
  obtain ⟨T5, h5, X5, e5, W5, st5⟩ := stC X4 hx hZ e4 Ar5 (j := (0 : Int32)) (inb_of S5 ⟨by decide, by decide⟩) (g := (mkF m 30 #[.val (.int (1 : Int32)), .val (.int c0), .val (.int c1), .val (.int c2)] [(.int c0), (.int (0 : Int32)), (.ref b4), (.ref b4), (.ref b3), (.ref b3)])) rfl rfl (hb hby d1_30)
  have V5 : Arv Z h5 b4 k4 .char (1 : Int32) [(.int (nar .char c0))] (.int (0 : Int32)) := Arv.set Ar5 q5 S5 Ng5 H5 G5 (fits_nar_char _) W5 0 rfl (Nat.le_of_ble_eq_true rfl)
  refine own_ofc st5 ?_
  have CHs5 := CHr.wr W5 Sf4 CH4.1
  have CH5 := CH4.trans CHs5
  have N5 := Fr.snoc X5 N0 (by omega : n0 ≤ b4)
  have sz5 : h5.size = h4.size := W5.size
  have O5 : Old Z n0 h5 := O4.wr W5 (by omega)
  have K5 : Keep h0 h5 [] := K4.wr W5 (Or.inr (by omega))
  show own_gc p e below s _ _ _ _ _ (T5.setTop (mkF m 31 #[.val (.int (1 : Int32)), .val (.int c0), .val (.int c1), .val (.int c2)] [(.ref b4), (.ref b3), (.ref b3)]))
  have hp6 : ∀ c ∈ ([nar .char c0] : List Int32), ¬ c < 0 ∧ ¬ (255 : Int32) < c := by
    intro c hc
    simp only [List.mem_cons, List.not_mem_nil, or_false] at hc
    rcases hc with rfl
    · exact (by rw [own_nar hh0]; exact hh0)
  have f7 : Exa Z h5 b3 "java/lang/String" := ((A3.ext E4).wr W5)
  have f8 : Fld Z h5 b3 "java/lang/String" "value" "[B" .null := ((F3_value.ext E4).other W5 (Or.inl (own_ne (by omega))))
  have f9 : Fld Z h5 b3 "java/lang/String" "coder" "B" (.int (0 : Int32)) := ((F3_coder.ext E4).other W5 (Or.inl (own_ne (by omega))))
  obtain ⟨_, _, ⟨T10, L10, k10, n10⟩, -, X10, ⟨Lc10, hQ10, l10, y10, z10⟩, st10⟩ := X5.specialBack hx (y := (⟨"java/lang/String", "<init>", "([C)V"⟩ : MethodName)) rfl hown (mvT hZ (hW 8 _ rfl)) (mvT hZ (hW 9 _ rfl)) (mvT hZ (hW 10 _ rfl)) (by decide) (StrChars.Road.backV (W := 1) hZ hws (kI := 4) (hW 5 _ rfl) (cs := ([nar .char c0] : List Int32)) (bs := ([nar .char c0] : List Int32).map (fun c => c.toInt8.toInt32)) (n := 1) (by omega : n0 ≤ b3) (by omega : n0 ≤ h5.size) f7 f8 f9 V5 (O2.ext O5.2) P5 rfl rfl (by decide) (by decide) hp6 rfl (by decide) (by decide)) (g := (mkF m 31 #[.val (.int (1 : Int32)), .val (.int c0), .val (.int c1), .val (.int c2)] [(.ref b4), (.ref b3), (.ref b3)])) rfl (by rw [hml]; rfl) (Steps.refl _) (a := b3) (argsL := [(.ref b4)]) (rest := [(.ref b3)]) (lenOf pd_1 rfl) rfl (by show 2 * 0 + _ ≤ _; exact Nat.le_of_eq rfl) (hb hby d1_31) (fun _ _ => ⟨rfl, e5, (by decide : 2 + 1 ≤ _), (by decide : 5 + 1 ≤ _)⟩)
  dsimp only [Pt.U, Pt.locs, Pt.cells, Pt.slots] at X10 l10 y10 z10 st10 hQ10
  subst l10 y10 z10
  obtain ⟨rfl, Nq10, Kp10, g110, g210, t10, kb10, u110, u210, u310, g410, g510⟩ := hQ10
  have N10 := Fr.app N5 Nq10
  refine own_ofc (fun tt_ kk_ => st10.trans kk_) ?_
  have f11 := (CHs5.safe (own_lt (by omega)) (CHs4.safe (own_lt (by omega)) Sf3))
  have CHs10 := CHr.keep Kp10 (allS f11 all0) CH5.1
  have CH10 := CH5.trans CHs10
  have sz10 : h5.size ≤ T10.heap.size := Kp10.1
  have O10 : Old Z n0 T10.heap := O5.keep Kp10 (allS (by omega) all0)
  have K10 : Keep h0 T10.heap [] := K5.trans Kp10 (allS (Or.inr (by omega)) all0)
  have Sx10 : own_str Z T10.heap b3 ([nar .char c0] : List Int32) := ⟨t10, kb10, _, _, g110, g410, g210, g510, StrChars.Road.codOf (n := 1) rfl (fun c hc => (hp6 c hc).2)⟩
  have Ex10 : Exa Z T10.heap b3 "java/lang/String" := by obtain ⟨_, _, _, _, q, -⟩ := id Sx10; exact q
  show own_gc p e below s _ _ _ _ _ (T10.setTop (mkF m 34 #[.val (.int (1 : Int32)), .val (.int c0), .val (.int c1), .val (.int c2)] [(.ref b3)]))
  refine own_retc X10 hx hlk hS0 (by omega : 0 ≤ T10.heap.size) hZ hEL CH10 Bd.returns rfl (Or.inr (Or.inr (Or.inr (Or.inr ⟨rfl, rfl, rfl⟩)))) (hb hby d1_34) (by decide) (by decide) ?_
  skip
  have fin : own_str Z T10.heap b3 (own_cs 1 c0 c1 c2) := by
    have q := Sx10
    rw [own_nar hh0] at q
    exact q
  exact ⟨b3, rfl, N10, K10, by omega, fin⟩
theorem ef_rmS_2 (m : MethodId) (x0 : Int32) (x1 : Int32) (x2 : Int32) (x3 : Int32) : entryFrame m #[(.int x0), (.int x1), (.int x2), (.int x3)] 4 = mkF m 0 #[.val (.int x0), .val (.int x1), .val (.int x2), .val (.int x3)] [] := by first | (simp [entryFrame, mkF, argsToLocals, Value.category]; done) | rfl
theorem d1_35 : decode method_2_code 35 = .ok (.iload_n 0, 1) := by decide +kernel
theorem d1_36 : decode method_2_code 36 = .ok (.iconst 2, 1) := by decide +kernel
theorem d1_37 : decode method_2_code 37 = .ok (.if_icmp .ne 22, 3) := by decide +kernel
theorem d1_40 : decode method_2_code 40 = .ok (.new 7, 3) := by decide +kernel
theorem d1_43 : decode method_2_code 43 = .ok (.dup, 1) := by decide +kernel
theorem d1_44 : decode method_2_code 44 = .ok (.iconst 2, 1) := by decide +kernel
theorem d1_45 : decode method_2_code 45 = .ok (.newarray .char, 2) := by decide +kernel
theorem d1_47 : decode method_2_code 47 = .ok (.dup, 1) := by decide +kernel
theorem d1_48 : decode method_2_code 48 = .ok (.iconst 0, 1) := by decide +kernel
theorem d1_49 : decode method_2_code 49 = .ok (.iload_n 1, 1) := by decide +kernel
theorem d1_50 : decode method_2_code 50 = .ok (.castore, 1) := by decide +kernel
theorem d1_51 : decode method_2_code 51 = .ok (.dup, 1) := by decide +kernel
theorem d1_52 : decode method_2_code 52 = .ok (.iconst 1, 1) := by decide +kernel
theorem d1_53 : decode method_2_code 53 = .ok (.iload_n 2, 1) := by decide +kernel
theorem d1_54 : decode method_2_code 54 = .ok (.castore, 1) := by decide +kernel
theorem d1_55 : decode method_2_code 55 = .ok (.invokespecial 9, 3) := by decide +kernel
theorem d1_58 : decode method_2_code 58 = .ok (.areturn, 1) := by decide +kernel
set_option maxRecDepth 65536 in
set_option maxHeartbeats 40000000 in
theorem rmS_2 (l : Launch) (Z : State) (a0 : Array Value) (hw : ∀ d ∈ tables_1, d.before a0 Z = true) (ws : List Jvm.Cond) (c0 : Int32) (c1 : Int32) (c2 : Int32) (G1 : Int32) (h0 : Heap) (n0 : Nat) (hEL : EW Z a0 own_EL) (XO0 : Old Z n0 h0) (O2 : Sta Z Z.heap "java/lang/String" "COMPACT_STRINGS" "Z" (.int G1)) (P5 : ¬ (G1 = (0 : Int32))) (hh0 : own_ch c0) (hh1 : own_ch c1) (hh2 : own_ch c2) :
    MetFree l (⟨"com/example/practory/practory/resource/ElementDefinitionsDefinesItsElementsPinLaw", "str", "(ICCC)Ljava/lang/String;"⟩ : MethodName) (head1 (Jvm.Cond.code (⟨"com/example/practory/practory/resource/ElementDefinitionsDefinesItsElementsPinLaw", "str", "(ICCC)Ljava/lang/String;"⟩ : MethodName) method_2_code 4 (some (.object "java/lang/String")) :: ws) ({ frames := 4, cells := 6, slots := 12, locals := 66 } : Room)) (fun zz_ U => zz_ = #[(.int (2 : Int32)), (.int c0), (.int c1), (.int c2)] ∧ Z.Warmed39 U.vm ∧ U.heap = h0 ∧ CHv Z own_EL U.vm h0) (fun _ _ _ _ _ => True) (fun _ U o U' => ∃ v L, o = .returned v ∧ Q_rmS Z 2 c0 c1 c2 h0 n0 v U'.heap L ∧ CHr Z own_EL U.vm U.heap U'.vm U'.heap ∧ ReturnedEndW U o U' L ({ frames := 4, cells := 6, slots := 12, locals := 66 } : Room).cells ({ frames := 4, cells := 6, slots := 12, locals := 66 } : Room).slots) := by
  refine MetFree.of_bodySF (plainFor_of_name pn_2) hisR ?_
  intro p e s m args below meth c s₁ Bd hml0 hP hK
  obtain ⟨rfl, hZ, hh, hCH⟩ := hP
  have hx := Bd.exec
  have hby := Bd.bytes
  have hlk := Bd.notSynchronized
  have hW : ∀ (i : Nat) (d : Jvm.Cond), tables_1[i]? = some d → d.before a0 Z = true := fun i d h => hw d (List.mem_of_getElem? h)
  have hml : c.maxLocals = 4 := hml0
  have hown : s.vm.findClass "com/example/practory/practory/resource/ElementDefinitionsDefinesItsElementsPinLaw" = some m.cls := findClass_of_methodNamed Bd.named
  have hnm := (name_of_methodNamed Bd.named Bd.method).1
  have X0 : Stand p l e ({ frames := 4, cells := 6, slots := 12, locals := 66 } : Room) (s.setVm s.vm) m #[(.int (2 : Int32)), (.int c0), (.int c1), (.int c2)] below meth c s₁ [] 0 0 := Stand.of_body Bd
  have e0 : s₁.heap = h0 := by rw [← hh, Bd.state]; rfl
  have N0 := Fr.nil n0
  have hS0 : s.Since s.vm 0 := (State.WarmedH.refl s).since 0
  have CH0 : CHr Z own_EL s.vm s.heap s.vm h0 := by rw [hh]; exact CHr.refl hCH
  refine own_inc ?_
  refine own_ofc (fun tt_ kk_ => castTop (ef_rmS_2 m (2 : Int32) c0 c1 c2) kk_) ?_
  show own_gc p e below s _ _ _ _ _ (s₁.setTop (mkF m 0 #[.val (.int (2 : Int32)), .val (.int c0), .val (.int c1), .val (.int c2)] []))
  have wS : ∀ a ∈ Bundle.stringAtoms, a.before a0 Z = true := fun d hd => hw d ((by decide +kernel : ∀ d ∈ Bundle.stringAtoms, d ∈ tables_1) d hd)
  have hws : ∀ d ∈ StrChars.Road.words, d.before a0 Z = true := fun d hd => hw d ((by decide +kernel : ∀ d ∈ StrChars.Road.words, d ∈ tables_1) d hd)
  have K0 : Keep h0 h0 [] := Keep.refl h0 []
  refine own_ofc (fun tt_ => XS.iloadN X0.here hx rfl (hb hby d1_0) rfl) ?_
  show own_gc p e below s _ _ _ _ _ (s₁.setTop (mkF m 1 #[.val (.int (2 : Int32)), .val (.int c0), .val (.int c1), .val (.int c2)] [(.int (2 : Int32))]))
  have hb1_1 : ¬ ((2 : Int32) = (0 : Int32)) := by decide
  refine own_ofc (fun tt_ => XS.ifYes X0.here hx rfl (pc0 := 1) (pc' := 15) rfl (hb hby d1_1) rfl ((if0 _ _).trans (feq hb1_1).2) (by decide) (by decide)) ?_
  show own_gc p e below s _ _ _ _ _ (s₁.setTop (mkF m 15 #[.val (.int (2 : Int32)), .val (.int c0), .val (.int c1), .val (.int c2)] []))
  refine own_ofc (fun tt_ => XS.iloadN X0.here hx rfl (hb hby d1_15) rfl) ?_
  show own_gc p e below s _ _ _ _ _ (s₁.setTop (mkF m 16 #[.val (.int (2 : Int32)), .val (.int c0), .val (.int c1), .val (.int c2)] [(.int (2 : Int32))]))
  refine own_ofc (fun tt_ => XS.iconst X0.here hx rfl (hb hby d1_16)) ?_
  show own_gc p e below s _ _ _ _ _ (s₁.setTop (mkF m 17 #[.val (.int (2 : Int32)), .val (.int c0), .val (.int c1), .val (.int c2)] [(.int (1 : Int32)), (.int (2 : Int32))]))
  have hb17_2 : ¬ ((2 : Int32) = (1 : Int32)) := by decide
  refine own_ofc (fun tt_ => XS.icmpYes X0.here hx rfl (pc0 := 17) (pc' := 35) rfl (hb hby d1_17) rfl (feq hb17_2).2 (by decide) (by decide)) ?_
  show own_gc p e below s _ _ _ _ _ (s₁.setTop (mkF m 35 #[.val (.int (2 : Int32)), .val (.int c0), .val (.int c1), .val (.int c2)] []))
  refine own_ofc (fun tt_ => XS.iloadN X0.here hx rfl (hb hby d1_35) rfl) ?_
  show own_gc p e below s _ _ _ _ _ (s₁.setTop (mkF m 36 #[.val (.int (2 : Int32)), .val (.int c0), .val (.int c1), .val (.int c2)] [(.int (2 : Int32))]))
  refine own_ofc (fun tt_ => XS.iconst X0.here hx rfl (hb hby d1_36)) ?_
  show own_gc p e below s _ _ _ _ _ (s₁.setTop (mkF m 37 #[.val (.int (2 : Int32)), .val (.int c0), .val (.int c1), .val (.int c2)] [(.int (2 : Int32)), (.int (2 : Int32))]))
  have hb37_3 : (2 : Int32) = (2 : Int32) := by decide
  refine own_ofc (fun tt_ => XS.icmpNo X0.here hx rfl (hb hby d1_37) rfl (teq hb37_3).2) ?_
  show own_gc p e below s _ _ _ _ _ (s₁.setTop (mkF m 40 #[.val (.int (2 : Int32)), .val (.int c0), .val (.int c1), .val (.int c2)] []))
  obtain ⟨T4, h4, X4, e4, E4, A4, D4, -, st4⟩ := newO X0 hx hZ hown (hW 4 _ rfl) (hW 5 _ rfl) (hW 6 _ rfl) e0 (g := (mkF m 40 #[.val (.int (2 : Int32)), .val (.int c0), .val (.int c1), .val (.int c2)] [])) rfl (hb hby d1_40) (by decide) (by decide)
  obtain ⟨b4, g4⟩ : ∃ z, z = h0.size := ⟨_, rfl⟩
  rw [← g4] at A4 D4 st4
  refine own_ofc st4 ?_
  have lt4 := own_lt A4.lt
  have sz4 : h0.size ≤ h4.size := E4.1
  have O4 : Old Z n0 h4 := XO0.ext E4
  have z4 : n0 ≤ b4 := by have := XO0.1 ▸ XO0.2.1; omega
  have CHs4 := CHr.ext E4 CH0.1
  have Sf4 := Safe.ext E4 CH0.1 (Safe.new (Nat.le_of_eq g4.symm))
  have CH4 := CH0.trans CHs4
  have K4 : Keep h0 h4 [] := K0.ext E4
  have F4_value : Fld Z h4 b4 "java/lang/String" "value" "[B" .null := D4 (Or.inr (hW 20 _ rfl)) (ty := (.array .byte)) pf_0
  have F4_coder : Fld Z h4 b4 "java/lang/String" "coder" "B" (.int (0 : Int32)) := D4 (Or.inr (hW 21 _ rfl)) (ty := .byte) pf_1
  show own_gc p e below s _ _ _ _ _ (T4.setTop (mkF m 43 #[.val (.int (2 : Int32)), .val (.int c0), .val (.int c1), .val (.int c2)] [(.ref b4)]))
  refine own_ofc (fun tt_ => XS.dup X4.here hx rfl (hb hby d1_43) rfl rfl) ?_
  show own_gc p e below s _ _ _ _ _ (T4.setTop (mkF m 44 #[.val (.int (2 : Int32)), .val (.int c0), .val (.int c1), .val (.int c2)] [(.ref b4), (.ref b4)]))
  refine own_ofc (fun tt_ => XS.iconst X4.here hx rfl (hb hby d1_44)) ?_
  show own_gc p e below s _ _ _ _ _ (T4.setTop (mkF m 45 #[.val (.int (2 : Int32)), .val (.int c0), .val (.int c1), .val (.int c2)] [(.int (2 : Int32)), (.ref b4), (.ref b4)]))
  obtain ⟨T5, h5, k5, X5, e5, E5, A5, st5⟩ := newP X4 hx hZ (hW 7 _ rfl) e4 (g := (mkF m 45 #[.val (.int (2 : Int32)), .val (.int c0), .val (.int c1), .val (.int c2)] [(.int (2 : Int32)), (.ref b4), (.ref b4)])) rfl (hb hby d1_45) rfl (by decide) (cap := 2) (by decide) (by decide) (by decide) (by decide)
  obtain ⟨b5, g5⟩ : ∃ z, z = h4.size := ⟨_, rfl⟩
  rw [← g5] at A5 st5
  refine own_ofc st5 ?_
  have lt5 := own_lt A5.lt
  have sz5 : h4.size ≤ h5.size := E5.1
  have O5 : Old Z n0 h5 := O4.ext E5
  have z5 : n0 ≤ b5 := by have := O4.1 ▸ O4.2.1; omega
  have CHs5 := CHr.ext E5 CH4.1
  have Sf5 := Safe.ext E5 CH4.1 (Safe.new (Nat.le_of_eq g5.symm))
  have CH5 := CH4.trans CHs5
  have K5 : Keep h0 h5 [] := K4.ext E5
  have V5 : Arv Z h5 b5 k5 .char (2 : Int32) [(.int (0 : Int32)), (.int (0 : Int32))] (.int (0 : Int32)) := (Arv.new A5 (by decide)).pad (pad_rep [] (.int (0 : Int32)) 2)
  show own_gc p e below s _ _ _ _ _ (T5.setTop (mkF m 47 #[.val (.int (2 : Int32)), .val (.int c0), .val (.int c1), .val (.int c2)] [(.ref b5), (.ref b4), (.ref b4)]))
  refine own_ofc (fun tt_ => XS.dup X5.here hx rfl (hb hby d1_47) rfl rfl) ?_
  show own_gc p e below s _ _ _ _ _ (T5.setTop (mkF m 48 #[.val (.int (2 : Int32)), .val (.int c0), .val (.int c1), .val (.int c2)] [(.ref b5), (.ref b5), (.ref b4), (.ref b4)]))
  refine own_ofc (fun tt_ => XS.iconst X5.here hx rfl (hb hby d1_48)) ?_
  show own_gc p e below s _ _ _ _ _ (T5.setTop (mkF m 49 #[.val (.int (2 : Int32)), .val (.int c0), .val (.int c1), .val (.int c2)] [(.int (0 : Int32)), (.ref b5), (.ref b5), (.ref b4), (.ref b4)]))
  refine own_ofc (fun tt_ => XS.iloadN X5.here hx rfl (hb hby d1_49) rfl) ?_
  show own_gc p e below s _ _ _ _ _ (T5.setTop (mkF m 50 #[.val (.int (2 : Int32)), .val (.int c0), .val (.int c1), .val (.int c2)] [(.int c0), (.int (0 : Int32)), (.ref b5), (.ref b5), (.ref b4), (.ref b4)]))
  obtain ⟨cl6, Ar6, q6, S6, Ng6, H6, G6⟩ := V5
  obtain ⟨T6, h6, X6, e6, W6, st6⟩ := stC X5 hx hZ e5 Ar6 (j := (0 : Int32)) (inb_of S6 ⟨by decide, by decide⟩) (g := (mkF m 50 #[.val (.int (2 : Int32)), .val (.int c0), .val (.int c1), .val (.int c2)] [(.int c0), (.int (0 : Int32)), (.ref b5), (.ref b5), (.ref b4), (.ref b4)])) rfl rfl (hb hby d1_50)
  have V6 : Arv Z h6 b5 k5 .char (2 : Int32) [(.int (nar .char c0)), (.int (0 : Int32))] (.int (0 : Int32)) := Arv.set Ar6 q6 S6 Ng6 H6 G6 (fits_nar_char _) W6 0 rfl (Nat.le_of_ble_eq_true rfl)
  refine own_ofc st6 ?_
  have CHs6 := CHr.wr W6 Sf5 CH5.1
  have CH6 := CH5.trans CHs6
  have N6 := Fr.snoc X6 N0 (by omega : n0 ≤ b5)
  have sz6 : h6.size = h5.size := W6.size
  have O6 : Old Z n0 h6 := O5.wr W6 (by omega)
  have K6 : Keep h0 h6 [] := K5.wr W6 (Or.inr (by omega))
  show own_gc p e below s _ _ _ _ _ (T6.setTop (mkF m 51 #[.val (.int (2 : Int32)), .val (.int c0), .val (.int c1), .val (.int c2)] [(.ref b5), (.ref b4), (.ref b4)]))
  refine own_ofc (fun tt_ => XS.dup X6.here hx rfl (hb hby d1_51) rfl rfl) ?_
  show own_gc p e below s _ _ _ _ _ (T6.setTop (mkF m 52 #[.val (.int (2 : Int32)), .val (.int c0), .val (.int c1), .val (.int c2)] [(.ref b5), (.ref b5), (.ref b4), (.ref b4)]))
  refine own_ofc (fun tt_ => XS.iconst X6.here hx rfl (hb hby d1_52)) ?_
  show own_gc p e below s _ _ _ _ _ (T6.setTop (mkF m 53 #[.val (.int (2 : Int32)), .val (.int c0), .val (.int c1), .val (.int c2)] [(.int (1 : Int32)), (.ref b5), (.ref b5), (.ref b4), (.ref b4)]))
  refine own_ofc (fun tt_ => XS.iloadN X6.here hx rfl (hb hby d1_53) rfl) ?_
  show own_gc p e below s _ _ _ _ _ (T6.setTop (mkF m 54 #[.val (.int (2 : Int32)), .val (.int c0), .val (.int c1), .val (.int c2)] [(.int c1), (.int (1 : Int32)), (.ref b5), (.ref b5), (.ref b4), (.ref b4)]))
  obtain ⟨cl7, Ar7, q7, S7, Ng7, H7, G7⟩ := V6
  obtain ⟨T7, h7, X7, e7, W7, st7⟩ := stC X6 hx hZ e6 Ar7 (j := (1 : Int32)) (inb_of S7 ⟨by decide, by decide⟩) (g := (mkF m 54 #[.val (.int (2 : Int32)), .val (.int c0), .val (.int c1), .val (.int c2)] [(.int c1), (.int (1 : Int32)), (.ref b5), (.ref b5), (.ref b4), (.ref b4)])) rfl rfl (hb hby d1_54)
  have V7 : Arv Z h7 b5 k5 .char (2 : Int32) [(.int (nar .char c0)), (.int (nar .char c1))] (.int (0 : Int32)) := Arv.set Ar7 q7 S7 Ng7 H7 G7 (fits_nar_char _) W7 1 rfl (Nat.le_of_ble_eq_true rfl)
  refine own_ofc st7 ?_
  have f8 := (CHs6.safe (own_lt (by omega)) Sf5)
  have CHs7 := CHr.wr W7 f8 CH6.1
  have CH7 := CH6.trans CHs7
  have N7 := Fr.snoc X7 N6 (by omega : n0 ≤ b5)
  have sz7 : h7.size = h6.size := W7.size
  have O7 : Old Z n0 h7 := O6.wr W7 (by omega)
  have K7 : Keep h0 h7 [] := K6.wr W7 (Or.inr (by omega))
  show own_gc p e below s _ _ _ _ _ (T7.setTop (mkF m 55 #[.val (.int (2 : Int32)), .val (.int c0), .val (.int c1), .val (.int c2)] [(.ref b5), (.ref b4), (.ref b4)]))
  have hp9 : ∀ c ∈ ([nar .char c0, nar .char c1] : List Int32), ¬ c < 0 ∧ ¬ (255 : Int32) < c := by
    intro c hc
    simp only [List.mem_cons, List.not_mem_nil, or_false] at hc
    rcases hc with rfl | rfl
    · exact (by rw [own_nar hh0]; exact hh0)
    · exact (by rw [own_nar hh1]; exact hh1)
  have f10 : Exa Z h7 b4 "java/lang/String" := (((A4.ext E5).wr W6).wr W7)
  have f11 : Fld Z h7 b4 "java/lang/String" "value" "[B" .null := (((F4_value.ext E5).other W6 (Or.inl (own_ne (by omega)))).other W7 (Or.inl (own_ne (by omega))))
  have f12 : Fld Z h7 b4 "java/lang/String" "coder" "B" (.int (0 : Int32)) := (((F4_coder.ext E5).other W6 (Or.inl (own_ne (by omega)))).other W7 (Or.inl (own_ne (by omega))))
  obtain ⟨_, _, ⟨T13, L13, k13, n13⟩, -, X13, ⟨Lc13, hQ13, l13, y13, z13⟩, st13⟩ := X7.specialBack hx (y := (⟨"java/lang/String", "<init>", "([C)V"⟩ : MethodName)) rfl hown (mvT hZ (hW 8 _ rfl)) (mvT hZ (hW 9 _ rfl)) (mvT hZ (hW 10 _ rfl)) (by decide) (StrChars.Road.backV (W := 1) hZ hws (kI := 4) (hW 5 _ rfl) (cs := ([nar .char c0, nar .char c1] : List Int32)) (bs := ([nar .char c0, nar .char c1] : List Int32).map (fun c => c.toInt8.toInt32)) (n := 2) (by omega : n0 ≤ b4) (by omega : n0 ≤ h7.size) f10 f11 f12 V7 (O2.ext O7.2) P5 rfl rfl (by decide) (by decide) hp9 rfl (by decide) (by decide)) (g := (mkF m 55 #[.val (.int (2 : Int32)), .val (.int c0), .val (.int c1), .val (.int c2)] [(.ref b5), (.ref b4), (.ref b4)])) rfl (by rw [hml]; rfl) (Steps.refl _) (a := b4) (argsL := [(.ref b5)]) (rest := [(.ref b4)]) (lenOf pd_1 rfl) rfl (by show 2 * 0 + _ ≤ _; exact Nat.le_of_eq rfl) (hb hby d1_55) (fun _ _ => ⟨rfl, e7, (by decide : 2 + 1 ≤ _), (by decide : 6 + 2 ≤ _)⟩)
  dsimp only [Pt.U, Pt.locs, Pt.cells, Pt.slots] at X13 l13 y13 z13 st13 hQ13
  subst l13 y13 z13
  obtain ⟨rfl, Nq13, Kp13, g113, g213, t13, kb13, u113, u213, u313, g413, g513⟩ := hQ13
  have N13 := Fr.app N7 Nq13
  refine own_ofc (fun tt_ kk_ => st13.trans kk_) ?_
  have f14 := (CHs7.safe (own_lt (by omega)) (CHs6.safe (own_lt (by omega)) (CHs5.safe (own_lt (by omega)) Sf4)))
  have CHs13 := CHr.keep Kp13 (allS f14 all0) CH7.1
  have CH13 := CH7.trans CHs13
  have sz13 : h7.size ≤ T13.heap.size := Kp13.1
  have O13 : Old Z n0 T13.heap := O7.keep Kp13 (allS (by omega) all0)
  have K13 : Keep h0 T13.heap [] := K7.trans Kp13 (allS (Or.inr (by omega)) all0)
  have Sx13 : own_str Z T13.heap b4 ([nar .char c0, nar .char c1] : List Int32) := ⟨t13, kb13, _, _, g113, g413, g213, g513, StrChars.Road.codOf (n := 2) rfl (fun c hc => (hp9 c hc).2)⟩
  have Ex13 : Exa Z T13.heap b4 "java/lang/String" := by obtain ⟨_, _, _, _, q, -⟩ := id Sx13; exact q
  show own_gc p e below s _ _ _ _ _ (T13.setTop (mkF m 58 #[.val (.int (2 : Int32)), .val (.int c0), .val (.int c1), .val (.int c2)] [(.ref b4)]))
  refine own_retc X13 hx hlk hS0 (by omega : 0 ≤ T13.heap.size) hZ hEL CH13 Bd.returns rfl (Or.inr (Or.inr (Or.inr (Or.inr ⟨rfl, rfl, rfl⟩)))) (hb hby d1_58) (by decide) (by decide) ?_
  skip
  have fin : own_str Z T13.heap b4 (own_cs 2 c0 c1 c2) := by
    have q := Sx13
    rw [own_nar hh0, own_nar hh1] at q
    exact q
  exact ⟨b4, rfl, N13, K13, by omega, fin⟩
theorem ef_rmS_3 (m : MethodId) (x0 : Int32) (x1 : Int32) (x2 : Int32) (x3 : Int32) : entryFrame m #[(.int x0), (.int x1), (.int x2), (.int x3)] 4 = mkF m 0 #[.val (.int x0), .val (.int x1), .val (.int x2), .val (.int x3)] [] := by first | (simp [entryFrame, mkF, argsToLocals, Value.category]; done) | rfl
theorem d1_59 : decode method_2_code 59 = .ok (.new 7, 3) := by decide +kernel
theorem d1_62 : decode method_2_code 62 = .ok (.dup, 1) := by decide +kernel
theorem d1_63 : decode method_2_code 63 = .ok (.iconst 3, 1) := by decide +kernel
theorem d1_64 : decode method_2_code 64 = .ok (.newarray .char, 2) := by decide +kernel
theorem d1_66 : decode method_2_code 66 = .ok (.dup, 1) := by decide +kernel
theorem d1_67 : decode method_2_code 67 = .ok (.iconst 0, 1) := by decide +kernel
theorem d1_68 : decode method_2_code 68 = .ok (.iload_n 1, 1) := by decide +kernel
theorem d1_69 : decode method_2_code 69 = .ok (.castore, 1) := by decide +kernel
theorem d1_70 : decode method_2_code 70 = .ok (.dup, 1) := by decide +kernel
theorem d1_71 : decode method_2_code 71 = .ok (.iconst 1, 1) := by decide +kernel
theorem d1_72 : decode method_2_code 72 = .ok (.iload_n 2, 1) := by decide +kernel
theorem d1_73 : decode method_2_code 73 = .ok (.castore, 1) := by decide +kernel
theorem d1_74 : decode method_2_code 74 = .ok (.dup, 1) := by decide +kernel
theorem d1_75 : decode method_2_code 75 = .ok (.iconst 2, 1) := by decide +kernel
theorem d1_76 : decode method_2_code 76 = .ok (.iload_n 3, 1) := by decide +kernel
theorem d1_77 : decode method_2_code 77 = .ok (.castore, 1) := by decide +kernel
theorem d1_78 : decode method_2_code 78 = .ok (.invokespecial 9, 3) := by decide +kernel
theorem d1_81 : decode method_2_code 81 = .ok (.areturn, 1) := by decide +kernel
set_option maxRecDepth 65536 in
set_option maxHeartbeats 40000000 in
theorem rmS_3 (l : Launch) (Z : State) (a0 : Array Value) (hw : ∀ d ∈ tables_1, d.before a0 Z = true) (ws : List Jvm.Cond) (c0 : Int32) (c1 : Int32) (c2 : Int32) (G1 : Int32) (h0 : Heap) (n0 : Nat) (hEL : EW Z a0 own_EL) (XO0 : Old Z n0 h0) (O2 : Sta Z Z.heap "java/lang/String" "COMPACT_STRINGS" "Z" (.int G1)) (P5 : ¬ (G1 = (0 : Int32))) (hh0 : own_ch c0) (hh1 : own_ch c1) (hh2 : own_ch c2) :
    MetFree l (⟨"com/example/practory/practory/resource/ElementDefinitionsDefinesItsElementsPinLaw", "str", "(ICCC)Ljava/lang/String;"⟩ : MethodName) (head1 (Jvm.Cond.code (⟨"com/example/practory/practory/resource/ElementDefinitionsDefinesItsElementsPinLaw", "str", "(ICCC)Ljava/lang/String;"⟩ : MethodName) method_2_code 4 (some (.object "java/lang/String")) :: ws) ({ frames := 4, cells := 6, slots := 12, locals := 66 } : Room)) (fun zz_ U => zz_ = #[(.int (3 : Int32)), (.int c0), (.int c1), (.int c2)] ∧ Z.Warmed39 U.vm ∧ U.heap = h0 ∧ CHv Z own_EL U.vm h0) (fun _ _ _ _ _ => True) (fun _ U o U' => ∃ v L, o = .returned v ∧ Q_rmS Z 3 c0 c1 c2 h0 n0 v U'.heap L ∧ CHr Z own_EL U.vm U.heap U'.vm U'.heap ∧ ReturnedEndW U o U' L ({ frames := 4, cells := 6, slots := 12, locals := 66 } : Room).cells ({ frames := 4, cells := 6, slots := 12, locals := 66 } : Room).slots) := by
  refine MetFree.of_bodySF (plainFor_of_name pn_2) hisR ?_
  intro p e s m args below meth c s₁ Bd hml0 hP hK
  obtain ⟨rfl, hZ, hh, hCH⟩ := hP
  have hx := Bd.exec
  have hby := Bd.bytes
  have hlk := Bd.notSynchronized
  have hW : ∀ (i : Nat) (d : Jvm.Cond), tables_1[i]? = some d → d.before a0 Z = true := fun i d h => hw d (List.mem_of_getElem? h)
  have hml : c.maxLocals = 4 := hml0
  have hown : s.vm.findClass "com/example/practory/practory/resource/ElementDefinitionsDefinesItsElementsPinLaw" = some m.cls := findClass_of_methodNamed Bd.named
  have hnm := (name_of_methodNamed Bd.named Bd.method).1
  have X0 : Stand p l e ({ frames := 4, cells := 6, slots := 12, locals := 66 } : Room) (s.setVm s.vm) m #[(.int (3 : Int32)), (.int c0), (.int c1), (.int c2)] below meth c s₁ [] 0 0 := Stand.of_body Bd
  have e0 : s₁.heap = h0 := by rw [← hh, Bd.state]; rfl
  have N0 := Fr.nil n0
  have hS0 : s.Since s.vm 0 := (State.WarmedH.refl s).since 0
  have CH0 : CHr Z own_EL s.vm s.heap s.vm h0 := by rw [hh]; exact CHr.refl hCH
  refine own_inc ?_
  refine own_ofc (fun tt_ kk_ => castTop (ef_rmS_3 m (3 : Int32) c0 c1 c2) kk_) ?_
  show own_gc p e below s _ _ _ _ _ (s₁.setTop (mkF m 0 #[.val (.int (3 : Int32)), .val (.int c0), .val (.int c1), .val (.int c2)] []))
  have wS : ∀ a ∈ Bundle.stringAtoms, a.before a0 Z = true := fun d hd => hw d ((by decide +kernel : ∀ d ∈ Bundle.stringAtoms, d ∈ tables_1) d hd)
  have hws : ∀ d ∈ StrChars.Road.words, d.before a0 Z = true := fun d hd => hw d ((by decide +kernel : ∀ d ∈ StrChars.Road.words, d ∈ tables_1) d hd)
  have K0 : Keep h0 h0 [] := Keep.refl h0 []
  refine own_ofc (fun tt_ => XS.iloadN X0.here hx rfl (hb hby d1_0) rfl) ?_
  show own_gc p e below s _ _ _ _ _ (s₁.setTop (mkF m 1 #[.val (.int (3 : Int32)), .val (.int c0), .val (.int c1), .val (.int c2)] [(.int (3 : Int32))]))
  have hb1_1 : ¬ ((3 : Int32) = (0 : Int32)) := by decide
  refine own_ofc (fun tt_ => XS.ifYes X0.here hx rfl (pc0 := 1) (pc' := 15) rfl (hb hby d1_1) rfl ((if0 _ _).trans (feq hb1_1).2) (by decide) (by decide)) ?_
  show own_gc p e below s _ _ _ _ _ (s₁.setTop (mkF m 15 #[.val (.int (3 : Int32)), .val (.int c0), .val (.int c1), .val (.int c2)] []))
  refine own_ofc (fun tt_ => XS.iloadN X0.here hx rfl (hb hby d1_15) rfl) ?_
  show own_gc p e below s _ _ _ _ _ (s₁.setTop (mkF m 16 #[.val (.int (3 : Int32)), .val (.int c0), .val (.int c1), .val (.int c2)] [(.int (3 : Int32))]))
  refine own_ofc (fun tt_ => XS.iconst X0.here hx rfl (hb hby d1_16)) ?_
  show own_gc p e below s _ _ _ _ _ (s₁.setTop (mkF m 17 #[.val (.int (3 : Int32)), .val (.int c0), .val (.int c1), .val (.int c2)] [(.int (1 : Int32)), (.int (3 : Int32))]))
  have hb17_2 : ¬ ((3 : Int32) = (1 : Int32)) := by decide
  refine own_ofc (fun tt_ => XS.icmpYes X0.here hx rfl (pc0 := 17) (pc' := 35) rfl (hb hby d1_17) rfl (feq hb17_2).2 (by decide) (by decide)) ?_
  show own_gc p e below s _ _ _ _ _ (s₁.setTop (mkF m 35 #[.val (.int (3 : Int32)), .val (.int c0), .val (.int c1), .val (.int c2)] []))
  refine own_ofc (fun tt_ => XS.iloadN X0.here hx rfl (hb hby d1_35) rfl) ?_
  show own_gc p e below s _ _ _ _ _ (s₁.setTop (mkF m 36 #[.val (.int (3 : Int32)), .val (.int c0), .val (.int c1), .val (.int c2)] [(.int (3 : Int32))]))
  refine own_ofc (fun tt_ => XS.iconst X0.here hx rfl (hb hby d1_36)) ?_
  show own_gc p e below s _ _ _ _ _ (s₁.setTop (mkF m 37 #[.val (.int (3 : Int32)), .val (.int c0), .val (.int c1), .val (.int c2)] [(.int (2 : Int32)), (.int (3 : Int32))]))
  have hb37_3 : ¬ ((3 : Int32) = (2 : Int32)) := by decide
  refine own_ofc (fun tt_ => XS.icmpYes X0.here hx rfl (pc0 := 37) (pc' := 59) rfl (hb hby d1_37) rfl (feq hb37_3).2 (by decide) (by decide)) ?_
  show own_gc p e below s _ _ _ _ _ (s₁.setTop (mkF m 59 #[.val (.int (3 : Int32)), .val (.int c0), .val (.int c1), .val (.int c2)] []))
  obtain ⟨T4, h4, X4, e4, E4, A4, D4, -, st4⟩ := newO X0 hx hZ hown (hW 4 _ rfl) (hW 5 _ rfl) (hW 6 _ rfl) e0 (g := (mkF m 59 #[.val (.int (3 : Int32)), .val (.int c0), .val (.int c1), .val (.int c2)] [])) rfl (hb hby d1_59) (by decide) (by decide)
  obtain ⟨b4, g4⟩ : ∃ z, z = h0.size := ⟨_, rfl⟩
  rw [← g4] at A4 D4 st4
  refine own_ofc st4 ?_
  have lt4 := own_lt A4.lt
  have sz4 : h0.size ≤ h4.size := E4.1
  have O4 : Old Z n0 h4 := XO0.ext E4
  have z4 : n0 ≤ b4 := by have := XO0.1 ▸ XO0.2.1; omega
  have CHs4 := CHr.ext E4 CH0.1
  have Sf4 := Safe.ext E4 CH0.1 (Safe.new (Nat.le_of_eq g4.symm))
  have CH4 := CH0.trans CHs4
  have K4 : Keep h0 h4 [] := K0.ext E4
  have F4_value : Fld Z h4 b4 "java/lang/String" "value" "[B" .null := D4 (Or.inr (hW 20 _ rfl)) (ty := (.array .byte)) pf_0
  have F4_coder : Fld Z h4 b4 "java/lang/String" "coder" "B" (.int (0 : Int32)) := D4 (Or.inr (hW 21 _ rfl)) (ty := .byte) pf_1
  show own_gc p e below s _ _ _ _ _ (T4.setTop (mkF m 62 #[.val (.int (3 : Int32)), .val (.int c0), .val (.int c1), .val (.int c2)] [(.ref b4)]))
  refine own_ofc (fun tt_ => XS.dup X4.here hx rfl (hb hby d1_62) rfl rfl) ?_
  show own_gc p e below s _ _ _ _ _ (T4.setTop (mkF m 63 #[.val (.int (3 : Int32)), .val (.int c0), .val (.int c1), .val (.int c2)] [(.ref b4), (.ref b4)]))
  refine own_ofc (fun tt_ => XS.iconst X4.here hx rfl (hb hby d1_63)) ?_
  show own_gc p e below s _ _ _ _ _ (T4.setTop (mkF m 64 #[.val (.int (3 : Int32)), .val (.int c0), .val (.int c1), .val (.int c2)] [(.int (3 : Int32)), (.ref b4), (.ref b4)]))
  obtain ⟨T5, h5, k5, X5, e5, E5, A5, st5⟩ := newP X4 hx hZ (hW 7 _ rfl) e4 (g := (mkF m 64 #[.val (.int (3 : Int32)), .val (.int c0), .val (.int c1), .val (.int c2)] [(.int (3 : Int32)), (.ref b4), (.ref b4)])) rfl (hb hby d1_64) rfl (by decide) (cap := 3) (by decide) (by decide) (by decide) (by decide)
  obtain ⟨b5, g5⟩ : ∃ z, z = h4.size := ⟨_, rfl⟩
  rw [← g5] at A5 st5
  refine own_ofc st5 ?_
  have lt5 := own_lt A5.lt
  have sz5 : h4.size ≤ h5.size := E5.1
  have O5 : Old Z n0 h5 := O4.ext E5
  have z5 : n0 ≤ b5 := by have := O4.1 ▸ O4.2.1; omega
  have CHs5 := CHr.ext E5 CH4.1
  have Sf5 := Safe.ext E5 CH4.1 (Safe.new (Nat.le_of_eq g5.symm))
  have CH5 := CH4.trans CHs5
  have K5 : Keep h0 h5 [] := K4.ext E5
  have V5 : Arv Z h5 b5 k5 .char (3 : Int32) [(.int (0 : Int32)), (.int (0 : Int32)), (.int (0 : Int32))] (.int (0 : Int32)) := (Arv.new A5 (by decide)).pad (pad_rep [] (.int (0 : Int32)) 3)
  show own_gc p e below s _ _ _ _ _ (T5.setTop (mkF m 66 #[.val (.int (3 : Int32)), .val (.int c0), .val (.int c1), .val (.int c2)] [(.ref b5), (.ref b4), (.ref b4)]))
  refine own_ofc (fun tt_ => XS.dup X5.here hx rfl (hb hby d1_66) rfl rfl) ?_
  show own_gc p e below s _ _ _ _ _ (T5.setTop (mkF m 67 #[.val (.int (3 : Int32)), .val (.int c0), .val (.int c1), .val (.int c2)] [(.ref b5), (.ref b5), (.ref b4), (.ref b4)]))
  refine own_ofc (fun tt_ => XS.iconst X5.here hx rfl (hb hby d1_67)) ?_
  show own_gc p e below s _ _ _ _ _ (T5.setTop (mkF m 68 #[.val (.int (3 : Int32)), .val (.int c0), .val (.int c1), .val (.int c2)] [(.int (0 : Int32)), (.ref b5), (.ref b5), (.ref b4), (.ref b4)]))
  refine own_ofc (fun tt_ => XS.iloadN X5.here hx rfl (hb hby d1_68) rfl) ?_
  show own_gc p e below s _ _ _ _ _ (T5.setTop (mkF m 69 #[.val (.int (3 : Int32)), .val (.int c0), .val (.int c1), .val (.int c2)] [(.int c0), (.int (0 : Int32)), (.ref b5), (.ref b5), (.ref b4), (.ref b4)]))
  obtain ⟨cl6, Ar6, q6, S6, Ng6, H6, G6⟩ := V5
  obtain ⟨T6, h6, X6, e6, W6, st6⟩ := stC X5 hx hZ e5 Ar6 (j := (0 : Int32)) (inb_of S6 ⟨by decide, by decide⟩) (g := (mkF m 69 #[.val (.int (3 : Int32)), .val (.int c0), .val (.int c1), .val (.int c2)] [(.int c0), (.int (0 : Int32)), (.ref b5), (.ref b5), (.ref b4), (.ref b4)])) rfl rfl (hb hby d1_69)
  have V6 : Arv Z h6 b5 k5 .char (3 : Int32) [(.int (nar .char c0)), (.int (0 : Int32)), (.int (0 : Int32))] (.int (0 : Int32)) := Arv.set Ar6 q6 S6 Ng6 H6 G6 (fits_nar_char _) W6 0 rfl (Nat.le_of_ble_eq_true rfl)
  refine own_ofc st6 ?_
  have CHs6 := CHr.wr W6 Sf5 CH5.1
  have CH6 := CH5.trans CHs6
  have N6 := Fr.snoc X6 N0 (by omega : n0 ≤ b5)
  have sz6 : h6.size = h5.size := W6.size
  have O6 : Old Z n0 h6 := O5.wr W6 (by omega)
  have K6 : Keep h0 h6 [] := K5.wr W6 (Or.inr (by omega))
  show own_gc p e below s _ _ _ _ _ (T6.setTop (mkF m 70 #[.val (.int (3 : Int32)), .val (.int c0), .val (.int c1), .val (.int c2)] [(.ref b5), (.ref b4), (.ref b4)]))
  refine own_ofc (fun tt_ => XS.dup X6.here hx rfl (hb hby d1_70) rfl rfl) ?_
  show own_gc p e below s _ _ _ _ _ (T6.setTop (mkF m 71 #[.val (.int (3 : Int32)), .val (.int c0), .val (.int c1), .val (.int c2)] [(.ref b5), (.ref b5), (.ref b4), (.ref b4)]))
  refine own_ofc (fun tt_ => XS.iconst X6.here hx rfl (hb hby d1_71)) ?_
  show own_gc p e below s _ _ _ _ _ (T6.setTop (mkF m 72 #[.val (.int (3 : Int32)), .val (.int c0), .val (.int c1), .val (.int c2)] [(.int (1 : Int32)), (.ref b5), (.ref b5), (.ref b4), (.ref b4)]))
  refine own_ofc (fun tt_ => XS.iloadN X6.here hx rfl (hb hby d1_72) rfl) ?_
  show own_gc p e below s _ _ _ _ _ (T6.setTop (mkF m 73 #[.val (.int (3 : Int32)), .val (.int c0), .val (.int c1), .val (.int c2)] [(.int c1), (.int (1 : Int32)), (.ref b5), (.ref b5), (.ref b4), (.ref b4)]))
  obtain ⟨cl7, Ar7, q7, S7, Ng7, H7, G7⟩ := V6
  obtain ⟨T7, h7, X7, e7, W7, st7⟩ := stC X6 hx hZ e6 Ar7 (j := (1 : Int32)) (inb_of S7 ⟨by decide, by decide⟩) (g := (mkF m 73 #[.val (.int (3 : Int32)), .val (.int c0), .val (.int c1), .val (.int c2)] [(.int c1), (.int (1 : Int32)), (.ref b5), (.ref b5), (.ref b4), (.ref b4)])) rfl rfl (hb hby d1_73)
  have V7 : Arv Z h7 b5 k5 .char (3 : Int32) [(.int (nar .char c0)), (.int (nar .char c1)), (.int (0 : Int32))] (.int (0 : Int32)) := Arv.set Ar7 q7 S7 Ng7 H7 G7 (fits_nar_char _) W7 1 rfl (Nat.le_of_ble_eq_true rfl)
  refine own_ofc st7 ?_
  have f8 := (CHs6.safe (own_lt (by omega)) Sf5)
  have CHs7 := CHr.wr W7 f8 CH6.1
  have CH7 := CH6.trans CHs7
  have N7 := Fr.snoc X7 N6 (by omega : n0 ≤ b5)
  have sz7 : h7.size = h6.size := W7.size
  have O7 : Old Z n0 h7 := O6.wr W7 (by omega)
  have K7 : Keep h0 h7 [] := K6.wr W7 (Or.inr (by omega))
  show own_gc p e below s _ _ _ _ _ (T7.setTop (mkF m 74 #[.val (.int (3 : Int32)), .val (.int c0), .val (.int c1), .val (.int c2)] [(.ref b5), (.ref b4), (.ref b4)]))
  refine own_ofc (fun tt_ => XS.dup X7.here hx rfl (hb hby d1_74) rfl rfl) ?_
  show own_gc p e below s _ _ _ _ _ (T7.setTop (mkF m 75 #[.val (.int (3 : Int32)), .val (.int c0), .val (.int c1), .val (.int c2)] [(.ref b5), (.ref b5), (.ref b4), (.ref b4)]))
  refine own_ofc (fun tt_ => XS.iconst X7.here hx rfl (hb hby d1_75)) ?_
  show own_gc p e below s _ _ _ _ _ (T7.setTop (mkF m 76 #[.val (.int (3 : Int32)), .val (.int c0), .val (.int c1), .val (.int c2)] [(.int (2 : Int32)), (.ref b5), (.ref b5), (.ref b4), (.ref b4)]))
  refine own_ofc (fun tt_ => XS.iloadN X7.here hx rfl (hb hby d1_76) rfl) ?_
  show own_gc p e below s _ _ _ _ _ (T7.setTop (mkF m 77 #[.val (.int (3 : Int32)), .val (.int c0), .val (.int c1), .val (.int c2)] [(.int c2), (.int (2 : Int32)), (.ref b5), (.ref b5), (.ref b4), (.ref b4)]))
  obtain ⟨cl9, Ar9, q9, S9, Ng9, H9, G9⟩ := V7
  obtain ⟨T9, h9, X9, e9, W9, st9⟩ := stC X7 hx hZ e7 Ar9 (j := (2 : Int32)) (inb_of S9 ⟨by decide, by decide⟩) (g := (mkF m 77 #[.val (.int (3 : Int32)), .val (.int c0), .val (.int c1), .val (.int c2)] [(.int c2), (.int (2 : Int32)), (.ref b5), (.ref b5), (.ref b4), (.ref b4)])) rfl rfl (hb hby d1_77)
  have V9 : Arv Z h9 b5 k5 .char (3 : Int32) [(.int (nar .char c0)), (.int (nar .char c1)), (.int (nar .char c2))] (.int (0 : Int32)) := Arv.set Ar9 q9 S9 Ng9 H9 G9 (fits_nar_char _) W9 2 rfl (Nat.le_of_ble_eq_true rfl)
  refine own_ofc st9 ?_
  have f10 := (CHs7.safe (own_lt (by omega)) f8)
  have CHs9 := CHr.wr W9 f10 CH7.1
  have CH9 := CH7.trans CHs9
  have N9 := Fr.snoc X9 N7 (by omega : n0 ≤ b5)
  have sz9 : h9.size = h7.size := W9.size
  have O9 : Old Z n0 h9 := O7.wr W9 (by omega)
  have K9 : Keep h0 h9 [] := K7.wr W9 (Or.inr (by omega))
  show own_gc p e below s _ _ _ _ _ (T9.setTop (mkF m 78 #[.val (.int (3 : Int32)), .val (.int c0), .val (.int c1), .val (.int c2)] [(.ref b5), (.ref b4), (.ref b4)]))
  have hp11 : ∀ c ∈ ([nar .char c0, nar .char c1, nar .char c2] : List Int32), ¬ c < 0 ∧ ¬ (255 : Int32) < c := by
    intro c hc
    simp only [List.mem_cons, List.not_mem_nil, or_false] at hc
    rcases hc with rfl | rfl | rfl
    · exact (by rw [own_nar hh0]; exact hh0)
    · exact (by rw [own_nar hh1]; exact hh1)
    · exact (by rw [own_nar hh2]; exact hh2)
  have f12 : Exa Z h9 b4 "java/lang/String" := ((((A4.ext E5).wr W6).wr W7).wr W9)
  have f13 : Fld Z h9 b4 "java/lang/String" "value" "[B" .null := ((((F4_value.ext E5).other W6 (Or.inl (own_ne (by omega)))).other W7 (Or.inl (own_ne (by omega)))).other W9 (Or.inl (own_ne (by omega))))
  have f14 : Fld Z h9 b4 "java/lang/String" "coder" "B" (.int (0 : Int32)) := ((((F4_coder.ext E5).other W6 (Or.inl (own_ne (by omega)))).other W7 (Or.inl (own_ne (by omega)))).other W9 (Or.inl (own_ne (by omega))))
  obtain ⟨_, _, ⟨T15, L15, k15, n15⟩, -, X15, ⟨Lc15, hQ15, l15, y15, z15⟩, st15⟩ := X9.specialBack hx (y := (⟨"java/lang/String", "<init>", "([C)V"⟩ : MethodName)) rfl hown (mvT hZ (hW 8 _ rfl)) (mvT hZ (hW 9 _ rfl)) (mvT hZ (hW 10 _ rfl)) (by decide) (StrChars.Road.backV (W := 1) hZ hws (kI := 4) (hW 5 _ rfl) (cs := ([nar .char c0, nar .char c1, nar .char c2] : List Int32)) (bs := ([nar .char c0, nar .char c1, nar .char c2] : List Int32).map (fun c => c.toInt8.toInt32)) (n := 3) (by omega : n0 ≤ b4) (by omega : n0 ≤ h9.size) f12 f13 f14 V9 (O2.ext O9.2) P5 rfl rfl (by decide) (by decide) hp11 rfl (by decide) (by decide)) (g := (mkF m 78 #[.val (.int (3 : Int32)), .val (.int c0), .val (.int c1), .val (.int c2)] [(.ref b5), (.ref b4), (.ref b4)])) rfl (by rw [hml]; rfl) (Steps.refl _) (a := b4) (argsL := [(.ref b5)]) (rest := [(.ref b4)]) (lenOf pd_1 rfl) rfl (by show 2 * 0 + _ ≤ _; exact Nat.le_of_eq rfl) (hb hby d1_78) (fun _ _ => ⟨rfl, e9, (by decide : 2 + 1 ≤ _), (by decide : 7 + 3 ≤ _)⟩)
  dsimp only [Pt.U, Pt.locs, Pt.cells, Pt.slots] at X15 l15 y15 z15 st15 hQ15
  subst l15 y15 z15
  obtain ⟨rfl, Nq15, Kp15, g115, g215, t15, kb15, u115, u215, u315, g415, g515⟩ := hQ15
  have N15 := Fr.app N9 Nq15
  refine own_ofc (fun tt_ kk_ => st15.trans kk_) ?_
  have f16 := (CHs9.safe (own_lt (by omega)) (CHs7.safe (own_lt (by omega)) (CHs6.safe (own_lt (by omega)) (CHs5.safe (own_lt (by omega)) Sf4))))
  have CHs15 := CHr.keep Kp15 (allS f16 all0) CH9.1
  have CH15 := CH9.trans CHs15
  have sz15 : h9.size ≤ T15.heap.size := Kp15.1
  have O15 : Old Z n0 T15.heap := O9.keep Kp15 (allS (by omega) all0)
  have K15 : Keep h0 T15.heap [] := K9.trans Kp15 (allS (Or.inr (by omega)) all0)
  have Sx15 : own_str Z T15.heap b4 ([nar .char c0, nar .char c1, nar .char c2] : List Int32) := ⟨t15, kb15, _, _, g115, g415, g215, g515, StrChars.Road.codOf (n := 3) rfl (fun c hc => (hp11 c hc).2)⟩
  have Ex15 : Exa Z T15.heap b4 "java/lang/String" := by obtain ⟨_, _, _, _, q, -⟩ := id Sx15; exact q
  show own_gc p e below s _ _ _ _ _ (T15.setTop (mkF m 81 #[.val (.int (3 : Int32)), .val (.int c0), .val (.int c1), .val (.int c2)] [(.ref b4)]))
  refine own_retc X15 hx hlk hS0 (by omega : 0 ≤ T15.heap.size) hZ hEL CH15 Bd.returns rfl (Or.inr (Or.inr (Or.inr (Or.inr ⟨rfl, rfl, rfl⟩)))) (hb hby d1_81) (by decide) (by decide) ?_
  skip
  have fin : own_str Z T15.heap b4 (own_cs 3 c0 c1 c2) := by
    have q := Sx15
    rw [own_nar hh0, own_nar hh1, own_nar hh2] at q
    exact q
  exact ⟨b4, rfl, N15, K15, by omega, fin⟩
set_option maxHeartbeats 40000000 in
theorem rmS (l : Launch) (Z : State) (a0 : Array Value) (hw : ∀ d ∈ tables_1, d.before a0 Z = true) (ws : List Jvm.Cond) (k : Nat) (c0 c1 c2 G1 : Int32) (h0 : Heap) (n0 : Nat) (hEL : EW Z a0 own_EL) (XO0 : Old Z n0 h0) (O2 : Sta Z Z.heap "java/lang/String" "COMPACT_STRINGS" "Z" (.int G1)) (P5 : ¬ (G1 = (0 : Int32))) (i0 : own_ch c0) (i1 : own_ch c1) (i2 : own_ch c2) (hk : k < 4) :
    MetFree l (⟨"com/example/practory/practory/resource/ElementDefinitionsDefinesItsElementsPinLaw", "str", "(ICCC)Ljava/lang/String;"⟩ : MethodName) (head1 (Jvm.Cond.code (⟨"com/example/practory/practory/resource/ElementDefinitionsDefinesItsElementsPinLaw", "str", "(ICCC)Ljava/lang/String;"⟩ : MethodName) method_2_code 4 (some (.object "java/lang/String")) :: ws) ({ frames := 4, cells := 6, slots := 12, locals := 66 } : Room)) (fun zz_ U => zz_ = #[(.int (Int32.ofNat k)), (.int c0), (.int c1), (.int c2)] ∧ Z.Warmed39 U.vm ∧ U.heap = h0 ∧ CHv Z own_EL U.vm h0) (fun _ _ _ _ _ => True) (fun _ U o U' => ∃ v L, o = .returned v ∧ Q_rmS Z k c0 c1 c2 h0 n0 v U'.heap L ∧ CHr Z own_EL U.vm U.heap U'.vm U'.heap ∧ ReturnedEndW U o U' L ({ frames := 4, cells := 6, slots := 12, locals := 66 } : Room).cells ({ frames := 4, cells := 6, slots := 12, locals := 66 } : Room).slots) := by
  have hk4 : k = 0 ∨ k = 1 ∨ k = 2 ∨ k = 3 := by omega
  rcases hk4 with rfl | rfl | rfl | rfl
  · exact rmS_0 l Z a0 hw ws c0 c1 c2 G1 h0 n0 hEL XO0 O2 P5 i0 i1 i2
  · exact rmS_1 l Z a0 hw ws c0 c1 c2 G1 h0 n0 hEL XO0 O2 P5 i0 i1 i2
  · exact rmS_2 l Z a0 hw ws c0 c1 c2 G1 h0 n0 hEL XO0 O2 P5 i0 i1 i2
  · exact rmS_3 l Z a0 hw ws c0 c1 c2 G1 h0 n0 hEL XO0 O2 P5 i0 i1 i2
theorem ef_rmE_n (m : MethodId) (x0 : Nat) (x2 : Int32) (x3 : Nat) (x4 : Int32) (x5 : Int32) : entryFrame m #[(.ref x0), .null, (.int x2), (.ref x3), (.int x4), (.int x5)] 6 = mkF m 0 #[.val (.ref x0), .val .null, .val (.int x2), .val (.ref x3), .val (.int x4), .val (.int x5)] [] := by first | (simp [entryFrame, mkF, argsToLocals, Value.category]; done) | rfl
theorem pn_3 : plainName "com/example/practory/practory/resource/ElementDefinitions$Element" = true := by first | (simp [plainName, overriddenIn]; done) | decide +kernel
theorem d5_0 : decode prog_5_method_1_code 0 = .ok (.aload_n 0, 1) := by decide +kernel
theorem d5_1 : decode prog_5_method_1_code 1 = .ok (.invokespecial 3, 3) := by decide +kernel
theorem pd_2 : parseMethodDescriptor "()V" = some ⟨[], none⟩ := by decide +kernel
theorem d5_4 : decode prog_5_method_1_code 4 = .ok (.aload_n 0, 1) := by decide +kernel
theorem d5_5 : decode prog_5_method_1_code 5 = .ok (.aload_n 1, 1) := by decide +kernel
theorem d5_6 : decode prog_5_method_1_code 6 = .ok (.putfield 9, 3) := by decide +kernel
theorem pf_2 : parseFieldDescriptor "Ljava/lang/String;" = some (.object "java/lang/String") := by decide +kernel
theorem d5_9 : decode prog_5_method_1_code 9 = .ok (.aload_n 0, 1) := by decide +kernel
theorem d5_10 : decode prog_5_method_1_code 10 = .ok (.iload_n 2, 1) := by decide +kernel
theorem d5_11 : decode prog_5_method_1_code 11 = .ok (.putfield 15, 3) := by decide +kernel
theorem pf_3 : parseFieldDescriptor "Z" = some .boolean := by decide +kernel
theorem d5_14 : decode prog_5_method_1_code 14 = .ok (.aload_n 0, 1) := by decide +kernel
theorem d5_15 : decode prog_5_method_1_code 15 = .ok (.aload_n 3, 1) := by decide +kernel
theorem d5_16 : decode prog_5_method_1_code 16 = .ok (.putfield 19, 3) := by decide +kernel
theorem d5_19 : decode prog_5_method_1_code 19 = .ok (.aload_n 0, 1) := by decide +kernel
theorem d5_20 : decode prog_5_method_1_code 20 = .ok (.iload 4, 2) := by decide +kernel
theorem d5_22 : decode prog_5_method_1_code 22 = .ok (.putfield 22, 3) := by decide +kernel
theorem d5_25 : decode prog_5_method_1_code 25 = .ok (.aload_n 0, 1) := by decide +kernel
theorem d5_26 : decode prog_5_method_1_code 26 = .ok (.iload 5, 2) := by decide +kernel
theorem d5_28 : decode prog_5_method_1_code 28 = .ok (.putfield 25, 3) := by decide +kernel
theorem d5_31 : decode prog_5_method_1_code 31 = .ok (.return_, 1) := by decide +kernel
def Q_rmE_n (Z : State) (a : Nat) (z1 : Int32) (x : Nat) (z2 : Int32) (z3 : Int32) (h0 : Heap) (n0 : Nat) (v : Option Value) (h : Heap) (L : List Loc) : Prop := v = none ∧ Fr n0 L ∧ Keep h0 h [a] ∧ Fld Z h a "com/example/practory/practory/resource/ElementDefinitions$Element" "type" "Ljava/lang/String;" .null ∧ Fld Z h a "com/example/practory/practory/resource/ElementDefinitions$Element" "children" "Ljava/lang/String;" (.ref x)
set_option maxRecDepth 65536 in
set_option maxHeartbeats 40000000 in
theorem rmE_n (l : Launch) (Z : State) (a0 : Array Value) (hw : ∀ d ∈ tables_1, d.before a0 Z = true) (ws : List Jvm.Cond) (a : Nat) (z1 : Int32) (x : Nat) (z2 : Int32) (z3 : Int32) (h0 : Heap) (n0 : Nat) (XO0 : Old Z n0 h0) (g_a : n0 ≤ a) (E_a : Exa Z h0 a "com/example/practory/practory/resource/ElementDefinitions$Element") (F_type : Fld Z h0 a "com/example/practory/practory/resource/ElementDefinitions$Element" "type" "Ljava/lang/String;" .null) (F_primitive : Fld Z h0 a "com/example/practory/practory/resource/ElementDefinitions$Element" "primitive" "Z" (.int (0 : Int32))) (F_children : Fld Z h0 a "com/example/practory/practory/resource/ElementDefinitions$Element" "children" "Ljava/lang/String;" .null) (F_summary : Fld Z h0 a "com/example/practory/practory/resource/ElementDefinitions$Element" "summary" "Z" (.int (0 : Int32))) (F_required : Fld Z h0 a "com/example/practory/practory/resource/ElementDefinitions$Element" "required" "Z" (.int (0 : Int32))) :
    MetFree l (⟨"com/example/practory/practory/resource/ElementDefinitions$Element", "<init>", "(Ljava/lang/String;ZLjava/lang/String;ZZ)V"⟩ : MethodName) (head1 (Jvm.Cond.code (⟨"com/example/practory/practory/resource/ElementDefinitions$Element", "<init>", "(Ljava/lang/String;ZLjava/lang/String;ZZ)V"⟩ : MethodName) prog_5_method_1_code 6 none :: ws) ({ frames := 2, cells := 0, slots := 0, locals := 24 } : Room)) (fun zz_ U => zz_ = #[(.ref a), .null, (.int z1), (.ref x), (.int z2), (.int z3)] ∧ Z.Warmed39 U.vm ∧ U.heap = h0) (fun _ _ _ _ _ => True) (fun _ U o U' => ∃ v L, o = .returned v ∧ Q_rmE_n Z a z1 x z2 z3 h0 n0 v U'.heap L ∧ FrameEnd U o U' L ({ frames := 2, cells := 0, slots := 0, locals := 24 } : Room).cells ({ frames := 2, cells := 0, slots := 0, locals := 24 } : Room).slots) := by
  refine MetFree.of_bodySF (plainFor_of_name pn_3) hisR ?_
  intro p e s m args below meth c s₁ Bd hml0 hP hK
  obtain ⟨rfl, hZ, hh⟩ := hP
  have hx := Bd.exec
  have hby := Bd.bytes
  have hlk := Bd.notSynchronized
  have hW : ∀ (i : Nat) (d : Jvm.Cond), tables_1[i]? = some d → d.before a0 Z = true := fun i d h => hw d (List.mem_of_getElem? h)
  have hml : c.maxLocals = 6 := hml0
  have hown : s.vm.findClass "com/example/practory/practory/resource/ElementDefinitions$Element" = some m.cls := findClass_of_methodNamed Bd.named
  have hnm := (name_of_methodNamed Bd.named Bd.method).1
  have X0 : Stand p l e ({ frames := 2, cells := 0, slots := 0, locals := 24 } : Room) s m #[(.ref a), .null, (.int z1), (.ref x), (.int z2), (.int z3)] below meth c s₁ [] 0 0 := Stand.of_body Bd
  have e0 : s₁.heap = h0 := by rw [← hh, Bd.state]; rfl
  have N0 := Fr.nil n0
  refine own_in ?_
  refine own_of (fun tt_ kk_ => castTop (ef_rmE_n m a z1 x z2 z3) kk_) ?_
  show own_go p e below s _ _ _ (s₁.setTop (mkF m 0 #[.val (.ref a), .val .null, .val (.int z1), .val (.ref x), .val (.int z2), .val (.int z3)] []))
  refine own_of (fun tt_ => XS.aloadN X0.here hx rfl (hb hby d5_0) rfl rfl) ?_
  show own_go p e below s _ _ _ (s₁.setTop (mkF m 1 #[.val (.ref a), .val .null, .val (.int z1), .val (.ref x), .val (.int z2), .val (.int z3)] [(.ref a)]))
  have K0 : Keep h0 h0 [a] := Keep.refl h0 [a]
  have lt_a := own_lt E_a.lt
  obtain ⟨_, _, ⟨T1, L1, k1, n1⟩, -, X1, ⟨Lc1, hQ1, l1, y1, z1⟩, st1⟩ := X0.specialBack hx (y := (⟨"java/lang/Record", "<init>", "()V"⟩ : MethodName)) rfl hown (mvT hZ (hW 32 _ rfl)) (mvT hZ (hW 33 _ rfl)) (mvT hZ (hW 36 _ rfl)) (by decide) (backOf (W := 0) (rmR l Z a0 hw [] a h0 n0 XO0) hZ (hW 36 _ rfl) (hW 35 _ rfl) (by decide) (by decide)) (g := (mkF m 1 #[.val (.ref a), .val .null, .val (.int z1), .val (.ref x), .val (.int z2), .val (.int z3)] [(.ref a)])) rfl (by rw [hml]; rfl) (Steps.refl _) (a := a) (argsL := []) (rest := []) (lenOf pd_2 rfl) rfl (by show 2 * 0 + _ ≤ _; exact Nat.le_of_eq rfl) (hb hby d5_1) (fun _ _ => ⟨rfl, e0, (by decide : 0 + 0 ≤ _), (by decide : 0 + 0 ≤ _)⟩)
  dsimp only [Pt.U, Pt.locs, Pt.cells, Pt.slots] at X1 l1 y1 z1 st1 hQ1
  subst l1 y1 z1
  obtain ⟨rfl, Nq1, eh1⟩ := hQ1
  have N1 := Fr.app N0 Nq1
  refine own_of (fun tt_ kk_ => st1.trans kk_) ?_
  show own_go p e below s _ _ _ (T1.setTop (mkF m 4 #[.val (.ref a), .val .null, .val (.int z1), .val (.ref x), .val (.int z2), .val (.int z3)] []))
  refine own_of (fun tt_ => XS.aloadN X1.here hx rfl (hb hby d5_4) rfl rfl) ?_
  show own_go p e below s _ _ _ (T1.setTop (mkF m 5 #[.val (.ref a), .val .null, .val (.int z1), .val (.ref x), .val (.int z2), .val (.int z3)] [(.ref a)]))
  refine own_of (fun tt_ => XS.aloadN X1.here hx rfl (hb hby d5_5) rfl rfl) ?_
  show own_go p e below s _ _ _ (T1.setTop (mkF m 6 #[.val (.ref a), .val .null, .val (.int z1), .val (.ref x), .val (.int z2), .val (.int z3)] [.null, (.ref a)]))
  obtain ⟨T2, h2, X2, e2, W2, st2⟩ := putF X1 hx hZ hown (host := "") (Or.inl (hW 38 _ rfl)) Via.refl eh1 F_type E_a (Or.inr ⟨(hW 39 _ rfl), rfl, hnm⟩) (hW 27 _ rfl) (ty := (.object "java/lang/String")) pf_2 rfl rfl (g := (mkF m 6 #[.val (.ref a), .val .null, .val (.int z1), .val (.ref x), .val (.int z2), .val (.int z3)] [.null, (.ref a)])) rfl rfl (hb hby d5_6)
  refine own_of st2 ?_
  have N2 := Fr.snoc X2 N1 (by omega : n0 ≤ a)
  have sz2 : h2.size = h0.size := W2.size
  have O2 : Old Z n0 h2 := XO0.wr W2 (by omega)
  have K2 : Keep h0 h2 [a] := K0.wr W2 (Or.inl (List.mem_of_getElem? (i := 0) rfl))
  have Fw2 := F_type.same W2
  show own_go p e below s _ _ _ (T2.setTop (mkF m 9 #[.val (.ref a), .val .null, .val (.int z1), .val (.ref x), .val (.int z2), .val (.int z3)] []))
  refine own_of (fun tt_ => XS.aloadN X2.here hx rfl (hb hby d5_9) rfl rfl) ?_
  show own_go p e below s _ _ _ (T2.setTop (mkF m 10 #[.val (.ref a), .val .null, .val (.int z1), .val (.ref x), .val (.int z2), .val (.int z3)] [(.ref a)]))
  refine own_of (fun tt_ => XS.iloadN X2.here hx rfl (hb hby d5_10) rfl) ?_
  show own_go p e below s _ _ _ (T2.setTop (mkF m 11 #[.val (.ref a), .val .null, .val (.int z1), .val (.ref x), .val (.int z2), .val (.int z3)] [(.int z1), (.ref a)]))
  have f3 : Exa Z h2 a "com/example/practory/practory/resource/ElementDefinitions$Element" := (E_a.wr W2)
  have f4 : Fld Z h2 a "com/example/practory/practory/resource/ElementDefinitions$Element" "primitive" "Z" (.int (0 : Int32)) := (F_primitive.other W2 (Or.inr (slot_ne (Or.inr (hW 41 _ rfl)) (Or.inr (hW 39 _ rfl)) (by decide) pf_3 pf_2)))
  obtain ⟨T5, h5, X5, e5, W5, st5⟩ := putFN X2 hx hZ hown (hW 40 _ rfl) Via.refl e2 f4 f3 (Or.inr ⟨(hW 41 _ rfl), rfl, hnm⟩) (hW 27 _ rfl) (ty := .boolean) (v' := .int (nar .boolean z1)) pf_3 rfl (fits_nar_bool _) (g := (mkF m 11 #[.val (.ref a), .val .null, .val (.int z1), .val (.ref x), .val (.int z2), .val (.int z3)] [(.int z1), (.ref a)])) rfl rfl (hb hby d5_11)
  refine own_of st5 ?_
  have N5 := Fr.snoc X5 N2 (by omega : n0 ≤ a)
  have sz5 : h5.size = h2.size := W5.size
  have O5 : Old Z n0 h5 := O2.wr W5 (by omega)
  have K5 : Keep h0 h5 [a] := K2.wr W5 (Or.inl (List.mem_of_getElem? (i := 0) rfl))
  have Fw5 := f4.same W5
  show own_go p e below s _ _ _ (T5.setTop (mkF m 14 #[.val (.ref a), .val .null, .val (.int z1), .val (.ref x), .val (.int z2), .val (.int z3)] []))
  refine own_of (fun tt_ => XS.aloadN X5.here hx rfl (hb hby d5_14) rfl rfl) ?_
  show own_go p e below s _ _ _ (T5.setTop (mkF m 15 #[.val (.ref a), .val .null, .val (.int z1), .val (.ref x), .val (.int z2), .val (.int z3)] [(.ref a)]))
  refine own_of (fun tt_ => XS.aloadN X5.here hx rfl (hb hby d5_15) rfl rfl) ?_
  show own_go p e below s _ _ _ (T5.setTop (mkF m 16 #[.val (.ref a), .val .null, .val (.int z1), .val (.ref x), .val (.int z2), .val (.int z3)] [(.ref x), (.ref a)]))
  have f6 : Exa Z h5 a "com/example/practory/practory/resource/ElementDefinitions$Element" := (f3.wr W5)
  have f7 : Fld Z h5 a "com/example/practory/practory/resource/ElementDefinitions$Element" "children" "Ljava/lang/String;" .null := ((F_children.other W2 (Or.inr (slot_ne (Or.inr (hW 43 _ rfl)) (Or.inr (hW 39 _ rfl)) (by decide) pf_2 pf_2))).other W5 (Or.inr (slot_ne (Or.inr (hW 43 _ rfl)) (Or.inr (hW 41 _ rfl)) (by decide) pf_2 pf_3)))
  obtain ⟨T8, h8, X8, e8, W8, st8⟩ := putF X5 hx hZ hown (host := "") (Or.inl (hW 42 _ rfl)) Via.refl e5 f7 f6 (Or.inr ⟨(hW 43 _ rfl), rfl, hnm⟩) (hW 27 _ rfl) (ty := (.object "java/lang/String")) pf_2 rfl rfl (g := (mkF m 16 #[.val (.ref a), .val .null, .val (.int z1), .val (.ref x), .val (.int z2), .val (.int z3)] [(.ref x), (.ref a)])) rfl rfl (hb hby d5_16)
  refine own_of st8 ?_
  have N8 := Fr.snoc X8 N5 (by omega : n0 ≤ a)
  have sz8 : h8.size = h5.size := W8.size
  have O8 : Old Z n0 h8 := O5.wr W8 (by omega)
  have K8 : Keep h0 h8 [a] := K5.wr W8 (Or.inl (List.mem_of_getElem? (i := 0) rfl))
  have Fw8 := f7.same W8
  show own_go p e below s _ _ _ (T8.setTop (mkF m 19 #[.val (.ref a), .val .null, .val (.int z1), .val (.ref x), .val (.int z2), .val (.int z3)] []))
  refine own_of (fun tt_ => XS.aloadN X8.here hx rfl (hb hby d5_19) rfl rfl) ?_
  show own_go p e below s _ _ _ (T8.setTop (mkF m 20 #[.val (.ref a), .val .null, .val (.int z1), .val (.ref x), .val (.int z2), .val (.int z3)] [(.ref a)]))
  refine own_of (fun tt_ => XS.iload X8.here hx rfl (hb hby d5_20) rfl) ?_
  show own_go p e below s _ _ _ (T8.setTop (mkF m 22 #[.val (.ref a), .val .null, .val (.int z1), .val (.ref x), .val (.int z2), .val (.int z3)] [(.int z2), (.ref a)]))
  have f9 : Exa Z h8 a "com/example/practory/practory/resource/ElementDefinitions$Element" := (f6.wr W8)
  have f10 : Fld Z h8 a "com/example/practory/practory/resource/ElementDefinitions$Element" "summary" "Z" (.int (0 : Int32)) := (((F_summary.other W2 (Or.inr (slot_ne (Or.inr (hW 45 _ rfl)) (Or.inr (hW 39 _ rfl)) (by decide) pf_3 pf_2))).other W5 (Or.inr (slot_ne (Or.inr (hW 45 _ rfl)) (Or.inr (hW 41 _ rfl)) (by decide) pf_3 pf_3))).other W8 (Or.inr (slot_ne (Or.inr (hW 45 _ rfl)) (Or.inr (hW 43 _ rfl)) (by decide) pf_3 pf_2)))
  obtain ⟨T11, h11, X11, e11, W11, st11⟩ := putFN X8 hx hZ hown (hW 44 _ rfl) Via.refl e8 f10 f9 (Or.inr ⟨(hW 45 _ rfl), rfl, hnm⟩) (hW 27 _ rfl) (ty := .boolean) (v' := .int (nar .boolean z2)) pf_3 rfl (fits_nar_bool _) (g := (mkF m 22 #[.val (.ref a), .val .null, .val (.int z1), .val (.ref x), .val (.int z2), .val (.int z3)] [(.int z2), (.ref a)])) rfl rfl (hb hby d5_22)
  refine own_of st11 ?_
  have N11 := Fr.snoc X11 N8 (by omega : n0 ≤ a)
  have sz11 : h11.size = h8.size := W11.size
  have O11 : Old Z n0 h11 := O8.wr W11 (by omega)
  have K11 : Keep h0 h11 [a] := K8.wr W11 (Or.inl (List.mem_of_getElem? (i := 0) rfl))
  have Fw11 := f10.same W11
  show own_go p e below s _ _ _ (T11.setTop (mkF m 25 #[.val (.ref a), .val .null, .val (.int z1), .val (.ref x), .val (.int z2), .val (.int z3)] []))
  refine own_of (fun tt_ => XS.aloadN X11.here hx rfl (hb hby d5_25) rfl rfl) ?_
  show own_go p e below s _ _ _ (T11.setTop (mkF m 26 #[.val (.ref a), .val .null, .val (.int z1), .val (.ref x), .val (.int z2), .val (.int z3)] [(.ref a)]))
  refine own_of (fun tt_ => XS.iload X11.here hx rfl (hb hby d5_26) rfl) ?_
  show own_go p e below s _ _ _ (T11.setTop (mkF m 28 #[.val (.ref a), .val .null, .val (.int z1), .val (.ref x), .val (.int z2), .val (.int z3)] [(.int z3), (.ref a)]))
  have f12 : Exa Z h11 a "com/example/practory/practory/resource/ElementDefinitions$Element" := (f9.wr W11)
  have f13 : Fld Z h11 a "com/example/practory/practory/resource/ElementDefinitions$Element" "required" "Z" (.int (0 : Int32)) := ((((F_required.other W2 (Or.inr (slot_ne (Or.inr (hW 47 _ rfl)) (Or.inr (hW 39 _ rfl)) (by decide) pf_3 pf_2))).other W5 (Or.inr (slot_ne (Or.inr (hW 47 _ rfl)) (Or.inr (hW 41 _ rfl)) (by decide) pf_3 pf_3))).other W8 (Or.inr (slot_ne (Or.inr (hW 47 _ rfl)) (Or.inr (hW 43 _ rfl)) (by decide) pf_3 pf_2))).other W11 (Or.inr (slot_ne (Or.inr (hW 47 _ rfl)) (Or.inr (hW 45 _ rfl)) (by decide) pf_3 pf_3)))
  obtain ⟨T14, h14, X14, e14, W14, st14⟩ := putFN X11 hx hZ hown (hW 46 _ rfl) Via.refl e11 f13 f12 (Or.inr ⟨(hW 47 _ rfl), rfl, hnm⟩) (hW 27 _ rfl) (ty := .boolean) (v' := .int (nar .boolean z3)) pf_3 rfl (fits_nar_bool _) (g := (mkF m 28 #[.val (.ref a), .val .null, .val (.int z1), .val (.ref x), .val (.int z2), .val (.int z3)] [(.int z3), (.ref a)])) rfl rfl (hb hby d5_28)
  refine own_of st14 ?_
  have N14 := Fr.snoc X14 N11 (by omega : n0 ≤ a)
  have sz14 : h14.size = h11.size := W14.size
  have O14 : Old Z n0 h14 := O11.wr W14 (by omega)
  have K14 : Keep h0 h14 [a] := K11.wr W14 (Or.inl (List.mem_of_getElem? (i := 0) rfl))
  have Fw14 := f13.same W14
  show own_go p e below s _ _ _ (T14.setTop (mkF m 31 #[.val (.ref a), .val .null, .val (.int z1), .val (.ref x), .val (.int z2), .val (.int z3)] []))
  refine own_retV X14 hx hlk Bd.returns (hb hby d5_31) (by decide) (by decide) ?_
  rw [e14]
  have f15 : Fld Z h14 a "com/example/practory/practory/resource/ElementDefinitions$Element" "type" "Ljava/lang/String;" .null := ((((Fw2.other W5 (Or.inr (slot_ne (Or.inr (hW 39 _ rfl)) (Or.inr (hW 41 _ rfl)) (by decide) pf_2 pf_3))).other W8 (Or.inr (slot_ne (Or.inr (hW 39 _ rfl)) (Or.inr (hW 43 _ rfl)) (by decide) pf_2 pf_2))).other W11 (Or.inr (slot_ne (Or.inr (hW 39 _ rfl)) (Or.inr (hW 45 _ rfl)) (by decide) pf_2 pf_3))).other W14 (Or.inr (slot_ne (Or.inr (hW 39 _ rfl)) (Or.inr (hW 47 _ rfl)) (by decide) pf_2 pf_3)))
  have f16 : Fld Z h14 a "com/example/practory/practory/resource/ElementDefinitions$Element" "children" "Ljava/lang/String;" (.ref x) := ((Fw8.other W11 (Or.inr (slot_ne (Or.inr (hW 43 _ rfl)) (Or.inr (hW 45 _ rfl)) (by decide) pf_2 pf_3))).other W14 (Or.inr (slot_ne (Or.inr (hW 43 _ rfl)) (Or.inr (hW 47 _ rfl)) (by decide) pf_2 pf_3)))
  exact ⟨rfl, N14, K14, f15, f16⟩
theorem ef_rmE_r (m : MethodId) (x0 : Nat) (x1 : Nat) (x2 : Int32) (x3 : Nat) (x4 : Int32) (x5 : Int32) : entryFrame m #[(.ref x0), (.ref x1), (.int x2), (.ref x3), (.int x4), (.int x5)] 6 = mkF m 0 #[.val (.ref x0), .val (.ref x1), .val (.int x2), .val (.ref x3), .val (.int x4), .val (.int x5)] [] := by first | (simp [entryFrame, mkF, argsToLocals, Value.category]; done) | rfl
def Q_rmE_r (Z : State) (a : Nat) (y : Nat) (z1 : Int32) (x : Nat) (z2 : Int32) (z3 : Int32) (h0 : Heap) (n0 : Nat) (v : Option Value) (h : Heap) (L : List Loc) : Prop := v = none ∧ Fr n0 L ∧ Keep h0 h [a] ∧ Fld Z h a "com/example/practory/practory/resource/ElementDefinitions$Element" "type" "Ljava/lang/String;" (.ref y) ∧ Fld Z h a "com/example/practory/practory/resource/ElementDefinitions$Element" "children" "Ljava/lang/String;" (.ref x)
set_option maxRecDepth 65536 in
set_option maxHeartbeats 40000000 in
theorem rmE_r (l : Launch) (Z : State) (a0 : Array Value) (hw : ∀ d ∈ tables_1, d.before a0 Z = true) (ws : List Jvm.Cond) (a : Nat) (y : Nat) (z1 : Int32) (x : Nat) (z2 : Int32) (z3 : Int32) (h0 : Heap) (n0 : Nat) (XO0 : Old Z n0 h0) (g_a : n0 ≤ a) (E_a : Exa Z h0 a "com/example/practory/practory/resource/ElementDefinitions$Element") (F_type : Fld Z h0 a "com/example/practory/practory/resource/ElementDefinitions$Element" "type" "Ljava/lang/String;" .null) (F_primitive : Fld Z h0 a "com/example/practory/practory/resource/ElementDefinitions$Element" "primitive" "Z" (.int (0 : Int32))) (F_children : Fld Z h0 a "com/example/practory/practory/resource/ElementDefinitions$Element" "children" "Ljava/lang/String;" .null) (F_summary : Fld Z h0 a "com/example/practory/practory/resource/ElementDefinitions$Element" "summary" "Z" (.int (0 : Int32))) (F_required : Fld Z h0 a "com/example/practory/practory/resource/ElementDefinitions$Element" "required" "Z" (.int (0 : Int32))) :
    MetFree l (⟨"com/example/practory/practory/resource/ElementDefinitions$Element", "<init>", "(Ljava/lang/String;ZLjava/lang/String;ZZ)V"⟩ : MethodName) (head1 (Jvm.Cond.code (⟨"com/example/practory/practory/resource/ElementDefinitions$Element", "<init>", "(Ljava/lang/String;ZLjava/lang/String;ZZ)V"⟩ : MethodName) prog_5_method_1_code 6 none :: ws) ({ frames := 2, cells := 0, slots := 0, locals := 24 } : Room)) (fun zz_ U => zz_ = #[(.ref a), (.ref y), (.int z1), (.ref x), (.int z2), (.int z3)] ∧ Z.Warmed39 U.vm ∧ U.heap = h0) (fun _ _ _ _ _ => True) (fun _ U o U' => ∃ v L, o = .returned v ∧ Q_rmE_r Z a y z1 x z2 z3 h0 n0 v U'.heap L ∧ FrameEnd U o U' L ({ frames := 2, cells := 0, slots := 0, locals := 24 } : Room).cells ({ frames := 2, cells := 0, slots := 0, locals := 24 } : Room).slots) := by
  refine MetFree.of_bodySF (plainFor_of_name pn_3) hisR ?_
  intro p e s m args below meth c s₁ Bd hml0 hP hK
  obtain ⟨rfl, hZ, hh⟩ := hP
  have hx := Bd.exec
  have hby := Bd.bytes
  have hlk := Bd.notSynchronized
  have hW : ∀ (i : Nat) (d : Jvm.Cond), tables_1[i]? = some d → d.before a0 Z = true := fun i d h => hw d (List.mem_of_getElem? h)
  have hml : c.maxLocals = 6 := hml0
  have hown : s.vm.findClass "com/example/practory/practory/resource/ElementDefinitions$Element" = some m.cls := findClass_of_methodNamed Bd.named
  have hnm := (name_of_methodNamed Bd.named Bd.method).1
  have X0 : Stand p l e ({ frames := 2, cells := 0, slots := 0, locals := 24 } : Room) s m #[(.ref a), (.ref y), (.int z1), (.ref x), (.int z2), (.int z3)] below meth c s₁ [] 0 0 := Stand.of_body Bd
  have e0 : s₁.heap = h0 := by rw [← hh, Bd.state]; rfl
  have N0 := Fr.nil n0
  refine own_in ?_
  refine own_of (fun tt_ kk_ => castTop (ef_rmE_r m a y z1 x z2 z3) kk_) ?_
  show own_go p e below s _ _ _ (s₁.setTop (mkF m 0 #[.val (.ref a), .val (.ref y), .val (.int z1), .val (.ref x), .val (.int z2), .val (.int z3)] []))
  refine own_of (fun tt_ => XS.aloadN X0.here hx rfl (hb hby d5_0) rfl rfl) ?_
  show own_go p e below s _ _ _ (s₁.setTop (mkF m 1 #[.val (.ref a), .val (.ref y), .val (.int z1), .val (.ref x), .val (.int z2), .val (.int z3)] [(.ref a)]))
  have K0 : Keep h0 h0 [a] := Keep.refl h0 [a]
  have lt_a := own_lt E_a.lt
  obtain ⟨_, _, ⟨T1, L1, k1, n1⟩, -, X1, ⟨Lc1, hQ1, l1, y1, z1⟩, st1⟩ := X0.specialBack hx (y := (⟨"java/lang/Record", "<init>", "()V"⟩ : MethodName)) rfl hown (mvT hZ (hW 32 _ rfl)) (mvT hZ (hW 33 _ rfl)) (mvT hZ (hW 36 _ rfl)) (by decide) (backOf (W := 0) (rmR l Z a0 hw [] a h0 n0 XO0) hZ (hW 36 _ rfl) (hW 35 _ rfl) (by decide) (by decide)) (g := (mkF m 1 #[.val (.ref a), .val (.ref y), .val (.int z1), .val (.ref x), .val (.int z2), .val (.int z3)] [(.ref a)])) rfl (by rw [hml]; rfl) (Steps.refl _) (a := a) (argsL := []) (rest := []) (lenOf pd_2 rfl) rfl (by show 2 * 0 + _ ≤ _; exact Nat.le_of_eq rfl) (hb hby d5_1) (fun _ _ => ⟨rfl, e0, (by decide : 0 + 0 ≤ _), (by decide : 0 + 0 ≤ _)⟩)
  dsimp only [Pt.U, Pt.locs, Pt.cells, Pt.slots] at X1 l1 y1 z1 st1 hQ1
  subst l1 y1 z1
  obtain ⟨rfl, Nq1, eh1⟩ := hQ1
  have N1 := Fr.app N0 Nq1
  refine own_of (fun tt_ kk_ => st1.trans kk_) ?_
  show own_go p e below s _ _ _ (T1.setTop (mkF m 4 #[.val (.ref a), .val (.ref y), .val (.int z1), .val (.ref x), .val (.int z2), .val (.int z3)] []))
  refine own_of (fun tt_ => XS.aloadN X1.here hx rfl (hb hby d5_4) rfl rfl) ?_
  show own_go p e below s _ _ _ (T1.setTop (mkF m 5 #[.val (.ref a), .val (.ref y), .val (.int z1), .val (.ref x), .val (.int z2), .val (.int z3)] [(.ref a)]))
  refine own_of (fun tt_ => XS.aloadN X1.here hx rfl (hb hby d5_5) rfl rfl) ?_
  show own_go p e below s _ _ _ (T1.setTop (mkF m 6 #[.val (.ref a), .val (.ref y), .val (.int z1), .val (.ref x), .val (.int z2), .val (.int z3)] [(.ref y), (.ref a)]))
  obtain ⟨T2, h2, X2, e2, W2, st2⟩ := putF X1 hx hZ hown (host := "") (Or.inl (hW 38 _ rfl)) Via.refl eh1 F_type E_a (Or.inr ⟨(hW 39 _ rfl), rfl, hnm⟩) (hW 27 _ rfl) (ty := (.object "java/lang/String")) pf_2 rfl rfl (g := (mkF m 6 #[.val (.ref a), .val (.ref y), .val (.int z1), .val (.ref x), .val (.int z2), .val (.int z3)] [(.ref y), (.ref a)])) rfl rfl (hb hby d5_6)
  refine own_of st2 ?_
  have N2 := Fr.snoc X2 N1 (by omega : n0 ≤ a)
  have sz2 : h2.size = h0.size := W2.size
  have O2 : Old Z n0 h2 := XO0.wr W2 (by omega)
  have K2 : Keep h0 h2 [a] := K0.wr W2 (Or.inl (List.mem_of_getElem? (i := 0) rfl))
  have Fw2 := F_type.same W2
  show own_go p e below s _ _ _ (T2.setTop (mkF m 9 #[.val (.ref a), .val (.ref y), .val (.int z1), .val (.ref x), .val (.int z2), .val (.int z3)] []))
  refine own_of (fun tt_ => XS.aloadN X2.here hx rfl (hb hby d5_9) rfl rfl) ?_
  show own_go p e below s _ _ _ (T2.setTop (mkF m 10 #[.val (.ref a), .val (.ref y), .val (.int z1), .val (.ref x), .val (.int z2), .val (.int z3)] [(.ref a)]))
  refine own_of (fun tt_ => XS.iloadN X2.here hx rfl (hb hby d5_10) rfl) ?_
  show own_go p e below s _ _ _ (T2.setTop (mkF m 11 #[.val (.ref a), .val (.ref y), .val (.int z1), .val (.ref x), .val (.int z2), .val (.int z3)] [(.int z1), (.ref a)]))
  have f3 : Exa Z h2 a "com/example/practory/practory/resource/ElementDefinitions$Element" := (E_a.wr W2)
  have f4 : Fld Z h2 a "com/example/practory/practory/resource/ElementDefinitions$Element" "primitive" "Z" (.int (0 : Int32)) := (F_primitive.other W2 (Or.inr (slot_ne (Or.inr (hW 41 _ rfl)) (Or.inr (hW 39 _ rfl)) (by decide) pf_3 pf_2)))
  obtain ⟨T5, h5, X5, e5, W5, st5⟩ := putFN X2 hx hZ hown (hW 40 _ rfl) Via.refl e2 f4 f3 (Or.inr ⟨(hW 41 _ rfl), rfl, hnm⟩) (hW 27 _ rfl) (ty := .boolean) (v' := .int (nar .boolean z1)) pf_3 rfl (fits_nar_bool _) (g := (mkF m 11 #[.val (.ref a), .val (.ref y), .val (.int z1), .val (.ref x), .val (.int z2), .val (.int z3)] [(.int z1), (.ref a)])) rfl rfl (hb hby d5_11)
  refine own_of st5 ?_
  have N5 := Fr.snoc X5 N2 (by omega : n0 ≤ a)
  have sz5 : h5.size = h2.size := W5.size
  have O5 : Old Z n0 h5 := O2.wr W5 (by omega)
  have K5 : Keep h0 h5 [a] := K2.wr W5 (Or.inl (List.mem_of_getElem? (i := 0) rfl))
  have Fw5 := f4.same W5
  show own_go p e below s _ _ _ (T5.setTop (mkF m 14 #[.val (.ref a), .val (.ref y), .val (.int z1), .val (.ref x), .val (.int z2), .val (.int z3)] []))
  refine own_of (fun tt_ => XS.aloadN X5.here hx rfl (hb hby d5_14) rfl rfl) ?_
  show own_go p e below s _ _ _ (T5.setTop (mkF m 15 #[.val (.ref a), .val (.ref y), .val (.int z1), .val (.ref x), .val (.int z2), .val (.int z3)] [(.ref a)]))
  refine own_of (fun tt_ => XS.aloadN X5.here hx rfl (hb hby d5_15) rfl rfl) ?_
  show own_go p e below s _ _ _ (T5.setTop (mkF m 16 #[.val (.ref a), .val (.ref y), .val (.int z1), .val (.ref x), .val (.int z2), .val (.int z3)] [(.ref x), (.ref a)]))
  have f6 : Exa Z h5 a "com/example/practory/practory/resource/ElementDefinitions$Element" := (f3.wr W5)
  have f7 : Fld Z h5 a "com/example/practory/practory/resource/ElementDefinitions$Element" "children" "Ljava/lang/String;" .null := ((F_children.other W2 (Or.inr (slot_ne (Or.inr (hW 43 _ rfl)) (Or.inr (hW 39 _ rfl)) (by decide) pf_2 pf_2))).other W5 (Or.inr (slot_ne (Or.inr (hW 43 _ rfl)) (Or.inr (hW 41 _ rfl)) (by decide) pf_2 pf_3)))
  obtain ⟨T8, h8, X8, e8, W8, st8⟩ := putF X5 hx hZ hown (host := "") (Or.inl (hW 42 _ rfl)) Via.refl e5 f7 f6 (Or.inr ⟨(hW 43 _ rfl), rfl, hnm⟩) (hW 27 _ rfl) (ty := (.object "java/lang/String")) pf_2 rfl rfl (g := (mkF m 16 #[.val (.ref a), .val (.ref y), .val (.int z1), .val (.ref x), .val (.int z2), .val (.int z3)] [(.ref x), (.ref a)])) rfl rfl (hb hby d5_16)
  refine own_of st8 ?_
  have N8 := Fr.snoc X8 N5 (by omega : n0 ≤ a)
  have sz8 : h8.size = h5.size := W8.size
  have O8 : Old Z n0 h8 := O5.wr W8 (by omega)
  have K8 : Keep h0 h8 [a] := K5.wr W8 (Or.inl (List.mem_of_getElem? (i := 0) rfl))
  have Fw8 := f7.same W8
  show own_go p e below s _ _ _ (T8.setTop (mkF m 19 #[.val (.ref a), .val (.ref y), .val (.int z1), .val (.ref x), .val (.int z2), .val (.int z3)] []))
  refine own_of (fun tt_ => XS.aloadN X8.here hx rfl (hb hby d5_19) rfl rfl) ?_
  show own_go p e below s _ _ _ (T8.setTop (mkF m 20 #[.val (.ref a), .val (.ref y), .val (.int z1), .val (.ref x), .val (.int z2), .val (.int z3)] [(.ref a)]))
  refine own_of (fun tt_ => XS.iload X8.here hx rfl (hb hby d5_20) rfl) ?_
  show own_go p e below s _ _ _ (T8.setTop (mkF m 22 #[.val (.ref a), .val (.ref y), .val (.int z1), .val (.ref x), .val (.int z2), .val (.int z3)] [(.int z2), (.ref a)]))
  have f9 : Exa Z h8 a "com/example/practory/practory/resource/ElementDefinitions$Element" := (f6.wr W8)
  have f10 : Fld Z h8 a "com/example/practory/practory/resource/ElementDefinitions$Element" "summary" "Z" (.int (0 : Int32)) := (((F_summary.other W2 (Or.inr (slot_ne (Or.inr (hW 45 _ rfl)) (Or.inr (hW 39 _ rfl)) (by decide) pf_3 pf_2))).other W5 (Or.inr (slot_ne (Or.inr (hW 45 _ rfl)) (Or.inr (hW 41 _ rfl)) (by decide) pf_3 pf_3))).other W8 (Or.inr (slot_ne (Or.inr (hW 45 _ rfl)) (Or.inr (hW 43 _ rfl)) (by decide) pf_3 pf_2)))
  obtain ⟨T11, h11, X11, e11, W11, st11⟩ := putFN X8 hx hZ hown (hW 44 _ rfl) Via.refl e8 f10 f9 (Or.inr ⟨(hW 45 _ rfl), rfl, hnm⟩) (hW 27 _ rfl) (ty := .boolean) (v' := .int (nar .boolean z2)) pf_3 rfl (fits_nar_bool _) (g := (mkF m 22 #[.val (.ref a), .val (.ref y), .val (.int z1), .val (.ref x), .val (.int z2), .val (.int z3)] [(.int z2), (.ref a)])) rfl rfl (hb hby d5_22)
  refine own_of st11 ?_
  have N11 := Fr.snoc X11 N8 (by omega : n0 ≤ a)
  have sz11 : h11.size = h8.size := W11.size
  have O11 : Old Z n0 h11 := O8.wr W11 (by omega)
  have K11 : Keep h0 h11 [a] := K8.wr W11 (Or.inl (List.mem_of_getElem? (i := 0) rfl))
  have Fw11 := f10.same W11
  show own_go p e below s _ _ _ (T11.setTop (mkF m 25 #[.val (.ref a), .val (.ref y), .val (.int z1), .val (.ref x), .val (.int z2), .val (.int z3)] []))
  refine own_of (fun tt_ => XS.aloadN X11.here hx rfl (hb hby d5_25) rfl rfl) ?_
  show own_go p e below s _ _ _ (T11.setTop (mkF m 26 #[.val (.ref a), .val (.ref y), .val (.int z1), .val (.ref x), .val (.int z2), .val (.int z3)] [(.ref a)]))
  refine own_of (fun tt_ => XS.iload X11.here hx rfl (hb hby d5_26) rfl) ?_
  show own_go p e below s _ _ _ (T11.setTop (mkF m 28 #[.val (.ref a), .val (.ref y), .val (.int z1), .val (.ref x), .val (.int z2), .val (.int z3)] [(.int z3), (.ref a)]))
  have f12 : Exa Z h11 a "com/example/practory/practory/resource/ElementDefinitions$Element" := (f9.wr W11)
  have f13 : Fld Z h11 a "com/example/practory/practory/resource/ElementDefinitions$Element" "required" "Z" (.int (0 : Int32)) := ((((F_required.other W2 (Or.inr (slot_ne (Or.inr (hW 47 _ rfl)) (Or.inr (hW 39 _ rfl)) (by decide) pf_3 pf_2))).other W5 (Or.inr (slot_ne (Or.inr (hW 47 _ rfl)) (Or.inr (hW 41 _ rfl)) (by decide) pf_3 pf_3))).other W8 (Or.inr (slot_ne (Or.inr (hW 47 _ rfl)) (Or.inr (hW 43 _ rfl)) (by decide) pf_3 pf_2))).other W11 (Or.inr (slot_ne (Or.inr (hW 47 _ rfl)) (Or.inr (hW 45 _ rfl)) (by decide) pf_3 pf_3)))
  obtain ⟨T14, h14, X14, e14, W14, st14⟩ := putFN X11 hx hZ hown (hW 46 _ rfl) Via.refl e11 f13 f12 (Or.inr ⟨(hW 47 _ rfl), rfl, hnm⟩) (hW 27 _ rfl) (ty := .boolean) (v' := .int (nar .boolean z3)) pf_3 rfl (fits_nar_bool _) (g := (mkF m 28 #[.val (.ref a), .val (.ref y), .val (.int z1), .val (.ref x), .val (.int z2), .val (.int z3)] [(.int z3), (.ref a)])) rfl rfl (hb hby d5_28)
  refine own_of st14 ?_
  have N14 := Fr.snoc X14 N11 (by omega : n0 ≤ a)
  have sz14 : h14.size = h11.size := W14.size
  have O14 : Old Z n0 h14 := O11.wr W14 (by omega)
  have K14 : Keep h0 h14 [a] := K11.wr W14 (Or.inl (List.mem_of_getElem? (i := 0) rfl))
  have Fw14 := f13.same W14
  show own_go p e below s _ _ _ (T14.setTop (mkF m 31 #[.val (.ref a), .val (.ref y), .val (.int z1), .val (.ref x), .val (.int z2), .val (.int z3)] []))
  refine own_retV X14 hx hlk Bd.returns (hb hby d5_31) (by decide) (by decide) ?_
  rw [e14]
  have f15 : Fld Z h14 a "com/example/practory/practory/resource/ElementDefinitions$Element" "type" "Ljava/lang/String;" (.ref y) := ((((Fw2.other W5 (Or.inr (slot_ne (Or.inr (hW 39 _ rfl)) (Or.inr (hW 41 _ rfl)) (by decide) pf_2 pf_3))).other W8 (Or.inr (slot_ne (Or.inr (hW 39 _ rfl)) (Or.inr (hW 43 _ rfl)) (by decide) pf_2 pf_2))).other W11 (Or.inr (slot_ne (Or.inr (hW 39 _ rfl)) (Or.inr (hW 45 _ rfl)) (by decide) pf_2 pf_3))).other W14 (Or.inr (slot_ne (Or.inr (hW 39 _ rfl)) (Or.inr (hW 47 _ rfl)) (by decide) pf_2 pf_3)))
  have f16 : Fld Z h14 a "com/example/practory/practory/resource/ElementDefinitions$Element" "children" "Ljava/lang/String;" (.ref x) := ((Fw8.other W11 (Or.inr (slot_ne (Or.inr (hW 43 _ rfl)) (Or.inr (hW 45 _ rfl)) (by decide) pf_2 pf_3))).other W14 (Or.inr (slot_ne (Or.inr (hW 43 _ rfl)) (Or.inr (hW 47 _ rfl)) (by decide) pf_2 pf_3)))
  exact ⟨rfl, N14, K14, f15, f16⟩
theorem ef_rmQn (m : MethodId) (x0 : Nat) : entryFrame m #[(.ref x0), .null] 3 = mkF m 0 #[.val (.ref x0), .val .null, .unset] [] := by first | (simp [entryFrame, mkF, argsToLocals, Value.category]; done) | rfl
theorem d8_0 : decode jdk_42_method_66_code 0 = .ok (.aload_n 0, 1) := by decide +kernel
theorem d8_1 : decode jdk_42_method_66_code 1 = .ok (.aload_n 1, 1) := by decide +kernel
theorem d8_2 : decode jdk_42_method_66_code 2 = .ok (.if_acmp .ne 5, 3) := by decide +kernel
theorem d8_7 : decode jdk_42_method_66_code 7 = .ok (.aload_n 1, 1) := by decide +kernel
theorem d8_8 : decode jdk_42_method_66_code 8 = .ok (.instanceof 10, 3) := by decide +kernel
theorem d8_11 : decode jdk_42_method_66_code 11 = .ok (.ifCond .eq 43, 3) := by decide +kernel
theorem d8_54 : decode jdk_42_method_66_code 54 = .ok (.iconst 0, 1) := by decide +kernel
theorem d8_55 : decode jdk_42_method_66_code 55 = .ok (.ireturn, 1) := by decide +kernel
def Q_rmQn (Z : State) (x : Nat) (h0 : Heap) (n0 : Nat) (v : Option Value) (h : Heap) (L : List Loc) : Prop := v = some (.int 0) ∧ Fr n0 L ∧ h = h0
set_option maxRecDepth 65536 in
set_option maxHeartbeats 40000000 in
theorem rmQn (l : Launch) (Z : State) (a0 : Array Value) (hw : ∀ d ∈ tables_1, d.before a0 Z = true) (ws : List Jvm.Cond) (x : Nat) (h0 : Heap) (n0 : Nat) (XO0 : Old Z n0 h0) :
    MetFree l (⟨"java/lang/String", "equals", "(Ljava/lang/Object;)Z"⟩ : MethodName) (head1 (Jvm.Cond.code (⟨"java/lang/String", "equals", "(Ljava/lang/Object;)Z"⟩ : MethodName) jdk_42_method_66_code 3 (some .boolean) :: ws) ({ frames := 0, cells := 0, slots := 0, locals := 0 } : Room)) (fun zz_ U => zz_ = #[(.ref x), .null] ∧ Z.Warmed39 U.vm ∧ U.heap = h0) (fun _ _ _ _ _ => True) (fun _ U o U' => ∃ v L, o = .returned v ∧ Q_rmQn Z x h0 n0 v U'.heap L ∧ FrameEnd U o U' L ({ frames := 0, cells := 0, slots := 0, locals := 0 } : Room).cells ({ frames := 0, cells := 0, slots := 0, locals := 0 } : Room).slots) := by
  refine MetFree.of_bodySF (plainFor_of_name pn_0) hisR ?_
  intro p e s m args below meth c s₁ Bd hml0 hP hK
  obtain ⟨rfl, hZ, hh⟩ := hP
  have hx := Bd.exec
  have hby := Bd.bytes
  have hlk := Bd.notSynchronized
  have hW : ∀ (i : Nat) (d : Jvm.Cond), tables_1[i]? = some d → d.before a0 Z = true := fun i d h => hw d (List.mem_of_getElem? h)
  have hml : c.maxLocals = 3 := hml0
  have hown : s.vm.findClass "java/lang/String" = some m.cls := findClass_of_methodNamed Bd.named
  have hnm := (name_of_methodNamed Bd.named Bd.method).1
  have X0 : Stand p l e ({ frames := 0, cells := 0, slots := 0, locals := 0 } : Room) s m #[(.ref x), .null] below meth c s₁ [] 0 0 := Stand.of_body Bd
  have e0 : s₁.heap = h0 := by rw [← hh, Bd.state]; rfl
  have N0 := Fr.nil n0
  refine own_in ?_
  refine own_of (fun tt_ kk_ => castTop (ef_rmQn m x) kk_) ?_
  show own_go p e below s _ _ _ (s₁.setTop (mkF m 0 #[.val (.ref x), .val .null, .unset] []))
  refine own_of (fun tt_ => XS.aloadN X0.here hx rfl (hb hby d8_0) rfl rfl) ?_
  show own_go p e below s _ _ _ (s₁.setTop (mkF m 1 #[.val (.ref x), .val .null, .unset] [(.ref x)]))
  refine own_of (fun tt_ => XS.aloadN X0.here hx rfl (hb hby d8_1) rfl rfl) ?_
  show own_go p e below s _ _ _ (s₁.setTop (mkF m 2 #[.val (.ref x), .val .null, .unset] [.null, (.ref x)]))
  refine own_of (fun tt_ => Jvm.RoadKit.acmp (g := (mkF m 2 #[.val (.ref x), .val .null, .unset] [.null, (.ref x)])) X0 hx rfl rfl rfl (pc0 := 2) (pc' := 7) (same := false) rfl (hb hby d8_2) rfl (decide_eq_false nofun) (by decide) (by decide)) ?_
  show own_go p e below s _ _ _ (s₁.setTop (mkF m 7 #[.val (.ref x), .val .null, .unset] []))
  refine own_of (fun tt_ => XS.aloadN X0.here hx rfl (hb hby d8_7) rfl rfl) ?_
  show own_go p e below s _ _ _ (s₁.setTop (mkF m 8 #[.val (.ref x), .val .null, .unset] [.null]))
  refine own_of (fun tt_ => X0.instanceofNull hx (g := (mkF m 8 #[.val (.ref x), .val .null, .unset] [.null])) rfl rfl (hb hby d8_8) _) ?_
  show own_go p e below s _ _ _ (s₁.setTop (mkF m 11 #[.val (.ref x), .val .null, .unset] [(.int (0 : Int32))]))
  have hb11_1 : (0 : Int32) = (0 : Int32) := by decide
  refine own_of (fun tt_ => XS.ifYes X0.here hx rfl (pc0 := 11) (pc' := 54) rfl (hb hby d8_11) rfl ((if0 _ _).trans (teq hb11_1).1) (by decide) (by decide)) ?_
  show own_go p e below s _ _ _ (s₁.setTop (mkF m 54 #[.val (.ref x), .val .null, .unset] []))
  refine own_of (fun tt_ => XS.iconst X0.here hx rfl (hb hby d8_54)) ?_
  show own_go p e below s _ _ _ (s₁.setTop (mkF m 55 #[.val (.ref x), .val .null, .unset] [(.int (0 : Int32))]))
  refine own_ret X0 hx hlk Bd.returns rfl (Or.inl ⟨rfl, by simp, _, rfl⟩) (hb hby d8_55) (by decide) (by decide) ?_
  rw [e0]
  exact ⟨rfl, N0, rfl⟩
theorem ef_rmDn (m : MethodId) (x0 : Nat) : entryFrame m #[(.ref x0)] 1 = mkF m 0 #[.val (.ref x0)] [] := by first | (simp [entryFrame, mkF, argsToLocals, Value.category]; done) | rfl
theorem d7_0 : decode prog_5_method_3_code 0 = .ok (.aload_n 0, 1) := by decide +kernel
theorem d7_1 : decode prog_5_method_3_code 1 = .ok (.getfield 19, 3) := by decide +kernel
theorem d7_4 : decode prog_5_method_3_code 4 = .ok (.aload_n 0, 1) := by decide +kernel
theorem d7_5 : decode prog_5_method_3_code 5 = .ok (.getfield 9, 3) := by decide +kernel
theorem d7_8 : decode prog_5_method_3_code 8 = .ok (.invokevirtual 30, 3) := by decide +kernel
theorem pd_3 : parseMethodDescriptor "(Ljava/lang/Object;)Z" = some ⟨[(.object "java/lang/Object")], some .boolean⟩ := by decide +kernel
theorem d7_11 : decode prog_5_method_3_code 11 = .ok (.ifCond .ne 7, 3) := by decide +kernel
theorem d7_14 : decode prog_5_method_3_code 14 = .ok (.iconst 1, 1) := by decide +kernel
theorem d7_15 : decode prog_5_method_3_code 15 = .ok (.goto 4, 3) := by decide +kernel
theorem d7_19 : decode prog_5_method_3_code 19 = .ok (.ireturn, 1) := by decide +kernel
def Q_rmDn (Z : State) (a : Nat) (x : Nat) (h0 : Heap) (n0 : Nat) (v : Option Value) (h : Heap) (L : List Loc) : Prop := v = some (.int 1) ∧ Fr n0 L ∧ h = h0
set_option maxRecDepth 65536 in
set_option maxHeartbeats 40000000 in
theorem rmDn (l : Launch) (Z : State) (a0 : Array Value) (hw : ∀ d ∈ tables_1, d.before a0 Z = true) (ws : List Jvm.Cond) (a : Nat) (x : Nat) (h0 : Heap) (n0 : Nat) (XO0 : Old Z n0 h0) (F_c : Fld Z h0 a "com/example/practory/practory/resource/ElementDefinitions$Element" "children" "Ljava/lang/String;" (.ref x)) (F_t : Fld Z h0 a "com/example/practory/practory/resource/ElementDefinitions$Element" "type" "Ljava/lang/String;" .null) (E_x : Exa Z h0 x "java/lang/String") :
    MetFree l (⟨"com/example/practory/practory/resource/ElementDefinitions$Element", "definesItsElements", "()Z"⟩ : MethodName) (head1 (Jvm.Cond.code (⟨"com/example/practory/practory/resource/ElementDefinitions$Element", "definesItsElements", "()Z"⟩ : MethodName) prog_5_method_3_code 1 (some .boolean) :: ws) ({ frames := 1, cells := 0, slots := 0, locals := 14 } : Room)) (fun zz_ U => zz_ = #[(.ref a)] ∧ Z.Warmed39 U.vm ∧ U.heap = h0) (fun _ _ _ _ _ => True) (fun _ U o U' => ∃ v L, o = .returned v ∧ Q_rmDn Z a x h0 n0 v U'.heap L ∧ FrameEnd U o U' L ({ frames := 1, cells := 0, slots := 0, locals := 14 } : Room).cells ({ frames := 1, cells := 0, slots := 0, locals := 14 } : Room).slots) := by
  refine MetFree.of_bodySF (plainFor_of_name pn_3) hisR ?_
  intro p e s m args below meth c s₁ Bd hml0 hP hK
  obtain ⟨rfl, hZ, hh⟩ := hP
  have hx := Bd.exec
  have hby := Bd.bytes
  have hlk := Bd.notSynchronized
  have hW : ∀ (i : Nat) (d : Jvm.Cond), tables_1[i]? = some d → d.before a0 Z = true := fun i d h => hw d (List.mem_of_getElem? h)
  have hml : c.maxLocals = 1 := hml0
  have hown : s.vm.findClass "com/example/practory/practory/resource/ElementDefinitions$Element" = some m.cls := findClass_of_methodNamed Bd.named
  have hnm := (name_of_methodNamed Bd.named Bd.method).1
  have X0 : Stand p l e ({ frames := 1, cells := 0, slots := 0, locals := 14 } : Room) s m #[(.ref a)] below meth c s₁ [] 0 0 := Stand.of_body Bd
  have e0 : s₁.heap = h0 := by rw [← hh, Bd.state]; rfl
  have N0 := Fr.nil n0
  refine own_in ?_
  refine own_of (fun tt_ kk_ => castTop (ef_rmDn m a) kk_) ?_
  show own_go p e below s _ _ _ (s₁.setTop (mkF m 0 #[.val (.ref a)] []))
  refine own_of (fun tt_ => XS.aloadN X0.here hx rfl (hb hby d7_0) rfl rfl) ?_
  show own_go p e below s _ _ _ (s₁.setTop (mkF m 1 #[.val (.ref a)] [(.ref a)]))
  obtain ⟨T1, X1, e1, st1⟩ := getF X0 hx hZ hown (host := "") (Or.inl (hW 42 _ rfl)) Via.refl e0 F_c (g := (mkF m 1 #[.val (.ref a)] [(.ref a)])) rfl rfl (hb hby d7_1)
  refine own_of st1 ?_
  show own_go p e below s _ _ _ (T1.setTop (mkF m 4 #[.val (.ref a)] [(.ref x)]))
  refine own_of (fun tt_ => XS.aloadN X1.here hx rfl (hb hby d7_4) rfl rfl) ?_
  show own_go p e below s _ _ _ (T1.setTop (mkF m 5 #[.val (.ref a)] [(.ref a), (.ref x)]))
  obtain ⟨T2, X2, e2, st2⟩ := getF X1 hx hZ hown (host := "") (Or.inl (hW 38 _ rfl)) Via.refl e1 F_t (g := (mkF m 5 #[.val (.ref a)] [(.ref a), (.ref x)])) rfl rfl (hb hby d7_5)
  refine own_of st2 ?_
  show own_go p e below s _ _ _ (T2.setTop (mkF m 8 #[.val (.ref a)] [.null, (.ref x)]))
  obtain ⟨cq3, kq3, q3a, q3b, q3c⟩ := isOf hZ e2 E_x
  obtain ⟨_, _, ⟨T3, L3, k3, n3⟩, -, X3, ⟨Lc3, hQ3, l3, y3, z3⟩, st3⟩ := X2.virtualBack hx (y := (⟨"java/lang/String", "equals", "(Ljava/lang/Object;)Z"⟩ : MethodName)) (z := (⟨"java/lang/String", "equals", "(Ljava/lang/Object;)Z"⟩ : MethodName)) hown (mvT hZ (hW 53 _ rfl)) (mvT hZ (hW 54 _ rfl)) (notFace_of_selects (args := #[]) (mvT hZ (hW 56 _ rfl))) (mvT hZ (hW 56 _ rfl)) (mvT hZ (hW 55 _ rfl)) (by decide) (backOf (W := 0) (rmQn l Z a0 hw [] x h0 n0 XO0) hZ (hW 57 _ rfl) (hW 6 _ rfl) (by decide) (by decide)) q3a q3c (g := (mkF m 8 #[.val (.ref a)] [.null, (.ref x)])) rfl (by rw [hml]; rfl) (Steps.refl _) (argsL := [.null]) (rest := []) (lenOf pd_3 rfl) rfl (by show 2 * 0 + _ ≤ _; exact Nat.le_of_eq rfl) (hb hby d7_8) (fun _ _ => ⟨rfl, e2, (by decide : 0 + 0 ≤ _), (by decide : 0 + 0 ≤ _)⟩)
  dsimp only [Pt.U, Pt.locs, Pt.cells, Pt.slots] at X3 l3 y3 z3 st3 hQ3
  subst l3 y3 z3
  obtain ⟨rfl, Nq3, eh3⟩ := hQ3
  have N3 := Fr.app N0 Nq3
  refine own_of (fun tt_ kk_ => st3.trans kk_) ?_
  show own_go p e below s _ _ _ (T3.setTop (mkF m 11 #[.val (.ref a)] [(.int (0 : Int32))]))
  have hb11_4 : (0 : Int32) = (0 : Int32) := by decide
  refine own_of (fun tt_ => XS.ifNo X3.here hx rfl (hb hby d7_11) rfl ((if0 _ _).trans (teq hb11_4).2)) ?_
  show own_go p e below s _ _ _ (T3.setTop (mkF m 14 #[.val (.ref a)] []))
  refine own_of (fun tt_ => XS.iconst X3.here hx rfl (hb hby d7_14)) ?_
  show own_go p e below s _ _ _ (T3.setTop (mkF m 15 #[.val (.ref a)] [(.int (1 : Int32))]))
  refine own_of (fun tt_ => XS.goto X3.here hx rfl (pc0 := 15) (pc' := 19) rfl (hb hby d7_15) (by decide) (by decide)) ?_
  show own_go p e below s _ _ _ (T3.setTop (mkF m 19 #[.val (.ref a)] [(.int (1 : Int32))]))
  refine own_ret X3 hx hlk Bd.returns rfl (Or.inl ⟨rfl, by simp, _, rfl⟩) (hb hby d7_19) (by decide) (by decide) ?_
  rw [eh3]
  exact ⟨rfl, N3, rfl⟩
theorem ef_rmD (m : MethodId) (x0 : Nat) : entryFrame m #[(.ref x0)] 1 = mkF m 0 #[.val (.ref x0)] [] := by first | (simp [entryFrame, mkF, argsToLocals, Value.category]; done) | rfl
theorem d7_18 : decode prog_5_method_3_code 18 = .ok (.iconst 0, 1) := by decide +kernel
def Q_rmD (Z : State) (a : Nat) (x : Nat) (y : Nat) (cs : List Int32) (ds : List Int32) (G1 : Int32) (h0 : Heap) (n0 : Nat) (v : Option Value) (h : Heap) (L : List Loc) : Prop := v = some (.int (if cs = ds then 0 else 1)) ∧ Fr n0 L ∧ h = h0
set_option maxRecDepth 65536 in
set_option maxHeartbeats 40000000 in
theorem rmD (l : Launch) (Z : State) (a0 : Array Value) (hw : ∀ d ∈ tables_1, d.before a0 Z = true) (ws : List Jvm.Cond) (a : Nat) (x : Nat) (y : Nat) (cs : List Int32) (ds : List Int32) (G1 : Int32) (h0 : Heap) (n0 : Nat) (XO0 : Old Z n0 h0) (O2 : Sta Z Z.heap "java/lang/String" "COMPACT_STRINGS" "Z" (.int G1)) (P5 : ¬ (G1 = (0 : Int32))) (F_c : Fld Z h0 a "com/example/practory/practory/resource/ElementDefinitions$Element" "children" "Ljava/lang/String;" (.ref x)) (F_t : Fld Z h0 a "com/example/practory/practory/resource/ElementDefinitions$Element" "type" "Ljava/lang/String;" (.ref y)) (Sx : own_str Z h0 x cs) (Sy : own_str Z h0 y ds) (hcs : (∀ c ∈ cs, ¬ c < 0 ∧ ¬ (65535 : Int32) < c) ∧ cs.length ≤ 4000) (hds : (∀ c ∈ ds, ¬ c < 0 ∧ ¬ (65535 : Int32) < c) ∧ ds.length ≤ 4000) :
    MetFree l (⟨"com/example/practory/practory/resource/ElementDefinitions$Element", "definesItsElements", "()Z"⟩ : MethodName) (head1 (Jvm.Cond.code (⟨"com/example/practory/practory/resource/ElementDefinitions$Element", "definesItsElements", "()Z"⟩ : MethodName) prog_5_method_3_code 1 (some .boolean) :: ws) ({ frames := 2, cells := 0, slots := 0, locals := 28 } : Room)) (fun zz_ U => zz_ = #[(.ref a)] ∧ Z.Warmed39 U.vm ∧ U.heap = h0) (fun _ _ _ _ _ => True) (fun _ U o U' => ∃ v L, o = .returned v ∧ Q_rmD Z a x y cs ds G1 h0 n0 v U'.heap L ∧ FrameEnd U o U' L ({ frames := 2, cells := 0, slots := 0, locals := 28 } : Room).cells ({ frames := 2, cells := 0, slots := 0, locals := 28 } : Room).slots) := by
  refine MetFree.of_bodySF (plainFor_of_name pn_3) hisR ?_
  intro p e s m args below meth c s₁ Bd hml0 hP hK
  obtain ⟨rfl, hZ, hh⟩ := hP
  have hx := Bd.exec
  have hby := Bd.bytes
  have hlk := Bd.notSynchronized
  have hW : ∀ (i : Nat) (d : Jvm.Cond), tables_1[i]? = some d → d.before a0 Z = true := fun i d h => hw d (List.mem_of_getElem? h)
  have hml : c.maxLocals = 1 := hml0
  have hown : s.vm.findClass "com/example/practory/practory/resource/ElementDefinitions$Element" = some m.cls := findClass_of_methodNamed Bd.named
  have hnm := (name_of_methodNamed Bd.named Bd.method).1
  have X0 : Stand p l e ({ frames := 2, cells := 0, slots := 0, locals := 28 } : Room) s m #[(.ref a)] below meth c s₁ [] 0 0 := Stand.of_body Bd
  have e0 : s₁.heap = h0 := by rw [← hh, Bd.state]; rfl
  have N0 := Fr.nil n0
  refine own_in ?_
  refine own_of (fun tt_ kk_ => castTop (ef_rmD m a) kk_) ?_
  show own_go p e below s _ _ _ (s₁.setTop (mkF m 0 #[.val (.ref a)] []))
  refine own_of (fun tt_ => XS.aloadN X0.here hx rfl (hb hby d7_0) rfl rfl) ?_
  show own_go p e below s _ _ _ (s₁.setTop (mkF m 1 #[.val (.ref a)] [(.ref a)]))
  obtain ⟨T1, X1, e1, st1⟩ := getF X0 hx hZ hown (host := "") (Or.inl (hW 42 _ rfl)) Via.refl e0 F_c (g := (mkF m 1 #[.val (.ref a)] [(.ref a)])) rfl rfl (hb hby d7_1)
  refine own_of st1 ?_
  show own_go p e below s _ _ _ (T1.setTop (mkF m 4 #[.val (.ref a)] [(.ref x)]))
  refine own_of (fun tt_ => XS.aloadN X1.here hx rfl (hb hby d7_4) rfl rfl) ?_
  show own_go p e below s _ _ _ (T1.setTop (mkF m 5 #[.val (.ref a)] [(.ref a), (.ref x)]))
  obtain ⟨T2, X2, e2, st2⟩ := getF X1 hx hZ hown (host := "") (Or.inl (hW 38 _ rfl)) Via.refl e1 F_t (g := (mkF m 5 #[.val (.ref a)] [(.ref a), (.ref x)])) rfl rfl (hb hby d7_5)
  refine own_of st2 ?_
  show own_go p e below s _ _ _ (T2.setTop (mkF m 8 #[.val (.ref a)] [(.ref y), (.ref x)]))
  have heq : ∀ d ∈ StrChars.Road.wordsEq, d.before a0 Z = true := fun d hd => hw d ((by decide +kernel : ∀ d ∈ StrChars.Road.wordsEq, d ∈ tables_1) d hd)
  obtain ⟨t1, kb1, N1, vs1, Ea, Va, Ca, Ka, cda⟩ := id Sx
  obtain ⟨t2, kb2, N2, vs2, Eb, Vb, Cb, Kb, cdb⟩ := id Sy
  obtain ⟨cq3, kq3, q3a, q3b, q3c⟩ := isOf hZ e2 Ea
  obtain ⟨_, _, ⟨T3, L3, k3, n3⟩, -, X3, ⟨Lc3, hQ3, l3, y3, z3⟩, st3⟩ := X2.virtualBack hx (y := (⟨"java/lang/String", "equals", "(Ljava/lang/Object;)Z"⟩ : MethodName)) (z := (⟨"java/lang/String", "equals", "(Ljava/lang/Object;)Z"⟩ : MethodName)) hown (mvT hZ (hW 53 _ rfl)) (mvT hZ (hW 54 _ rfl)) (notFace_of_selects (args := #[]) (mvT hZ (hW 56 _ rfl))) (mvT hZ (hW 56 _ rfl)) (mvT hZ (hW 55 _ rfl)) (by decide) (StrChars.Road.eqW (W := 0) hZ heq (kI := 4) (hW 5 _ rfl) Ea Va Ca Ka cda hcs.1 hcs.2 Eb Vb Cb Kb cdb hds.1 hds.2 (O2.ext XO0.2) P5 (by decide) (by decide)) q3a q3c (g := (mkF m 8 #[.val (.ref a)] [(.ref y), (.ref x)])) rfl (by rw [hml]; rfl) (Steps.refl _) (argsL := [(.ref y)]) (rest := []) (lenOf pd_3 rfl) rfl (by show 2 * 0 + _ ≤ _; exact Nat.le_of_eq rfl) (hb hby d7_8) (fun _ _ => ⟨rfl, e2, (by decide : 0 + 0 ≤ _), (by decide : 0 + 0 ≤ _)⟩)
  dsimp only [Pt.U, Pt.locs, Pt.cells, Pt.slots] at X3 l3 y3 z3 st3 hQ3
  subst l3 y3 z3
  obtain ⟨hc3, rfl, eh3⟩ := hQ3
  have hv3 := own_eqv hc3
  subst hv3
  have Nq3 : Fr n0 ([] : List Loc) := Fr.nil n0
  have N3 := Fr.app N0 Nq3
  refine own_of (fun tt_ kk_ => st3.trans kk_) ?_
  show own_go p e below s _ _ _ (T3.setTop (mkF m 11 #[.val (.ref a)] [(.int (if cs = ds then (1 : Int32) else 0))]))
  by_cases hb11_4 : (if cs = ds then (1 : Int32) else 0) = (0 : Int32)
  · refine own_of (fun tt_ => XS.ifNo X3.here hx rfl (hb hby d7_11) rfl ((if0 _ _).trans (teq hb11_4).2)) ?_
    show own_go p e below s _ _ _ (T3.setTop (mkF m 14 #[.val (.ref a)] []))
    refine own_of (fun tt_ => XS.iconst X3.here hx rfl (hb hby d7_14)) ?_
    show own_go p e below s _ _ _ (T3.setTop (mkF m 15 #[.val (.ref a)] [(.int (1 : Int32))]))
    refine own_of (fun tt_ => XS.goto X3.here hx rfl (pc0 := 15) (pc' := 19) rfl (hb hby d7_15) (by decide) (by decide)) ?_
    show own_go p e below s _ _ _ (T3.setTop (mkF m 19 #[.val (.ref a)] [(.int (1 : Int32))]))
    refine own_ret X3 hx hlk Bd.returns rfl (Or.inl ⟨rfl, by simp, _, rfl⟩) (hb hby d7_19) (by decide) (by decide) ?_
    rw [eh3]
    refine ⟨?_, N3, rfl⟩
    by_cases hq : cs = ds <;> simp_all
  · refine own_of (fun tt_ => XS.ifYes X3.here hx rfl (pc0 := 11) (pc' := 18) rfl (hb hby d7_11) rfl ((if0 _ _).trans (feq hb11_4).2) (by decide) (by decide)) ?_
    show own_go p e below s _ _ _ (T3.setTop (mkF m 18 #[.val (.ref a)] []))
    refine own_of (fun tt_ => XS.iconst X3.here hx rfl (hb hby d7_18)) ?_
    show own_go p e below s _ _ _ (T3.setTop (mkF m 19 #[.val (.ref a)] [(.int (0 : Int32))]))
    refine own_ret X3 hx hlk Bd.returns rfl (Or.inl ⟨rfl, by simp, _, rfl⟩) (hb hby d7_19) (by decide) (by decide) ?_
    rw [eh3]
    refine ⟨?_, N3, rfl⟩
    by_cases hq : cs = ds <;> simp_all
theorem ef_rm0 (m : MethodId) (x0 : Int32) (x1 : Int32) (x2 : Int32) (x3 : Int32) : entryFrame m #[(.int x0), (.int x1), (.int x2), (.int x3)] maxLocals = mkF m 0 #[.val (.int x0), .val (.int x1), .val (.int x2), .val (.int x3), .unset, .unset, .unset, .unset, .unset, .unset, .unset, .unset, .unset, .unset, .unset, .unset, .unset, .unset, .unset, .unset] [] := by first | (simp [entryFrame, mkF, argsToLocals, Value.category, maxLocals]; done) | rfl
theorem pd_4 : parseMethodDescriptor "(ICCC)Ljava/lang/String;" = some ⟨[.int, .char, .char, .char], some (.object "java/lang/String")⟩ := by decide +kernel
theorem pd_5 : parseMethodDescriptor "(Ljava/lang/String;ZLjava/lang/String;ZZ)V" = some ⟨[(.object "java/lang/String"), .boolean, (.object "java/lang/String"), .boolean, .boolean], none⟩ := by decide +kernel
theorem pd_6 : parseMethodDescriptor "()Z" = some ⟨[], some .boolean⟩ := by decide +kernel
def Q_rm0 (Z : State) (p1 : Int32) (p2 : Int32) (p3 : Int32) (p4 : Int32) (G1 : Int32) (h0 : Heap) (n0 : Nat) (v : Option Value) (h : Heap) (L : List Loc) : Prop := v = some (.int 1) ∧ Fr n0 L
set_option maxRecDepth 65536 in
set_option maxHeartbeats 40000000 in
theorem rm0 (l : Launch) (Z : State) (a0 : Array Value) (hw : ∀ d ∈ tables_1, d.before a0 Z = true) (ws : List Jvm.Cond) (p1 : Int32) (p2 : Int32) (p3 : Int32) (p4 : Int32) (G1 : Int32) (h0 : Heap) (n0 : Nat) (hEL : EW Z a0 own_EL) (XO0 : Old Z n0 h0) (O2 : Sta Z Z.heap "java/lang/String" "COMPACT_STRINGS" "Z" (.int G1)) (P5 : ¬ (G1 = (0 : Int32))) :
    MetFree l x (head1 (Jvm.Cond.code x code maxLocals ret :: ws) room_1) (fun zz_ U => zz_ = #[(.int p1), (.int p2), (.int p3), (.int p4)] ∧ Z.Warmed39 U.vm ∧ U.heap = h0 ∧ CHv Z own_EL U.vm h0) (fun _ _ _ _ _ => True) (fun _ U o U' => ∃ v L, o = .returned v ∧ Q_rm0 Z p1 p2 p3 p4 G1 h0 n0 v U'.heap L ∧ CHr Z own_EL U.vm U.heap U'.vm U'.heap ∧ ReturnedEndW U o U' L room_1.cells room_1.slots) := by
  refine MetFree.of_bodySF (plainFor_of_name pn_2) hisR ?_
  intro p e s m args below meth c s₁ Bd hml0 hP hK
  obtain ⟨rfl, hZ, hh, hCH⟩ := hP
  have hx := Bd.exec
  have hby := Bd.bytes
  have hlk := Bd.notSynchronized
  have hW : ∀ (i : Nat) (d : Jvm.Cond), tables_1[i]? = some d → d.before a0 Z = true := fun i d h => hw d (List.mem_of_getElem? h)
  have hml : c.maxLocals = 20 := hml0
  have hown : s.vm.findClass "com/example/practory/practory/resource/ElementDefinitionsDefinesItsElementsPinLaw" = some m.cls := findClass_of_methodNamed Bd.named
  have hnm := (name_of_methodNamed Bd.named Bd.method).1
  have X0 : Stand p l e room_1 (s.setVm s.vm) m #[(.int p1), (.int p2), (.int p3), (.int p4)] below meth c s₁ [] 0 0 := Stand.of_body Bd
  have e0 : s₁.heap = h0 := by rw [← hh, Bd.state]; rfl
  have N0 := Fr.nil n0
  have hS0 : s.Since s.vm 0 := (State.WarmedH.refl s).since 0
  have CH0 : CHr Z own_EL s.vm s.heap s.vm h0 := by rw [hh]; exact CHr.refl hCH
  refine own_inc ?_
  refine own_ofc (fun tt_ kk_ => castTop (ef_rm0 m p1 p2 p3 p4) kk_) ?_
  show own_gc p e below s _ _ _ _ _ (s₁.setTop (mkF m 0 #[.val (.int p1), .val (.int p2), .val (.int p3), .val (.int p4), .unset, .unset, .unset, .unset, .unset, .unset, .unset, .unset, .unset, .unset, .unset, .unset, .unset, .unset, .unset, .unset] []))
  have wS : ∀ a ∈ Bundle.stringAtoms, a.before a0 Z = true := fun d hd => hw d ((by decide +kernel : ∀ d ∈ Bundle.stringAtoms, d ∈ tables_1) d hd)
  have hws : ∀ d ∈ StrChars.Road.words, d.before a0 Z = true := fun d hd => hw d ((by decide +kernel : ∀ d ∈ StrChars.Road.words, d ∈ tables_1) d hd)
  refine own_ofc (fun tt_ => XS.iloadN X0.here hx rfl (hb hby at_0) rfl) ?_
  show own_gc p e below s _ _ _ _ _ (s₁.setTop (mkF m 1 #[.val (.int p1), .val (.int p2), .val (.int p3), .val (.int p4), .unset, .unset, .unset, .unset, .unset, .unset, .unset, .unset, .unset, .unset, .unset, .unset, .unset, .unset, .unset, .unset] [(.int p1)]))
  refine own_ofc (fun tt_ => XS.iconst X0.here hx rfl (hb hby at_1)) ?_
  show own_gc p e below s _ _ _ _ _ (s₁.setTop (mkF m 2 #[.val (.int p1), .val (.int p2), .val (.int p3), .val (.int p4), .unset, .unset, .unset, .unset, .unset, .unset, .unset, .unset, .unset, .unset, .unset, .unset, .unset, .unset, .unset, .unset] [(.int (3 : Int32)), (.int p1)]))
  refine own_ofc (fun tt_ => XS.iand X0.here hx rfl (hb hby at_2) rfl) ?_
  show own_gc p e below s _ _ _ _ _ (s₁.setTop (mkF m 3 #[.val (.int p1), .val (.int p2), .val (.int p3), .val (.int p4), .unset, .unset, .unset, .unset, .unset, .unset, .unset, .unset, .unset, .unset, .unset, .unset, .unset, .unset, .unset, .unset] [(.int (p1 &&& (3 : Int32)))]))
  obtain ⟨k1, hk1, ek1⟩ := own_and3n p1
  rw [ek1]
  show own_gc p e below s _ _ _ _ _ (s₁.setTop (mkF m 3 #[.val (.int p1), .val (.int p2), .val (.int p3), .val (.int p4), .unset, .unset, .unset, .unset, .unset, .unset, .unset, .unset, .unset, .unset, .unset, .unset, .unset, .unset, .unset, .unset] [(.int (Int32.ofNat k1))]))
  refine own_ofc (fun tt_ => XS.istore X0.here hx rfl (hb hby at_3) rfl (l' := #[.val (.int p1), .val (.int p2), .val (.int p3), .val (.int p4), .val (.int (Int32.ofNat k1)), .unset, .unset, .unset, .unset, .unset, .unset, .unset, .unset, .unset, .unset, .unset, .unset, .unset, .unset, .unset]) rfl) ?_
  show own_gc p e below s _ _ _ _ _ (s₁.setTop (mkF m 5 #[.val (.int p1), .val (.int p2), .val (.int p3), .val (.int p4), .val (.int (Int32.ofNat k1)), .unset, .unset, .unset, .unset, .unset, .unset, .unset, .unset, .unset, .unset, .unset, .unset, .unset, .unset, .unset] []))
  refine own_ofc (fun tt_ => XS.iloadN X0.here hx rfl (hb hby at_5) rfl) ?_
  show own_gc p e below s _ _ _ _ _ (s₁.setTop (mkF m 6 #[.val (.int p1), .val (.int p2), .val (.int p3), .val (.int p4), .val (.int (Int32.ofNat k1)), .unset, .unset, .unset, .unset, .unset, .unset, .unset, .unset, .unset, .unset, .unset, .unset, .unset, .unset, .unset] [(.int p1)]))
  refine own_ofc (fun tt_ => XS.iconst X0.here hx rfl (hb hby at_6)) ?_
  show own_gc p e below s _ _ _ _ _ (s₁.setTop (mkF m 7 #[.val (.int p1), .val (.int p2), .val (.int p3), .val (.int p4), .val (.int (Int32.ofNat k1)), .unset, .unset, .unset, .unset, .unset, .unset, .unset, .unset, .unset, .unset, .unset, .unset, .unset, .unset, .unset] [(.int (2 : Int32)), (.int p1)]))
  refine own_ofc (fun tt_ => XS.iushr X0.here hx rfl (hb hby at_7) rfl) ?_
  show own_gc p e below s _ _ _ _ _ (s₁.setTop (mkF m 8 #[.val (.int p1), .val (.int p2), .val (.int p3), .val (.int p4), .val (.int (Int32.ofNat k1)), .unset, .unset, .unset, .unset, .unset, .unset, .unset, .unset, .unset, .unset, .unset, .unset, .unset, .unset, .unset] [(.int ((p1.toUInt32 >>> ((2 : Int32) &&& 31).toUInt32).toInt32))]))
  refine own_ofc (fun tt_ => XS.iconst X0.here hx rfl (hb hby at_8)) ?_
  show own_gc p e below s _ _ _ _ _ (s₁.setTop (mkF m 9 #[.val (.int p1), .val (.int p2), .val (.int p3), .val (.int p4), .val (.int (Int32.ofNat k1)), .unset, .unset, .unset, .unset, .unset, .unset, .unset, .unset, .unset, .unset, .unset, .unset, .unset, .unset, .unset] [(.int (3 : Int32)), (.int ((p1.toUInt32 >>> ((2 : Int32) &&& 31).toUInt32).toInt32))]))
  refine own_ofc (fun tt_ => XS.iand X0.here hx rfl (hb hby at_9) rfl) ?_
  show own_gc p e below s _ _ _ _ _ (s₁.setTop (mkF m 10 #[.val (.int p1), .val (.int p2), .val (.int p3), .val (.int p4), .val (.int (Int32.ofNat k1)), .unset, .unset, .unset, .unset, .unset, .unset, .unset, .unset, .unset, .unset, .unset, .unset, .unset, .unset, .unset] [(.int (((p1.toUInt32 >>> ((2 : Int32) &&& 31).toUInt32).toInt32) &&& (3 : Int32)))]))
  obtain ⟨k2o, hk2o, ek2o⟩ := own_and3n ((p1.toUInt32 >>> ((2 : Int32) &&& 31).toUInt32).toInt32)
  rw [ek2o]
  show own_gc p e below s _ _ _ _ _ (s₁.setTop (mkF m 10 #[.val (.int p1), .val (.int p2), .val (.int p3), .val (.int p4), .val (.int (Int32.ofNat k1)), .unset, .unset, .unset, .unset, .unset, .unset, .unset, .unset, .unset, .unset, .unset, .unset, .unset, .unset, .unset] [(.int (Int32.ofNat k2o))]))
  refine own_ofc (fun tt_ => XS.istore X0.here hx rfl (hb hby at_10) rfl (l' := #[.val (.int p1), .val (.int p2), .val (.int p3), .val (.int p4), .val (.int (Int32.ofNat k1)), .val (.int (Int32.ofNat k2o)), .unset, .unset, .unset, .unset, .unset, .unset, .unset, .unset, .unset, .unset, .unset, .unset, .unset, .unset]) rfl) ?_
  show own_gc p e below s _ _ _ _ _ (s₁.setTop (mkF m 12 #[.val (.int p1), .val (.int p2), .val (.int p3), .val (.int p4), .val (.int (Int32.ofNat k1)), .val (.int (Int32.ofNat k2o)), .unset, .unset, .unset, .unset, .unset, .unset, .unset, .unset, .unset, .unset, .unset, .unset, .unset, .unset] []))
  refine own_ofc (fun tt_ => XS.iloadN X0.here hx rfl (hb hby at_12) rfl) ?_
  show own_gc p e below s _ _ _ _ _ (s₁.setTop (mkF m 13 #[.val (.int p1), .val (.int p2), .val (.int p3), .val (.int p4), .val (.int (Int32.ofNat k1)), .val (.int (Int32.ofNat k2o)), .unset, .unset, .unset, .unset, .unset, .unset, .unset, .unset, .unset, .unset, .unset, .unset, .unset, .unset] [(.int p4)]))
  refine own_ofc (fun tt_ => XS.iconst X0.here hx rfl (hb hby at_13)) ?_
  show own_gc p e below s _ _ _ _ _ (s₁.setTop (mkF m 14 #[.val (.int p1), .val (.int p2), .val (.int p3), .val (.int p4), .val (.int (Int32.ofNat k1)), .val (.int (Int32.ofNat k2o)), .unset, .unset, .unset, .unset, .unset, .unset, .unset, .unset, .unset, .unset, .unset, .unset, .unset, .unset] [(.int (1 : Int32)), (.int p4)]))
  refine own_ofc (fun tt_ => XS.iand X0.here hx rfl (hb hby at_14) rfl) ?_
  show own_gc p e below s _ _ _ _ _ (s₁.setTop (mkF m 15 #[.val (.int p1), .val (.int p2), .val (.int p3), .val (.int p4), .val (.int (Int32.ofNat k1)), .val (.int (Int32.ofNat k2o)), .unset, .unset, .unset, .unset, .unset, .unset, .unset, .unset, .unset, .unset, .unset, .unset, .unset, .unset] [(.int (p4 &&& (1 : Int32)))]))
  refine own_use X0 (h := h0) (g := fun kv1 : {k : Nat // k < 4} => (mkF m 22 #[.val (.int p1), .val (.int p2), .val (.int p3), .val (.int p4), .val (.int (Int32.ofNat k1)), .val (.int (Int32.ofNat kv1.1)), .unset, .unset, .unset, .unset, .unset, .unset, .unset, .unset, .unset, .unset, .unset, .unset, .unset, .unset] [])) (G := own_gc p e below s _ _ _ _ _) ?_ ?_
  · intro kv1 T1 X1 e1
    show own_gc p e below s _ _ _ _ _ (T1.setTop (mkF m 22 #[.val (.int p1), .val (.int p2), .val (.int p3), .val (.int p4), .val (.int (Int32.ofNat k1)), .val (.int (Int32.ofNat kv1.1)), .unset, .unset, .unset, .unset, .unset, .unset, .unset, .unset, .unset, .unset, .unset, .unset, .unset, .unset] []))
    refine own_ofc (fun tt_ => XS.iloadN X1.here hx rfl (hb hby at_22) rfl) ?_
    show own_gc p e below s _ _ _ _ _ (T1.setTop (mkF m 23 #[.val (.int p1), .val (.int p2), .val (.int p3), .val (.int p4), .val (.int (Int32.ofNat k1)), .val (.int (Int32.ofNat kv1.1)), .unset, .unset, .unset, .unset, .unset, .unset, .unset, .unset, .unset, .unset, .unset, .unset, .unset, .unset] [(.int p2)]))
    refine own_ofc (fun tt_ => XS.sipush X1.here hx rfl (hb hby at_23)) ?_
    show own_gc p e below s _ _ _ _ _ (T1.setTop (mkF m 26 #[.val (.int p1), .val (.int p2), .val (.int p3), .val (.int p4), .val (.int (Int32.ofNat k1)), .val (.int (Int32.ofNat kv1.1)), .unset, .unset, .unset, .unset, .unset, .unset, .unset, .unset, .unset, .unset, .unset, .unset, .unset, .unset] [(.int (255 : Int32)), (.int p2)]))
    refine own_ofc (fun tt_ => XS.iand X1.here hx rfl (hb hby at_26) rfl) ?_
    show own_gc p e below s _ _ _ _ _ (T1.setTop (mkF m 27 #[.val (.int p1), .val (.int p2), .val (.int p3), .val (.int p4), .val (.int (Int32.ofNat k1)), .val (.int (Int32.ofNat kv1.1)), .unset, .unset, .unset, .unset, .unset, .unset, .unset, .unset, .unset, .unset, .unset, .unset, .unset, .unset] [(.int (p2 &&& (255 : Int32)))]))
    refine own_ofc (fun tt_ => XS.i2c X1.here hx rfl (hb hby at_27) rfl) ?_
    show own_gc p e below s _ _ _ _ _ (T1.setTop (mkF m 28 #[.val (.int p1), .val (.int p2), .val (.int p3), .val (.int p4), .val (.int (Int32.ofNat k1)), .val (.int (Int32.ofNat kv1.1)), .unset, .unset, .unset, .unset, .unset, .unset, .unset, .unset, .unset, .unset, .unset, .unset, .unset, .unset] [(.int ((p2 &&& (255 : Int32)).toUInt32.toUInt16.toUInt32.toInt32))]))
    obtain ⟨c0, hc0, ec0⟩ : ∃ z : Int32, own_ch z ∧ ((p2 &&& (255 : Int32)).toUInt32.toUInt16.toUInt32.toInt32) = z := ⟨_, own_c255 _, rfl⟩
    rw [ec0]
    show own_gc p e below s _ _ _ _ _ (T1.setTop (mkF m 28 #[.val (.int p1), .val (.int p2), .val (.int p3), .val (.int p4), .val (.int (Int32.ofNat k1)), .val (.int (Int32.ofNat kv1.1)), .unset, .unset, .unset, .unset, .unset, .unset, .unset, .unset, .unset, .unset, .unset, .unset, .unset, .unset] [(.int c0)]))
    refine own_ofc (fun tt_ => XS.istore X1.here hx rfl (hb hby at_28) rfl (l' := #[.val (.int p1), .val (.int p2), .val (.int p3), .val (.int p4), .val (.int (Int32.ofNat k1)), .val (.int (Int32.ofNat kv1.1)), .val (.int c0), .unset, .unset, .unset, .unset, .unset, .unset, .unset, .unset, .unset, .unset, .unset, .unset, .unset]) rfl) ?_
    show own_gc p e below s _ _ _ _ _ (T1.setTop (mkF m 30 #[.val (.int p1), .val (.int p2), .val (.int p3), .val (.int p4), .val (.int (Int32.ofNat k1)), .val (.int (Int32.ofNat kv1.1)), .val (.int c0), .unset, .unset, .unset, .unset, .unset, .unset, .unset, .unset, .unset, .unset, .unset, .unset, .unset] []))
    refine own_ofc (fun tt_ => XS.iloadN X1.here hx rfl (hb hby at_30) rfl) ?_
    show own_gc p e below s _ _ _ _ _ (T1.setTop (mkF m 31 #[.val (.int p1), .val (.int p2), .val (.int p3), .val (.int p4), .val (.int (Int32.ofNat k1)), .val (.int (Int32.ofNat kv1.1)), .val (.int c0), .unset, .unset, .unset, .unset, .unset, .unset, .unset, .unset, .unset, .unset, .unset, .unset, .unset] [(.int p2)]))
    refine own_ofc (fun tt_ => XS.bipush X1.here hx rfl (hb hby at_31)) ?_
    show own_gc p e below s _ _ _ _ _ (T1.setTop (mkF m 33 #[.val (.int p1), .val (.int p2), .val (.int p3), .val (.int p4), .val (.int (Int32.ofNat k1)), .val (.int (Int32.ofNat kv1.1)), .val (.int c0), .unset, .unset, .unset, .unset, .unset, .unset, .unset, .unset, .unset, .unset, .unset, .unset, .unset] [(.int (8 : Int32)), (.int p2)]))
    refine own_ofc (fun tt_ => XS.iushr X1.here hx rfl (hb hby at_33) rfl) ?_
    show own_gc p e below s _ _ _ _ _ (T1.setTop (mkF m 34 #[.val (.int p1), .val (.int p2), .val (.int p3), .val (.int p4), .val (.int (Int32.ofNat k1)), .val (.int (Int32.ofNat kv1.1)), .val (.int c0), .unset, .unset, .unset, .unset, .unset, .unset, .unset, .unset, .unset, .unset, .unset, .unset, .unset] [(.int ((p2.toUInt32 >>> ((8 : Int32) &&& 31).toUInt32).toInt32))]))
    refine own_ofc (fun tt_ => XS.sipush X1.here hx rfl (hb hby at_34)) ?_
    show own_gc p e below s _ _ _ _ _ (T1.setTop (mkF m 37 #[.val (.int p1), .val (.int p2), .val (.int p3), .val (.int p4), .val (.int (Int32.ofNat k1)), .val (.int (Int32.ofNat kv1.1)), .val (.int c0), .unset, .unset, .unset, .unset, .unset, .unset, .unset, .unset, .unset, .unset, .unset, .unset, .unset] [(.int (255 : Int32)), (.int ((p2.toUInt32 >>> ((8 : Int32) &&& 31).toUInt32).toInt32))]))
    refine own_ofc (fun tt_ => XS.iand X1.here hx rfl (hb hby at_37) rfl) ?_
    show own_gc p e below s _ _ _ _ _ (T1.setTop (mkF m 38 #[.val (.int p1), .val (.int p2), .val (.int p3), .val (.int p4), .val (.int (Int32.ofNat k1)), .val (.int (Int32.ofNat kv1.1)), .val (.int c0), .unset, .unset, .unset, .unset, .unset, .unset, .unset, .unset, .unset, .unset, .unset, .unset, .unset] [(.int (((p2.toUInt32 >>> ((8 : Int32) &&& 31).toUInt32).toInt32) &&& (255 : Int32)))]))
    refine own_ofc (fun tt_ => XS.i2c X1.here hx rfl (hb hby at_38) rfl) ?_
    show own_gc p e below s _ _ _ _ _ (T1.setTop (mkF m 39 #[.val (.int p1), .val (.int p2), .val (.int p3), .val (.int p4), .val (.int (Int32.ofNat k1)), .val (.int (Int32.ofNat kv1.1)), .val (.int c0), .unset, .unset, .unset, .unset, .unset, .unset, .unset, .unset, .unset, .unset, .unset, .unset, .unset] [(.int ((((p2.toUInt32 >>> ((8 : Int32) &&& 31).toUInt32).toInt32) &&& (255 : Int32)).toUInt32.toUInt16.toUInt32.toInt32))]))
    obtain ⟨c1, hc1, ec1⟩ : ∃ z : Int32, own_ch z ∧ ((((p2.toUInt32 >>> ((8 : Int32) &&& 31).toUInt32).toInt32) &&& (255 : Int32)).toUInt32.toUInt16.toUInt32.toInt32) = z := ⟨_, own_c255 _, rfl⟩
    rw [ec1]
    show own_gc p e below s _ _ _ _ _ (T1.setTop (mkF m 39 #[.val (.int p1), .val (.int p2), .val (.int p3), .val (.int p4), .val (.int (Int32.ofNat k1)), .val (.int (Int32.ofNat kv1.1)), .val (.int c0), .unset, .unset, .unset, .unset, .unset, .unset, .unset, .unset, .unset, .unset, .unset, .unset, .unset] [(.int c1)]))
    refine own_ofc (fun tt_ => XS.istore X1.here hx rfl (hb hby at_39) rfl (l' := #[.val (.int p1), .val (.int p2), .val (.int p3), .val (.int p4), .val (.int (Int32.ofNat k1)), .val (.int (Int32.ofNat kv1.1)), .val (.int c0), .val (.int c1), .unset, .unset, .unset, .unset, .unset, .unset, .unset, .unset, .unset, .unset, .unset, .unset]) rfl) ?_
    show own_gc p e below s _ _ _ _ _ (T1.setTop (mkF m 41 #[.val (.int p1), .val (.int p2), .val (.int p3), .val (.int p4), .val (.int (Int32.ofNat k1)), .val (.int (Int32.ofNat kv1.1)), .val (.int c0), .val (.int c1), .unset, .unset, .unset, .unset, .unset, .unset, .unset, .unset, .unset, .unset, .unset, .unset] []))
    refine own_ofc (fun tt_ => XS.iloadN X1.here hx rfl (hb hby at_41) rfl) ?_
    show own_gc p e below s _ _ _ _ _ (T1.setTop (mkF m 42 #[.val (.int p1), .val (.int p2), .val (.int p3), .val (.int p4), .val (.int (Int32.ofNat k1)), .val (.int (Int32.ofNat kv1.1)), .val (.int c0), .val (.int c1), .unset, .unset, .unset, .unset, .unset, .unset, .unset, .unset, .unset, .unset, .unset, .unset] [(.int p2)]))
    refine own_ofc (fun tt_ => XS.bipush X1.here hx rfl (hb hby at_42)) ?_
    show own_gc p e below s _ _ _ _ _ (T1.setTop (mkF m 44 #[.val (.int p1), .val (.int p2), .val (.int p3), .val (.int p4), .val (.int (Int32.ofNat k1)), .val (.int (Int32.ofNat kv1.1)), .val (.int c0), .val (.int c1), .unset, .unset, .unset, .unset, .unset, .unset, .unset, .unset, .unset, .unset, .unset, .unset] [(.int (16 : Int32)), (.int p2)]))
    refine own_ofc (fun tt_ => XS.iushr X1.here hx rfl (hb hby at_44) rfl) ?_
    show own_gc p e below s _ _ _ _ _ (T1.setTop (mkF m 45 #[.val (.int p1), .val (.int p2), .val (.int p3), .val (.int p4), .val (.int (Int32.ofNat k1)), .val (.int (Int32.ofNat kv1.1)), .val (.int c0), .val (.int c1), .unset, .unset, .unset, .unset, .unset, .unset, .unset, .unset, .unset, .unset, .unset, .unset] [(.int ((p2.toUInt32 >>> ((16 : Int32) &&& 31).toUInt32).toInt32))]))
    refine own_ofc (fun tt_ => XS.sipush X1.here hx rfl (hb hby at_45)) ?_
    show own_gc p e below s _ _ _ _ _ (T1.setTop (mkF m 48 #[.val (.int p1), .val (.int p2), .val (.int p3), .val (.int p4), .val (.int (Int32.ofNat k1)), .val (.int (Int32.ofNat kv1.1)), .val (.int c0), .val (.int c1), .unset, .unset, .unset, .unset, .unset, .unset, .unset, .unset, .unset, .unset, .unset, .unset] [(.int (255 : Int32)), (.int ((p2.toUInt32 >>> ((16 : Int32) &&& 31).toUInt32).toInt32))]))
    refine own_ofc (fun tt_ => XS.iand X1.here hx rfl (hb hby at_48) rfl) ?_
    show own_gc p e below s _ _ _ _ _ (T1.setTop (mkF m 49 #[.val (.int p1), .val (.int p2), .val (.int p3), .val (.int p4), .val (.int (Int32.ofNat k1)), .val (.int (Int32.ofNat kv1.1)), .val (.int c0), .val (.int c1), .unset, .unset, .unset, .unset, .unset, .unset, .unset, .unset, .unset, .unset, .unset, .unset] [(.int (((p2.toUInt32 >>> ((16 : Int32) &&& 31).toUInt32).toInt32) &&& (255 : Int32)))]))
    refine own_ofc (fun tt_ => XS.i2c X1.here hx rfl (hb hby at_49) rfl) ?_
    show own_gc p e below s _ _ _ _ _ (T1.setTop (mkF m 50 #[.val (.int p1), .val (.int p2), .val (.int p3), .val (.int p4), .val (.int (Int32.ofNat k1)), .val (.int (Int32.ofNat kv1.1)), .val (.int c0), .val (.int c1), .unset, .unset, .unset, .unset, .unset, .unset, .unset, .unset, .unset, .unset, .unset, .unset] [(.int ((((p2.toUInt32 >>> ((16 : Int32) &&& 31).toUInt32).toInt32) &&& (255 : Int32)).toUInt32.toUInt16.toUInt32.toInt32))]))
    obtain ⟨c2, hc2, ec2⟩ : ∃ z : Int32, own_ch z ∧ ((((p2.toUInt32 >>> ((16 : Int32) &&& 31).toUInt32).toInt32) &&& (255 : Int32)).toUInt32.toUInt16.toUInt32.toInt32) = z := ⟨_, own_c255 _, rfl⟩
    rw [ec2]
    show own_gc p e below s _ _ _ _ _ (T1.setTop (mkF m 50 #[.val (.int p1), .val (.int p2), .val (.int p3), .val (.int p4), .val (.int (Int32.ofNat k1)), .val (.int (Int32.ofNat kv1.1)), .val (.int c0), .val (.int c1), .unset, .unset, .unset, .unset, .unset, .unset, .unset, .unset, .unset, .unset, .unset, .unset] [(.int c2)]))
    refine own_ofc (fun tt_ => XS.istore X1.here hx rfl (hb hby at_50) rfl (l' := #[.val (.int p1), .val (.int p2), .val (.int p3), .val (.int p4), .val (.int (Int32.ofNat k1)), .val (.int (Int32.ofNat kv1.1)), .val (.int c0), .val (.int c1), .val (.int c2), .unset, .unset, .unset, .unset, .unset, .unset, .unset, .unset, .unset, .unset, .unset]) rfl) ?_
    show own_gc p e below s _ _ _ _ _ (T1.setTop (mkF m 52 #[.val (.int p1), .val (.int p2), .val (.int p3), .val (.int p4), .val (.int (Int32.ofNat k1)), .val (.int (Int32.ofNat kv1.1)), .val (.int c0), .val (.int c1), .val (.int c2), .unset, .unset, .unset, .unset, .unset, .unset, .unset, .unset, .unset, .unset, .unset] []))
    refine own_ofc (fun tt_ => XS.iloadN X1.here hx rfl (hb hby at_52) rfl) ?_
    show own_gc p e below s _ _ _ _ _ (T1.setTop (mkF m 53 #[.val (.int p1), .val (.int p2), .val (.int p3), .val (.int p4), .val (.int (Int32.ofNat k1)), .val (.int (Int32.ofNat kv1.1)), .val (.int c0), .val (.int c1), .val (.int c2), .unset, .unset, .unset, .unset, .unset, .unset, .unset, .unset, .unset, .unset, .unset] [(.int p3)]))
    refine own_ofc (fun tt_ => XS.iconst X1.here hx rfl (hb hby at_53)) ?_
    show own_gc p e below s _ _ _ _ _ (T1.setTop (mkF m 54 #[.val (.int p1), .val (.int p2), .val (.int p3), .val (.int p4), .val (.int (Int32.ofNat k1)), .val (.int (Int32.ofNat kv1.1)), .val (.int c0), .val (.int c1), .val (.int c2), .unset, .unset, .unset, .unset, .unset, .unset, .unset, .unset, .unset, .unset, .unset] [(.int (1 : Int32)), (.int p3)]))
    refine own_ofc (fun tt_ => XS.iand X1.here hx rfl (hb hby at_54) rfl) ?_
    show own_gc p e below s _ _ _ _ _ (T1.setTop (mkF m 55 #[.val (.int p1), .val (.int p2), .val (.int p3), .val (.int p4), .val (.int (Int32.ofNat k1)), .val (.int (Int32.ofNat kv1.1)), .val (.int c0), .val (.int c1), .val (.int c2), .unset, .unset, .unset, .unset, .unset, .unset, .unset, .unset, .unset, .unset, .unset] [(.int (p3 &&& (1 : Int32)))]))
    refine own_use X1 (h := h0) (g := fun t2 : {z : Int32 // own_ch z} => (mkF m 72 #[.val (.int p1), .val (.int p2), .val (.int p3), .val (.int p4), .val (.int (Int32.ofNat k1)), .val (.int (Int32.ofNat kv1.1)), .val (.int c0), .val (.int c1), .val (.int c2), .unset, .unset, .unset, .unset, .unset, .unset, .unset, .unset, .unset, .unset, .unset] [(.int t2.1)])) (G := own_gc p e below s _ _ _ _ _) ?_ ?_
    · intro t2 T2 X2 e2
      show own_gc p e below s _ _ _ _ _ (T2.setTop (mkF m 72 #[.val (.int p1), .val (.int p2), .val (.int p3), .val (.int p4), .val (.int (Int32.ofNat k1)), .val (.int (Int32.ofNat kv1.1)), .val (.int c0), .val (.int c1), .val (.int c2), .unset, .unset, .unset, .unset, .unset, .unset, .unset, .unset, .unset, .unset, .unset] [(.int t2.1)]))
      refine own_ofc (fun tt_ => XS.istore X2.here hx rfl (hb hby at_72) rfl (l' := #[.val (.int p1), .val (.int p2), .val (.int p3), .val (.int p4), .val (.int (Int32.ofNat k1)), .val (.int (Int32.ofNat kv1.1)), .val (.int c0), .val (.int c1), .val (.int c2), .val (.int t2.1), .unset, .unset, .unset, .unset, .unset, .unset, .unset, .unset, .unset, .unset]) rfl) ?_
      show own_gc p e below s _ _ _ _ _ (T2.setTop (mkF m 74 #[.val (.int p1), .val (.int p2), .val (.int p3), .val (.int p4), .val (.int (Int32.ofNat k1)), .val (.int (Int32.ofNat kv1.1)), .val (.int c0), .val (.int c1), .val (.int c2), .val (.int t2.1), .unset, .unset, .unset, .unset, .unset, .unset, .unset, .unset, .unset, .unset] []))
      refine own_ofc (fun tt_ => XS.iloadN X2.here hx rfl (hb hby at_74) rfl) ?_
      show own_gc p e below s _ _ _ _ _ (T2.setTop (mkF m 75 #[.val (.int p1), .val (.int p2), .val (.int p3), .val (.int p4), .val (.int (Int32.ofNat k1)), .val (.int (Int32.ofNat kv1.1)), .val (.int c0), .val (.int c1), .val (.int c2), .val (.int t2.1), .unset, .unset, .unset, .unset, .unset, .unset, .unset, .unset, .unset, .unset] [(.int p3)]))
      refine own_ofc (fun tt_ => XS.iconst X2.here hx rfl (hb hby at_75)) ?_
      show own_gc p e below s _ _ _ _ _ (T2.setTop (mkF m 76 #[.val (.int p1), .val (.int p2), .val (.int p3), .val (.int p4), .val (.int (Int32.ofNat k1)), .val (.int (Int32.ofNat kv1.1)), .val (.int c0), .val (.int c1), .val (.int c2), .val (.int t2.1), .unset, .unset, .unset, .unset, .unset, .unset, .unset, .unset, .unset, .unset] [(.int (2 : Int32)), (.int p3)]))
      refine own_ofc (fun tt_ => XS.iand X2.here hx rfl (hb hby at_76) rfl) ?_
      show own_gc p e below s _ _ _ _ _ (T2.setTop (mkF m 77 #[.val (.int p1), .val (.int p2), .val (.int p3), .val (.int p4), .val (.int (Int32.ofNat k1)), .val (.int (Int32.ofNat kv1.1)), .val (.int c0), .val (.int c1), .val (.int c2), .val (.int t2.1), .unset, .unset, .unset, .unset, .unset, .unset, .unset, .unset, .unset, .unset] [(.int (p3 &&& (2 : Int32)))]))
      refine own_use X2 (h := h0) (g := fun t3 : {z : Int32 // own_ch z} => (mkF m 94 #[.val (.int p1), .val (.int p2), .val (.int p3), .val (.int p4), .val (.int (Int32.ofNat k1)), .val (.int (Int32.ofNat kv1.1)), .val (.int c0), .val (.int c1), .val (.int c2), .val (.int t2.1), .unset, .unset, .unset, .unset, .unset, .unset, .unset, .unset, .unset, .unset] [(.int t3.1)])) (G := own_gc p e below s _ _ _ _ _) ?_ ?_
      · intro t3 T3 X3 e3
        show own_gc p e below s _ _ _ _ _ (T3.setTop (mkF m 94 #[.val (.int p1), .val (.int p2), .val (.int p3), .val (.int p4), .val (.int (Int32.ofNat k1)), .val (.int (Int32.ofNat kv1.1)), .val (.int c0), .val (.int c1), .val (.int c2), .val (.int t2.1), .unset, .unset, .unset, .unset, .unset, .unset, .unset, .unset, .unset, .unset] [(.int t3.1)]))
        refine own_ofc (fun tt_ => XS.istore X3.here hx rfl (hb hby at_94) rfl (l' := #[.val (.int p1), .val (.int p2), .val (.int p3), .val (.int p4), .val (.int (Int32.ofNat k1)), .val (.int (Int32.ofNat kv1.1)), .val (.int c0), .val (.int c1), .val (.int c2), .val (.int t2.1), .val (.int t3.1), .unset, .unset, .unset, .unset, .unset, .unset, .unset, .unset, .unset]) rfl) ?_
        show own_gc p e below s _ _ _ _ _ (T3.setTop (mkF m 96 #[.val (.int p1), .val (.int p2), .val (.int p3), .val (.int p4), .val (.int (Int32.ofNat k1)), .val (.int (Int32.ofNat kv1.1)), .val (.int c0), .val (.int c1), .val (.int c2), .val (.int t2.1), .val (.int t3.1), .unset, .unset, .unset, .unset, .unset, .unset, .unset, .unset, .unset] []))
        refine own_ofc (fun tt_ => XS.iloadN X3.here hx rfl (hb hby at_96) rfl) ?_
        show own_gc p e below s _ _ _ _ _ (T3.setTop (mkF m 97 #[.val (.int p1), .val (.int p2), .val (.int p3), .val (.int p4), .val (.int (Int32.ofNat k1)), .val (.int (Int32.ofNat kv1.1)), .val (.int c0), .val (.int c1), .val (.int c2), .val (.int t2.1), .val (.int t3.1), .unset, .unset, .unset, .unset, .unset, .unset, .unset, .unset, .unset] [(.int p3)]))
        refine own_ofc (fun tt_ => XS.iconst X3.here hx rfl (hb hby at_97)) ?_
        show own_gc p e below s _ _ _ _ _ (T3.setTop (mkF m 98 #[.val (.int p1), .val (.int p2), .val (.int p3), .val (.int p4), .val (.int (Int32.ofNat k1)), .val (.int (Int32.ofNat kv1.1)), .val (.int c0), .val (.int c1), .val (.int c2), .val (.int t2.1), .val (.int t3.1), .unset, .unset, .unset, .unset, .unset, .unset, .unset, .unset, .unset] [(.int (4 : Int32)), (.int p3)]))
        refine own_ofc (fun tt_ => XS.iand X3.here hx rfl (hb hby at_98) rfl) ?_
        show own_gc p e below s _ _ _ _ _ (T3.setTop (mkF m 99 #[.val (.int p1), .val (.int p2), .val (.int p3), .val (.int p4), .val (.int (Int32.ofNat k1)), .val (.int (Int32.ofNat kv1.1)), .val (.int c0), .val (.int c1), .val (.int c2), .val (.int t2.1), .val (.int t3.1), .unset, .unset, .unset, .unset, .unset, .unset, .unset, .unset, .unset] [(.int (p3 &&& (4 : Int32)))]))
        refine own_use X3 (h := h0) (g := fun t4 : {z : Int32 // own_ch z} => (mkF m 116 #[.val (.int p1), .val (.int p2), .val (.int p3), .val (.int p4), .val (.int (Int32.ofNat k1)), .val (.int (Int32.ofNat kv1.1)), .val (.int c0), .val (.int c1), .val (.int c2), .val (.int t2.1), .val (.int t3.1), .unset, .unset, .unset, .unset, .unset, .unset, .unset, .unset, .unset] [(.int t4.1)])) (G := own_gc p e below s _ _ _ _ _) ?_ ?_
        · intro t4 T4 X4 e4
          show own_gc p e below s _ _ _ _ _ (T4.setTop (mkF m 116 #[.val (.int p1), .val (.int p2), .val (.int p3), .val (.int p4), .val (.int (Int32.ofNat k1)), .val (.int (Int32.ofNat kv1.1)), .val (.int c0), .val (.int c1), .val (.int c2), .val (.int t2.1), .val (.int t3.1), .unset, .unset, .unset, .unset, .unset, .unset, .unset, .unset, .unset] [(.int t4.1)]))
          refine own_ofc (fun tt_ => XS.istore X4.here hx rfl (hb hby at_116) rfl (l' := #[.val (.int p1), .val (.int p2), .val (.int p3), .val (.int p4), .val (.int (Int32.ofNat k1)), .val (.int (Int32.ofNat kv1.1)), .val (.int c0), .val (.int c1), .val (.int c2), .val (.int t2.1), .val (.int t3.1), .val (.int t4.1), .unset, .unset, .unset, .unset, .unset, .unset, .unset, .unset]) rfl) ?_
          show own_gc p e below s _ _ _ _ _ (T4.setTop (mkF m 118 #[.val (.int p1), .val (.int p2), .val (.int p3), .val (.int p4), .val (.int (Int32.ofNat k1)), .val (.int (Int32.ofNat kv1.1)), .val (.int c0), .val (.int c1), .val (.int c2), .val (.int t2.1), .val (.int t3.1), .val (.int t4.1), .unset, .unset, .unset, .unset, .unset, .unset, .unset, .unset] []))
          refine own_ofc (fun tt_ => XS.iloadN X4.here hx rfl (hb hby at_118) rfl) ?_
          show own_gc p e below s _ _ _ _ _ (T4.setTop (mkF m 119 #[.val (.int p1), .val (.int p2), .val (.int p3), .val (.int p4), .val (.int (Int32.ofNat k1)), .val (.int (Int32.ofNat kv1.1)), .val (.int c0), .val (.int c1), .val (.int c2), .val (.int t2.1), .val (.int t3.1), .val (.int t4.1), .unset, .unset, .unset, .unset, .unset, .unset, .unset, .unset] [(.int p4)]))
          refine own_ofc (fun tt_ => XS.iconst X4.here hx rfl (hb hby at_119)) ?_
          show own_gc p e below s _ _ _ _ _ (T4.setTop (mkF m 120 #[.val (.int p1), .val (.int p2), .val (.int p3), .val (.int p4), .val (.int (Int32.ofNat k1)), .val (.int (Int32.ofNat kv1.1)), .val (.int c0), .val (.int c1), .val (.int c2), .val (.int t2.1), .val (.int t3.1), .val (.int t4.1), .unset, .unset, .unset, .unset, .unset, .unset, .unset, .unset] [(.int (2 : Int32)), (.int p4)]))
          refine own_ofc (fun tt_ => XS.iand X4.here hx rfl (hb hby at_120) rfl) ?_
          show own_gc p e below s _ _ _ _ _ (T4.setTop (mkF m 121 #[.val (.int p1), .val (.int p2), .val (.int p3), .val (.int p4), .val (.int (Int32.ofNat k1)), .val (.int (Int32.ofNat kv1.1)), .val (.int c0), .val (.int c1), .val (.int c2), .val (.int t2.1), .val (.int t3.1), .val (.int t4.1), .unset, .unset, .unset, .unset, .unset, .unset, .unset, .unset] [(.int (p4 &&& (2 : Int32)))]))
          by_cases hb121_5 : (p4 &&& (2 : Int32)) = (0 : Int32)
          · refine own_ofc (fun tt_ => XS.ifYes X4.here hx rfl (pc0 := 121) (pc' := 128) rfl (hb hby at_121) rfl ((if0 _ _).trans (teq hb121_5).1) (by decide) (by decide)) ?_
            show own_gc p e below s _ _ _ _ _ (T4.setTop (mkF m 128 #[.val (.int p1), .val (.int p2), .val (.int p3), .val (.int p4), .val (.int (Int32.ofNat k1)), .val (.int (Int32.ofNat kv1.1)), .val (.int c0), .val (.int c1), .val (.int c2), .val (.int t2.1), .val (.int t3.1), .val (.int t4.1), .unset, .unset, .unset, .unset, .unset, .unset, .unset, .unset] []))
            refine own_ofc (fun tt_ => XS.iconst X4.here hx rfl (hb hby at_128)) ?_
            show own_gc p e below s _ _ _ _ _ (T4.setTop (mkF m 129 #[.val (.int p1), .val (.int p2), .val (.int p3), .val (.int p4), .val (.int (Int32.ofNat k1)), .val (.int (Int32.ofNat kv1.1)), .val (.int c0), .val (.int c1), .val (.int c2), .val (.int t2.1), .val (.int t3.1), .val (.int t4.1), .unset, .unset, .unset, .unset, .unset, .unset, .unset, .unset] [(.int (0 : Int32))]))
            refine own_ofc (fun tt_ => XS.istore X4.here hx rfl (hb hby at_129) rfl (l' := #[.val (.int p1), .val (.int p2), .val (.int p3), .val (.int p4), .val (.int (Int32.ofNat k1)), .val (.int (Int32.ofNat kv1.1)), .val (.int c0), .val (.int c1), .val (.int c2), .val (.int t2.1), .val (.int t3.1), .val (.int t4.1), .val (.int (0 : Int32)), .unset, .unset, .unset, .unset, .unset, .unset, .unset]) rfl) ?_
            show own_gc p e below s _ _ _ _ _ (T4.setTop (mkF m 131 #[.val (.int p1), .val (.int p2), .val (.int p3), .val (.int p4), .val (.int (Int32.ofNat k1)), .val (.int (Int32.ofNat kv1.1)), .val (.int c0), .val (.int c1), .val (.int c2), .val (.int t2.1), .val (.int t3.1), .val (.int t4.1), .val (.int (0 : Int32)), .unset, .unset, .unset, .unset, .unset, .unset, .unset] []))
            refine own_ofc (fun tt_ => XS.iloadN X4.here hx rfl (hb hby at_131) rfl) ?_
            show own_gc p e below s _ _ _ _ _ (T4.setTop (mkF m 132 #[.val (.int p1), .val (.int p2), .val (.int p3), .val (.int p4), .val (.int (Int32.ofNat k1)), .val (.int (Int32.ofNat kv1.1)), .val (.int c0), .val (.int c1), .val (.int c2), .val (.int t2.1), .val (.int t3.1), .val (.int t4.1), .val (.int (0 : Int32)), .unset, .unset, .unset, .unset, .unset, .unset, .unset] [(.int p4)]))
            refine own_ofc (fun tt_ => XS.iconst X4.here hx rfl (hb hby at_132)) ?_
            show own_gc p e below s _ _ _ _ _ (T4.setTop (mkF m 133 #[.val (.int p1), .val (.int p2), .val (.int p3), .val (.int p4), .val (.int (Int32.ofNat k1)), .val (.int (Int32.ofNat kv1.1)), .val (.int c0), .val (.int c1), .val (.int c2), .val (.int t2.1), .val (.int t3.1), .val (.int t4.1), .val (.int (0 : Int32)), .unset, .unset, .unset, .unset, .unset, .unset, .unset] [(.int (4 : Int32)), (.int p4)]))
            refine own_ofc (fun tt_ => XS.iand X4.here hx rfl (hb hby at_133) rfl) ?_
            show own_gc p e below s _ _ _ _ _ (T4.setTop (mkF m 134 #[.val (.int p1), .val (.int p2), .val (.int p3), .val (.int p4), .val (.int (Int32.ofNat k1)), .val (.int (Int32.ofNat kv1.1)), .val (.int c0), .val (.int c1), .val (.int c2), .val (.int t2.1), .val (.int t3.1), .val (.int t4.1), .val (.int (0 : Int32)), .unset, .unset, .unset, .unset, .unset, .unset, .unset] [(.int (p4 &&& (4 : Int32)))]))
            refine own_use X4 (h := h0) (g := fun z6 : Int32 => (mkF m 142 #[.val (.int p1), .val (.int p2), .val (.int p3), .val (.int p4), .val (.int (Int32.ofNat k1)), .val (.int (Int32.ofNat kv1.1)), .val (.int c0), .val (.int c1), .val (.int c2), .val (.int t2.1), .val (.int t3.1), .val (.int t4.1), .val (.int (0 : Int32)), .unset, .unset, .unset, .unset, .unset, .unset, .unset] [(.int z6)])) (G := own_gc p e below s _ _ _ _ _) ?_ ?_
            · intro z6 T6 X6 e6
              show own_gc p e below s _ _ _ _ _ (T6.setTop (mkF m 142 #[.val (.int p1), .val (.int p2), .val (.int p3), .val (.int p4), .val (.int (Int32.ofNat k1)), .val (.int (Int32.ofNat kv1.1)), .val (.int c0), .val (.int c1), .val (.int c2), .val (.int t2.1), .val (.int t3.1), .val (.int t4.1), .val (.int (0 : Int32)), .unset, .unset, .unset, .unset, .unset, .unset, .unset] [(.int z6)]))
              refine own_ofc (fun tt_ => XS.istore X6.here hx rfl (hb hby at_142) rfl (l' := #[.val (.int p1), .val (.int p2), .val (.int p3), .val (.int p4), .val (.int (Int32.ofNat k1)), .val (.int (Int32.ofNat kv1.1)), .val (.int c0), .val (.int c1), .val (.int c2), .val (.int t2.1), .val (.int t3.1), .val (.int t4.1), .val (.int (0 : Int32)), .val (.int z6), .unset, .unset, .unset, .unset, .unset, .unset]) rfl) ?_
              show own_gc p e below s _ _ _ _ _ (T6.setTop (mkF m 144 #[.val (.int p1), .val (.int p2), .val (.int p3), .val (.int p4), .val (.int (Int32.ofNat k1)), .val (.int (Int32.ofNat kv1.1)), .val (.int c0), .val (.int c1), .val (.int c2), .val (.int t2.1), .val (.int t3.1), .val (.int t4.1), .val (.int (0 : Int32)), .val (.int z6), .unset, .unset, .unset, .unset, .unset, .unset] []))
              refine own_ofc (fun tt_ => XS.iloadN X6.here hx rfl (hb hby at_144) rfl) ?_
              show own_gc p e below s _ _ _ _ _ (T6.setTop (mkF m 145 #[.val (.int p1), .val (.int p2), .val (.int p3), .val (.int p4), .val (.int (Int32.ofNat k1)), .val (.int (Int32.ofNat kv1.1)), .val (.int c0), .val (.int c1), .val (.int c2), .val (.int t2.1), .val (.int t3.1), .val (.int t4.1), .val (.int (0 : Int32)), .val (.int z6), .unset, .unset, .unset, .unset, .unset, .unset] [(.int p4)]))
              refine own_ofc (fun tt_ => XS.bipush X6.here hx rfl (hb hby at_145)) ?_
              show own_gc p e below s _ _ _ _ _ (T6.setTop (mkF m 147 #[.val (.int p1), .val (.int p2), .val (.int p3), .val (.int p4), .val (.int (Int32.ofNat k1)), .val (.int (Int32.ofNat kv1.1)), .val (.int c0), .val (.int c1), .val (.int c2), .val (.int t2.1), .val (.int t3.1), .val (.int t4.1), .val (.int (0 : Int32)), .val (.int z6), .unset, .unset, .unset, .unset, .unset, .unset] [(.int (8 : Int32)), (.int p4)]))
              refine own_ofc (fun tt_ => XS.iand X6.here hx rfl (hb hby at_147) rfl) ?_
              show own_gc p e below s _ _ _ _ _ (T6.setTop (mkF m 148 #[.val (.int p1), .val (.int p2), .val (.int p3), .val (.int p4), .val (.int (Int32.ofNat k1)), .val (.int (Int32.ofNat kv1.1)), .val (.int c0), .val (.int c1), .val (.int c2), .val (.int t2.1), .val (.int t3.1), .val (.int t4.1), .val (.int (0 : Int32)), .val (.int z6), .unset, .unset, .unset, .unset, .unset, .unset] [(.int (p4 &&& (8 : Int32)))]))
              refine own_use X6 (h := h0) (g := fun z7 : Int32 => (mkF m 156 #[.val (.int p1), .val (.int p2), .val (.int p3), .val (.int p4), .val (.int (Int32.ofNat k1)), .val (.int (Int32.ofNat kv1.1)), .val (.int c0), .val (.int c1), .val (.int c2), .val (.int t2.1), .val (.int t3.1), .val (.int t4.1), .val (.int (0 : Int32)), .val (.int z6), .unset, .unset, .unset, .unset, .unset, .unset] [(.int z7)])) (G := own_gc p e below s _ _ _ _ _) ?_ ?_
              · intro z7 T7 X7 e7
                show own_gc p e below s _ _ _ _ _ (T7.setTop (mkF m 156 #[.val (.int p1), .val (.int p2), .val (.int p3), .val (.int p4), .val (.int (Int32.ofNat k1)), .val (.int (Int32.ofNat kv1.1)), .val (.int c0), .val (.int c1), .val (.int c2), .val (.int t2.1), .val (.int t3.1), .val (.int t4.1), .val (.int (0 : Int32)), .val (.int z6), .unset, .unset, .unset, .unset, .unset, .unset] [(.int z7)]))
                refine own_ofc (fun tt_ => XS.istore X7.here hx rfl (hb hby at_156) rfl (l' := #[.val (.int p1), .val (.int p2), .val (.int p3), .val (.int p4), .val (.int (Int32.ofNat k1)), .val (.int (Int32.ofNat kv1.1)), .val (.int c0), .val (.int c1), .val (.int c2), .val (.int t2.1), .val (.int t3.1), .val (.int t4.1), .val (.int (0 : Int32)), .val (.int z6), .val (.int z7), .unset, .unset, .unset, .unset, .unset]) rfl) ?_
                show own_gc p e below s _ _ _ _ _ (T7.setTop (mkF m 158 #[.val (.int p1), .val (.int p2), .val (.int p3), .val (.int p4), .val (.int (Int32.ofNat k1)), .val (.int (Int32.ofNat kv1.1)), .val (.int c0), .val (.int c1), .val (.int c2), .val (.int t2.1), .val (.int t3.1), .val (.int t4.1), .val (.int (0 : Int32)), .val (.int z6), .val (.int z7), .unset, .unset, .unset, .unset, .unset] []))
                refine own_ofc (fun tt_ => XS.iloadN X7.here hx rfl (hb hby at_158) rfl) ?_
                show own_gc p e below s _ _ _ _ _ (T7.setTop (mkF m 159 #[.val (.int p1), .val (.int p2), .val (.int p3), .val (.int p4), .val (.int (Int32.ofNat k1)), .val (.int (Int32.ofNat kv1.1)), .val (.int c0), .val (.int c1), .val (.int c2), .val (.int t2.1), .val (.int t3.1), .val (.int t4.1), .val (.int (0 : Int32)), .val (.int z6), .val (.int z7), .unset, .unset, .unset, .unset, .unset] [(.int p4)]))
                refine own_ofc (fun tt_ => XS.bipush X7.here hx rfl (hb hby at_159)) ?_
                show own_gc p e below s _ _ _ _ _ (T7.setTop (mkF m 161 #[.val (.int p1), .val (.int p2), .val (.int p3), .val (.int p4), .val (.int (Int32.ofNat k1)), .val (.int (Int32.ofNat kv1.1)), .val (.int c0), .val (.int c1), .val (.int c2), .val (.int t2.1), .val (.int t3.1), .val (.int t4.1), .val (.int (0 : Int32)), .val (.int z6), .val (.int z7), .unset, .unset, .unset, .unset, .unset] [(.int (16 : Int32)), (.int p4)]))
                refine own_ofc (fun tt_ => XS.iand X7.here hx rfl (hb hby at_161) rfl) ?_
                show own_gc p e below s _ _ _ _ _ (T7.setTop (mkF m 162 #[.val (.int p1), .val (.int p2), .val (.int p3), .val (.int p4), .val (.int (Int32.ofNat k1)), .val (.int (Int32.ofNat kv1.1)), .val (.int c0), .val (.int c1), .val (.int c2), .val (.int t2.1), .val (.int t3.1), .val (.int t4.1), .val (.int (0 : Int32)), .val (.int z6), .val (.int z7), .unset, .unset, .unset, .unset, .unset] [(.int (p4 &&& (16 : Int32)))]))
                refine own_use X7 (h := h0) (g := fun z8 : Int32 => (mkF m 170 #[.val (.int p1), .val (.int p2), .val (.int p3), .val (.int p4), .val (.int (Int32.ofNat k1)), .val (.int (Int32.ofNat kv1.1)), .val (.int c0), .val (.int c1), .val (.int c2), .val (.int t2.1), .val (.int t3.1), .val (.int t4.1), .val (.int (0 : Int32)), .val (.int z6), .val (.int z7), .unset, .unset, .unset, .unset, .unset] [(.int z8)])) (G := own_gc p e below s _ _ _ _ _) ?_ ?_
                · intro z8 T8 X8 e8
                  show own_gc p e below s _ _ _ _ _ (T8.setTop (mkF m 170 #[.val (.int p1), .val (.int p2), .val (.int p3), .val (.int p4), .val (.int (Int32.ofNat k1)), .val (.int (Int32.ofNat kv1.1)), .val (.int c0), .val (.int c1), .val (.int c2), .val (.int t2.1), .val (.int t3.1), .val (.int t4.1), .val (.int (0 : Int32)), .val (.int z6), .val (.int z7), .unset, .unset, .unset, .unset, .unset] [(.int z8)]))
                  refine own_ofc (fun tt_ => XS.istore X8.here hx rfl (hb hby at_170) rfl (l' := #[.val (.int p1), .val (.int p2), .val (.int p3), .val (.int p4), .val (.int (Int32.ofNat k1)), .val (.int (Int32.ofNat kv1.1)), .val (.int c0), .val (.int c1), .val (.int c2), .val (.int t2.1), .val (.int t3.1), .val (.int t4.1), .val (.int (0 : Int32)), .val (.int z6), .val (.int z7), .val (.int z8), .unset, .unset, .unset, .unset]) rfl) ?_
                  show own_gc p e below s _ _ _ _ _ (T8.setTop (mkF m 172 #[.val (.int p1), .val (.int p2), .val (.int p3), .val (.int p4), .val (.int (Int32.ofNat k1)), .val (.int (Int32.ofNat kv1.1)), .val (.int c0), .val (.int c1), .val (.int c2), .val (.int t2.1), .val (.int t3.1), .val (.int t4.1), .val (.int (0 : Int32)), .val (.int z6), .val (.int z7), .val (.int z8), .unset, .unset, .unset, .unset] []))
                  refine own_ofc (fun tt_ => XS.iload X8.here hx rfl (hb hby at_172) rfl) ?_
                  show own_gc p e below s _ _ _ _ _ (T8.setTop (mkF m 174 #[.val (.int p1), .val (.int p2), .val (.int p3), .val (.int p4), .val (.int (Int32.ofNat k1)), .val (.int (Int32.ofNat kv1.1)), .val (.int c0), .val (.int c1), .val (.int c2), .val (.int t2.1), .val (.int t3.1), .val (.int t4.1), .val (.int (0 : Int32)), .val (.int z6), .val (.int z7), .val (.int z8), .unset, .unset, .unset, .unset] [(.int (Int32.ofNat k1))]))
                  refine own_ofc (fun tt_ => XS.iload X8.here hx rfl (hb hby at_174) rfl) ?_
                  show own_gc p e below s _ _ _ _ _ (T8.setTop (mkF m 176 #[.val (.int p1), .val (.int p2), .val (.int p3), .val (.int p4), .val (.int (Int32.ofNat k1)), .val (.int (Int32.ofNat kv1.1)), .val (.int c0), .val (.int c1), .val (.int c2), .val (.int t2.1), .val (.int t3.1), .val (.int t4.1), .val (.int (0 : Int32)), .val (.int z6), .val (.int z7), .val (.int z8), .unset, .unset, .unset, .unset] [(.int c0), (.int (Int32.ofNat k1))]))
                  refine own_ofc (fun tt_ => XS.iload X8.here hx rfl (hb hby at_176) rfl) ?_
                  show own_gc p e below s _ _ _ _ _ (T8.setTop (mkF m 178 #[.val (.int p1), .val (.int p2), .val (.int p3), .val (.int p4), .val (.int (Int32.ofNat k1)), .val (.int (Int32.ofNat kv1.1)), .val (.int c0), .val (.int c1), .val (.int c2), .val (.int t2.1), .val (.int t3.1), .val (.int t4.1), .val (.int (0 : Int32)), .val (.int z6), .val (.int z7), .val (.int z8), .unset, .unset, .unset, .unset] [(.int c1), (.int c0), (.int (Int32.ofNat k1))]))
                  refine own_ofc (fun tt_ => XS.iload X8.here hx rfl (hb hby at_178) rfl) ?_
                  show own_gc p e below s _ _ _ _ _ (T8.setTop (mkF m 180 #[.val (.int p1), .val (.int p2), .val (.int p3), .val (.int p4), .val (.int (Int32.ofNat k1)), .val (.int (Int32.ofNat kv1.1)), .val (.int c0), .val (.int c1), .val (.int c2), .val (.int t2.1), .val (.int t3.1), .val (.int t4.1), .val (.int (0 : Int32)), .val (.int z6), .val (.int z7), .val (.int z8), .unset, .unset, .unset, .unset] [(.int c2), (.int c1), (.int c0), (.int (Int32.ofNat k1))]))
                  obtain ⟨_, _, ⟨T9, L9, k9, n9⟩, -, Xr9, hSr9, hgr9, ⟨Lc9, hQ9, l9, y9, z9, CHs9⟩, st9⟩ := callSS X8 hx (y := (⟨"com/example/practory/practory/resource/ElementDefinitionsDefinesItsElementsPinLaw", "str", "(ICCC)Ljava/lang/String;"⟩ : MethodName)) hown (mvT hZ (hW 0 _ rfl)) (mvT hZ (hW 1 _ rfl)) (mvT hZ (hW 2 _ rfl)) (mvT hZ (hW 3 _ rfl)) (by decide) (backOfSH (W := 0) (rmS l Z a0 hw [] k1 c0 c1 c2 G1 h0 n0 hEL XO0 O2 P5 hc0 hc1 hc2 hk1) hZ (hW 3 _ rfl) (hW 2 _ rfl) (by decide) (by decide) hEL CH0.1) (g := (mkF m 180 #[.val (.int p1), .val (.int p2), .val (.int p3), .val (.int p4), .val (.int (Int32.ofNat k1)), .val (.int (Int32.ofNat kv1.1)), .val (.int c0), .val (.int c1), .val (.int c2), .val (.int t2.1), .val (.int t3.1), .val (.int t4.1), .val (.int (0 : Int32)), .val (.int z6), .val (.int z7), .val (.int z8), .unset, .unset, .unset, .unset] [(.int c2), (.int c1), (.int c0), (.int (Int32.ofNat k1))])) rfl (by rw [hml]; rfl) (argsL := [(.int (Int32.ofNat k1)), (.int c0), (.int c1), (.int c2)]) (rest := []) (lenOf pd_4 rfl) rfl (by show 2 * 0 + _ ≤ _; exact Nat.le_of_eq rfl) (hb hby at_180) (fun _ _ => ⟨rfl, e8, (by decide : 0 + 6 ≤ _), (by decide : 0 + 12 ≤ _)⟩)
                  dsimp only [Pt.U, Pt.locs, Pt.cells, Pt.slots] at Xr9 l9 y9 z9 st9 hQ9 hSr9 hgr9 CHs9
                  obtain ⟨X9, hS9, hZ9, hown9⟩ := rebS hS0 (by rw [e8]; omega : 0 ≤ T8.heap.size) Xr9 hSr9 hgr9 hZ hown
                  subst l9 y9 z9
                  obtain ⟨s9, rfl, Nq9, Kp9, gs9, Ss9⟩ := hQ9
                  have N9 := Fr.app N0 Nq9
                  refine own_ofc (fun tt_ kk_ => st9.trans kk_) ?_
                  have CH9 := CH0.trans CHs9
                  have sz9 : h0.size ≤ T9.heap.size := Kp9.1
                  have O9 : Old Z n0 T9.heap := XO0.keep Kp9 all0
                  have lts9 := own_lt Ss9.lt
                  show own_gc p e below s _ _ _ _ _ (T9.setTop (mkF m 183 #[.val (.int p1), .val (.int p2), .val (.int p3), .val (.int p4), .val (.int (Int32.ofNat k1)), .val (.int (Int32.ofNat kv1.1)), .val (.int c0), .val (.int c1), .val (.int c2), .val (.int t2.1), .val (.int t3.1), .val (.int t4.1), .val (.int (0 : Int32)), .val (.int z6), .val (.int z7), .val (.int z8), .unset, .unset, .unset, .unset] [(.ref s9)]))
                  refine own_ofc (fun tt_ => XS.astore X9.here hx rfl (hb hby at_183) rfl rfl (l' := #[.val (.int p1), .val (.int p2), .val (.int p3), .val (.int p4), .val (.int (Int32.ofNat k1)), .val (.int (Int32.ofNat kv1.1)), .val (.int c0), .val (.int c1), .val (.int c2), .val (.int t2.1), .val (.int t3.1), .val (.int t4.1), .val (.int (0 : Int32)), .val (.int z6), .val (.int z7), .val (.int z8), .val (.ref s9), .unset, .unset, .unset]) rfl) ?_
                  show own_gc p e below s _ _ _ _ _ (T9.setTop (mkF m 185 #[.val (.int p1), .val (.int p2), .val (.int p3), .val (.int p4), .val (.int (Int32.ofNat k1)), .val (.int (Int32.ofNat kv1.1)), .val (.int c0), .val (.int c1), .val (.int c2), .val (.int t2.1), .val (.int t3.1), .val (.int t4.1), .val (.int (0 : Int32)), .val (.int z6), .val (.int z7), .val (.int z8), .val (.ref s9), .unset, .unset, .unset] []))
                  refine own_ofc (fun tt_ => XS.iload X9.here hx rfl (hb hby at_185) rfl) ?_
                  show own_gc p e below s _ _ _ _ _ (T9.setTop (mkF m 187 #[.val (.int p1), .val (.int p2), .val (.int p3), .val (.int p4), .val (.int (Int32.ofNat k1)), .val (.int (Int32.ofNat kv1.1)), .val (.int c0), .val (.int c1), .val (.int c2), .val (.int t2.1), .val (.int t3.1), .val (.int t4.1), .val (.int (0 : Int32)), .val (.int z6), .val (.int z7), .val (.int z8), .val (.ref s9), .unset, .unset, .unset] [(.int (0 : Int32))]))
                  have hb187_10 : (0 : Int32) = (0 : Int32) := by decide
                  refine own_ofc (fun tt_ => XS.ifYes X9.here hx rfl (pc0 := 187) (pc' := 194) rfl (hb hby at_187) rfl ((if0 _ _).trans (teq hb187_10).1) (by decide) (by decide)) ?_
                  show own_gc p e below s _ _ _ _ _ (T9.setTop (mkF m 194 #[.val (.int p1), .val (.int p2), .val (.int p3), .val (.int p4), .val (.int (Int32.ofNat k1)), .val (.int (Int32.ofNat kv1.1)), .val (.int c0), .val (.int c1), .val (.int c2), .val (.int t2.1), .val (.int t3.1), .val (.int t4.1), .val (.int (0 : Int32)), .val (.int z6), .val (.int z7), .val (.int z8), .val (.ref s9), .unset, .unset, .unset] []))
                  refine own_ofc (fun tt_ => XS.iload X9.here hx rfl (hb hby at_194) rfl) ?_
                  show own_gc p e below s _ _ _ _ _ (T9.setTop (mkF m 196 #[.val (.int p1), .val (.int p2), .val (.int p3), .val (.int p4), .val (.int (Int32.ofNat k1)), .val (.int (Int32.ofNat kv1.1)), .val (.int c0), .val (.int c1), .val (.int c2), .val (.int t2.1), .val (.int t3.1), .val (.int t4.1), .val (.int (0 : Int32)), .val (.int z6), .val (.int z7), .val (.int z8), .val (.ref s9), .unset, .unset, .unset] [(.int (Int32.ofNat kv1.1))]))
                  refine own_ofc (fun tt_ => XS.iload X9.here hx rfl (hb hby at_196) rfl) ?_
                  show own_gc p e below s _ _ _ _ _ (T9.setTop (mkF m 198 #[.val (.int p1), .val (.int p2), .val (.int p3), .val (.int p4), .val (.int (Int32.ofNat k1)), .val (.int (Int32.ofNat kv1.1)), .val (.int c0), .val (.int c1), .val (.int c2), .val (.int t2.1), .val (.int t3.1), .val (.int t4.1), .val (.int (0 : Int32)), .val (.int z6), .val (.int z7), .val (.int z8), .val (.ref s9), .unset, .unset, .unset] [(.int t2.1), (.int (Int32.ofNat kv1.1))]))
                  refine own_ofc (fun tt_ => XS.iload X9.here hx rfl (hb hby at_198) rfl) ?_
                  show own_gc p e below s _ _ _ _ _ (T9.setTop (mkF m 200 #[.val (.int p1), .val (.int p2), .val (.int p3), .val (.int p4), .val (.int (Int32.ofNat k1)), .val (.int (Int32.ofNat kv1.1)), .val (.int c0), .val (.int c1), .val (.int c2), .val (.int t2.1), .val (.int t3.1), .val (.int t4.1), .val (.int (0 : Int32)), .val (.int z6), .val (.int z7), .val (.int z8), .val (.ref s9), .unset, .unset, .unset] [(.int t3.1), (.int t2.1), (.int (Int32.ofNat kv1.1))]))
                  refine own_ofc (fun tt_ => XS.iload X9.here hx rfl (hb hby at_200) rfl) ?_
                  show own_gc p e below s _ _ _ _ _ (T9.setTop (mkF m 202 #[.val (.int p1), .val (.int p2), .val (.int p3), .val (.int p4), .val (.int (Int32.ofNat k1)), .val (.int (Int32.ofNat kv1.1)), .val (.int c0), .val (.int c1), .val (.int c2), .val (.int t2.1), .val (.int t3.1), .val (.int t4.1), .val (.int (0 : Int32)), .val (.int z6), .val (.int z7), .val (.int z8), .val (.ref s9), .unset, .unset, .unset] [(.int t4.1), (.int t3.1), (.int t2.1), (.int (Int32.ofNat kv1.1))]))
                  obtain ⟨_, _, ⟨T11, L11, k11, n11⟩, -, Xr11, hSr11, hgr11, ⟨Lc11, hQ11, l11, y11, z11, CHs11⟩, st11⟩ := callSS X9 hx (y := (⟨"com/example/practory/practory/resource/ElementDefinitionsDefinesItsElementsPinLaw", "str", "(ICCC)Ljava/lang/String;"⟩ : MethodName)) hown9 (mvT hZ9 (hW 0 _ rfl)) (mvT hZ9 (hW 1 _ rfl)) (mvT hZ9 (hW 2 _ rfl)) (mvT hZ9 (hW 3 _ rfl)) (by decide) (backOfSH (W := 0) (rmS l Z a0 hw [] (kv1.1) t2.1 t3.1 t4.1 G1 T9.heap n0 hEL O9 O2 P5 t2.2 t3.2 t4.2 kv1.2) hZ9 (hW 3 _ rfl) (hW 2 _ rfl) (by decide) (by decide) hEL CH9.1) (g := (mkF m 202 #[.val (.int p1), .val (.int p2), .val (.int p3), .val (.int p4), .val (.int (Int32.ofNat k1)), .val (.int (Int32.ofNat kv1.1)), .val (.int c0), .val (.int c1), .val (.int c2), .val (.int t2.1), .val (.int t3.1), .val (.int t4.1), .val (.int (0 : Int32)), .val (.int z6), .val (.int z7), .val (.int z8), .val (.ref s9), .unset, .unset, .unset] [(.int t4.1), (.int t3.1), (.int t2.1), (.int (Int32.ofNat kv1.1))])) rfl (by rw [hml]; rfl) (argsL := [(.int (Int32.ofNat kv1.1)), (.int t2.1), (.int t3.1), (.int t4.1)]) (rest := []) (lenOf pd_4 rfl) rfl (by show 2 * 0 + _ ≤ _; exact Nat.le_of_eq rfl) (hb hby at_202) (fun _ _ => ⟨rfl, rfl, (by decide : 6 + 6 ≤ _), (by decide : 12 + 12 ≤ _)⟩)
                  dsimp only [Pt.U, Pt.locs, Pt.cells, Pt.slots] at Xr11 l11 y11 z11 st11 hQ11 hSr11 hgr11 CHs11
                  obtain ⟨X11, hS11, hZ11, hown11⟩ := rebS hS9 (by omega : T9.heap.size ≤ T9.heap.size) Xr11 hSr11 hgr11 hZ9 hown9
                  subst l11 y11 z11
                  obtain ⟨s11, rfl, Nq11, Kp11, gs11, Ss11⟩ := hQ11
                  have N11 := Fr.app N9 Nq11
                  refine own_ofc (fun tt_ kk_ => st11.trans kk_) ?_
                  have CH11 := CH9.trans CHs11
                  have sz11 : T9.heap.size ≤ T11.heap.size := Kp11.1
                  have O11 : Old Z n0 T11.heap := O9.keep Kp11 all0
                  have lts11 := own_lt Ss11.lt
                  show own_gc p e below s _ _ _ _ _ (T11.setTop (mkF m 205 #[.val (.int p1), .val (.int p2), .val (.int p3), .val (.int p4), .val (.int (Int32.ofNat k1)), .val (.int (Int32.ofNat kv1.1)), .val (.int c0), .val (.int c1), .val (.int c2), .val (.int t2.1), .val (.int t3.1), .val (.int t4.1), .val (.int (0 : Int32)), .val (.int z6), .val (.int z7), .val (.int z8), .val (.ref s9), .unset, .unset, .unset] [(.ref s11)]))
                  refine own_ofc (fun tt_ => XS.astore X11.here hx rfl (hb hby at_205) rfl rfl (l' := #[.val (.int p1), .val (.int p2), .val (.int p3), .val (.int p4), .val (.int (Int32.ofNat k1)), .val (.int (Int32.ofNat kv1.1)), .val (.int c0), .val (.int c1), .val (.int c2), .val (.int t2.1), .val (.int t3.1), .val (.int t4.1), .val (.int (0 : Int32)), .val (.int z6), .val (.int z7), .val (.int z8), .val (.ref s9), .val (.ref s11), .unset, .unset]) rfl) ?_
                  show own_gc p e below s _ _ _ _ _ (T11.setTop (mkF m 207 #[.val (.int p1), .val (.int p2), .val (.int p3), .val (.int p4), .val (.int (Int32.ofNat k1)), .val (.int (Int32.ofNat kv1.1)), .val (.int c0), .val (.int c1), .val (.int c2), .val (.int t2.1), .val (.int t3.1), .val (.int t4.1), .val (.int (0 : Int32)), .val (.int z6), .val (.int z7), .val (.int z8), .val (.ref s9), .val (.ref s11), .unset, .unset] []))
                  refine own_ofc (fun tt_ => XS.iload X11.here hx rfl (hb hby at_207) rfl) ?_
                  show own_gc p e below s _ _ _ _ _ (T11.setTop (mkF m 209 #[.val (.int p1), .val (.int p2), .val (.int p3), .val (.int p4), .val (.int (Int32.ofNat k1)), .val (.int (Int32.ofNat kv1.1)), .val (.int c0), .val (.int c1), .val (.int c2), .val (.int t2.1), .val (.int t3.1), .val (.int t4.1), .val (.int (0 : Int32)), .val (.int z6), .val (.int z7), .val (.int z8), .val (.ref s9), .val (.ref s11), .unset, .unset] [(.int (0 : Int32))]))
                  have hb209_12 : (0 : Int32) = (0 : Int32) := by decide
                  refine own_ofc (fun tt_ => XS.ifYes X11.here hx rfl (pc0 := 209) (pc' := 218) rfl (hb hby at_209) rfl ((if0 _ _).trans (teq hb209_12).1) (by decide) (by decide)) ?_
                  show own_gc p e below s _ _ _ _ _ (T11.setTop (mkF m 218 #[.val (.int p1), .val (.int p2), .val (.int p3), .val (.int p4), .val (.int (Int32.ofNat k1)), .val (.int (Int32.ofNat kv1.1)), .val (.int c0), .val (.int c1), .val (.int c2), .val (.int t2.1), .val (.int t3.1), .val (.int t4.1), .val (.int (0 : Int32)), .val (.int z6), .val (.int z7), .val (.int z8), .val (.ref s9), .val (.ref s11), .unset, .unset] []))
                  refine own_use X11 (h := T11.heap) (g := fun ex13 : {z : Int32 // (z = 1 ∧ ¬ own_cs k1 c0 c1 c2 = own_cs (kv1.1) t2.1 t3.1 t4.1) ∨ (z = 0 ∧ own_cs k1 c0 c1 c2 = own_cs (kv1.1) t2.1 t3.1 t4.1)} => (mkF m 276 #[.val (.int p1), .val (.int p2), .val (.int p3), .val (.int p4), .val (.int (Int32.ofNat k1)), .val (.int (Int32.ofNat kv1.1)), .val (.int c0), .val (.int c1), .val (.int c2), .val (.int t2.1), .val (.int t3.1), .val (.int t4.1), .val (.int (0 : Int32)), .val (.int z6), .val (.int z7), .val (.int z8), .val (.ref s9), .val (.ref s11), .val (.int ex13.1), .unset] [])) (G := own_gc p e below s _ _ _ _ _) ?_ ?_
                  · intro ex13 T13 X13 e13
                    show own_gc p e below s _ _ _ _ _ (T13.setTop (mkF m 276 #[.val (.int p1), .val (.int p2), .val (.int p3), .val (.int p4), .val (.int (Int32.ofNat k1)), .val (.int (Int32.ofNat kv1.1)), .val (.int c0), .val (.int c1), .val (.int c2), .val (.int t2.1), .val (.int t3.1), .val (.int t4.1), .val (.int (0 : Int32)), .val (.int z6), .val (.int z7), .val (.int z8), .val (.ref s9), .val (.ref s11), .val (.int ex13.1), .unset] []))
                    obtain ⟨T14, h14, X14, e14, E14, A14, D14, -, st14⟩ := newO X13 hx hZ11 hown11 (hW 26 _ rfl) (hW 27 _ rfl) (hW 28 _ rfl) e13 (g := (mkF m 276 #[.val (.int p1), .val (.int p2), .val (.int p3), .val (.int p4), .val (.int (Int32.ofNat k1)), .val (.int (Int32.ofNat kv1.1)), .val (.int c0), .val (.int c1), .val (.int c2), .val (.int t2.1), .val (.int t3.1), .val (.int t4.1), .val (.int (0 : Int32)), .val (.int z6), .val (.int z7), .val (.int z8), .val (.ref s9), .val (.ref s11), .val (.int ex13.1), .unset] [])) rfl (hb hby at_276) (by decide) (by decide)
                    obtain ⟨b14, g14⟩ : ∃ z, z = T11.heap.size := ⟨_, rfl⟩
                    rw [← g14] at A14 D14 st14
                    refine own_ofc st14 ?_
                    have lt14 := own_lt A14.lt
                    have sz14 : T11.heap.size ≤ h14.size := E14.1
                    have O14 : Old Z n0 h14 := O11.ext E14
                    have z14 : n0 ≤ b14 := by have := O11.1 ▸ O11.2.1; omega
                    have CHs14 := CHr.ext E14 CH11.1
                    have Sf14 := Safe.ext E14 CH11.1 (Safe.new (Nat.le_of_eq g14.symm))
                    have CH14 := CH11.trans CHs14
                    have F14_type : Fld Z h14 b14 "com/example/practory/practory/resource/ElementDefinitions$Element" "type" "Ljava/lang/String;" .null := D14 (Or.inr (hW 39 _ rfl)) (ty := (.object "java/lang/String")) pf_2
                    have F14_primitive : Fld Z h14 b14 "com/example/practory/practory/resource/ElementDefinitions$Element" "primitive" "Z" (.int (0 : Int32)) := D14 (Or.inr (hW 41 _ rfl)) (ty := .boolean) pf_3
                    have F14_children : Fld Z h14 b14 "com/example/practory/practory/resource/ElementDefinitions$Element" "children" "Ljava/lang/String;" .null := D14 (Or.inr (hW 43 _ rfl)) (ty := (.object "java/lang/String")) pf_2
                    have F14_summary : Fld Z h14 b14 "com/example/practory/practory/resource/ElementDefinitions$Element" "summary" "Z" (.int (0 : Int32)) := D14 (Or.inr (hW 45 _ rfl)) (ty := .boolean) pf_3
                    have F14_required : Fld Z h14 b14 "com/example/practory/practory/resource/ElementDefinitions$Element" "required" "Z" (.int (0 : Int32)) := D14 (Or.inr (hW 47 _ rfl)) (ty := .boolean) pf_3
                    show own_gc p e below s _ _ _ _ _ (T14.setTop (mkF m 279 #[.val (.int p1), .val (.int p2), .val (.int p3), .val (.int p4), .val (.int (Int32.ofNat k1)), .val (.int (Int32.ofNat kv1.1)), .val (.int c0), .val (.int c1), .val (.int c2), .val (.int t2.1), .val (.int t3.1), .val (.int t4.1), .val (.int (0 : Int32)), .val (.int z6), .val (.int z7), .val (.int z8), .val (.ref s9), .val (.ref s11), .val (.int ex13.1), .unset] [(.ref b14)]))
                    refine own_ofc (fun tt_ => XS.dup X14.here hx rfl (hb hby at_279) rfl rfl) ?_
                    show own_gc p e below s _ _ _ _ _ (T14.setTop (mkF m 280 #[.val (.int p1), .val (.int p2), .val (.int p3), .val (.int p4), .val (.int (Int32.ofNat k1)), .val (.int (Int32.ofNat kv1.1)), .val (.int c0), .val (.int c1), .val (.int c2), .val (.int t2.1), .val (.int t3.1), .val (.int t4.1), .val (.int (0 : Int32)), .val (.int z6), .val (.int z7), .val (.int z8), .val (.ref s9), .val (.ref s11), .val (.int ex13.1), .unset] [(.ref b14), (.ref b14)]))
                    refine own_ofc (fun tt_ => XS.aload X14.here hx rfl (hb hby at_280) rfl rfl) ?_
                    show own_gc p e below s _ _ _ _ _ (T14.setTop (mkF m 282 #[.val (.int p1), .val (.int p2), .val (.int p3), .val (.int p4), .val (.int (Int32.ofNat k1)), .val (.int (Int32.ofNat kv1.1)), .val (.int c0), .val (.int c1), .val (.int c2), .val (.int t2.1), .val (.int t3.1), .val (.int t4.1), .val (.int (0 : Int32)), .val (.int z6), .val (.int z7), .val (.int z8), .val (.ref s9), .val (.ref s11), .val (.int ex13.1), .unset] [(.ref s11), (.ref b14), (.ref b14)]))
                    refine own_ofc (fun tt_ => XS.iload X14.here hx rfl (hb hby at_282) rfl) ?_
                    show own_gc p e below s _ _ _ _ _ (T14.setTop (mkF m 284 #[.val (.int p1), .val (.int p2), .val (.int p3), .val (.int p4), .val (.int (Int32.ofNat k1)), .val (.int (Int32.ofNat kv1.1)), .val (.int c0), .val (.int c1), .val (.int c2), .val (.int t2.1), .val (.int t3.1), .val (.int t4.1), .val (.int (0 : Int32)), .val (.int z6), .val (.int z7), .val (.int z8), .val (.ref s9), .val (.ref s11), .val (.int ex13.1), .unset] [(.int z6), (.ref s11), (.ref b14), (.ref b14)]))
                    refine own_ofc (fun tt_ => XS.aload X14.here hx rfl (hb hby at_284) rfl rfl) ?_
                    show own_gc p e below s _ _ _ _ _ (T14.setTop (mkF m 286 #[.val (.int p1), .val (.int p2), .val (.int p3), .val (.int p4), .val (.int (Int32.ofNat k1)), .val (.int (Int32.ofNat kv1.1)), .val (.int c0), .val (.int c1), .val (.int c2), .val (.int t2.1), .val (.int t3.1), .val (.int t4.1), .val (.int (0 : Int32)), .val (.int z6), .val (.int z7), .val (.int z8), .val (.ref s9), .val (.ref s11), .val (.int ex13.1), .unset] [(.ref s9), (.int z6), (.ref s11), (.ref b14), (.ref b14)]))
                    refine own_ofc (fun tt_ => XS.iload X14.here hx rfl (hb hby at_286) rfl) ?_
                    show own_gc p e below s _ _ _ _ _ (T14.setTop (mkF m 288 #[.val (.int p1), .val (.int p2), .val (.int p3), .val (.int p4), .val (.int (Int32.ofNat k1)), .val (.int (Int32.ofNat kv1.1)), .val (.int c0), .val (.int c1), .val (.int c2), .val (.int t2.1), .val (.int t3.1), .val (.int t4.1), .val (.int (0 : Int32)), .val (.int z6), .val (.int z7), .val (.int z8), .val (.ref s9), .val (.ref s11), .val (.int ex13.1), .unset] [(.int z7), (.ref s9), (.int z6), (.ref s11), (.ref b14), (.ref b14)]))
                    refine own_ofc (fun tt_ => XS.iload X14.here hx rfl (hb hby at_288) rfl) ?_
                    show own_gc p e below s _ _ _ _ _ (T14.setTop (mkF m 290 #[.val (.int p1), .val (.int p2), .val (.int p3), .val (.int p4), .val (.int (Int32.ofNat k1)), .val (.int (Int32.ofNat kv1.1)), .val (.int c0), .val (.int c1), .val (.int c2), .val (.int t2.1), .val (.int t3.1), .val (.int t4.1), .val (.int (0 : Int32)), .val (.int z6), .val (.int z7), .val (.int z8), .val (.ref s9), .val (.ref s11), .val (.int ex13.1), .unset] [(.int z8), (.int z7), (.ref s9), (.int z6), (.ref s11), (.ref b14), (.ref b14)]))
                    obtain ⟨_, _, ⟨T15, L15, k15, n15⟩, -, X15, ⟨Lc15, hQ15, l15, y15, z15⟩, st15⟩ := X14.specialBack hx (y := (⟨"com/example/practory/practory/resource/ElementDefinitions$Element", "<init>", "(Ljava/lang/String;ZLjava/lang/String;ZZ)V"⟩ : MethodName)) rfl hown11 (mvT hZ11 (hW 29 _ rfl)) (mvT hZ11 (hW 30 _ rfl)) (mvT hZ11 (hW 31 _ rfl)) (by decide) (backOf (W := 1) (rmE_r l Z a0 hw [] b14 s11 z6 s9 z7 z8 h14 n0 O14 (by omega) A14 F14_type F14_primitive F14_children F14_summary F14_required) hZ11 (hW 31 _ rfl) (hW 28 _ rfl) (by decide) (by decide)) (g := (mkF m 290 #[.val (.int p1), .val (.int p2), .val (.int p3), .val (.int p4), .val (.int (Int32.ofNat k1)), .val (.int (Int32.ofNat kv1.1)), .val (.int c0), .val (.int c1), .val (.int c2), .val (.int t2.1), .val (.int t3.1), .val (.int t4.1), .val (.int (0 : Int32)), .val (.int z6), .val (.int z7), .val (.int z8), .val (.ref s9), .val (.ref s11), .val (.int ex13.1), .unset] [(.int z8), (.int z7), (.ref s9), (.int z6), (.ref s11), (.ref b14), (.ref b14)])) rfl (by rw [hml]; rfl) (Steps.refl _) (a := b14) (argsL := [(.ref s11), (.int z6), (.ref s9), (.int z7), (.int z8)]) (rest := [(.ref b14)]) (lenOf pd_5 rfl) rfl (by show 2 * 0 + _ ≤ _; exact Nat.le_of_eq rfl) (hb hby at_290) (fun _ _ => ⟨rfl, e14, (by decide : 13 + 0 ≤ _), (by decide : 29 + 0 ≤ _)⟩)
                    dsimp only [Pt.U, Pt.locs, Pt.cells, Pt.slots] at X15 l15 y15 z15 st15 hQ15
                    subst l15 y15 z15
                    obtain ⟨rfl, Nq15, Kp15, Ft15, Fc15⟩ := hQ15
                    have N15 := Fr.app N11 Nq15
                    refine own_ofc (fun tt_ kk_ => st15.trans kk_) ?_
                    have CHs15 := CHr.keep Kp15 (allS Sf14 all0) CH14.1
                    have CH15 := CH14.trans CHs15
                    have sz15 : h14.size ≤ T15.heap.size := Kp15.1
                    have O15 : Old Z n0 T15.heap := O14.keep Kp15 (allS (by omega) all0)
                    show own_gc p e below s _ _ _ _ _ (T15.setTop (mkF m 293 #[.val (.int p1), .val (.int p2), .val (.int p3), .val (.int p4), .val (.int (Int32.ofNat k1)), .val (.int (Int32.ofNat kv1.1)), .val (.int c0), .val (.int c1), .val (.int c2), .val (.int t2.1), .val (.int t3.1), .val (.int t4.1), .val (.int (0 : Int32)), .val (.int z6), .val (.int z7), .val (.int z8), .val (.ref s9), .val (.ref s11), .val (.int ex13.1), .unset] [(.ref b14)]))
                    refine own_ofc (fun tt_ => XS.astore X15.here hx rfl (hb hby at_293) rfl rfl (l' := #[.val (.int p1), .val (.int p2), .val (.int p3), .val (.int p4), .val (.int (Int32.ofNat k1)), .val (.int (Int32.ofNat kv1.1)), .val (.int c0), .val (.int c1), .val (.int c2), .val (.int t2.1), .val (.int t3.1), .val (.int t4.1), .val (.int (0 : Int32)), .val (.int z6), .val (.int z7), .val (.int z8), .val (.ref s9), .val (.ref s11), .val (.int ex13.1), .val (.ref b14)]) rfl) ?_
                    show own_gc p e below s _ _ _ _ _ (T15.setTop (mkF m 295 #[.val (.int p1), .val (.int p2), .val (.int p3), .val (.int p4), .val (.int (Int32.ofNat k1)), .val (.int (Int32.ofNat kv1.1)), .val (.int c0), .val (.int c1), .val (.int c2), .val (.int t2.1), .val (.int t3.1), .val (.int t4.1), .val (.int (0 : Int32)), .val (.int z6), .val (.int z7), .val (.int z8), .val (.ref s9), .val (.ref s11), .val (.int ex13.1), .val (.ref b14)] []))
                    refine own_ofc (fun tt_ => XS.aload X15.here hx rfl (hb hby at_295) rfl rfl) ?_
                    show own_gc p e below s _ _ _ _ _ (T15.setTop (mkF m 297 #[.val (.int p1), .val (.int p2), .val (.int p3), .val (.int p4), .val (.int (Int32.ofNat k1)), .val (.int (Int32.ofNat kv1.1)), .val (.int c0), .val (.int c1), .val (.int c2), .val (.int t2.1), .val (.int t3.1), .val (.int t4.1), .val (.int (0 : Int32)), .val (.int z6), .val (.int z7), .val (.int z8), .val (.ref s9), .val (.ref s11), .val (.int ex13.1), .val (.ref b14)] [(.ref b14)]))
                    have f16 : own_str Z T15.heap s9 (own_cs k1 c0 c1 c2) := (((Ss9.keep Kp11 nin0).ext E14).keep1 Kp15 (own_ne (by omega)) A14 (hW 27 _ rfl))
                    have f17 : own_str Z T15.heap s11 (own_cs kv1.1 t2.1 t3.1 t4.1) := ((Ss11.ext E14).keep1 Kp15 (own_ne (by omega)) A14 (hW 27 _ rfl))
                    have f19 : Exa Z T15.heap b14 "com/example/practory/practory/resource/ElementDefinitions$Element" := (A14.keep Kp15)
                    obtain ⟨cq18, kq18, q18a, q18b, q18c⟩ := isOf hZ11 rfl f19
                    obtain ⟨_, _, ⟨T18, L18, k18, n18⟩, -, X18, ⟨Lc18, hQ18, l18, y18, z18⟩, st18⟩ := X15.virtualBack hx (y := (⟨"com/example/practory/practory/resource/ElementDefinitions$Element", "definesItsElements", "()Z"⟩ : MethodName)) (z := (⟨"com/example/practory/practory/resource/ElementDefinitions$Element", "definesItsElements", "()Z"⟩ : MethodName)) hown11 (mvT hZ11 (hW 48 _ rfl)) (mvT hZ11 (hW 49 _ rfl)) (notFace_of_selects (args := #[]) (mvT hZ11 (hW 51 _ rfl))) (mvT hZ11 (hW 51 _ rfl)) (mvT hZ11 (hW 50 _ rfl)) (by decide) (backOf (W := 0) (rmD l Z a0 hw [] b14 s9 s11 (own_cs k1 c0 c1 c2) (own_cs kv1.1 t2.1 t3.1 t4.1) G1 T15.heap n0 O15 O2 P5 Fc15 Ft15 f16 f17 (own_cs_ok hc0 hc1 hc2) (own_cs_ok t2.2 t3.2 t4.2)) hZ11 (hW 52 _ rfl) (hW 28 _ rfl) (by decide) (by decide)) q18a q18c (g := (mkF m 297 #[.val (.int p1), .val (.int p2), .val (.int p3), .val (.int p4), .val (.int (Int32.ofNat k1)), .val (.int (Int32.ofNat kv1.1)), .val (.int c0), .val (.int c1), .val (.int c2), .val (.int t2.1), .val (.int t3.1), .val (.int t4.1), .val (.int (0 : Int32)), .val (.int z6), .val (.int z7), .val (.int z8), .val (.ref s9), .val (.ref s11), .val (.int ex13.1), .val (.ref b14)] [(.ref b14)])) rfl (by rw [hml]; rfl) (Steps.refl _) (argsL := []) (rest := []) (lenOf pd_6 rfl) rfl (by show 2 * 0 + _ ≤ _; exact Nat.le_of_eq rfl) (hb hby at_297) (fun _ _ => ⟨rfl, rfl, (by decide : 13 + 0 ≤ _), (by decide : 29 + 0 ≤ _)⟩)
                    dsimp only [Pt.U, Pt.locs, Pt.cells, Pt.slots] at X18 l18 y18 z18 st18 hQ18
                    subst l18 y18 z18
                    obtain ⟨rfl, Nq18, eh18⟩ := hQ18
                    have N18 := Fr.app N15 Nq18
                    refine own_ofc (fun tt_ kk_ => st18.trans kk_) ?_
                    show own_gc p e below s _ _ _ _ _ (T18.setTop (mkF m 300 #[.val (.int p1), .val (.int p2), .val (.int p3), .val (.int p4), .val (.int (Int32.ofNat k1)), .val (.int (Int32.ofNat kv1.1)), .val (.int c0), .val (.int c1), .val (.int c2), .val (.int t2.1), .val (.int t3.1), .val (.int t4.1), .val (.int (0 : Int32)), .val (.int z6), .val (.int z7), .val (.int z8), .val (.ref s9), .val (.ref s11), .val (.int ex13.1), .val (.ref b14)] [(.int (if (own_cs k1 c0 c1 c2) = (own_cs kv1.1 t2.1 t3.1 t4.1) then (0 : Int32) else 1))]))
                    refine own_ofc (fun tt_ => XS.iload X18.here hx rfl (hb hby at_300) rfl) ?_
                    show own_gc p e below s _ _ _ _ _ (T18.setTop (mkF m 302 #[.val (.int p1), .val (.int p2), .val (.int p3), .val (.int p4), .val (.int (Int32.ofNat k1)), .val (.int (Int32.ofNat kv1.1)), .val (.int c0), .val (.int c1), .val (.int c2), .val (.int t2.1), .val (.int t3.1), .val (.int t4.1), .val (.int (0 : Int32)), .val (.int z6), .val (.int z7), .val (.int z8), .val (.ref s9), .val (.ref s11), .val (.int ex13.1), .val (.ref b14)] [(.int ex13.1), (.int (if (own_cs k1 c0 c1 c2) = (own_cs kv1.1 t2.1 t3.1 t4.1) then (0 : Int32) else 1))]))
                    have hb302_20 : (if (own_cs k1 c0 c1 c2) = (own_cs kv1.1 t2.1 t3.1 t4.1) then (0 : Int32) else 1) = ex13.1 := ex13.2.elim (fun q => by rw [if_neg q.2]; exact q.1.symm) (fun q => by rw [if_pos q.2]; exact q.1.symm)
                    refine own_ofc (fun tt_ => XS.icmpNo X18.here hx rfl (hb hby at_302) rfl (teq hb302_20).2) ?_
                    show own_gc p e below s _ _ _ _ _ (T18.setTop (mkF m 305 #[.val (.int p1), .val (.int p2), .val (.int p3), .val (.int p4), .val (.int (Int32.ofNat k1)), .val (.int (Int32.ofNat kv1.1)), .val (.int c0), .val (.int c1), .val (.int c2), .val (.int t2.1), .val (.int t3.1), .val (.int t4.1), .val (.int (0 : Int32)), .val (.int z6), .val (.int z7), .val (.int z8), .val (.ref s9), .val (.ref s11), .val (.int ex13.1), .val (.ref b14)] []))
                    refine own_ofc (fun tt_ => XS.iconst X18.here hx rfl (hb hby at_305)) ?_
                    show own_gc p e below s _ _ _ _ _ (T18.setTop (mkF m 306 #[.val (.int p1), .val (.int p2), .val (.int p3), .val (.int p4), .val (.int (Int32.ofNat k1)), .val (.int (Int32.ofNat kv1.1)), .val (.int c0), .val (.int c1), .val (.int c2), .val (.int t2.1), .val (.int t3.1), .val (.int t4.1), .val (.int (0 : Int32)), .val (.int z6), .val (.int z7), .val (.int z8), .val (.ref s9), .val (.ref s11), .val (.int ex13.1), .val (.ref b14)] [(.int (1 : Int32))]))
                    refine own_ofc (fun tt_ => XS.goto X18.here hx rfl (pc0 := 306) (pc' := 310) rfl (hb hby at_306) (by decide) (by decide)) ?_
                    show own_gc p e below s _ _ _ _ _ (T18.setTop (mkF m 310 #[.val (.int p1), .val (.int p2), .val (.int p3), .val (.int p4), .val (.int (Int32.ofNat k1)), .val (.int (Int32.ofNat kv1.1)), .val (.int c0), .val (.int c1), .val (.int c2), .val (.int t2.1), .val (.int t3.1), .val (.int t4.1), .val (.int (0 : Int32)), .val (.int z6), .val (.int z7), .val (.int z8), .val (.ref s9), .val (.ref s11), .val (.int ex13.1), .val (.ref b14)] [(.int (1 : Int32))]))
                    refine own_retc X18 hx hlk hS11 (by rw [eh18]; omega : T11.heap.size ≤ T18.heap.size) hZ11 hEL (by rw [eh18]; exact CH15) Bd.returns rfl (Or.inl ⟨rfl, by simp, _, rfl⟩) (hb hby at_310) (by decide) (by decide) ?_
                    rw [eh18]
                    exact ⟨rfl, N18⟩
                  · intro j13
                    show own_gc p e below s _ _ _ _ _ (T11.setTop (mkF m 218 #[.val (.int p1), .val (.int p2), .val (.int p3), .val (.int p4), .val (.int (Int32.ofNat k1)), .val (.int (Int32.ofNat kv1.1)), .val (.int c0), .val (.int c1), .val (.int c2), .val (.int t2.1), .val (.int t3.1), .val (.int t4.1), .val (.int (0 : Int32)), .val (.int z6), .val (.int z7), .val (.int z8), .val (.ref s9), .val (.ref s11), .unset, .unset] []))
                    refine own_ofc (fun tt_ => XS.iload X11.here hx rfl (hb hby at_218) rfl) ?_
                    show own_gc p e below s _ _ _ _ _ (T11.setTop (mkF m 220 #[.val (.int p1), .val (.int p2), .val (.int p3), .val (.int p4), .val (.int (Int32.ofNat k1)), .val (.int (Int32.ofNat kv1.1)), .val (.int c0), .val (.int c1), .val (.int c2), .val (.int t2.1), .val (.int t3.1), .val (.int t4.1), .val (.int (0 : Int32)), .val (.int z6), .val (.int z7), .val (.int z8), .val (.ref s9), .val (.ref s11), .unset, .unset] [(.int (Int32.ofNat k1))]))
                    refine own_ofc (fun tt_ => XS.iload X11.here hx rfl (hb hby at_220) rfl) ?_
                    show own_gc p e below s _ _ _ _ _ (T11.setTop (mkF m 222 #[.val (.int p1), .val (.int p2), .val (.int p3), .val (.int p4), .val (.int (Int32.ofNat k1)), .val (.int (Int32.ofNat kv1.1)), .val (.int c0), .val (.int c1), .val (.int c2), .val (.int t2.1), .val (.int t3.1), .val (.int t4.1), .val (.int (0 : Int32)), .val (.int z6), .val (.int z7), .val (.int z8), .val (.ref s9), .val (.ref s11), .unset, .unset] [(.int (Int32.ofNat kv1.1)), (.int (Int32.ofNat k1))]))
                    by_cases hb222_21 : (Int32.ofNat k1) = (Int32.ofNat kv1.1)
                    · refine own_ofc (fun tt_ => XS.icmpYes X11.here hx rfl (pc0 := 222) (pc' := 231) rfl (hb hby at_222) rfl (teq hb222_21).1 (by decide) (by decide)) ?_
                      show own_gc p e below s _ _ _ _ _ (T11.setTop (mkF m 231 #[.val (.int p1), .val (.int p2), .val (.int p3), .val (.int p4), .val (.int (Int32.ofNat k1)), .val (.int (Int32.ofNat kv1.1)), .val (.int c0), .val (.int c1), .val (.int c2), .val (.int t2.1), .val (.int t3.1), .val (.int t4.1), .val (.int (0 : Int32)), .val (.int z6), .val (.int z7), .val (.int z8), .val (.ref s9), .val (.ref s11), .unset, .unset] []))
                      refine own_ofc (fun tt_ => XS.iload X11.here hx rfl (hb hby at_231) rfl) ?_
                      show own_gc p e below s _ _ _ _ _ (T11.setTop (mkF m 233 #[.val (.int p1), .val (.int p2), .val (.int p3), .val (.int p4), .val (.int (Int32.ofNat k1)), .val (.int (Int32.ofNat kv1.1)), .val (.int c0), .val (.int c1), .val (.int c2), .val (.int t2.1), .val (.int t3.1), .val (.int t4.1), .val (.int (0 : Int32)), .val (.int z6), .val (.int z7), .val (.int z8), .val (.ref s9), .val (.ref s11), .unset, .unset] [(.int (Int32.ofNat k1))]))
                      by_cases hb233_22 : (0 : Int32) < (Int32.ofNat k1)
                      · refine own_ofc (fun tt_ => XS.ifNo X11.here hx rfl (hb hby at_233) rfl ((if0 _ _).trans (tlt hb233_22).2.2.2)) ?_
                        show own_gc p e below s _ _ _ _ _ (T11.setTop (mkF m 236 #[.val (.int p1), .val (.int p2), .val (.int p3), .val (.int p4), .val (.int (Int32.ofNat k1)), .val (.int (Int32.ofNat kv1.1)), .val (.int c0), .val (.int c1), .val (.int c2), .val (.int t2.1), .val (.int t3.1), .val (.int t4.1), .val (.int (0 : Int32)), .val (.int z6), .val (.int z7), .val (.int z8), .val (.ref s9), .val (.ref s11), .unset, .unset] []))
                        refine own_ofc (fun tt_ => XS.iload X11.here hx rfl (hb hby at_236) rfl) ?_
                        show own_gc p e below s _ _ _ _ _ (T11.setTop (mkF m 238 #[.val (.int p1), .val (.int p2), .val (.int p3), .val (.int p4), .val (.int (Int32.ofNat k1)), .val (.int (Int32.ofNat kv1.1)), .val (.int c0), .val (.int c1), .val (.int c2), .val (.int t2.1), .val (.int t3.1), .val (.int t4.1), .val (.int (0 : Int32)), .val (.int z6), .val (.int z7), .val (.int z8), .val (.ref s9), .val (.ref s11), .unset, .unset] [(.int c0)]))
                        refine own_ofc (fun tt_ => XS.iload X11.here hx rfl (hb hby at_238) rfl) ?_
                        show own_gc p e below s _ _ _ _ _ (T11.setTop (mkF m 240 #[.val (.int p1), .val (.int p2), .val (.int p3), .val (.int p4), .val (.int (Int32.ofNat k1)), .val (.int (Int32.ofNat kv1.1)), .val (.int c0), .val (.int c1), .val (.int c2), .val (.int t2.1), .val (.int t3.1), .val (.int t4.1), .val (.int (0 : Int32)), .val (.int z6), .val (.int z7), .val (.int z8), .val (.ref s9), .val (.ref s11), .unset, .unset] [(.int t2.1), (.int c0)]))
                        by_cases hb240_23 : c0 = t2.1
                        · refine own_ofc (fun tt_ => XS.icmpNo X11.here hx rfl (hb hby at_240) rfl (teq hb240_23).2) ?_
                          show own_gc p e below s _ _ _ _ _ (T11.setTop (mkF m 243 #[.val (.int p1), .val (.int p2), .val (.int p3), .val (.int p4), .val (.int (Int32.ofNat k1)), .val (.int (Int32.ofNat kv1.1)), .val (.int c0), .val (.int c1), .val (.int c2), .val (.int t2.1), .val (.int t3.1), .val (.int t4.1), .val (.int (0 : Int32)), .val (.int z6), .val (.int z7), .val (.int z8), .val (.ref s9), .val (.ref s11), .unset, .unset] []))
                          refine own_ofc (fun tt_ => XS.iload X11.here hx rfl (hb hby at_243) rfl) ?_
                          show own_gc p e below s _ _ _ _ _ (T11.setTop (mkF m 245 #[.val (.int p1), .val (.int p2), .val (.int p3), .val (.int p4), .val (.int (Int32.ofNat k1)), .val (.int (Int32.ofNat kv1.1)), .val (.int c0), .val (.int c1), .val (.int c2), .val (.int t2.1), .val (.int t3.1), .val (.int t4.1), .val (.int (0 : Int32)), .val (.int z6), .val (.int z7), .val (.int z8), .val (.ref s9), .val (.ref s11), .unset, .unset] [(.int (Int32.ofNat k1))]))
                          refine own_ofc (fun tt_ => XS.iconst X11.here hx rfl (hb hby at_245)) ?_
                          show own_gc p e below s _ _ _ _ _ (T11.setTop (mkF m 246 #[.val (.int p1), .val (.int p2), .val (.int p3), .val (.int p4), .val (.int (Int32.ofNat k1)), .val (.int (Int32.ofNat kv1.1)), .val (.int c0), .val (.int c1), .val (.int c2), .val (.int t2.1), .val (.int t3.1), .val (.int t4.1), .val (.int (0 : Int32)), .val (.int z6), .val (.int z7), .val (.int z8), .val (.ref s9), .val (.ref s11), .unset, .unset] [(.int (1 : Int32)), (.int (Int32.ofNat k1))]))
                          by_cases hb246_24 : (1 : Int32) < (Int32.ofNat k1)
                          · refine own_ofc (fun tt_ => XS.icmpNo X11.here hx rfl (hb hby at_246) rfl (tlt hb246_24).2.2.2) ?_
                            show own_gc p e below s _ _ _ _ _ (T11.setTop (mkF m 249 #[.val (.int p1), .val (.int p2), .val (.int p3), .val (.int p4), .val (.int (Int32.ofNat k1)), .val (.int (Int32.ofNat kv1.1)), .val (.int c0), .val (.int c1), .val (.int c2), .val (.int t2.1), .val (.int t3.1), .val (.int t4.1), .val (.int (0 : Int32)), .val (.int z6), .val (.int z7), .val (.int z8), .val (.ref s9), .val (.ref s11), .unset, .unset] []))
                            refine own_ofc (fun tt_ => XS.iload X11.here hx rfl (hb hby at_249) rfl) ?_
                            show own_gc p e below s _ _ _ _ _ (T11.setTop (mkF m 251 #[.val (.int p1), .val (.int p2), .val (.int p3), .val (.int p4), .val (.int (Int32.ofNat k1)), .val (.int (Int32.ofNat kv1.1)), .val (.int c0), .val (.int c1), .val (.int c2), .val (.int t2.1), .val (.int t3.1), .val (.int t4.1), .val (.int (0 : Int32)), .val (.int z6), .val (.int z7), .val (.int z8), .val (.ref s9), .val (.ref s11), .unset, .unset] [(.int c1)]))
                            refine own_ofc (fun tt_ => XS.iload X11.here hx rfl (hb hby at_251) rfl) ?_
                            show own_gc p e below s _ _ _ _ _ (T11.setTop (mkF m 253 #[.val (.int p1), .val (.int p2), .val (.int p3), .val (.int p4), .val (.int (Int32.ofNat k1)), .val (.int (Int32.ofNat kv1.1)), .val (.int c0), .val (.int c1), .val (.int c2), .val (.int t2.1), .val (.int t3.1), .val (.int t4.1), .val (.int (0 : Int32)), .val (.int z6), .val (.int z7), .val (.int z8), .val (.ref s9), .val (.ref s11), .unset, .unset] [(.int t3.1), (.int c1)]))
                            by_cases hb253_25 : c1 = t3.1
                            · refine own_ofc (fun tt_ => XS.icmpNo X11.here hx rfl (hb hby at_253) rfl (teq hb253_25).2) ?_
                              show own_gc p e below s _ _ _ _ _ (T11.setTop (mkF m 256 #[.val (.int p1), .val (.int p2), .val (.int p3), .val (.int p4), .val (.int (Int32.ofNat k1)), .val (.int (Int32.ofNat kv1.1)), .val (.int c0), .val (.int c1), .val (.int c2), .val (.int t2.1), .val (.int t3.1), .val (.int t4.1), .val (.int (0 : Int32)), .val (.int z6), .val (.int z7), .val (.int z8), .val (.ref s9), .val (.ref s11), .unset, .unset] []))
                              refine own_ofc (fun tt_ => XS.iload X11.here hx rfl (hb hby at_256) rfl) ?_
                              show own_gc p e below s _ _ _ _ _ (T11.setTop (mkF m 258 #[.val (.int p1), .val (.int p2), .val (.int p3), .val (.int p4), .val (.int (Int32.ofNat k1)), .val (.int (Int32.ofNat kv1.1)), .val (.int c0), .val (.int c1), .val (.int c2), .val (.int t2.1), .val (.int t3.1), .val (.int t4.1), .val (.int (0 : Int32)), .val (.int z6), .val (.int z7), .val (.int z8), .val (.ref s9), .val (.ref s11), .unset, .unset] [(.int (Int32.ofNat k1))]))
                              refine own_ofc (fun tt_ => XS.iconst X11.here hx rfl (hb hby at_258)) ?_
                              show own_gc p e below s _ _ _ _ _ (T11.setTop (mkF m 259 #[.val (.int p1), .val (.int p2), .val (.int p3), .val (.int p4), .val (.int (Int32.ofNat k1)), .val (.int (Int32.ofNat kv1.1)), .val (.int c0), .val (.int c1), .val (.int c2), .val (.int t2.1), .val (.int t3.1), .val (.int t4.1), .val (.int (0 : Int32)), .val (.int z6), .val (.int z7), .val (.int z8), .val (.ref s9), .val (.ref s11), .unset, .unset] [(.int (2 : Int32)), (.int (Int32.ofNat k1))]))
                              by_cases hb259_26 : (2 : Int32) < (Int32.ofNat k1)
                              · refine own_ofc (fun tt_ => XS.icmpNo X11.here hx rfl (hb hby at_259) rfl (tlt hb259_26).2.2.2) ?_
                                show own_gc p e below s _ _ _ _ _ (T11.setTop (mkF m 262 #[.val (.int p1), .val (.int p2), .val (.int p3), .val (.int p4), .val (.int (Int32.ofNat k1)), .val (.int (Int32.ofNat kv1.1)), .val (.int c0), .val (.int c1), .val (.int c2), .val (.int t2.1), .val (.int t3.1), .val (.int t4.1), .val (.int (0 : Int32)), .val (.int z6), .val (.int z7), .val (.int z8), .val (.ref s9), .val (.ref s11), .unset, .unset] []))
                                refine own_ofc (fun tt_ => XS.iload X11.here hx rfl (hb hby at_262) rfl) ?_
                                show own_gc p e below s _ _ _ _ _ (T11.setTop (mkF m 264 #[.val (.int p1), .val (.int p2), .val (.int p3), .val (.int p4), .val (.int (Int32.ofNat k1)), .val (.int (Int32.ofNat kv1.1)), .val (.int c0), .val (.int c1), .val (.int c2), .val (.int t2.1), .val (.int t3.1), .val (.int t4.1), .val (.int (0 : Int32)), .val (.int z6), .val (.int z7), .val (.int z8), .val (.ref s9), .val (.ref s11), .unset, .unset] [(.int c2)]))
                                refine own_ofc (fun tt_ => XS.iload X11.here hx rfl (hb hby at_264) rfl) ?_
                                show own_gc p e below s _ _ _ _ _ (T11.setTop (mkF m 266 #[.val (.int p1), .val (.int p2), .val (.int p3), .val (.int p4), .val (.int (Int32.ofNat k1)), .val (.int (Int32.ofNat kv1.1)), .val (.int c0), .val (.int c1), .val (.int c2), .val (.int t2.1), .val (.int t3.1), .val (.int t4.1), .val (.int (0 : Int32)), .val (.int z6), .val (.int z7), .val (.int z8), .val (.ref s9), .val (.ref s11), .unset, .unset] [(.int t4.1), (.int c2)]))
                                by_cases hb266_27 : c2 = t4.1
                                · refine own_ofc (fun tt_ => XS.icmpYes X11.here hx rfl (pc0 := 266) (pc' := 273) rfl (hb hby at_266) rfl (teq hb266_27).1 (by decide) (by decide)) ?_
                                  show own_gc p e below s _ _ _ _ _ (T11.setTop (mkF m 273 #[.val (.int p1), .val (.int p2), .val (.int p3), .val (.int p4), .val (.int (Int32.ofNat k1)), .val (.int (Int32.ofNat kv1.1)), .val (.int c0), .val (.int c1), .val (.int c2), .val (.int t2.1), .val (.int t3.1), .val (.int t4.1), .val (.int (0 : Int32)), .val (.int z6), .val (.int z7), .val (.int z8), .val (.ref s9), .val (.ref s11), .unset, .unset] []))
                                  refine own_ofc (fun tt_ => XS.iconst X11.here hx rfl (hb hby at_273)) ?_
                                  show own_gc p e below s _ _ _ _ _ (T11.setTop (mkF m 274 #[.val (.int p1), .val (.int p2), .val (.int p3), .val (.int p4), .val (.int (Int32.ofNat k1)), .val (.int (Int32.ofNat kv1.1)), .val (.int c0), .val (.int c1), .val (.int c2), .val (.int t2.1), .val (.int t3.1), .val (.int t4.1), .val (.int (0 : Int32)), .val (.int z6), .val (.int z7), .val (.int z8), .val (.ref s9), .val (.ref s11), .unset, .unset] [(.int (0 : Int32))]))
                                  refine own_ofc (fun tt_ => XS.istore X11.here hx rfl (hb hby at_274) rfl (l' := #[.val (.int p1), .val (.int p2), .val (.int p3), .val (.int p4), .val (.int (Int32.ofNat k1)), .val (.int (Int32.ofNat kv1.1)), .val (.int c0), .val (.int c1), .val (.int c2), .val (.int t2.1), .val (.int t3.1), .val (.int t4.1), .val (.int (0 : Int32)), .val (.int z6), .val (.int z7), .val (.int z8), .val (.ref s9), .val (.ref s11), .val (.int (0 : Int32)), .unset]) rfl) ?_
                                  show own_gc p e below s _ _ _ _ _ (T11.setTop (mkF m 276 #[.val (.int p1), .val (.int p2), .val (.int p3), .val (.int p4), .val (.int (Int32.ofNat k1)), .val (.int (Int32.ofNat kv1.1)), .val (.int c0), .val (.int c1), .val (.int c2), .val (.int t2.1), .val (.int t3.1), .val (.int t4.1), .val (.int (0 : Int32)), .val (.int z6), .val (.int z7), .val (.int z8), .val (.ref s9), .val (.ref s11), .val (.int (0 : Int32)), .unset] []))
                                  exact j13 ⟨_, Or.inr ⟨rfl, by have q : k1 = kv1.1 := own_inj4 ⟨k1, hk1⟩ ⟨kv1.1, kv1.2⟩ hb222_21; rw [← q]; exact own_same hk1 (Or.inr hb240_23) (Or.inr hb253_25) (Or.inr hb266_27)⟩⟩ _ X11 rfl
                                · refine own_ofc (fun tt_ => XS.icmpNo X11.here hx rfl (hb hby at_266) rfl (feq hb266_27).1) ?_
                                  show own_gc p e below s _ _ _ _ _ (T11.setTop (mkF m 269 #[.val (.int p1), .val (.int p2), .val (.int p3), .val (.int p4), .val (.int (Int32.ofNat k1)), .val (.int (Int32.ofNat kv1.1)), .val (.int c0), .val (.int c1), .val (.int c2), .val (.int t2.1), .val (.int t3.1), .val (.int t4.1), .val (.int (0 : Int32)), .val (.int z6), .val (.int z7), .val (.int z8), .val (.ref s9), .val (.ref s11), .unset, .unset] []))
                                  refine own_ofc (fun tt_ => XS.iconst X11.here hx rfl (hb hby at_269)) ?_
                                  show own_gc p e below s _ _ _ _ _ (T11.setTop (mkF m 270 #[.val (.int p1), .val (.int p2), .val (.int p3), .val (.int p4), .val (.int (Int32.ofNat k1)), .val (.int (Int32.ofNat kv1.1)), .val (.int c0), .val (.int c1), .val (.int c2), .val (.int t2.1), .val (.int t3.1), .val (.int t4.1), .val (.int (0 : Int32)), .val (.int z6), .val (.int z7), .val (.int z8), .val (.ref s9), .val (.ref s11), .unset, .unset] [(.int (1 : Int32))]))
                                  refine own_ofc (fun tt_ => XS.goto X11.here hx rfl (pc0 := 270) (pc' := 274) rfl (hb hby at_270) (by decide) (by decide)) ?_
                                  show own_gc p e below s _ _ _ _ _ (T11.setTop (mkF m 274 #[.val (.int p1), .val (.int p2), .val (.int p3), .val (.int p4), .val (.int (Int32.ofNat k1)), .val (.int (Int32.ofNat kv1.1)), .val (.int c0), .val (.int c1), .val (.int c2), .val (.int t2.1), .val (.int t3.1), .val (.int t4.1), .val (.int (0 : Int32)), .val (.int z6), .val (.int z7), .val (.int z8), .val (.ref s9), .val (.ref s11), .unset, .unset] [(.int (1 : Int32))]))
                                  refine own_ofc (fun tt_ => XS.istore X11.here hx rfl (hb hby at_274) rfl (l' := #[.val (.int p1), .val (.int p2), .val (.int p3), .val (.int p4), .val (.int (Int32.ofNat k1)), .val (.int (Int32.ofNat kv1.1)), .val (.int c0), .val (.int c1), .val (.int c2), .val (.int t2.1), .val (.int t3.1), .val (.int t4.1), .val (.int (0 : Int32)), .val (.int z6), .val (.int z7), .val (.int z8), .val (.ref s9), .val (.ref s11), .val (.int (1 : Int32)), .unset]) rfl) ?_
                                  show own_gc p e below s _ _ _ _ _ (T11.setTop (mkF m 276 #[.val (.int p1), .val (.int p2), .val (.int p3), .val (.int p4), .val (.int (Int32.ofNat k1)), .val (.int (Int32.ofNat kv1.1)), .val (.int c0), .val (.int c1), .val (.int c2), .val (.int t2.1), .val (.int t3.1), .val (.int t4.1), .val (.int (0 : Int32)), .val (.int z6), .val (.int z7), .val (.int z8), .val (.ref s9), .val (.ref s11), .val (.int (1 : Int32)), .unset] []))
                                  exact j13 ⟨_, Or.inl ⟨rfl, by have q : k1 = kv1.1 := own_inj4 ⟨k1, hk1⟩ ⟨kv1.1, kv1.2⟩ hb222_21; rw [← q]; exact own_dif hk1 (Or.inr (Or.inr ⟨hb259_26, hb266_27⟩))⟩⟩ _ X11 rfl
                              · refine own_ofc (fun tt_ => XS.icmpYes X11.here hx rfl (pc0 := 259) (pc' := 273) rfl (hb hby at_259) rfl (flt hb259_26).2.2.2 (by decide) (by decide)) ?_
                                show own_gc p e below s _ _ _ _ _ (T11.setTop (mkF m 273 #[.val (.int p1), .val (.int p2), .val (.int p3), .val (.int p4), .val (.int (Int32.ofNat k1)), .val (.int (Int32.ofNat kv1.1)), .val (.int c0), .val (.int c1), .val (.int c2), .val (.int t2.1), .val (.int t3.1), .val (.int t4.1), .val (.int (0 : Int32)), .val (.int z6), .val (.int z7), .val (.int z8), .val (.ref s9), .val (.ref s11), .unset, .unset] []))
                                refine own_ofc (fun tt_ => XS.iconst X11.here hx rfl (hb hby at_273)) ?_
                                show own_gc p e below s _ _ _ _ _ (T11.setTop (mkF m 274 #[.val (.int p1), .val (.int p2), .val (.int p3), .val (.int p4), .val (.int (Int32.ofNat k1)), .val (.int (Int32.ofNat kv1.1)), .val (.int c0), .val (.int c1), .val (.int c2), .val (.int t2.1), .val (.int t3.1), .val (.int t4.1), .val (.int (0 : Int32)), .val (.int z6), .val (.int z7), .val (.int z8), .val (.ref s9), .val (.ref s11), .unset, .unset] [(.int (0 : Int32))]))
                                refine own_ofc (fun tt_ => XS.istore X11.here hx rfl (hb hby at_274) rfl (l' := #[.val (.int p1), .val (.int p2), .val (.int p3), .val (.int p4), .val (.int (Int32.ofNat k1)), .val (.int (Int32.ofNat kv1.1)), .val (.int c0), .val (.int c1), .val (.int c2), .val (.int t2.1), .val (.int t3.1), .val (.int t4.1), .val (.int (0 : Int32)), .val (.int z6), .val (.int z7), .val (.int z8), .val (.ref s9), .val (.ref s11), .val (.int (0 : Int32)), .unset]) rfl) ?_
                                show own_gc p e below s _ _ _ _ _ (T11.setTop (mkF m 276 #[.val (.int p1), .val (.int p2), .val (.int p3), .val (.int p4), .val (.int (Int32.ofNat k1)), .val (.int (Int32.ofNat kv1.1)), .val (.int c0), .val (.int c1), .val (.int c2), .val (.int t2.1), .val (.int t3.1), .val (.int t4.1), .val (.int (0 : Int32)), .val (.int z6), .val (.int z7), .val (.int z8), .val (.ref s9), .val (.ref s11), .val (.int (0 : Int32)), .unset] []))
                                exact j13 ⟨_, Or.inr ⟨rfl, by have q : k1 = kv1.1 := own_inj4 ⟨k1, hk1⟩ ⟨kv1.1, kv1.2⟩ hb222_21; rw [← q]; exact own_same hk1 (Or.inr hb240_23) (Or.inr hb253_25) (Or.inl hb259_26)⟩⟩ _ X11 rfl
                            · refine own_ofc (fun tt_ => XS.icmpYes X11.here hx rfl (pc0 := 253) (pc' := 269) rfl (hb hby at_253) rfl (feq hb253_25).2 (by decide) (by decide)) ?_
                              show own_gc p e below s _ _ _ _ _ (T11.setTop (mkF m 269 #[.val (.int p1), .val (.int p2), .val (.int p3), .val (.int p4), .val (.int (Int32.ofNat k1)), .val (.int (Int32.ofNat kv1.1)), .val (.int c0), .val (.int c1), .val (.int c2), .val (.int t2.1), .val (.int t3.1), .val (.int t4.1), .val (.int (0 : Int32)), .val (.int z6), .val (.int z7), .val (.int z8), .val (.ref s9), .val (.ref s11), .unset, .unset] []))
                              refine own_ofc (fun tt_ => XS.iconst X11.here hx rfl (hb hby at_269)) ?_
                              show own_gc p e below s _ _ _ _ _ (T11.setTop (mkF m 270 #[.val (.int p1), .val (.int p2), .val (.int p3), .val (.int p4), .val (.int (Int32.ofNat k1)), .val (.int (Int32.ofNat kv1.1)), .val (.int c0), .val (.int c1), .val (.int c2), .val (.int t2.1), .val (.int t3.1), .val (.int t4.1), .val (.int (0 : Int32)), .val (.int z6), .val (.int z7), .val (.int z8), .val (.ref s9), .val (.ref s11), .unset, .unset] [(.int (1 : Int32))]))
                              refine own_ofc (fun tt_ => XS.goto X11.here hx rfl (pc0 := 270) (pc' := 274) rfl (hb hby at_270) (by decide) (by decide)) ?_
                              show own_gc p e below s _ _ _ _ _ (T11.setTop (mkF m 274 #[.val (.int p1), .val (.int p2), .val (.int p3), .val (.int p4), .val (.int (Int32.ofNat k1)), .val (.int (Int32.ofNat kv1.1)), .val (.int c0), .val (.int c1), .val (.int c2), .val (.int t2.1), .val (.int t3.1), .val (.int t4.1), .val (.int (0 : Int32)), .val (.int z6), .val (.int z7), .val (.int z8), .val (.ref s9), .val (.ref s11), .unset, .unset] [(.int (1 : Int32))]))
                              refine own_ofc (fun tt_ => XS.istore X11.here hx rfl (hb hby at_274) rfl (l' := #[.val (.int p1), .val (.int p2), .val (.int p3), .val (.int p4), .val (.int (Int32.ofNat k1)), .val (.int (Int32.ofNat kv1.1)), .val (.int c0), .val (.int c1), .val (.int c2), .val (.int t2.1), .val (.int t3.1), .val (.int t4.1), .val (.int (0 : Int32)), .val (.int z6), .val (.int z7), .val (.int z8), .val (.ref s9), .val (.ref s11), .val (.int (1 : Int32)), .unset]) rfl) ?_
                              show own_gc p e below s _ _ _ _ _ (T11.setTop (mkF m 276 #[.val (.int p1), .val (.int p2), .val (.int p3), .val (.int p4), .val (.int (Int32.ofNat k1)), .val (.int (Int32.ofNat kv1.1)), .val (.int c0), .val (.int c1), .val (.int c2), .val (.int t2.1), .val (.int t3.1), .val (.int t4.1), .val (.int (0 : Int32)), .val (.int z6), .val (.int z7), .val (.int z8), .val (.ref s9), .val (.ref s11), .val (.int (1 : Int32)), .unset] []))
                              exact j13 ⟨_, Or.inl ⟨rfl, by have q : k1 = kv1.1 := own_inj4 ⟨k1, hk1⟩ ⟨kv1.1, kv1.2⟩ hb222_21; rw [← q]; exact own_dif hk1 (Or.inr (Or.inl ⟨hb246_24, hb253_25⟩))⟩⟩ _ X11 rfl
                          · refine own_ofc (fun tt_ => XS.icmpYes X11.here hx rfl (pc0 := 246) (pc' := 256) rfl (hb hby at_246) rfl (flt hb246_24).2.2.2 (by decide) (by decide)) ?_
                            show own_gc p e below s _ _ _ _ _ (T11.setTop (mkF m 256 #[.val (.int p1), .val (.int p2), .val (.int p3), .val (.int p4), .val (.int (Int32.ofNat k1)), .val (.int (Int32.ofNat kv1.1)), .val (.int c0), .val (.int c1), .val (.int c2), .val (.int t2.1), .val (.int t3.1), .val (.int t4.1), .val (.int (0 : Int32)), .val (.int z6), .val (.int z7), .val (.int z8), .val (.ref s9), .val (.ref s11), .unset, .unset] []))
                            refine own_ofc (fun tt_ => XS.iload X11.here hx rfl (hb hby at_256) rfl) ?_
                            show own_gc p e below s _ _ _ _ _ (T11.setTop (mkF m 258 #[.val (.int p1), .val (.int p2), .val (.int p3), .val (.int p4), .val (.int (Int32.ofNat k1)), .val (.int (Int32.ofNat kv1.1)), .val (.int c0), .val (.int c1), .val (.int c2), .val (.int t2.1), .val (.int t3.1), .val (.int t4.1), .val (.int (0 : Int32)), .val (.int z6), .val (.int z7), .val (.int z8), .val (.ref s9), .val (.ref s11), .unset, .unset] [(.int (Int32.ofNat k1))]))
                            refine own_ofc (fun tt_ => XS.iconst X11.here hx rfl (hb hby at_258)) ?_
                            show own_gc p e below s _ _ _ _ _ (T11.setTop (mkF m 259 #[.val (.int p1), .val (.int p2), .val (.int p3), .val (.int p4), .val (.int (Int32.ofNat k1)), .val (.int (Int32.ofNat kv1.1)), .val (.int c0), .val (.int c1), .val (.int c2), .val (.int t2.1), .val (.int t3.1), .val (.int t4.1), .val (.int (0 : Int32)), .val (.int z6), .val (.int z7), .val (.int z8), .val (.ref s9), .val (.ref s11), .unset, .unset] [(.int (2 : Int32)), (.int (Int32.ofNat k1))]))
                            by_cases hb259_28 : (2 : Int32) < (Int32.ofNat k1)
                            · refine own_ofc (fun tt_ => XS.icmpNo X11.here hx rfl (hb hby at_259) rfl (tlt hb259_28).2.2.2) ?_
                              show own_gc p e below s _ _ _ _ _ (T11.setTop (mkF m 262 #[.val (.int p1), .val (.int p2), .val (.int p3), .val (.int p4), .val (.int (Int32.ofNat k1)), .val (.int (Int32.ofNat kv1.1)), .val (.int c0), .val (.int c1), .val (.int c2), .val (.int t2.1), .val (.int t3.1), .val (.int t4.1), .val (.int (0 : Int32)), .val (.int z6), .val (.int z7), .val (.int z8), .val (.ref s9), .val (.ref s11), .unset, .unset] []))
                              refine own_ofc (fun tt_ => XS.iload X11.here hx rfl (hb hby at_262) rfl) ?_
                              show own_gc p e below s _ _ _ _ _ (T11.setTop (mkF m 264 #[.val (.int p1), .val (.int p2), .val (.int p3), .val (.int p4), .val (.int (Int32.ofNat k1)), .val (.int (Int32.ofNat kv1.1)), .val (.int c0), .val (.int c1), .val (.int c2), .val (.int t2.1), .val (.int t3.1), .val (.int t4.1), .val (.int (0 : Int32)), .val (.int z6), .val (.int z7), .val (.int z8), .val (.ref s9), .val (.ref s11), .unset, .unset] [(.int c2)]))
                              refine own_ofc (fun tt_ => XS.iload X11.here hx rfl (hb hby at_264) rfl) ?_
                              show own_gc p e below s _ _ _ _ _ (T11.setTop (mkF m 266 #[.val (.int p1), .val (.int p2), .val (.int p3), .val (.int p4), .val (.int (Int32.ofNat k1)), .val (.int (Int32.ofNat kv1.1)), .val (.int c0), .val (.int c1), .val (.int c2), .val (.int t2.1), .val (.int t3.1), .val (.int t4.1), .val (.int (0 : Int32)), .val (.int z6), .val (.int z7), .val (.int z8), .val (.ref s9), .val (.ref s11), .unset, .unset] [(.int t4.1), (.int c2)]))
                              by_cases hb266_29 : c2 = t4.1
                              · refine own_ofc (fun tt_ => XS.icmpYes X11.here hx rfl (pc0 := 266) (pc' := 273) rfl (hb hby at_266) rfl (teq hb266_29).1 (by decide) (by decide)) ?_
                                show own_gc p e below s _ _ _ _ _ (T11.setTop (mkF m 273 #[.val (.int p1), .val (.int p2), .val (.int p3), .val (.int p4), .val (.int (Int32.ofNat k1)), .val (.int (Int32.ofNat kv1.1)), .val (.int c0), .val (.int c1), .val (.int c2), .val (.int t2.1), .val (.int t3.1), .val (.int t4.1), .val (.int (0 : Int32)), .val (.int z6), .val (.int z7), .val (.int z8), .val (.ref s9), .val (.ref s11), .unset, .unset] []))
                                refine own_ofc (fun tt_ => XS.iconst X11.here hx rfl (hb hby at_273)) ?_
                                show own_gc p e below s _ _ _ _ _ (T11.setTop (mkF m 274 #[.val (.int p1), .val (.int p2), .val (.int p3), .val (.int p4), .val (.int (Int32.ofNat k1)), .val (.int (Int32.ofNat kv1.1)), .val (.int c0), .val (.int c1), .val (.int c2), .val (.int t2.1), .val (.int t3.1), .val (.int t4.1), .val (.int (0 : Int32)), .val (.int z6), .val (.int z7), .val (.int z8), .val (.ref s9), .val (.ref s11), .unset, .unset] [(.int (0 : Int32))]))
                                refine own_ofc (fun tt_ => XS.istore X11.here hx rfl (hb hby at_274) rfl (l' := #[.val (.int p1), .val (.int p2), .val (.int p3), .val (.int p4), .val (.int (Int32.ofNat k1)), .val (.int (Int32.ofNat kv1.1)), .val (.int c0), .val (.int c1), .val (.int c2), .val (.int t2.1), .val (.int t3.1), .val (.int t4.1), .val (.int (0 : Int32)), .val (.int z6), .val (.int z7), .val (.int z8), .val (.ref s9), .val (.ref s11), .val (.int (0 : Int32)), .unset]) rfl) ?_
                                show own_gc p e below s _ _ _ _ _ (T11.setTop (mkF m 276 #[.val (.int p1), .val (.int p2), .val (.int p3), .val (.int p4), .val (.int (Int32.ofNat k1)), .val (.int (Int32.ofNat kv1.1)), .val (.int c0), .val (.int c1), .val (.int c2), .val (.int t2.1), .val (.int t3.1), .val (.int t4.1), .val (.int (0 : Int32)), .val (.int z6), .val (.int z7), .val (.int z8), .val (.ref s9), .val (.ref s11), .val (.int (0 : Int32)), .unset] []))
                                exact j13 ⟨_, Or.inr ⟨rfl, by have q : k1 = kv1.1 := own_inj4 ⟨k1, hk1⟩ ⟨kv1.1, kv1.2⟩ hb222_21; rw [← q]; exact own_same hk1 (Or.inr hb240_23) (Or.inl hb246_24) (Or.inr hb266_29)⟩⟩ _ X11 rfl
                              · refine own_ofc (fun tt_ => XS.icmpNo X11.here hx rfl (hb hby at_266) rfl (feq hb266_29).1) ?_
                                show own_gc p e below s _ _ _ _ _ (T11.setTop (mkF m 269 #[.val (.int p1), .val (.int p2), .val (.int p3), .val (.int p4), .val (.int (Int32.ofNat k1)), .val (.int (Int32.ofNat kv1.1)), .val (.int c0), .val (.int c1), .val (.int c2), .val (.int t2.1), .val (.int t3.1), .val (.int t4.1), .val (.int (0 : Int32)), .val (.int z6), .val (.int z7), .val (.int z8), .val (.ref s9), .val (.ref s11), .unset, .unset] []))
                                refine own_ofc (fun tt_ => XS.iconst X11.here hx rfl (hb hby at_269)) ?_
                                show own_gc p e below s _ _ _ _ _ (T11.setTop (mkF m 270 #[.val (.int p1), .val (.int p2), .val (.int p3), .val (.int p4), .val (.int (Int32.ofNat k1)), .val (.int (Int32.ofNat kv1.1)), .val (.int c0), .val (.int c1), .val (.int c2), .val (.int t2.1), .val (.int t3.1), .val (.int t4.1), .val (.int (0 : Int32)), .val (.int z6), .val (.int z7), .val (.int z8), .val (.ref s9), .val (.ref s11), .unset, .unset] [(.int (1 : Int32))]))
                                refine own_ofc (fun tt_ => XS.goto X11.here hx rfl (pc0 := 270) (pc' := 274) rfl (hb hby at_270) (by decide) (by decide)) ?_
                                show own_gc p e below s _ _ _ _ _ (T11.setTop (mkF m 274 #[.val (.int p1), .val (.int p2), .val (.int p3), .val (.int p4), .val (.int (Int32.ofNat k1)), .val (.int (Int32.ofNat kv1.1)), .val (.int c0), .val (.int c1), .val (.int c2), .val (.int t2.1), .val (.int t3.1), .val (.int t4.1), .val (.int (0 : Int32)), .val (.int z6), .val (.int z7), .val (.int z8), .val (.ref s9), .val (.ref s11), .unset, .unset] [(.int (1 : Int32))]))
                                refine own_ofc (fun tt_ => XS.istore X11.here hx rfl (hb hby at_274) rfl (l' := #[.val (.int p1), .val (.int p2), .val (.int p3), .val (.int p4), .val (.int (Int32.ofNat k1)), .val (.int (Int32.ofNat kv1.1)), .val (.int c0), .val (.int c1), .val (.int c2), .val (.int t2.1), .val (.int t3.1), .val (.int t4.1), .val (.int (0 : Int32)), .val (.int z6), .val (.int z7), .val (.int z8), .val (.ref s9), .val (.ref s11), .val (.int (1 : Int32)), .unset]) rfl) ?_
                                show own_gc p e below s _ _ _ _ _ (T11.setTop (mkF m 276 #[.val (.int p1), .val (.int p2), .val (.int p3), .val (.int p4), .val (.int (Int32.ofNat k1)), .val (.int (Int32.ofNat kv1.1)), .val (.int c0), .val (.int c1), .val (.int c2), .val (.int t2.1), .val (.int t3.1), .val (.int t4.1), .val (.int (0 : Int32)), .val (.int z6), .val (.int z7), .val (.int z8), .val (.ref s9), .val (.ref s11), .val (.int (1 : Int32)), .unset] []))
                                exact j13 ⟨_, Or.inl ⟨rfl, by have q : k1 = kv1.1 := own_inj4 ⟨k1, hk1⟩ ⟨kv1.1, kv1.2⟩ hb222_21; rw [← q]; exact own_dif hk1 (Or.inr (Or.inr ⟨hb259_28, hb266_29⟩))⟩⟩ _ X11 rfl
                            · refine own_ofc (fun tt_ => XS.icmpYes X11.here hx rfl (pc0 := 259) (pc' := 273) rfl (hb hby at_259) rfl (flt hb259_28).2.2.2 (by decide) (by decide)) ?_
                              show own_gc p e below s _ _ _ _ _ (T11.setTop (mkF m 273 #[.val (.int p1), .val (.int p2), .val (.int p3), .val (.int p4), .val (.int (Int32.ofNat k1)), .val (.int (Int32.ofNat kv1.1)), .val (.int c0), .val (.int c1), .val (.int c2), .val (.int t2.1), .val (.int t3.1), .val (.int t4.1), .val (.int (0 : Int32)), .val (.int z6), .val (.int z7), .val (.int z8), .val (.ref s9), .val (.ref s11), .unset, .unset] []))
                              refine own_ofc (fun tt_ => XS.iconst X11.here hx rfl (hb hby at_273)) ?_
                              show own_gc p e below s _ _ _ _ _ (T11.setTop (mkF m 274 #[.val (.int p1), .val (.int p2), .val (.int p3), .val (.int p4), .val (.int (Int32.ofNat k1)), .val (.int (Int32.ofNat kv1.1)), .val (.int c0), .val (.int c1), .val (.int c2), .val (.int t2.1), .val (.int t3.1), .val (.int t4.1), .val (.int (0 : Int32)), .val (.int z6), .val (.int z7), .val (.int z8), .val (.ref s9), .val (.ref s11), .unset, .unset] [(.int (0 : Int32))]))
                              refine own_ofc (fun tt_ => XS.istore X11.here hx rfl (hb hby at_274) rfl (l' := #[.val (.int p1), .val (.int p2), .val (.int p3), .val (.int p4), .val (.int (Int32.ofNat k1)), .val (.int (Int32.ofNat kv1.1)), .val (.int c0), .val (.int c1), .val (.int c2), .val (.int t2.1), .val (.int t3.1), .val (.int t4.1), .val (.int (0 : Int32)), .val (.int z6), .val (.int z7), .val (.int z8), .val (.ref s9), .val (.ref s11), .val (.int (0 : Int32)), .unset]) rfl) ?_
                              show own_gc p e below s _ _ _ _ _ (T11.setTop (mkF m 276 #[.val (.int p1), .val (.int p2), .val (.int p3), .val (.int p4), .val (.int (Int32.ofNat k1)), .val (.int (Int32.ofNat kv1.1)), .val (.int c0), .val (.int c1), .val (.int c2), .val (.int t2.1), .val (.int t3.1), .val (.int t4.1), .val (.int (0 : Int32)), .val (.int z6), .val (.int z7), .val (.int z8), .val (.ref s9), .val (.ref s11), .val (.int (0 : Int32)), .unset] []))
                              exact j13 ⟨_, Or.inr ⟨rfl, by have q : k1 = kv1.1 := own_inj4 ⟨k1, hk1⟩ ⟨kv1.1, kv1.2⟩ hb222_21; rw [← q]; exact own_same hk1 (Or.inr hb240_23) (Or.inl hb246_24) (Or.inl hb259_28)⟩⟩ _ X11 rfl
                        · refine own_ofc (fun tt_ => XS.icmpYes X11.here hx rfl (pc0 := 240) (pc' := 269) rfl (hb hby at_240) rfl (feq hb240_23).2 (by decide) (by decide)) ?_
                          show own_gc p e below s _ _ _ _ _ (T11.setTop (mkF m 269 #[.val (.int p1), .val (.int p2), .val (.int p3), .val (.int p4), .val (.int (Int32.ofNat k1)), .val (.int (Int32.ofNat kv1.1)), .val (.int c0), .val (.int c1), .val (.int c2), .val (.int t2.1), .val (.int t3.1), .val (.int t4.1), .val (.int (0 : Int32)), .val (.int z6), .val (.int z7), .val (.int z8), .val (.ref s9), .val (.ref s11), .unset, .unset] []))
                          refine own_ofc (fun tt_ => XS.iconst X11.here hx rfl (hb hby at_269)) ?_
                          show own_gc p e below s _ _ _ _ _ (T11.setTop (mkF m 270 #[.val (.int p1), .val (.int p2), .val (.int p3), .val (.int p4), .val (.int (Int32.ofNat k1)), .val (.int (Int32.ofNat kv1.1)), .val (.int c0), .val (.int c1), .val (.int c2), .val (.int t2.1), .val (.int t3.1), .val (.int t4.1), .val (.int (0 : Int32)), .val (.int z6), .val (.int z7), .val (.int z8), .val (.ref s9), .val (.ref s11), .unset, .unset] [(.int (1 : Int32))]))
                          refine own_ofc (fun tt_ => XS.goto X11.here hx rfl (pc0 := 270) (pc' := 274) rfl (hb hby at_270) (by decide) (by decide)) ?_
                          show own_gc p e below s _ _ _ _ _ (T11.setTop (mkF m 274 #[.val (.int p1), .val (.int p2), .val (.int p3), .val (.int p4), .val (.int (Int32.ofNat k1)), .val (.int (Int32.ofNat kv1.1)), .val (.int c0), .val (.int c1), .val (.int c2), .val (.int t2.1), .val (.int t3.1), .val (.int t4.1), .val (.int (0 : Int32)), .val (.int z6), .val (.int z7), .val (.int z8), .val (.ref s9), .val (.ref s11), .unset, .unset] [(.int (1 : Int32))]))
                          refine own_ofc (fun tt_ => XS.istore X11.here hx rfl (hb hby at_274) rfl (l' := #[.val (.int p1), .val (.int p2), .val (.int p3), .val (.int p4), .val (.int (Int32.ofNat k1)), .val (.int (Int32.ofNat kv1.1)), .val (.int c0), .val (.int c1), .val (.int c2), .val (.int t2.1), .val (.int t3.1), .val (.int t4.1), .val (.int (0 : Int32)), .val (.int z6), .val (.int z7), .val (.int z8), .val (.ref s9), .val (.ref s11), .val (.int (1 : Int32)), .unset]) rfl) ?_
                          show own_gc p e below s _ _ _ _ _ (T11.setTop (mkF m 276 #[.val (.int p1), .val (.int p2), .val (.int p3), .val (.int p4), .val (.int (Int32.ofNat k1)), .val (.int (Int32.ofNat kv1.1)), .val (.int c0), .val (.int c1), .val (.int c2), .val (.int t2.1), .val (.int t3.1), .val (.int t4.1), .val (.int (0 : Int32)), .val (.int z6), .val (.int z7), .val (.int z8), .val (.ref s9), .val (.ref s11), .val (.int (1 : Int32)), .unset] []))
                          exact j13 ⟨_, Or.inl ⟨rfl, by have q : k1 = kv1.1 := own_inj4 ⟨k1, hk1⟩ ⟨kv1.1, kv1.2⟩ hb222_21; rw [← q]; exact own_dif hk1 (Or.inl ⟨hb233_22, hb240_23⟩)⟩⟩ _ X11 rfl
                      · refine own_ofc (fun tt_ => XS.ifYes X11.here hx rfl (pc0 := 233) (pc' := 243) rfl (hb hby at_233) rfl ((if0 _ _).trans (flt hb233_22).2.2.2) (by decide) (by decide)) ?_
                        show own_gc p e below s _ _ _ _ _ (T11.setTop (mkF m 243 #[.val (.int p1), .val (.int p2), .val (.int p3), .val (.int p4), .val (.int (Int32.ofNat k1)), .val (.int (Int32.ofNat kv1.1)), .val (.int c0), .val (.int c1), .val (.int c2), .val (.int t2.1), .val (.int t3.1), .val (.int t4.1), .val (.int (0 : Int32)), .val (.int z6), .val (.int z7), .val (.int z8), .val (.ref s9), .val (.ref s11), .unset, .unset] []))
                        refine own_ofc (fun tt_ => XS.iload X11.here hx rfl (hb hby at_243) rfl) ?_
                        show own_gc p e below s _ _ _ _ _ (T11.setTop (mkF m 245 #[.val (.int p1), .val (.int p2), .val (.int p3), .val (.int p4), .val (.int (Int32.ofNat k1)), .val (.int (Int32.ofNat kv1.1)), .val (.int c0), .val (.int c1), .val (.int c2), .val (.int t2.1), .val (.int t3.1), .val (.int t4.1), .val (.int (0 : Int32)), .val (.int z6), .val (.int z7), .val (.int z8), .val (.ref s9), .val (.ref s11), .unset, .unset] [(.int (Int32.ofNat k1))]))
                        refine own_ofc (fun tt_ => XS.iconst X11.here hx rfl (hb hby at_245)) ?_
                        show own_gc p e below s _ _ _ _ _ (T11.setTop (mkF m 246 #[.val (.int p1), .val (.int p2), .val (.int p3), .val (.int p4), .val (.int (Int32.ofNat k1)), .val (.int (Int32.ofNat kv1.1)), .val (.int c0), .val (.int c1), .val (.int c2), .val (.int t2.1), .val (.int t3.1), .val (.int t4.1), .val (.int (0 : Int32)), .val (.int z6), .val (.int z7), .val (.int z8), .val (.ref s9), .val (.ref s11), .unset, .unset] [(.int (1 : Int32)), (.int (Int32.ofNat k1))]))
                        by_cases hb246_30 : (1 : Int32) < (Int32.ofNat k1)
                        · refine own_ofc (fun tt_ => XS.icmpNo X11.here hx rfl (hb hby at_246) rfl (tlt hb246_30).2.2.2) ?_
                          show own_gc p e below s _ _ _ _ _ (T11.setTop (mkF m 249 #[.val (.int p1), .val (.int p2), .val (.int p3), .val (.int p4), .val (.int (Int32.ofNat k1)), .val (.int (Int32.ofNat kv1.1)), .val (.int c0), .val (.int c1), .val (.int c2), .val (.int t2.1), .val (.int t3.1), .val (.int t4.1), .val (.int (0 : Int32)), .val (.int z6), .val (.int z7), .val (.int z8), .val (.ref s9), .val (.ref s11), .unset, .unset] []))
                          refine own_ofc (fun tt_ => XS.iload X11.here hx rfl (hb hby at_249) rfl) ?_
                          show own_gc p e below s _ _ _ _ _ (T11.setTop (mkF m 251 #[.val (.int p1), .val (.int p2), .val (.int p3), .val (.int p4), .val (.int (Int32.ofNat k1)), .val (.int (Int32.ofNat kv1.1)), .val (.int c0), .val (.int c1), .val (.int c2), .val (.int t2.1), .val (.int t3.1), .val (.int t4.1), .val (.int (0 : Int32)), .val (.int z6), .val (.int z7), .val (.int z8), .val (.ref s9), .val (.ref s11), .unset, .unset] [(.int c1)]))
                          refine own_ofc (fun tt_ => XS.iload X11.here hx rfl (hb hby at_251) rfl) ?_
                          show own_gc p e below s _ _ _ _ _ (T11.setTop (mkF m 253 #[.val (.int p1), .val (.int p2), .val (.int p3), .val (.int p4), .val (.int (Int32.ofNat k1)), .val (.int (Int32.ofNat kv1.1)), .val (.int c0), .val (.int c1), .val (.int c2), .val (.int t2.1), .val (.int t3.1), .val (.int t4.1), .val (.int (0 : Int32)), .val (.int z6), .val (.int z7), .val (.int z8), .val (.ref s9), .val (.ref s11), .unset, .unset] [(.int t3.1), (.int c1)]))
                          by_cases hb253_31 : c1 = t3.1
                          · refine own_ofc (fun tt_ => XS.icmpNo X11.here hx rfl (hb hby at_253) rfl (teq hb253_31).2) ?_
                            show own_gc p e below s _ _ _ _ _ (T11.setTop (mkF m 256 #[.val (.int p1), .val (.int p2), .val (.int p3), .val (.int p4), .val (.int (Int32.ofNat k1)), .val (.int (Int32.ofNat kv1.1)), .val (.int c0), .val (.int c1), .val (.int c2), .val (.int t2.1), .val (.int t3.1), .val (.int t4.1), .val (.int (0 : Int32)), .val (.int z6), .val (.int z7), .val (.int z8), .val (.ref s9), .val (.ref s11), .unset, .unset] []))
                            refine own_ofc (fun tt_ => XS.iload X11.here hx rfl (hb hby at_256) rfl) ?_
                            show own_gc p e below s _ _ _ _ _ (T11.setTop (mkF m 258 #[.val (.int p1), .val (.int p2), .val (.int p3), .val (.int p4), .val (.int (Int32.ofNat k1)), .val (.int (Int32.ofNat kv1.1)), .val (.int c0), .val (.int c1), .val (.int c2), .val (.int t2.1), .val (.int t3.1), .val (.int t4.1), .val (.int (0 : Int32)), .val (.int z6), .val (.int z7), .val (.int z8), .val (.ref s9), .val (.ref s11), .unset, .unset] [(.int (Int32.ofNat k1))]))
                            refine own_ofc (fun tt_ => XS.iconst X11.here hx rfl (hb hby at_258)) ?_
                            show own_gc p e below s _ _ _ _ _ (T11.setTop (mkF m 259 #[.val (.int p1), .val (.int p2), .val (.int p3), .val (.int p4), .val (.int (Int32.ofNat k1)), .val (.int (Int32.ofNat kv1.1)), .val (.int c0), .val (.int c1), .val (.int c2), .val (.int t2.1), .val (.int t3.1), .val (.int t4.1), .val (.int (0 : Int32)), .val (.int z6), .val (.int z7), .val (.int z8), .val (.ref s9), .val (.ref s11), .unset, .unset] [(.int (2 : Int32)), (.int (Int32.ofNat k1))]))
                            by_cases hb259_32 : (2 : Int32) < (Int32.ofNat k1)
                            · refine own_ofc (fun tt_ => XS.icmpNo X11.here hx rfl (hb hby at_259) rfl (tlt hb259_32).2.2.2) ?_
                              show own_gc p e below s _ _ _ _ _ (T11.setTop (mkF m 262 #[.val (.int p1), .val (.int p2), .val (.int p3), .val (.int p4), .val (.int (Int32.ofNat k1)), .val (.int (Int32.ofNat kv1.1)), .val (.int c0), .val (.int c1), .val (.int c2), .val (.int t2.1), .val (.int t3.1), .val (.int t4.1), .val (.int (0 : Int32)), .val (.int z6), .val (.int z7), .val (.int z8), .val (.ref s9), .val (.ref s11), .unset, .unset] []))
                              refine own_ofc (fun tt_ => XS.iload X11.here hx rfl (hb hby at_262) rfl) ?_
                              show own_gc p e below s _ _ _ _ _ (T11.setTop (mkF m 264 #[.val (.int p1), .val (.int p2), .val (.int p3), .val (.int p4), .val (.int (Int32.ofNat k1)), .val (.int (Int32.ofNat kv1.1)), .val (.int c0), .val (.int c1), .val (.int c2), .val (.int t2.1), .val (.int t3.1), .val (.int t4.1), .val (.int (0 : Int32)), .val (.int z6), .val (.int z7), .val (.int z8), .val (.ref s9), .val (.ref s11), .unset, .unset] [(.int c2)]))
                              refine own_ofc (fun tt_ => XS.iload X11.here hx rfl (hb hby at_264) rfl) ?_
                              show own_gc p e below s _ _ _ _ _ (T11.setTop (mkF m 266 #[.val (.int p1), .val (.int p2), .val (.int p3), .val (.int p4), .val (.int (Int32.ofNat k1)), .val (.int (Int32.ofNat kv1.1)), .val (.int c0), .val (.int c1), .val (.int c2), .val (.int t2.1), .val (.int t3.1), .val (.int t4.1), .val (.int (0 : Int32)), .val (.int z6), .val (.int z7), .val (.int z8), .val (.ref s9), .val (.ref s11), .unset, .unset] [(.int t4.1), (.int c2)]))
                              by_cases hb266_33 : c2 = t4.1
                              · refine own_ofc (fun tt_ => XS.icmpYes X11.here hx rfl (pc0 := 266) (pc' := 273) rfl (hb hby at_266) rfl (teq hb266_33).1 (by decide) (by decide)) ?_
                                show own_gc p e below s _ _ _ _ _ (T11.setTop (mkF m 273 #[.val (.int p1), .val (.int p2), .val (.int p3), .val (.int p4), .val (.int (Int32.ofNat k1)), .val (.int (Int32.ofNat kv1.1)), .val (.int c0), .val (.int c1), .val (.int c2), .val (.int t2.1), .val (.int t3.1), .val (.int t4.1), .val (.int (0 : Int32)), .val (.int z6), .val (.int z7), .val (.int z8), .val (.ref s9), .val (.ref s11), .unset, .unset] []))
                                refine own_ofc (fun tt_ => XS.iconst X11.here hx rfl (hb hby at_273)) ?_
                                show own_gc p e below s _ _ _ _ _ (T11.setTop (mkF m 274 #[.val (.int p1), .val (.int p2), .val (.int p3), .val (.int p4), .val (.int (Int32.ofNat k1)), .val (.int (Int32.ofNat kv1.1)), .val (.int c0), .val (.int c1), .val (.int c2), .val (.int t2.1), .val (.int t3.1), .val (.int t4.1), .val (.int (0 : Int32)), .val (.int z6), .val (.int z7), .val (.int z8), .val (.ref s9), .val (.ref s11), .unset, .unset] [(.int (0 : Int32))]))
                                refine own_ofc (fun tt_ => XS.istore X11.here hx rfl (hb hby at_274) rfl (l' := #[.val (.int p1), .val (.int p2), .val (.int p3), .val (.int p4), .val (.int (Int32.ofNat k1)), .val (.int (Int32.ofNat kv1.1)), .val (.int c0), .val (.int c1), .val (.int c2), .val (.int t2.1), .val (.int t3.1), .val (.int t4.1), .val (.int (0 : Int32)), .val (.int z6), .val (.int z7), .val (.int z8), .val (.ref s9), .val (.ref s11), .val (.int (0 : Int32)), .unset]) rfl) ?_
                                show own_gc p e below s _ _ _ _ _ (T11.setTop (mkF m 276 #[.val (.int p1), .val (.int p2), .val (.int p3), .val (.int p4), .val (.int (Int32.ofNat k1)), .val (.int (Int32.ofNat kv1.1)), .val (.int c0), .val (.int c1), .val (.int c2), .val (.int t2.1), .val (.int t3.1), .val (.int t4.1), .val (.int (0 : Int32)), .val (.int z6), .val (.int z7), .val (.int z8), .val (.ref s9), .val (.ref s11), .val (.int (0 : Int32)), .unset] []))
                                exact j13 ⟨_, Or.inr ⟨rfl, by have q : k1 = kv1.1 := own_inj4 ⟨k1, hk1⟩ ⟨kv1.1, kv1.2⟩ hb222_21; rw [← q]; exact own_same hk1 (Or.inl hb233_22) (Or.inr hb253_31) (Or.inr hb266_33)⟩⟩ _ X11 rfl
                              · refine own_ofc (fun tt_ => XS.icmpNo X11.here hx rfl (hb hby at_266) rfl (feq hb266_33).1) ?_
                                show own_gc p e below s _ _ _ _ _ (T11.setTop (mkF m 269 #[.val (.int p1), .val (.int p2), .val (.int p3), .val (.int p4), .val (.int (Int32.ofNat k1)), .val (.int (Int32.ofNat kv1.1)), .val (.int c0), .val (.int c1), .val (.int c2), .val (.int t2.1), .val (.int t3.1), .val (.int t4.1), .val (.int (0 : Int32)), .val (.int z6), .val (.int z7), .val (.int z8), .val (.ref s9), .val (.ref s11), .unset, .unset] []))
                                refine own_ofc (fun tt_ => XS.iconst X11.here hx rfl (hb hby at_269)) ?_
                                show own_gc p e below s _ _ _ _ _ (T11.setTop (mkF m 270 #[.val (.int p1), .val (.int p2), .val (.int p3), .val (.int p4), .val (.int (Int32.ofNat k1)), .val (.int (Int32.ofNat kv1.1)), .val (.int c0), .val (.int c1), .val (.int c2), .val (.int t2.1), .val (.int t3.1), .val (.int t4.1), .val (.int (0 : Int32)), .val (.int z6), .val (.int z7), .val (.int z8), .val (.ref s9), .val (.ref s11), .unset, .unset] [(.int (1 : Int32))]))
                                refine own_ofc (fun tt_ => XS.goto X11.here hx rfl (pc0 := 270) (pc' := 274) rfl (hb hby at_270) (by decide) (by decide)) ?_
                                show own_gc p e below s _ _ _ _ _ (T11.setTop (mkF m 274 #[.val (.int p1), .val (.int p2), .val (.int p3), .val (.int p4), .val (.int (Int32.ofNat k1)), .val (.int (Int32.ofNat kv1.1)), .val (.int c0), .val (.int c1), .val (.int c2), .val (.int t2.1), .val (.int t3.1), .val (.int t4.1), .val (.int (0 : Int32)), .val (.int z6), .val (.int z7), .val (.int z8), .val (.ref s9), .val (.ref s11), .unset, .unset] [(.int (1 : Int32))]))
                                refine own_ofc (fun tt_ => XS.istore X11.here hx rfl (hb hby at_274) rfl (l' := #[.val (.int p1), .val (.int p2), .val (.int p3), .val (.int p4), .val (.int (Int32.ofNat k1)), .val (.int (Int32.ofNat kv1.1)), .val (.int c0), .val (.int c1), .val (.int c2), .val (.int t2.1), .val (.int t3.1), .val (.int t4.1), .val (.int (0 : Int32)), .val (.int z6), .val (.int z7), .val (.int z8), .val (.ref s9), .val (.ref s11), .val (.int (1 : Int32)), .unset]) rfl) ?_
                                show own_gc p e below s _ _ _ _ _ (T11.setTop (mkF m 276 #[.val (.int p1), .val (.int p2), .val (.int p3), .val (.int p4), .val (.int (Int32.ofNat k1)), .val (.int (Int32.ofNat kv1.1)), .val (.int c0), .val (.int c1), .val (.int c2), .val (.int t2.1), .val (.int t3.1), .val (.int t4.1), .val (.int (0 : Int32)), .val (.int z6), .val (.int z7), .val (.int z8), .val (.ref s9), .val (.ref s11), .val (.int (1 : Int32)), .unset] []))
                                exact j13 ⟨_, Or.inl ⟨rfl, by have q : k1 = kv1.1 := own_inj4 ⟨k1, hk1⟩ ⟨kv1.1, kv1.2⟩ hb222_21; rw [← q]; exact own_dif hk1 (Or.inr (Or.inr ⟨hb259_32, hb266_33⟩))⟩⟩ _ X11 rfl
                            · refine own_ofc (fun tt_ => XS.icmpYes X11.here hx rfl (pc0 := 259) (pc' := 273) rfl (hb hby at_259) rfl (flt hb259_32).2.2.2 (by decide) (by decide)) ?_
                              show own_gc p e below s _ _ _ _ _ (T11.setTop (mkF m 273 #[.val (.int p1), .val (.int p2), .val (.int p3), .val (.int p4), .val (.int (Int32.ofNat k1)), .val (.int (Int32.ofNat kv1.1)), .val (.int c0), .val (.int c1), .val (.int c2), .val (.int t2.1), .val (.int t3.1), .val (.int t4.1), .val (.int (0 : Int32)), .val (.int z6), .val (.int z7), .val (.int z8), .val (.ref s9), .val (.ref s11), .unset, .unset] []))
                              refine own_ofc (fun tt_ => XS.iconst X11.here hx rfl (hb hby at_273)) ?_
                              show own_gc p e below s _ _ _ _ _ (T11.setTop (mkF m 274 #[.val (.int p1), .val (.int p2), .val (.int p3), .val (.int p4), .val (.int (Int32.ofNat k1)), .val (.int (Int32.ofNat kv1.1)), .val (.int c0), .val (.int c1), .val (.int c2), .val (.int t2.1), .val (.int t3.1), .val (.int t4.1), .val (.int (0 : Int32)), .val (.int z6), .val (.int z7), .val (.int z8), .val (.ref s9), .val (.ref s11), .unset, .unset] [(.int (0 : Int32))]))
                              refine own_ofc (fun tt_ => XS.istore X11.here hx rfl (hb hby at_274) rfl (l' := #[.val (.int p1), .val (.int p2), .val (.int p3), .val (.int p4), .val (.int (Int32.ofNat k1)), .val (.int (Int32.ofNat kv1.1)), .val (.int c0), .val (.int c1), .val (.int c2), .val (.int t2.1), .val (.int t3.1), .val (.int t4.1), .val (.int (0 : Int32)), .val (.int z6), .val (.int z7), .val (.int z8), .val (.ref s9), .val (.ref s11), .val (.int (0 : Int32)), .unset]) rfl) ?_
                              show own_gc p e below s _ _ _ _ _ (T11.setTop (mkF m 276 #[.val (.int p1), .val (.int p2), .val (.int p3), .val (.int p4), .val (.int (Int32.ofNat k1)), .val (.int (Int32.ofNat kv1.1)), .val (.int c0), .val (.int c1), .val (.int c2), .val (.int t2.1), .val (.int t3.1), .val (.int t4.1), .val (.int (0 : Int32)), .val (.int z6), .val (.int z7), .val (.int z8), .val (.ref s9), .val (.ref s11), .val (.int (0 : Int32)), .unset] []))
                              exact j13 ⟨_, Or.inr ⟨rfl, by have q : k1 = kv1.1 := own_inj4 ⟨k1, hk1⟩ ⟨kv1.1, kv1.2⟩ hb222_21; rw [← q]; exact own_same hk1 (Or.inl hb233_22) (Or.inr hb253_31) (Or.inl hb259_32)⟩⟩ _ X11 rfl
                          · refine own_ofc (fun tt_ => XS.icmpYes X11.here hx rfl (pc0 := 253) (pc' := 269) rfl (hb hby at_253) rfl (feq hb253_31).2 (by decide) (by decide)) ?_
                            show own_gc p e below s _ _ _ _ _ (T11.setTop (mkF m 269 #[.val (.int p1), .val (.int p2), .val (.int p3), .val (.int p4), .val (.int (Int32.ofNat k1)), .val (.int (Int32.ofNat kv1.1)), .val (.int c0), .val (.int c1), .val (.int c2), .val (.int t2.1), .val (.int t3.1), .val (.int t4.1), .val (.int (0 : Int32)), .val (.int z6), .val (.int z7), .val (.int z8), .val (.ref s9), .val (.ref s11), .unset, .unset] []))
                            refine own_ofc (fun tt_ => XS.iconst X11.here hx rfl (hb hby at_269)) ?_
                            show own_gc p e below s _ _ _ _ _ (T11.setTop (mkF m 270 #[.val (.int p1), .val (.int p2), .val (.int p3), .val (.int p4), .val (.int (Int32.ofNat k1)), .val (.int (Int32.ofNat kv1.1)), .val (.int c0), .val (.int c1), .val (.int c2), .val (.int t2.1), .val (.int t3.1), .val (.int t4.1), .val (.int (0 : Int32)), .val (.int z6), .val (.int z7), .val (.int z8), .val (.ref s9), .val (.ref s11), .unset, .unset] [(.int (1 : Int32))]))
                            refine own_ofc (fun tt_ => XS.goto X11.here hx rfl (pc0 := 270) (pc' := 274) rfl (hb hby at_270) (by decide) (by decide)) ?_
                            show own_gc p e below s _ _ _ _ _ (T11.setTop (mkF m 274 #[.val (.int p1), .val (.int p2), .val (.int p3), .val (.int p4), .val (.int (Int32.ofNat k1)), .val (.int (Int32.ofNat kv1.1)), .val (.int c0), .val (.int c1), .val (.int c2), .val (.int t2.1), .val (.int t3.1), .val (.int t4.1), .val (.int (0 : Int32)), .val (.int z6), .val (.int z7), .val (.int z8), .val (.ref s9), .val (.ref s11), .unset, .unset] [(.int (1 : Int32))]))
                            refine own_ofc (fun tt_ => XS.istore X11.here hx rfl (hb hby at_274) rfl (l' := #[.val (.int p1), .val (.int p2), .val (.int p3), .val (.int p4), .val (.int (Int32.ofNat k1)), .val (.int (Int32.ofNat kv1.1)), .val (.int c0), .val (.int c1), .val (.int c2), .val (.int t2.1), .val (.int t3.1), .val (.int t4.1), .val (.int (0 : Int32)), .val (.int z6), .val (.int z7), .val (.int z8), .val (.ref s9), .val (.ref s11), .val (.int (1 : Int32)), .unset]) rfl) ?_
                            show own_gc p e below s _ _ _ _ _ (T11.setTop (mkF m 276 #[.val (.int p1), .val (.int p2), .val (.int p3), .val (.int p4), .val (.int (Int32.ofNat k1)), .val (.int (Int32.ofNat kv1.1)), .val (.int c0), .val (.int c1), .val (.int c2), .val (.int t2.1), .val (.int t3.1), .val (.int t4.1), .val (.int (0 : Int32)), .val (.int z6), .val (.int z7), .val (.int z8), .val (.ref s9), .val (.ref s11), .val (.int (1 : Int32)), .unset] []))
                            exact j13 ⟨_, Or.inl ⟨rfl, by have q : k1 = kv1.1 := own_inj4 ⟨k1, hk1⟩ ⟨kv1.1, kv1.2⟩ hb222_21; rw [← q]; exact own_dif hk1 (Or.inr (Or.inl ⟨hb246_30, hb253_31⟩))⟩⟩ _ X11 rfl
                        · refine own_ofc (fun tt_ => XS.icmpYes X11.here hx rfl (pc0 := 246) (pc' := 256) rfl (hb hby at_246) rfl (flt hb246_30).2.2.2 (by decide) (by decide)) ?_
                          show own_gc p e below s _ _ _ _ _ (T11.setTop (mkF m 256 #[.val (.int p1), .val (.int p2), .val (.int p3), .val (.int p4), .val (.int (Int32.ofNat k1)), .val (.int (Int32.ofNat kv1.1)), .val (.int c0), .val (.int c1), .val (.int c2), .val (.int t2.1), .val (.int t3.1), .val (.int t4.1), .val (.int (0 : Int32)), .val (.int z6), .val (.int z7), .val (.int z8), .val (.ref s9), .val (.ref s11), .unset, .unset] []))
                          refine own_ofc (fun tt_ => XS.iload X11.here hx rfl (hb hby at_256) rfl) ?_
                          show own_gc p e below s _ _ _ _ _ (T11.setTop (mkF m 258 #[.val (.int p1), .val (.int p2), .val (.int p3), .val (.int p4), .val (.int (Int32.ofNat k1)), .val (.int (Int32.ofNat kv1.1)), .val (.int c0), .val (.int c1), .val (.int c2), .val (.int t2.1), .val (.int t3.1), .val (.int t4.1), .val (.int (0 : Int32)), .val (.int z6), .val (.int z7), .val (.int z8), .val (.ref s9), .val (.ref s11), .unset, .unset] [(.int (Int32.ofNat k1))]))
                          refine own_ofc (fun tt_ => XS.iconst X11.here hx rfl (hb hby at_258)) ?_
                          show own_gc p e below s _ _ _ _ _ (T11.setTop (mkF m 259 #[.val (.int p1), .val (.int p2), .val (.int p3), .val (.int p4), .val (.int (Int32.ofNat k1)), .val (.int (Int32.ofNat kv1.1)), .val (.int c0), .val (.int c1), .val (.int c2), .val (.int t2.1), .val (.int t3.1), .val (.int t4.1), .val (.int (0 : Int32)), .val (.int z6), .val (.int z7), .val (.int z8), .val (.ref s9), .val (.ref s11), .unset, .unset] [(.int (2 : Int32)), (.int (Int32.ofNat k1))]))
                          by_cases hb259_34 : (2 : Int32) < (Int32.ofNat k1)
                          · refine own_ofc (fun tt_ => XS.icmpNo X11.here hx rfl (hb hby at_259) rfl (tlt hb259_34).2.2.2) ?_
                            show own_gc p e below s _ _ _ _ _ (T11.setTop (mkF m 262 #[.val (.int p1), .val (.int p2), .val (.int p3), .val (.int p4), .val (.int (Int32.ofNat k1)), .val (.int (Int32.ofNat kv1.1)), .val (.int c0), .val (.int c1), .val (.int c2), .val (.int t2.1), .val (.int t3.1), .val (.int t4.1), .val (.int (0 : Int32)), .val (.int z6), .val (.int z7), .val (.int z8), .val (.ref s9), .val (.ref s11), .unset, .unset] []))
                            refine own_ofc (fun tt_ => XS.iload X11.here hx rfl (hb hby at_262) rfl) ?_
                            show own_gc p e below s _ _ _ _ _ (T11.setTop (mkF m 264 #[.val (.int p1), .val (.int p2), .val (.int p3), .val (.int p4), .val (.int (Int32.ofNat k1)), .val (.int (Int32.ofNat kv1.1)), .val (.int c0), .val (.int c1), .val (.int c2), .val (.int t2.1), .val (.int t3.1), .val (.int t4.1), .val (.int (0 : Int32)), .val (.int z6), .val (.int z7), .val (.int z8), .val (.ref s9), .val (.ref s11), .unset, .unset] [(.int c2)]))
                            refine own_ofc (fun tt_ => XS.iload X11.here hx rfl (hb hby at_264) rfl) ?_
                            show own_gc p e below s _ _ _ _ _ (T11.setTop (mkF m 266 #[.val (.int p1), .val (.int p2), .val (.int p3), .val (.int p4), .val (.int (Int32.ofNat k1)), .val (.int (Int32.ofNat kv1.1)), .val (.int c0), .val (.int c1), .val (.int c2), .val (.int t2.1), .val (.int t3.1), .val (.int t4.1), .val (.int (0 : Int32)), .val (.int z6), .val (.int z7), .val (.int z8), .val (.ref s9), .val (.ref s11), .unset, .unset] [(.int t4.1), (.int c2)]))
                            by_cases hb266_35 : c2 = t4.1
                            · refine own_ofc (fun tt_ => XS.icmpYes X11.here hx rfl (pc0 := 266) (pc' := 273) rfl (hb hby at_266) rfl (teq hb266_35).1 (by decide) (by decide)) ?_
                              show own_gc p e below s _ _ _ _ _ (T11.setTop (mkF m 273 #[.val (.int p1), .val (.int p2), .val (.int p3), .val (.int p4), .val (.int (Int32.ofNat k1)), .val (.int (Int32.ofNat kv1.1)), .val (.int c0), .val (.int c1), .val (.int c2), .val (.int t2.1), .val (.int t3.1), .val (.int t4.1), .val (.int (0 : Int32)), .val (.int z6), .val (.int z7), .val (.int z8), .val (.ref s9), .val (.ref s11), .unset, .unset] []))
                              refine own_ofc (fun tt_ => XS.iconst X11.here hx rfl (hb hby at_273)) ?_
                              show own_gc p e below s _ _ _ _ _ (T11.setTop (mkF m 274 #[.val (.int p1), .val (.int p2), .val (.int p3), .val (.int p4), .val (.int (Int32.ofNat k1)), .val (.int (Int32.ofNat kv1.1)), .val (.int c0), .val (.int c1), .val (.int c2), .val (.int t2.1), .val (.int t3.1), .val (.int t4.1), .val (.int (0 : Int32)), .val (.int z6), .val (.int z7), .val (.int z8), .val (.ref s9), .val (.ref s11), .unset, .unset] [(.int (0 : Int32))]))
                              refine own_ofc (fun tt_ => XS.istore X11.here hx rfl (hb hby at_274) rfl (l' := #[.val (.int p1), .val (.int p2), .val (.int p3), .val (.int p4), .val (.int (Int32.ofNat k1)), .val (.int (Int32.ofNat kv1.1)), .val (.int c0), .val (.int c1), .val (.int c2), .val (.int t2.1), .val (.int t3.1), .val (.int t4.1), .val (.int (0 : Int32)), .val (.int z6), .val (.int z7), .val (.int z8), .val (.ref s9), .val (.ref s11), .val (.int (0 : Int32)), .unset]) rfl) ?_
                              show own_gc p e below s _ _ _ _ _ (T11.setTop (mkF m 276 #[.val (.int p1), .val (.int p2), .val (.int p3), .val (.int p4), .val (.int (Int32.ofNat k1)), .val (.int (Int32.ofNat kv1.1)), .val (.int c0), .val (.int c1), .val (.int c2), .val (.int t2.1), .val (.int t3.1), .val (.int t4.1), .val (.int (0 : Int32)), .val (.int z6), .val (.int z7), .val (.int z8), .val (.ref s9), .val (.ref s11), .val (.int (0 : Int32)), .unset] []))
                              exact j13 ⟨_, Or.inr ⟨rfl, by have q : k1 = kv1.1 := own_inj4 ⟨k1, hk1⟩ ⟨kv1.1, kv1.2⟩ hb222_21; rw [← q]; exact own_same hk1 (Or.inl hb233_22) (Or.inl hb246_30) (Or.inr hb266_35)⟩⟩ _ X11 rfl
                            · refine own_ofc (fun tt_ => XS.icmpNo X11.here hx rfl (hb hby at_266) rfl (feq hb266_35).1) ?_
                              show own_gc p e below s _ _ _ _ _ (T11.setTop (mkF m 269 #[.val (.int p1), .val (.int p2), .val (.int p3), .val (.int p4), .val (.int (Int32.ofNat k1)), .val (.int (Int32.ofNat kv1.1)), .val (.int c0), .val (.int c1), .val (.int c2), .val (.int t2.1), .val (.int t3.1), .val (.int t4.1), .val (.int (0 : Int32)), .val (.int z6), .val (.int z7), .val (.int z8), .val (.ref s9), .val (.ref s11), .unset, .unset] []))
                              refine own_ofc (fun tt_ => XS.iconst X11.here hx rfl (hb hby at_269)) ?_
                              show own_gc p e below s _ _ _ _ _ (T11.setTop (mkF m 270 #[.val (.int p1), .val (.int p2), .val (.int p3), .val (.int p4), .val (.int (Int32.ofNat k1)), .val (.int (Int32.ofNat kv1.1)), .val (.int c0), .val (.int c1), .val (.int c2), .val (.int t2.1), .val (.int t3.1), .val (.int t4.1), .val (.int (0 : Int32)), .val (.int z6), .val (.int z7), .val (.int z8), .val (.ref s9), .val (.ref s11), .unset, .unset] [(.int (1 : Int32))]))
                              refine own_ofc (fun tt_ => XS.goto X11.here hx rfl (pc0 := 270) (pc' := 274) rfl (hb hby at_270) (by decide) (by decide)) ?_
                              show own_gc p e below s _ _ _ _ _ (T11.setTop (mkF m 274 #[.val (.int p1), .val (.int p2), .val (.int p3), .val (.int p4), .val (.int (Int32.ofNat k1)), .val (.int (Int32.ofNat kv1.1)), .val (.int c0), .val (.int c1), .val (.int c2), .val (.int t2.1), .val (.int t3.1), .val (.int t4.1), .val (.int (0 : Int32)), .val (.int z6), .val (.int z7), .val (.int z8), .val (.ref s9), .val (.ref s11), .unset, .unset] [(.int (1 : Int32))]))
                              refine own_ofc (fun tt_ => XS.istore X11.here hx rfl (hb hby at_274) rfl (l' := #[.val (.int p1), .val (.int p2), .val (.int p3), .val (.int p4), .val (.int (Int32.ofNat k1)), .val (.int (Int32.ofNat kv1.1)), .val (.int c0), .val (.int c1), .val (.int c2), .val (.int t2.1), .val (.int t3.1), .val (.int t4.1), .val (.int (0 : Int32)), .val (.int z6), .val (.int z7), .val (.int z8), .val (.ref s9), .val (.ref s11), .val (.int (1 : Int32)), .unset]) rfl) ?_
                              show own_gc p e below s _ _ _ _ _ (T11.setTop (mkF m 276 #[.val (.int p1), .val (.int p2), .val (.int p3), .val (.int p4), .val (.int (Int32.ofNat k1)), .val (.int (Int32.ofNat kv1.1)), .val (.int c0), .val (.int c1), .val (.int c2), .val (.int t2.1), .val (.int t3.1), .val (.int t4.1), .val (.int (0 : Int32)), .val (.int z6), .val (.int z7), .val (.int z8), .val (.ref s9), .val (.ref s11), .val (.int (1 : Int32)), .unset] []))
                              exact j13 ⟨_, Or.inl ⟨rfl, by have q : k1 = kv1.1 := own_inj4 ⟨k1, hk1⟩ ⟨kv1.1, kv1.2⟩ hb222_21; rw [← q]; exact own_dif hk1 (Or.inr (Or.inr ⟨hb259_34, hb266_35⟩))⟩⟩ _ X11 rfl
                          · refine own_ofc (fun tt_ => XS.icmpYes X11.here hx rfl (pc0 := 259) (pc' := 273) rfl (hb hby at_259) rfl (flt hb259_34).2.2.2 (by decide) (by decide)) ?_
                            show own_gc p e below s _ _ _ _ _ (T11.setTop (mkF m 273 #[.val (.int p1), .val (.int p2), .val (.int p3), .val (.int p4), .val (.int (Int32.ofNat k1)), .val (.int (Int32.ofNat kv1.1)), .val (.int c0), .val (.int c1), .val (.int c2), .val (.int t2.1), .val (.int t3.1), .val (.int t4.1), .val (.int (0 : Int32)), .val (.int z6), .val (.int z7), .val (.int z8), .val (.ref s9), .val (.ref s11), .unset, .unset] []))
                            refine own_ofc (fun tt_ => XS.iconst X11.here hx rfl (hb hby at_273)) ?_
                            show own_gc p e below s _ _ _ _ _ (T11.setTop (mkF m 274 #[.val (.int p1), .val (.int p2), .val (.int p3), .val (.int p4), .val (.int (Int32.ofNat k1)), .val (.int (Int32.ofNat kv1.1)), .val (.int c0), .val (.int c1), .val (.int c2), .val (.int t2.1), .val (.int t3.1), .val (.int t4.1), .val (.int (0 : Int32)), .val (.int z6), .val (.int z7), .val (.int z8), .val (.ref s9), .val (.ref s11), .unset, .unset] [(.int (0 : Int32))]))
                            refine own_ofc (fun tt_ => XS.istore X11.here hx rfl (hb hby at_274) rfl (l' := #[.val (.int p1), .val (.int p2), .val (.int p3), .val (.int p4), .val (.int (Int32.ofNat k1)), .val (.int (Int32.ofNat kv1.1)), .val (.int c0), .val (.int c1), .val (.int c2), .val (.int t2.1), .val (.int t3.1), .val (.int t4.1), .val (.int (0 : Int32)), .val (.int z6), .val (.int z7), .val (.int z8), .val (.ref s9), .val (.ref s11), .val (.int (0 : Int32)), .unset]) rfl) ?_
                            show own_gc p e below s _ _ _ _ _ (T11.setTop (mkF m 276 #[.val (.int p1), .val (.int p2), .val (.int p3), .val (.int p4), .val (.int (Int32.ofNat k1)), .val (.int (Int32.ofNat kv1.1)), .val (.int c0), .val (.int c1), .val (.int c2), .val (.int t2.1), .val (.int t3.1), .val (.int t4.1), .val (.int (0 : Int32)), .val (.int z6), .val (.int z7), .val (.int z8), .val (.ref s9), .val (.ref s11), .val (.int (0 : Int32)), .unset] []))
                            exact j13 ⟨_, Or.inr ⟨rfl, by have q : k1 = kv1.1 := own_inj4 ⟨k1, hk1⟩ ⟨kv1.1, kv1.2⟩ hb222_21; rw [← q]; exact own_same hk1 (Or.inl hb233_22) (Or.inl hb246_30) (Or.inl hb259_34)⟩⟩ _ X11 rfl
                    · refine own_ofc (fun tt_ => XS.icmpNo X11.here hx rfl (hb hby at_222) rfl (feq hb222_21).1) ?_
                      show own_gc p e below s _ _ _ _ _ (T11.setTop (mkF m 225 #[.val (.int p1), .val (.int p2), .val (.int p3), .val (.int p4), .val (.int (Int32.ofNat k1)), .val (.int (Int32.ofNat kv1.1)), .val (.int c0), .val (.int c1), .val (.int c2), .val (.int t2.1), .val (.int t3.1), .val (.int t4.1), .val (.int (0 : Int32)), .val (.int z6), .val (.int z7), .val (.int z8), .val (.ref s9), .val (.ref s11), .unset, .unset] []))
                      refine own_ofc (fun tt_ => XS.iconst X11.here hx rfl (hb hby at_225)) ?_
                      show own_gc p e below s _ _ _ _ _ (T11.setTop (mkF m 226 #[.val (.int p1), .val (.int p2), .val (.int p3), .val (.int p4), .val (.int (Int32.ofNat k1)), .val (.int (Int32.ofNat kv1.1)), .val (.int c0), .val (.int c1), .val (.int c2), .val (.int t2.1), .val (.int t3.1), .val (.int t4.1), .val (.int (0 : Int32)), .val (.int z6), .val (.int z7), .val (.int z8), .val (.ref s9), .val (.ref s11), .unset, .unset] [(.int (1 : Int32))]))
                      refine own_ofc (fun tt_ => XS.istore X11.here hx rfl (hb hby at_226) rfl (l' := #[.val (.int p1), .val (.int p2), .val (.int p3), .val (.int p4), .val (.int (Int32.ofNat k1)), .val (.int (Int32.ofNat kv1.1)), .val (.int c0), .val (.int c1), .val (.int c2), .val (.int t2.1), .val (.int t3.1), .val (.int t4.1), .val (.int (0 : Int32)), .val (.int z6), .val (.int z7), .val (.int z8), .val (.ref s9), .val (.ref s11), .val (.int (1 : Int32)), .unset]) rfl) ?_
                      show own_gc p e below s _ _ _ _ _ (T11.setTop (mkF m 228 #[.val (.int p1), .val (.int p2), .val (.int p3), .val (.int p4), .val (.int (Int32.ofNat k1)), .val (.int (Int32.ofNat kv1.1)), .val (.int c0), .val (.int c1), .val (.int c2), .val (.int t2.1), .val (.int t3.1), .val (.int t4.1), .val (.int (0 : Int32)), .val (.int z6), .val (.int z7), .val (.int z8), .val (.ref s9), .val (.ref s11), .val (.int (1 : Int32)), .unset] []))
                      refine own_ofc (fun tt_ => XS.goto X11.here hx rfl (pc0 := 228) (pc' := 276) rfl (hb hby at_228) (by decide) (by decide)) ?_
                      show own_gc p e below s _ _ _ _ _ (T11.setTop (mkF m 276 #[.val (.int p1), .val (.int p2), .val (.int p3), .val (.int p4), .val (.int (Int32.ofNat k1)), .val (.int (Int32.ofNat kv1.1)), .val (.int c0), .val (.int c1), .val (.int c2), .val (.int t2.1), .val (.int t3.1), .val (.int t4.1), .val (.int (0 : Int32)), .val (.int z6), .val (.int z7), .val (.int z8), .val (.ref s9), .val (.ref s11), .val (.int (1 : Int32)), .unset] []))
                      exact j13 ⟨_, Or.inl ⟨rfl, own_len_ne hk1 kv1.2 hb222_21⟩⟩ _ X11 rfl
                · intro j8
                  show own_gc p e below s _ _ _ _ _ (T7.setTop (mkF m 162 #[.val (.int p1), .val (.int p2), .val (.int p3), .val (.int p4), .val (.int (Int32.ofNat k1)), .val (.int (Int32.ofNat kv1.1)), .val (.int c0), .val (.int c1), .val (.int c2), .val (.int t2.1), .val (.int t3.1), .val (.int t4.1), .val (.int (0 : Int32)), .val (.int z6), .val (.int z7), .unset, .unset, .unset, .unset, .unset] [(.int (p4 &&& (16 : Int32)))]))
                  by_cases hb162_36 : (p4 &&& (16 : Int32)) = (0 : Int32)
                  · refine own_ofc (fun tt_ => XS.ifYes X7.here hx rfl (pc0 := 162) (pc' := 169) rfl (hb hby at_162) rfl ((if0 _ _).trans (teq hb162_36).1) (by decide) (by decide)) ?_
                    show own_gc p e below s _ _ _ _ _ (T7.setTop (mkF m 169 #[.val (.int p1), .val (.int p2), .val (.int p3), .val (.int p4), .val (.int (Int32.ofNat k1)), .val (.int (Int32.ofNat kv1.1)), .val (.int c0), .val (.int c1), .val (.int c2), .val (.int t2.1), .val (.int t3.1), .val (.int t4.1), .val (.int (0 : Int32)), .val (.int z6), .val (.int z7), .unset, .unset, .unset, .unset, .unset] []))
                    refine own_ofc (fun tt_ => XS.iconst X7.here hx rfl (hb hby at_169)) ?_
                    show own_gc p e below s _ _ _ _ _ (T7.setTop (mkF m 170 #[.val (.int p1), .val (.int p2), .val (.int p3), .val (.int p4), .val (.int (Int32.ofNat k1)), .val (.int (Int32.ofNat kv1.1)), .val (.int c0), .val (.int c1), .val (.int c2), .val (.int t2.1), .val (.int t3.1), .val (.int t4.1), .val (.int (0 : Int32)), .val (.int z6), .val (.int z7), .unset, .unset, .unset, .unset, .unset] [(.int (0 : Int32))]))
                    exact j8 _ _ X7 e7
                  · refine own_ofc (fun tt_ => XS.ifNo X7.here hx rfl (hb hby at_162) rfl ((if0 _ _).trans (feq hb162_36).1)) ?_
                    show own_gc p e below s _ _ _ _ _ (T7.setTop (mkF m 165 #[.val (.int p1), .val (.int p2), .val (.int p3), .val (.int p4), .val (.int (Int32.ofNat k1)), .val (.int (Int32.ofNat kv1.1)), .val (.int c0), .val (.int c1), .val (.int c2), .val (.int t2.1), .val (.int t3.1), .val (.int t4.1), .val (.int (0 : Int32)), .val (.int z6), .val (.int z7), .unset, .unset, .unset, .unset, .unset] []))
                    refine own_ofc (fun tt_ => XS.iconst X7.here hx rfl (hb hby at_165)) ?_
                    show own_gc p e below s _ _ _ _ _ (T7.setTop (mkF m 166 #[.val (.int p1), .val (.int p2), .val (.int p3), .val (.int p4), .val (.int (Int32.ofNat k1)), .val (.int (Int32.ofNat kv1.1)), .val (.int c0), .val (.int c1), .val (.int c2), .val (.int t2.1), .val (.int t3.1), .val (.int t4.1), .val (.int (0 : Int32)), .val (.int z6), .val (.int z7), .unset, .unset, .unset, .unset, .unset] [(.int (1 : Int32))]))
                    refine own_ofc (fun tt_ => XS.goto X7.here hx rfl (pc0 := 166) (pc' := 170) rfl (hb hby at_166) (by decide) (by decide)) ?_
                    show own_gc p e below s _ _ _ _ _ (T7.setTop (mkF m 170 #[.val (.int p1), .val (.int p2), .val (.int p3), .val (.int p4), .val (.int (Int32.ofNat k1)), .val (.int (Int32.ofNat kv1.1)), .val (.int c0), .val (.int c1), .val (.int c2), .val (.int t2.1), .val (.int t3.1), .val (.int t4.1), .val (.int (0 : Int32)), .val (.int z6), .val (.int z7), .unset, .unset, .unset, .unset, .unset] [(.int (1 : Int32))]))
                    exact j8 _ _ X7 e7
              · intro j7
                show own_gc p e below s _ _ _ _ _ (T6.setTop (mkF m 148 #[.val (.int p1), .val (.int p2), .val (.int p3), .val (.int p4), .val (.int (Int32.ofNat k1)), .val (.int (Int32.ofNat kv1.1)), .val (.int c0), .val (.int c1), .val (.int c2), .val (.int t2.1), .val (.int t3.1), .val (.int t4.1), .val (.int (0 : Int32)), .val (.int z6), .unset, .unset, .unset, .unset, .unset, .unset] [(.int (p4 &&& (8 : Int32)))]))
                by_cases hb148_37 : (p4 &&& (8 : Int32)) = (0 : Int32)
                · refine own_ofc (fun tt_ => XS.ifYes X6.here hx rfl (pc0 := 148) (pc' := 155) rfl (hb hby at_148) rfl ((if0 _ _).trans (teq hb148_37).1) (by decide) (by decide)) ?_
                  show own_gc p e below s _ _ _ _ _ (T6.setTop (mkF m 155 #[.val (.int p1), .val (.int p2), .val (.int p3), .val (.int p4), .val (.int (Int32.ofNat k1)), .val (.int (Int32.ofNat kv1.1)), .val (.int c0), .val (.int c1), .val (.int c2), .val (.int t2.1), .val (.int t3.1), .val (.int t4.1), .val (.int (0 : Int32)), .val (.int z6), .unset, .unset, .unset, .unset, .unset, .unset] []))
                  refine own_ofc (fun tt_ => XS.iconst X6.here hx rfl (hb hby at_155)) ?_
                  show own_gc p e below s _ _ _ _ _ (T6.setTop (mkF m 156 #[.val (.int p1), .val (.int p2), .val (.int p3), .val (.int p4), .val (.int (Int32.ofNat k1)), .val (.int (Int32.ofNat kv1.1)), .val (.int c0), .val (.int c1), .val (.int c2), .val (.int t2.1), .val (.int t3.1), .val (.int t4.1), .val (.int (0 : Int32)), .val (.int z6), .unset, .unset, .unset, .unset, .unset, .unset] [(.int (0 : Int32))]))
                  exact j7 _ _ X6 e6
                · refine own_ofc (fun tt_ => XS.ifNo X6.here hx rfl (hb hby at_148) rfl ((if0 _ _).trans (feq hb148_37).1)) ?_
                  show own_gc p e below s _ _ _ _ _ (T6.setTop (mkF m 151 #[.val (.int p1), .val (.int p2), .val (.int p3), .val (.int p4), .val (.int (Int32.ofNat k1)), .val (.int (Int32.ofNat kv1.1)), .val (.int c0), .val (.int c1), .val (.int c2), .val (.int t2.1), .val (.int t3.1), .val (.int t4.1), .val (.int (0 : Int32)), .val (.int z6), .unset, .unset, .unset, .unset, .unset, .unset] []))
                  refine own_ofc (fun tt_ => XS.iconst X6.here hx rfl (hb hby at_151)) ?_
                  show own_gc p e below s _ _ _ _ _ (T6.setTop (mkF m 152 #[.val (.int p1), .val (.int p2), .val (.int p3), .val (.int p4), .val (.int (Int32.ofNat k1)), .val (.int (Int32.ofNat kv1.1)), .val (.int c0), .val (.int c1), .val (.int c2), .val (.int t2.1), .val (.int t3.1), .val (.int t4.1), .val (.int (0 : Int32)), .val (.int z6), .unset, .unset, .unset, .unset, .unset, .unset] [(.int (1 : Int32))]))
                  refine own_ofc (fun tt_ => XS.goto X6.here hx rfl (pc0 := 152) (pc' := 156) rfl (hb hby at_152) (by decide) (by decide)) ?_
                  show own_gc p e below s _ _ _ _ _ (T6.setTop (mkF m 156 #[.val (.int p1), .val (.int p2), .val (.int p3), .val (.int p4), .val (.int (Int32.ofNat k1)), .val (.int (Int32.ofNat kv1.1)), .val (.int c0), .val (.int c1), .val (.int c2), .val (.int t2.1), .val (.int t3.1), .val (.int t4.1), .val (.int (0 : Int32)), .val (.int z6), .unset, .unset, .unset, .unset, .unset, .unset] [(.int (1 : Int32))]))
                  exact j7 _ _ X6 e6
            · intro j6
              show own_gc p e below s _ _ _ _ _ (T4.setTop (mkF m 134 #[.val (.int p1), .val (.int p2), .val (.int p3), .val (.int p4), .val (.int (Int32.ofNat k1)), .val (.int (Int32.ofNat kv1.1)), .val (.int c0), .val (.int c1), .val (.int c2), .val (.int t2.1), .val (.int t3.1), .val (.int t4.1), .val (.int (0 : Int32)), .unset, .unset, .unset, .unset, .unset, .unset, .unset] [(.int (p4 &&& (4 : Int32)))]))
              by_cases hb134_38 : (p4 &&& (4 : Int32)) = (0 : Int32)
              · refine own_ofc (fun tt_ => XS.ifYes X4.here hx rfl (pc0 := 134) (pc' := 141) rfl (hb hby at_134) rfl ((if0 _ _).trans (teq hb134_38).1) (by decide) (by decide)) ?_
                show own_gc p e below s _ _ _ _ _ (T4.setTop (mkF m 141 #[.val (.int p1), .val (.int p2), .val (.int p3), .val (.int p4), .val (.int (Int32.ofNat k1)), .val (.int (Int32.ofNat kv1.1)), .val (.int c0), .val (.int c1), .val (.int c2), .val (.int t2.1), .val (.int t3.1), .val (.int t4.1), .val (.int (0 : Int32)), .unset, .unset, .unset, .unset, .unset, .unset, .unset] []))
                refine own_ofc (fun tt_ => XS.iconst X4.here hx rfl (hb hby at_141)) ?_
                show own_gc p e below s _ _ _ _ _ (T4.setTop (mkF m 142 #[.val (.int p1), .val (.int p2), .val (.int p3), .val (.int p4), .val (.int (Int32.ofNat k1)), .val (.int (Int32.ofNat kv1.1)), .val (.int c0), .val (.int c1), .val (.int c2), .val (.int t2.1), .val (.int t3.1), .val (.int t4.1), .val (.int (0 : Int32)), .unset, .unset, .unset, .unset, .unset, .unset, .unset] [(.int (0 : Int32))]))
                exact j6 _ _ X4 e4
              · refine own_ofc (fun tt_ => XS.ifNo X4.here hx rfl (hb hby at_134) rfl ((if0 _ _).trans (feq hb134_38).1)) ?_
                show own_gc p e below s _ _ _ _ _ (T4.setTop (mkF m 137 #[.val (.int p1), .val (.int p2), .val (.int p3), .val (.int p4), .val (.int (Int32.ofNat k1)), .val (.int (Int32.ofNat kv1.1)), .val (.int c0), .val (.int c1), .val (.int c2), .val (.int t2.1), .val (.int t3.1), .val (.int t4.1), .val (.int (0 : Int32)), .unset, .unset, .unset, .unset, .unset, .unset, .unset] []))
                refine own_ofc (fun tt_ => XS.iconst X4.here hx rfl (hb hby at_137)) ?_
                show own_gc p e below s _ _ _ _ _ (T4.setTop (mkF m 138 #[.val (.int p1), .val (.int p2), .val (.int p3), .val (.int p4), .val (.int (Int32.ofNat k1)), .val (.int (Int32.ofNat kv1.1)), .val (.int c0), .val (.int c1), .val (.int c2), .val (.int t2.1), .val (.int t3.1), .val (.int t4.1), .val (.int (0 : Int32)), .unset, .unset, .unset, .unset, .unset, .unset, .unset] [(.int (1 : Int32))]))
                refine own_ofc (fun tt_ => XS.goto X4.here hx rfl (pc0 := 138) (pc' := 142) rfl (hb hby at_138) (by decide) (by decide)) ?_
                show own_gc p e below s _ _ _ _ _ (T4.setTop (mkF m 142 #[.val (.int p1), .val (.int p2), .val (.int p3), .val (.int p4), .val (.int (Int32.ofNat k1)), .val (.int (Int32.ofNat kv1.1)), .val (.int c0), .val (.int c1), .val (.int c2), .val (.int t2.1), .val (.int t3.1), .val (.int t4.1), .val (.int (0 : Int32)), .unset, .unset, .unset, .unset, .unset, .unset, .unset] [(.int (1 : Int32))]))
                exact j6 _ _ X4 e4
          · refine own_ofc (fun tt_ => XS.ifNo X4.here hx rfl (hb hby at_121) rfl ((if0 _ _).trans (feq hb121_5).1)) ?_
            show own_gc p e below s _ _ _ _ _ (T4.setTop (mkF m 124 #[.val (.int p1), .val (.int p2), .val (.int p3), .val (.int p4), .val (.int (Int32.ofNat k1)), .val (.int (Int32.ofNat kv1.1)), .val (.int c0), .val (.int c1), .val (.int c2), .val (.int t2.1), .val (.int t3.1), .val (.int t4.1), .unset, .unset, .unset, .unset, .unset, .unset, .unset, .unset] []))
            refine own_ofc (fun tt_ => XS.iconst X4.here hx rfl (hb hby at_124)) ?_
            show own_gc p e below s _ _ _ _ _ (T4.setTop (mkF m 125 #[.val (.int p1), .val (.int p2), .val (.int p3), .val (.int p4), .val (.int (Int32.ofNat k1)), .val (.int (Int32.ofNat kv1.1)), .val (.int c0), .val (.int c1), .val (.int c2), .val (.int t2.1), .val (.int t3.1), .val (.int t4.1), .unset, .unset, .unset, .unset, .unset, .unset, .unset, .unset] [(.int (1 : Int32))]))
            refine own_ofc (fun tt_ => XS.goto X4.here hx rfl (pc0 := 125) (pc' := 129) rfl (hb hby at_125) (by decide) (by decide)) ?_
            show own_gc p e below s _ _ _ _ _ (T4.setTop (mkF m 129 #[.val (.int p1), .val (.int p2), .val (.int p3), .val (.int p4), .val (.int (Int32.ofNat k1)), .val (.int (Int32.ofNat kv1.1)), .val (.int c0), .val (.int c1), .val (.int c2), .val (.int t2.1), .val (.int t3.1), .val (.int t4.1), .unset, .unset, .unset, .unset, .unset, .unset, .unset, .unset] [(.int (1 : Int32))]))
            refine own_ofc (fun tt_ => XS.istore X4.here hx rfl (hb hby at_129) rfl (l' := #[.val (.int p1), .val (.int p2), .val (.int p3), .val (.int p4), .val (.int (Int32.ofNat k1)), .val (.int (Int32.ofNat kv1.1)), .val (.int c0), .val (.int c1), .val (.int c2), .val (.int t2.1), .val (.int t3.1), .val (.int t4.1), .val (.int (1 : Int32)), .unset, .unset, .unset, .unset, .unset, .unset, .unset]) rfl) ?_
            show own_gc p e below s _ _ _ _ _ (T4.setTop (mkF m 131 #[.val (.int p1), .val (.int p2), .val (.int p3), .val (.int p4), .val (.int (Int32.ofNat k1)), .val (.int (Int32.ofNat kv1.1)), .val (.int c0), .val (.int c1), .val (.int c2), .val (.int t2.1), .val (.int t3.1), .val (.int t4.1), .val (.int (1 : Int32)), .unset, .unset, .unset, .unset, .unset, .unset, .unset] []))
            refine own_ofc (fun tt_ => XS.iloadN X4.here hx rfl (hb hby at_131) rfl) ?_
            show own_gc p e below s _ _ _ _ _ (T4.setTop (mkF m 132 #[.val (.int p1), .val (.int p2), .val (.int p3), .val (.int p4), .val (.int (Int32.ofNat k1)), .val (.int (Int32.ofNat kv1.1)), .val (.int c0), .val (.int c1), .val (.int c2), .val (.int t2.1), .val (.int t3.1), .val (.int t4.1), .val (.int (1 : Int32)), .unset, .unset, .unset, .unset, .unset, .unset, .unset] [(.int p4)]))
            refine own_ofc (fun tt_ => XS.iconst X4.here hx rfl (hb hby at_132)) ?_
            show own_gc p e below s _ _ _ _ _ (T4.setTop (mkF m 133 #[.val (.int p1), .val (.int p2), .val (.int p3), .val (.int p4), .val (.int (Int32.ofNat k1)), .val (.int (Int32.ofNat kv1.1)), .val (.int c0), .val (.int c1), .val (.int c2), .val (.int t2.1), .val (.int t3.1), .val (.int t4.1), .val (.int (1 : Int32)), .unset, .unset, .unset, .unset, .unset, .unset, .unset] [(.int (4 : Int32)), (.int p4)]))
            refine own_ofc (fun tt_ => XS.iand X4.here hx rfl (hb hby at_133) rfl) ?_
            show own_gc p e below s _ _ _ _ _ (T4.setTop (mkF m 134 #[.val (.int p1), .val (.int p2), .val (.int p3), .val (.int p4), .val (.int (Int32.ofNat k1)), .val (.int (Int32.ofNat kv1.1)), .val (.int c0), .val (.int c1), .val (.int c2), .val (.int t2.1), .val (.int t3.1), .val (.int t4.1), .val (.int (1 : Int32)), .unset, .unset, .unset, .unset, .unset, .unset, .unset] [(.int (p4 &&& (4 : Int32)))]))
            refine own_use X4 (h := h0) (g := fun z39 : Int32 => (mkF m 142 #[.val (.int p1), .val (.int p2), .val (.int p3), .val (.int p4), .val (.int (Int32.ofNat k1)), .val (.int (Int32.ofNat kv1.1)), .val (.int c0), .val (.int c1), .val (.int c2), .val (.int t2.1), .val (.int t3.1), .val (.int t4.1), .val (.int (1 : Int32)), .unset, .unset, .unset, .unset, .unset, .unset, .unset] [(.int z39)])) (G := own_gc p e below s _ _ _ _ _) ?_ ?_
            · intro z39 T39 X39 e39
              show own_gc p e below s _ _ _ _ _ (T39.setTop (mkF m 142 #[.val (.int p1), .val (.int p2), .val (.int p3), .val (.int p4), .val (.int (Int32.ofNat k1)), .val (.int (Int32.ofNat kv1.1)), .val (.int c0), .val (.int c1), .val (.int c2), .val (.int t2.1), .val (.int t3.1), .val (.int t4.1), .val (.int (1 : Int32)), .unset, .unset, .unset, .unset, .unset, .unset, .unset] [(.int z39)]))
              refine own_ofc (fun tt_ => XS.istore X39.here hx rfl (hb hby at_142) rfl (l' := #[.val (.int p1), .val (.int p2), .val (.int p3), .val (.int p4), .val (.int (Int32.ofNat k1)), .val (.int (Int32.ofNat kv1.1)), .val (.int c0), .val (.int c1), .val (.int c2), .val (.int t2.1), .val (.int t3.1), .val (.int t4.1), .val (.int (1 : Int32)), .val (.int z39), .unset, .unset, .unset, .unset, .unset, .unset]) rfl) ?_
              show own_gc p e below s _ _ _ _ _ (T39.setTop (mkF m 144 #[.val (.int p1), .val (.int p2), .val (.int p3), .val (.int p4), .val (.int (Int32.ofNat k1)), .val (.int (Int32.ofNat kv1.1)), .val (.int c0), .val (.int c1), .val (.int c2), .val (.int t2.1), .val (.int t3.1), .val (.int t4.1), .val (.int (1 : Int32)), .val (.int z39), .unset, .unset, .unset, .unset, .unset, .unset] []))
              refine own_ofc (fun tt_ => XS.iloadN X39.here hx rfl (hb hby at_144) rfl) ?_
              show own_gc p e below s _ _ _ _ _ (T39.setTop (mkF m 145 #[.val (.int p1), .val (.int p2), .val (.int p3), .val (.int p4), .val (.int (Int32.ofNat k1)), .val (.int (Int32.ofNat kv1.1)), .val (.int c0), .val (.int c1), .val (.int c2), .val (.int t2.1), .val (.int t3.1), .val (.int t4.1), .val (.int (1 : Int32)), .val (.int z39), .unset, .unset, .unset, .unset, .unset, .unset] [(.int p4)]))
              refine own_ofc (fun tt_ => XS.bipush X39.here hx rfl (hb hby at_145)) ?_
              show own_gc p e below s _ _ _ _ _ (T39.setTop (mkF m 147 #[.val (.int p1), .val (.int p2), .val (.int p3), .val (.int p4), .val (.int (Int32.ofNat k1)), .val (.int (Int32.ofNat kv1.1)), .val (.int c0), .val (.int c1), .val (.int c2), .val (.int t2.1), .val (.int t3.1), .val (.int t4.1), .val (.int (1 : Int32)), .val (.int z39), .unset, .unset, .unset, .unset, .unset, .unset] [(.int (8 : Int32)), (.int p4)]))
              refine own_ofc (fun tt_ => XS.iand X39.here hx rfl (hb hby at_147) rfl) ?_
              show own_gc p e below s _ _ _ _ _ (T39.setTop (mkF m 148 #[.val (.int p1), .val (.int p2), .val (.int p3), .val (.int p4), .val (.int (Int32.ofNat k1)), .val (.int (Int32.ofNat kv1.1)), .val (.int c0), .val (.int c1), .val (.int c2), .val (.int t2.1), .val (.int t3.1), .val (.int t4.1), .val (.int (1 : Int32)), .val (.int z39), .unset, .unset, .unset, .unset, .unset, .unset] [(.int (p4 &&& (8 : Int32)))]))
              refine own_use X39 (h := h0) (g := fun z40 : Int32 => (mkF m 156 #[.val (.int p1), .val (.int p2), .val (.int p3), .val (.int p4), .val (.int (Int32.ofNat k1)), .val (.int (Int32.ofNat kv1.1)), .val (.int c0), .val (.int c1), .val (.int c2), .val (.int t2.1), .val (.int t3.1), .val (.int t4.1), .val (.int (1 : Int32)), .val (.int z39), .unset, .unset, .unset, .unset, .unset, .unset] [(.int z40)])) (G := own_gc p e below s _ _ _ _ _) ?_ ?_
              · intro z40 T40 X40 e40
                show own_gc p e below s _ _ _ _ _ (T40.setTop (mkF m 156 #[.val (.int p1), .val (.int p2), .val (.int p3), .val (.int p4), .val (.int (Int32.ofNat k1)), .val (.int (Int32.ofNat kv1.1)), .val (.int c0), .val (.int c1), .val (.int c2), .val (.int t2.1), .val (.int t3.1), .val (.int t4.1), .val (.int (1 : Int32)), .val (.int z39), .unset, .unset, .unset, .unset, .unset, .unset] [(.int z40)]))
                refine own_ofc (fun tt_ => XS.istore X40.here hx rfl (hb hby at_156) rfl (l' := #[.val (.int p1), .val (.int p2), .val (.int p3), .val (.int p4), .val (.int (Int32.ofNat k1)), .val (.int (Int32.ofNat kv1.1)), .val (.int c0), .val (.int c1), .val (.int c2), .val (.int t2.1), .val (.int t3.1), .val (.int t4.1), .val (.int (1 : Int32)), .val (.int z39), .val (.int z40), .unset, .unset, .unset, .unset, .unset]) rfl) ?_
                show own_gc p e below s _ _ _ _ _ (T40.setTop (mkF m 158 #[.val (.int p1), .val (.int p2), .val (.int p3), .val (.int p4), .val (.int (Int32.ofNat k1)), .val (.int (Int32.ofNat kv1.1)), .val (.int c0), .val (.int c1), .val (.int c2), .val (.int t2.1), .val (.int t3.1), .val (.int t4.1), .val (.int (1 : Int32)), .val (.int z39), .val (.int z40), .unset, .unset, .unset, .unset, .unset] []))
                refine own_ofc (fun tt_ => XS.iloadN X40.here hx rfl (hb hby at_158) rfl) ?_
                show own_gc p e below s _ _ _ _ _ (T40.setTop (mkF m 159 #[.val (.int p1), .val (.int p2), .val (.int p3), .val (.int p4), .val (.int (Int32.ofNat k1)), .val (.int (Int32.ofNat kv1.1)), .val (.int c0), .val (.int c1), .val (.int c2), .val (.int t2.1), .val (.int t3.1), .val (.int t4.1), .val (.int (1 : Int32)), .val (.int z39), .val (.int z40), .unset, .unset, .unset, .unset, .unset] [(.int p4)]))
                refine own_ofc (fun tt_ => XS.bipush X40.here hx rfl (hb hby at_159)) ?_
                show own_gc p e below s _ _ _ _ _ (T40.setTop (mkF m 161 #[.val (.int p1), .val (.int p2), .val (.int p3), .val (.int p4), .val (.int (Int32.ofNat k1)), .val (.int (Int32.ofNat kv1.1)), .val (.int c0), .val (.int c1), .val (.int c2), .val (.int t2.1), .val (.int t3.1), .val (.int t4.1), .val (.int (1 : Int32)), .val (.int z39), .val (.int z40), .unset, .unset, .unset, .unset, .unset] [(.int (16 : Int32)), (.int p4)]))
                refine own_ofc (fun tt_ => XS.iand X40.here hx rfl (hb hby at_161) rfl) ?_
                show own_gc p e below s _ _ _ _ _ (T40.setTop (mkF m 162 #[.val (.int p1), .val (.int p2), .val (.int p3), .val (.int p4), .val (.int (Int32.ofNat k1)), .val (.int (Int32.ofNat kv1.1)), .val (.int c0), .val (.int c1), .val (.int c2), .val (.int t2.1), .val (.int t3.1), .val (.int t4.1), .val (.int (1 : Int32)), .val (.int z39), .val (.int z40), .unset, .unset, .unset, .unset, .unset] [(.int (p4 &&& (16 : Int32)))]))
                refine own_use X40 (h := h0) (g := fun z41 : Int32 => (mkF m 170 #[.val (.int p1), .val (.int p2), .val (.int p3), .val (.int p4), .val (.int (Int32.ofNat k1)), .val (.int (Int32.ofNat kv1.1)), .val (.int c0), .val (.int c1), .val (.int c2), .val (.int t2.1), .val (.int t3.1), .val (.int t4.1), .val (.int (1 : Int32)), .val (.int z39), .val (.int z40), .unset, .unset, .unset, .unset, .unset] [(.int z41)])) (G := own_gc p e below s _ _ _ _ _) ?_ ?_
                · intro z41 T41 X41 e41
                  show own_gc p e below s _ _ _ _ _ (T41.setTop (mkF m 170 #[.val (.int p1), .val (.int p2), .val (.int p3), .val (.int p4), .val (.int (Int32.ofNat k1)), .val (.int (Int32.ofNat kv1.1)), .val (.int c0), .val (.int c1), .val (.int c2), .val (.int t2.1), .val (.int t3.1), .val (.int t4.1), .val (.int (1 : Int32)), .val (.int z39), .val (.int z40), .unset, .unset, .unset, .unset, .unset] [(.int z41)]))
                  refine own_ofc (fun tt_ => XS.istore X41.here hx rfl (hb hby at_170) rfl (l' := #[.val (.int p1), .val (.int p2), .val (.int p3), .val (.int p4), .val (.int (Int32.ofNat k1)), .val (.int (Int32.ofNat kv1.1)), .val (.int c0), .val (.int c1), .val (.int c2), .val (.int t2.1), .val (.int t3.1), .val (.int t4.1), .val (.int (1 : Int32)), .val (.int z39), .val (.int z40), .val (.int z41), .unset, .unset, .unset, .unset]) rfl) ?_
                  show own_gc p e below s _ _ _ _ _ (T41.setTop (mkF m 172 #[.val (.int p1), .val (.int p2), .val (.int p3), .val (.int p4), .val (.int (Int32.ofNat k1)), .val (.int (Int32.ofNat kv1.1)), .val (.int c0), .val (.int c1), .val (.int c2), .val (.int t2.1), .val (.int t3.1), .val (.int t4.1), .val (.int (1 : Int32)), .val (.int z39), .val (.int z40), .val (.int z41), .unset, .unset, .unset, .unset] []))
                  refine own_ofc (fun tt_ => XS.iload X41.here hx rfl (hb hby at_172) rfl) ?_
                  show own_gc p e below s _ _ _ _ _ (T41.setTop (mkF m 174 #[.val (.int p1), .val (.int p2), .val (.int p3), .val (.int p4), .val (.int (Int32.ofNat k1)), .val (.int (Int32.ofNat kv1.1)), .val (.int c0), .val (.int c1), .val (.int c2), .val (.int t2.1), .val (.int t3.1), .val (.int t4.1), .val (.int (1 : Int32)), .val (.int z39), .val (.int z40), .val (.int z41), .unset, .unset, .unset, .unset] [(.int (Int32.ofNat k1))]))
                  refine own_ofc (fun tt_ => XS.iload X41.here hx rfl (hb hby at_174) rfl) ?_
                  show own_gc p e below s _ _ _ _ _ (T41.setTop (mkF m 176 #[.val (.int p1), .val (.int p2), .val (.int p3), .val (.int p4), .val (.int (Int32.ofNat k1)), .val (.int (Int32.ofNat kv1.1)), .val (.int c0), .val (.int c1), .val (.int c2), .val (.int t2.1), .val (.int t3.1), .val (.int t4.1), .val (.int (1 : Int32)), .val (.int z39), .val (.int z40), .val (.int z41), .unset, .unset, .unset, .unset] [(.int c0), (.int (Int32.ofNat k1))]))
                  refine own_ofc (fun tt_ => XS.iload X41.here hx rfl (hb hby at_176) rfl) ?_
                  show own_gc p e below s _ _ _ _ _ (T41.setTop (mkF m 178 #[.val (.int p1), .val (.int p2), .val (.int p3), .val (.int p4), .val (.int (Int32.ofNat k1)), .val (.int (Int32.ofNat kv1.1)), .val (.int c0), .val (.int c1), .val (.int c2), .val (.int t2.1), .val (.int t3.1), .val (.int t4.1), .val (.int (1 : Int32)), .val (.int z39), .val (.int z40), .val (.int z41), .unset, .unset, .unset, .unset] [(.int c1), (.int c0), (.int (Int32.ofNat k1))]))
                  refine own_ofc (fun tt_ => XS.iload X41.here hx rfl (hb hby at_178) rfl) ?_
                  show own_gc p e below s _ _ _ _ _ (T41.setTop (mkF m 180 #[.val (.int p1), .val (.int p2), .val (.int p3), .val (.int p4), .val (.int (Int32.ofNat k1)), .val (.int (Int32.ofNat kv1.1)), .val (.int c0), .val (.int c1), .val (.int c2), .val (.int t2.1), .val (.int t3.1), .val (.int t4.1), .val (.int (1 : Int32)), .val (.int z39), .val (.int z40), .val (.int z41), .unset, .unset, .unset, .unset] [(.int c2), (.int c1), (.int c0), (.int (Int32.ofNat k1))]))
                  obtain ⟨_, _, ⟨T42, L42, k42, n42⟩, -, Xr42, hSr42, hgr42, ⟨Lc42, hQ42, l42, y42, z42, CHs42⟩, st42⟩ := callSS X41 hx (y := (⟨"com/example/practory/practory/resource/ElementDefinitionsDefinesItsElementsPinLaw", "str", "(ICCC)Ljava/lang/String;"⟩ : MethodName)) hown (mvT hZ (hW 0 _ rfl)) (mvT hZ (hW 1 _ rfl)) (mvT hZ (hW 2 _ rfl)) (mvT hZ (hW 3 _ rfl)) (by decide) (backOfSH (W := 0) (rmS l Z a0 hw [] k1 c0 c1 c2 G1 h0 n0 hEL XO0 O2 P5 hc0 hc1 hc2 hk1) hZ (hW 3 _ rfl) (hW 2 _ rfl) (by decide) (by decide) hEL CH0.1) (g := (mkF m 180 #[.val (.int p1), .val (.int p2), .val (.int p3), .val (.int p4), .val (.int (Int32.ofNat k1)), .val (.int (Int32.ofNat kv1.1)), .val (.int c0), .val (.int c1), .val (.int c2), .val (.int t2.1), .val (.int t3.1), .val (.int t4.1), .val (.int (1 : Int32)), .val (.int z39), .val (.int z40), .val (.int z41), .unset, .unset, .unset, .unset] [(.int c2), (.int c1), (.int c0), (.int (Int32.ofNat k1))])) rfl (by rw [hml]; rfl) (argsL := [(.int (Int32.ofNat k1)), (.int c0), (.int c1), (.int c2)]) (rest := []) (lenOf pd_4 rfl) rfl (by show 2 * 0 + _ ≤ _; exact Nat.le_of_eq rfl) (hb hby at_180) (fun _ _ => ⟨rfl, e41, (by decide : 0 + 6 ≤ _), (by decide : 0 + 12 ≤ _)⟩)
                  dsimp only [Pt.U, Pt.locs, Pt.cells, Pt.slots] at Xr42 l42 y42 z42 st42 hQ42 hSr42 hgr42 CHs42
                  obtain ⟨X42, hS42, hZ42, hown42⟩ := rebS hS0 (by rw [e41]; omega : 0 ≤ T41.heap.size) Xr42 hSr42 hgr42 hZ hown
                  subst l42 y42 z42
                  obtain ⟨s42, rfl, Nq42, Kp42, gs42, Ss42⟩ := hQ42
                  have N42 := Fr.app N0 Nq42
                  refine own_ofc (fun tt_ kk_ => st42.trans kk_) ?_
                  have CH42 := CH0.trans CHs42
                  have sz42 : h0.size ≤ T42.heap.size := Kp42.1
                  have O42 : Old Z n0 T42.heap := XO0.keep Kp42 all0
                  have lts42 := own_lt Ss42.lt
                  show own_gc p e below s _ _ _ _ _ (T42.setTop (mkF m 183 #[.val (.int p1), .val (.int p2), .val (.int p3), .val (.int p4), .val (.int (Int32.ofNat k1)), .val (.int (Int32.ofNat kv1.1)), .val (.int c0), .val (.int c1), .val (.int c2), .val (.int t2.1), .val (.int t3.1), .val (.int t4.1), .val (.int (1 : Int32)), .val (.int z39), .val (.int z40), .val (.int z41), .unset, .unset, .unset, .unset] [(.ref s42)]))
                  refine own_ofc (fun tt_ => XS.astore X42.here hx rfl (hb hby at_183) rfl rfl (l' := #[.val (.int p1), .val (.int p2), .val (.int p3), .val (.int p4), .val (.int (Int32.ofNat k1)), .val (.int (Int32.ofNat kv1.1)), .val (.int c0), .val (.int c1), .val (.int c2), .val (.int t2.1), .val (.int t3.1), .val (.int t4.1), .val (.int (1 : Int32)), .val (.int z39), .val (.int z40), .val (.int z41), .val (.ref s42), .unset, .unset, .unset]) rfl) ?_
                  show own_gc p e below s _ _ _ _ _ (T42.setTop (mkF m 185 #[.val (.int p1), .val (.int p2), .val (.int p3), .val (.int p4), .val (.int (Int32.ofNat k1)), .val (.int (Int32.ofNat kv1.1)), .val (.int c0), .val (.int c1), .val (.int c2), .val (.int t2.1), .val (.int t3.1), .val (.int t4.1), .val (.int (1 : Int32)), .val (.int z39), .val (.int z40), .val (.int z41), .val (.ref s42), .unset, .unset, .unset] []))
                  refine own_ofc (fun tt_ => XS.iload X42.here hx rfl (hb hby at_185) rfl) ?_
                  show own_gc p e below s _ _ _ _ _ (T42.setTop (mkF m 187 #[.val (.int p1), .val (.int p2), .val (.int p3), .val (.int p4), .val (.int (Int32.ofNat k1)), .val (.int (Int32.ofNat kv1.1)), .val (.int c0), .val (.int c1), .val (.int c2), .val (.int t2.1), .val (.int t3.1), .val (.int t4.1), .val (.int (1 : Int32)), .val (.int z39), .val (.int z40), .val (.int z41), .val (.ref s42), .unset, .unset, .unset] [(.int (1 : Int32))]))
                  have hb187_43 : ¬ ((1 : Int32) = (0 : Int32)) := by decide
                  refine own_ofc (fun tt_ => XS.ifNo X42.here hx rfl (hb hby at_187) rfl ((if0 _ _).trans (feq hb187_43).1)) ?_
                  show own_gc p e below s _ _ _ _ _ (T42.setTop (mkF m 190 #[.val (.int p1), .val (.int p2), .val (.int p3), .val (.int p4), .val (.int (Int32.ofNat k1)), .val (.int (Int32.ofNat kv1.1)), .val (.int c0), .val (.int c1), .val (.int c2), .val (.int t2.1), .val (.int t3.1), .val (.int t4.1), .val (.int (1 : Int32)), .val (.int z39), .val (.int z40), .val (.int z41), .val (.ref s42), .unset, .unset, .unset] []))
                  refine own_ofc (fun tt_ => XS.aconstNull X42.here hx rfl (hb hby at_190)) ?_
                  show own_gc p e below s _ _ _ _ _ (T42.setTop (mkF m 191 #[.val (.int p1), .val (.int p2), .val (.int p3), .val (.int p4), .val (.int (Int32.ofNat k1)), .val (.int (Int32.ofNat kv1.1)), .val (.int c0), .val (.int c1), .val (.int c2), .val (.int t2.1), .val (.int t3.1), .val (.int t4.1), .val (.int (1 : Int32)), .val (.int z39), .val (.int z40), .val (.int z41), .val (.ref s42), .unset, .unset, .unset] [.null]))
                  refine own_ofc (fun tt_ => XS.goto X42.here hx rfl (pc0 := 191) (pc' := 205) rfl (hb hby at_191) (by decide) (by decide)) ?_
                  show own_gc p e below s _ _ _ _ _ (T42.setTop (mkF m 205 #[.val (.int p1), .val (.int p2), .val (.int p3), .val (.int p4), .val (.int (Int32.ofNat k1)), .val (.int (Int32.ofNat kv1.1)), .val (.int c0), .val (.int c1), .val (.int c2), .val (.int t2.1), .val (.int t3.1), .val (.int t4.1), .val (.int (1 : Int32)), .val (.int z39), .val (.int z40), .val (.int z41), .val (.ref s42), .unset, .unset, .unset] [.null]))
                  refine own_ofc (fun tt_ => XS.astore X42.here hx rfl (hb hby at_205) rfl rfl (l' := #[.val (.int p1), .val (.int p2), .val (.int p3), .val (.int p4), .val (.int (Int32.ofNat k1)), .val (.int (Int32.ofNat kv1.1)), .val (.int c0), .val (.int c1), .val (.int c2), .val (.int t2.1), .val (.int t3.1), .val (.int t4.1), .val (.int (1 : Int32)), .val (.int z39), .val (.int z40), .val (.int z41), .val (.ref s42), .val .null, .unset, .unset]) rfl) ?_
                  show own_gc p e below s _ _ _ _ _ (T42.setTop (mkF m 207 #[.val (.int p1), .val (.int p2), .val (.int p3), .val (.int p4), .val (.int (Int32.ofNat k1)), .val (.int (Int32.ofNat kv1.1)), .val (.int c0), .val (.int c1), .val (.int c2), .val (.int t2.1), .val (.int t3.1), .val (.int t4.1), .val (.int (1 : Int32)), .val (.int z39), .val (.int z40), .val (.int z41), .val (.ref s42), .val .null, .unset, .unset] []))
                  refine own_ofc (fun tt_ => XS.iload X42.here hx rfl (hb hby at_207) rfl) ?_
                  show own_gc p e below s _ _ _ _ _ (T42.setTop (mkF m 209 #[.val (.int p1), .val (.int p2), .val (.int p3), .val (.int p4), .val (.int (Int32.ofNat k1)), .val (.int (Int32.ofNat kv1.1)), .val (.int c0), .val (.int c1), .val (.int c2), .val (.int t2.1), .val (.int t3.1), .val (.int t4.1), .val (.int (1 : Int32)), .val (.int z39), .val (.int z40), .val (.int z41), .val (.ref s42), .val .null, .unset, .unset] [(.int (1 : Int32))]))
                  have hb209_44 : ¬ ((1 : Int32) = (0 : Int32)) := by decide
                  refine own_ofc (fun tt_ => XS.ifNo X42.here hx rfl (hb hby at_209) rfl ((if0 _ _).trans (feq hb209_44).1)) ?_
                  show own_gc p e below s _ _ _ _ _ (T42.setTop (mkF m 212 #[.val (.int p1), .val (.int p2), .val (.int p3), .val (.int p4), .val (.int (Int32.ofNat k1)), .val (.int (Int32.ofNat kv1.1)), .val (.int c0), .val (.int c1), .val (.int c2), .val (.int t2.1), .val (.int t3.1), .val (.int t4.1), .val (.int (1 : Int32)), .val (.int z39), .val (.int z40), .val (.int z41), .val (.ref s42), .val .null, .unset, .unset] []))
                  refine own_ofc (fun tt_ => XS.iconst X42.here hx rfl (hb hby at_212)) ?_
                  show own_gc p e below s _ _ _ _ _ (T42.setTop (mkF m 213 #[.val (.int p1), .val (.int p2), .val (.int p3), .val (.int p4), .val (.int (Int32.ofNat k1)), .val (.int (Int32.ofNat kv1.1)), .val (.int c0), .val (.int c1), .val (.int c2), .val (.int t2.1), .val (.int t3.1), .val (.int t4.1), .val (.int (1 : Int32)), .val (.int z39), .val (.int z40), .val (.int z41), .val (.ref s42), .val .null, .unset, .unset] [(.int (1 : Int32))]))
                  refine own_ofc (fun tt_ => XS.istore X42.here hx rfl (hb hby at_213) rfl (l' := #[.val (.int p1), .val (.int p2), .val (.int p3), .val (.int p4), .val (.int (Int32.ofNat k1)), .val (.int (Int32.ofNat kv1.1)), .val (.int c0), .val (.int c1), .val (.int c2), .val (.int t2.1), .val (.int t3.1), .val (.int t4.1), .val (.int (1 : Int32)), .val (.int z39), .val (.int z40), .val (.int z41), .val (.ref s42), .val .null, .val (.int (1 : Int32)), .unset]) rfl) ?_
                  show own_gc p e below s _ _ _ _ _ (T42.setTop (mkF m 215 #[.val (.int p1), .val (.int p2), .val (.int p3), .val (.int p4), .val (.int (Int32.ofNat k1)), .val (.int (Int32.ofNat kv1.1)), .val (.int c0), .val (.int c1), .val (.int c2), .val (.int t2.1), .val (.int t3.1), .val (.int t4.1), .val (.int (1 : Int32)), .val (.int z39), .val (.int z40), .val (.int z41), .val (.ref s42), .val .null, .val (.int (1 : Int32)), .unset] []))
                  refine own_ofc (fun tt_ => XS.goto X42.here hx rfl (pc0 := 215) (pc' := 276) rfl (hb hby at_215) (by decide) (by decide)) ?_
                  show own_gc p e below s _ _ _ _ _ (T42.setTop (mkF m 276 #[.val (.int p1), .val (.int p2), .val (.int p3), .val (.int p4), .val (.int (Int32.ofNat k1)), .val (.int (Int32.ofNat kv1.1)), .val (.int c0), .val (.int c1), .val (.int c2), .val (.int t2.1), .val (.int t3.1), .val (.int t4.1), .val (.int (1 : Int32)), .val (.int z39), .val (.int z40), .val (.int z41), .val (.ref s42), .val .null, .val (.int (1 : Int32)), .unset] []))
                  obtain ⟨T45, h45, X45, e45, E45, A45, D45, -, st45⟩ := newO X42 hx hZ42 hown42 (hW 26 _ rfl) (hW 27 _ rfl) (hW 28 _ rfl) rfl (g := (mkF m 276 #[.val (.int p1), .val (.int p2), .val (.int p3), .val (.int p4), .val (.int (Int32.ofNat k1)), .val (.int (Int32.ofNat kv1.1)), .val (.int c0), .val (.int c1), .val (.int c2), .val (.int t2.1), .val (.int t3.1), .val (.int t4.1), .val (.int (1 : Int32)), .val (.int z39), .val (.int z40), .val (.int z41), .val (.ref s42), .val .null, .val (.int (1 : Int32)), .unset] [])) rfl (hb hby at_276) (by decide) (by decide)
                  obtain ⟨b45, g45⟩ : ∃ z, z = T42.heap.size := ⟨_, rfl⟩
                  rw [← g45] at A45 D45 st45
                  refine own_ofc st45 ?_
                  have lt45 := own_lt A45.lt
                  have sz45 : T42.heap.size ≤ h45.size := E45.1
                  have O45 : Old Z n0 h45 := O42.ext E45
                  have z45 : n0 ≤ b45 := by have := O42.1 ▸ O42.2.1; omega
                  have CHs45 := CHr.ext E45 CH42.1
                  have Sf45 := Safe.ext E45 CH42.1 (Safe.new (Nat.le_of_eq g45.symm))
                  have CH45 := CH42.trans CHs45
                  have F45_type : Fld Z h45 b45 "com/example/practory/practory/resource/ElementDefinitions$Element" "type" "Ljava/lang/String;" .null := D45 (Or.inr (hW 39 _ rfl)) (ty := (.object "java/lang/String")) pf_2
                  have F45_primitive : Fld Z h45 b45 "com/example/practory/practory/resource/ElementDefinitions$Element" "primitive" "Z" (.int (0 : Int32)) := D45 (Or.inr (hW 41 _ rfl)) (ty := .boolean) pf_3
                  have F45_children : Fld Z h45 b45 "com/example/practory/practory/resource/ElementDefinitions$Element" "children" "Ljava/lang/String;" .null := D45 (Or.inr (hW 43 _ rfl)) (ty := (.object "java/lang/String")) pf_2
                  have F45_summary : Fld Z h45 b45 "com/example/practory/practory/resource/ElementDefinitions$Element" "summary" "Z" (.int (0 : Int32)) := D45 (Or.inr (hW 45 _ rfl)) (ty := .boolean) pf_3
                  have F45_required : Fld Z h45 b45 "com/example/practory/practory/resource/ElementDefinitions$Element" "required" "Z" (.int (0 : Int32)) := D45 (Or.inr (hW 47 _ rfl)) (ty := .boolean) pf_3
                  show own_gc p e below s _ _ _ _ _ (T45.setTop (mkF m 279 #[.val (.int p1), .val (.int p2), .val (.int p3), .val (.int p4), .val (.int (Int32.ofNat k1)), .val (.int (Int32.ofNat kv1.1)), .val (.int c0), .val (.int c1), .val (.int c2), .val (.int t2.1), .val (.int t3.1), .val (.int t4.1), .val (.int (1 : Int32)), .val (.int z39), .val (.int z40), .val (.int z41), .val (.ref s42), .val .null, .val (.int (1 : Int32)), .unset] [(.ref b45)]))
                  refine own_ofc (fun tt_ => XS.dup X45.here hx rfl (hb hby at_279) rfl rfl) ?_
                  show own_gc p e below s _ _ _ _ _ (T45.setTop (mkF m 280 #[.val (.int p1), .val (.int p2), .val (.int p3), .val (.int p4), .val (.int (Int32.ofNat k1)), .val (.int (Int32.ofNat kv1.1)), .val (.int c0), .val (.int c1), .val (.int c2), .val (.int t2.1), .val (.int t3.1), .val (.int t4.1), .val (.int (1 : Int32)), .val (.int z39), .val (.int z40), .val (.int z41), .val (.ref s42), .val .null, .val (.int (1 : Int32)), .unset] [(.ref b45), (.ref b45)]))
                  refine own_ofc (fun tt_ => XS.aload X45.here hx rfl (hb hby at_280) rfl rfl) ?_
                  show own_gc p e below s _ _ _ _ _ (T45.setTop (mkF m 282 #[.val (.int p1), .val (.int p2), .val (.int p3), .val (.int p4), .val (.int (Int32.ofNat k1)), .val (.int (Int32.ofNat kv1.1)), .val (.int c0), .val (.int c1), .val (.int c2), .val (.int t2.1), .val (.int t3.1), .val (.int t4.1), .val (.int (1 : Int32)), .val (.int z39), .val (.int z40), .val (.int z41), .val (.ref s42), .val .null, .val (.int (1 : Int32)), .unset] [.null, (.ref b45), (.ref b45)]))
                  refine own_ofc (fun tt_ => XS.iload X45.here hx rfl (hb hby at_282) rfl) ?_
                  show own_gc p e below s _ _ _ _ _ (T45.setTop (mkF m 284 #[.val (.int p1), .val (.int p2), .val (.int p3), .val (.int p4), .val (.int (Int32.ofNat k1)), .val (.int (Int32.ofNat kv1.1)), .val (.int c0), .val (.int c1), .val (.int c2), .val (.int t2.1), .val (.int t3.1), .val (.int t4.1), .val (.int (1 : Int32)), .val (.int z39), .val (.int z40), .val (.int z41), .val (.ref s42), .val .null, .val (.int (1 : Int32)), .unset] [(.int z39), .null, (.ref b45), (.ref b45)]))
                  refine own_ofc (fun tt_ => XS.aload X45.here hx rfl (hb hby at_284) rfl rfl) ?_
                  show own_gc p e below s _ _ _ _ _ (T45.setTop (mkF m 286 #[.val (.int p1), .val (.int p2), .val (.int p3), .val (.int p4), .val (.int (Int32.ofNat k1)), .val (.int (Int32.ofNat kv1.1)), .val (.int c0), .val (.int c1), .val (.int c2), .val (.int t2.1), .val (.int t3.1), .val (.int t4.1), .val (.int (1 : Int32)), .val (.int z39), .val (.int z40), .val (.int z41), .val (.ref s42), .val .null, .val (.int (1 : Int32)), .unset] [(.ref s42), (.int z39), .null, (.ref b45), (.ref b45)]))
                  refine own_ofc (fun tt_ => XS.iload X45.here hx rfl (hb hby at_286) rfl) ?_
                  show own_gc p e below s _ _ _ _ _ (T45.setTop (mkF m 288 #[.val (.int p1), .val (.int p2), .val (.int p3), .val (.int p4), .val (.int (Int32.ofNat k1)), .val (.int (Int32.ofNat kv1.1)), .val (.int c0), .val (.int c1), .val (.int c2), .val (.int t2.1), .val (.int t3.1), .val (.int t4.1), .val (.int (1 : Int32)), .val (.int z39), .val (.int z40), .val (.int z41), .val (.ref s42), .val .null, .val (.int (1 : Int32)), .unset] [(.int z40), (.ref s42), (.int z39), .null, (.ref b45), (.ref b45)]))
                  refine own_ofc (fun tt_ => XS.iload X45.here hx rfl (hb hby at_288) rfl) ?_
                  show own_gc p e below s _ _ _ _ _ (T45.setTop (mkF m 290 #[.val (.int p1), .val (.int p2), .val (.int p3), .val (.int p4), .val (.int (Int32.ofNat k1)), .val (.int (Int32.ofNat kv1.1)), .val (.int c0), .val (.int c1), .val (.int c2), .val (.int t2.1), .val (.int t3.1), .val (.int t4.1), .val (.int (1 : Int32)), .val (.int z39), .val (.int z40), .val (.int z41), .val (.ref s42), .val .null, .val (.int (1 : Int32)), .unset] [(.int z41), (.int z40), (.ref s42), (.int z39), .null, (.ref b45), (.ref b45)]))
                  obtain ⟨_, _, ⟨T46, L46, k46, n46⟩, -, X46, ⟨Lc46, hQ46, l46, y46, z46⟩, st46⟩ := X45.specialBack hx (y := (⟨"com/example/practory/practory/resource/ElementDefinitions$Element", "<init>", "(Ljava/lang/String;ZLjava/lang/String;ZZ)V"⟩ : MethodName)) rfl hown42 (mvT hZ42 (hW 29 _ rfl)) (mvT hZ42 (hW 30 _ rfl)) (mvT hZ42 (hW 31 _ rfl)) (by decide) (backOf (W := 1) (rmE_n l Z a0 hw [] b45 z39 s42 z40 z41 h45 n0 O45 (by omega) A45 F45_type F45_primitive F45_children F45_summary F45_required) hZ42 (hW 31 _ rfl) (hW 28 _ rfl) (by decide) (by decide)) (g := (mkF m 290 #[.val (.int p1), .val (.int p2), .val (.int p3), .val (.int p4), .val (.int (Int32.ofNat k1)), .val (.int (Int32.ofNat kv1.1)), .val (.int c0), .val (.int c1), .val (.int c2), .val (.int t2.1), .val (.int t3.1), .val (.int t4.1), .val (.int (1 : Int32)), .val (.int z39), .val (.int z40), .val (.int z41), .val (.ref s42), .val .null, .val (.int (1 : Int32)), .unset] [(.int z41), (.int z40), (.ref s42), (.int z39), .null, (.ref b45), (.ref b45)])) rfl (by rw [hml]; rfl) (Steps.refl _) (a := b45) (argsL := [.null, (.int z39), (.ref s42), (.int z40), (.int z41)]) (rest := [(.ref b45)]) (lenOf pd_5 rfl) rfl (by show 2 * 0 + _ ≤ _; exact Nat.le_of_eq rfl) (hb hby at_290) (fun _ _ => ⟨rfl, e45, (by decide : 7 + 0 ≤ _), (by decide : 17 + 0 ≤ _)⟩)
                  dsimp only [Pt.U, Pt.locs, Pt.cells, Pt.slots] at X46 l46 y46 z46 st46 hQ46
                  subst l46 y46 z46
                  obtain ⟨rfl, Nq46, Kp46, Ft46, Fc46⟩ := hQ46
                  have N46 := Fr.app N42 Nq46
                  refine own_ofc (fun tt_ kk_ => st46.trans kk_) ?_
                  have CHs46 := CHr.keep Kp46 (allS Sf45 all0) CH45.1
                  have CH46 := CH45.trans CHs46
                  have sz46 : h45.size ≤ T46.heap.size := Kp46.1
                  have O46 : Old Z n0 T46.heap := O45.keep Kp46 (allS (by omega) all0)
                  show own_gc p e below s _ _ _ _ _ (T46.setTop (mkF m 293 #[.val (.int p1), .val (.int p2), .val (.int p3), .val (.int p4), .val (.int (Int32.ofNat k1)), .val (.int (Int32.ofNat kv1.1)), .val (.int c0), .val (.int c1), .val (.int c2), .val (.int t2.1), .val (.int t3.1), .val (.int t4.1), .val (.int (1 : Int32)), .val (.int z39), .val (.int z40), .val (.int z41), .val (.ref s42), .val .null, .val (.int (1 : Int32)), .unset] [(.ref b45)]))
                  refine own_ofc (fun tt_ => XS.astore X46.here hx rfl (hb hby at_293) rfl rfl (l' := #[.val (.int p1), .val (.int p2), .val (.int p3), .val (.int p4), .val (.int (Int32.ofNat k1)), .val (.int (Int32.ofNat kv1.1)), .val (.int c0), .val (.int c1), .val (.int c2), .val (.int t2.1), .val (.int t3.1), .val (.int t4.1), .val (.int (1 : Int32)), .val (.int z39), .val (.int z40), .val (.int z41), .val (.ref s42), .val .null, .val (.int (1 : Int32)), .val (.ref b45)]) rfl) ?_
                  show own_gc p e below s _ _ _ _ _ (T46.setTop (mkF m 295 #[.val (.int p1), .val (.int p2), .val (.int p3), .val (.int p4), .val (.int (Int32.ofNat k1)), .val (.int (Int32.ofNat kv1.1)), .val (.int c0), .val (.int c1), .val (.int c2), .val (.int t2.1), .val (.int t3.1), .val (.int t4.1), .val (.int (1 : Int32)), .val (.int z39), .val (.int z40), .val (.int z41), .val (.ref s42), .val .null, .val (.int (1 : Int32)), .val (.ref b45)] []))
                  refine own_ofc (fun tt_ => XS.aload X46.here hx rfl (hb hby at_295) rfl rfl) ?_
                  show own_gc p e below s _ _ _ _ _ (T46.setTop (mkF m 297 #[.val (.int p1), .val (.int p2), .val (.int p3), .val (.int p4), .val (.int (Int32.ofNat k1)), .val (.int (Int32.ofNat kv1.1)), .val (.int c0), .val (.int c1), .val (.int c2), .val (.int t2.1), .val (.int t3.1), .val (.int t4.1), .val (.int (1 : Int32)), .val (.int z39), .val (.int z40), .val (.int z41), .val (.ref s42), .val .null, .val (.int (1 : Int32)), .val (.ref b45)] [(.ref b45)]))
                  have f47 : own_str Z T46.heap s42 (own_cs k1 c0 c1 c2) := ((Ss42.ext E45).keep1 Kp46 (own_ne (by omega)) A45 (hW 27 _ rfl))
                  have Ex48 : Exa Z T46.heap s42 "java/lang/String" := by obtain ⟨_, _, _, _, q, -⟩ := id f47; exact q
                  have f50 : Exa Z T46.heap b45 "com/example/practory/practory/resource/ElementDefinitions$Element" := (A45.keep Kp46)
                  obtain ⟨cq49, kq49, q49a, q49b, q49c⟩ := isOf hZ42 rfl f50
                  obtain ⟨_, _, ⟨T49, L49, k49, n49⟩, -, X49, ⟨Lc49, hQ49, l49, y49, z49⟩, st49⟩ := X46.virtualBack hx (y := (⟨"com/example/practory/practory/resource/ElementDefinitions$Element", "definesItsElements", "()Z"⟩ : MethodName)) (z := (⟨"com/example/practory/practory/resource/ElementDefinitions$Element", "definesItsElements", "()Z"⟩ : MethodName)) hown42 (mvT hZ42 (hW 48 _ rfl)) (mvT hZ42 (hW 49 _ rfl)) (notFace_of_selects (args := #[]) (mvT hZ42 (hW 51 _ rfl))) (mvT hZ42 (hW 51 _ rfl)) (mvT hZ42 (hW 50 _ rfl)) (by decide) (backOf (W := 0) (rmDn l Z a0 hw [] b45 s42 T46.heap n0 O46 Fc46 Ft46 Ex48) hZ42 (hW 52 _ rfl) (hW 28 _ rfl) (by decide) (by decide)) q49a q49c (g := (mkF m 297 #[.val (.int p1), .val (.int p2), .val (.int p3), .val (.int p4), .val (.int (Int32.ofNat k1)), .val (.int (Int32.ofNat kv1.1)), .val (.int c0), .val (.int c1), .val (.int c2), .val (.int t2.1), .val (.int t3.1), .val (.int t4.1), .val (.int (1 : Int32)), .val (.int z39), .val (.int z40), .val (.int z41), .val (.ref s42), .val .null, .val (.int (1 : Int32)), .val (.ref b45)] [(.ref b45)])) rfl (by rw [hml]; rfl) (Steps.refl _) (argsL := []) (rest := []) (lenOf pd_6 rfl) rfl (by show 2 * 0 + _ ≤ _; exact Nat.le_of_eq rfl) (hb hby at_297) (fun _ _ => ⟨rfl, rfl, (by decide : 7 + 0 ≤ _), (by decide : 17 + 0 ≤ _)⟩)
                  dsimp only [Pt.U, Pt.locs, Pt.cells, Pt.slots] at X49 l49 y49 z49 st49 hQ49
                  subst l49 y49 z49
                  obtain ⟨rfl, Nq49, eh49⟩ := hQ49
                  have N49 := Fr.app N46 Nq49
                  refine own_ofc (fun tt_ kk_ => st49.trans kk_) ?_
                  show own_gc p e below s _ _ _ _ _ (T49.setTop (mkF m 300 #[.val (.int p1), .val (.int p2), .val (.int p3), .val (.int p4), .val (.int (Int32.ofNat k1)), .val (.int (Int32.ofNat kv1.1)), .val (.int c0), .val (.int c1), .val (.int c2), .val (.int t2.1), .val (.int t3.1), .val (.int t4.1), .val (.int (1 : Int32)), .val (.int z39), .val (.int z40), .val (.int z41), .val (.ref s42), .val .null, .val (.int (1 : Int32)), .val (.ref b45)] [(.int (1 : Int32))]))
                  refine own_ofc (fun tt_ => XS.iload X49.here hx rfl (hb hby at_300) rfl) ?_
                  show own_gc p e below s _ _ _ _ _ (T49.setTop (mkF m 302 #[.val (.int p1), .val (.int p2), .val (.int p3), .val (.int p4), .val (.int (Int32.ofNat k1)), .val (.int (Int32.ofNat kv1.1)), .val (.int c0), .val (.int c1), .val (.int c2), .val (.int t2.1), .val (.int t3.1), .val (.int t4.1), .val (.int (1 : Int32)), .val (.int z39), .val (.int z40), .val (.int z41), .val (.ref s42), .val .null, .val (.int (1 : Int32)), .val (.ref b45)] [(.int (1 : Int32)), (.int (1 : Int32))]))
                  have hb302_51 : (1 : Int32) = (1 : Int32) := rfl
                  refine own_ofc (fun tt_ => XS.icmpNo X49.here hx rfl (hb hby at_302) rfl (teq hb302_51).2) ?_
                  show own_gc p e below s _ _ _ _ _ (T49.setTop (mkF m 305 #[.val (.int p1), .val (.int p2), .val (.int p3), .val (.int p4), .val (.int (Int32.ofNat k1)), .val (.int (Int32.ofNat kv1.1)), .val (.int c0), .val (.int c1), .val (.int c2), .val (.int t2.1), .val (.int t3.1), .val (.int t4.1), .val (.int (1 : Int32)), .val (.int z39), .val (.int z40), .val (.int z41), .val (.ref s42), .val .null, .val (.int (1 : Int32)), .val (.ref b45)] []))
                  refine own_ofc (fun tt_ => XS.iconst X49.here hx rfl (hb hby at_305)) ?_
                  show own_gc p e below s _ _ _ _ _ (T49.setTop (mkF m 306 #[.val (.int p1), .val (.int p2), .val (.int p3), .val (.int p4), .val (.int (Int32.ofNat k1)), .val (.int (Int32.ofNat kv1.1)), .val (.int c0), .val (.int c1), .val (.int c2), .val (.int t2.1), .val (.int t3.1), .val (.int t4.1), .val (.int (1 : Int32)), .val (.int z39), .val (.int z40), .val (.int z41), .val (.ref s42), .val .null, .val (.int (1 : Int32)), .val (.ref b45)] [(.int (1 : Int32))]))
                  refine own_ofc (fun tt_ => XS.goto X49.here hx rfl (pc0 := 306) (pc' := 310) rfl (hb hby at_306) (by decide) (by decide)) ?_
                  show own_gc p e below s _ _ _ _ _ (T49.setTop (mkF m 310 #[.val (.int p1), .val (.int p2), .val (.int p3), .val (.int p4), .val (.int (Int32.ofNat k1)), .val (.int (Int32.ofNat kv1.1)), .val (.int c0), .val (.int c1), .val (.int c2), .val (.int t2.1), .val (.int t3.1), .val (.int t4.1), .val (.int (1 : Int32)), .val (.int z39), .val (.int z40), .val (.int z41), .val (.ref s42), .val .null, .val (.int (1 : Int32)), .val (.ref b45)] [(.int (1 : Int32))]))
                  refine own_retc X49 hx hlk hS42 (by rw [eh49]; omega : T42.heap.size ≤ T49.heap.size) hZ42 hEL (by rw [eh49]; exact CH46) Bd.returns rfl (Or.inl ⟨rfl, by simp, _, rfl⟩) (hb hby at_310) (by decide) (by decide) ?_
                  rw [eh49]
                  exact ⟨rfl, N49⟩
                · intro j41
                  show own_gc p e below s _ _ _ _ _ (T40.setTop (mkF m 162 #[.val (.int p1), .val (.int p2), .val (.int p3), .val (.int p4), .val (.int (Int32.ofNat k1)), .val (.int (Int32.ofNat kv1.1)), .val (.int c0), .val (.int c1), .val (.int c2), .val (.int t2.1), .val (.int t3.1), .val (.int t4.1), .val (.int (1 : Int32)), .val (.int z39), .val (.int z40), .unset, .unset, .unset, .unset, .unset] [(.int (p4 &&& (16 : Int32)))]))
                  by_cases hb162_52 : (p4 &&& (16 : Int32)) = (0 : Int32)
                  · refine own_ofc (fun tt_ => XS.ifYes X40.here hx rfl (pc0 := 162) (pc' := 169) rfl (hb hby at_162) rfl ((if0 _ _).trans (teq hb162_52).1) (by decide) (by decide)) ?_
                    show own_gc p e below s _ _ _ _ _ (T40.setTop (mkF m 169 #[.val (.int p1), .val (.int p2), .val (.int p3), .val (.int p4), .val (.int (Int32.ofNat k1)), .val (.int (Int32.ofNat kv1.1)), .val (.int c0), .val (.int c1), .val (.int c2), .val (.int t2.1), .val (.int t3.1), .val (.int t4.1), .val (.int (1 : Int32)), .val (.int z39), .val (.int z40), .unset, .unset, .unset, .unset, .unset] []))
                    refine own_ofc (fun tt_ => XS.iconst X40.here hx rfl (hb hby at_169)) ?_
                    show own_gc p e below s _ _ _ _ _ (T40.setTop (mkF m 170 #[.val (.int p1), .val (.int p2), .val (.int p3), .val (.int p4), .val (.int (Int32.ofNat k1)), .val (.int (Int32.ofNat kv1.1)), .val (.int c0), .val (.int c1), .val (.int c2), .val (.int t2.1), .val (.int t3.1), .val (.int t4.1), .val (.int (1 : Int32)), .val (.int z39), .val (.int z40), .unset, .unset, .unset, .unset, .unset] [(.int (0 : Int32))]))
                    exact j41 _ _ X40 e40
                  · refine own_ofc (fun tt_ => XS.ifNo X40.here hx rfl (hb hby at_162) rfl ((if0 _ _).trans (feq hb162_52).1)) ?_
                    show own_gc p e below s _ _ _ _ _ (T40.setTop (mkF m 165 #[.val (.int p1), .val (.int p2), .val (.int p3), .val (.int p4), .val (.int (Int32.ofNat k1)), .val (.int (Int32.ofNat kv1.1)), .val (.int c0), .val (.int c1), .val (.int c2), .val (.int t2.1), .val (.int t3.1), .val (.int t4.1), .val (.int (1 : Int32)), .val (.int z39), .val (.int z40), .unset, .unset, .unset, .unset, .unset] []))
                    refine own_ofc (fun tt_ => XS.iconst X40.here hx rfl (hb hby at_165)) ?_
                    show own_gc p e below s _ _ _ _ _ (T40.setTop (mkF m 166 #[.val (.int p1), .val (.int p2), .val (.int p3), .val (.int p4), .val (.int (Int32.ofNat k1)), .val (.int (Int32.ofNat kv1.1)), .val (.int c0), .val (.int c1), .val (.int c2), .val (.int t2.1), .val (.int t3.1), .val (.int t4.1), .val (.int (1 : Int32)), .val (.int z39), .val (.int z40), .unset, .unset, .unset, .unset, .unset] [(.int (1 : Int32))]))
                    refine own_ofc (fun tt_ => XS.goto X40.here hx rfl (pc0 := 166) (pc' := 170) rfl (hb hby at_166) (by decide) (by decide)) ?_
                    show own_gc p e below s _ _ _ _ _ (T40.setTop (mkF m 170 #[.val (.int p1), .val (.int p2), .val (.int p3), .val (.int p4), .val (.int (Int32.ofNat k1)), .val (.int (Int32.ofNat kv1.1)), .val (.int c0), .val (.int c1), .val (.int c2), .val (.int t2.1), .val (.int t3.1), .val (.int t4.1), .val (.int (1 : Int32)), .val (.int z39), .val (.int z40), .unset, .unset, .unset, .unset, .unset] [(.int (1 : Int32))]))
                    exact j41 _ _ X40 e40
              · intro j40
                show own_gc p e below s _ _ _ _ _ (T39.setTop (mkF m 148 #[.val (.int p1), .val (.int p2), .val (.int p3), .val (.int p4), .val (.int (Int32.ofNat k1)), .val (.int (Int32.ofNat kv1.1)), .val (.int c0), .val (.int c1), .val (.int c2), .val (.int t2.1), .val (.int t3.1), .val (.int t4.1), .val (.int (1 : Int32)), .val (.int z39), .unset, .unset, .unset, .unset, .unset, .unset] [(.int (p4 &&& (8 : Int32)))]))
                by_cases hb148_53 : (p4 &&& (8 : Int32)) = (0 : Int32)
                · refine own_ofc (fun tt_ => XS.ifYes X39.here hx rfl (pc0 := 148) (pc' := 155) rfl (hb hby at_148) rfl ((if0 _ _).trans (teq hb148_53).1) (by decide) (by decide)) ?_
                  show own_gc p e below s _ _ _ _ _ (T39.setTop (mkF m 155 #[.val (.int p1), .val (.int p2), .val (.int p3), .val (.int p4), .val (.int (Int32.ofNat k1)), .val (.int (Int32.ofNat kv1.1)), .val (.int c0), .val (.int c1), .val (.int c2), .val (.int t2.1), .val (.int t3.1), .val (.int t4.1), .val (.int (1 : Int32)), .val (.int z39), .unset, .unset, .unset, .unset, .unset, .unset] []))
                  refine own_ofc (fun tt_ => XS.iconst X39.here hx rfl (hb hby at_155)) ?_
                  show own_gc p e below s _ _ _ _ _ (T39.setTop (mkF m 156 #[.val (.int p1), .val (.int p2), .val (.int p3), .val (.int p4), .val (.int (Int32.ofNat k1)), .val (.int (Int32.ofNat kv1.1)), .val (.int c0), .val (.int c1), .val (.int c2), .val (.int t2.1), .val (.int t3.1), .val (.int t4.1), .val (.int (1 : Int32)), .val (.int z39), .unset, .unset, .unset, .unset, .unset, .unset] [(.int (0 : Int32))]))
                  exact j40 _ _ X39 e39
                · refine own_ofc (fun tt_ => XS.ifNo X39.here hx rfl (hb hby at_148) rfl ((if0 _ _).trans (feq hb148_53).1)) ?_
                  show own_gc p e below s _ _ _ _ _ (T39.setTop (mkF m 151 #[.val (.int p1), .val (.int p2), .val (.int p3), .val (.int p4), .val (.int (Int32.ofNat k1)), .val (.int (Int32.ofNat kv1.1)), .val (.int c0), .val (.int c1), .val (.int c2), .val (.int t2.1), .val (.int t3.1), .val (.int t4.1), .val (.int (1 : Int32)), .val (.int z39), .unset, .unset, .unset, .unset, .unset, .unset] []))
                  refine own_ofc (fun tt_ => XS.iconst X39.here hx rfl (hb hby at_151)) ?_
                  show own_gc p e below s _ _ _ _ _ (T39.setTop (mkF m 152 #[.val (.int p1), .val (.int p2), .val (.int p3), .val (.int p4), .val (.int (Int32.ofNat k1)), .val (.int (Int32.ofNat kv1.1)), .val (.int c0), .val (.int c1), .val (.int c2), .val (.int t2.1), .val (.int t3.1), .val (.int t4.1), .val (.int (1 : Int32)), .val (.int z39), .unset, .unset, .unset, .unset, .unset, .unset] [(.int (1 : Int32))]))
                  refine own_ofc (fun tt_ => XS.goto X39.here hx rfl (pc0 := 152) (pc' := 156) rfl (hb hby at_152) (by decide) (by decide)) ?_
                  show own_gc p e below s _ _ _ _ _ (T39.setTop (mkF m 156 #[.val (.int p1), .val (.int p2), .val (.int p3), .val (.int p4), .val (.int (Int32.ofNat k1)), .val (.int (Int32.ofNat kv1.1)), .val (.int c0), .val (.int c1), .val (.int c2), .val (.int t2.1), .val (.int t3.1), .val (.int t4.1), .val (.int (1 : Int32)), .val (.int z39), .unset, .unset, .unset, .unset, .unset, .unset] [(.int (1 : Int32))]))
                  exact j40 _ _ X39 e39
            · intro j39
              show own_gc p e below s _ _ _ _ _ (T4.setTop (mkF m 134 #[.val (.int p1), .val (.int p2), .val (.int p3), .val (.int p4), .val (.int (Int32.ofNat k1)), .val (.int (Int32.ofNat kv1.1)), .val (.int c0), .val (.int c1), .val (.int c2), .val (.int t2.1), .val (.int t3.1), .val (.int t4.1), .val (.int (1 : Int32)), .unset, .unset, .unset, .unset, .unset, .unset, .unset] [(.int (p4 &&& (4 : Int32)))]))
              by_cases hb134_54 : (p4 &&& (4 : Int32)) = (0 : Int32)
              · refine own_ofc (fun tt_ => XS.ifYes X4.here hx rfl (pc0 := 134) (pc' := 141) rfl (hb hby at_134) rfl ((if0 _ _).trans (teq hb134_54).1) (by decide) (by decide)) ?_
                show own_gc p e below s _ _ _ _ _ (T4.setTop (mkF m 141 #[.val (.int p1), .val (.int p2), .val (.int p3), .val (.int p4), .val (.int (Int32.ofNat k1)), .val (.int (Int32.ofNat kv1.1)), .val (.int c0), .val (.int c1), .val (.int c2), .val (.int t2.1), .val (.int t3.1), .val (.int t4.1), .val (.int (1 : Int32)), .unset, .unset, .unset, .unset, .unset, .unset, .unset] []))
                refine own_ofc (fun tt_ => XS.iconst X4.here hx rfl (hb hby at_141)) ?_
                show own_gc p e below s _ _ _ _ _ (T4.setTop (mkF m 142 #[.val (.int p1), .val (.int p2), .val (.int p3), .val (.int p4), .val (.int (Int32.ofNat k1)), .val (.int (Int32.ofNat kv1.1)), .val (.int c0), .val (.int c1), .val (.int c2), .val (.int t2.1), .val (.int t3.1), .val (.int t4.1), .val (.int (1 : Int32)), .unset, .unset, .unset, .unset, .unset, .unset, .unset] [(.int (0 : Int32))]))
                exact j39 _ _ X4 e4
              · refine own_ofc (fun tt_ => XS.ifNo X4.here hx rfl (hb hby at_134) rfl ((if0 _ _).trans (feq hb134_54).1)) ?_
                show own_gc p e below s _ _ _ _ _ (T4.setTop (mkF m 137 #[.val (.int p1), .val (.int p2), .val (.int p3), .val (.int p4), .val (.int (Int32.ofNat k1)), .val (.int (Int32.ofNat kv1.1)), .val (.int c0), .val (.int c1), .val (.int c2), .val (.int t2.1), .val (.int t3.1), .val (.int t4.1), .val (.int (1 : Int32)), .unset, .unset, .unset, .unset, .unset, .unset, .unset] []))
                refine own_ofc (fun tt_ => XS.iconst X4.here hx rfl (hb hby at_137)) ?_
                show own_gc p e below s _ _ _ _ _ (T4.setTop (mkF m 138 #[.val (.int p1), .val (.int p2), .val (.int p3), .val (.int p4), .val (.int (Int32.ofNat k1)), .val (.int (Int32.ofNat kv1.1)), .val (.int c0), .val (.int c1), .val (.int c2), .val (.int t2.1), .val (.int t3.1), .val (.int t4.1), .val (.int (1 : Int32)), .unset, .unset, .unset, .unset, .unset, .unset, .unset] [(.int (1 : Int32))]))
                refine own_ofc (fun tt_ => XS.goto X4.here hx rfl (pc0 := 138) (pc' := 142) rfl (hb hby at_138) (by decide) (by decide)) ?_
                show own_gc p e below s _ _ _ _ _ (T4.setTop (mkF m 142 #[.val (.int p1), .val (.int p2), .val (.int p3), .val (.int p4), .val (.int (Int32.ofNat k1)), .val (.int (Int32.ofNat kv1.1)), .val (.int c0), .val (.int c1), .val (.int c2), .val (.int t2.1), .val (.int t3.1), .val (.int t4.1), .val (.int (1 : Int32)), .unset, .unset, .unset, .unset, .unset, .unset, .unset] [(.int (1 : Int32))]))
                exact j39 _ _ X4 e4
        · intro j4
          show own_gc p e below s _ _ _ _ _ (T3.setTop (mkF m 99 #[.val (.int p1), .val (.int p2), .val (.int p3), .val (.int p4), .val (.int (Int32.ofNat k1)), .val (.int (Int32.ofNat kv1.1)), .val (.int c0), .val (.int c1), .val (.int c2), .val (.int t2.1), .val (.int t3.1), .unset, .unset, .unset, .unset, .unset, .unset, .unset, .unset, .unset] [(.int (p3 &&& (4 : Int32)))]))
          by_cases hb99_55 : (p3 &&& (4 : Int32)) = (0 : Int32)
          · refine own_ofc (fun tt_ => XS.ifYes X3.here hx rfl (pc0 := 99) (pc' := 114) rfl (hb hby at_99) rfl ((if0 _ _).trans (teq hb99_55).1) (by decide) (by decide)) ?_
            show own_gc p e below s _ _ _ _ _ (T3.setTop (mkF m 114 #[.val (.int p1), .val (.int p2), .val (.int p3), .val (.int p4), .val (.int (Int32.ofNat k1)), .val (.int (Int32.ofNat kv1.1)), .val (.int c0), .val (.int c1), .val (.int c2), .val (.int t2.1), .val (.int t3.1), .unset, .unset, .unset, .unset, .unset, .unset, .unset, .unset, .unset] []))
            refine own_ofc (fun tt_ => XS.iload X3.here hx rfl (hb hby at_114) rfl) ?_
            show own_gc p e below s _ _ _ _ _ (T3.setTop (mkF m 116 #[.val (.int p1), .val (.int p2), .val (.int p3), .val (.int p4), .val (.int (Int32.ofNat k1)), .val (.int (Int32.ofNat kv1.1)), .val (.int c0), .val (.int c1), .val (.int c2), .val (.int t2.1), .val (.int t3.1), .unset, .unset, .unset, .unset, .unset, .unset, .unset, .unset, .unset] [(.int c2)]))
            exact j4 ⟨c2, hc2⟩ _ X3 e3
          · refine own_ofc (fun tt_ => XS.ifNo X3.here hx rfl (hb hby at_99) rfl ((if0 _ _).trans (feq hb99_55).1)) ?_
            show own_gc p e below s _ _ _ _ _ (T3.setTop (mkF m 102 #[.val (.int p1), .val (.int p2), .val (.int p3), .val (.int p4), .val (.int (Int32.ofNat k1)), .val (.int (Int32.ofNat kv1.1)), .val (.int c0), .val (.int c1), .val (.int c2), .val (.int t2.1), .val (.int t3.1), .unset, .unset, .unset, .unset, .unset, .unset, .unset, .unset, .unset] []))
            refine own_ofc (fun tt_ => XS.iloadN X3.here hx rfl (hb hby at_102) rfl) ?_
            show own_gc p e below s _ _ _ _ _ (T3.setTop (mkF m 103 #[.val (.int p1), .val (.int p2), .val (.int p3), .val (.int p4), .val (.int (Int32.ofNat k1)), .val (.int (Int32.ofNat kv1.1)), .val (.int c0), .val (.int c1), .val (.int c2), .val (.int t2.1), .val (.int t3.1), .unset, .unset, .unset, .unset, .unset, .unset, .unset, .unset, .unset] [(.int p3)]))
            refine own_ofc (fun tt_ => XS.bipush X3.here hx rfl (hb hby at_103)) ?_
            show own_gc p e below s _ _ _ _ _ (T3.setTop (mkF m 105 #[.val (.int p1), .val (.int p2), .val (.int p3), .val (.int p4), .val (.int (Int32.ofNat k1)), .val (.int (Int32.ofNat kv1.1)), .val (.int c0), .val (.int c1), .val (.int c2), .val (.int t2.1), .val (.int t3.1), .unset, .unset, .unset, .unset, .unset, .unset, .unset, .unset, .unset] [(.int (24 : Int32)), (.int p3)]))
            refine own_ofc (fun tt_ => XS.iushr X3.here hx rfl (hb hby at_105) rfl) ?_
            show own_gc p e below s _ _ _ _ _ (T3.setTop (mkF m 106 #[.val (.int p1), .val (.int p2), .val (.int p3), .val (.int p4), .val (.int (Int32.ofNat k1)), .val (.int (Int32.ofNat kv1.1)), .val (.int c0), .val (.int c1), .val (.int c2), .val (.int t2.1), .val (.int t3.1), .unset, .unset, .unset, .unset, .unset, .unset, .unset, .unset, .unset] [(.int ((p3.toUInt32 >>> ((24 : Int32) &&& 31).toUInt32).toInt32))]))
            refine own_ofc (fun tt_ => XS.sipush X3.here hx rfl (hb hby at_106)) ?_
            show own_gc p e below s _ _ _ _ _ (T3.setTop (mkF m 109 #[.val (.int p1), .val (.int p2), .val (.int p3), .val (.int p4), .val (.int (Int32.ofNat k1)), .val (.int (Int32.ofNat kv1.1)), .val (.int c0), .val (.int c1), .val (.int c2), .val (.int t2.1), .val (.int t3.1), .unset, .unset, .unset, .unset, .unset, .unset, .unset, .unset, .unset] [(.int (255 : Int32)), (.int ((p3.toUInt32 >>> ((24 : Int32) &&& 31).toUInt32).toInt32))]))
            refine own_ofc (fun tt_ => XS.iand X3.here hx rfl (hb hby at_109) rfl) ?_
            show own_gc p e below s _ _ _ _ _ (T3.setTop (mkF m 110 #[.val (.int p1), .val (.int p2), .val (.int p3), .val (.int p4), .val (.int (Int32.ofNat k1)), .val (.int (Int32.ofNat kv1.1)), .val (.int c0), .val (.int c1), .val (.int c2), .val (.int t2.1), .val (.int t3.1), .unset, .unset, .unset, .unset, .unset, .unset, .unset, .unset, .unset] [(.int (((p3.toUInt32 >>> ((24 : Int32) &&& 31).toUInt32).toInt32) &&& (255 : Int32)))]))
            refine own_ofc (fun tt_ => XS.i2c X3.here hx rfl (hb hby at_110) rfl) ?_
            show own_gc p e below s _ _ _ _ _ (T3.setTop (mkF m 111 #[.val (.int p1), .val (.int p2), .val (.int p3), .val (.int p4), .val (.int (Int32.ofNat k1)), .val (.int (Int32.ofNat kv1.1)), .val (.int c0), .val (.int c1), .val (.int c2), .val (.int t2.1), .val (.int t3.1), .unset, .unset, .unset, .unset, .unset, .unset, .unset, .unset, .unset] [(.int ((((p3.toUInt32 >>> ((24 : Int32) &&& 31).toUInt32).toInt32) &&& (255 : Int32)).toUInt32.toUInt16.toUInt32.toInt32))]))
            refine own_ofc (fun tt_ => XS.goto X3.here hx rfl (pc0 := 111) (pc' := 116) rfl (hb hby at_111) (by decide) (by decide)) ?_
            show own_gc p e below s _ _ _ _ _ (T3.setTop (mkF m 116 #[.val (.int p1), .val (.int p2), .val (.int p3), .val (.int p4), .val (.int (Int32.ofNat k1)), .val (.int (Int32.ofNat kv1.1)), .val (.int c0), .val (.int c1), .val (.int c2), .val (.int t2.1), .val (.int t3.1), .unset, .unset, .unset, .unset, .unset, .unset, .unset, .unset, .unset] [(.int ((((p3.toUInt32 >>> ((24 : Int32) &&& 31).toUInt32).toInt32) &&& (255 : Int32)).toUInt32.toUInt16.toUInt32.toInt32))]))
            exact j4 ⟨_, own_c255 _⟩ _ X3 e3
      · intro j3
        show own_gc p e below s _ _ _ _ _ (T2.setTop (mkF m 77 #[.val (.int p1), .val (.int p2), .val (.int p3), .val (.int p4), .val (.int (Int32.ofNat k1)), .val (.int (Int32.ofNat kv1.1)), .val (.int c0), .val (.int c1), .val (.int c2), .val (.int t2.1), .unset, .unset, .unset, .unset, .unset, .unset, .unset, .unset, .unset, .unset] [(.int (p3 &&& (2 : Int32)))]))
        by_cases hb77_56 : (p3 &&& (2 : Int32)) = (0 : Int32)
        · refine own_ofc (fun tt_ => XS.ifYes X2.here hx rfl (pc0 := 77) (pc' := 92) rfl (hb hby at_77) rfl ((if0 _ _).trans (teq hb77_56).1) (by decide) (by decide)) ?_
          show own_gc p e below s _ _ _ _ _ (T2.setTop (mkF m 92 #[.val (.int p1), .val (.int p2), .val (.int p3), .val (.int p4), .val (.int (Int32.ofNat k1)), .val (.int (Int32.ofNat kv1.1)), .val (.int c0), .val (.int c1), .val (.int c2), .val (.int t2.1), .unset, .unset, .unset, .unset, .unset, .unset, .unset, .unset, .unset, .unset] []))
          refine own_ofc (fun tt_ => XS.iload X2.here hx rfl (hb hby at_92) rfl) ?_
          show own_gc p e below s _ _ _ _ _ (T2.setTop (mkF m 94 #[.val (.int p1), .val (.int p2), .val (.int p3), .val (.int p4), .val (.int (Int32.ofNat k1)), .val (.int (Int32.ofNat kv1.1)), .val (.int c0), .val (.int c1), .val (.int c2), .val (.int t2.1), .unset, .unset, .unset, .unset, .unset, .unset, .unset, .unset, .unset, .unset] [(.int c1)]))
          exact j3 ⟨c1, hc1⟩ _ X2 e2
        · refine own_ofc (fun tt_ => XS.ifNo X2.here hx rfl (hb hby at_77) rfl ((if0 _ _).trans (feq hb77_56).1)) ?_
          show own_gc p e below s _ _ _ _ _ (T2.setTop (mkF m 80 #[.val (.int p1), .val (.int p2), .val (.int p3), .val (.int p4), .val (.int (Int32.ofNat k1)), .val (.int (Int32.ofNat kv1.1)), .val (.int c0), .val (.int c1), .val (.int c2), .val (.int t2.1), .unset, .unset, .unset, .unset, .unset, .unset, .unset, .unset, .unset, .unset] []))
          refine own_ofc (fun tt_ => XS.iloadN X2.here hx rfl (hb hby at_80) rfl) ?_
          show own_gc p e below s _ _ _ _ _ (T2.setTop (mkF m 81 #[.val (.int p1), .val (.int p2), .val (.int p3), .val (.int p4), .val (.int (Int32.ofNat k1)), .val (.int (Int32.ofNat kv1.1)), .val (.int c0), .val (.int c1), .val (.int c2), .val (.int t2.1), .unset, .unset, .unset, .unset, .unset, .unset, .unset, .unset, .unset, .unset] [(.int p3)]))
          refine own_ofc (fun tt_ => XS.bipush X2.here hx rfl (hb hby at_81)) ?_
          show own_gc p e below s _ _ _ _ _ (T2.setTop (mkF m 83 #[.val (.int p1), .val (.int p2), .val (.int p3), .val (.int p4), .val (.int (Int32.ofNat k1)), .val (.int (Int32.ofNat kv1.1)), .val (.int c0), .val (.int c1), .val (.int c2), .val (.int t2.1), .unset, .unset, .unset, .unset, .unset, .unset, .unset, .unset, .unset, .unset] [(.int (16 : Int32)), (.int p3)]))
          refine own_ofc (fun tt_ => XS.iushr X2.here hx rfl (hb hby at_83) rfl) ?_
          show own_gc p e below s _ _ _ _ _ (T2.setTop (mkF m 84 #[.val (.int p1), .val (.int p2), .val (.int p3), .val (.int p4), .val (.int (Int32.ofNat k1)), .val (.int (Int32.ofNat kv1.1)), .val (.int c0), .val (.int c1), .val (.int c2), .val (.int t2.1), .unset, .unset, .unset, .unset, .unset, .unset, .unset, .unset, .unset, .unset] [(.int ((p3.toUInt32 >>> ((16 : Int32) &&& 31).toUInt32).toInt32))]))
          refine own_ofc (fun tt_ => XS.sipush X2.here hx rfl (hb hby at_84)) ?_
          show own_gc p e below s _ _ _ _ _ (T2.setTop (mkF m 87 #[.val (.int p1), .val (.int p2), .val (.int p3), .val (.int p4), .val (.int (Int32.ofNat k1)), .val (.int (Int32.ofNat kv1.1)), .val (.int c0), .val (.int c1), .val (.int c2), .val (.int t2.1), .unset, .unset, .unset, .unset, .unset, .unset, .unset, .unset, .unset, .unset] [(.int (255 : Int32)), (.int ((p3.toUInt32 >>> ((16 : Int32) &&& 31).toUInt32).toInt32))]))
          refine own_ofc (fun tt_ => XS.iand X2.here hx rfl (hb hby at_87) rfl) ?_
          show own_gc p e below s _ _ _ _ _ (T2.setTop (mkF m 88 #[.val (.int p1), .val (.int p2), .val (.int p3), .val (.int p4), .val (.int (Int32.ofNat k1)), .val (.int (Int32.ofNat kv1.1)), .val (.int c0), .val (.int c1), .val (.int c2), .val (.int t2.1), .unset, .unset, .unset, .unset, .unset, .unset, .unset, .unset, .unset, .unset] [(.int (((p3.toUInt32 >>> ((16 : Int32) &&& 31).toUInt32).toInt32) &&& (255 : Int32)))]))
          refine own_ofc (fun tt_ => XS.i2c X2.here hx rfl (hb hby at_88) rfl) ?_
          show own_gc p e below s _ _ _ _ _ (T2.setTop (mkF m 89 #[.val (.int p1), .val (.int p2), .val (.int p3), .val (.int p4), .val (.int (Int32.ofNat k1)), .val (.int (Int32.ofNat kv1.1)), .val (.int c0), .val (.int c1), .val (.int c2), .val (.int t2.1), .unset, .unset, .unset, .unset, .unset, .unset, .unset, .unset, .unset, .unset] [(.int ((((p3.toUInt32 >>> ((16 : Int32) &&& 31).toUInt32).toInt32) &&& (255 : Int32)).toUInt32.toUInt16.toUInt32.toInt32))]))
          refine own_ofc (fun tt_ => XS.goto X2.here hx rfl (pc0 := 89) (pc' := 94) rfl (hb hby at_89) (by decide) (by decide)) ?_
          show own_gc p e below s _ _ _ _ _ (T2.setTop (mkF m 94 #[.val (.int p1), .val (.int p2), .val (.int p3), .val (.int p4), .val (.int (Int32.ofNat k1)), .val (.int (Int32.ofNat kv1.1)), .val (.int c0), .val (.int c1), .val (.int c2), .val (.int t2.1), .unset, .unset, .unset, .unset, .unset, .unset, .unset, .unset, .unset, .unset] [(.int ((((p3.toUInt32 >>> ((16 : Int32) &&& 31).toUInt32).toInt32) &&& (255 : Int32)).toUInt32.toUInt16.toUInt32.toInt32))]))
          exact j3 ⟨_, own_c255 _⟩ _ X2 e2
    · intro j2
      show own_gc p e below s _ _ _ _ _ (T1.setTop (mkF m 55 #[.val (.int p1), .val (.int p2), .val (.int p3), .val (.int p4), .val (.int (Int32.ofNat k1)), .val (.int (Int32.ofNat kv1.1)), .val (.int c0), .val (.int c1), .val (.int c2), .unset, .unset, .unset, .unset, .unset, .unset, .unset, .unset, .unset, .unset, .unset] [(.int (p3 &&& (1 : Int32)))]))
      by_cases hb55_57 : (p3 &&& (1 : Int32)) = (0 : Int32)
      · refine own_ofc (fun tt_ => XS.ifYes X1.here hx rfl (pc0 := 55) (pc' := 70) rfl (hb hby at_55) rfl ((if0 _ _).trans (teq hb55_57).1) (by decide) (by decide)) ?_
        show own_gc p e below s _ _ _ _ _ (T1.setTop (mkF m 70 #[.val (.int p1), .val (.int p2), .val (.int p3), .val (.int p4), .val (.int (Int32.ofNat k1)), .val (.int (Int32.ofNat kv1.1)), .val (.int c0), .val (.int c1), .val (.int c2), .unset, .unset, .unset, .unset, .unset, .unset, .unset, .unset, .unset, .unset, .unset] []))
        refine own_ofc (fun tt_ => XS.iload X1.here hx rfl (hb hby at_70) rfl) ?_
        show own_gc p e below s _ _ _ _ _ (T1.setTop (mkF m 72 #[.val (.int p1), .val (.int p2), .val (.int p3), .val (.int p4), .val (.int (Int32.ofNat k1)), .val (.int (Int32.ofNat kv1.1)), .val (.int c0), .val (.int c1), .val (.int c2), .unset, .unset, .unset, .unset, .unset, .unset, .unset, .unset, .unset, .unset, .unset] [(.int c0)]))
        exact j2 ⟨c0, hc0⟩ _ X1 e1
      · refine own_ofc (fun tt_ => XS.ifNo X1.here hx rfl (hb hby at_55) rfl ((if0 _ _).trans (feq hb55_57).1)) ?_
        show own_gc p e below s _ _ _ _ _ (T1.setTop (mkF m 58 #[.val (.int p1), .val (.int p2), .val (.int p3), .val (.int p4), .val (.int (Int32.ofNat k1)), .val (.int (Int32.ofNat kv1.1)), .val (.int c0), .val (.int c1), .val (.int c2), .unset, .unset, .unset, .unset, .unset, .unset, .unset, .unset, .unset, .unset, .unset] []))
        refine own_ofc (fun tt_ => XS.iloadN X1.here hx rfl (hb hby at_58) rfl) ?_
        show own_gc p e below s _ _ _ _ _ (T1.setTop (mkF m 59 #[.val (.int p1), .val (.int p2), .val (.int p3), .val (.int p4), .val (.int (Int32.ofNat k1)), .val (.int (Int32.ofNat kv1.1)), .val (.int c0), .val (.int c1), .val (.int c2), .unset, .unset, .unset, .unset, .unset, .unset, .unset, .unset, .unset, .unset, .unset] [(.int p3)]))
        refine own_ofc (fun tt_ => XS.bipush X1.here hx rfl (hb hby at_59)) ?_
        show own_gc p e below s _ _ _ _ _ (T1.setTop (mkF m 61 #[.val (.int p1), .val (.int p2), .val (.int p3), .val (.int p4), .val (.int (Int32.ofNat k1)), .val (.int (Int32.ofNat kv1.1)), .val (.int c0), .val (.int c1), .val (.int c2), .unset, .unset, .unset, .unset, .unset, .unset, .unset, .unset, .unset, .unset, .unset] [(.int (8 : Int32)), (.int p3)]))
        refine own_ofc (fun tt_ => XS.iushr X1.here hx rfl (hb hby at_61) rfl) ?_
        show own_gc p e below s _ _ _ _ _ (T1.setTop (mkF m 62 #[.val (.int p1), .val (.int p2), .val (.int p3), .val (.int p4), .val (.int (Int32.ofNat k1)), .val (.int (Int32.ofNat kv1.1)), .val (.int c0), .val (.int c1), .val (.int c2), .unset, .unset, .unset, .unset, .unset, .unset, .unset, .unset, .unset, .unset, .unset] [(.int ((p3.toUInt32 >>> ((8 : Int32) &&& 31).toUInt32).toInt32))]))
        refine own_ofc (fun tt_ => XS.sipush X1.here hx rfl (hb hby at_62)) ?_
        show own_gc p e below s _ _ _ _ _ (T1.setTop (mkF m 65 #[.val (.int p1), .val (.int p2), .val (.int p3), .val (.int p4), .val (.int (Int32.ofNat k1)), .val (.int (Int32.ofNat kv1.1)), .val (.int c0), .val (.int c1), .val (.int c2), .unset, .unset, .unset, .unset, .unset, .unset, .unset, .unset, .unset, .unset, .unset] [(.int (255 : Int32)), (.int ((p3.toUInt32 >>> ((8 : Int32) &&& 31).toUInt32).toInt32))]))
        refine own_ofc (fun tt_ => XS.iand X1.here hx rfl (hb hby at_65) rfl) ?_
        show own_gc p e below s _ _ _ _ _ (T1.setTop (mkF m 66 #[.val (.int p1), .val (.int p2), .val (.int p3), .val (.int p4), .val (.int (Int32.ofNat k1)), .val (.int (Int32.ofNat kv1.1)), .val (.int c0), .val (.int c1), .val (.int c2), .unset, .unset, .unset, .unset, .unset, .unset, .unset, .unset, .unset, .unset, .unset] [(.int (((p3.toUInt32 >>> ((8 : Int32) &&& 31).toUInt32).toInt32) &&& (255 : Int32)))]))
        refine own_ofc (fun tt_ => XS.i2c X1.here hx rfl (hb hby at_66) rfl) ?_
        show own_gc p e below s _ _ _ _ _ (T1.setTop (mkF m 67 #[.val (.int p1), .val (.int p2), .val (.int p3), .val (.int p4), .val (.int (Int32.ofNat k1)), .val (.int (Int32.ofNat kv1.1)), .val (.int c0), .val (.int c1), .val (.int c2), .unset, .unset, .unset, .unset, .unset, .unset, .unset, .unset, .unset, .unset, .unset] [(.int ((((p3.toUInt32 >>> ((8 : Int32) &&& 31).toUInt32).toInt32) &&& (255 : Int32)).toUInt32.toUInt16.toUInt32.toInt32))]))
        refine own_ofc (fun tt_ => XS.goto X1.here hx rfl (pc0 := 67) (pc' := 72) rfl (hb hby at_67) (by decide) (by decide)) ?_
        show own_gc p e below s _ _ _ _ _ (T1.setTop (mkF m 72 #[.val (.int p1), .val (.int p2), .val (.int p3), .val (.int p4), .val (.int (Int32.ofNat k1)), .val (.int (Int32.ofNat kv1.1)), .val (.int c0), .val (.int c1), .val (.int c2), .unset, .unset, .unset, .unset, .unset, .unset, .unset, .unset, .unset, .unset, .unset] [(.int ((((p3.toUInt32 >>> ((8 : Int32) &&& 31).toUInt32).toInt32) &&& (255 : Int32)).toUInt32.toUInt16.toUInt32.toInt32))]))
        exact j2 ⟨_, own_c255 _⟩ _ X1 e1
  · intro j1
    show own_gc p e below s _ _ _ _ _ (s₁.setTop (mkF m 15 #[.val (.int p1), .val (.int p2), .val (.int p3), .val (.int p4), .val (.int (Int32.ofNat k1)), .val (.int (Int32.ofNat k2o)), .unset, .unset, .unset, .unset, .unset, .unset, .unset, .unset, .unset, .unset, .unset, .unset, .unset, .unset] [(.int (p4 &&& (1 : Int32)))]))
    by_cases hb15_58 : (p4 &&& (1 : Int32)) = (0 : Int32)
    · refine own_ofc (fun tt_ => XS.ifYes X0.here hx rfl (pc0 := 15) (pc' := 22) rfl (hb hby at_15) rfl ((if0 _ _).trans (teq hb15_58).1) (by decide) (by decide)) ?_
      show own_gc p e below s _ _ _ _ _ (s₁.setTop (mkF m 22 #[.val (.int p1), .val (.int p2), .val (.int p3), .val (.int p4), .val (.int (Int32.ofNat k1)), .val (.int (Int32.ofNat k2o)), .unset, .unset, .unset, .unset, .unset, .unset, .unset, .unset, .unset, .unset, .unset, .unset, .unset, .unset] []))
      exact j1 ⟨k2o, hk2o⟩ _ X0 e0
    · refine own_ofc (fun tt_ => XS.ifNo X0.here hx rfl (hb hby at_15) rfl ((if0 _ _).trans (feq hb15_58).1)) ?_
      show own_gc p e below s _ _ _ _ _ (s₁.setTop (mkF m 18 #[.val (.int p1), .val (.int p2), .val (.int p3), .val (.int p4), .val (.int (Int32.ofNat k1)), .val (.int (Int32.ofNat k2o)), .unset, .unset, .unset, .unset, .unset, .unset, .unset, .unset, .unset, .unset, .unset, .unset, .unset, .unset] []))
      refine own_ofc (fun tt_ => XS.iload X0.here hx rfl (hb hby at_18) rfl) ?_
      show own_gc p e below s _ _ _ _ _ (s₁.setTop (mkF m 20 #[.val (.int p1), .val (.int p2), .val (.int p3), .val (.int p4), .val (.int (Int32.ofNat k1)), .val (.int (Int32.ofNat k2o)), .unset, .unset, .unset, .unset, .unset, .unset, .unset, .unset, .unset, .unset, .unset, .unset, .unset, .unset] [(.int (Int32.ofNat k1))]))
      refine own_ofc (fun tt_ => XS.istore X0.here hx rfl (hb hby at_20) rfl (l' := #[.val (.int p1), .val (.int p2), .val (.int p3), .val (.int p4), .val (.int (Int32.ofNat k1)), .val (.int (Int32.ofNat k1)), .unset, .unset, .unset, .unset, .unset, .unset, .unset, .unset, .unset, .unset, .unset, .unset, .unset, .unset]) rfl) ?_
      show own_gc p e below s _ _ _ _ _ (s₁.setTop (mkF m 22 #[.val (.int p1), .val (.int p2), .val (.int p3), .val (.int p4), .val (.int (Int32.ofNat k1)), .val (.int (Int32.ofNat k1)), .unset, .unset, .unset, .unset, .unset, .unset, .unset, .unset, .unset, .unset, .unset, .unset, .unset, .unset] []))
      exact j1 ⟨k1, hk1⟩ _ X0 e0
set_option maxRecDepth 65536 in
set_option maxHeartbeats 40000000 in
theorem comes_1 {Post : Tables → Env → Array Value → State → Outcome → State → Prop} (hpost : ∀ tb e args s v u, (limb_1_1.after args s (.returned v) u = true ∧ limb_1_2.after args s (.returned v) u = true ∧ True) → ReturnedEndW s (.returned v) u (Jvm.fieldLocs frame_1_writes args s ++ Jvm.arrayLocs frame_1_arrays args s ++ Jvm.staticLocs frame_1_statics s) 24 1152 → Post tb e args s (.returned v) u) :
    ArmFor flags0 classFile x code maxLocals ret World_1 tables_1 room_1 Calls_1 rest_1 Pre_1 Post := by
  intro l hfl _ _ p e ha hc hk s m args below hf hA hF happ hP
  obtain ⟨hcalls, hrest, hpre⟩ := hP
  obtain ⟨-, -, -, hnamed, -, -, -, hat⟩ := (Spec.applies_iff hf).mp happ
  obtain ⟨hg, hn⟩ := and_e (Cond.before_iff.mp (show (Jvm.Cond.and given_1 narrow_1).before args s = true from hpre))
  obtain ⟨g1, g2⟩ := and_e hg
  obtain ⟨g3, g4⟩ := and_e g2
  obtain ⟨g5, g6⟩ := and_e g4
  obtain ⟨g7, g8⟩ := and_e g6
  obtain ⟨w0, w1, w2, w3, rfl⟩ : ∃ w0 w1 w2 w3 : Value, args = #[w0, w1, w2, w3] := by
    have hs : args.size = 4 := by simpa [Cond.value, given_1] using g1
    obtain ⟨L⟩ := args
    match L, hs with
    | [w0, w1, w2, w3], _ => exact ⟨w0, w1, w2, w3, rfl⟩
  have hw := fun d (hd : d ∈ tables_1) => atoms_spec (ws := Jvm.Cond.code x code maxLocals ret :: tables_1) hat d (List.mem_cons_of_mem _ hd)
  have hW : ∀ (i : Nat) (d : Jvm.Cond), tables_1[i]? = some d → d.before _ s = true := fun i d h => hw d (List.mem_of_getElem? h)
  have hfit : Fit s := fun {y c} hc i hi => by
    obtain ⟨ha, rfl⟩ := Array.getElem?_eq_some_iff.mp hc
    have q := List.all_eq_true.mp ((Array.all_eq_true_iff_forall_mem.mp hF) _ (Array.getElem_mem ha)) i (List.mem_range.mpr hi)
    simpa [Array.getElem?_eq_getElem hi] using q
  obtain ⟨hsets, hown0⟩ := atoms_of _ (rest_1_c_eq ▸ (show rest_1_c.before _ s = true from hrest))
  have hr0 := Cond.before_iff.mp hown0
  obtain ⟨i0, ei0⟩ := is_v g3
  obtain rfl : w0 = (.int i0) := Option.some.inj ei0
  obtain ⟨i1, ei1⟩ := is_v g5
  obtain rfl : w1 = (.int i1) := Option.some.inj ei1
  obtain ⟨i2, ei2⟩ := is_v g7
  obtain rfl : w2 = (.int i2) := Option.some.inj ei2
  obtain ⟨i3, ei3⟩ := is_v g8
  obtain rfl : w3 = (.int i3) := Option.some.inj ei3
  have n3 := not_v (Cond.before_iff.mp (hsets _ (List.mem_of_getElem? (i := 2) rfl)))
  obtain ⟨i7, e6⟩ := is_v (Cond.before_iff.mp (hsets _ (List.mem_of_getElem? (i := 1) rfl)))
  have S8 : Sta s s.heap "java/lang/String" "COMPACT_STRINGS" "Z" (.int i7) := Sta.start e6 (Or.inl (hsets _ (List.mem_of_getElem? (i := 0) rfl)))
  have c13 : ¬ (i7 = (0 : Int32)) := gotF (Cond.eq_ints e6 (Term.int_eval (0))) n3
  have hEL : EW s _ own_EL := EW.cons (own := "java/lang/String") (index := 7) (hW 18 _ rfl) (by decide) EW.nil
  have hCH : CHv s own_EL s.vm s.heap := CHv.start hEL (fun p hp => hcalls.1 p ((by decide : ∀ p ∈ own_EL, p ∈ consts_1) p hp)) (Cond.before_iff.mpr (not_i (nay (Cond.eq_ints e6 (Term.int_eval (0))) c13))) (hW 19 _ rfl) (hW 5 _ rfl)
  obtain ⟨n, o, h1, h2, h3, _, L, rfl, ⟨rfl, N⟩, -, hq⟩ := rm0 l s _ hw tables_1 i0 i1 i2 i3 i7 s.heap s.heap.size hEL (Old.start s) S8 c13 p e ha hc hk s m _ below hf ((Spec.applies_iff_loose hf).mp happ).1 ⟨rfl, State.Warmed39.refl s, rfl, hCH⟩ trivial
  refine ⟨n, _, h1, h2, h3, hpost _ _ _ _ _ _ ⟨Cond.after_iff.mpr rfl, Cond.after_iff.mpr (eq_i res_at (Term.int_eval (1)) rfl), trivial⟩ ⟨hq.1, hq.2.1, hq.2.2.1, (hq.2.2.2.sift fun y hy => Or.inr (N y hy)).mono (by decide) (by decide)⟩⟩
theorem main_1_1 : Claimed_1_1 := comes_1 fun _ _ _ _ _ _ h hF => ⟨h.1, hF⟩
theorem main_1_2 : Claimed_1_2 := comes_1 fun _ _ _ _ _ _ h hF => ⟨h.2.1, hF⟩
end Jvm.Pilot.@@N@@
namespace Jvm.Pilot.@@N@@
open Jvm Jvm.ClassFile Sem Op Lib Jvm.Free Jvm.Stand Jvm.Pilot.@@N@@.Jvm.D
/-! MADE BY PROGRAM (witnessworld.py) out of the Statement's table words and the real class files: 21 classes; the members and pool entries that the words name. The judged class is class 1, her method 2. -/
namespace start1
open Jvm.ClassFile
def u (s : String) : CpInfo := .utf8 (stringToUtf16 s)
/-- a pool by its gaps: so many unusable entries, then the entry; so many at the end -/
def gap : Nat → List CpInfo → List CpInfo
  | 0, r => r
  | n + 1, r => .unusable :: gap n r
def poolList (es : List (Nat × CpInfo)) (last : Nat) : List CpInfo := es.foldr (fun e r => gap e.1 (e.2 :: r)) (gap last [])
def pool (es : List (Nat × CpInfo)) (last : Nat) : Array CpInfo := ⟨poolList es last⟩
def fileOf (pool : Array CpInfo) (this : Nat) (attrs : Array Attribute := #[]) (ms : Array MethodInfo := #[]) (fl : Nat := 33) (sup : Nat := 0) (ifs : Array Nat := #[]) (fds : Array FieldInfo := #[]) : ClassFile where
  minorVersion := 0
  majorVersion := 65
  constantPool := pool
  accessFlags := fl
  thisClass := this
  superClass := sup
  interfaces := ifs
  fields := fds
  methods := ms
  attributes := attrs
def plain (name : String) (sup : Option ClassId) : Class where
  name := name
  kind := .ordinary
  loader := none
  accessFlags := 33
  super := sup
  interfaces := #[]
  cf := none
  fields := #[]
  methods := #[]
  instanceTypes := #[]
  staticTypes := #[]
  resolved := #[]
  callSites := []
  init := .initialized
  statics := none
  mirror := none

def pool0 : Array CpInfo := pool [(5, u "<init>"), (0, u "()V"), (1, .class_ 10), (1, u "java/lang/Object")] 113

def k0c0 : Code := { maxStack := 0, maxLocals := 1, code := object_method_1_code, exceptionTable := #[], attributes := #[] }
def k0m0 : Method := { name := "<init>", desc := "()V", sig := { parameters := [], returnType := none }, accessFlags := 1, code := some k0c0 }
/-- java/lang/Object -/
def k0 : Class := { plain "java/lang/Object" none with
  accessFlags := 33
  interfaces := #[]
  cf := some (fileOf pool0 8 #[] #[{ accessFlags := 1, nameIndex := 5, descriptorIndex := 6, attributes := #[] }] 33 0 #[] #[])
  fields := #[]
  methods := #[k0m0]
  instanceTypes := #[]
  staticTypes := #[]
  resolved := Array.replicate 124 none
  statics := none }

def pool1 : Array CpInfo := pool [(2, .class_ 4), (1, u "java/lang/Object"), (0, u "<init>"), (0, u "()V"), (0, .class_ 8), (0, u "java/lang/String"), (0, .methodref 7 10), (0, .nameAndType 5 11), (0, u "([C)V"), (0, .methodref 13 14), (0, .class_ 15), (0, .nameAndType 16 17), (0, u "com/example/practory/practory/resource/ElementDefinitionsDefinesItsElementsPinLaw"), (0, u "str"), (0, u "(ICCC)Ljava/lang/String;"), (0, .class_ 19), (0, u "com/example/practory/practory/resource/ElementDefinitions$Element"), (0, .methodref 18 21), (0, .nameAndType 5 22), (0, u "(Ljava/lang/String;ZLjava/lang/String;ZZ)V"), (0, .methodref 18 24), (0, .nameAndType 25 26), (0, u "definesItsElements"), (0, u "()Z"), (3, u "law"), (0, u "(IIII)Z")] 6

def k1m0 : Method := { name := "<init>", desc := "()V", sig := { parameters := [], returnType := none }, accessFlags := 2, code := none }
def k1c1 : Code := { maxStack := 6, maxLocals := 4, code := method_2_code, exceptionTable := #[], attributes := #[] }
def k1m1 : Method := { name := "str", desc := "(ICCC)Ljava/lang/String;", sig := { parameters := [.int, .char, .char, .char], returnType := some (.object "java/lang/String") }, accessFlags := 10, code := some k1c1 }
def k1c2 : Code := { maxStack := 7, maxLocals := 20, code := code, exceptionTable := #[], attributes := #[] }
def k1m2 : Method := { name := "law", desc := "(IIII)Z", sig := { parameters := [.int, .int, .int, .int], returnType := some .boolean }, accessFlags := 9, code := some k1c2 }
/-- com/example/practory/practory/resource/ElementDefinitionsDefinesItsElementsPinLaw -/
def k1 : Class := { plain "com/example/practory/practory/resource/ElementDefinitionsDefinesItsElementsPinLaw" (some 0) with
  accessFlags := 49
  interfaces := #[]
  cf := some (fileOf pool1 13 #[] #[{ accessFlags := 2, nameIndex := 5, descriptorIndex := 6, attributes := #[] }, { accessFlags := 10, nameIndex := 16, descriptorIndex := 17, attributes := #[] }, { accessFlags := 9, nameIndex := 30, descriptorIndex := 31, attributes := #[] }] 49 2 #[] #[])
  fields := #[]
  methods := #[k1m0, k1m1, k1m2]
  instanceTypes := #[]
  staticTypes := #[]
  resolved := Array.replicate 38 none
  statics := none }

def pool2 : Array CpInfo := pool [(1, .class_ 2), (0, u "java/io/Serializable"), (0, .class_ 4), (0, u "java/lang/Object")] 2

/-- java/io/Serializable -/
def k2 : Class := { plain "java/io/Serializable" (some 0) with
  accessFlags := 1537
  interfaces := #[]
  cf := some (fileOf pool2 1 #[] #[] 1537 3 #[] #[])
  fields := #[]
  methods := #[]
  instanceTypes := #[]
  staticTypes := #[]
  resolved := Array.replicate 7 none
  statics := none }

def pool3 : Array CpInfo := pool [(1, .class_ 2), (0, u "java/lang/Comparable"), (0, .class_ 4), (0, u "java/lang/Object")] 7

/-- java/lang/Comparable -/
def k3 : Class := { plain "java/lang/Comparable" (some 0) with
  accessFlags := 1537
  interfaces := #[]
  cf := some (fileOf pool3 1 #[] #[] 1537 3 #[] #[])
  fields := #[]
  methods := #[]
  instanceTypes := #[]
  staticTypes := #[]
  resolved := Array.replicate 12 none
  statics := none }

def pool4 : Array CpInfo := pool [(2, .class_ 4), (1, u "java/lang/CharSequence"), (42, .class_ 48), (0, u "java/lang/CharSequence$1CodePointIterator"), (10, .class_ 60), (0, u "java/lang/CharSequence$1CharIterator"), (5, .class_ 67), (0, u "java/lang/Object")] 63

/-- java/lang/CharSequence -/
def k4 : Class := { plain "java/lang/CharSequence" (some 0) with
  accessFlags := 1537
  interfaces := #[]
  cf := some (fileOf pool4 2 #[.nestMembers #[47, 59]] #[] 1537 66 #[] #[])
  fields := #[]
  methods := #[]
  instanceTypes := #[]
  staticTypes := #[]
  resolved := Array.replicate 131 none
  statics := none }

def pool5 : Array CpInfo := pool [(1, .class_ 2), (0, u "java/lang/constant/Constable"), (0, .class_ 4), (0, u "java/lang/Object")] 6

/-- java/lang/constant/Constable -/
def k5 : Class := { plain "java/lang/constant/Constable" (some 0) with
  accessFlags := 1537
  interfaces := #[]
  cf := some (fileOf pool5 1 #[] #[] 1537 3 #[] #[])
  fields := #[]
  methods := #[]
  instanceTypes := #[]
  staticTypes := #[]
  resolved := Array.replicate 11 none
  statics := none }

def pool6 : Array CpInfo := pool [(1, .class_ 2), (0, u "java/lang/constant/ConstantDesc"), (0, .class_ 4), (0, u "java/lang/Object")] 32

/-- java/lang/constant/ConstantDesc -/
def k6 : Class := { plain "java/lang/constant/ConstantDesc" (some 0) with
  accessFlags := 1537
  interfaces := #[]
  cf := some (fileOf pool6 1 #[] #[] 1537 3 #[] #[])
  fields := #[]
  methods := #[]
  instanceTypes := #[]
  staticTypes := #[]
  resolved := Array.replicate 37 none
  statics := none }

def pool7 : Array CpInfo := pool [(1, .methodref 2 3), (0, .class_ 4), (0, .nameAndType 5 6), (0, u "java/lang/Object"), (0, u "<init>"), (0, u "()V"), (0, .string 8), (0, u ""), (0, .fieldref 10 11), (0, .class_ 12), (0, .nameAndType 13 14), (0, u "java/lang/String"), (0, u "value"), (0, u "[B"), (0, .fieldref 10 16), (0, .nameAndType 17 18), (0, u "coder"), (0, u "B"), (2, u "hash"), (0, u "I"), (2, u "hashIsZero"), (0, u "Z"), (0, .methodref 10 28), (0, .nameAndType 5 29), (0, u "([CIILjava/lang/Void;)V"), (8, .fieldref 10 39), (0, .nameAndType 40 26), (0, u "COMPACT_STRINGS"), (1, .class_ 44), (1, u "java/lang/StringUTF16"), (0, u "compress"), (1, .methodref 42 48), (0, .nameAndType 49 50), (0, u "coderFromArrayLen"), (0, u "([BI)B"), (56, .class_ 109), (1, u "java/lang/StringLatin1"), (67, .methodref 42 178), (0, .nameAndType 45 179), (0, u "([CII)[B"), (361, .methodref 107 542), (0, .nameAndType 543 544), (0, u "equals"), (0, u "([B[B)Z"), (28, u "(Ljava/lang/Object;)Z"), (1, .class_ 576), (0, u "java/lang/CharSequence"), (22, u "CASE_INSENSITIVE_ORDER"), (0, u "Ljava/util/Comparator;"), (409, u "([C)V"), (90, u "serialPersistentFields"), (0, u "[Ljava/io/ObjectStreamField;"), (0, .class_ 1104), (0, u "java/lang/String$CaseInsensitiveComparator"), (1, .class_ 1107), (0, u "java/io/Serializable"), (0, .class_ 1109), (0, u "java/lang/Comparable"), (0, .class_ 1111), (0, u "java/lang/constant/Constable"), (0, .class_ 1113), (0, u "java/lang/constant/ConstantDesc"), (2, u "serialVersionUID"), (0, u "J"), (3, u "REPL"), (0, u "C"), (2, u "LATIN1"), (1, u "UTF16")] 323

def k7m0 : Method := { name := "<init>", desc := "()V", sig := { parameters := [], returnType := none }, accessFlags := 1, code := none }
def k7c1 : Code := { maxStack := 5, maxLocals := 2, code := jdk_42_method_3_code, exceptionTable := #[], attributes := #[] }
def k7m1 : Method := { name := "<init>", desc := "([C)V", sig := { parameters := [(.array .char)], returnType := none }, accessFlags := 1, code := some k7c1 }
def k7c2 : Code := { maxStack := 2, maxLocals := 3, code := jdk_42_method_66_code, exceptionTable := #[], attributes := #[] }
def k7m2 : Method := { name := "equals", desc := "(Ljava/lang/Object;)Z", sig := { parameters := [(.object "java/lang/Object")], returnType := some .boolean }, accessFlags := 1, code := some k7c2 }
def k7c3 : Code := { maxStack := 4, maxLocals := 6, code := jdk_42_method_149_code, exceptionTable := #[], attributes := #[] }
def k7m3 : Method := { name := "<init>", desc := "([CIILjava/lang/Void;)V", sig := { parameters := [(.array .char), .int, .int, (.object "java/lang/Void")], returnType := none }, accessFlags := 2, code := some k7c3 }
/-- java/lang/String -/
def k7 : Class := { plain "java/lang/String" (some 0) with
  accessFlags := 49
  interfaces := #[2, 3, 4, 5, 6]
  cf := some (fileOf pool7 10 #[.nestMembers #[1103]] #[{ accessFlags := 1, nameIndex := 5, descriptorIndex := 6, attributes := #[] }, { accessFlags := 1, nameIndex := 5, descriptorIndex := 1010, attributes := #[] }, { accessFlags := 1, nameIndex := 543, descriptorIndex := 573, attributes := #[] }, { accessFlags := 2, nameIndex := 5, descriptorIndex := 29, attributes := #[] }] 49 2 #[1106, 1108, 575, 1110, 1112] #[{ accessFlags := 18, nameIndex := 13, descriptorIndex := 14, attributes := #[] }, { accessFlags := 18, nameIndex := 17, descriptorIndex := 18, attributes := #[] }, { accessFlags := 2, nameIndex := 21, descriptorIndex := 22, attributes := #[] }, { accessFlags := 2, nameIndex := 25, descriptorIndex := 26, attributes := #[] }, { accessFlags := 26, nameIndex := 1116, descriptorIndex := 1117, attributes := #[] }, { accessFlags := 24, nameIndex := 40, descriptorIndex := 26, attributes := #[] }, { accessFlags := 26, nameIndex := 1101, descriptorIndex := 1102, attributes := #[] }, { accessFlags := 26, nameIndex := 1121, descriptorIndex := 1122, attributes := #[] }, { accessFlags := 25, nameIndex := 599, descriptorIndex := 600, attributes := #[] }, { accessFlags := 24, nameIndex := 1125, descriptorIndex := 18, attributes := #[] }, { accessFlags := 24, nameIndex := 1127, descriptorIndex := 18, attributes := #[] }])
  fields := #[{ name := "value", type := (.array .byte), accessFlags := 18, slot := 0, constantValue := 0 }, { name := "coder", type := .byte, accessFlags := 18, slot := 1, constantValue := 0 }, { name := "hash", type := .int, accessFlags := 2, slot := 2, constantValue := 0 }, { name := "hashIsZero", type := .boolean, accessFlags := 2, slot := 3, constantValue := 0 }, { name := "serialVersionUID", type := .long, accessFlags := 26, slot := 0, constantValue := 0 }, { name := "COMPACT_STRINGS", type := .boolean, accessFlags := 24, slot := 1, constantValue := 0 }, { name := "serialPersistentFields", type := (.array (.object "java/io/ObjectStreamField")), accessFlags := 26, slot := 2, constantValue := 0 }, { name := "REPL", type := .char, accessFlags := 26, slot := 3, constantValue := 0 }, { name := "CASE_INSENSITIVE_ORDER", type := (.object "java/util/Comparator"), accessFlags := 25, slot := 4, constantValue := 0 }, { name := "LATIN1", type := .byte, accessFlags := 24, slot := 5, constantValue := 0 }, { name := "UTF16", type := .byte, accessFlags := 24, slot := 6, constantValue := 0 }]
  methods := #[k7m0, k7m1, k7m2, k7m3]
  instanceTypes := #[(.array .byte), .byte, .int, .boolean]
  staticTypes := #[.long, .boolean, (.array (.object "java/io/ObjectStreamField")), .char, (.object "java/util/Comparator"), .byte, .byte]
  resolved := Array.replicate 1451 none
  statics := some 0 }

def pool8 : Array CpInfo := pool [(1, .methodref 2 3), (0, .class_ 4), (0, .nameAndType 5 6), (0, u "java/lang/Object"), (0, u "<init>"), (0, u "()V"), (0, .class_ 8), (0, u "java/lang/Record")] 13

def k8c0 : Code := { maxStack := 1, maxLocals := 1, code := jdk_30_method_1_code, exceptionTable := #[], attributes := #[] }
def k8m0 : Method := { name := "<init>", desc := "()V", sig := { parameters := [], returnType := none }, accessFlags := 4, code := some k8c0 }
/-- java/lang/Record -/
def k8 : Class := { plain "java/lang/Record" (some 0) with
  accessFlags := 1057
  interfaces := #[]
  cf := some (fileOf pool8 7 #[] #[{ accessFlags := 4, nameIndex := 5, descriptorIndex := 6, attributes := #[] }] 1057 2 #[] #[])
  fields := #[]
  methods := #[k8m0]
  instanceTypes := #[]
  staticTypes := #[]
  resolved := Array.replicate 22 none
  statics := none }

def pool9 : Array CpInfo := pool [(1, .class_ 2), (0, u "com/example/practory/practory/resource/ElementDefinitions"), (0, .methodref 4 5), (0, .class_ 6), (0, .nameAndType 7 8), (0, u "java/lang/Record"), (0, u "<init>"), (0, u "()V"), (0, .fieldref 10 11), (0, .class_ 12), (0, .nameAndType 13 14), (0, u "com/example/practory/practory/resource/ElementDefinitions$Element"), (0, u "type"), (0, u "Ljava/lang/String;"), (0, .fieldref 10 16), (0, .nameAndType 17 18), (0, u "primitive"), (0, u "Z"), (0, .fieldref 10 20), (0, .nameAndType 21 14), (0, u "children"), (0, .fieldref 10 23), (0, .nameAndType 24 18), (0, u "summary"), (0, .fieldref 10 26), (0, .nameAndType 27 18), (0, u "required"), (2, .methodref 31 32), (0, .class_ 33), (0, .nameAndType 34 35), (0, u "java/lang/String"), (0, u "equals"), (0, u "(Ljava/lang/Object;)Z"), (11, u "(Ljava/lang/String;ZLjava/lang/String;ZZ)V"), (4, u "()Z"), (0, u "definesItsElements")] 29

def k9c0 : Code := { maxStack := 2, maxLocals := 6, code := prog_5_method_1_code, exceptionTable := #[], attributes := #[] }
def k9m0 : Method := { name := "<init>", desc := "(Ljava/lang/String;ZLjava/lang/String;ZZ)V", sig := { parameters := [(.object "java/lang/String"), .boolean, (.object "java/lang/String"), .boolean, .boolean], returnType := none }, accessFlags := 0, code := some k9c0 }
def k9c1 : Code := { maxStack := 2, maxLocals := 1, code := prog_5_method_3_code, exceptionTable := #[], attributes := #[] }
def k9m1 : Method := { name := "definesItsElements", desc := "()Z", sig := { parameters := [], returnType := some .boolean }, accessFlags := 0, code := some k9c1 }
/-- com/example/practory/practory/resource/ElementDefinitions$Element -/
def k9 : Class := { plain "com/example/practory/practory/resource/ElementDefinitions$Element" (some 8) with
  accessFlags := 48
  interfaces := #[]
  cf := some (fileOf pool9 10 #[.nestHost 1] #[{ accessFlags := 0, nameIndex := 7, descriptorIndex := 47, attributes := #[] }, { accessFlags := 0, nameIndex := 53, descriptorIndex := 52, attributes := #[] }] 48 4 #[] #[{ accessFlags := 18, nameIndex := 13, descriptorIndex := 14, attributes := #[] }, { accessFlags := 18, nameIndex := 17, descriptorIndex := 18, attributes := #[] }, { accessFlags := 18, nameIndex := 21, descriptorIndex := 14, attributes := #[] }, { accessFlags := 18, nameIndex := 24, descriptorIndex := 18, attributes := #[] }, { accessFlags := 18, nameIndex := 27, descriptorIndex := 18, attributes := #[] }])
  fields := #[{ name := "type", type := (.object "java/lang/String"), accessFlags := 18, slot := 0, constantValue := 0 }, { name := "primitive", type := .boolean, accessFlags := 18, slot := 1, constantValue := 0 }, { name := "children", type := (.object "java/lang/String"), accessFlags := 18, slot := 2, constantValue := 0 }, { name := "summary", type := .boolean, accessFlags := 18, slot := 3, constantValue := 0 }, { name := "required", type := .boolean, accessFlags := 18, slot := 4, constantValue := 0 }]
  methods := #[k9m0, k9m1]
  instanceTypes := #[(.object "java/lang/String"), .boolean, (.object "java/lang/String"), .boolean, .boolean]
  staticTypes := #[]
  resolved := Array.replicate 83 none
  statics := none }

def pool10 : Array CpInfo := pool [(4, .class_ 6), (1, u "java/lang/Object"), (0, u "<init>"), (0, u "()V"), (5, .class_ 16), (1, u "java/lang/StringLatin1"), (104, u "$assertionsDisabled"), (0, u "Z"), (98, .class_ 223), (1, u "java/lang/StringLatin1$LinesSpliterator"), (57, u "equals"), (0, u "([B[B)Z"), (107, .class_ 391), (0, u "java/lang/StringLatin1$CharsSpliterator")] 3

def k10m0 : Method := { name := "<init>", desc := "()V", sig := { parameters := [], returnType := none }, accessFlags := 0, code := none }
def k10c1 : Code := { maxStack := 3, maxLocals := 3, code := jdk_43_method_13_code, exceptionTable := #[], attributes := #[] }
def k10m1 : Method := { name := "equals", desc := "([B[B)Z", sig := { parameters := [(.array .byte), (.array .byte)], returnType := some .boolean }, accessFlags := 9, code := some k10c1 }
/-- java/lang/StringLatin1 -/
def k10 : Class := { plain "java/lang/StringLatin1" (some 0) with
  accessFlags := 48
  interfaces := #[]
  cf := some (fileOf pool10 14 #[.nestMembers #[390, 221]] #[{ accessFlags := 0, nameIndex := 7, descriptorIndex := 8, attributes := #[] }, { accessFlags := 9, nameIndex := 281, descriptorIndex := 282, attributes := #[] }] 48 4 #[] #[{ accessFlags := 4120, nameIndex := 121, descriptorIndex := 122, attributes := #[] }])
  fields := #[{ name := "$assertionsDisabled", type := .boolean, accessFlags := 4120, slot := 0, constantValue := 0 }]
  methods := #[k10m0, k10m1]
  instanceTypes := #[]
  staticTypes := #[.boolean]
  resolved := Array.replicate 395 none
  statics := none }

def pool11 : Array CpInfo := pool [(6, .class_ 8), (1, u "java/lang/Object"), (0, u "<init>"), (0, u "()V"), (1, .class_ 14), (1, u "java/lang/StringUTF16"), (31, u "$assertionsDisabled"), (0, u "Z"), (13, u "HI_BYTE_SHIFT"), (0, u "I"), (2, u "LO_BYTE_SHIFT"), (49, .methodref 12 116), (0, .nameAndType 117 118), (0, u "compress"), (0, u "([CI[BII)I"), (3, u "([CII)[B"), (138, u "coderFromArrayLen"), (0, u "([BI)B"), (106, .class_ 371), (1, u "java/lang/StringUTF16$LinesSpliterator"), (58, u "MAX_LENGTH"), (196, .class_ 628), (0, u "java/lang/StringUTF16$CodePointsSpliterator"), (0, .class_ 630), (0, u "java/lang/StringUTF16$CharsSpliterator")] 4

def k11m0 : Method := { name := "<init>", desc := "()V", sig := { parameters := [], returnType := none }, accessFlags := 0, code := none }
def k11c1 : Code := { maxStack := 2, maxLocals := 2, code := jdk_52_method_15_code, exceptionTable := #[], attributes := #[] }
def k11m1 : Method := { name := "coderFromArrayLen", desc := "([BI)B", sig := { parameters := [(.array .byte), .int], returnType := some .byte }, accessFlags := 8, code := some k11c1 }
def k11c2 : Code := { maxStack := 5, maxLocals := 6, code := jdk_52_method_16_code, exceptionTable := #[], attributes := #[] }
def k11m2 : Method := { name := "compress", desc := "([CII)[B", sig := { parameters := [(.array .char), .int, .int], returnType := some (.array .byte) }, accessFlags := 9, code := some k11c2 }
def k11c3 : Code := { maxStack := 3, maxLocals := 7, code := jdk_52_method_21_code, exceptionTable := #[], attributes := #[] }
def k11m3 : Method := { name := "compress", desc := "([CI[BII)I", sig := { parameters := [(.array .char), .int, (.array .byte), .int, .int], returnType := some .int }, accessFlags := 9, code := some k11c3 }
/-- java/lang/StringUTF16 -/
def k11 : Class := { plain "java/lang/StringUTF16" (some 0) with
  accessFlags := 48
  interfaces := #[]
  cf := some (fileOf pool11 12 #[.nestMembers #[627, 629, 369]] #[{ accessFlags := 0, nameIndex := 9, descriptorIndex := 10, attributes := #[] }, { accessFlags := 8, nameIndex := 261, descriptorIndex := 262, attributes := #[] }, { accessFlags := 9, nameIndex := 117, descriptorIndex := 122, attributes := #[] }, { accessFlags := 9, nameIndex := 117, descriptorIndex := 118, attributes := #[] }] 48 6 #[] #[{ accessFlags := 26, nameIndex := 61, descriptorIndex := 62, attributes := #[] }, { accessFlags := 26, nameIndex := 65, descriptorIndex := 62, attributes := #[] }, { accessFlags := 24, nameIndex := 430, descriptorIndex := 62, attributes := #[] }, { accessFlags := 4120, nameIndex := 46, descriptorIndex := 47, attributes := #[] }])
  fields := #[{ name := "HI_BYTE_SHIFT", type := .int, accessFlags := 26, slot := 0, constantValue := 0 }, { name := "LO_BYTE_SHIFT", type := .int, accessFlags := 26, slot := 1, constantValue := 0 }, { name := "MAX_LENGTH", type := .int, accessFlags := 24, slot := 2, constantValue := 0 }, { name := "$assertionsDisabled", type := .boolean, accessFlags := 4120, slot := 3, constantValue := 0 }]
  methods := #[k11m0, k11m1, k11m2, k11m3]
  instanceTypes := #[]
  staticTypes := #[.int, .int, .int, .boolean]
  resolved := Array.replicate 635 none
  statics := none }

def pool12 : Array CpInfo := pool [(2, .class_ 4), (1, u "java/lang/Object"), (0, u "<init>"), (0, u "()V"), (17, .class_ 26), (1, u "jdk/internal/util/Preconditions"), (28, .class_ 56), (0, u "jdk/internal/util/Preconditions$4"), (57, .class_ 115), (0, u "jdk/internal/util/Preconditions$1"), (7, u "SIOOBE_FORMATTER"), (0, u "Ljava/util/function/BiFunction;"), (0, .class_ 126), (0, u "jdk/internal/util/Preconditions$2"), (3, u "AIOOBE_FORMATTER"), (0, .class_ 132), (0, u "jdk/internal/util/Preconditions$3"), (3, u "IOOBE_FORMATTER")] 57

def k12m0 : Method := { name := "<init>", desc := "()V", sig := { parameters := [], returnType := none }, accessFlags := 1, code := none }
/-- jdk/internal/util/Preconditions -/
def k12 : Class := { plain "jdk/internal/util/Preconditions" (some 0) with
  accessFlags := 33
  interfaces := #[]
  cf := some (fileOf pool12 24 #[.nestMembers #[55, 131, 125, 114]] #[{ accessFlags := 1, nameIndex := 5, descriptorIndex := 6, attributes := #[] }] 33 2 #[] #[{ accessFlags := 25, nameIndex := 123, descriptorIndex := 124, attributes := #[] }, { accessFlags := 25, nameIndex := 130, descriptorIndex := 124, attributes := #[] }, { accessFlags := 25, nameIndex := 136, descriptorIndex := 124, attributes := #[] }])
  fields := #[{ name := "SIOOBE_FORMATTER", type := (.object "java/util/function/BiFunction"), accessFlags := 25, slot := 0, constantValue := 0 }, { name := "AIOOBE_FORMATTER", type := (.object "java/util/function/BiFunction"), accessFlags := 25, slot := 1, constantValue := 0 }, { name := "IOOBE_FORMATTER", type := (.object "java/util/function/BiFunction"), accessFlags := 25, slot := 2, constantValue := 0 }]
  methods := #[k12m0]
  instanceTypes := #[]
  staticTypes := #[(.object "java/util/function/BiFunction"), (.object "java/util/function/BiFunction"), (.object "java/util/function/BiFunction")]
  resolved := Array.replicate 194 none
  statics := some 1 }

def pool13 : Array CpInfo := pool [(9, u "<init>"), (6, .class_ 18), (1, u "java/lang/Object"), (0, u "()V"), (1, .class_ 23), (1, u "jdk/internal/util/ArraysSupport"), (0, u "LOG2_ARRAY_LONG_INDEX_SCALE"), (0, u "I"), (2, u "U"), (0, u "Ljdk/internal/misc/Unsafe;"), (8, u "BIG_ENDIAN"), (0, u "Z"), (8, u "LOG2_BYTE_BIT_SIZE"), (4, u "LOG2_ARRAY_INT_INDEX_SCALE"), (54, u "JLA"), (0, u "Ljdk/internal/access/JavaLangAccess;"), (11, u "LOG2_ARRAY_BOOLEAN_INDEX_SCALE"), (9, u "LOG2_ARRAY_BYTE_INDEX_SCALE"), (5, u "LOG2_ARRAY_CHAR_INDEX_SCALE"), (5, u "LOG2_ARRAY_SHORT_INDEX_SCALE"), (18, u "LOG2_ARRAY_FLOAT_INDEX_SCALE"), (24, u "LOG2_ARRAY_DOUBLE_INDEX_SCALE"), (89, u "T_BOOLEAN"), (2, u "T_CHAR"), (1, u "T_FLOAT"), (1, u "T_DOUBLE"), (1, u "T_BYTE"), (1, u "T_SHORT"), (1, u "T_INT"), (1, u "T_LONG"), (1, u "SOFT_MAX_ARRAY_LENGTH")] 83

def k13m0 : Method := { name := "<init>", desc := "()V", sig := { parameters := [], returnType := none }, accessFlags := 2, code := none }
/-- jdk/internal/util/ArraysSupport -/
def k13 : Class := { plain "jdk/internal/util/ArraysSupport" (some 0) with
  accessFlags := 33
  interfaces := #[]
  cf := some (fileOf pool13 21 #[] #[{ accessFlags := 2, nameIndex := 9, descriptorIndex := 19, attributes := #[] }] 33 16 #[] #[{ accessFlags := 24, nameIndex := 28, descriptorIndex := 29, attributes := #[] }, { accessFlags := 26, nameIndex := 38, descriptorIndex := 39, attributes := #[] }, { accessFlags := 25, nameIndex := 121, descriptorIndex := 25, attributes := #[] }, { accessFlags := 25, nameIndex := 131, descriptorIndex := 25, attributes := #[] }, { accessFlags := 25, nameIndex := 137, descriptorIndex := 25, attributes := #[] }, { accessFlags := 25, nameIndex := 143, descriptorIndex := 25, attributes := #[] }, { accessFlags := 25, nameIndex := 53, descriptorIndex := 25, attributes := #[] }, { accessFlags := 25, nameIndex := 24, descriptorIndex := 25, attributes := #[] }, { accessFlags := 25, nameIndex := 162, descriptorIndex := 25, attributes := #[] }, { accessFlags := 25, nameIndex := 187, descriptorIndex := 25, attributes := #[] }, { accessFlags := 26, nameIndex := 48, descriptorIndex := 25, attributes := #[] }, { accessFlags := 25, nameIndex := 277, descriptorIndex := 25, attributes := #[] }, { accessFlags := 25, nameIndex := 280, descriptorIndex := 25, attributes := #[] }, { accessFlags := 25, nameIndex := 282, descriptorIndex := 25, attributes := #[] }, { accessFlags := 25, nameIndex := 284, descriptorIndex := 25, attributes := #[] }, { accessFlags := 25, nameIndex := 286, descriptorIndex := 25, attributes := #[] }, { accessFlags := 25, nameIndex := 288, descriptorIndex := 25, attributes := #[] }, { accessFlags := 25, nameIndex := 290, descriptorIndex := 25, attributes := #[] }, { accessFlags := 25, nameIndex := 292, descriptorIndex := 25, attributes := #[] }, { accessFlags := 26, nameIndex := 108, descriptorIndex := 109, attributes := #[] }, { accessFlags := 25, nameIndex := 294, descriptorIndex := 25, attributes := #[] }])
  fields := #[{ name := "U", type := (.object "jdk/internal/misc/Unsafe"), accessFlags := 24, slot := 0, constantValue := 0 }, { name := "BIG_ENDIAN", type := .boolean, accessFlags := 26, slot := 1, constantValue := 0 }, { name := "LOG2_ARRAY_BOOLEAN_INDEX_SCALE", type := .int, accessFlags := 25, slot := 2, constantValue := 0 }, { name := "LOG2_ARRAY_BYTE_INDEX_SCALE", type := .int, accessFlags := 25, slot := 3, constantValue := 0 }, { name := "LOG2_ARRAY_CHAR_INDEX_SCALE", type := .int, accessFlags := 25, slot := 4, constantValue := 0 }, { name := "LOG2_ARRAY_SHORT_INDEX_SCALE", type := .int, accessFlags := 25, slot := 5, constantValue := 0 }, { name := "LOG2_ARRAY_INT_INDEX_SCALE", type := .int, accessFlags := 25, slot := 6, constantValue := 0 }, { name := "LOG2_ARRAY_LONG_INDEX_SCALE", type := .int, accessFlags := 25, slot := 7, constantValue := 0 }, { name := "LOG2_ARRAY_FLOAT_INDEX_SCALE", type := .int, accessFlags := 25, slot := 8, constantValue := 0 }, { name := "LOG2_ARRAY_DOUBLE_INDEX_SCALE", type := .int, accessFlags := 25, slot := 9, constantValue := 0 }, { name := "LOG2_BYTE_BIT_SIZE", type := .int, accessFlags := 26, slot := 10, constantValue := 0 }, { name := "T_BOOLEAN", type := .int, accessFlags := 25, slot := 11, constantValue := 0 }, { name := "T_CHAR", type := .int, accessFlags := 25, slot := 12, constantValue := 0 }, { name := "T_FLOAT", type := .int, accessFlags := 25, slot := 13, constantValue := 0 }, { name := "T_DOUBLE", type := .int, accessFlags := 25, slot := 14, constantValue := 0 }, { name := "T_BYTE", type := .int, accessFlags := 25, slot := 15, constantValue := 0 }, { name := "T_SHORT", type := .int, accessFlags := 25, slot := 16, constantValue := 0 }, { name := "T_INT", type := .int, accessFlags := 25, slot := 17, constantValue := 0 }, { name := "T_LONG", type := .int, accessFlags := 25, slot := 18, constantValue := 0 }, { name := "JLA", type := (.object "jdk/internal/access/JavaLangAccess"), accessFlags := 26, slot := 19, constantValue := 0 }, { name := "SOFT_MAX_ARRAY_LENGTH", type := .int, accessFlags := 25, slot := 20, constantValue := 0 }]
  methods := #[k13m0]
  instanceTypes := #[]
  staticTypes := #[(.object "jdk/internal/misc/Unsafe"), .boolean, .int, .int, .int, .int, .int, .int, .int, .int, .int, .int, .int, .int, .int, .int, .int, .int, .int, (.object "jdk/internal/access/JavaLangAccess"), .int]
  resolved := Array.replicate 378 none
  statics := none }

def pool14 : Array CpInfo := pool [(1, u "java/lang/Cloneable"), (0, .class_ 1), (0, u "java/lang/Object"), (0, .class_ 3)] 3

/-- java/lang/Cloneable -/
def k14 : Class := { plain "java/lang/Cloneable" (some 0) with
  accessFlags := 1537
  interfaces := #[]
  cf := some (fileOf pool14 2 #[] #[] 1537 4 #[] #[])
  fields := #[]
  methods := #[]
  instanceTypes := #[]
  staticTypes := #[]
  resolved := Array.replicate 8 none
  statics := none }

/-- the primitive byte -/
def k15 : Class := { plain "byte" none with kind := .primitive 'B', accessFlags := 0x411 }
/-- [B -/
def k16 : Class := { plain "[B" (some 0) with kind := .array 15 .byte, interfaces := #[14, 2], accessFlags := 1041 }

/-- the primitive char -/
def k17 : Class := { plain "char" none with kind := .primitive 'C', accessFlags := 0x411 }
/-- [C -/
def k18 : Class := { plain "[C" (some 0) with kind := .array 17 .char, interfaces := #[14, 2], accessFlags := 1041 }

/-- the primitive int -/
def k19 : Class := { plain "int" none with kind := .primitive 'I', accessFlags := 0x411 }
/-- [I -/
def k20 : Class := { plain "[I" (some 0) with kind := .array 19 .int, interfaces := #[14, 2], accessFlags := 1041 }

def heap : Heap := #[{ cls := 7, slots := #[.long 0, .int 1, .null, .int 0, .null, .int 0, .int 0], vm := .statics 7 },
  { cls := 12, slots := #[.null, .null, .null], vm := .statics 12 }]
def classes : Array Class := #[k0, k1, k2, k3, k4, k5, k6, k7, k8, k9, k10, k11, k12, k13, k14, k15, k16, k17, k18, k19, k20]
def interned : List (Array UInt16 × Addr) := []
def slotsUsed : Nat := 10
def theMethod : MethodId := ⟨1, 2⟩
def args0 : Array Value := #[.int 6, .int 65, .int 0, .int 0]
def aboutOver (below : List Frame) : State where
  vm := { classes := classes, interned := interned.toArray }
  heap := heap
  slotsUsed := slotsUsed
  threads := #[{ frames := .invoking theMethod args0 :: below }]
def below0 : List Frame := [.native { method := ⟨0, 0⟩, args := #[] }]
def about1 : State := aboutOver below0
def p0 : Program := .bare "" "" ""
def e0 : Env := launch0.env 0 0 0
theorem w_frames : about1.frames = Frame.invoking theMethod args0 :: below0 := rfl
set_option maxRecDepth 65536 in
theorem w_args : argsFit about1.vm theMethod args0 = true := by decide +kernel
set_option maxRecDepth 65536 in
theorem w_heap : heapFits about1 = true := by decide +kernel
set_option maxRecDepth 65536 in
theorem w_runnable : about1.curStatus? = some .runnable := by decide +kernel
set_option maxRecDepth 65536 in
theorem w_alone : about1.alone = true := by decide +kernel
set_option maxRecDepth 65536 in
theorem w_named : about1.methodNamed? x = some theMethod := by decide +kernel
set_option maxRecDepth 65536 in
theorem w_hears : about1.hears theMethod below0 = true := by decide +kernel
set_option maxRecDepth 65536 in
theorem w_ripe : about1.ripe theMethod args0 below0 = true := by decide +kernel
theorem w_running : about1.status = .running := rfl
set_option maxRecDepth 65536 in
theorem w_room : about1.hasRoom e0.platform room_1 = true :=
  launch0.hasRoom_least _ room_1 (by decide +kernel) (by decide +kernel) (by decide +kernel) (by decide +kernel) (by decide +kernel) (by decide +kernel)
theorem allAtoms_all (ts : List Jvm.Cond) (a : Array Jvm.Value) (st : Jvm.State) : (allAtoms ts).before a st = ts.all (fun c => c.before a st) := by
  induction ts with
  | nil => rfl
  | cons c t ih =>
    show (Jvm.Cond.and c (allAtoms t)).before a st = _
    rw [Jvm.Cond.before_and, ih, List.all_cons]
def words1 : List Jvm.Cond := Jvm.Cond.code x code maxLocals ret :: tables_1
/-- a 'code' word, met by the world's own term for the bytes: nothing is compared byte by byte -/
theorem code_word {y : MethodName} {bytes : ByteArray} {mx : Nat} {rt : Option FieldType} {a : Array Value} {s : State} {m : MethodId} {meth : Method} {c : Code} (h1 : s.methodNamed? y = some m) (h2 : s.vm.method? m = some meth) (h3 : meth.code = some c) (h4 : c.code = bytes)
    (h5 : (c.maxLocals == mx && c.exceptionTable.isEmpty && decide (c.maxStack ≤ mostOperands) && decide (meth.sig.returnType = rt) && !meth.locks && decide (parseMethodDescriptor y.desc = some meth.sig)) = true) : (Jvm.Cond.code y bytes mx rt).before a s = true := by
  simp only [Bool.and_eq_true, beq_iff_eq, Bool.not_eq_true', decide_eq_true_eq] at h5
  obtain ⟨⟨⟨⟨⟨g1, g2⟩, g3⟩, g4⟩, g5⟩, g6⟩ := h5
  simp [Cond.before, Cond.holds, Cond.value, h1, h2, h3, h4, g1, g2, g3, g4, g5, g6]
def isCode : Jvm.Cond → Bool
  | .code _ _ _ _ => true
  | _ => false
theorem all_split {L : List Jvm.Cond} {P : Jvm.Cond → Bool} (h1 : L.all (fun c => isCode c || P c) = true) (h2 : ∀ c ∈ L.filter isCode, P c = true) : L.all P = true := by
  refine List.all_eq_true.mpr fun c hc => ?_
  have h := List.all_eq_true.mp h1 c hc
  rcases Bool.eq_false_or_eq_true (isCode c) with hi | hi
  · exact h2 c (List.mem_filter.mpr ⟨hc, hi⟩)
  · simpa [hi] using h
set_option maxRecDepth 65536 in
theorem w_c0 : (Jvm.Cond.code x code maxLocals ret).before args0 about1 = true := code_word (m := ⟨1, 2⟩) (meth := k1m2) (c := k1c2) (by decide +kernel) rfl rfl rfl (by decide +kernel)
set_option maxRecDepth 65536 in
theorem w_c1 : (Jvm.Cond.code ({ cls := "com/example/practory/practory/resource/ElementDefinitionsDefinesItsElementsPinLaw", name := "str", desc := "(ICCC)Ljava/lang/String;" } : Jvm.MethodName) method_2_code (4 : Nat) (Option.some (Jvm.ClassFile.FieldType.object "java/lang/String"))).before args0 about1 = true := code_word (m := ⟨1, 1⟩) (meth := k1m1) (c := k1c1) (by decide +kernel) rfl rfl rfl (by decide +kernel)
set_option maxRecDepth 65536 in
theorem w_c2 : (Jvm.Cond.code ({ cls := "java/lang/String", name := "<init>", desc := "([C)V" } : Jvm.MethodName) jdk_42_method_3_code (2 : Nat) (Option.none : Option Jvm.ClassFile.FieldType)).before args0 about1 = true := code_word (m := ⟨7, 1⟩) (meth := k7m1) (c := k7c1) (by decide +kernel) rfl rfl rfl (by decide +kernel)
set_option maxRecDepth 65536 in
theorem w_c3 : (Jvm.Cond.code ({ cls := "java/lang/String", name := "<init>", desc := "([CIILjava/lang/Void;)V" } : Jvm.MethodName) jdk_42_method_149_code (6 : Nat) (Option.none : Option Jvm.ClassFile.FieldType)).before args0 about1 = true := code_word (m := ⟨7, 3⟩) (meth := k7m3) (c := k7c3) (by decide +kernel) rfl rfl rfl (by decide +kernel)
set_option maxRecDepth 65536 in
theorem w_c4 : (Jvm.Cond.code ({ cls := "java/lang/Object", name := "<init>", desc := "()V" } : Jvm.MethodName) object_method_1_code (1 : Nat) (Option.none : Option Jvm.ClassFile.FieldType)).before args0 about1 = true := code_word (m := ⟨0, 0⟩) (meth := k0m0) (c := k0c0) (by decide +kernel) rfl rfl rfl (by decide +kernel)
set_option maxRecDepth 65536 in
theorem w_c5 : (Jvm.Cond.code ({ cls := "com/example/practory/practory/resource/ElementDefinitions$Element", name := "<init>", desc := "(Ljava/lang/String;ZLjava/lang/String;ZZ)V" } : Jvm.MethodName) prog_5_method_1_code (6 : Nat) (Option.none : Option Jvm.ClassFile.FieldType)).before args0 about1 = true := code_word (m := ⟨9, 0⟩) (meth := k9m0) (c := k9c0) (by decide +kernel) rfl rfl rfl (by decide +kernel)
set_option maxRecDepth 65536 in
theorem w_c6 : (Jvm.Cond.code ({ cls := "java/lang/Record", name := "<init>", desc := "()V" } : Jvm.MethodName) jdk_30_method_1_code (1 : Nat) (Option.none : Option Jvm.ClassFile.FieldType)).before args0 about1 = true := code_word (m := ⟨8, 0⟩) (meth := k8m0) (c := k8c0) (by decide +kernel) rfl rfl rfl (by decide +kernel)
set_option maxRecDepth 65536 in
theorem w_c7 : (Jvm.Cond.code ({ cls := "com/example/practory/practory/resource/ElementDefinitions$Element", name := "definesItsElements", desc := "()Z" } : Jvm.MethodName) prog_5_method_3_code (1 : Nat) (Option.some Jvm.ClassFile.FieldType.boolean)).before args0 about1 = true := code_word (m := ⟨9, 1⟩) (meth := k9m1) (c := k9c1) (by decide +kernel) rfl rfl rfl (by decide +kernel)
set_option maxRecDepth 65536 in
theorem w_c8 : (Jvm.Cond.code ({ cls := "java/lang/String", name := "equals", desc := "(Ljava/lang/Object;)Z" } : Jvm.MethodName) jdk_42_method_66_code (3 : Nat) (Option.some Jvm.ClassFile.FieldType.boolean)).before args0 about1 = true := code_word (m := ⟨7, 2⟩) (meth := k7m2) (c := k7c2) (by decide +kernel) rfl rfl rfl (by decide +kernel)
set_option maxRecDepth 65536 in
theorem w_c9 : (Jvm.Cond.code ({ cls := "java/lang/StringLatin1", name := "equals", desc := "([B[B)Z" } : Jvm.MethodName) jdk_43_method_13_code (3 : Nat) (Option.some Jvm.ClassFile.FieldType.boolean)).before args0 about1 = true := code_word (m := ⟨10, 1⟩) (meth := k10m1) (c := k10c1) (by decide +kernel) rfl rfl rfl (by decide +kernel)
set_option maxRecDepth 65536 in
theorem w_c10 : (Jvm.Cond.code ({ cls := "java/lang/StringUTF16", name := "compress", desc := "([CII)[B" } : Jvm.MethodName) jdk_52_method_16_code (6 : Nat) (Option.some (Jvm.ClassFile.FieldType.array Jvm.ClassFile.FieldType.byte))).before args0 about1 = true := code_word (m := ⟨11, 2⟩) (meth := k11m2) (c := k11c2) (by decide +kernel) rfl rfl rfl (by decide +kernel)
set_option maxRecDepth 65536 in
theorem w_c11 : (Jvm.Cond.code ({ cls := "java/lang/StringUTF16", name := "compress", desc := "([CI[BII)I" } : Jvm.MethodName) jdk_52_method_21_code (7 : Nat) (Option.some Jvm.ClassFile.FieldType.int)).before args0 about1 = true := code_word (m := ⟨11, 3⟩) (meth := k11m3) (c := k11c3) (by decide +kernel) rfl rfl rfl (by decide +kernel)
set_option maxRecDepth 65536 in
theorem w_c12 : (Jvm.Cond.code ({ cls := "java/lang/StringUTF16", name := "coderFromArrayLen", desc := "([BI)B" } : Jvm.MethodName) jdk_52_method_15_code (2 : Nat) (Option.some Jvm.ClassFile.FieldType.byte)).before args0 about1 = true := code_word (m := ⟨11, 1⟩) (meth := k11m1) (c := k11c1) (by decide +kernel) rfl rfl rfl (by decide +kernel)
def codes1 : List Jvm.Cond := [Jvm.Cond.code x code maxLocals ret, Jvm.Cond.code ({ cls := "com/example/practory/practory/resource/ElementDefinitionsDefinesItsElementsPinLaw", name := "str", desc := "(ICCC)Ljava/lang/String;" } : Jvm.MethodName) method_2_code (4 : Nat) (Option.some (Jvm.ClassFile.FieldType.object "java/lang/String")), Jvm.Cond.code ({ cls := "java/lang/String", name := "<init>", desc := "([C)V" } : Jvm.MethodName) jdk_42_method_3_code (2 : Nat) (Option.none : Option Jvm.ClassFile.FieldType), Jvm.Cond.code ({ cls := "java/lang/String", name := "<init>", desc := "([CIILjava/lang/Void;)V" } : Jvm.MethodName) jdk_42_method_149_code (6 : Nat) (Option.none : Option Jvm.ClassFile.FieldType), Jvm.Cond.code ({ cls := "java/lang/Object", name := "<init>", desc := "()V" } : Jvm.MethodName) object_method_1_code (1 : Nat) (Option.none : Option Jvm.ClassFile.FieldType), Jvm.Cond.code ({ cls := "com/example/practory/practory/resource/ElementDefinitions$Element", name := "<init>", desc := "(Ljava/lang/String;ZLjava/lang/String;ZZ)V" } : Jvm.MethodName) prog_5_method_1_code (6 : Nat) (Option.none : Option Jvm.ClassFile.FieldType), Jvm.Cond.code ({ cls := "java/lang/Record", name := "<init>", desc := "()V" } : Jvm.MethodName) jdk_30_method_1_code (1 : Nat) (Option.none : Option Jvm.ClassFile.FieldType), Jvm.Cond.code ({ cls := "com/example/practory/practory/resource/ElementDefinitions$Element", name := "definesItsElements", desc := "()Z" } : Jvm.MethodName) prog_5_method_3_code (1 : Nat) (Option.some Jvm.ClassFile.FieldType.boolean), Jvm.Cond.code ({ cls := "java/lang/String", name := "equals", desc := "(Ljava/lang/Object;)Z" } : Jvm.MethodName) jdk_42_method_66_code (3 : Nat) (Option.some Jvm.ClassFile.FieldType.boolean), Jvm.Cond.code ({ cls := "java/lang/StringLatin1", name := "equals", desc := "([B[B)Z" } : Jvm.MethodName) jdk_43_method_13_code (3 : Nat) (Option.some Jvm.ClassFile.FieldType.boolean), Jvm.Cond.code ({ cls := "java/lang/StringUTF16", name := "compress", desc := "([CII)[B" } : Jvm.MethodName) jdk_52_method_16_code (6 : Nat) (Option.some (Jvm.ClassFile.FieldType.array Jvm.ClassFile.FieldType.byte)), Jvm.Cond.code ({ cls := "java/lang/StringUTF16", name := "compress", desc := "([CI[BII)I" } : Jvm.MethodName) jdk_52_method_21_code (7 : Nat) (Option.some Jvm.ClassFile.FieldType.int), Jvm.Cond.code ({ cls := "java/lang/StringUTF16", name := "coderFromArrayLen", desc := "([BI)B" } : Jvm.MethodName) jdk_52_method_15_code (2 : Nat) (Option.some Jvm.ClassFile.FieldType.byte)]
set_option maxRecDepth 65536 in
theorem codes_eq : words1.filter isCode = codes1 := rfl
theorem w_codes : ∀ c ∈ words1.filter isCode, c.before args0 about1 = true := by
  rw [codes_eq]
  intro c hc
  simp only [codes1, List.mem_cons, List.not_mem_nil, or_false] at hc
  rcases hc with rfl | rfl | rfl | rfl | rfl | rfl | rfl | rfl | rfl | rfl | rfl | rfl | rfl
  · exact w_c0
  · exact w_c1
  · exact w_c2
  · exact w_c3
  · exact w_c4
  · exact w_c5
  · exact w_c6
  · exact w_c7
  · exact w_c8
  · exact w_c9
  · exact w_c10
  · exact w_c11
  · exact w_c12
set_option maxRecDepth 65536 in
theorem w_t1 : (words1.take 24).all (fun c => isCode c || c.before args0 about1) = true := by decide +kernel
set_option maxRecDepth 65536 in
theorem w_t2 : ((words1.drop 24).take 24).all (fun c => isCode c || c.before args0 about1) = true := by decide +kernel
set_option maxRecDepth 65536 in
theorem w_t3 : (((words1.drop 24).drop 24).take 24).all (fun c => isCode c || c.before args0 about1) = true := by decide +kernel
set_option maxRecDepth 65536 in
theorem w_t4 : (((words1.drop 24).drop 24).drop 24).all (fun c => isCode c || c.before args0 about1) = true := by decide +kernel
theorem w_tables : (allAtoms (Jvm.Cond.code x code maxLocals ret :: tables_1)).before args0 about1 = true := by
  rw [allAtoms_all]
  show words1.all (fun c => c.before args0 about1) = true
  refine all_split ?_ w_codes
  rw [← List.take_append_drop 24 words1, List.all_append, w_t1, ← List.take_append_drop 24 (words1.drop 24), List.all_append, w_t2, ← List.take_append_drop 24 ((words1.drop 24).drop 24), List.all_append, w_t3, w_t4]
  rfl
set_option maxRecDepth 65536 in
theorem w_rest : rest_1_c.before args0 about1 = true := by decide +kernel
set_option maxRecDepth 65536 in
theorem w_case : (Jvm.Cond.and given_1 narrow_1).before args0 about1 = true := by decide +kernel
set_option maxRecDepth 65536 in
theorem w_consts : constsHeld consts_1 about1 := Jvm.Lit.constsHeldB_iff.mp (by decide +kernel)
theorem w_applies : (headSpec (Jvm.Cond.code x code maxLocals ret :: tables_1) room_1).applies x e0.platform about1 = true :=
  (Spec.applies_iff w_frames).mpr ⟨w_running, w_runnable, w_alone, w_named, w_hears, w_ripe, w_room, w_tables⟩
theorem atStart : AtStart classFile x code maxLocals ret World_1 tables_1 room_1 Calls_1 rest_1 Pre_1 launch0 p0 e0 about1 theMethod args0 below0 :=
  ⟨lists_1, trivial, launch0.admits_env _ _ _, launch0.least_env, fairChoices_fair.cas, fairChoices_fair.clock, w_frames, w_args, w_heap, w_applies, ⟨w_consts, trivial⟩, w_rest, w_case⟩
end start1
theorem witness_1 : WitnessClaimed_1 := ⟨start1.p0, start1.e0, start1.about1, start1.theMethod, start1.args0, start1.below0, start1.atStart⟩
end Jvm.Pilot.@@N@@
