import JvmDerived
import JvmDerived.Pilot.@@N@@Statement
import JvmDerived.Pilot.@@N@@Code
set_option linter.unusedVariables false
set_option linter.unusedSimpArgs false
@@BLOCK:NumsL.lean.txt@@
/- laws to paste: Road.backV, Road.eqW, Road.codOf (cut by pick.py; bodies as the Statement names them) -/
namespace Jvm.Pilot.@@N@@
namespace StrChars
open Jvm Sem ClassFile Op Lib Jvm.Stand Jvm.Free.XT Jvm.Free.ALB Jvm.Free.JM Jvm.Free
open Jvm.Lib.Cold (StaticIs)
/-- a char array whose places are chars -/
def Ch (a : Addr) (A : Cell) (U : State) : Prop := Arr .char a A U ∧ Typed .char A
theorem Ch.mv {a : Addr} {A : Cell} {U U' : State} (h : Ch a A U) (hal : U.vm.Alike U'.vm) (hh : U'.heap = U.heap) : Ch a A U' := ⟨h.1.mv hal hh, h.2⟩
theorem Ch.keep {a : Addr} {A : Cell} {U U' : State} (h : Ch a A U) (hal : U.vm.Alike U'.vm) (hk : U'.heap[a]? = some A) : Ch a A U' := ⟨h.1.keep hal hk, h.2⟩
/-- what place i of a char[]'s cell holds -/
def cv (A : Cell) (i : Nat) : Int32 := match A.slots[i]? with | some (.int x) => x | _ => 0
theorem Ch.get {a : Addr} {A : Cell} {U : State} (h : Ch a A U) {i : Nat} (hi : i < A.slots.size) : A.slots[i]? = some (.int (cv A i)) := by
  have e := Array.getElem?_eq_getElem hi
  have f := h.2 i _ e
  unfold cv; rw [e]
  generalize A.slots[i] = v at f
  cases v <;> simp [fits] at f ⊢
/-- the byte that i2b leaves of a char -/
def lo8 (x : Int32) : Int32 := x.toInt8.toInt32
theorem fits_lo8 (y : Int32) : fits .byte (.int (lo8 y)) = true := by
  have h1 := y.toInt8.le_toInt
  have h2 := y.toInt8.toInt_lt
  simp only [lo8, fits, Bool.and_eq_true, decide_eq_true_eq, Int32.le_iff_toInt_le, Int8.toInt_toInt32, show (-128 : Int32).toInt = -128 from by decide, show (127 : Int32).toInt = 127 from by decide]
  omega
/-- A' is A but that each place j of lo .. hi - 1 holds f j -/
def Laid (A A' : Cell) (lo hi : Nat) (f : Nat → Value) : Prop := A'.cls = A.cls ∧ A'.vm = A.vm ∧ A'.slots.size = A.slots.size ∧ ∀ i, A'.slots[i]? = if lo ≤ i ∧ i < hi then some (f i) else A.slots[i]?
theorem Laid.zero (A : Cell) (lo : Nat) (f : Nat → Value) : Laid A A lo (lo + 0) f := ⟨rfl, rfl, rfl, fun i => by rw [if_neg (by omega)]⟩
theorem Laid.step {A Ak : Cell} {lo k : Nat} {f : Nat → Value} {v : Value} (h : Laid A Ak lo k f) (hlo : lo ≤ k) (hk : k < Ak.slots.size) (hv : v = f k) : Laid A (Ak.setSlot k v) lo (k + 1) f := by
  refine ⟨h.1, h.2.1, by simpa [Cell.setSlot] using h.2.2.1, fun i => ?_⟩
  by_cases e : k = i
  · subst e; rw [Cell.slots_setSlot_self v hk, if_pos (by omega), hv]
  · rw [Cell.slots_setSlot_ne v e, h.2.2.2 i]
    by_cases q : lo ≤ i ∧ i < k
    · rw [if_pos q, if_pos (by omega)]
    · rw [if_neg q, if_neg (by omega)]
def U16 : String := "java/lang/StringUTF16"
namespace Cmp5
def yN : MethodName := ⟨"java/lang/StringUTF16", "compress", "([CI[BII)I"⟩
abbrev yB : ByteArray := jdk_52_method_21_code
theorem d0 : decode yB 0 = .ok (.iconst 0, 1) := by decide +kernel
theorem d1 : decode yB 1 = .ok (.istore 5, 2) := by decide +kernel
theorem d3 : decode yB 3 = .ok (.iload 5, 2) := by decide +kernel
theorem d5 : decode yB 5 = .ok (.iload 4, 2) := by decide +kernel
theorem d7 : decode yB 7 = .ok (.if_icmp (.ge) 37, 3) := by decide +kernel
theorem d10 : decode yB 10 = .ok (.aload_n 0, 1) := by decide +kernel
theorem d11 : decode yB 11 = .ok (.iload_n 1, 1) := by decide +kernel
theorem d12 : decode yB 12 = .ok (.caload, 1) := by decide +kernel
theorem d13 : decode yB 13 = .ok (.istore 6, 2) := by decide +kernel
theorem d15 : decode yB 15 = .ok (.iload 6, 2) := by decide +kernel
theorem d17 : decode yB 17 = .ok (.sipush 255, 3) := by decide +kernel
theorem d20 : decode yB 20 = .ok (.if_icmp (.le) 6, 3) := by decide +kernel
theorem d26 : decode yB 26 = .ok (.aload_n 2, 1) := by decide +kernel
theorem d27 : decode yB 27 = .ok (.iload_n 3, 1) := by decide +kernel
theorem d28 : decode yB 28 = .ok (.iload 6, 2) := by decide +kernel
theorem d30 : decode yB 30 = .ok (.i2b, 1) := by decide +kernel
theorem d31 : decode yB 31 = .ok (.bastore, 1) := by decide +kernel
theorem d32 : decode yB 32 = .ok (.iinc 1 1, 3) := by decide +kernel
theorem d35 : decode yB 35 = .ok (.iinc 3 1, 3) := by decide +kernel
theorem d38 : decode yB 38 = .ok (.iinc 5 1, 3) := by decide +kernel
theorem d41 : decode yB 41 = .ok (.goto (-38), 3) := by decide +kernel
theorem d44 : decode yB 44 = .ok (.iload 4, 2) := by decide +kernel
theorem d46 : decode yB 46 = .ok (.ireturn, 1) := by decide +kernel
def site : List Cond := []
def tab : Cond := tabOf yN yB 7 (some .int) site
def P (b : Addr) (A : Cell) (d : Addr) (B : Cell) (o q len : Nat) (args : Array Value) (s : State) : Prop := args = #[.ref b, .int (Int32.ofNat o), .ref d, .int (Int32.ofNat q), .int (Int32.ofNat len)] ∧ Ch b A s ∧ Arr .byte d B s ∧ b ≠ d ∧ o + len ≤ A.slots.size ∧ q + len ≤ B.slots.size ∧ ∀ i, i < len → ¬ 255 < cv A (o + i)
def E (b : Addr) (A : Cell) (d : Addr) (B : Cell) (o q len : Nat) (r : Option Value) (s u : State) : Prop := r = some (.int (Int32.ofNat len)) ∧ ∃ B', Put d B' s u ∧ Laid B B' q (q + len) (fun j => Value.int (lo8 (cv A (o + (j - q)))))
/-- no char of the range above 255: len; the places written hold each char's low byte -/
theorem law (l : Launch) (b : Addr) (A : Cell) (d : Addr) (B : Cell) (o q len : Nat) : Law l yN 5 5 0 0 yB 7 (some .int) site (P b A d B o q len) (E b A d B o q len) (copyLocs d q len) 0 0 := by
  refine Law.of_walk (plainFor_of_name (by decide +kernel)) (by decide +kernel) (by decide +kernel) (by decide) (fun _ _ h => by rw [h.1]; rfl) (fun _ U U' hal hh h => ⟨h.1, h.2.1.mv hal hh, h.2.2.1.mv hal hh, h.2.2.2⟩) (fun r U U' V V' h1 hal h2 h => ⟨h.1, h.2.elim fun B' q => ⟨B', q.1.mv h1 h2, q.2⟩⟩) ?_
  intro p e s m args below meth c s₁ X0 hexec hbytes hml hret hlk hnm hown hh0 W hP
  obtain ⟨rfl, hA, hB, hne, l1, l2, hp⟩ := hP
  have c1 : Steps p.tables e below (s₁.setTop (entryFrame m #[.ref b, .int (Int32.ofNat o), .ref d, .int (Int32.ofNat q), .int (Int32.ofNat len)] 7)) (s₁.setTop (mkF m 0 #[.val (.ref b), .val (.int (Int32.ofNat o)), .val (.ref d), .val (.int (Int32.ofNat q)), .val (.int (Int32.ofNat len)), .unset, .unset] [])) := entry rfl
  have hA0 := hA.1.mv X0.warmed.alike hh0
  have hB0 := hB.mv X0.warmed.alike hh0
  have a31 := hA.1.2.2.2
  have c2 : Steps p.tables e below (s₁.setTop (entryFrame m #[.ref b, .int (Int32.ofNat o), .ref d, .int (Int32.ofNat q), .int (Int32.ofNat len)] 7)) (s₁.setTop (mkF m 3 #[.val (.ref b), .val (.int (Int32.ofNat o)), .val (.ref d), .val (.int (Int32.ofNat q)), .val (.int (Int32.ofNat len)), .val (.int 0), .unset] [])) := c1.trans (by
    refine iconstV X0.here hexec rfl 0 (hb hbytes d0) (by decide) ?_
    refine XS.istore X0.here hexec rfl (hb hbytes d1) rfl rfl ?_
    exact Steps.refl _)
  have loop : ∀ (r i : Nat), i + r = len → ∀ (z : Slot), (z = .unset ∨ ∃ w, z = .val w ∧ w.category = 1) → ∀ (Tl : State) (Bk : Cell), Stand p l e { frames := 0, locals := 0, cells := 0, slots := 0 } s m #[.ref b, .int (Int32.ofNat o), .ref d, .int (Int32.ofNat q), .int (Int32.ofNat len)] below meth c Tl ([] ++ copyLocs d q i) 0 0 → Put d Bk s₁ Tl → Laid B Bk q (q + i) (fun j => Value.int (lo8 (cv A (o + (j - q))))) →
      Steps p.tables e below (s₁.setTop (entryFrame m #[.ref b, .int (Int32.ofNat o), .ref d, .int (Int32.ofNat q), .int (Int32.ofNat len)] 7)) (Tl.setTop (mkF m 3 #[.val (.ref b), .val (.int (Int32.ofNat (o + i))), .val (.ref d), .val (.int (Int32.ofNat (q + i))), .val (.int (Int32.ofNat len)), .val (.int (Int32.ofNat i)), z] [])) → ∃ (T' : State) (B' : Cell) (z' : Slot), Stand p l e { frames := 0, locals := 0, cells := 0, slots := 0 } s m #[.ref b, .int (Int32.ofNat o), .ref d, .int (Int32.ofNat q), .int (Int32.ofNat len)] below meth c T' ([] ++ copyLocs d q len) 0 0 ∧ Put d B' s₁ T' ∧ Laid B B' q (q + len) (fun j => Value.int (lo8 (cv A (o + (j - q))))) ∧
      Steps p.tables e below (s₁.setTop (entryFrame m #[.ref b, .int (Int32.ofNat o), .ref d, .int (Int32.ofNat q), .int (Int32.ofNat len)] 7)) (T'.setTop (mkF m 3 #[.val (.ref b), .val (.int (Int32.ofNat (o + len))), .val (.ref d), .val (.int (Int32.ofNat (q + len))), .val (.int (Int32.ofNat len)), .val (.int (Int32.ofNat len)), z'] [])) := by
    intro r
    induction r with
    | zero =>
      intro i hi z hz Tl Bk Xl pl fl cl
      have hil : i = len := by omega
      rw [hil] at Xl fl cl
      exact ⟨Tl, Bk, z, Xl, pl, fl, cl⟩
    | succ r ih =>
      intro i hi z hz Tl Bk Xl pl fl cl
      have all := X0.warmed.alike.symm.trans Xl.warmed.alike
      have hAl := hA0.keep all (pl.other hne hA0.1)
      have hBk := hB0.like all pl.1 fl.1 fl.2.1 fl.2.2.1
      have hlt : q + i < Bk.slots.size := by rw [fl.2.2.1]; omega
      have c3 : Steps p.tables e below (s₁.setTop (entryFrame m #[.ref b, .int (Int32.ofNat o), .ref d, .int (Int32.ofNat q), .int (Int32.ofNat len)] 7)) (Tl.setTop (mkF m 12 #[.val (.ref b), .val (.int (Int32.ofNat (o + i))), .val (.ref d), .val (.int (Int32.ofNat (q + i))), .val (.int (Int32.ofNat len)), .val (.int (Int32.ofNat i)), z] [.int (Int32.ofNat (o + i)), .ref b])) := cl.trans (by
        refine XS.iload Xl.here hexec rfl (hb hbytes d3) rfl ?_
        refine XS.iload Xl.here hexec rfl (hb hbytes d5) rfl ?_
        refine XS.icmpNo Xl.here hexec rfl (hb hbytes d7) rfl (ii_ge_f (lt32 (by omega) (by omega))) ?_
        refine XS.aloadN Xl.here hexec rfl (hb hbytes d10) rfl rfl ?_
        refine XS.iloadN Xl.here hexec rfl (hb hbytes d11) rfl ?_
        exact Steps.refl _)
      have c4 : Steps p.tables e below (s₁.setTop (entryFrame m #[.ref b, .int (Int32.ofNat o), .ref d, .int (Int32.ofNat q), .int (Int32.ofNat len)] 7)) (Tl.setTop (mkF m 13 #[.val (.ref b), .val (.int (Int32.ofNat (o + i))), .val (.ref d), .val (.int (Int32.ofNat (q + i))), .val (.int (Int32.ofNat len)), .val (.int (Int32.ofNat i)), z] [.int (cv A (o + i))])) := c3.trans (by
        refine Xl.aget hexec hAl rfl (hA.get (i := o + i) (by omega)) rfl rfl (hb hbytes d12) ?_
        exact Steps.refl _)
      have c5 : Steps p.tables e below (s₁.setTop (entryFrame m #[.ref b, .int (Int32.ofNat o), .ref d, .int (Int32.ofNat q), .int (Int32.ofNat len)] 7)) (Tl.setTop (mkF m 15 #[.val (.ref b), .val (.int (Int32.ofNat (o + i))), .val (.ref d), .val (.int (Int32.ofNat (q + i))), .val (.int (Int32.ofNat len)), .val (.int (Int32.ofNat i)), .val (.int (cv A (o + i)))] [])) := c4.trans (by
        refine XS.istoreS Xl.here hexec rfl (hb hbytes d13) rfl rfl hz ?_
        exact Steps.refl _)
      have c6 : Steps p.tables e below (s₁.setTop (entryFrame m #[.ref b, .int (Int32.ofNat o), .ref d, .int (Int32.ofNat q), .int (Int32.ofNat len)] 7)) (Tl.setTop (mkF m 31 #[.val (.ref b), .val (.int (Int32.ofNat (o + i))), .val (.ref d), .val (.int (Int32.ofNat (q + i))), .val (.int (Int32.ofNat len)), .val (.int (Int32.ofNat i)), .val (.int (cv A (o + i)))] [.int (lo8 (cv A (o + i))), .int (Int32.ofNat (q + i)), .ref d])) := c5.trans (by
        refine XS.iload Xl.here hexec rfl (hb hbytes d15) rfl ?_
        refine sipushV Xl.here hexec rfl 255 (hb hbytes d17) (by decide) ?_
        refine XS.icmpYes Xl.here hexec rfl (pc0 := 20) rfl (hb hbytes d20) rfl (ii_le_t (hp i (by omega))) (by decide) rfl ?_
        refine XS.aloadN Xl.here hexec rfl (hb hbytes d26) rfl rfl ?_
        refine XS.iloadN Xl.here hexec rfl (hb hbytes d27) rfl ?_
        refine XS.iload Xl.here hexec rfl (hb hbytes d28) rfl ?_
        refine i2b Xl.here hexec rfl (hb hbytes d30) rfl ?_
        exact Steps.refl _)
      obtain ⟨T7, X7, p7, st7⟩ := Xl.aput hexec hBk rfl hlt rfl (fits_lo8 (cv A (o + i))) (g := (mkF m 31 #[.val (.ref b), .val (.int (Int32.ofNat (o + i))), .val (.ref d), .val (.int (Int32.ofNat (q + i))), .val (.int (Int32.ofNat len)), .val (.int (Int32.ofNat i)), .val (.int (cv A (o + i)))] [.int (lo8 (cv A (o + i))), .int (Int32.ofNat (q + i)), .ref d])) rfl (rest := []) rfl (hb hbytes d31)
      have c8 : Steps p.tables e below (s₁.setTop (entryFrame m #[.ref b, .int (Int32.ofNat o), .ref d, .int (Int32.ofNat q), .int (Int32.ofNat len)] 7)) (T7.setTop (mkF m 32 #[.val (.ref b), .val (.int (Int32.ofNat (o + i))), .val (.ref d), .val (.int (Int32.ofNat (q + i))), .val (.int (Int32.ofNat len)), .val (.int (Int32.ofNat i)), .val (.int (cv A (o + i)))] [])) := c6.trans (st7 _ (Steps.refl _))
      have c9 : Steps p.tables e below (s₁.setTop (entryFrame m #[.ref b, .int (Int32.ofNat o), .ref d, .int (Int32.ofNat q), .int (Int32.ofNat len)] 7)) (T7.setTop (mkF m 3 #[.val (.ref b), .val (.int (Int32.ofNat (o + i) + 1)), .val (.ref d), .val (.int (Int32.ofNat (q + i) + 1)), .val (.int (Int32.ofNat len)), .val (.int (Int32.ofNat i + 1)), .val (.int (cv A (o + i)))] [])) := c8.trans (by
        refine iincV X7.here hexec rfl 1 (hb hbytes d32) (by decide) rfl rfl ?_
        refine iincV X7.here hexec rfl 1 (hb hbytes d35) (by decide) rfl rfl ?_
        refine iincV X7.here hexec rfl 1 (hb hbytes d38) (by decide) rfl rfl ?_
        refine XS.goto X7.here hexec rfl (pc0 := 41) rfl (hb hbytes d41) (by decide) rfl ?_
        exact Steps.refl _)
      have c10 : Steps p.tables e below (s₁.setTop (entryFrame m #[.ref b, .int (Int32.ofNat o), .ref d, .int (Int32.ofNat q), .int (Int32.ofNat len)] 7)) (T7.setTop (mkF m 3 #[.val (.ref b), .val (.int (Int32.ofNat (o + (i + 1)))), .val (.ref d), .val (.int (Int32.ofNat (q + (i + 1)))), .val (.int (Int32.ofNat len)), .val (.int (Int32.ofNat (i + 1))), .val (.int (cv A (o + i)))] [])) := by
        have := c9
        rw [succ32, succ32, succ32] at this
        exact this
      exact ih (i + 1) (by omega) _ (Or.inr ⟨_, rfl, rfl⟩) T7 _ (by rw [copyLocs_step, ← List.append_assoc]; exact X7) (pl.trans p7) (fl.step (by omega) hlt (by simp)) c10
  obtain ⟨T9, B9, z9, X9, p9, f9, g9⟩ := loop len 0 (by omega) .unset (Or.inl rfl) s₁ B (by simpa [copyLocs] using X0) ⟨hB0.1, fun _ _ => rfl, rfl⟩ (Laid.zero _ _ _) c2
  have c11 : Steps p.tables e below (s₁.setTop (entryFrame m #[.ref b, .int (Int32.ofNat o), .ref d, .int (Int32.ofNat q), .int (Int32.ofNat len)] 7)) (T9.setTop (mkF m 46 #[.val (.ref b), .val (.int (Int32.ofNat (o + len))), .val (.ref d), .val (.int (Int32.ofNat (q + len))), .val (.int (Int32.ofNat len)), .val (.int (Int32.ofNat len)), z9] [.int (Int32.ofNat len)])) := g9.trans (by
    refine XS.iload X9.here hexec rfl (hb hbytes d3) rfl ?_
    refine XS.iload X9.here hexec rfl (hb hbytes d5) rfl ?_
    refine XS.icmpYes X9.here hexec rfl (pc0 := 7) rfl (hb hbytes d7) rfl (ii_ge_t (nlt32 (by omega) (Nat.le_refl _))) (by decide) rfl ?_
    refine XS.iload X9.here hexec rfl (hb hbytes d44) rfl ?_
    exact Steps.refl _)
  exact ⟨T9, some (.int (Int32.ofNat len)), _, _, _, X9, by simp, rfl, rfl, (fun h => by cases h), ⟨rfl, B9, p9.from hh0, f9⟩, fun fs hl => c11.trans (X9.ireturnOut hexec hret rfl (Or.inl rfl) (hb hbytes d46) hl)⟩
end Cmp5
namespace Cmp3
def yN : MethodName := ⟨"java/lang/StringUTF16", "compress", "([CII)[B"⟩
abbrev yB : ByteArray := jdk_52_method_16_code
theorem d0 : decode yB 0 = .ok (.iload_n 2, 1) := by decide +kernel
theorem d1 : decode yB 1 = .ok (.newarray .byte, 2) := by decide +kernel
theorem d3 : decode yB 3 = .ok (.astore_n 3, 1) := by decide +kernel
theorem d4 : decode yB 4 = .ok (.aload_n 0, 1) := by decide +kernel
theorem d5 : decode yB 5 = .ok (.iload_n 1, 1) := by decide +kernel
theorem d6 : decode yB 6 = .ok (.aload_n 3, 1) := by decide +kernel
theorem d7 : decode yB 7 = .ok (.iconst 0, 1) := by decide +kernel
theorem d8 : decode yB 8 = .ok (.iload_n 2, 1) := by decide +kernel
theorem d9 : decode yB 9 = .ok (.invokestatic 115, 3) := by decide +kernel
theorem d12 : decode yB 12 = .ok (.istore 4, 2) := by decide +kernel
theorem d14 : decode yB 14 = .ok (.iload 4, 2) := by decide +kernel
theorem d16 : decode yB 16 = .ok (.iload_n 2, 1) := by decide +kernel
theorem d17 : decode yB 17 = .ok (.if_icmp (.eq) 40, 3) := by decide +kernel
theorem d57 : decode yB 57 = .ok (.aload_n 3, 1) := by decide +kernel
theorem d58 : decode yB 58 = .ok (.areturn, 1) := by decide +kernel
def site : List Cond := [.arrayClass .byte, Cmp5.tab] ++ staticW U16 115 Cmp5.yN
def tab : Cond := tabOf yN yB 6 (some (.array .byte)) site
def P (b : Addr) (A : Cell) (o len : Nat) (args : Array Value) (s : State) : Prop := args = #[.ref b, .int (Int32.ofNat o), .int (Int32.ofNat len)] ∧ Ch b A s ∧ o + len ≤ A.slots.size ∧ len ≤ 536870912 ∧ ∀ i, i < len → ¬ 255 < cv A (o + i)
def E (b : Addr) (A : Cell) (o len : Nat) (r : Option Value) (s u : State) : Prop := NewArr .byte "[B" len (fun j => .int (lo8 (cv A (o + j)))) r s u ∧ u.heap.size = s.heap.size + 1
/-- no char of the range above 255: a new byte[] of their low bytes -/
theorem law (l : Launch) (b : Addr) (A : Cell) (o len : Nat) : Law l yN 3 3 1 18 yB 6 (some (.array .byte)) site (P b A o len) (E b A o len) [] 1 len := by
  refine Law.of_walk (plainFor_of_name (by decide +kernel)) (by decide +kernel) (by decide +kernel) (by decide) (fun _ _ h => by rw [h.1]; rfl) (fun _ U U' hal hh h => ⟨h.1, h.2.1.mv hal hh, h.2.2⟩) (fun r U U' V V' h1 hal h2 h => ⟨NewArr.mv r U U' V V' h1 hal h2 h.1, by rw [h1, h2]; exact h.2⟩) ?_
  intro p e s m args below meth c s₁ X0 hexec hbytes hml hret hlk hnm hown hh0 W hP
  obtain ⟨rfl, hA, l1, l2, hp⟩ := hP
  have a31 := hA.1.2.2.2
  have c1 : Steps p.tables e below (s₁.setTop (entryFrame m #[.ref b, .int (Int32.ofNat o), .int (Int32.ofNat len)] 6)) (s₁.setTop (mkF m 0 #[.val (.ref b), .val (.int (Int32.ofNat o)), .val (.int (Int32.ofNat len)), .unset, .unset, .unset] [])) := entry rfl
  have c2 : Steps p.tables e below (s₁.setTop (entryFrame m #[.ref b, .int (Int32.ofNat o), .int (Int32.ofNat len)] 6)) (s₁.setTop (mkF m 1 #[.val (.ref b), .val (.int (Int32.ofNat o)), .val (.int (Int32.ofNat len)), .unset, .unset, .unset] [.int (Int32.ofNat len)])) := c1.trans (by
    refine XS.iloadN X0.here hexec rfl (hb hbytes d0) rfl ?_
    exact Steps.refl _)
  obtain ⟨T3, B3, X3, ba3, bs3, bv3, bh3, bf3, st3⟩ := X0.anew hexec (atype := .byte) (wk W (.arrayClass .byte)) rfl (by show len * 1 ≤ _; omega) (by omega) (g := (mkF m 1 #[.val (.ref b), .val (.int (Int32.ofNat o)), .val (.int (Int32.ofNat len)), .unset, .unset, .unset] [.int (Int32.ofNat len)])) rfl (hb hbytes d1) (rest := []) rfl (Nat.le_refl _) (by show 0 + len ≤ len; omega)
  rw [hh0] at ba3 st3
  have kp3 : XT.Kept s T3 := (XT.Kept.of_eq hh0).push bh3
  have hA3 := hA.keep X3.warmed.alike (kp3 _ _ hA.1.1)
  have hne : b ≠ s.heap.size := hA.1.ne
  have c4 : Steps p.tables e below (s₁.setTop (entryFrame m #[.ref b, .int (Int32.ofNat o), .int (Int32.ofNat len)] 6)) (T3.setTop (mkF m 3 #[.val (.ref b), .val (.int (Int32.ofNat o)), .val (.int (Int32.ofNat len)), .unset, .unset, .unset] [.ref s.heap.size])) := c2.trans (st3 _ (Steps.refl _))
  have c5 : Steps p.tables e below (s₁.setTop (entryFrame m #[.ref b, .int (Int32.ofNat o), .int (Int32.ofNat len)] 6)) (T3.setTop (mkF m 9 #[.val (.ref b), .val (.int (Int32.ofNat o)), .val (.int (Int32.ofNat len)), .val (.ref s.heap.size), .unset, .unset] [.int (Int32.ofNat len), .int 0, .ref s.heap.size, .int (Int32.ofNat o), .ref b])) := c4.trans (by
    refine XS.astoreN X3.here hexec rfl (hb hbytes d3) rfl rfl rfl ?_
    refine XS.aloadN X3.here hexec rfl (hb hbytes d4) rfl rfl ?_
    refine XS.iloadN X3.here hexec rfl (hb hbytes d5) rfl ?_
    refine XS.aloadN X3.here hexec rfl (hb hbytes d6) rfl rfl ?_
    refine iconstV X3.here hexec rfl 0 (hb hbytes d7) (by decide) ?_
    refine XS.iloadN X3.here hexec rfl (hb hbytes d8) rfl ?_
    exact Steps.refl _)
  obtain ⟨v6, T6, X6, E6, g6⟩ := X3.callS hexec (Cmp5.law l b A s.heap.size B3 o 0 len) hown (wks W (staticW U16 115 Cmp5.yN)) (wk W Cmp5.tab) (W := 0) (Nat.le_of_ble_eq_true rfl) (Nat.le_of_ble_eq_true rfl) (Nat.le_refl _) (by show 0 + len + 0 ≤ len; omega) (g := (mkF m 9 #[.val (.ref b), .val (.int (Int32.ofNat o)), .val (.int (Int32.ofNat len)), .val (.ref s.heap.size), .unset, .unset] [.int (Int32.ofNat len), .int (Int32.ofNat 0), .ref s.heap.size, .int (Int32.ofNat o), .ref b])) rfl (by rw [hml]; rfl) c5 (argsL := [.ref b, .int (Int32.ofNat o), .ref s.heap.size, .int (Int32.ofNat 0), .int (Int32.ofNat len)]) (rest := []) rfl rfl (by show 2 * 0 + 0 ≤ _; decide) (hb hbytes d9) (⟨rfl, hA3, ba3, hne, l1, by rw [bs3]; simp, hp⟩)
  obtain ⟨rfl, B6, p6, f6⟩ := E6
  have c7 : Steps p.tables e below (s₁.setTop (entryFrame m #[.ref b, .int (Int32.ofNat o), .int (Int32.ofNat len)] 6)) (T6.setTop (mkF m 12 #[.val (.ref b), .val (.int (Int32.ofNat o)), .val (.int (Int32.ofNat len)), .val (.ref s.heap.size), .unset, .unset] [.int (Int32.ofNat len)])) := g6
  have c8 : Steps p.tables e below (s₁.setTop (entryFrame m #[.ref b, .int (Int32.ofNat o), .int (Int32.ofNat len)] 6)) (T6.setTop (mkF m 58 #[.val (.ref b), .val (.int (Int32.ofNat o)), .val (.int (Int32.ofNat len)), .val (.ref s.heap.size), .val (.int (Int32.ofNat len)), .unset] [.ref s.heap.size])) := c7.trans (by
    refine XS.istore X6.here hexec rfl (hb hbytes d12) rfl rfl ?_
    refine XS.iload X6.here hexec rfl (hb hbytes d14) rfl ?_
    refine XS.iloadN X6.here hexec rfl (hb hbytes d16) rfl ?_
    refine XS.icmpYes X6.here hexec rfl (pc0 := 17) rfl (hb hbytes d17) rfl (ii_eq_t rfl) (by decide) rfl ?_
    refine XS.aloadN X6.here hexec rfl (hb hbytes d57) rfl rfl ?_
    exact Steps.refl _)
  have X8 := X6.wide (L' := []) (cells' := 1) (slots' := len) (fun x hx hlt => by
    simp only [List.nil_append, copyLocs, List.mem_map, List.mem_range] at hx
    obtain ⟨i, -, rfl⟩ := hx
    exact absurd hlt (Nat.lt_irrefl _)) (Nat.le_refl _) (by omega)
  exact ⟨T6, some (.ref s.heap.size), _, _, _, X8, rfl, rfl, rfl, (fun h => by cases h), ⟨⟨rfl, B6, ba3.like (X3.warmed.alike.symm.trans X6.warmed.alike) p6.1 f6.1 f6.2.1 f6.2.2.1, f6.2.1.trans bv3, by rw [X6.warmed.alike.findClass, f6.1]; exact bf3, by rw [f6.2.2.1, bs3]; simp, fun j hj => by rw [f6.2.2.2 j, if_pos (by omega)]; rfl, kp3.put p6 (Nat.le_refl _)⟩, by rw [p6.2.2, bh3, hh0]; simp⟩, fun fs hl => c8.trans (X8.areturnOut hexec rfl hret rfl (hb hbytes d58) hl)⟩
end Cmp3
namespace CodL
def yN : MethodName := ⟨"java/lang/StringUTF16", "coderFromArrayLen", "([BI)B"⟩
abbrev yB : ByteArray := jdk_52_method_15_code
theorem d0 : decode yB 0 = .ok (.iload_n 1, 1) := by decide +kernel
theorem d1 : decode yB 1 = .ok (.aload_n 0, 1) := by decide +kernel
theorem d2 : decode yB 2 = .ok (.arraylength, 1) := by decide +kernel
theorem d3 : decode yB 3 = .ok (.isub, 1) := by decide +kernel
theorem d4 : decode yB 4 = .ok (.bipush 31, 2) := by decide +kernel
theorem d6 : decode yB 6 = .ok (.iushr, 1) := by decide +kernel
theorem d7 : decode yB 7 = .ok (.i2b, 1) := by decide +kernel
theorem d8 : decode yB 8 = .ok (.ireturn, 1) := by decide +kernel
def site : List Cond := []
def tab : Cond := tabOf yN yB 2 (some .byte) site
def P (d : Addr) (B : Cell) (args : Array Value) (s : State) : Prop := args = #[.ref d, .int (Int32.ofNat B.slots.size)] ∧ Arr .byte d B s
def E (r : Option Value) (s u : State) : Prop := XT.PureE (some (.int 0)) r s u
/-- an array as long as the number of chars: LATIN1 -/
theorem law (l : Launch) (d : Addr) (B : Cell) : Law l yN 2 2 0 0 yB 2 (some .byte) site (P d B) E [] 0 0 := by
  refine Law.of_walk (plainFor_of_name (by decide +kernel)) (by decide +kernel) (by decide +kernel) (by decide) (fun _ _ h => by rw [h.1]; rfl) (fun _ U U' hal hh h => ⟨h.1, h.2.mv hal hh⟩) (fun r U U' V V' h1 hal h2 h => XT.PureE.mv r U U' V V' h1 hal h2 h) ?_
  intro p e s m args below meth c s₁ X0 hexec hbytes hml hret hlk hnm hown hh0 W hP
  obtain ⟨rfl, hB⟩ := hP
  have hB0 := hB.mv X0.warmed.alike hh0
  have c1 : Steps p.tables e below (s₁.setTop (entryFrame m #[.ref d, .int (Int32.ofNat B.slots.size)] 2)) (s₁.setTop (mkF m 0 #[.val (.ref d), .val (.int (Int32.ofNat B.slots.size))] [])) := entry rfl
  have c2 : Steps p.tables e below (s₁.setTop (entryFrame m #[.ref d, .int (Int32.ofNat B.slots.size)] 2)) (s₁.setTop (mkF m 2 #[.val (.ref d), .val (.int (Int32.ofNat B.slots.size))] [.ref d, .int (Int32.ofNat B.slots.size)])) := c1.trans (by
    refine XS.iloadN X0.here hexec rfl (hb hbytes d0) rfl ?_
    refine XS.aloadN X0.here hexec rfl (hb hbytes d1) rfl rfl ?_
    exact Steps.refl _)
  have c3 : Steps p.tables e below (s₁.setTop (entryFrame m #[.ref d, .int (Int32.ofNat B.slots.size)] 2)) (s₁.setTop (mkF m 8 #[.val (.ref d), .val (.int (Int32.ofNat B.slots.size))] [.int (lo8 (ushr (Int32.ofNat B.slots.size - Int32.ofNat B.slots.size) 31))])) := c2.trans (by
    refine X0.alen hexec hB0 rfl rfl (hb hbytes d2) ?_
    refine XS.isub X0.here hexec rfl (hb hbytes d3) rfl ?_
    refine bipushV X0.here hexec rfl 31 (hb hbytes d4) (by decide) ?_
    refine iushr X0.here hexec rfl (hb hbytes d6) rfl ?_
    refine i2b X0.here hexec rfl (hb hbytes d7) rfl ?_
    exact Steps.refl _)
  have e0 : lo8 (ushr (Int32.ofNat B.slots.size - Int32.ofNat B.slots.size) 31) = 0 := by rw [Int32.sub_self]; decide
  rw [e0] at c3
  exact ⟨s₁, some (.int 0), _, _, _, X0, rfl, rfl, rfl, (fun h => by cases h), ⟨rfl, hh0⟩, fun fs hl => c3.trans (X0.ireturnOut hexec hret rfl (Or.inr (Or.inr (Or.inl rfl))) (hb hbytes d8) hl)⟩
end CodL
/-- the String at a is Latin-1 over a new byte[] (the heap's one new cell): the low bytes of the len chars of A from o on; every cell but a is kept -/
def Got (a : Addr) (D : Cell) (fV fC : Field) (A : Cell) (o len : Nat) (r : Option Value) (s u : State) : Prop := r = none ∧ ∃ D' V : Cell, Blank "java/lang/String" a D' u ∧ Same D D' [fV.slot, fC.slot] ∧ D'.slots[fV.slot]? = some (.ref s.heap.size) ∧ D'.slots[fC.slot]? = some (.int 0) ∧ Arr .byte s.heap.size V u ∧ V.vm = .none ∧ u.vm.findClass "[B" = some V.cls ∧ V.slots.size = len ∧ (∀ j, j < len → V.slots[j]? = some (.int (lo8 (cv A (o + j))))) ∧ (∀ (y : Addr) (c : Cell), y ≠ a → s.heap[y]? = some c → u.heap[y]? = some c) ∧ u.heap.size = s.heap.size + 1
theorem Got.mv {a : Addr} {D A : Cell} {fV fC : Field} {o len : Nat} : ∀ r (U U' V V' : State), U'.heap = U.heap → V.vm.Alike V'.vm → V'.heap = V.heap → Got a D fV fC A o len r U V → Got a D fV fC A o len r U' V' :=
  fun r U U' V V' h1 hal h2 ⟨e0, D', X, a1, a2, a3, a4, a5, a6, a7, a8, a9, a10, a11⟩ => ⟨e0, D', X, a1.mv hal h2, a2, by rw [h1]; exact a3, a4, by rw [h1]; exact a5.mv hal h2, a6, by rw [hal.findClass]; exact a7, a8, a9, by rw [h1, h2]; exact a10, by rw [h1, h2]; exact a11⟩
namespace New4
def yN : MethodName := ⟨"java/lang/String", "<init>", "([CIILjava/lang/Void;)V"⟩
abbrev yB : ByteArray := jdk_42_method_149_code
theorem d0 : decode yB 0 = .ok (.aload_n 0, 1) := by decide +kernel
theorem d1 : decode yB 1 = .ok (.invokespecial 1, 3) := by decide +kernel
theorem d4 : decode yB 4 = .ok (.iload_n 3, 1) := by decide +kernel
theorem d5 : decode yB 5 = .ok (.ifCond (.ne) 22, 3) := by decide +kernel
theorem d27 : decode yB 27 = .ok (.getstatic 38, 3) := by decide +kernel
theorem d30 : decode yB 30 = .ok (.ifCond (.eq) 28, 3) := by decide +kernel
theorem d33 : decode yB 33 = .ok (.aload_n 1, 1) := by decide +kernel
theorem d34 : decode yB 34 = .ok (.iload_n 2, 1) := by decide +kernel
theorem d35 : decode yB 35 = .ok (.iload_n 3, 1) := by decide +kernel
theorem d36 : decode yB 36 = .ok (.invokestatic 177, 3) := by decide +kernel
theorem d39 : decode yB 39 = .ok (.astore 5, 2) := by decide +kernel
theorem d41 : decode yB 41 = .ok (.aload_n 0, 1) := by decide +kernel
theorem d42 : decode yB 42 = .ok (.aload 5, 2) := by decide +kernel
theorem d44 : decode yB 44 = .ok (.iload_n 3, 1) := by decide +kernel
theorem d45 : decode yB 45 = .ok (.invokestatic 47, 3) := by decide +kernel
theorem d48 : decode yB 48 = .ok (.putfield 15, 3) := by decide +kernel
theorem d51 : decode yB 51 = .ok (.aload_n 0, 1) := by decide +kernel
theorem d52 : decode yB 52 = .ok (.aload 5, 2) := by decide +kernel
theorem d54 : decode yB 54 = .ok (.putfield 9, 3) := by decide +kernel
theorem d57 : decode yB 57 = .ok (.return_, 1) := by decide +kernel
def site : List Cond := [.fieldLink "java/lang/String" 38 "java/lang/String" "COMPACT_STRINGS" "Z", Cmp3.tab, CodL.tab, .laysFinal "java/lang/String" "java/lang/String" "value" "[B", .fieldLink "java/lang/String" 9 "java/lang/String" "value" "[B", .laysFinal "java/lang/String" "java/lang/String" "coder" "B", .fieldLink "java/lang/String" 15 "java/lang/String" "coder" "B"] ++ objW "java/lang/String" 1 ++ staticW "java/lang/String" 177 Cmp3.yN ++ staticW "java/lang/String" 47 CodL.yN
def tab : Cond := tabOf yN yB 6 none site
def P (a : Addr) (D : Cell) (fV fC : Field) (b : Addr) (A : Cell) (z : Int32) (o len : Nat) (args : Array Value) (s : State) : Prop := args = #[.ref a, .ref b, .int (Int32.ofNat o), .int (Int32.ofNat len), .null] ∧ Blank "java/lang/String" a D s ∧ Found "java/lang/String" "value" "[B" fV s ∧ Found "java/lang/String" "coder" "B" fC s ∧ Ch b A s ∧ StaticIs s "java/lang/String" "COMPACT_STRINGS" "Z" (.int z) ∧ ¬ z = 0 ∧ 0 < len ∧ o + len ≤ A.slots.size ∧ len ≤ 536870912 ∧ ∀ i, i < len → ¬ 255 < cv A (o + i)
def E (a : Addr) (D : Cell) (fV fC : Field) (A : Cell) (o len : Nat) (r : Option Value) (s u : State) : Prop := Got a D fV fC A o len r s u
/-- len > 0, no char of the range above 255: a Latin-1 String of their low bytes -/
theorem law (l : Launch) (a : Addr) (D : Cell) (fV fC : Field) (b : Addr) (A : Cell) (z : Int32) (o len : Nat) : Law l yN 5 4 2 35 yB 6 none site (P a D fV fC b A z o len) (E a D fV fC A o len) [⟨a, fC.slot⟩, ⟨a, fV.slot⟩] 1 len := by
  refine Law.of_walk (plainFor_of_name (by decide +kernel)) (by decide +kernel) (by decide +kernel) (by decide) (fun _ _ h => by rw [h.1]; rfl) (fun _ U U' hal hh h => ⟨h.1, h.2.1.mv hal hh, h.2.2.1.al hal, h.2.2.2.1.al hal, h.2.2.2.2.1.mv hal hh, h.2.2.2.2.2.1.there hal hh, h.2.2.2.2.2.2⟩) (fun r U U' V V' h1 hal h2 h => Got.mv r U U' V V' h1 hal h2 h) ?_
  intro p e s m args below meth c s₁ X0 hexec hbytes hml hret hlk hnm hown hh0 W hP
  obtain ⟨rfl, hB, f1, f2, hA, s1, hz, l0, l1, l2, hp⟩ := hP
  have a31 := hA.1.2.2.2
  have c1 : Steps p.tables e below (s₁.setTop (entryFrame m #[.ref a, .ref b, .int (Int32.ofNat o), .int (Int32.ofNat len), .null] 6)) (s₁.setTop (mkF m 0 #[.val (.ref a), .val (.ref b), .val (.int (Int32.ofNat o)), .val (.int (Int32.ofNat len)), .val .null, .unset] [])) := entry rfl
  have c2 : Steps p.tables e below (s₁.setTop (entryFrame m #[.ref a, .ref b, .int (Int32.ofNat o), .int (Int32.ofNat len), .null] 6)) (s₁.setTop (mkF m 1 #[.val (.ref a), .val (.ref b), .val (.int (Int32.ofNat o)), .val (.int (Int32.ofNat len)), .val .null, .unset] [.ref a])) := c1.trans (by
    refine XS.aloadN X0.here hexec rfl (hb hbytes d0) rfl rfl ?_
    exact Steps.refl _)
  obtain ⟨T3, X3, q3, st3⟩ := X0.oinit hexec hown (wks W (objW "java/lang/String" 1)) (g := (mkF m 1 #[.val (.ref a), .val (.ref b), .val (.int (Int32.ofNat o)), .val (.int (Int32.ofNat len)), .val .null, .unset] [.ref a])) rfl (by rw [hml]; rfl) (rest := []) rfl (hb hbytes d1) (W := 0) (by show 2 * 0 + 0 ≤ _; decide) (Nat.le_of_ble_eq_true rfl) (Nat.le_of_ble_eq_true rfl)
  have hh3 := q3.trans hh0
  have c4 : Steps p.tables e below (s₁.setTop (entryFrame m #[.ref a, .ref b, .int (Int32.ofNat o), .int (Int32.ofNat len), .null] 6)) (T3.setTop (mkF m 27 #[.val (.ref a), .val (.ref b), .val (.int (Int32.ofNat o)), .val (.int (Int32.ofNat len)), .val .null, .unset] [])) := (c2.trans (st3 _ (Steps.refl _))).trans (by
    refine XS.iloadN X3.here hexec rfl (hb hbytes d4) rfl ?_
    refine XS.ifYes X3.here hexec rfl (pc0 := 5) rfl (hb hbytes d5) rfl (i0_ne_t (nz32 (by omega) l0)) (by decide) rfl ?_
    exact Steps.refl _)
  obtain ⟨T5, X5, q5, st5⟩ := X3.sget hexec hown (wk W (.fieldLink "java/lang/String" 38 "java/lang/String" "COMPACT_STRINGS" "Z")) s1 (fun _ _ h => by rw [hh3]; exact h) (g := (mkF m 27 #[.val (.ref a), .val (.ref b), .val (.int (Int32.ofNat o)), .val (.int (Int32.ofNat len)), .val .null, .unset] [])) rfl (hb hbytes d27)
  have hh5 := q5.trans hh3
  have c6 : Steps p.tables e below (s₁.setTop (entryFrame m #[.ref a, .ref b, .int (Int32.ofNat o), .int (Int32.ofNat len), .null] 6)) (T5.setTop (mkF m 30 #[.val (.ref a), .val (.ref b), .val (.int (Int32.ofNat o)), .val (.int (Int32.ofNat len)), .val .null, .unset] [.int z])) := c4.trans (st5 _ (Steps.refl _))
  have c7 : Steps p.tables e below (s₁.setTop (entryFrame m #[.ref a, .ref b, .int (Int32.ofNat o), .int (Int32.ofNat len), .null] 6)) (T5.setTop (mkF m 36 #[.val (.ref a), .val (.ref b), .val (.int (Int32.ofNat o)), .val (.int (Int32.ofNat len)), .val .null, .unset] [.int (Int32.ofNat len), .int (Int32.ofNat o), .ref b])) := c6.trans (by
    refine XS.ifNo X5.here hexec rfl (hb hbytes d30) rfl (i0_eq_f hz) ?_
    refine XS.aloadN X5.here hexec rfl (hb hbytes d33) rfl rfl ?_
    refine XS.iloadN X5.here hexec rfl (hb hbytes d34) rfl ?_
    refine XS.iloadN X5.here hexec rfl (hb hbytes d35) rfl ?_
    exact Steps.refl _)
  obtain ⟨v8, T8, X8, E8, g8⟩ := X5.callS hexec (Cmp3.law l b A o len) hown (wks W (staticW "java/lang/String" 177 Cmp3.yN)) (wk W Cmp3.tab) (W := 0) (Nat.le_of_ble_eq_true rfl) (Nat.le_of_ble_eq_true rfl) (Nat.le_refl _) (by show 0 + len ≤ len; omega) (g := (mkF m 36 #[.val (.ref a), .val (.ref b), .val (.int (Int32.ofNat o)), .val (.int (Int32.ofNat len)), .val .null, .unset] [.int (Int32.ofNat len), .int (Int32.ofNat o), .ref b])) rfl (by rw [hml]; rfl) c7 (argsL := [.ref b, .int (Int32.ofNat o), .int (Int32.ofNat len)]) (rest := []) rfl rfl (by show 2 * 0 + 0 ≤ _; decide) (hb hbytes d36) (⟨rfl, hA.mv X5.warmed.alike hh5, l1, l2, hp⟩)
  obtain ⟨e8, z8⟩ := E8
  obtain ⟨rfl, N, n1, n2, n3, n4, n5, n6⟩ := NewArr.mv _ T5 s _ _ hh5.symm (Vm.Alike.refl _) rfl e8
  rw [hh5] at z8
  have hB1 := hB.keep X8.warmed.alike (n6 _ _ hB.1)
  have hne : s.heap.size ≠ a := (Nat.ne_of_lt (Array.getElem?_eq_some_iff.mp hB.1).1).symm
  have c9 : Steps p.tables e below (s₁.setTop (entryFrame m #[.ref a, .ref b, .int (Int32.ofNat o), .int (Int32.ofNat len), .null] 6)) (T8.setTop (mkF m 39 #[.val (.ref a), .val (.ref b), .val (.int (Int32.ofNat o)), .val (.int (Int32.ofNat len)), .val .null, .unset] [.ref s.heap.size])) := g8
  have c10 : Steps p.tables e below (s₁.setTop (entryFrame m #[.ref a, .ref b, .int (Int32.ofNat o), .int (Int32.ofNat len), .null] 6)) (T8.setTop (mkF m 45 #[.val (.ref a), .val (.ref b), .val (.int (Int32.ofNat o)), .val (.int (Int32.ofNat len)), .val .null, .val (.ref s.heap.size)] [.int (Int32.ofNat N.slots.size), .ref s.heap.size, .ref a])) := by
    have hc : Steps p.tables e below (s₁.setTop (entryFrame m #[.ref a, .ref b, .int (Int32.ofNat o), .int (Int32.ofNat len), .null] 6)) (T8.setTop (mkF m 45 #[.val (.ref a), .val (.ref b), .val (.int (Int32.ofNat o)), .val (.int (Int32.ofNat len)), .val .null, .val (.ref s.heap.size)] [.int (Int32.ofNat len), .ref s.heap.size, .ref a])) := c9.trans (by
      refine XS.astore X8.here hexec rfl (hb hbytes d39) rfl rfl rfl ?_
      refine XS.aloadN X8.here hexec rfl (hb hbytes d41) rfl rfl ?_
      refine XS.aload X8.here hexec rfl (hb hbytes d42) rfl rfl ?_
      refine XS.iloadN X8.here hexec rfl (hb hbytes d44) rfl ?_
      exact Steps.refl _)
    rw [n4]; exact hc
  obtain ⟨v11, T11, X11, E11, g11⟩ := X8.callS hexec (CodL.law l s.heap.size N) hown (wks W (staticW "java/lang/String" 47 CodL.yN)) (wk W CodL.tab) (W := 1) (Nat.le_of_ble_eq_true rfl) (Nat.le_of_ble_eq_true rfl) (Nat.le_refl _) (by show 0 + len + 0 ≤ len; omega) (g := (mkF m 45 #[.val (.ref a), .val (.ref b), .val (.int (Int32.ofNat o)), .val (.int (Int32.ofNat len)), .val .null, .val (.ref s.heap.size)] [.int (Int32.ofNat N.slots.size), .ref s.heap.size, .ref a])) rfl (by rw [hml]; rfl) c10 (argsL := [.ref s.heap.size, .int (Int32.ofNat N.slots.size)]) (rest := [.ref a]) rfl rfl (by show 2 * 0 + (1 + 0) ≤ _; decide) (hb hbytes d45) (⟨rfl, n1⟩)
  obtain ⟨rfl, q11⟩ := E11
  have hB11 := hB1.mv (X8.warmed.alike.symm.trans X11.warmed.alike) q11
  have c12 : Steps p.tables e below (s₁.setTop (entryFrame m #[.ref a, .ref b, .int (Int32.ofNat o), .int (Int32.ofNat len), .null] 6)) (T11.setTop (mkF m 48 #[.val (.ref a), .val (.ref b), .val (.int (Int32.ofNat o)), .val (.int (Int32.ofNat len)), .val .null, .val (.ref s.heap.size)] [.int 0, .ref a])) := g11
  obtain ⟨T13, X13, p13, bl13, sl13, st13⟩ := X11.finit hexec hown (wk W (.fieldLink "java/lang/String" 15 "java/lang/String" "coder" "B")) (Or.inr ⟨_, (wk W (.laysFinal "java/lang/String" "java/lang/String" "coder" "B"))⟩) (Or.inl ⟨rfl, hnm⟩) f2 (Or.inl rfl) hB11 (t := .byte) (by decide +kernel) rfl (g := (mkF m 48 #[.val (.ref a), .val (.ref b), .val (.int (Int32.ofNat o)), .val (.int (Int32.ofNat len)), .val .null, .val (.ref s.heap.size)] [.int 0, .ref a])) rfl (rest := []) rfl (hb hbytes d48)
  have c14 : Steps p.tables e below (s₁.setTop (entryFrame m #[.ref a, .ref b, .int (Int32.ofNat o), .int (Int32.ofNat len), .null] 6)) (T13.setTop (mkF m 54 #[.val (.ref a), .val (.ref b), .val (.int (Int32.ofNat o)), .val (.int (Int32.ofNat len)), .val .null, .val (.ref s.heap.size)] [.ref s.heap.size, .ref a])) := (c12.trans (st13 _ (Steps.refl _))).trans (by
    refine XS.aloadN X13.here hexec rfl (hb hbytes d51) rfl rfl ?_
    refine XS.aload X13.here hexec rfl (hb hbytes d52) rfl rfl ?_
    exact Steps.refl _)
  obtain ⟨T15, X15, p15, bl15, sl15, st15⟩ := X13.finit hexec hown (wk W (.fieldLink "java/lang/String" 9 "java/lang/String" "value" "[B")) (Or.inr ⟨_, (wk W (.laysFinal "java/lang/String" "java/lang/String" "value" "[B"))⟩) (Or.inl ⟨rfl, hnm⟩) f1 (Or.inl rfl) bl13 (t := (.array .byte)) (by decide +kernel) rfl (g := (mkF m 54 #[.val (.ref a), .val (.ref b), .val (.int (Int32.ofNat o)), .val (.int (Int32.ofNat len)), .val .null, .val (.ref s.heap.size)] [.ref s.heap.size, .ref a])) rfl (rest := []) rfl (hb hbytes d54)
  have c16 : Steps p.tables e below (s₁.setTop (entryFrame m #[.ref a, .ref b, .int (Int32.ofNat o), .int (Int32.ofNat len), .null] 6)) (T15.setTop (mkF m 57 #[.val (.ref a), .val (.ref b), .val (.int (Int32.ofNat o)), .val (.int (Int32.ofNat len)), .val .null, .val (.ref s.heap.size)] [])) := c14.trans (st15 _ (Steps.refl _))
  have ap := apart (Or.inr ⟨_, (wk W (.laysFinal "java/lang/String" "java/lang/String" "value" "[B"))⟩) (Or.inr ⟨_, (wk W (.laysFinal "java/lang/String" "java/lang/String" "coder" "B"))⟩) f1 f2 (t₁ := .array .byte) (t₂ := .byte) (by decide +kernel) (by decide +kernel) (by decide)
  have al := X8.warmed.alike.symm.trans X15.warmed.alike
  have n7 : T11.heap[s.heap.size]? = some N := by rw [q11]; exact n1.1
  exact ⟨T15, none, _, _, _, X15, by simp, rfl, by omega, (fun _ => rfl), ⟨rfl, _, N, bl15, ((Same.refl D _).set _ (by simp)).set _ (by simp), sl15, (Cell.slots_setSlot_ne _ ap).trans sl13, n1.keep al (p15.other hne (p13.other hne n7)), n2, by rw [al.findClass]; exact n3, n4, n5, fun y c h1 h2 => p15.other h1 (p13.other h1 (by rw [q11]; exact n6 y c h2)), by rw [p15.2.2, p13.2.2, q11]; exact z8⟩, fun fs hl => c16.trans (X15.returnOut hexec hret (hb hbytes d57) hl)⟩
end New4
namespace New1
def yN : MethodName := ⟨"java/lang/String", "<init>", "([C)V"⟩
abbrev yB : ByteArray := jdk_42_method_3_code
theorem d0 : decode yB 0 = .ok (.aload_n 0, 1) := by decide +kernel
theorem d1 : decode yB 1 = .ok (.aload_n 1, 1) := by decide +kernel
theorem d2 : decode yB 2 = .ok (.iconst 0, 1) := by decide +kernel
theorem d3 : decode yB 3 = .ok (.aload_n 1, 1) := by decide +kernel
theorem d4 : decode yB 4 = .ok (.arraylength, 1) := by decide +kernel
theorem d5 : decode yB 5 = .ok (.aconst_null, 1) := by decide +kernel
theorem d6 : decode yB 6 = .ok (.invokespecial 27, 3) := by decide +kernel
theorem d9 : decode yB 9 = .ok (.return_, 1) := by decide +kernel
def site : List Cond := [New4.tab] ++ initW "java/lang/String" 27 New4.yN
def tab : Cond := tabOf yN yB 2 none site
def P (a : Addr) (D : Cell) (fV fC : Field) (b : Addr) (A : Cell) (z : Int32) (args : Array Value) (s : State) : Prop := args = #[.ref a, .ref b] ∧ Blank "java/lang/String" a D s ∧ Found "java/lang/String" "value" "[B" fV s ∧ Found "java/lang/String" "coder" "B" fC s ∧ Ch b A s ∧ StaticIs s "java/lang/String" "COMPACT_STRINGS" "Z" (.int z) ∧ ¬ z = 0 ∧ 0 < A.slots.size ∧ A.slots.size ≤ 536870912 ∧ ∀ i, i < A.slots.size → ¬ 255 < cv A i
def E (a : Addr) (D : Cell) (fV fC : Field) (A : Cell) (r : Option Value) (s u : State) : Prop := Got a D fV fC A 0 A.slots.size r s u
/-- new String(chars), not empty, no char above 255: a Latin-1 String of their low bytes -/
theorem law (l : Launch) (a : Addr) (D : Cell) (fV fC : Field) (b : Addr) (A : Cell) (z : Int32) : Law l yN 2 1 3 52 yB 2 none site (P a D fV fC b A z) (E a D fV fC A) [⟨a, fC.slot⟩, ⟨a, fV.slot⟩] 1 A.slots.size := by
  refine Law.of_walk (plainFor_of_name (by decide +kernel)) (by decide +kernel) (by decide +kernel) (by decide) (fun _ _ h => by rw [h.1]; rfl) (fun _ U U' hal hh h => ⟨h.1, h.2.1.mv hal hh, h.2.2.1.al hal, h.2.2.2.1.al hal, h.2.2.2.2.1.mv hal hh, h.2.2.2.2.2.1.there hal hh, h.2.2.2.2.2.2⟩) (fun r U U' V V' h1 hal h2 h => Got.mv r U U' V V' h1 hal h2 h) ?_
  intro p e s m args below meth c s₁ X0 hexec hbytes hml hret hlk hnm hown hh0 W hP
  obtain ⟨rfl, hB, f1, f2, hA, s1, hz, l0, l2, hp⟩ := hP
  have c1 : Steps p.tables e below (s₁.setTop (entryFrame m #[.ref a, .ref b] 2)) (s₁.setTop (mkF m 0 #[.val (.ref a), .val (.ref b)] [])) := entry rfl
  have c2 : Steps p.tables e below (s₁.setTop (entryFrame m #[.ref a, .ref b] 2)) (s₁.setTop (mkF m 6 #[.val (.ref a), .val (.ref b)] [.null, .int (Int32.ofNat A.slots.size), .int 0, .ref b, .ref a])) := c1.trans (by
    refine XS.aloadN X0.here hexec rfl (hb hbytes d0) rfl rfl ?_
    refine XS.aloadN X0.here hexec rfl (hb hbytes d1) rfl rfl ?_
    refine iconstV X0.here hexec rfl 0 (hb hbytes d2) (by decide) ?_
    refine XS.aloadN X0.here hexec rfl (hb hbytes d3) rfl rfl ?_
    refine X0.alen hexec (hA.1.mv X0.warmed.alike hh0) rfl rfl (hb hbytes d4) ?_
    refine XS.aconstNull X0.here hexec rfl (hb hbytes d5) ?_
    exact Steps.refl _)
  obtain ⟨v3, T3, X3, E3, g3⟩ := X0.callN hexec (New4.law l a D fV fC b A z 0 A.slots.size) rfl hown (wks W (initW "java/lang/String" 27 New4.yN)) (W New4.tab (by simp only [site, List.mem_cons, List.mem_append, true_or, or_true])) (W := 0) (Nat.le_of_ble_eq_true rfl) (Nat.le_of_ble_eq_true rfl) (Nat.le_refl _) (by show 0 + A.slots.size ≤ A.slots.size; omega) (g := (mkF m 6 #[.val (.ref a), .val (.ref b)] [.null, .int (Int32.ofNat A.slots.size), .int (Int32.ofNat 0), .ref b, .ref a])) rfl (by rw [hml]; rfl) c2 (argsL := [.ref b, .int (Int32.ofNat 0), .int (Int32.ofNat A.slots.size), .null]) (rest := []) rfl rfl (by show 2 * 0 + 0 ≤ _; decide) (hb hbytes d6) (⟨rfl, hB.mv X0.warmed.alike hh0, f1.al X0.warmed.alike, f2.al X0.warmed.alike, hA.mv X0.warmed.alike hh0, s1.there X0.warmed.alike hh0, hz, l0, by omega, l2, fun i hi => by rw [Nat.zero_add]; exact hp i hi⟩)
  have e0 := Got.mv _ s₁ s _ _ hh0.symm (Vm.Alike.refl _) rfl E3
  obtain rfl := e0.1
  have c4 : Steps p.tables e below (s₁.setTop (entryFrame m #[.ref a, .ref b] 2)) (T3.setTop (mkF m 9 #[.val (.ref a), .val (.ref b)] [])) := g3
  exact ⟨T3, none, _, _, _, X3, by simp, rfl, by omega, (fun _ => rfl), e0, fun fs hl => c4.trans (X3.returnOut hexec hret (hb hbytes d9) hl)⟩
theorem pays {l : Launch} {R : Room} {p : Program} {e : Env} {below : List Frame} {s : State} {sargs : Array Value} {len W : Nat} (a : Addr) (D : Cell) (fV fC : Field) (b : Addr) (A : Cell) (z : Int32) (htab : tab.before sargs s = true) (hfr : 4 ≤ R.frames) (hlo : W + 65 ≤ R.locals) :
    Back l R p e below s sargs yN len W (fun A₁ a₁ => A₁.cells + 1 ≤ R.cells ∧ A₁.slots + A.slots.size ≤ R.slots ∧ P a D fV fC b A z a₁ A₁.U) (fun A₁ _ v₁ B₁ => E a D fV fC A v₁ A₁.U B₁.U ∧ B₁.locs = A₁.locs ++ [⟨a, fC.slot⟩, ⟨a, fV.slot⟩] ∧ B₁.cells = A₁.cells + 1 ∧ B₁.slots = A₁.slots + A.slots.size) :=
  (law l a D fV fC b A z).pays htab hfr (by omega)
end New1
/-- the byte, read back as charAt reads it, is the char -/
theorem lo8_mask {x : Int32} (h0 : ¬ x < 0) (h1 : ¬ 255 < x) : lo8 x &&& 255 = x := by
  have t : ∀ k : Fin 256, lo8 (Int32.ofNat k.val) &&& 255 = Int32.ofNat k.val := by decide +kernel
  rw [Int32.lt_iff_toInt_lt] at h0 h1
  have e0 : (0 : Int32).toInt = 0 := rfl
  have e1 : (255 : Int32).toInt = 255 := rfl
  obtain ⟨k, hk⟩ : ∃ k : Nat, x.toInt = k := ⟨x.toInt.toNat, by omega⟩
  have hx : x = Int32.ofNat k := Int32.toInt_inj.mp (by rw [hk, Int32.toInt_ofNat_small (by omega)])
  rw [hx]
  exact t ⟨k, by omega⟩
end StrChars
namespace StrChars.Road
open Jvm Sem ClassFile Op Lib Jvm.Stand Jvm.Free Jvm.Free.XT
open Jvm.Lib.Cold (StaticIs)
abbrev ST : String := "java/lang/String"
/-- every table word that New1's law asks, flat -/
abbrev words : List Jvm.Cond := [.code New1.yN New1.yB 2 none, .initialized ST, .methodLink ST 27 New4.yN, .instanceMethod New4.yN,
  .code New4.yN New4.yB 6 none, .fieldLink ST 38 ST "COMPACT_STRINGS" "Z", .laysFinal ST ST "value" "[B", .fieldLink ST 9 ST "value" "[B", .laysFinal ST ST "coder" "B", .fieldLink ST 15 ST "coder" "B",
  .methodLink ST 1 Lib.objectInit, .instanceMethod Lib.objectInit, .code Lib.objectInit ⟨#[0xb1]⟩ 1 none, .methodLink ST 177 Cmp3.yN, .static Cmp3.yN, .methodLink ST 47 CodL.yN, .static CodL.yN,
  .code Cmp3.yN Cmp3.yB 6 (some (.array .byte)), .initialized U16, .arrayClass .byte, .methodLink U16 115 Cmp5.yN, .static Cmp5.yN, .code Cmp5.yN Cmp5.yB 7 (some .int), .code CodL.yN CodL.yB 2 (some .byte)]
theorem tab_of {a : Array Value} {s : State} (h : ∀ w ∈ words, w.before a s = true) : New1.tab.before a s = true := by
  have h5 : Cmp5.tab.before a s = true := unparts (wk h (.code Cmp5.yN Cmp5.yB 7 (some .int))) (wks h (.initialized Cmp5.yN.cls :: Cmp5.site))
  have hc : CodL.tab.before a s = true := unparts (wk h (.code CodL.yN CodL.yB 2 (some .byte))) (wks h (.initialized CodL.yN.cls :: CodL.site))
  have q5 : ∀ w ∈ Cmp5.tab :: words, w.before a s = true := fun w hw => (List.mem_cons.mp hw).elim (fun e => e ▸ h5) (h w)
  have h3 : Cmp3.tab.before a s = true := unparts (wk q5 (.code Cmp3.yN Cmp3.yB 6 (some (.array .byte)))) (wks q5 (.initialized Cmp3.yN.cls :: Cmp3.site))
  have q3 : ∀ w ∈ Cmp3.tab :: CodL.tab :: words, w.before a s = true := fun w hw => (List.mem_cons.mp hw).elim (fun e => e ▸ h3) fun hw => (List.mem_cons.mp hw).elim (fun e => e ▸ hc) (h w)
  have h4 : New4.tab.before a s = true := unparts (wk q3 (.code New4.yN New4.yB 6 none)) (wks q3 (.initialized New4.yN.cls :: New4.site))
  have q4 : ∀ w ∈ New4.tab :: words, w.before a s = true := fun w hw => (List.mem_cons.mp hw).elim (fun e => e ▸ h4) (h w)
  exact unparts (wk q4 (.code New1.yN New1.yB 2 none)) (wks q4 (.initialized New1.yN.cls :: New1.site))
/-- the words ride from the start Z to the walk's own state -/
theorem moved {Z s : State} {a0 args : Array Value} (hZ : Z.Warmed39 s.vm) (hw : ∀ d ∈ words, d.before a0 Z = true) : ∀ d ∈ words, d.before args s = true := fun d hd => by
  have q := hw d hd
  have t : ∀ d ∈ words, d = .arrayClass .byte ∨ (d.onTables && d.keepsFace) = true := by decide +kernel
  rcases t d hd with rfl | t
  · exact RoadKit.mvA hZ q
  · exact RoadKit.mv hZ q t
/-- WHAT COMES BACK, over the tables of the start Z: h the heap at the call, h' behind it -/
def Q (Z : State) (x : Addr) (A : Cell) (h : Heap) (v : Option Value) (h' : Heap) (L : List Loc) : Prop := v = none ∧ (∀ y ∈ L, y.base = x) ∧ RoadKit.Keep h h' [x] ∧ h'.size = h.size + 1 ∧ RoadKit.Exa Z h' x ST ∧ RoadKit.Fld Z h' x ST "value" "[B" (.ref h.size) ∧ RoadKit.Fld Z h' x ST "coder" "B" (.int 0) ∧
  (∃ V : Cell, RoadKit.Arr Z h' h.size V .byte ∧ V.vm = .none ∧ Z.vm.findClass "[B" = some V.cls ∧ V.slots.size = A.slots.size ∧ ∀ j, j < A.slots.size → V.slots[j]? = some (.int (lo8 (cv A j)))) ∧
  ∀ (O n d : String) (w : Value), RoadKit.Fld Z h x O n d w → RoadKit.slotOf Z O n d ≠ RoadKit.slotOf Z ST "value" "[B" → RoadKit.slotOf Z O n d ≠ RoadKit.slotOf Z ST "coder" "B" → RoadKit.Fld Z h' x O n d w
/-- **new String(chars) AT A CALL, IN THE ROAD'S FORM**: for specialBack behind newO: x the fresh String, b the char[] with the cell A -/
theorem back {p : Program} {l : Launch} {e : Env} {R : Room} {s : State} {args : Array Value} {below : List Frame} {len W : Nat} {Z : State} {a0 : Array Value} {h : Heap} (hZ : Z.Warmed39 s.vm) (hw : ∀ d ∈ words, d.before a0 Z = true) {kI : Nat} (wi : (Jvm.Cond.instantiable ST kI).before a0 Z = true)
    {x b : Addr} {A : Cell} {z : Int32} {v0 c0 : Value} (E : RoadKit.Exa Z h x ST) (V : RoadKit.Fld Z h x ST "value" "[B" v0) (C : RoadKit.Fld Z h x ST "coder" "B" c0) (K : RoadKit.Arr Z h b A .char) (hty : Typed .char A) (S : RoadKit.Sta Z h ST "COMPACT_STRINGS" "Z" (.int z)) (hz : ¬ z = 0)
    (l0 : 0 < A.slots.size) (l2 : A.slots.size ≤ 536870912) (hp : ∀ i, i < A.slots.size → ¬ 255 < cv A i) (hfr : 4 ≤ R.frames) (hlo : W + 65 ≤ R.locals) :
    Back l R p e below s args New1.yN len W (fun P a => a = #[.ref x, .ref b] ∧ P.U.heap = h ∧ P.cells + 1 ≤ R.cells ∧ P.slots + A.slots.size ≤ R.slots)
      (fun P _ v B => ∃ L, Q Z x A h v B.U.heap L ∧ B.locs = P.locs ++ L ∧ B.cells = P.cells + 1 ∧ B.slots = P.slots + A.slots.size) := by
  intro m meth c P g ig mk a X hg hsize hdg hW hn hp'
  obtain ⟨rfl, rfl, r1, r2⟩ := hp'
  have al : Z.vm.Alike P.U.vm := hZ.alike.trans X.warmed.alike
  obtain ⟨D, cfV, kV, iV, fV, hD, gV, stV, knV, obV, asV, slV⟩ := id V
  obtain ⟨D', cfC, kC, iC, fC, hD', gC, stC, -, -, asC, slC⟩ := id C
  cases hD.symm.trans hD'
  obtain ⟨D2, kD, e1, e2, e3, e4, e5⟩ := id E
  cases hD.symm.trans e1
  obtain ⟨c2, k2, i1, i2, i3, -⟩ := Cond.instantiable_spec wi
  cases e2.symm.trans i1
  cases e3.symm.trans i2
  obtain ⟨kU, u1, u2⟩ := al.2.2 _ _ e3
  have hB : Blank ST x D P.U := ⟨hD, ⟨knV, fun q hq => by rw [hq] at obV; cases obV⟩, by rw [al.findClass]; exact e2, kU, u1, by rw [u2]; exact i3, by rw [u2]; exact e5 i3⟩
  have F1 : Found ST "value" "[B" fV P.U := ⟨SBG.found_only al ⟨cfV, kV, iV, gV⟩, stV⟩
  have F2 : Found ST "coder" "B" fC P.U := ⟨SBG.found_only al ⟨cfC, kC, iC, gC⟩, stC⟩
  have hA : Ch b A P.U := ⟨⟨K.1, State.isArrayOf_alike al K.2.1, K.2.2, by omega⟩, hty⟩
  have hS : StaticIs P.U ST "COMPACT_STRINGS" "Z" (.int z) := by
    obtain ⟨cfS, iS, kS, fS, st, cS, t1, t2, t3, t4, t5, t6, t7⟩ := S
    exact StaticIs.there (s := { Z with heap := P.U.heap }) ⟨cfS, iS, kS, fS, st, cS, t1, t2, t3, t4, t5, (fun q => by rw [q] at t6; cases t6), t7⟩ al rfl
  obtain ⟨v, B, X', ⟨⟨hv, E', V', q1, q2, q3, q4, q5, q6, q7, q8, q9, q10, q11⟩, hl, hc, hs⟩, st⟩ := New1.pays x D fV fC b A z (tab_of (moved hZ hw)) hfr hlo m meth c P g ig mk _ X hg hsize hdg hW hn ⟨r1, r2, rfl, hB, F1, F2, hA, hS, hz, l0, l2, hp⟩
  have al' : Z.vm.Alike B.U.vm := hZ.alike.trans X'.warmed.alike
  have hsz : E'.slots.size = D.slots.size := by
    obtain ⟨-, -, -, kB, w1, w2, w3⟩ := q1
    obtain ⟨kB', y1, y2⟩ := al'.2.2 _ _ e3
    rw [q2.2.1] at w1
    cases w1.symm.trans y1
    rw [w3, e5 i3, y2]
  refine ⟨v, B, X', ⟨_, ⟨hv, ?_, ⟨by omega, fun y cy hy hn' => q10 y cy (by simpa using hn') hy, fun y cy hy => ?_⟩, q11, ⟨E', _, q1.1, by rw [q2.2.1]; exact e2, by rw [q2.2.1]; exact e3, by rw [q2.1]; exact obV, fun _ => by rw [hsz]; exact e5 i3⟩,
    ⟨E', cfV, kV, iV, fV, q1.1, gV, stV, by rw [q2.1]; exact knV, by rw [q2.1]; exact obV, by rw [q2.2.1]; exact asV, q3⟩, ⟨E', cfC, kC, iC, fC, q1.1, gC, stC, by rw [q2.1]; exact knV, by rw [q2.1]; exact obV, by rw [q2.2.1]; exact asC, q4⟩,
    ⟨V', ⟨q5.1, State.isArrayOf_alike al'.symm q5.2.1, q5.2.2.1⟩, q6, by rw [← al'.findClass]; exact q7, q8, fun j hj => by have := q9 j hj; rwa [Nat.zero_add] at this⟩, fun O n d w F n1 n2 => ?_⟩, hl, hc, hs⟩, st⟩
  · intro y hy
    simp only [List.mem_cons, List.not_mem_nil, or_false] at hy
    rcases hy with rfl | rfl <;> rfl
  · by_cases q : y = x
    · subst q
      cases hD.symm.trans hy
      exact ⟨E', q1.1, q2.2.1, q2.1, hsz⟩
    · exact ⟨cy, q10 y cy q hy, rfl, rfl, rfl⟩
  · obtain ⟨D3, cf, k, i, f, g1, g2, g3, g4, g5, g6, g7⟩ := F
    cases hD.symm.trans g1
    simp only [RoadKit.slotOf, g2, gV, gC, Option.map_some, Option.getD_some] at n1 n2
    exact ⟨E', cf, k, i, f, q1.1, g2, g3, by rw [q2.1]; exact g4, by rw [q2.1]; exact g5, by rw [q2.2.1]; exact g6, by rw [q2.2.2 f.slot (by simp [n1, n2])]; exact g7⟩
end StrChars.Road
namespace StrChars.Road
open Jvm Sem ClassFile Op Lib Jvm.Stand Jvm.Free Jvm.Free.XT
/-- WHAT COMES BACK, the byte[] as a list of values -/
def QA (Z : State) (x : Addr) (zn : Int32) (cs : List Int32) (h : Heap) (v : Option Value) (h' : Heap) (L : List Loc) : Prop := v = none ∧ (∀ y ∈ L, y.base = x) ∧ RoadKit.Keep h h' [x] ∧ h'.size = h.size + 1 ∧ RoadKit.Exa Z h' x ST ∧ RoadKit.Fld Z h' x ST "value" "[B" (.ref h.size) ∧ RoadKit.Fld Z h' x ST "coder" "B" (.int 0) ∧
  (∃ kb, Z.vm.findClass "[B" = some kb ∧ RoadKit.Arv Z h' h.size kb .byte zn (cs.map fun c => .int (lo8 c)) (.int 0)) ∧
  ∀ (O n d : String) (w : Value), RoadKit.Fld Z h x O n d w → RoadKit.slotOf Z O n d ≠ RoadKit.slotOf Z ST "value" "[B" → RoadKit.slotOf Z O n d ≠ RoadKit.slotOf Z ST "coder" "B" → RoadKit.Fld Z h' x O n d w
/-- **new String(chars) AT A CALL, THE ARRAYS AS LISTS**: the char[] at b holds cs, not empty, no char above 255 -/
theorem backArv {p : Program} {l : Launch} {e : Env} {R : Room} {s : State} {args : Array Value} {below : List Frame} {len W : Nat} {Z : State} {a0 : Array Value} {h : Heap} (hZ : Z.Warmed39 s.vm) (hw : ∀ d ∈ words, d.before a0 Z = true) {kI : Nat} (wi : (Jvm.Cond.instantiable ST kI).before a0 Z = true)
    {x b : Addr} {k : ClassId} {zn z : Int32} {cs : List Int32} {dv v0 c0 : Value} (E : RoadKit.Exa Z h x ST) (V : RoadKit.Fld Z h x ST "value" "[B" v0) (C : RoadKit.Fld Z h x ST "coder" "B" c0) (K : RoadKit.Arv Z h b k .char zn (cs.map Value.int) dv) (S : RoadKit.Sta Z h ST "COMPACT_STRINGS" "Z" (.int z)) (hz : ¬ z = 0)
    (hlen : zn.toNatClampNeg = cs.length) (h0 : 0 < cs.length) (hbig : cs.length ≤ 536870912) (hall : ∀ c ∈ cs, ¬ 255 < c) (hfr : 4 ≤ R.frames) (hlo : W + 65 ≤ R.locals) :
    Back l R p e below s args New1.yN len W (fun P a => a = #[.ref x, .ref b] ∧ P.U.heap = h ∧ P.cells + 1 ≤ R.cells ∧ P.slots + cs.length ≤ R.slots)
      (fun P _ v B => ∃ L, QA Z x zn cs h v B.U.heap L ∧ B.locs = P.locs ++ L ∧ B.cells = P.cells + 1 ∧ B.slots = P.slots + cs.length) := by
  obtain ⟨A, K1, K2, K3, K4, K5, K6⟩ := K
  have e : A.slots.size = cs.length := K3.trans hlen
  have hat : ∀ (i : Nat) (hi : i < cs.length), A.slots[i]? = some (.int cs[i]) := fun i hi => by rw [K5 i (by omega)]; simp [List.getD_eq_getElem?_getD, hi]
  have hcv : ∀ (i : Nat) (hi : i < cs.length), cv A i = cs[i] := fun i hi => by unfold cv; rw [hat i hi]
  have hty : Typed .char A := fun i v hv => by
    have hi : i < A.slots.size := (Array.getElem?_eq_some_iff.mp hv).1
    have q := K5 i hi
    rw [hv] at q
    rw [Option.some.inj q]
    exact K6 i hi
  refine Back.mono (back hZ hw wi E V C K1 hty S hz (by omega) (by omega) (fun i hi => by rw [hcv i (by omega)]; exact hall _ (List.getElem_mem _)) hfr hlo) (fun P a hp => ⟨hp.1, hp.2.1, hp.2.2.1, by rw [e]; exact hp.2.2.2⟩) (fun P a v B hp hq => ?_)
  obtain ⟨L, ⟨q1, q2, q3, q4, q5, q6, q7, ⟨V', v1, v2, v3, v4, v5⟩, q9⟩, hl, hc, hs⟩ := hq
  refine ⟨L, ⟨q1, q2, q3, q4, q5, q6, q7, ⟨V'.cls, v3, V', v1, rfl, by rw [v4, e, hlen], K4, fun i hi => ?_, fun i hi => ?_⟩, q9⟩, hl, hc, by rw [hs, e]⟩
  · have hi' : i < cs.length := by omega
    rw [v5 i (by omega), hcv i hi']; simp [List.getD_eq_getElem?_getD, hi']
  · have hi' : i < cs.length := by omega
    simp only [List.getD_eq_getElem?_getD, List.getElem?_map, List.getElem?_eq_getElem hi', Option.map_some, Option.getD_some]
    exact fits_lo8 _
end StrChars.Road
namespace StrChars.Road
open Jvm Sem ClassFile Op Lib Jvm.Stand Jvm.Free Jvm.Free.XT
/-- WHAT COMES BACK, in the writer's own shape -/
def QV (Z : State) (x : Addr) (N : Int32) (bs : List Int32) (h : Heap) (n0 : Nat) (v : Option Value) (h' : Heap) (L : List Loc) : Prop := v = none ∧ RoadKit.Fr n0 L ∧ RoadKit.Keep h h' [x] ∧ RoadKit.Exa Z h' x ST ∧ RoadKit.Fld Z h' x ST "coder" "B" (.int 0) ∧
  ∃ (t : Addr) (kb : ClassId), n0 ≤ t ∧ h.size ≤ t ∧ ¬ t = x ∧ RoadKit.Fld Z h' x ST "value" "[B" (.ref t) ∧ RoadKit.Arv Z h' t kb .byte N (bs.map Value.int) (.int 0)
/-- **new String(chars) AT A CALL, FOR THE WRITER**: a char[] of n known ints, each 0 to 255 -/
theorem backV {p : Program} {l : Launch} {e : Env} {R : Room} {s : State} {args : Array Value} {below : List Frame} {len W : Nat} {Z : State} {a0 : Array Value} {h : Heap} (hZ : Z.Warmed39 s.vm) (hw : ∀ d ∈ words, d.before a0 Z = true) {kI : Nat} (wi : (Jvm.Cond.instantiable ST kI).before a0 Z = true)
    {x b : Addr} {kC : ClassId} {cs bs : List Int32} {d v0 c0 : Value} {z N : Int32} {n n0 : Nat} (hx0 : n0 ≤ x) (hh0 : n0 ≤ h.size) (E : RoadKit.Exa Z h x ST) (V : RoadKit.Fld Z h x ST "value" "[B" v0) (C : RoadKit.Fld Z h x ST "coder" "B" c0) (K : RoadKit.Arv Z h b kC .char N (cs.map Value.int) d) (S : RoadKit.Sta Z h ST "COMPACT_STRINGS" "Z" (.int z)) (hz : ¬ z = 0)
    (hn : cs.length = n) (hN : N = Int32.ofNat n) (l0 : 0 < n) (l2 : n ≤ 4000) (hp : ∀ c ∈ cs, ¬ c < 0 ∧ ¬ (255 : Int32) < c) (hb : bs = cs.map (fun c => c.toInt8.toInt32)) (hfr : 4 ≤ R.frames) (hlo : W + 65 ≤ R.locals) :
    Back l R p e below s args (⟨"java/lang/String", "<init>", "([C)V"⟩ : MethodName) len W (fun P a => a = #[.ref x, .ref b] ∧ P.U.heap = h ∧ P.cells + 1 ≤ R.cells ∧ P.slots + n ≤ R.slots)
      (fun P _ v B => ∃ L, QV Z x N bs h n0 v B.U.heap L ∧ B.locs = P.locs ++ L ∧ B.cells = P.cells + 1 ∧ B.slots = P.slots + n) := by
  subst hn hN hb
  refine Back.mono (backArv hZ hw wi E V C K S hz (n32 (by omega)) l0 (by omega) (fun c hc => (hp c hc).2) hfr hlo) (fun P a hp => hp) (fun P a v B hp hq => ?_)
  obtain ⟨L, ⟨q1, q2, q3, q4, q5, q6, q7, ⟨kb, v1, v2⟩, q9⟩, hl, hc, hs⟩ := hq
  exact ⟨L, ⟨q1, fun y hy => by rw [q2 y hy]; exact hx0, q3, q5, q7, h.size, kb, hh0, Nat.le_refl _, Nat.ne_of_gt E.lt, q6, by rw [List.map_map]; exact v2⟩, hl, hc, hs⟩
end StrChars.Road
namespace StrChars
open Jvm Sem ClassFile Op Lib Jvm.Stand Jvm.Free.XT Jvm.Free.ALB Jvm.Free.JM Jvm.Free
open Jvm.Lib.Cold (StaticIs)
def hi8 (x : Int32) : Int32 := lo8 (x >>> ((8 : Int32) &&& 31))
/-- what StringUTF16.getChar makes of two bytes -/
def pairCh (u v : Int32) : Int32 := (((u &&& 255) <<< ((0 : Int32) &&& 31)) ||| ((v &&& 255) <<< ((8 : Int32) &&& 31))).toUInt32.toUInt16.toUInt32.toInt32
theorem lo8_and (x : Int32) : (lo8 x &&& 255).toBitVec.toNat = x.toBitVec.toNat % 256 := by
  have h : (lo8 x).toBitVec = (x.toBitVec.signExtend 8).signExtend 32 := by rw [lo8, Int8.toBitVec_toInt32, Int32.toBitVec_toInt8]
  rw [Int32.toBitVec_and, BitVec.toNat_and, h]
  have e : ((x.toBitVec.signExtend 8).signExtend 32).toNat % 256 = x.toBitVec.toNat % 256 := by
    rw [BitVec.toNat_signExtend]
    have hlt := x.toBitVec.isLt
    simp only [BitVec.toNat_setWidth, BitVec.toNat_signExtend]
    split <;> split <;> omega
  rw [← e]
  exact Nat.and_two_pow_sub_one_eq_mod _ 8
theorem pair_says {c : Int32} (h0 : ¬ c < 0) (h1 : ¬ 65535 < c) : pairCh (lo8 c) (hi8 c) = c := by
  rw [Int32.lt_iff_toInt_lt] at h0 h1
  have e0 : (0 : Int32).toInt = 0 := rfl
  have e1 : (65535 : Int32).toInt = 65535 := rfl
  have hc : c.toInt = c.toBitVec.toNat := by
    have := c.toBitVec.isLt
    have e : c.toInt = c.toBitVec.toInt := rfl
    rw [e] at h0 h1
    rw [e]
    rw [BitVec.toInt_eq_toNat_cond] at h0 h1 ⊢
    split at h0 <;> split <;> omega
  have hn : c.toBitVec.toNat < 65536 := by omega
  have a1 := lo8_and c
  have a2 : (hi8 c &&& 255).toBitVec.toNat = c.toBitVec.toNat / 256 := by
    rw [hi8, lo8_and]
    have e : ((8 : Int32) &&& 31) = 8 := by decide
    rw [e, Int32.toBitVec_shiftRight]
    have e2 : ((8 : Int32).toBitVec.smod 32) = 8#32 := by decide
    rw [e2, BitVec.sshiftRight_eq', BitVec.toNat_sshiftRight_of_msb_false (by rw [BitVec.msb_eq_false_iff_two_mul_lt]; omega)]
    show c.toBitVec.toNat >>> 8 % 256 = _
    rw [Nat.shiftRight_eq_div_pow]
    omega
  unfold pairCh
  apply Int32.toBitVec_inj.mp
  apply BitVec.eq_of_toNat_eq
  have f0 : ((0 : Int32) &&& 31) = 0 := by decide
  have f8 : ((8 : Int32) &&& 31) = 8 := by decide
  rw [f0, f8]
  have g : (((lo8 c &&& 255) <<< (0 : Int32)) ||| ((hi8 c &&& 255) <<< (8 : Int32))).toBitVec.toNat = c.toBitVec.toNat := by
    rw [Int32.toBitVec_or, Int32.toBitVec_shiftLeft, Int32.toBitVec_shiftLeft]
    have s0 : ((0 : Int32).toBitVec.smod 32) = 0#32 := by decide
    have s8 : ((8 : Int32).toBitVec.smod 32) = 8#32 := by decide
    rw [s0, s8, BitVec.toNat_or]
    simp only [BitVec.shiftLeft_eq', BitVec.toNat_shiftLeft, a1, a2]
    show (c.toBitVec.toNat % 256) <<< 0 % 2 ^ 32 ||| (c.toBitVec.toNat / 256) <<< 8 % 2 ^ 32 = _
    rw [Nat.shiftLeft_zero, Nat.mod_eq_of_lt (show c.toBitVec.toNat % 256 < 2 ^ 32 by omega), Nat.mod_eq_of_lt (show (c.toBitVec.toNat / 256) <<< 8 < 2 ^ 32 by rw [Nat.shiftLeft_eq]; omega), Nat.or_comm, ← Nat.shiftLeft_add_eq_or_of_lt (by omega), Nat.shiftLeft_eq]
    omega
  show BitVec.toNat (((((lo8 c &&& 255) <<< (0 : Int32)) ||| ((hi8 c &&& 255) <<< (8 : Int32))).toBitVec.setWidth 16).setWidth 32) = _
  rw [BitVec.toNat_setWidth, BitVec.toNat_setWidth, g]
  omega
end StrChars
namespace StrChars
open Jvm Sem ClassFile Op Lib Jvm.Stand Jvm.Free.XT Jvm.Free.ALB Jvm.Free.JM Jvm.Free
open Jvm.Lib.Cold (StaticIs)
/-- the array's cell V codes the n chars f 0 .. f (n - 1) by the coder cd, as the JDK does: coder 1 just where some char is above 255 -/
def Cod (cd : Int32) (n : Nat) (f : Nat → Int32) (V : Cell) : Prop := (cd = 0 ∧ V.slots.size = n ∧ ∀ j, j < n → V.slots[j]? = some (.int (lo8 (f j))) ∧ ¬ 255 < f j) ∨ (cd = 1 ∧ V.slots.size = 2 * n ∧ (∀ j, j < n → V.slots[2 * j]? = some (.int (lo8 (f j))) ∧ V.slots[2 * j + 1]? = some (.int (hi8 (f j)))) ∧ ∃ j, j < n ∧ 255 < f j)
/-- **x is a String of the n chars f 0 .. f (n - 1)**, Latin-1 or UTF-16; its array at t has the cell V -/
def Txt (x t : Addr) (V : Cell) (cd : Int32) (n : Nat) (f : Nat → Int32) (U : State) : Prop := Exact "java/lang/String" x U ∧ Has x "java/lang/String" "value" "[B" (.ref t) U ∧ Has x "java/lang/String" "coder" "B" (.int cd) U ∧ XT.Arr .byte t V U ∧ Cod cd n f V ∧ ∀ j, j < n → ¬ f j < 0 ∧ ¬ 65535 < f j
theorem Txt.mv {x t : Addr} {V : Cell} {cd : Int32} {n : Nat} {f : Nat → Int32} {U U' : State} (h : Txt x t V cd n f U) (hal : U.vm.Alike U'.vm) (hh : U'.heap = U.heap) : Txt x t V cd n f U' := ⟨h.1.mv hal hh, h.2.1.mv hal hh, h.2.2.1.mv hal hh, h.2.2.2.1.mv hal hh, h.2.2.2.2⟩
end StrChars
namespace StrChars.Road
open Jvm Sem ClassFile Op Lib Jvm.Stand Jvm.Free Jvm.Free.XT
open Jvm.Lib.Cold (StaticIs)
theorem consq {a : Array Value} {s : State} {c : Jvm.Cond} {L : List Jvm.Cond} (h0 : c.before a s = true) (h : ∀ w ∈ L, w.before a s = true) : ∀ w ∈ c :: L, w.before a s = true := fun w hw => (List.mem_cons.mp hw).elim (fun e => e ▸ h0) (h w)
/-- the bytes of the chars cs, low before high -/
def wideBytes : List Int32 → List Value
  | [] => []
  | c :: cs => .int (lo8 c) :: .int (hi8 c) :: wideBytes cs
theorem wide_lo (d : Value) : ∀ (cs : List Int32) (j : Nat), j < cs.length → (wideBytes cs).getD (2 * j) d = .int (lo8 (cs.getD j 0))
  | [], j, h => absurd h (Nat.not_lt_zero j)
  | c :: cs, 0, _ => rfl
  | c :: cs, j + 1, h => by
    have q := wide_lo d cs j (by simpa using h)
    rw [show 2 * (j + 1) = 2 * j + 1 + 1 from by omega]
    simpa [wideBytes] using q
theorem wide_hi (d : Value) : ∀ (cs : List Int32) (j : Nat), j < cs.length → (wideBytes cs).getD (2 * j + 1) d = .int (hi8 (cs.getD j 0))
  | [], j, h => absurd h (Nat.not_lt_zero j)
  | c :: cs, 0, _ => rfl
  | c :: cs, j + 1, h => by
    have q := wide_hi d cs j (by simpa using h)
    rw [show 2 * (j + 1) + 1 = 2 * j + 1 + 1 + 1 from by omega]
    simpa [wideBytes] using q
theorem low_at (d : Value) (cs : List Int32) (j : Nat) (h : j < cs.length) : (cs.map fun c => Value.int (lo8 c)).getD j d = .int (lo8 (cs.getD j 0)) := by
  simp [List.getD_eq_getElem?_getD, h]
/-- an array of N2 bytes vs codes the chars cs by the coder cd -/
def CodA (cs : List Int32) (cd N2 : Int32) (vs : List Value) : Prop := (cd = 0 ∧ N2 = Int32.ofNat cs.length ∧ vs = (cs.map fun c => Value.int (lo8 c)) ∧ ∀ c ∈ cs, ¬ 255 < c) ∨ (cd = 1 ∧ N2 = Int32.ofNat (2 * cs.length) ∧ vs = wideBytes cs ∧ ∃ c ∈ cs, 255 < c)
theorem CodA.cod {cs : List Int32} {cd N2 : Int32} {vs : List Value} {V : Cell} (h : CodA cs cd N2 vs) (hn : 2 * cs.length < 2 ^ 31) (hs : V.slots.size = N2.toNatClampNeg) (hv : RoadKit.Has V vs (.int 0)) : Cod cd cs.length (fun j => cs.getD j 0) V := by
  rcases h with ⟨rfl, rfl, rfl, h⟩ | ⟨rfl, rfl, rfl, c, hc, hw⟩
  · rw [n32 (by omega)] at hs
    exact Or.inl ⟨rfl, hs, fun j hj => ⟨by rw [hv j (by omega), low_at _ _ _ hj], by
      have e : cs.getD j 0 = cs[j] := by simp [List.getD_eq_getElem?_getD, hj]
      show ¬ 255 < cs.getD j 0
      rw [e]; exact h _ (List.getElem_mem _)⟩⟩
  · rw [n32 (by omega)] at hs
    obtain ⟨j, hj, rfl⟩ := List.getElem_of_mem hc
    exact Or.inr ⟨rfl, hs, fun j hj => ⟨by rw [hv _ (by omega), wide_lo _ _ _ hj], by rw [hv _ (by omega), wide_hi _ _ _ hj]⟩, j, hj, by
      have e : cs.getD j 0 = cs[j] := by simp [List.getD_eq_getElem?_getD, hj]
      show 255 < cs.getD j 0
      rw [e]; exact hw⟩
/-- an object of exactly java/lang/String, its two fields found: as the laws ask it -/
theorem strObj {Z U : State} {a0 : Array Value} {kI : Nat} (wi : (Jvm.Cond.instantiable ST kI).before a0 Z = true) (al : Z.vm.Alike U.vm) {x : Addr} {v0 c0 : Value} (E : RoadKit.Exa Z U.heap x ST) (V : RoadKit.Fld Z U.heap x ST "value" "[B" v0) (C : RoadKit.Fld Z U.heap x ST "coder" "B" c0) :
    ∃ (D : Cell) (fV fC : Field), Blank ST x D U ∧ Found ST "value" "[B" fV U ∧ Found ST "coder" "B" fC U ∧ D.slots[fV.slot]? = some v0 ∧ D.slots[fC.slot]? = some c0 ∧ RoadKit.slotOf Z ST "value" "[B" = fV.slot ∧ RoadKit.slotOf Z ST "coder" "B" = fC.slot := by
  obtain ⟨D, cfV, kV, iV, fV, hD, gV, stV, knV, obV, asV, slV⟩ := V
  obtain ⟨D', cfC, kC, iC, fC, hD', gC, stC, -, -, asC, slC⟩ := C
  cases hD.symm.trans hD'
  obtain ⟨D2, kD, e1, e2, e3, e4, e5⟩ := E
  cases hD.symm.trans e1
  obtain ⟨c2, k2, i1, i2, i3, -⟩ := Cond.instantiable_spec wi
  cases e2.symm.trans i1
  cases e3.symm.trans i2
  obtain ⟨kU, u1, u2⟩ := al.2.2 _ _ e3
  exact ⟨D, fV, fC, ⟨hD, ⟨knV, fun q hq => by rw [hq] at obV; cases obV⟩, by rw [al.findClass]; exact e2, kU, u1, by rw [u2]; exact i3, by rw [u2]; exact e5 i3⟩, ⟨SBG.found_only al ⟨cfV, kV, iV, gV⟩, stV⟩, ⟨SBG.found_only al ⟨cfC, kC, iC, gC⟩, stC⟩, slV, slC, by simp [RoadKit.slotOf, gV], by simp [RoadKit.slotOf, gC]⟩
theorem sta_is {Z U : State} (al : Z.vm.Alike U.vm) {C n d : String} {v : Value} (S : RoadKit.Sta Z U.heap C n d v) : StaticIs U C n d v := by
  obtain ⟨cfS, iS, kS, fS, st, cS, t1, t2, t3, t4, t5, t6, t7⟩ := S
  exact StaticIs.there (s := { Z with heap := U.heap }) ⟨cfS, iS, kS, fS, st, cS, t1, t2, t3, t4, t5, (fun q => by rw [q] at t6; cases t6), t7⟩ al rfl
end StrChars.Road
namespace StrChars
open Jvm Sem ClassFile Op Lib Jvm.Stand Jvm.Free.XT Jvm.Free.ALB Jvm.Free.JM Jvm.Free
open Jvm.Lib.Cold (StaticIs)
/-- what place i of a byte[]'s cell holds -/
def yv (A : Cell) (i : Nat) : Int32 := match A.slots[i]? with | some (.int x) => x | _ => 0
theorem yv_get {a : Addr} {A : Cell} {U : State} (h : XT.Arr .byte a A U) (ht : Typed .byte A) {i : Nat} (hi : i < A.slots.size) : A.slots[i]? = some (.int (yv A i)) := by
  have e := Array.getElem?_eq_getElem hi
  have f := ht i _ e
  unfold yv; rw [e]
  generalize A.slots[i] = v at f
  cases v <;> simp [fits] at f ⊢
/-- the two arrays are equal, place for place -/
def EqC (A B : Cell) : Prop := A.slots.size = B.slots.size ∧ ∀ i, i < A.slots.size → yv A i = yv B i
/-- a boolean that says whether p -/
def Says01 (q : Prop) (r : Option Value) (s u : State) : Prop := ∃ v : Int32, r = some (.int v) ∧ u.heap = s.heap ∧ ((v = 1 ∧ q) ∨ (v = 0 ∧ ¬ q))
theorem Says01.mv {q : Prop} : ∀ r (U U' V V' : State), U'.heap = U.heap → V.vm.Alike V'.vm → V'.heap = V.heap → Says01 q r U V → Says01 q r U' V' :=
  fun r U U' V V' h1 _ h2 ⟨v, a, b, c⟩ => ⟨v, a, by rw [h1, h2]; exact b, c⟩
namespace LEq
def yN : MethodName := ⟨"java/lang/StringLatin1", "equals", "([B[B)Z"⟩
abbrev yB : ByteArray := jdk_43_method_13_code
theorem d0 : decode yB 0 = .ok (.aload_n 0, 1) := by decide +kernel
theorem d1 : decode yB 1 = .ok (.arraylength, 1) := by decide +kernel
theorem d2 : decode yB 2 = .ok (.aload_n 1, 1) := by decide +kernel
theorem d3 : decode yB 3 = .ok (.arraylength, 1) := by decide +kernel
theorem d4 : decode yB 4 = .ok (.if_icmp (.ne) 30, 3) := by decide +kernel
theorem d7 : decode yB 7 = .ok (.iconst 0, 1) := by decide +kernel
theorem d8 : decode yB 8 = .ok (.istore_n 2, 1) := by decide +kernel
theorem d9 : decode yB 9 = .ok (.iload_n 2, 1) := by decide +kernel
theorem d10 : decode yB 10 = .ok (.aload_n 0, 1) := by decide +kernel
theorem d11 : decode yB 11 = .ok (.arraylength, 1) := by decide +kernel
theorem d12 : decode yB 12 = .ok (.if_icmp (.ge) 20, 3) := by decide +kernel
theorem d15 : decode yB 15 = .ok (.aload_n 0, 1) := by decide +kernel
theorem d16 : decode yB 16 = .ok (.iload_n 2, 1) := by decide +kernel
theorem d17 : decode yB 17 = .ok (.baload, 1) := by decide +kernel
theorem d18 : decode yB 18 = .ok (.aload_n 1, 1) := by decide +kernel
theorem d19 : decode yB 19 = .ok (.iload_n 2, 1) := by decide +kernel
theorem d20 : decode yB 20 = .ok (.baload, 1) := by decide +kernel
theorem d21 : decode yB 21 = .ok (.if_icmp (.eq) 5, 3) := by decide +kernel
theorem d24 : decode yB 24 = .ok (.iconst 0, 1) := by decide +kernel
theorem d25 : decode yB 25 = .ok (.ireturn, 1) := by decide +kernel
theorem d26 : decode yB 26 = .ok (.iinc 2 1, 3) := by decide +kernel
theorem d29 : decode yB 29 = .ok (.goto (-20), 3) := by decide +kernel
theorem d32 : decode yB 32 = .ok (.iconst 1, 1) := by decide +kernel
theorem d33 : decode yB 33 = .ok (.ireturn, 1) := by decide +kernel
theorem d34 : decode yB 34 = .ok (.iconst 0, 1) := by decide +kernel
theorem d35 : decode yB 35 = .ok (.ireturn, 1) := by decide +kernel
def site : List Cond := []
def tab : Cond := tabOf yN yB 3 (some .boolean) site
def P (a : Addr) (A : Cell) (b : Addr) (B : Cell) (args : Array Value) (s : State) : Prop := args = #[.ref a, .ref b] ∧ XT.Arr .byte a A s ∧ Typed .byte A ∧ XT.Arr .byte b B s ∧ Typed .byte B
/-- whether two byte[] are equal, place for place -/
theorem law (l : Launch) (a : Addr) (A : Cell) (b : Addr) (B : Cell) : Law l yN 2 2 0 0 yB 3 (some .boolean) site (P a A b B) (Says01 (EqC A B)) [] 0 0 := by
  refine Law.of_walk (plainFor_of_name (by decide +kernel)) (by decide +kernel) (by decide +kernel) (by decide) (fun _ _ h => by rw [h.1]; rfl) (fun _ U U' hal hh h => ⟨h.1, h.2.1.mv hal hh, h.2.2.1, h.2.2.2.1.mv hal hh, h.2.2.2.2⟩) (fun r U U' V V' h1 hal h2 h => Says01.mv r U U' V V' h1 hal h2 h) ?_
  intro p e s m args below meth c s₁ X0 hexec hbytes hml hret hlk hnm hown hh0 W hP
  obtain ⟨rfl, hA, tA, hB, tB⟩ := hP
  have a31 := hA.2.2.2
  have b31 := hB.2.2.2
  have hA0 := hA.mv X0.warmed.alike hh0
  have hB0 := hB.mv X0.warmed.alike hh0
  have c1 : Steps p.tables e below (s₁.setTop (entryFrame m #[.ref a, .ref b] 3)) (s₁.setTop (mkF m 0 #[.val (.ref a), .val (.ref b), .unset] [])) := entry rfl
  have c2 : Steps p.tables e below (s₁.setTop (entryFrame m #[.ref a, .ref b] 3)) (s₁.setTop (mkF m 4 #[.val (.ref a), .val (.ref b), .unset] [.int (Int32.ofNat B.slots.size), .int (Int32.ofNat A.slots.size)])) := c1.trans (by
    refine XS.aloadN X0.here hexec rfl (hb hbytes d0) rfl rfl ?_
    refine X0.alen hexec hA0 rfl rfl (hb hbytes d1) ?_
    refine XS.aloadN X0.here hexec rfl (hb hbytes d2) rfl rfl ?_
    refine X0.alen hexec hB0 rfl rfl (hb hbytes d3) ?_
    exact Steps.refl _)
  by_cases hs : A.slots.size = B.slots.size
  · have c3 : Steps p.tables e below (s₁.setTop (entryFrame m #[.ref a, .ref b] 3)) (s₁.setTop (mkF m 9 #[.val (.ref a), .val (.ref b), .val (.int 0)] [])) := c2.trans (by
      refine XS.icmpNo X0.here hexec rfl (hb hbytes d4) rfl (ii_ne_f (by rw [hs])) ?_
      refine iconstV X0.here hexec rfl 0 (hb hbytes d7) (by decide) ?_
      refine XS.istoreN X0.here hexec rfl (hb hbytes d8) rfl rfl ?_
      exact Steps.refl _)
    have loop : ∀ (r i : Nat), i + r = A.slots.size → (∀ j, j < i → yv A j = yv B j) → Steps p.tables e below (s₁.setTop (entryFrame m #[.ref a, .ref b] 3)) (s₁.setTop (mkF m 9 #[.val (.ref a), .val (.ref b), .val (.int (Int32.ofNat i))] [])) → ∃ (pc : Nat) (Ls : Array Slot) (v : Int32), (pc = 25 ∨ pc = 33) ∧ ((v = 1 ∧ EqC A B) ∨ (v = 0 ∧ ¬ EqC A B)) ∧ Steps p.tables e below (s₁.setTop (entryFrame m #[.ref a, .ref b] 3)) (s₁.setTop (mkF m pc Ls [.int v])) := by
      intro r
      induction r with
      | zero =>
        intro i hi he cl
        exact ⟨33, _, 1, Or.inr rfl, Or.inl ⟨rfl, hs, fun j hj => he j (by omega)⟩, cl.trans (by
          refine XS.iloadN X0.here hexec rfl (hb hbytes d9) rfl ?_
          refine XS.aloadN X0.here hexec rfl (hb hbytes d10) rfl rfl ?_
          refine X0.alen hexec hA0 rfl rfl (hb hbytes d11) ?_
          refine XS.icmpYes X0.here hexec rfl (pc0 := 12) rfl (hb hbytes d12) rfl (ii_ge_t (nlt32 (by omega) (by omega))) (by decide) rfl ?_
          refine iconstV X0.here hexec rfl 1 (hb hbytes d32) (by decide) ?_
          exact Steps.refl _)⟩
      | succ r ih =>
        intro i hi he cl
        have c4 : Steps p.tables e below (s₁.setTop (entryFrame m #[.ref a, .ref b] 3)) (s₁.setTop (mkF m 21 #[.val (.ref a), .val (.ref b), .val (.int (Int32.ofNat i))] [.int (yv B i), .int (yv A i)])) := cl.trans (by
          refine XS.iloadN X0.here hexec rfl (hb hbytes d9) rfl ?_
          refine XS.aloadN X0.here hexec rfl (hb hbytes d10) rfl rfl ?_
          refine X0.alen hexec hA0 rfl rfl (hb hbytes d11) ?_
          refine XS.icmpNo X0.here hexec rfl (hb hbytes d12) rfl (ii_ge_f (lt32 (by omega) (by omega))) ?_
          refine XS.aloadN X0.here hexec rfl (hb hbytes d15) rfl rfl ?_
          refine XS.iloadN X0.here hexec rfl (hb hbytes d16) rfl ?_
          refine X0.aget hexec hA0 rfl (yv_get hA tA (i := i) (by omega)) rfl rfl (hb hbytes d17) ?_
          refine XS.aloadN X0.here hexec rfl (hb hbytes d18) rfl rfl ?_
          refine XS.iloadN X0.here hexec rfl (hb hbytes d19) rfl ?_
          refine X0.aget hexec hB0 rfl (yv_get hB tB (i := i) (by omega)) rfl rfl (hb hbytes d20) ?_
          exact Steps.refl _)
        by_cases hv : yv A i = yv B i
        · have c5 : Steps p.tables e below (s₁.setTop (entryFrame m #[.ref a, .ref b] 3)) (s₁.setTop (mkF m 9 #[.val (.ref a), .val (.ref b), .val (.int (Int32.ofNat i + 1))] [])) := c4.trans (by
            refine XS.icmpYes X0.here hexec rfl (pc0 := 21) rfl (hb hbytes d21) rfl (ii_eq_t hv) (by decide) rfl ?_
            refine iincV X0.here hexec rfl 1 (hb hbytes d26) (by decide) rfl rfl ?_
            refine XS.goto X0.here hexec rfl (pc0 := 29) rfl (hb hbytes d29) (by decide) rfl ?_
            exact Steps.refl _)
          rw [succ32] at c5
          exact ih (i + 1) (by omega) (fun j hj => by
            by_cases e : j = i
            · rw [e]; exact hv
            · exact he j (by omega)) c5
        · exact ⟨25, _, 0, Or.inl rfl, Or.inr ⟨rfl, fun q => hv (q.2 i (by omega))⟩, c4.trans (by
            refine XS.icmpNo X0.here hexec rfl (hb hbytes d21) rfl (ii_eq_f hv) ?_
            refine iconstV X0.here hexec rfl 0 (hb hbytes d24) (by decide) ?_
            exact Steps.refl _)⟩
    obtain ⟨pc, Ls, v, hpc, hv, cz⟩ := loop A.slots.size 0 (by omega) (fun j hj => absurd hj (Nat.not_lt_zero j)) c3
    have nv : narrow .boolean (.int v) = .int v := by rcases hv with ⟨rfl, -⟩ | ⟨rfl, -⟩ <;> rfl
    rcases hpc with rfl | rfl
    · exact ⟨s₁, some (.int v), _, _, _, X0, rfl, rfl, rfl, (fun h => by cases h), ⟨v, rfl, hh0, hv⟩, fun fs hl => cz.trans (X0.ireturnOut hexec hret nv (Or.inr (Or.inl rfl)) (hb hbytes d25) hl)⟩
    · exact ⟨s₁, some (.int v), _, _, _, X0, rfl, rfl, rfl, (fun h => by cases h), ⟨v, rfl, hh0, hv⟩, fun fs hl => cz.trans (X0.ireturnOut hexec hret nv (Or.inr (Or.inl rfl)) (hb hbytes d33) hl)⟩
  · have c3 : Steps p.tables e below (s₁.setTop (entryFrame m #[.ref a, .ref b] 3)) (s₁.setTop (mkF m 35 #[.val (.ref a), .val (.ref b), .unset] [.int 0])) := c2.trans (by
      refine XS.icmpYes X0.here hexec rfl (pc0 := 4) rfl (hb hbytes d4) rfl (ii_ne_t (ne32 a31 b31 hs)) (by decide) rfl ?_
      refine iconstV X0.here hexec rfl 0 (hb hbytes d34) (by decide) ?_
      exact Steps.refl _)
    exact ⟨s₁, some (.int 0), _, _, _, X0, rfl, rfl, rfl, (fun h => by cases h), ⟨0, rfl, hh0, Or.inr ⟨rfl, fun q => hs q.1⟩⟩, fun fs hl => c3.trans (X0.ireturnOut hexec hret rfl (Or.inr (Or.inl rfl)) (hb hbytes d35) hl)⟩
end LEq
theorem Cod.ty {cd : Int32} {n : Nat} {f : Nat → Int32} {V : Cell} (h : Cod cd n f V) : Typed .byte V := fun i v hv => by
  have hi : i < V.slots.size := (Array.getElem?_eq_some_iff.mp hv).1
  rcases h with ⟨-, k1, k2⟩ | ⟨-, k1, k2, -⟩
  · rw [(k2 i (by omega)).1] at hv; cases hv; exact fits_lo8 _
  · rcases Nat.mod_two_eq_zero_or_one i with e | e
    · obtain ⟨j, rfl⟩ : ∃ j, i = 2 * j := ⟨i / 2, by omega⟩
      rw [(k2 j (by omega)).1] at hv; cases hv; exact fits_lo8 _
    · obtain ⟨j, rfl⟩ : ∃ j, i = 2 * j + 1 := ⟨i / 2, by omega⟩
      rw [(k2 j (by omega)).2] at hv; cases hv; exact fits_lo8 _
/-- the same text -/
def SameT (n : Nat) (f : Nat → Int32) (k : Nat) (g : Nat → Int32) : Prop := n = k ∧ ∀ j, j < n → f j = g j
theorem lo8_inj {x y : Int32} (h0 : ¬ x < 0) (h1 : ¬ 255 < x) (k0 : ¬ y < 0) (k1 : ¬ 255 < y) (h : lo8 x = lo8 y) : x = y := by
  rw [← lo8_mask h0 h1, ← lo8_mask k0 k1, h]
/-- arrays coded by one coder are equal just where the texts are -/
theorem Cod.eqv {cd : Int32} {n k : Nat} {f g : Nat → Int32} {V V' : Cell} (h : Cod cd n f V) (h' : Cod cd k g V') (hf : ∀ j, j < n → ¬ f j < 0 ∧ ¬ 65535 < f j) (hg : ∀ j, j < k → ¬ g j < 0 ∧ ¬ 65535 < g j) : EqC V V' ↔ SameT n f k g := by
  have yvv : ∀ {W : Cell} {i : Nat} {x : Int32}, W.slots[i]? = some (.int x) → yv W i = x := fun q => by unfold yv; rw [q]
  rcases h with ⟨rfl, k1, k2⟩ | ⟨rfl, k1, k2, -⟩
  · rcases h' with ⟨-, m1, m2⟩ | ⟨e, -⟩
    · constructor
      · rintro ⟨e1, e2⟩
        refine ⟨by omega, fun j hj => ?_⟩
        have q := e2 j (by omega)
        rw [yvv (k2 j hj).1, yvv (m2 j (by omega)).1] at q
        exact lo8_inj (hf j hj).1 (k2 j hj).2 (hg j (by omega)).1 (m2 j (by omega)).2 q
      · rintro ⟨rfl, e2⟩
        refine ⟨by omega, fun j hj => ?_⟩
        rw [yvv (k2 j (by omega)).1, yvv (m2 j (by omega)).1, e2 j (by omega)]
    · exact absurd e (by decide)
  · rcases h' with ⟨e, -⟩ | ⟨-, m1, m2, -⟩
    · exact absurd e (by decide)
    · constructor
      · rintro ⟨e1, e2⟩
        refine ⟨by omega, fun j hj => ?_⟩
        have q1 := e2 (2 * j) (by omega)
        have q2 := e2 (2 * j + 1) (by omega)
        rw [yvv (k2 j hj).1, yvv (m2 j (by omega)).1] at q1
        rw [yvv (k2 j hj).2, yvv (m2 j (by omega)).2] at q2
        rw [← pair_says (hf j hj).1 (hf j hj).2, ← pair_says (hg j (by omega)).1 (hg j (by omega)).2, q1, q2]
      · rintro ⟨rfl, e2⟩
        refine ⟨by omega, fun i hi => ?_⟩
        rcases Nat.mod_two_eq_zero_or_one i with e | e
        · obtain ⟨j, rfl⟩ : ∃ j, i = 2 * j := ⟨i / 2, by omega⟩
          rw [yvv (k2 j (by omega)).1, yvv (m2 j (by omega)).1, e2 j (by omega)]
        · obtain ⟨j, rfl⟩ : ∃ j, i = 2 * j + 1 := ⟨i / 2, by omega⟩
          rw [yvv (k2 j (by omega)).2, yvv (m2 j (by omega)).2, e2 j (by omega)]
/-- two codings differ: so do the texts -/
theorem Cod.dif {cd cd' : Int32} {n k : Nat} {f g : Nat → Int32} {V V' : Cell} (h : Cod cd n f V) (h' : Cod cd' k g V') (hne : ¬ cd = cd') : ¬ SameT n f k g := by
  rintro ⟨rfl, e⟩
  rcases h with ⟨rfl, -, k2⟩ | ⟨rfl, -, -, j, hj, hw⟩
  · rcases h' with ⟨rfl, -⟩ | ⟨-, -, -, j, hj, hw⟩
    · exact hne rfl
    · exact (k2 j hj).2 (by rw [e j hj]; exact hw)
  · rcases h' with ⟨-, -, m2⟩ | ⟨rfl, -⟩
    · exact (m2 j hj).2 (by rw [← e j hj]; exact hw)
    · exact hne rfl
/-- an object of exactly C is an instance of C -/
theorem cinst {p : Program} {l : Launch} {e : Env} {R : Room} {s : State} {m : MethodId} {args : Array Value} {below : List Frame} {meth : Method} {c : Code} {T : State} {locs : List Loc} {cells slots : Nat} (X : Stand p l e R s m args below meth c T locs cells slots) (hexec : p.tables.exec = Jvm.exec) {own C : String} {index : Nat} (hown : s.vm.findClass own = some m.cls) (hlink : (Cond.classLink own index C).before args s = true) {a : Addr} (hE : Exact C a T)
    {g : JFrame} (hg : g.method = m) {rest : List Value} (hstack : g.stack = .ref a :: rest) (hdg : decode c.code g.pc = .ok (.instanceof index, 3)) :
    ∃ T', Stand p l e R s m args below meth c T' locs cells slots ∧ T'.heap = T.heap ∧ ∀ target, Steps p.tables e below (T'.setTop { g with pc := g.pc + 3, stack := .int 1 :: rest }) target → Steps p.tables e below (T.setTop g) target := by
  obtain ⟨cB, h1, D, h2, h3, h4⟩ := hE
  have h1' : s.vm.findClass C = some cB := by rw [← X.warmed.alike.findClass]; exact h1
  obtain ⟨vm', X', st⟩ := X.instanceofYes hexec hown hlink h2 h4 h1' (by rw [h3]; exact Jvm.Free.SB.assignable_self _ _) hg hstack hdg
  exact ⟨_, X', rfl, st⟩
theorem cself {p : Program} {l : Launch} {e : Env} {R : Room} {s : State} {m : MethodId} {args : Array Value} {below : List Frame} {meth : Method} {c : Code} {T : State} {locs : List Loc} {cells slots : Nat} (X : Stand p l e R s m args below meth c T locs cells slots) (hexec : p.tables.exec = Jvm.exec) {own C : String} {index : Nat} (hown : s.vm.findClass own = some m.cls) (hlink : (Cond.classLink own index C).before args s = true) {a : Addr} (hE : Exact C a T)
    {g : JFrame} (hg : g.method = m) {rest : List Value} (hstack : g.stack = .ref a :: rest) (hdg : decode c.code g.pc = .ok (.checkcast index, 3)) :
    ∃ T', Stand p l e R s m args below meth c T' locs cells slots ∧ T'.heap = T.heap ∧ ∀ target, Steps p.tables e below (T'.setTop { g with pc := g.pc + 3, stack := .ref a :: rest }) target → Steps p.tables e below (T.setTop g) target := by
  obtain ⟨cB, h1, D, h2, h3, h4⟩ := hE
  have h1' : s.vm.findClass C = some cB := by rw [← X.warmed.alike.findClass]; exact h1
  obtain ⟨vm', X', st⟩ := X.checkcastYes hexec hown hlink h2 h4 h1' (by rw [h3]; exact Jvm.Free.SB.assignable_self _ _) hg hstack hdg
  exact ⟨_, X', rfl, fun t h => st t (by rw [← hstack] at h; exact h)⟩
namespace SEq
def yN : MethodName := ⟨"java/lang/String", "equals", "(Ljava/lang/Object;)Z"⟩
abbrev yB : ByteArray := jdk_42_method_66_code
theorem d0 : decode yB 0 = .ok (.aload_n 0, 1) := by decide +kernel
theorem d1 : decode yB 1 = .ok (.aload_n 1, 1) := by decide +kernel
theorem d2 : decode yB 2 = .ok (.if_acmp (.ne) 5, 3) := by decide +kernel
theorem d5 : decode yB 5 = .ok (.iconst 1, 1) := by decide +kernel
theorem d6 : decode yB 6 = .ok (.ireturn, 1) := by decide +kernel
theorem d7 : decode yB 7 = .ok (.aload_n 1, 1) := by decide +kernel
theorem d8 : decode yB 8 = .ok (.instanceof 10, 3) := by decide +kernel
theorem d11 : decode yB 11 = .ok (.ifCond (.eq) 43, 3) := by decide +kernel
theorem d14 : decode yB 14 = .ok (.aload_n 1, 1) := by decide +kernel
theorem d15 : decode yB 15 = .ok (.checkcast 10, 3) := by decide +kernel
theorem d18 : decode yB 18 = .ok (.astore_n 2, 1) := by decide +kernel
theorem d19 : decode yB 19 = .ok (.getstatic 38, 3) := by decide +kernel
theorem d22 : decode yB 22 = .ok (.ifCond (.eq) 14, 3) := by decide +kernel
theorem d25 : decode yB 25 = .ok (.aload_n 0, 1) := by decide +kernel
theorem d26 : decode yB 26 = .ok (.getfield 15, 3) := by decide +kernel
theorem d29 : decode yB 29 = .ok (.aload_n 2, 1) := by decide +kernel
theorem d30 : decode yB 30 = .ok (.getfield 15, 3) := by decide +kernel
theorem d33 : decode yB 33 = .ok (.if_icmp (.ne) 21, 3) := by decide +kernel
theorem d36 : decode yB 36 = .ok (.aload_n 0, 1) := by decide +kernel
theorem d37 : decode yB 37 = .ok (.getfield 9, 3) := by decide +kernel
theorem d40 : decode yB 40 = .ok (.aload_n 2, 1) := by decide +kernel
theorem d41 : decode yB 41 = .ok (.getfield 9, 3) := by decide +kernel
theorem d44 : decode yB 44 = .ok (.invokestatic 541, 3) := by decide +kernel
theorem d47 : decode yB 47 = .ok (.ifCond (.eq) 7, 3) := by decide +kernel
theorem d50 : decode yB 50 = .ok (.iconst 1, 1) := by decide +kernel
theorem d51 : decode yB 51 = .ok (.goto 4, 3) := by decide +kernel
theorem d54 : decode yB 54 = .ok (.iconst 0, 1) := by decide +kernel
theorem d55 : decode yB 55 = .ok (.ireturn, 1) := by decide +kernel
def site : List Cond := [.classLink "java/lang/String" 10 "java/lang/String", .fieldLink "java/lang/String" 38 "java/lang/String" "COMPACT_STRINGS" "Z", .fieldLink "java/lang/String" 15 "java/lang/String" "coder" "B", .fieldLink "java/lang/String" 9 "java/lang/String" "value" "[B", LEq.tab] ++ staticW "java/lang/String" 541 LEq.yN
def tab : Cond := tabOf yN yB 3 (some .boolean) site
def P (x t : Addr) (V : Cell) (cd : Int32) (n : Nat) (f : Nat → Int32) (y t' : Addr) (V' : Cell) (cd' : Int32) (k : Nat) (g : Nat → Int32) (z : Int32) (args : Array Value) (s : State) : Prop := args = #[.ref x, .ref y] ∧ Txt x t V cd n f s ∧ Txt y t' V' cd' k g s ∧ StaticIs s "java/lang/String" "COMPACT_STRINGS" "Z" (.int z) ∧ ¬ z = 0
/-- equals(Object) of two Strings: whether the texts are the same -/
theorem law (l : Launch) (x t : Addr) (V : Cell) (cd : Int32) (n : Nat) (f : Nat → Int32) (y t' : Addr) (V' : Cell) (cd' : Int32) (k : Nat) (g : Nat → Int32) (z : Int32) : Law l yN 2 1 1 14 yB 3 (some .boolean) site (P x t V cd n f y t' V' cd' k g z) (Says01 (SameT n f k g)) [] 0 0 := by
  refine Law.of_walk (plainFor_of_name (by decide +kernel)) (by decide +kernel) (by decide +kernel) (by decide) (fun _ _ h => by rw [h.1]; rfl) (fun _ U U' hal hh h => ⟨h.1, h.2.1.mv hal hh, h.2.2.1.mv hal hh, h.2.2.2.1.there hal hh, h.2.2.2.2⟩) (fun r U U' V V' h1 hal h2 h => Says01.mv r U U' V V' h1 hal h2 h) ?_
  intro p e s m args below meth c s₁ X0 hexec hbytes hml hret hlk hnm hown hh0 W hP
  obtain ⟨rfl, hx, hy, s1, hz⟩ := hP
  have c1 : Steps p.tables e below (s₁.setTop (entryFrame m #[.ref x, .ref y] 3)) (s₁.setTop (mkF m 2 #[.val (.ref x), .val (.ref y), .unset] [.ref y, .ref x])) := Steps.trans (entry rfl) (by
    show Steps p.tables e below (s₁.setTop (mkF m 0 #[.val (.ref x), .val (.ref y), .unset] [])) _
    refine XS.aloadN X0.here hexec rfl (hb hbytes d0) rfl rfl ?_
    refine XS.aloadN X0.here hexec rfl (hb hbytes d1) rfl rfl ?_
    exact Steps.refl _)
  by_cases hxy : x = y
  · have c2 : Steps p.tables e below (s₁.setTop (entryFrame m #[.ref x, .ref y] 3)) (s₁.setTop (mkF m 6 #[.val (.ref x), .val (.ref y), .unset] [.int 1])) := c1.trans (by
      refine acmpNo X0.here hexec rfl (hb hbytes d2) rfl rfl rfl (by simp [acmp, hxy]) ?_
      refine iconstV X0.here hexec rfl 1 (hb hbytes d5) (by decide) ?_
      exact Steps.refl _)
    subst hxy
    have ec : cd = cd' := by
      obtain ⟨D, fd, a1, a2, a3⟩ := hx.2.2.1
      obtain ⟨D', fd', b1, b2, b3⟩ := hy.2.2.1
      cases a1.symm.trans b1
      obtain ⟨q1, q2, q3, q4⟩ := a2.1
      obtain ⟨r1, r2, r3, r4⟩ := b2.1
      cases q4.symm.trans r4
      cases a3.symm.trans b3; rfl
    have et : t = t' := by
      obtain ⟨D, fd, a1, a2, a3⟩ := hx.2.1
      obtain ⟨D', fd', b1, b2, b3⟩ := hy.2.1
      cases a1.symm.trans b1
      obtain ⟨q1, q2, q3, q4⟩ := a2.1
      obtain ⟨r1, r2, r3, r4⟩ := b2.1
      cases q4.symm.trans r4
      cases a3.symm.trans b3; rfl
    subst ec et
    have ev : V = V' := by cases hx.2.2.2.1.1.symm.trans hy.2.2.2.1.1; rfl
    subst ev
    have hs : SameT n f k g := (Cod.eqv hx.2.2.2.2.1 hy.2.2.2.2.1 hx.2.2.2.2.2 hy.2.2.2.2.2).mp ⟨rfl, fun _ _ => rfl⟩
    exact ⟨s₁, some (.int 1), _, _, _, X0, rfl, rfl, rfl, (fun h => by cases h), ⟨1, rfl, hh0, Or.inl ⟨rfl, hs⟩⟩, fun fs hl => c2.trans (X0.ireturnOut hexec hret rfl (Or.inr (Or.inl rfl)) (hb hbytes d6) hl)⟩
  · have c2 : Steps p.tables e below (s₁.setTop (entryFrame m #[.ref x, .ref y] 3)) (s₁.setTop (mkF m 8 #[.val (.ref x), .val (.ref y), .unset] [.ref y])) := c1.trans (by
      refine acmpYes X0.here hexec rfl (pc0 := 2) rfl (hb hbytes d2) rfl rfl rfl (by simp [acmp, hxy]) (by decide) rfl ?_
      refine XS.aloadN X0.here hexec rfl (hb hbytes d7) rfl rfl ?_
      exact Steps.refl _)
    obtain ⟨T3, X3, q3, st3⟩ := cinst X0 hexec hown (wk W (.classLink "java/lang/String" 10 "java/lang/String")) (hy.mv X0.warmed.alike hh0).1 (g := (mkF m 8 #[.val (.ref x), .val (.ref y), .unset] [.ref y])) rfl (rest := []) rfl (hb hbytes d8)
    have hh3 := q3.trans hh0
    have c4 : Steps p.tables e below (s₁.setTop (entryFrame m #[.ref x, .ref y] 3)) (T3.setTop (mkF m 15 #[.val (.ref x), .val (.ref y), .unset] [.ref y])) := (c2.trans (st3 _ (Steps.refl _))).trans (by
      refine XS.ifNo X3.here hexec rfl (hb hbytes d11) rfl (i0_eq_f (by decide)) ?_
      refine XS.aloadN X3.here hexec rfl (hb hbytes d14) rfl rfl ?_
      exact Steps.refl _)
    obtain ⟨T5, X5, q5, st5⟩ := cself X3 hexec hown (wk W (.classLink "java/lang/String" 10 "java/lang/String")) (hy.mv X3.warmed.alike hh3).1 (g := (mkF m 15 #[.val (.ref x), .val (.ref y), .unset] [.ref y])) rfl (rest := []) rfl (hb hbytes d15)
    have hh5 := q5.trans hh3
    have c6 : Steps p.tables e below (s₁.setTop (entryFrame m #[.ref x, .ref y] 3)) (T5.setTop (mkF m 19 #[.val (.ref x), .val (.ref y), .val (.ref y)] [])) := (c4.trans (st5 _ (Steps.refl _))).trans (by
      refine XS.astoreN X5.here hexec rfl (hb hbytes d18) rfl rfl rfl ?_
      exact Steps.refl _)
    obtain ⟨T7, X7, q7, st7⟩ := X5.sget hexec hown (wk W (.fieldLink "java/lang/String" 38 "java/lang/String" "COMPACT_STRINGS" "Z")) s1 (fun _ _ h => by rw [hh5]; exact h) (g := (mkF m 19 #[.val (.ref x), .val (.ref y), .val (.ref y)] [])) rfl (hb hbytes d19)
    have hh7 := q7.trans hh5
    have c8 : Steps p.tables e below (s₁.setTop (entryFrame m #[.ref x, .ref y] 3)) (T7.setTop (mkF m 26 #[.val (.ref x), .val (.ref y), .val (.ref y)] [.ref x])) := (c6.trans (st7 _ (Steps.refl _))).trans (by
      refine XS.ifNo X7.here hexec rfl (hb hbytes d22) rfl (i0_eq_f hz) ?_
      refine XS.aloadN X7.here hexec rfl (hb hbytes d25) rfl rfl ?_
      exact Steps.refl _)
    obtain ⟨T9, X9, q9, st9⟩ := X7.hget hexec hown (wk W (.fieldLink "java/lang/String" 15 "java/lang/String" "coder" "B")) (hx.mv X7.warmed.alike hh7).2.2.1 (g := (mkF m 26 #[.val (.ref x), .val (.ref y), .val (.ref y)] [.ref x])) rfl (rest := []) rfl (hb hbytes d26)
    have hh9 := q9.trans hh7
    have c10 : Steps p.tables e below (s₁.setTop (entryFrame m #[.ref x, .ref y] 3)) (T9.setTop (mkF m 30 #[.val (.ref x), .val (.ref y), .val (.ref y)] [.ref y, .int cd])) := (c8.trans (st9 _ (Steps.refl _))).trans (by
      refine XS.aloadN X9.here hexec rfl (hb hbytes d29) rfl rfl ?_
      exact Steps.refl _)
    obtain ⟨T11, X11, q11, st11⟩ := X9.hget hexec hown (wk W (.fieldLink "java/lang/String" 15 "java/lang/String" "coder" "B")) (hy.mv X9.warmed.alike hh9).2.2.1 (g := (mkF m 30 #[.val (.ref x), .val (.ref y), .val (.ref y)] [.ref y, .int cd])) rfl (rest := [.int cd]) rfl (hb hbytes d30)
    have hh11 := q11.trans hh9
    have c12 : Steps p.tables e below (s₁.setTop (entryFrame m #[.ref x, .ref y] 3)) (T11.setTop (mkF m 33 #[.val (.ref x), .val (.ref y), .val (.ref y)] [.int cd', .int cd])) := c10.trans (st11 _ (Steps.refl _))
    by_cases hcd : cd = cd'
    · subst hcd
      have c13 : Steps p.tables e below (s₁.setTop (entryFrame m #[.ref x, .ref y] 3)) (T11.setTop (mkF m 37 #[.val (.ref x), .val (.ref y), .val (.ref y)] [.ref x])) := c12.trans (by
        refine XS.icmpNo X11.here hexec rfl (hb hbytes d33) rfl (ii_ne_f rfl) ?_
        refine XS.aloadN X11.here hexec rfl (hb hbytes d36) rfl rfl ?_
        exact Steps.refl _)
      obtain ⟨T14, X14, q14, st14⟩ := X11.hget hexec hown (wk W (.fieldLink "java/lang/String" 9 "java/lang/String" "value" "[B")) (hx.mv X11.warmed.alike hh11).2.1 (g := (mkF m 37 #[.val (.ref x), .val (.ref y), .val (.ref y)] [.ref x])) rfl (rest := []) rfl (hb hbytes d37)
      have hh14 := q14.trans hh11
      have c15 : Steps p.tables e below (s₁.setTop (entryFrame m #[.ref x, .ref y] 3)) (T14.setTop (mkF m 41 #[.val (.ref x), .val (.ref y), .val (.ref y)] [.ref y, .ref t])) := (c13.trans (st14 _ (Steps.refl _))).trans (by
        refine XS.aloadN X14.here hexec rfl (hb hbytes d40) rfl rfl ?_
        exact Steps.refl _)
      obtain ⟨T16, X16, q16, st16⟩ := X14.hget hexec hown (wk W (.fieldLink "java/lang/String" 9 "java/lang/String" "value" "[B")) (hy.mv X14.warmed.alike hh14).2.1 (g := (mkF m 41 #[.val (.ref x), .val (.ref y), .val (.ref y)] [.ref y, .ref t])) rfl (rest := [.ref t]) rfl (hb hbytes d41)
      have hh16 := q16.trans hh14
      have c17 : Steps p.tables e below (s₁.setTop (entryFrame m #[.ref x, .ref y] 3)) (T16.setTop (mkF m 44 #[.val (.ref x), .val (.ref y), .val (.ref y)] [.ref t', .ref t])) := c15.trans (st16 _ (Steps.refl _))
      obtain ⟨v18, T18, X18, E18, g18⟩ := X16.callS hexec (LEq.law l t V t' V') hown (wks W (staticW "java/lang/String" 541 LEq.yN)) (wk W LEq.tab) (W := 0) (Nat.le_of_ble_eq_true rfl) (Nat.le_of_ble_eq_true rfl) (Nat.le_refl _) (Nat.le_refl _) (g := (mkF m 44 #[.val (.ref x), .val (.ref y), .val (.ref y)] [.ref t', .ref t])) rfl (by rw [hml]; rfl) c17 (argsL := [.ref t, .ref t']) (rest := []) rfl rfl (by show 2 * 0 + 0 ≤ _; decide) (hb hbytes d44) (⟨rfl, hx.2.2.2.1.mv X16.warmed.alike hh16, hx.2.2.2.2.1.ty, hy.2.2.2.1.mv X16.warmed.alike hh16, hy.2.2.2.2.1.ty⟩)
      obtain ⟨v, rfl, q18, hv⟩ := E18
      have iff := Cod.eqv hx.2.2.2.2.1 hy.2.2.2.2.1 hx.2.2.2.2.2 hy.2.2.2.2.2
      rcases hv with ⟨rfl, he⟩ | ⟨rfl, he⟩
      · have c19 : Steps p.tables e below (s₁.setTop (entryFrame m #[.ref x, .ref y] 3)) (T18.setTop (mkF m 55 #[.val (.ref x), .val (.ref y), .val (.ref y)] [.int 1])) := Steps.trans g18 (by
          refine XS.ifNo X18.here hexec rfl (hb hbytes d47) rfl (i0_eq_f (by decide)) ?_
          refine iconstV X18.here hexec rfl 1 (hb hbytes d50) (by decide) ?_
          refine XS.goto X18.here hexec rfl (pc0 := 51) rfl (hb hbytes d51) (by decide) rfl ?_
          exact Steps.refl _)
        exact ⟨T18, some (.int 1), _, _, _, X18, rfl, rfl, rfl, (fun h => by cases h), ⟨1, rfl, q18.trans hh16, Or.inl ⟨rfl, iff.mp he⟩⟩, fun fs hl => c19.trans (X18.ireturnOut hexec hret rfl (Or.inr (Or.inl rfl)) (hb hbytes d55) hl)⟩
      · have c19 : Steps p.tables e below (s₁.setTop (entryFrame m #[.ref x, .ref y] 3)) (T18.setTop (mkF m 55 #[.val (.ref x), .val (.ref y), .val (.ref y)] [.int 0])) := Steps.trans g18 (by
          refine XS.ifYes X18.here hexec rfl (pc0 := 47) rfl (hb hbytes d47) rfl (i0_eq_t rfl) (by decide) rfl ?_
          refine iconstV X18.here hexec rfl 0 (hb hbytes d54) (by decide) ?_
          exact Steps.refl _)
        exact ⟨T18, some (.int 0), _, _, _, X18, rfl, rfl, rfl, (fun h => by cases h), ⟨0, rfl, q18.trans hh16, Or.inr ⟨rfl, fun q => he (iff.mpr q)⟩⟩, fun fs hl => c19.trans (X18.ireturnOut hexec hret rfl (Or.inr (Or.inl rfl)) (hb hbytes d55) hl)⟩
    · have c13 : Steps p.tables e below (s₁.setTop (entryFrame m #[.ref x, .ref y] 3)) (T11.setTop (mkF m 55 #[.val (.ref x), .val (.ref y), .val (.ref y)] [.int 0])) := c12.trans (by
        refine XS.icmpYes X11.here hexec rfl (pc0 := 33) rfl (hb hbytes d33) rfl (ii_ne_t hcd) (by decide) rfl ?_
        refine iconstV X11.here hexec rfl 0 (hb hbytes d54) (by decide) ?_
        exact Steps.refl _)
      exact ⟨T11, some (.int 0), _, _, _, X11, rfl, rfl, rfl, (fun h => by cases h), ⟨0, rfl, hh11, Or.inr ⟨rfl, Cod.dif hx.2.2.2.2.1 hy.2.2.2.2.1 hcd⟩⟩, fun fs hl => c13.trans (X11.ireturnOut hexec hret rfl (Or.inr (Or.inl rfl)) (hb hbytes d55) hl)⟩
theorem pays {l : Launch} {R : Room} {p : Program} {e : Env} {below : List Frame} {s : State} {sargs : Array Value} {len W : Nat} (x t : Addr) (V : Cell) (cd : Int32) (n : Nat) (f : Nat → Int32) (y t' : Addr) (V' : Cell) (cd' : Int32) (k : Nat) (g : Nat → Int32) (z : Int32) (htab : tab.before sargs s = true) (hfr : 2 ≤ R.frames) (hlo : W + 28 ≤ R.locals) :
    Back l R p e below s sargs yN len W (fun A₁ a₁ => A₁.cells + 0 ≤ R.cells ∧ A₁.slots + 0 ≤ R.slots ∧ P x t V cd n f y t' V' cd' k g z a₁ A₁.U) (fun A₁ _ v₁ B₁ => Says01 (SameT n f k g) v₁ A₁.U B₁.U ∧ B₁.locs = A₁.locs ++ [] ∧ B₁.cells = A₁.cells + 0 ∧ B₁.slots = A₁.slots + 0) :=
  (law l x t V cd n f y t' V' cd' k g z).pays htab hfr (by omega)
end SEq
end StrChars
namespace StrChars.Road
open Jvm Sem ClassFile Op Lib Jvm.Stand Jvm.Free Jvm.Free.XT
open Jvm.Lib.Cold (StaticIs)
/-- the words of String.equals(Object) -/
abbrev wordsEq : List Jvm.Cond := [.code SEq.yN SEq.yB 3 (some .boolean), .initialized ST, .classLink ST 10 ST, .fieldLink ST 38 ST "COMPACT_STRINGS" "Z", .fieldLink ST 15 ST "coder" "B", .fieldLink ST 9 ST "value" "[B", .methodLink ST 541 LEq.yN, .static LEq.yN, .code LEq.yN LEq.yB 3 (some .boolean), .initialized "java/lang/StringLatin1"]
theorem tabEq_of {a : Array Value} {s : State} (h : ∀ w ∈ wordsEq, w.before a s = true) : SEq.tab.before a s = true := by
  have hl : LEq.tab.before a s = true := unparts (wk h (.code LEq.yN LEq.yB 3 (some .boolean))) (wks h (.initialized LEq.yN.cls :: LEq.site))
  have q := consq hl h
  exact unparts (wk q (.code SEq.yN SEq.yB 3 (some .boolean))) (wks q (.initialized SEq.yN.cls :: SEq.site))
theorem movedEq {Z s : State} {a0 args : Array Value} (hZ : Z.Warmed39 s.vm) (hw : ∀ d ∈ wordsEq, d.before a0 Z = true) : ∀ d ∈ wordsEq, d.before args s = true := fun d hd => by
  have t : ∀ d ∈ wordsEq, (d.onTables && d.keepsFace) = true := by decide +kernel
  exact RoadKit.mv hZ (hw d hd) (t d hd)
/-- the road's facts of a String, as the laws ask it -/
theorem txt_of {Z U : State} {a0 : Array Value} {kI : Nat} (wi : (Jvm.Cond.instantiable ST kI).before a0 Z = true) (al : Z.vm.Alike U.vm) {x t : Addr} {kb : ClassId} {cs : List Int32} {cd N2 : Int32} {vs : List Value} (E : RoadKit.Exa Z U.heap x ST) (V : RoadKit.Fld Z U.heap x ST "value" "[B" (.ref t)) (C : RoadKit.Fld Z U.heap x ST "coder" "B" (.int cd)) (K : RoadKit.Arv Z U.heap t kb .byte N2 vs (.int 0)) (hc : CodA cs cd N2 vs) (hb : ∀ c ∈ cs, ¬ c < 0 ∧ ¬ (65535 : Int32) < c) (l2 : cs.length ≤ 4000) :
    ∃ A, Txt x t A cd cs.length (fun j => cs.getD j 0) U := by
  obtain ⟨A, K1, K2, K3, K4, K5, K6⟩ := K
  have hcod := hc.cod (by omega) K3 K5
  obtain ⟨D, fV, fC, hB, F1, F2, g1, g2, -, -⟩ := strObj wi al E V C
  exact ⟨A, ⟨_, hB.2.2.1, D, hB.1, rfl, by cases q : D.vm <;> first | rfl | exact absurd q (hB.2.1.2 _)⟩, Has.of hB F1 g1, Has.of hB F2 g2, ⟨K1.1, State.isArrayOf_alike al K1.2.1, K1.2.2, by rcases hcod with ⟨-, q, -⟩ | ⟨-, q, -⟩ <;> omega⟩, hcod, fun j hj => by
    have e : cs.getD j 0 = cs[j] := by simp [List.getD_eq_getElem?_getD, hj]
    show ¬ cs.getD j 0 < 0 ∧ ¬ 65535 < cs.getD j 0
    rw [e]; exact hb _ (List.getElem_mem _)⟩
theorem same_list (cs ds : List Int32) : SameT cs.length (fun j => cs.getD j 0) ds.length (fun j => ds.getD j 0) ↔ cs = ds := by
  constructor
  · rintro ⟨e, q⟩
    refine List.ext_getElem e fun j h1 h2 => ?_
    have := q j h1
    simpa [List.getD_eq_getElem?_getD, h1, h2] using this
  · rintro rfl
    exact ⟨rfl, fun _ _ => rfl⟩
/-- **equals(Object) OF TWO SUCH STRINGS**: 1 just where the chars are the same -/
theorem eqW {p : Program} {l : Launch} {e : Env} {R : Room} {s : State} {args : Array Value} {below : List Frame} {len W : Nat} {Z : State} {a0 : Array Value} {h : Heap} (hZ : Z.Warmed39 s.vm) (hw : ∀ d ∈ wordsEq, d.before a0 Z = true) {kI : Nat} (wi : (Jvm.Cond.instantiable ST kI).before a0 Z = true)
    {x t : Addr} {kb : ClassId} {cs : List Int32} {cd N2 : Int32} {vs : List Value} (E : RoadKit.Exa Z h x ST) (V : RoadKit.Fld Z h x ST "value" "[B" (.ref t)) (C : RoadKit.Fld Z h x ST "coder" "B" (.int cd)) (K : RoadKit.Arv Z h t kb .byte N2 vs (.int 0)) (hc : CodA cs cd N2 vs) (hb : ∀ c ∈ cs, ¬ c < 0 ∧ ¬ (65535 : Int32) < c) (l2 : cs.length ≤ 4000)
    {y t' : Addr} {kb' : ClassId} {ds : List Int32} {cd' N2' : Int32} {vs' : List Value} (E' : RoadKit.Exa Z h y ST) (V' : RoadKit.Fld Z h y ST "value" "[B" (.ref t')) (C' : RoadKit.Fld Z h y ST "coder" "B" (.int cd')) (K' : RoadKit.Arv Z h t' kb' .byte N2' vs' (.int 0)) (hc' : CodA ds cd' N2' vs') (hb' : ∀ c ∈ ds, ¬ c < 0 ∧ ¬ (65535 : Int32) < c) (l2' : ds.length ≤ 4000)
    {z : Int32} (S : RoadKit.Sta Z h ST "COMPACT_STRINGS" "Z" (.int z)) (hz : ¬ z = 0) (hfr : 2 ≤ R.frames) (hlo : W + 28 ≤ R.locals) :
    Back l R p e below s args (⟨"java/lang/String", "equals", "(Ljava/lang/Object;)Z"⟩ : MethodName) len W (fun P a => a = #[.ref x, .ref y] ∧ P.U.heap = h ∧ P.cells + 0 ≤ R.cells ∧ P.slots + 0 ≤ R.slots)
      (fun P _ v B => ∃ L, (((v = some (.int 1) ∧ cs = ds) ∨ (v = some (.int 0) ∧ ¬ cs = ds)) ∧ L = [] ∧ B.U.heap = h) ∧ B.locs = P.locs ++ L ∧ B.cells = P.cells + 0 ∧ B.slots = P.slots + 0) := by
  intro m meth c P g ig mk a X hg hsize hdg hW hn hp'
  obtain ⟨rfl, rfl, r1, r2⟩ := hp'
  have al : Z.vm.Alike P.U.vm := hZ.alike.trans X.warmed.alike
  obtain ⟨A, hx⟩ := txt_of wi al E V C K hc hb l2
  obtain ⟨A', hy⟩ := txt_of wi al E' V' C' K' hc' hb' l2'
  obtain ⟨v, B, X', ⟨⟨w, hv, hh, hq⟩, hl, hk, hs⟩, st⟩ := SEq.pays x t A cd cs.length (fun j => cs.getD j 0) y t' A' cd' ds.length (fun j => ds.getD j 0) z (tabEq_of (movedEq hZ hw)) hfr hlo m meth c P g ig mk _ X hg hsize hdg hW hn ⟨r1, r2, rfl, hx, hy, sta_is al S, hz⟩
  refine ⟨v, B, X', ⟨[], ⟨?_, rfl, hh⟩, hl, hk, hs⟩, st⟩
  rcases hq with ⟨rfl, q⟩ | ⟨rfl, q⟩
  · exact Or.inl ⟨hv, (same_list cs ds).mp q⟩
  · exact Or.inr ⟨hv, fun e => q ((same_list cs ds).mpr e)⟩
end StrChars.Road
namespace StrChars.Road
open Jvm Sem ClassFile Op Lib Jvm.Stand Jvm.Free Jvm.Free.XT
open Jvm.Lib.Cold (StaticIs)
/-- what backV says of its String, as the contracts of this text ask it: cs's low bytes, coder 0 -/
theorem codOf {cs : List Int32} {n : Nat} (hn : cs.length = n) (hb : ∀ c ∈ cs, ¬ 255 < c) : CodA cs 0 (Int32.ofNat n) ((cs.map lo8).map Value.int) := Or.inl ⟨rfl, by rw [hn], by simp [List.map_map, Function.comp_def], hb⟩
end StrChars.Road
end Jvm.Pilot.@@N@@

namespace Jvm.Pilot.@@N@@
open Jvm Jvm.ClassFile Sem Op Lib Jvm.Free Jvm.Stand Jvm.LawKit Jvm.RoadKit Bundle Jvm.Pilot.@@N@@.Jvm.D
section Own
variable {p : Program} {l : Launch} {e : Env} {R : Room} {s : State} {m : MethodId} {args : Array Value} {below : List Frame} {meth : Method} {c : Code} {T : State} {locs : List Loc} {cells slots : Nat}
/-- from A the run ends, and what it leaves is as Q says -/
def own_go (p : Program) (e : Env) (below : List Frame) (s : State) (Q : Option Value → Heap → List Loc → Prop) (C S : Nat) (A : State) : Prop :=
  ∃ t o, Steps p.tables e below A t ∧ t.status = .running ∧ Ended t below o ∧ ∃ v L, o = .returned v ∧ Q v t.heap L ∧ FrameEnd s o t L C S
variable {Q : Option Value → Heap → List Loc → Prop} {C S : Nat} {A B : State}
theorem own_in (h : own_go p e below s Q C S A) : ∃ t o, Steps p.tables e below A t ∧ t.status = .running ∧ Ended t below o ∧ ∃ v L, o = .returned v ∧ Q v t.heap L ∧ FrameEnd s o t L C S := h
theorem own_of (k : ∀ t, Steps p.tables e below B t → Steps p.tables e below A t) (h : own_go p e below s Q C S B) : own_go p e below s Q C S A := by
  obtain ⟨t, o, h1, h2⟩ := h
  exact ⟨t, o, k t h1, h2⟩
theorem own_use {α : Type} (X : Stand p l e R s m args below meth c T locs cells slots) {h : Heap} {g : α → JFrame} {G : State → Prop} (k : ∀ (r : α) (T' : State), Stand p l e R s m args below meth c T' locs cells slots → T'.heap = h → G (T'.setTop (g r)))
    (b : (∀ (r : α) (T' : State), Stand p l e R s m args below meth c T' locs cells slots → T'.heap = h → G (T'.setTop (g r))) → G A) : G A := b k
theorem own_ret (X : Stand p l e R s m args below meth c T locs cells slots) (hx : p.tables.exec = Jvm.exec) (hlk : meth.locks = false) {pc : Nat} {Ls : Array Slot} {w : Value} {t : FieldType} {i : Instr} {rest : List Value} (hret : meth.sig.returnType = some t) (hn : narrow t w = w)
    (hi : (i = .ireturn ∧ (t = .int ∨ t = .boolean ∨ t = .byte ∨ t = .char ∨ t = .short) ∧ ∃ z, w = .int z) ∨ (i = .lreturn ∧ t = .long ∧ ∃ z, w = .long z) ∨ (i = .dreturn ∧ t = .double ∧ ∃ z, w = .double z) ∨ (i = .freturn ∧ t = .float ∧ ∃ z, w = .float z) ∨ (i = .areturn ∧ t.isReference = true ∧ w.isRef = true))
    (hd : decode c.code pc = .ok (i, 1)) (hc : cells ≤ C) (hs : slots ≤ S) (hQ : Q (some w) T.heap locs) : own_go p e below s Q C S (T.setTop (mkF m pc Ls (w :: rest))) := by
  obtain ⟨fs, hr, hrun, hended, hW, hsame⟩ := X.leave (v := some w) (fun h => by rw [hret] at h; cases h) hlk
  exact ⟨_, _, retOut X hx hret hn hi hd hr, hrun, hended, _, _, rfl, hQ, ⟨_, rfl⟩, hW, hsame.mono hc hs⟩
theorem own_retV (X : Stand p l e R s m args below meth c T locs cells slots) (hx : p.tables.exec = Jvm.exec) (hlk : meth.locks = false) {pc : Nat} {Ls : Array Slot} (hret : meth.sig.returnType = none)
    (hd : decode c.code pc = .ok (.return_, 1)) (hc : cells ≤ C) (hs : slots ≤ S) (hQ : Q none T.heap locs) : own_go p e below s Q C S (T.setTop (mkF m pc Ls [])) := by
  obtain ⟨fs, hr, hrun, hended, hW, hsame⟩ := X.leave (v := none) (fun _ => rfl) hlk
  exact ⟨_, _, X.returnOut hx hret hd hr, hrun, hended, _, _, rfl, hQ, ⟨_, rfl⟩, hW, hsame.mono hc hs⟩
/-- the same where String constants may have been loaded -/
def own_gw (p : Program) (e : Env) (below : List Frame) (s : State) (Q : Option Value → Heap → List Loc → Prop) (C S : Nat) (A : State) : Prop :=
  ∃ t o, Steps p.tables e below A t ∧ t.status = .running ∧ Ended t below o ∧ ∃ v L, o = .returned v ∧ Q v t.heap L ∧ ReturnedEndW s o t L C S
theorem own_inw (h : own_gw p e below s Q C S A) : ∃ t o, Steps p.tables e below A t ∧ t.status = .running ∧ Ended t below o ∧ ∃ v L, o = .returned v ∧ Q v t.heap L ∧ ReturnedEndW s o t L C S := h
theorem own_ofw (k : ∀ t, Steps p.tables e below B t → Steps p.tables e below A t) (h : own_gw p e below s Q C S B) : own_gw p e below s Q C S A := by
  obtain ⟨t, o, h1, h2⟩ := h
  exact ⟨t, o, k t h1, h2⟩
theorem own_retw {vm0 : Vm} {k0 : Nat} (X : Stand p l e R (s.setVm vm0) m args below meth c T locs cells slots) (hx : p.tables.exec = Jvm.exec) (hlk : meth.locks = false) (hS : s.Since vm0 k0) (hk : k0 ≤ T.heap.size) {pc : Nat} {Ls : Array Slot} {w : Value} {t : FieldType} {i : Instr} {rest : List Value} (hret : meth.sig.returnType = some t) (hn : narrow t w = w)
    (hi : (i = .ireturn ∧ (t = .int ∨ t = .boolean ∨ t = .byte ∨ t = .char ∨ t = .short) ∧ ∃ z, w = .int z) ∨ (i = .lreturn ∧ t = .long ∧ ∃ z, w = .long z) ∨ (i = .dreturn ∧ t = .double ∧ ∃ z, w = .double z) ∨ (i = .freturn ∧ t = .float ∧ ∃ z, w = .float z) ∨ (i = .areturn ∧ t.isReference = true ∧ w.isRef = true))
    (hd : decode c.code pc = .ok (i, 1)) (hc : cells ≤ C) (hs : slots ≤ S) (hQ : Q (some w) T.heap locs) : own_gw p e below s Q C S (T.setTop (mkF m pc Ls (w :: rest))) := by
  obtain ⟨fs, hr, hrun, hended, h1, h2, h3, h4⟩ := X.leaveW hS hk (v := some w) (fun h => by rw [hret] at h; cases h) hlk
  exact ⟨_, _, retOut X hx hret hn hi hd hr, hrun, hended, _, _, rfl, hQ, h1, h2, h3, h4.mono hc hs⟩
theorem own_retVw {vm0 : Vm} {k0 : Nat} (X : Stand p l e R (s.setVm vm0) m args below meth c T locs cells slots) (hx : p.tables.exec = Jvm.exec) (hlk : meth.locks = false) (hS : s.Since vm0 k0) (hk : k0 ≤ T.heap.size) {pc : Nat} {Ls : Array Slot} (hret : meth.sig.returnType = none)
    (hd : decode c.code pc = .ok (.return_, 1)) (hc : cells ≤ C) (hs : slots ≤ S) (hQ : Q none T.heap locs) : own_gw p e below s Q C S (T.setTop (mkF m pc Ls [])) := by
  obtain ⟨fs, hr, hrun, hended, h1, h2, h3, h4⟩ := X.leaveW hS hk (v := none) (fun _ => rfl) hlk
  exact ⟨_, _, X.returnOut hx hret hd hr, hrun, hended, _, _, rfl, hQ, h1, h2, h3, h4.mono hc hs⟩
/-- the same, with what the JVM holds for the constants of EL -/
def own_gc (p : Program) (e : Env) (below : List Frame) (s : State) (Z : State) (EL : List (String × Nat)) (Q : Option Value → Heap → List Loc → Prop) (C S : Nat) (A : State) : Prop :=
  ∃ t o, Steps p.tables e below A t ∧ t.status = .running ∧ Ended t below o ∧ ∃ v L, o = .returned v ∧ Q v t.heap L ∧ CHr Z EL s.vm s.heap t.vm t.heap ∧ ReturnedEndW s o t L C S
variable {Z : State} {EL : List (String × Nat)} {a0 : Array Value}
theorem own_inc (h : own_gc p e below s Z EL Q C S A) : ∃ t o, Steps p.tables e below A t ∧ t.status = .running ∧ Ended t below o ∧ ∃ v L, o = .returned v ∧ Q v t.heap L ∧ CHr Z EL s.vm s.heap t.vm t.heap ∧ ReturnedEndW s o t L C S := h
theorem own_ofc (k : ∀ t, Steps p.tables e below B t → Steps p.tables e below A t) (h : own_gc p e below s Z EL Q C S B) : own_gc p e below s Z EL Q C S A := by
  obtain ⟨t, o, h1, h2⟩ := h
  exact ⟨t, o, k t h1, h2⟩
theorem own_retc {vm0 : Vm} {k0 : Nat} (X : Stand p l e R (s.setVm vm0) m args below meth c T locs cells slots) (hx : p.tables.exec = Jvm.exec) (hlk : meth.locks = false) (hS : s.Since vm0 k0) (hk : k0 ≤ T.heap.size) (hZ : Z.Warmed39 vm0) (hEL : EW Z a0 EL) (H : CHr Z EL s.vm s.heap vm0 T.heap) {pc : Nat} {Ls : Array Slot} {w : Value} {t : FieldType} {i : Instr} {rest : List Value} (hret : meth.sig.returnType = some t) (hn : narrow t w = w)
    (hi : (i = .ireturn ∧ (t = .int ∨ t = .boolean ∨ t = .byte ∨ t = .char ∨ t = .short) ∧ ∃ z, w = .int z) ∨ (i = .lreturn ∧ t = .long ∧ ∃ z, w = .long z) ∨ (i = .dreturn ∧ t = .double ∧ ∃ z, w = .double z) ∨ (i = .freturn ∧ t = .float ∧ ∃ z, w = .float z) ∨ (i = .areturn ∧ t.isReference = true ∧ w.isRef = true))
    (hd : decode c.code pc = .ok (i, 1)) (hc : cells ≤ C) (hs : slots ≤ S) (hQ : Q (some w) T.heap locs) : own_gc p e below s Z EL Q C S (T.setTop (mkF m pc Ls (w :: rest))) := by
  obtain ⟨fs, hr, hrun, hended, h1, h2, h3, h4⟩ := X.leaveW hS hk (v := some w) (fun h => by rw [hret] at h; cases h) hlk
  have q : CHr Z EL s.vm s.heap T.vm T.heap := H.trans (CHv.at X hZ hEL H.1)
  exact ⟨_, _, retOut X hx hret hn hi hd hr, hrun, hended, _, _, rfl, hQ, q, h1, h2, h3, h4.mono hc hs⟩
theorem own_retVc {vm0 : Vm} {k0 : Nat} (X : Stand p l e R (s.setVm vm0) m args below meth c T locs cells slots) (hx : p.tables.exec = Jvm.exec) (hlk : meth.locks = false) (hS : s.Since vm0 k0) (hk : k0 ≤ T.heap.size) (hZ : Z.Warmed39 vm0) (hEL : EW Z a0 EL) (H : CHr Z EL s.vm s.heap vm0 T.heap) {pc : Nat} {Ls : Array Slot} (hret : meth.sig.returnType = none)
    (hd : decode c.code pc = .ok (.return_, 1)) (hc : cells ≤ C) (hs : slots ≤ S) (hQ : Q none T.heap locs) : own_gc p e below s Z EL Q C S (T.setTop (mkF m pc Ls [])) := by
  obtain ⟨fs, hr, hrun, hended, h1, h2, h3, h4⟩ := X.leaveW hS hk (v := none) (fun _ => rfl) hlk
  have q : CHr Z EL s.vm s.heap T.vm T.heap := H.trans (CHv.at X hZ hEL H.1)
  exact ⟨_, _, X.returnOut hx hret hd hr, hrun, hended, _, _, rfl, hQ, q, h1, h2, h3, h4.mono hc hs⟩
open Jvm.Free.SB Jvm.Free.SBG in
/-- a String that has no array yet is no constant's -/
theorem own_safe_null {vm : Vm} {h : Heap} {x : Addr} (hal : Z.vm.Alike vm) (E : Exa Z h x "java/lang/String") (F : Fld Z h x "java/lang/String" "value" "[B" .null) : Safe Z EL vm h x := fun B => by
  obtain ⟨p, -, u, a, -, q, -, F', rfl | rfl⟩ := B
  · obtain ⟨cS, ⟨⟨s1, s2, s3, ⟨cv, kv, iv, s4, s4'⟩, s5, s6, s7, s8, -⟩, -, -⟩, -⟩ := F'
    obtain ⟨cell, cf, k, i, f, h1, h2, h3, -, -, -, h7⟩ := F
    cases (show h[q.sa]? = some q.sC from s1).symm.trans h1
    obtain ⟨kv', z4⟩ := ff_back (U := Wst Z vm h) hal s4
    have e4 := z4.symm.trans h2
    simp only [Option.some.injEq, Prod.mk.injEq] at e4
    rw [e4.2.2.2] at s8
    have := s8.symm.trans h7
    simp at this
  · obtain ⟨cell, k, e1, e2, e3, -, -⟩ := E
    cases (show h[q.sd]? = some q.SA from F'.hd).symm.trans e1
    obtain ⟨cS, -, -, f, -⟩ := F'
    have f' : vm.findClass "[B" = some q.SA.cls := f
    rw [hal.findClass] at f'
    obtain ⟨k1, q1, q2⟩ := Vm.findClass_spec f'
    obtain ⟨k2, q3, q4⟩ := Vm.findClass_spec e2
    cases q1.symm.trans q3
    have := q2.symm.trans q4
    simp at this
theorem own_ex {t : Term} {K : String} (h : (Jvm.Cond.exactly t K).value args s none s [] = some true) : ∃ a, t.eval args s none [] s = some (.ref a) ∧ Exa s s.heap a K := by
  obtain ⟨a, ha⟩ := exa_v h
  exact ⟨a, ha, Exa.start ha h⟩
theorem own_fi {t : Term} {K n d : String} {a : Addr} {k : Int32} (ht : t.eval args s none [] s = some (.ref a)) (h : (Jvm.Cond.eq (Term.field t K n d) (Term.int k)).value args s none s [] = some true) : Fld s s.heap a K n d (.int k) := by
  obtain ⟨x, y, h1, h2, h3, h4⟩ := cmp_v (Or.inl h)
  have e2 := Option.some.inj ((Term.int_eval k).symm.trans h2)
  subst e2
  rw [fld_at ht] at h1
  obtain ⟨z, rfl⟩ := h4
  have hz : s.fieldOf? a K n d = some (.int z) := h1
  have : z = k := by
    have h5 : (Term.field t K n d).eval args s none [] s = some (.int z) := (fld_at ht).trans hz
    simpa [Cond.value, h5, Term.int_eval] using h
  subst this
  exact Fld.start hz
end Own
theorem own_len {s : State} {args : Array Value} {t : Term} {a : Addr} {cl : Cell} {ty : FieldType} {k : Int32} (ht : t.eval args s none [] s = some (.ref a)) (A : Arr s s.heap a cl ty) (h : (Jvm.Cond.eq (Term.length t) (Term.int k)).value args s none s [] = some true) : cl.slots.size.toInt32 = k ∧ cl.slots.size < 2 ^ 31 := by
  obtain ⟨x, y, h1, h2, h3, h4⟩ := cmp_v (Or.inl h)
  have e2 := Option.some.inj ((Term.int_eval k).symm.trans h2)
  subst e2
  obtain ⟨z, rfl⟩ := h4
  have hA : s.arrayAt? a = some cl := A.fin (Vm.Alike.refl _)
  by_cases hl : cl.slots.size < 2 ^ 31
  · have h5 := len_f ht hA hl
    have h6 : cl.slots.size.toInt32 = z := by have := h5.symm.trans h1; simpa using this
    refine ⟨?_, hl⟩
    rw [h6]
    simpa [Cond.value, h1, Term.int_eval] using h
  · simp [Term.eval, ht, hA, hl] at h1
theorem own_el {s : State} {args : Array Value} {t : Term} {a : Addr} {cl : Cell} {ty : FieldType} {k j : Int32} (ht : t.eval args s none [] s = some (.ref a)) (A : Arr s s.heap a cl ty) (h : (Jvm.Cond.eq (Term.elem t (Term.int j)) (Term.int k)).value args s none s [] = some true) : cl.slots[j.toNatClampNeg]? = some (.int k) := by
  obtain ⟨x, y, h1, h2, h3, h4⟩ := cmp_v (Or.inl h)
  have e2 := Option.some.inj ((Term.int_eval k).symm.trans h2)
  subst e2
  obtain ⟨z, rfl⟩ := h4
  have h5 := (elem_in h1 ht (Term.int_eval j) A.1).2
  have : z = k := by simpa [Cond.value, h1, Term.int_eval] using h
  rw [h5, this]
theorem own_er {s : State} {args : Array Value} {t u : Term} {a b : Addr} {cl : Cell} {ty : FieldType} {j : Int32} (ht : t.eval args s none [] s = some (.ref a)) (hu : u.eval args s none [] s = some (.ref b)) (A : Arr s s.heap a cl ty) (h : (Jvm.Cond.eq (Term.elem t (Term.int j)) u).value args s none s [] = some true) : cl.slots[j.toNatClampNeg]? = some (.ref b) := by
  obtain ⟨x, y, h1, h2, h3, h4⟩ := cmp_v (Or.inl h)
  have e2 := Option.some.inj (hu.symm.trans h2)
  subst e2
  have h5 := (elem_in h1 ht (Term.int_eval j) A.1).2
  rw [h5]
  cases x <;> simp [Cond.value, h1, hu] at h ⊢
  exact h
theorem own_fr {s : State} {args : Array Value} {t : Term} {a b : Addr} {K n d : String} (ht : t.eval args s none [] s = some (.ref a)) (hf : (Term.field t K n d).eval args s none [] s = some (.ref b)) : Fld s s.heap a K n d (.ref b) := Fld.start ((fld_at ht).symm.trans hf)
def own_str (Z : State) (h : Heap) (x : Addr) (cs : List Int32) : Prop := ∃ (t : Addr) (kb : ClassId) (N : Int32) (vs : List Value), Exa Z h x "java/lang/String" ∧ Fld Z h x "java/lang/String" "value" "[B" (.ref t) ∧ Fld Z h x "java/lang/String" "coder" "B" (.int 0) ∧ Arv Z h t kb .byte N vs (.int 0) ∧ StrChars.Road.CodA cs 0 N vs
theorem own_str.ext {Z : State} {h h' : Heap} {x : Addr} {cs : List Int32} (S : own_str Z h x cs) (E : Ext h h') : own_str Z h' x cs := by
  obtain ⟨t, kb, N, vs, a, b, c, d, e⟩ := S
  exact ⟨t, kb, N, vs, a.ext E, b.ext E, c.ext E, d.ext E, e⟩
theorem own_str.keep {Z : State} {h h' : Heap} {x : Addr} {cs : List Int32} (S : own_str Z h x cs) (K : Keep h h' []) (q : x ∉ ([] : List Addr)) : own_str Z h' x cs := by
  obtain ⟨t, kb, N, vs, a, b, c, d, e⟩ := S
  exact ⟨t, kb, N, vs, a.keep K, b.keep K nin0, c.keep K nin0, d.keep K nin0, e⟩
theorem own_mod3 (x : Int32) : (x &&& 2147483647) % 3 = 0 ∨ (x &&& 2147483647) % 3 = 1 ∨ (x &&& 2147483647) % 3 = 2 := by
  have e1 : (x &&& 2147483647).toInt = x.toInt % 2 ^ 31 := Jvm.Kit.i32_mask x 2147483647 (k := 31) (by decide) (by decide)
  have e2 : ((x &&& 2147483647) % 3).toInt = (x &&& 2147483647).toInt.tmod 3 := Int32.toInt_mod _ _
  rw [e1] at e2
  have e3 : (x.toInt % 2 ^ 31).tmod 3 = (x.toInt % 2 ^ 31) % 3 := Int.tmod_eq_emod_of_nonneg (by omega)
  rw [e3] at e2
  simp only [← Int32.toInt_inj, show (0 : Int32).toInt = 0 from rfl, show (1 : Int32).toInt = 1 from rfl, show (2 : Int32).toInt = 2 from rfl]
  omega
theorem own_fitc {Z : State} {h : Heap} {a : Addr} {cl : Cell} {ty : FieldType} {vs : List Value} {d : Value} (A : Arr Z h a cl ty) (H : Has cl vs d) (G : ∀ i, i < cl.slots.size → fits ty (vs.getD i d) = true) : FitC Z cl := fun i v hv => by
  have hi := (Array.getElem?_eq_some_iff.mp hv).1
  have e1 : v = vs.getD i d := Option.some.inj (hv.symm.trans (H i hi))
  obtain ⟨hs, k, hk, comp, hkind⟩ := A.2.1
  have e : Z.slotType? cl.cls cl.vm i = some ty := by
    cases hq : cl.vm <;> first | exact absurd hq (hs _) | simp [State.slotType?, hk, hkind]
  have e' : Z.slotType? cl.cls .none i = some ty := by simp [State.slotType?, hk, hkind]
  rw [e1]
  first | simpa [State.fitsSlot, e'] using G i hi | simpa [State.fitsSlot, e] using G i hi
theorem ef_rmV (m : MethodId)  : entryFrame m #[] 0 = mkF m 0 #[] [] := by first | (simp [entryFrame, mkF, argsToLocals, Value.category]; done) | rfl
theorem pn_0 : plainName "com/example/bo3/bo3/store/RunStatus" = true := by first | (simp [plainName, overriddenIn]; done) | decide +kernel
theorem d8_0 : decode prog_53_method_1_code 0 = .ok (.getstatic 13, 3) := by decide +kernel
theorem d8_3 : decode prog_53_method_1_code 3 = .ok (.invokevirtual 17, 3) := by decide +kernel
theorem d8_6 : decode prog_53_method_1_code 6 = .ok (.checkcast 18, 3) := by decide +kernel
theorem d8_9 : decode prog_53_method_1_code 9 = .ok (.areturn, 1) := by decide +kernel
def Q_rmV (Z : State) (va : Addr) (k : ClassId) (w0 : Addr) (w1 : Addr) (w2 : Addr) (h0 : Heap) (n0 : Nat) (v : Option Value) (h : Heap) (L : List Loc) : Prop := ∃ b : Addr, v = some (.ref b) ∧ Fr n0 L ∧ Keep h0 h [] ∧ h0.size ≤ b ∧ Arv Z h b k (.object "com/example/bo3/bo3/store/RunStatus") (3 : Int32) [.ref w0, .ref w1, .ref w2] .null
set_option maxRecDepth 65536 in
set_option maxHeartbeats 40000000 in
theorem rmV (l : Launch) (Z : State) (a0 : Array Value) (hw : ∀ d ∈ tables_1, d.before a0 Z = true) (ws : List Jvm.Cond) (va : Addr) (k : ClassId) (w0 : Addr) (w1 : Addr) (w2 : Addr) (h0 : Heap) (n0 : Nat) (XO0 : Old Z n0 h0) (S_VA : Sta Z Z.heap "com/example/bo3/bo3/store/RunStatus" "$VALUES" "[Lcom/example/bo3/bo3/store/RunStatus;" (.ref va)) (E_va : Exa Z Z.heap va "[Lcom/example/bo3/bo3/store/RunStatus;") (V_va : Arv Z Z.heap va k (.object "com/example/bo3/bo3/store/RunStatus") (3 : Int32) [.ref w0, .ref w1, .ref w2] .null) :
    MetFree l (⟨"com/example/bo3/bo3/store/RunStatus", "values", "()[Lcom/example/bo3/bo3/store/RunStatus;"⟩ : MethodName) (head1 (Jvm.Cond.code (⟨"com/example/bo3/bo3/store/RunStatus", "values", "()[Lcom/example/bo3/bo3/store/RunStatus;"⟩ : MethodName) prog_53_method_1_code 0 (some (.array (.object "com/example/bo3/bo3/store/RunStatus"))) :: ws) ({ frames := 1, cells := 1, slots := 3, locals := 14 } : Room)) (fun zz_ U => zz_ = #[] ∧ Z.Warmed39 U.vm ∧ U.heap = h0) (fun _ _ _ _ _ => True) (fun _ U o U' => ∃ v L, o = .returned v ∧ Q_rmV Z va k w0 w1 w2 h0 n0 v U'.heap L ∧ FrameEnd U o U' L ({ frames := 1, cells := 1, slots := 3, locals := 14 } : Room).cells ({ frames := 1, cells := 1, slots := 3, locals := 14 } : Room).slots) := by
  refine MetFree.of_bodySF (plainFor_of_name pn_0) hisR ?_
  intro p e s m args below meth c s₁ Bd hml0 hP hK
  obtain ⟨rfl, hZ, hh⟩ := hP
  have hx := Bd.exec
  have hby := Bd.bytes
  have hlk := Bd.notSynchronized
  have hW : ∀ (i : Nat) (d : Jvm.Cond), tables_1[i]? = some d → d.before a0 Z = true := fun i d h => hw d (List.mem_of_getElem? h)
  have hml : c.maxLocals = 0 := hml0
  have hown : s.vm.findClass "com/example/bo3/bo3/store/RunStatus" = some m.cls := findClass_of_methodNamed Bd.named
  have hnm := (name_of_methodNamed Bd.named Bd.method).1
  have X0 : Stand p l e ({ frames := 1, cells := 1, slots := 3, locals := 14 } : Room) s m #[] below meth c s₁ [] 0 0 := Stand.of_body Bd
  have e0 : s₁.heap = h0 := by rw [← hh, Bd.state]; rfl
  have N0 := Fr.nil n0
  refine own_in ?_
  refine own_of (fun t k => castTop (ef_rmV m ) k) ?_
  show own_go p e below s _ _ _ (s₁.setTop (mkF m 0 #[] []))
  obtain ⟨T1, X1, e1, st1⟩ := getS2 X0 hx hZ hown (host := "") (Or.inl (hW 40 _ rfl)) Via.refl e0 (S_VA.ext XO0.2) (g := (mkF m 0 #[] [])) rfl (hb hby d8_0)
  refine own_of st1 ?_
  show own_go p e below s _ _ _ (T1.setTop (mkF m 3 #[] [(.ref va)]))
  have K0 : Keep h0 h0 [] := Keep.refl h0 []
  obtain ⟨cl2, Ar2, q2, S2, Ng2, H2, G2⟩ := id V_va
  have Fc2 : FitC Z cl2 := own_fitc Ar2 H2 G2
  obtain ⟨T2, h2, X2, e2, E2, A2, Ex2, st2⟩ := cloneA X1 hx hZ hown (ad := "[Lcom/example/bo3/bo3/store/RunStatus;") (hW 42 _ rfl) (hW 43 _ rfl) (hW 47 _ rfl) (hW 45 _ rfl) (hW 46 _ rfl) (hW 48 _ rfl) e1 (Ar2.ext XO0.2) (E_va.ext XO0.2) Fc2 (g := (mkF m 3 #[] [(.ref va)])) rfl (by rw [hml]; rfl) rfl (hb hby d8_3) (by decide) (W := 0) (cap := 3) (by show 2 * 0 + _ ≤ _; exact Nat.le_of_eq rfl) (by decide) (by rw [S2]; decide) (by decide) (by decide)
  obtain ⟨b2, g2⟩ : ∃ z, z = h0.size := ⟨_, rfl⟩
  rw [← g2] at A2 Ex2 st2
  refine own_of st2 ?_
  have lt2 : b2 < h2.size := A2.lt
  have sz2 : h0.size ≤ h2.size := E2.1
  have O2 : Old Z n0 h2 := XO0.ext E2
  have z2 : n0 ≤ b2 := by have := XO0.1 ▸ XO0.2.1; omega
  have K2 : Keep h0 h2 [] := K0.ext E2
  have V2 : Arv Z h2 b2 k (.object "com/example/bo3/bo3/store/RunStatus") (3 : Int32) [.ref w0, .ref w1, .ref w2] .null := ⟨_, A2, q2, S2, Ng2, H2, G2⟩
  show own_go p e below s _ _ _ (T2.setTop (mkF m 6 #[] [(.ref b2)]))
  obtain ⟨T3, X3, e3, st3⟩ := castY X2 hx hZ hown (hW 52 _ rfl) e2 (Ins.self Ex2) (g := (mkF m 6 #[] [(.ref b2)])) rfl rfl (hb hby d8_6)
  refine own_of st3 ?_
  show own_go p e below s _ _ _ (T3.setTop (mkF m 9 #[] [(.ref b2)]))
  refine own_ret X3 hx hlk Bd.returns rfl (Or.inr (Or.inr (Or.inr (Or.inr ⟨rfl, rfl, rfl⟩)))) (hb hby d8_9) (by decide) (by decide) ?_
  rw [e3]
  exact ⟨b2, rfl, N0, K2, by omega, V2⟩
theorem ef_rmO_0 (m : MethodId) (x0 : Addr) : entryFrame m #[(.ref x0)] 5 = mkF m 0 #[.val (.ref x0), .unset, .unset, .unset, .unset] [] := by first | (simp [entryFrame, mkF, argsToLocals, Value.category]; done) | rfl
theorem d7_0 : decode prog_53_method_5_code 0 = .ok (.invokestatic 52, 3) := by decide +kernel
theorem pd_0 : parseMethodDescriptor "()[Lcom/example/bo3/bo3/store/RunStatus;" = some ⟨[], some (.array (.object "com/example/bo3/bo3/store/RunStatus"))⟩ := by decide +kernel
theorem d7_3 : decode prog_53_method_5_code 3 = .ok (.astore_n 1, 1) := by decide +kernel
theorem d7_4 : decode prog_53_method_5_code 4 = .ok (.aload_n 1, 1) := by decide +kernel
theorem d7_5 : decode prog_53_method_5_code 5 = .ok (.arraylength, 1) := by decide +kernel
theorem d7_6 : decode prog_53_method_5_code 6 = .ok (.istore_n 2, 1) := by decide +kernel
theorem d7_7 : decode prog_53_method_5_code 7 = .ok (.iconst 0, 1) := by decide +kernel
theorem d7_8 : decode prog_53_method_5_code 8 = .ok (.istore_n 3, 1) := by decide +kernel
theorem d7_9 : decode prog_53_method_5_code 9 = .ok (.iload_n 3, 1) := by decide +kernel
theorem d7_10 : decode prog_53_method_5_code 10 = .ok (.iload_n 2, 1) := by decide +kernel
theorem d7_11 : decode prog_53_method_5_code 11 = .ok (.if_icmp .ge 29, 3) := by decide +kernel
theorem d7_14 : decode prog_53_method_5_code 14 = .ok (.aload_n 1, 1) := by decide +kernel
theorem d7_15 : decode prog_53_method_5_code 15 = .ok (.iload_n 3, 1) := by decide +kernel
theorem d7_16 : decode prog_53_method_5_code 16 = .ok (.aaload, 1) := by decide +kernel
theorem d7_17 : decode prog_53_method_5_code 17 = .ok (.astore 4, 2) := by decide +kernel
theorem d7_19 : decode prog_53_method_5_code 19 = .ok (.aload 4, 2) := by decide +kernel
theorem d7_21 : decode prog_53_method_5_code 21 = .ok (.getfield 48, 3) := by decide +kernel
theorem d7_24 : decode prog_53_method_5_code 24 = .ok (.aload_n 0, 1) := by decide +kernel
theorem d7_25 : decode prog_53_method_5_code 25 = .ok (.invokevirtual 56, 3) := by decide +kernel
theorem pd_1 : parseMethodDescriptor "(Ljava/lang/Object;)Z" = some ⟨[(.object "java/lang/Object")], some .boolean⟩ := by decide +kernel
theorem d7_28 : decode prog_53_method_5_code 28 = .ok (.ifCond .eq 6, 3) := by decide +kernel
theorem d7_31 : decode prog_53_method_5_code 31 = .ok (.aload 4, 2) := by decide +kernel
theorem d7_33 : decode prog_53_method_5_code 33 = .ok (.areturn, 1) := by decide +kernel
def Q_rmO_0 (Z : State) (va : Addr) (k : ClassId) (w0 : Addr) (w1 : Addr) (w2 : Addr) (c0 : Addr) (c1 : Addr) (c2 : Addr) (G1 : Int32) (x : Addr) (h0 : Heap) (n0 : Nat) (v : Option Value) (h : Heap) (L : List Loc) : Prop := v = some (.ref w0) ∧ Fr n0 L ∧ Keep h0 h []
set_option maxRecDepth 65536 in
set_option maxHeartbeats 40000000 in
theorem rmO_0 (l : Launch) (Z : State) (a0 : Array Value) (hw : ∀ d ∈ tables_1, d.before a0 Z = true) (ws : List Jvm.Cond) (va : Addr) (k : ClassId) (w0 : Addr) (w1 : Addr) (w2 : Addr) (c0 : Addr) (c1 : Addr) (c2 : Addr) (G1 : Int32) (x : Addr) (h0 : Heap) (n0 : Nat) (XO0 : Old Z n0 h0) (S_VA : Sta Z Z.heap "com/example/bo3/bo3/store/RunStatus" "$VALUES" "[Lcom/example/bo3/bo3/store/RunStatus;" (.ref va)) (E_va : Exa Z Z.heap va "[Lcom/example/bo3/bo3/store/RunStatus;") (V_va : Arv Z Z.heap va k (.object "com/example/bo3/bo3/store/RunStatus") (3 : Int32) [.ref w0, .ref w1, .ref w2] .null) (Fc0 : Fld Z Z.heap w0 "com/example/bo3/bo3/store/RunStatus" "columnValue" "Ljava/lang/String;" (.ref c0)) (Fc1 : Fld Z Z.heap w1 "com/example/bo3/bo3/store/RunStatus" "columnValue" "Ljava/lang/String;" (.ref c1)) (Fc2 : Fld Z Z.heap w2 "com/example/bo3/bo3/store/RunStatus" "columnValue" "Ljava/lang/String;" (.ref c2)) (Sc0 : own_str Z Z.heap c0 ([114, 117, 110, 110, 105, 110, 103] : List Int32)) (Sc1 : own_str Z Z.heap c1 ([99, 111, 109, 112, 108, 101, 116, 101, 100] : List Int32)) (Sc2 : own_str Z Z.heap c2 ([102, 97, 105, 108, 101, 100] : List Int32)) (O2 : Sta Z Z.heap "java/lang/String" "COMPACT_STRINGS" "Z" (.int G1)) (P5 : ¬ (G1 = (0 : Int32))) (Sx : own_str Z h0 x ([114, 117, 110, 110, 105, 110, 103] : List Int32)) :
    MetFree l (⟨"com/example/bo3/bo3/store/RunStatus", "ofColumnValue", "(Ljava/lang/String;)Lcom/example/bo3/bo3/store/RunStatus;"⟩ : MethodName) (head1 (Jvm.Cond.code (⟨"com/example/bo3/bo3/store/RunStatus", "ofColumnValue", "(Ljava/lang/String;)Lcom/example/bo3/bo3/store/RunStatus;"⟩ : MethodName) prog_53_method_5_code 5 (some (.object "com/example/bo3/bo3/store/RunStatus")) :: ws) ({ frames := 2, cells := 1, slots := 3, locals := 28 } : Room)) (fun zz_ U => zz_ = #[(.ref x)] ∧ Z.Warmed39 U.vm ∧ U.heap = h0) (fun _ _ _ _ _ => True) (fun _ U o U' => ∃ v L, o = .returned v ∧ Q_rmO_0 Z va k w0 w1 w2 c0 c1 c2 G1 x h0 n0 v U'.heap L ∧ FrameEnd U o U' L ({ frames := 2, cells := 1, slots := 3, locals := 28 } : Room).cells ({ frames := 2, cells := 1, slots := 3, locals := 28 } : Room).slots) := by
  refine MetFree.of_bodySF (plainFor_of_name pn_0) hisR ?_
  intro p e s m args below meth c s₁ Bd hml0 hP hK
  obtain ⟨rfl, hZ, hh⟩ := hP
  have hx := Bd.exec
  have hby := Bd.bytes
  have hlk := Bd.notSynchronized
  have hW : ∀ (i : Nat) (d : Jvm.Cond), tables_1[i]? = some d → d.before a0 Z = true := fun i d h => hw d (List.mem_of_getElem? h)
  have hml : c.maxLocals = 5 := hml0
  have hown : s.vm.findClass "com/example/bo3/bo3/store/RunStatus" = some m.cls := findClass_of_methodNamed Bd.named
  have hnm := (name_of_methodNamed Bd.named Bd.method).1
  have X0 : Stand p l e ({ frames := 2, cells := 1, slots := 3, locals := 28 } : Room) s m #[(.ref x)] below meth c s₁ [] 0 0 := Stand.of_body Bd
  have e0 : s₁.heap = h0 := by rw [← hh, Bd.state]; rfl
  have N0 := Fr.nil n0
  refine own_in ?_
  refine own_of (fun t k => castTop (ef_rmO_0 m x) k) ?_
  show own_go p e below s _ _ _ (s₁.setTop (mkF m 0 #[.val (.ref x), .unset, .unset, .unset, .unset] []))
  have heq : ∀ d ∈ StrChars.Road.wordsEq, d.before a0 Z = true := fun d hd => hw d ((by decide +kernel : ∀ d ∈ StrChars.Road.wordsEq, d ∈ tables_1) d hd)
  have K0 : Keep h0 h0 [] := Keep.refl h0 []
  obtain ⟨_, _, ⟨T1, L1, k1, n1⟩, -, X1, ⟨Lc1, hQ1, l1, y1, z1⟩, st1⟩ := Jvm.LawKit.callS X0 hx (y := (⟨"com/example/bo3/bo3/store/RunStatus", "values", "()[Lcom/example/bo3/bo3/store/RunStatus;"⟩ : MethodName)) hown (mvT hZ (hW 37 _ rfl)) (mvT hZ (hW 38 _ rfl)) (mvT hZ (hW 2 _ rfl)) (mvT hZ (hW 39 _ rfl)) (by decide) (backOf (W := 0) (rmV l Z a0 hw [] va k w0 w1 w2 h0 n0 XO0 S_VA E_va V_va) hZ (hW 39 _ rfl) (hW 2 _ rfl) (by decide) (by decide)) (g := (mkF m 0 #[.val (.ref x), .unset, .unset, .unset, .unset] [])) rfl (by rw [hml]; rfl) (argsL := []) (rest := []) (lenOf pd_0 rfl) rfl (by show 2 * 0 + _ ≤ _; exact Nat.le_of_eq rfl) (hb hby d7_0) (fun _ _ => ⟨rfl, e0, (by decide : 0 + 1 ≤ _), (by decide : 0 + 3 ≤ _)⟩)
  dsimp only [Pt.U, Pt.locs, Pt.cells, Pt.slots] at X1 l1 y1 z1 st1 hQ1
  subst l1 y1 z1
  obtain ⟨ar1, rfl, Nq1, Kp1, gs1, Va1⟩ := hQ1
  have N1 := Fr.app N0 Nq1
  refine own_of st1 ?_
  have sz1 : h0.size ≤ T1.heap.size := Kp1.1
  have O1 : Old Z n0 T1.heap := XO0.keep Kp1 (by simp only [List.mem_cons, List.not_mem_nil, or_false, forall_eq, false_implies, implies_true])
  have K1 : Keep h0 T1.heap [] := K0.trans Kp1 (by simp only [List.mem_cons, List.not_mem_nil, or_false, forall_eq, false_implies, implies_true])
  show own_go p e below s _ _ _ (T1.setTop (mkF m 3 #[.val (.ref x), .unset, .unset, .unset, .unset] [(.ref ar1)]))
  refine own_of (fun t => XS.astoreN X1.here hx rfl (hb hby d7_3) rfl rfl (l' := #[.val (.ref x), .val (.ref ar1), .unset, .unset, .unset]) rfl) ?_
  show own_go p e below s _ _ _ (T1.setTop (mkF m 4 #[.val (.ref x), .val (.ref ar1), .unset, .unset, .unset] []))
  refine own_of (fun t => XS.aloadN X1.here hx rfl (hb hby d7_4) rfl rfl) ?_
  show own_go p e below s _ _ _ (T1.setTop (mkF m 5 #[.val (.ref x), .val (.ref ar1), .unset, .unset, .unset] [(.ref ar1)]))
  obtain ⟨cl2, Ar2, q2, S2, Ng2, H2, G2⟩ := id Va1
  refine own_of (fun t kk => X1.arraylength hx Ar2.1 (State.isArrayOf_alike hZ.alike Ar2.2.1) (g := (mkF m 5 #[.val (.ref x), .val (.ref ar1), .unset, .unset, .unset] [(.ref ar1)])) rfl rfl (hb hby d7_5) _ (by rw [len_of S2 Ng2]; exact kk)) ?_
  show own_go p e below s _ _ _ (T1.setTop (mkF m 6 #[.val (.ref x), .val (.ref ar1), .unset, .unset, .unset] [(.int (3 : Int32))]))
  refine own_of (fun t => XS.istoreN X1.here hx rfl (hb hby d7_6) rfl (l' := #[.val (.ref x), .val (.ref ar1), .val (.int (3 : Int32)), .unset, .unset]) rfl) ?_
  show own_go p e below s _ _ _ (T1.setTop (mkF m 7 #[.val (.ref x), .val (.ref ar1), .val (.int (3 : Int32)), .unset, .unset] []))
  refine own_of (fun t => XS.iconst X1.here hx rfl (hb hby d7_7)) ?_
  show own_go p e below s _ _ _ (T1.setTop (mkF m 8 #[.val (.ref x), .val (.ref ar1), .val (.int (3 : Int32)), .unset, .unset] [(.int (0 : Int32))]))
  refine own_of (fun t => XS.istoreN X1.here hx rfl (hb hby d7_8) rfl (l' := #[.val (.ref x), .val (.ref ar1), .val (.int (3 : Int32)), .val (.int (0 : Int32)), .unset]) rfl) ?_
  show own_go p e below s _ _ _ (T1.setTop (mkF m 9 #[.val (.ref x), .val (.ref ar1), .val (.int (3 : Int32)), .val (.int (0 : Int32)), .unset] []))
  refine own_of (fun t => XS.iloadN X1.here hx rfl (hb hby d7_9) rfl) ?_
  show own_go p e below s _ _ _ (T1.setTop (mkF m 10 #[.val (.ref x), .val (.ref ar1), .val (.int (3 : Int32)), .val (.int (0 : Int32)), .unset] [(.int (0 : Int32))]))
  refine own_of (fun t => XS.iloadN X1.here hx rfl (hb hby d7_10) rfl) ?_
  show own_go p e below s _ _ _ (T1.setTop (mkF m 11 #[.val (.ref x), .val (.ref ar1), .val (.int (3 : Int32)), .val (.int (0 : Int32)), .unset] [(.int (3 : Int32)), (.int (0 : Int32))]))
  have hb11_3 : (0 : Int32) < (3 : Int32) := by decide
  refine own_of (fun t => XS.icmpNo X1.here hx rfl (hb hby d7_11) rfl (tlt hb11_3).2.1) ?_
  show own_go p e below s _ _ _ (T1.setTop (mkF m 14 #[.val (.ref x), .val (.ref ar1), .val (.int (3 : Int32)), .val (.int (0 : Int32)), .unset] []))
  refine own_of (fun t => XS.aloadN X1.here hx rfl (hb hby d7_14) rfl rfl) ?_
  show own_go p e below s _ _ _ (T1.setTop (mkF m 15 #[.val (.ref x), .val (.ref ar1), .val (.int (3 : Int32)), .val (.int (0 : Int32)), .unset] [(.ref ar1)]))
  refine own_of (fun t => XS.iloadN X1.here hx rfl (hb hby d7_15) rfl) ?_
  show own_go p e below s _ _ _ (T1.setTop (mkF m 16 #[.val (.ref x), .val (.ref ar1), .val (.int (3 : Int32)), .val (.int (0 : Int32)), .unset] [(.int (0 : Int32)), (.ref ar1)]))
  obtain ⟨cl4, Ar4, q4, S4, Ng4, H4, G4⟩ := id Va1
  have hin4 : ¬ ((0 : Int32) < 0 ∨ cl4.slots.size ≤ ((0 : Int32)).toNatClampNeg) := inb_of S4 ⟨by decide, by decide⟩
  have hat4 : cl4.slots[((0 : Int32)).toNatClampNeg]? = some (.ref w0) := H4 0 (by rw [S4]; decide)
  refine own_of (fun t => X1.aaload hx (j := (0 : Int32)) (v := (.ref w0)) Ar4.1 (State.isArrayOf_alike hZ.alike Ar4.2.1) rfl Ar4.2.2 hin4 hat4 (g := (mkF m 16 #[.val (.ref x), .val (.ref ar1), .val (.int (3 : Int32)), .val (.int (0 : Int32)), .unset] [(.int (0 : Int32)), (.ref ar1)])) rfl rfl (hb hby d7_16) _) ?_
  show own_go p e below s _ _ _ (T1.setTop (mkF m 17 #[.val (.ref x), .val (.ref ar1), .val (.int (3 : Int32)), .val (.int (0 : Int32)), .unset] [(.ref w0)]))
  refine own_of (fun t => XS.astore X1.here hx rfl (hb hby d7_17) rfl rfl (l' := #[.val (.ref x), .val (.ref ar1), .val (.int (3 : Int32)), .val (.int (0 : Int32)), .val (.ref w0)]) rfl) ?_
  show own_go p e below s _ _ _ (T1.setTop (mkF m 19 #[.val (.ref x), .val (.ref ar1), .val (.int (3 : Int32)), .val (.int (0 : Int32)), .val (.ref w0)] []))
  refine own_of (fun t => XS.aload X1.here hx rfl (hb hby d7_19) rfl rfl) ?_
  show own_go p e below s _ _ _ (T1.setTop (mkF m 21 #[.val (.ref x), .val (.ref ar1), .val (.int (3 : Int32)), .val (.int (0 : Int32)), .val (.ref w0)] [(.ref w0)]))
  have f5 : Fld Z T1.heap w0 "com/example/bo3/bo3/store/RunStatus" "columnValue" "Ljava/lang/String;" (.ref c0) := Fc0.ext O1.2
  obtain ⟨T6, X6, e6, st6⟩ := getF X1 hx hZ hown (host := "") (Or.inl (hW 54 _ rfl)) Via.refl rfl f5 (g := (mkF m 21 #[.val (.ref x), .val (.ref ar1), .val (.int (3 : Int32)), .val (.int (0 : Int32)), .val (.ref w0)] [(.ref w0)])) rfl rfl (hb hby d7_21)
  refine own_of st6 ?_
  show own_go p e below s _ _ _ (T6.setTop (mkF m 24 #[.val (.ref x), .val (.ref ar1), .val (.int (3 : Int32)), .val (.int (0 : Int32)), .val (.ref w0)] [(.ref c0)]))
  refine own_of (fun t => XS.aloadN X6.here hx rfl (hb hby d7_24) rfl rfl) ?_
  show own_go p e below s _ _ _ (T6.setTop (mkF m 25 #[.val (.ref x), .val (.ref ar1), .val (.int (3 : Int32)), .val (.int (0 : Int32)), .val (.ref w0)] [(.ref x), (.ref c0)]))
  have f7 : own_str Z T1.heap c0 ([114, 117, 110, 110, 105, 110, 103] : List Int32) := Sc0.ext O1.2
  have f8 : own_str Z T1.heap x ([114, 117, 110, 110, 105, 110, 103] : List Int32) := (Sx.keep Kp1 nin0)
  obtain ⟨t9a, kb9a, N9a, vs9a, Ea9, Va9, Ca9, Ka9, cd9a⟩ := id f7
  obtain ⟨t9b, kb9b, N9b, vs9b, Eb9, Vb9, Cb9, Kb9, cd9b⟩ := id f8
  obtain ⟨cq10, kq10, q10a, q10b, q10c⟩ := isOf hZ e6 Ea9
  obtain ⟨_, _, ⟨T10, L10, k10, n10⟩, -, X10, ⟨Lc10, hQ10, l10, y10, z10⟩, st10⟩ := X6.virtualBack hx (y := (⟨"java/lang/String", "equals", "(Ljava/lang/Object;)Z"⟩ : MethodName)) (z := (⟨"java/lang/String", "equals", "(Ljava/lang/Object;)Z"⟩ : MethodName)) hown (mvT hZ (hW 56 _ rfl)) (mvT hZ (hW 57 _ rfl)) (notFace_of_selects (args := #[]) (mvT hZ (hW 59 _ rfl))) (mvT hZ (hW 59 _ rfl)) (mvT hZ (hW 58 _ rfl)) (by decide) (StrChars.Road.eqW (W := 0) hZ heq (kI := 4) (hW 6 _ rfl) Ea9 Va9 Ca9 Ka9 cd9a (by decide) (by decide) Eb9 Vb9 Cb9 Kb9 cd9b (by decide) (by decide) (O2.ext O1.2) P5 (by decide) (by decide)) q10a q10c (g := (mkF m 25 #[.val (.ref x), .val (.ref ar1), .val (.int (3 : Int32)), .val (.int (0 : Int32)), .val (.ref w0)] [(.ref x), (.ref c0)])) rfl (by rw [hml]; rfl) (Steps.refl _) (argsL := [(.ref x)]) (rest := []) (lenOf pd_1 rfl) rfl (by show 2 * 0 + _ ≤ _; exact Nat.le_of_eq rfl) (hb hby d7_25) (fun _ _ => ⟨rfl, e6, (by decide : 1 + 0 ≤ _), (by decide : 3 + 0 ≤ _)⟩)
  dsimp only [Pt.U, Pt.locs, Pt.cells, Pt.slots] at X10 l10 y10 z10 st10 hQ10
  subst l10 y10 z10
  obtain ⟨hc10, rfl, eh10⟩ := hQ10
  have hv10 : _ = some (Value.int 1) := hc10.elim (fun q => q.1) (fun q => absurd rfl q.2)
  subst hv10
  have Nq10 : Fr n0 ([] : List Loc) := Fr.nil n0
  have N10 := Fr.app N1 Nq10
  refine own_of (fun t k => st10.trans k) ?_
  show own_go p e below s _ _ _ (T10.setTop (mkF m 28 #[.val (.ref x), .val (.ref ar1), .val (.int (3 : Int32)), .val (.int (0 : Int32)), .val (.ref w0)] [(.int (1 : Int32))]))
  have hb28_11 : ¬ ((1 : Int32) = (0 : Int32)) := by decide
  refine own_of (fun t => XS.ifNo X10.here hx rfl (hb hby d7_28) rfl ((if0 _ _).trans (feq hb28_11).1)) ?_
  show own_go p e below s _ _ _ (T10.setTop (mkF m 31 #[.val (.ref x), .val (.ref ar1), .val (.int (3 : Int32)), .val (.int (0 : Int32)), .val (.ref w0)] []))
  refine own_of (fun t => XS.aload X10.here hx rfl (hb hby d7_31) rfl rfl) ?_
  show own_go p e below s _ _ _ (T10.setTop (mkF m 33 #[.val (.ref x), .val (.ref ar1), .val (.int (3 : Int32)), .val (.int (0 : Int32)), .val (.ref w0)] [(.ref w0)]))
  refine own_ret X10 hx hlk Bd.returns rfl (Or.inr (Or.inr (Or.inr (Or.inr ⟨rfl, rfl, rfl⟩)))) (hb hby d7_33) (by decide) (by decide) ?_
  rw [eh10]
  exact ⟨rfl, N10, K1⟩
theorem ef_rmO_1 (m : MethodId) (x0 : Addr) : entryFrame m #[(.ref x0)] 5 = mkF m 0 #[.val (.ref x0), .unset, .unset, .unset, .unset] [] := by first | (simp [entryFrame, mkF, argsToLocals, Value.category]; done) | rfl
theorem d7_34 : decode prog_53_method_5_code 34 = .ok (.iinc 3 1, 3) := by decide +kernel
theorem d7_37 : decode prog_53_method_5_code 37 = .ok (.goto (-28), 3) := by decide +kernel
def Q_rmO_1 (Z : State) (va : Addr) (k : ClassId) (w0 : Addr) (w1 : Addr) (w2 : Addr) (c0 : Addr) (c1 : Addr) (c2 : Addr) (G1 : Int32) (x : Addr) (h0 : Heap) (n0 : Nat) (v : Option Value) (h : Heap) (L : List Loc) : Prop := v = some (.ref w1) ∧ Fr n0 L ∧ Keep h0 h []
set_option maxRecDepth 65536 in
set_option maxHeartbeats 40000000 in
theorem rmO_1 (l : Launch) (Z : State) (a0 : Array Value) (hw : ∀ d ∈ tables_1, d.before a0 Z = true) (ws : List Jvm.Cond) (va : Addr) (k : ClassId) (w0 : Addr) (w1 : Addr) (w2 : Addr) (c0 : Addr) (c1 : Addr) (c2 : Addr) (G1 : Int32) (x : Addr) (h0 : Heap) (n0 : Nat) (XO0 : Old Z n0 h0) (S_VA : Sta Z Z.heap "com/example/bo3/bo3/store/RunStatus" "$VALUES" "[Lcom/example/bo3/bo3/store/RunStatus;" (.ref va)) (E_va : Exa Z Z.heap va "[Lcom/example/bo3/bo3/store/RunStatus;") (V_va : Arv Z Z.heap va k (.object "com/example/bo3/bo3/store/RunStatus") (3 : Int32) [.ref w0, .ref w1, .ref w2] .null) (Fc0 : Fld Z Z.heap w0 "com/example/bo3/bo3/store/RunStatus" "columnValue" "Ljava/lang/String;" (.ref c0)) (Fc1 : Fld Z Z.heap w1 "com/example/bo3/bo3/store/RunStatus" "columnValue" "Ljava/lang/String;" (.ref c1)) (Fc2 : Fld Z Z.heap w2 "com/example/bo3/bo3/store/RunStatus" "columnValue" "Ljava/lang/String;" (.ref c2)) (Sc0 : own_str Z Z.heap c0 ([114, 117, 110, 110, 105, 110, 103] : List Int32)) (Sc1 : own_str Z Z.heap c1 ([99, 111, 109, 112, 108, 101, 116, 101, 100] : List Int32)) (Sc2 : own_str Z Z.heap c2 ([102, 97, 105, 108, 101, 100] : List Int32)) (O2 : Sta Z Z.heap "java/lang/String" "COMPACT_STRINGS" "Z" (.int G1)) (P5 : ¬ (G1 = (0 : Int32))) (Sx : own_str Z h0 x ([99, 111, 109, 112, 108, 101, 116, 101, 100] : List Int32)) :
    MetFree l (⟨"com/example/bo3/bo3/store/RunStatus", "ofColumnValue", "(Ljava/lang/String;)Lcom/example/bo3/bo3/store/RunStatus;"⟩ : MethodName) (head1 (Jvm.Cond.code (⟨"com/example/bo3/bo3/store/RunStatus", "ofColumnValue", "(Ljava/lang/String;)Lcom/example/bo3/bo3/store/RunStatus;"⟩ : MethodName) prog_53_method_5_code 5 (some (.object "com/example/bo3/bo3/store/RunStatus")) :: ws) ({ frames := 2, cells := 1, slots := 3, locals := 28 } : Room)) (fun zz_ U => zz_ = #[(.ref x)] ∧ Z.Warmed39 U.vm ∧ U.heap = h0) (fun _ _ _ _ _ => True) (fun _ U o U' => ∃ v L, o = .returned v ∧ Q_rmO_1 Z va k w0 w1 w2 c0 c1 c2 G1 x h0 n0 v U'.heap L ∧ FrameEnd U o U' L ({ frames := 2, cells := 1, slots := 3, locals := 28 } : Room).cells ({ frames := 2, cells := 1, slots := 3, locals := 28 } : Room).slots) := by
  refine MetFree.of_bodySF (plainFor_of_name pn_0) hisR ?_
  intro p e s m args below meth c s₁ Bd hml0 hP hK
  obtain ⟨rfl, hZ, hh⟩ := hP
  have hx := Bd.exec
  have hby := Bd.bytes
  have hlk := Bd.notSynchronized
  have hW : ∀ (i : Nat) (d : Jvm.Cond), tables_1[i]? = some d → d.before a0 Z = true := fun i d h => hw d (List.mem_of_getElem? h)
  have hml : c.maxLocals = 5 := hml0
  have hown : s.vm.findClass "com/example/bo3/bo3/store/RunStatus" = some m.cls := findClass_of_methodNamed Bd.named
  have hnm := (name_of_methodNamed Bd.named Bd.method).1
  have X0 : Stand p l e ({ frames := 2, cells := 1, slots := 3, locals := 28 } : Room) s m #[(.ref x)] below meth c s₁ [] 0 0 := Stand.of_body Bd
  have e0 : s₁.heap = h0 := by rw [← hh, Bd.state]; rfl
  have N0 := Fr.nil n0
  refine own_in ?_
  refine own_of (fun t k => castTop (ef_rmO_1 m x) k) ?_
  show own_go p e below s _ _ _ (s₁.setTop (mkF m 0 #[.val (.ref x), .unset, .unset, .unset, .unset] []))
  have heq : ∀ d ∈ StrChars.Road.wordsEq, d.before a0 Z = true := fun d hd => hw d ((by decide +kernel : ∀ d ∈ StrChars.Road.wordsEq, d ∈ tables_1) d hd)
  have K0 : Keep h0 h0 [] := Keep.refl h0 []
  obtain ⟨_, _, ⟨T1, L1, k1, n1⟩, -, X1, ⟨Lc1, hQ1, l1, y1, z1⟩, st1⟩ := Jvm.LawKit.callS X0 hx (y := (⟨"com/example/bo3/bo3/store/RunStatus", "values", "()[Lcom/example/bo3/bo3/store/RunStatus;"⟩ : MethodName)) hown (mvT hZ (hW 37 _ rfl)) (mvT hZ (hW 38 _ rfl)) (mvT hZ (hW 2 _ rfl)) (mvT hZ (hW 39 _ rfl)) (by decide) (backOf (W := 0) (rmV l Z a0 hw [] va k w0 w1 w2 h0 n0 XO0 S_VA E_va V_va) hZ (hW 39 _ rfl) (hW 2 _ rfl) (by decide) (by decide)) (g := (mkF m 0 #[.val (.ref x), .unset, .unset, .unset, .unset] [])) rfl (by rw [hml]; rfl) (argsL := []) (rest := []) (lenOf pd_0 rfl) rfl (by show 2 * 0 + _ ≤ _; exact Nat.le_of_eq rfl) (hb hby d7_0) (fun _ _ => ⟨rfl, e0, (by decide : 0 + 1 ≤ _), (by decide : 0 + 3 ≤ _)⟩)
  dsimp only [Pt.U, Pt.locs, Pt.cells, Pt.slots] at X1 l1 y1 z1 st1 hQ1
  subst l1 y1 z1
  obtain ⟨ar1, rfl, Nq1, Kp1, gs1, Va1⟩ := hQ1
  have N1 := Fr.app N0 Nq1
  refine own_of st1 ?_
  have sz1 : h0.size ≤ T1.heap.size := Kp1.1
  have O1 : Old Z n0 T1.heap := XO0.keep Kp1 (by simp only [List.mem_cons, List.not_mem_nil, or_false, forall_eq, false_implies, implies_true])
  have K1 : Keep h0 T1.heap [] := K0.trans Kp1 (by simp only [List.mem_cons, List.not_mem_nil, or_false, forall_eq, false_implies, implies_true])
  show own_go p e below s _ _ _ (T1.setTop (mkF m 3 #[.val (.ref x), .unset, .unset, .unset, .unset] [(.ref ar1)]))
  refine own_of (fun t => XS.astoreN X1.here hx rfl (hb hby d7_3) rfl rfl (l' := #[.val (.ref x), .val (.ref ar1), .unset, .unset, .unset]) rfl) ?_
  show own_go p e below s _ _ _ (T1.setTop (mkF m 4 #[.val (.ref x), .val (.ref ar1), .unset, .unset, .unset] []))
  refine own_of (fun t => XS.aloadN X1.here hx rfl (hb hby d7_4) rfl rfl) ?_
  show own_go p e below s _ _ _ (T1.setTop (mkF m 5 #[.val (.ref x), .val (.ref ar1), .unset, .unset, .unset] [(.ref ar1)]))
  obtain ⟨cl2, Ar2, q2, S2, Ng2, H2, G2⟩ := id Va1
  refine own_of (fun t kk => X1.arraylength hx Ar2.1 (State.isArrayOf_alike hZ.alike Ar2.2.1) (g := (mkF m 5 #[.val (.ref x), .val (.ref ar1), .unset, .unset, .unset] [(.ref ar1)])) rfl rfl (hb hby d7_5) _ (by rw [len_of S2 Ng2]; exact kk)) ?_
  show own_go p e below s _ _ _ (T1.setTop (mkF m 6 #[.val (.ref x), .val (.ref ar1), .unset, .unset, .unset] [(.int (3 : Int32))]))
  refine own_of (fun t => XS.istoreN X1.here hx rfl (hb hby d7_6) rfl (l' := #[.val (.ref x), .val (.ref ar1), .val (.int (3 : Int32)), .unset, .unset]) rfl) ?_
  show own_go p e below s _ _ _ (T1.setTop (mkF m 7 #[.val (.ref x), .val (.ref ar1), .val (.int (3 : Int32)), .unset, .unset] []))
  refine own_of (fun t => XS.iconst X1.here hx rfl (hb hby d7_7)) ?_
  show own_go p e below s _ _ _ (T1.setTop (mkF m 8 #[.val (.ref x), .val (.ref ar1), .val (.int (3 : Int32)), .unset, .unset] [(.int (0 : Int32))]))
  refine own_of (fun t => XS.istoreN X1.here hx rfl (hb hby d7_8) rfl (l' := #[.val (.ref x), .val (.ref ar1), .val (.int (3 : Int32)), .val (.int (0 : Int32)), .unset]) rfl) ?_
  show own_go p e below s _ _ _ (T1.setTop (mkF m 9 #[.val (.ref x), .val (.ref ar1), .val (.int (3 : Int32)), .val (.int (0 : Int32)), .unset] []))
  refine own_of (fun t => XS.iloadN X1.here hx rfl (hb hby d7_9) rfl) ?_
  show own_go p e below s _ _ _ (T1.setTop (mkF m 10 #[.val (.ref x), .val (.ref ar1), .val (.int (3 : Int32)), .val (.int (0 : Int32)), .unset] [(.int (0 : Int32))]))
  refine own_of (fun t => XS.iloadN X1.here hx rfl (hb hby d7_10) rfl) ?_
  show own_go p e below s _ _ _ (T1.setTop (mkF m 11 #[.val (.ref x), .val (.ref ar1), .val (.int (3 : Int32)), .val (.int (0 : Int32)), .unset] [(.int (3 : Int32)), (.int (0 : Int32))]))
  have hb11_3 : (0 : Int32) < (3 : Int32) := by decide
  refine own_of (fun t => XS.icmpNo X1.here hx rfl (hb hby d7_11) rfl (tlt hb11_3).2.1) ?_
  show own_go p e below s _ _ _ (T1.setTop (mkF m 14 #[.val (.ref x), .val (.ref ar1), .val (.int (3 : Int32)), .val (.int (0 : Int32)), .unset] []))
  refine own_of (fun t => XS.aloadN X1.here hx rfl (hb hby d7_14) rfl rfl) ?_
  show own_go p e below s _ _ _ (T1.setTop (mkF m 15 #[.val (.ref x), .val (.ref ar1), .val (.int (3 : Int32)), .val (.int (0 : Int32)), .unset] [(.ref ar1)]))
  refine own_of (fun t => XS.iloadN X1.here hx rfl (hb hby d7_15) rfl) ?_
  show own_go p e below s _ _ _ (T1.setTop (mkF m 16 #[.val (.ref x), .val (.ref ar1), .val (.int (3 : Int32)), .val (.int (0 : Int32)), .unset] [(.int (0 : Int32)), (.ref ar1)]))
  obtain ⟨cl4, Ar4, q4, S4, Ng4, H4, G4⟩ := id Va1
  have hin4 : ¬ ((0 : Int32) < 0 ∨ cl4.slots.size ≤ ((0 : Int32)).toNatClampNeg) := inb_of S4 ⟨by decide, by decide⟩
  have hat4 : cl4.slots[((0 : Int32)).toNatClampNeg]? = some (.ref w0) := H4 0 (by rw [S4]; decide)
  refine own_of (fun t => X1.aaload hx (j := (0 : Int32)) (v := (.ref w0)) Ar4.1 (State.isArrayOf_alike hZ.alike Ar4.2.1) rfl Ar4.2.2 hin4 hat4 (g := (mkF m 16 #[.val (.ref x), .val (.ref ar1), .val (.int (3 : Int32)), .val (.int (0 : Int32)), .unset] [(.int (0 : Int32)), (.ref ar1)])) rfl rfl (hb hby d7_16) _) ?_
  show own_go p e below s _ _ _ (T1.setTop (mkF m 17 #[.val (.ref x), .val (.ref ar1), .val (.int (3 : Int32)), .val (.int (0 : Int32)), .unset] [(.ref w0)]))
  refine own_of (fun t => XS.astore X1.here hx rfl (hb hby d7_17) rfl rfl (l' := #[.val (.ref x), .val (.ref ar1), .val (.int (3 : Int32)), .val (.int (0 : Int32)), .val (.ref w0)]) rfl) ?_
  show own_go p e below s _ _ _ (T1.setTop (mkF m 19 #[.val (.ref x), .val (.ref ar1), .val (.int (3 : Int32)), .val (.int (0 : Int32)), .val (.ref w0)] []))
  refine own_of (fun t => XS.aload X1.here hx rfl (hb hby d7_19) rfl rfl) ?_
  show own_go p e below s _ _ _ (T1.setTop (mkF m 21 #[.val (.ref x), .val (.ref ar1), .val (.int (3 : Int32)), .val (.int (0 : Int32)), .val (.ref w0)] [(.ref w0)]))
  have f5 : Fld Z T1.heap w0 "com/example/bo3/bo3/store/RunStatus" "columnValue" "Ljava/lang/String;" (.ref c0) := Fc0.ext O1.2
  obtain ⟨T6, X6, e6, st6⟩ := getF X1 hx hZ hown (host := "") (Or.inl (hW 54 _ rfl)) Via.refl rfl f5 (g := (mkF m 21 #[.val (.ref x), .val (.ref ar1), .val (.int (3 : Int32)), .val (.int (0 : Int32)), .val (.ref w0)] [(.ref w0)])) rfl rfl (hb hby d7_21)
  refine own_of st6 ?_
  show own_go p e below s _ _ _ (T6.setTop (mkF m 24 #[.val (.ref x), .val (.ref ar1), .val (.int (3 : Int32)), .val (.int (0 : Int32)), .val (.ref w0)] [(.ref c0)]))
  refine own_of (fun t => XS.aloadN X6.here hx rfl (hb hby d7_24) rfl rfl) ?_
  show own_go p e below s _ _ _ (T6.setTop (mkF m 25 #[.val (.ref x), .val (.ref ar1), .val (.int (3 : Int32)), .val (.int (0 : Int32)), .val (.ref w0)] [(.ref x), (.ref c0)]))
  have f7 : own_str Z T1.heap c0 ([114, 117, 110, 110, 105, 110, 103] : List Int32) := Sc0.ext O1.2
  have f8 : own_str Z T1.heap x ([99, 111, 109, 112, 108, 101, 116, 101, 100] : List Int32) := (Sx.keep Kp1 nin0)
  obtain ⟨t9a, kb9a, N9a, vs9a, Ea9, Va9, Ca9, Ka9, cd9a⟩ := id f7
  obtain ⟨t9b, kb9b, N9b, vs9b, Eb9, Vb9, Cb9, Kb9, cd9b⟩ := id f8
  obtain ⟨cq10, kq10, q10a, q10b, q10c⟩ := isOf hZ e6 Ea9
  obtain ⟨_, _, ⟨T10, L10, k10, n10⟩, -, X10, ⟨Lc10, hQ10, l10, y10, z10⟩, st10⟩ := X6.virtualBack hx (y := (⟨"java/lang/String", "equals", "(Ljava/lang/Object;)Z"⟩ : MethodName)) (z := (⟨"java/lang/String", "equals", "(Ljava/lang/Object;)Z"⟩ : MethodName)) hown (mvT hZ (hW 56 _ rfl)) (mvT hZ (hW 57 _ rfl)) (notFace_of_selects (args := #[]) (mvT hZ (hW 59 _ rfl))) (mvT hZ (hW 59 _ rfl)) (mvT hZ (hW 58 _ rfl)) (by decide) (StrChars.Road.eqW (W := 0) hZ heq (kI := 4) (hW 6 _ rfl) Ea9 Va9 Ca9 Ka9 cd9a (by decide) (by decide) Eb9 Vb9 Cb9 Kb9 cd9b (by decide) (by decide) (O2.ext O1.2) P5 (by decide) (by decide)) q10a q10c (g := (mkF m 25 #[.val (.ref x), .val (.ref ar1), .val (.int (3 : Int32)), .val (.int (0 : Int32)), .val (.ref w0)] [(.ref x), (.ref c0)])) rfl (by rw [hml]; rfl) (Steps.refl _) (argsL := [(.ref x)]) (rest := []) (lenOf pd_1 rfl) rfl (by show 2 * 0 + _ ≤ _; exact Nat.le_of_eq rfl) (hb hby d7_25) (fun _ _ => ⟨rfl, e6, (by decide : 1 + 0 ≤ _), (by decide : 3 + 0 ≤ _)⟩)
  dsimp only [Pt.U, Pt.locs, Pt.cells, Pt.slots] at X10 l10 y10 z10 st10 hQ10
  subst l10 y10 z10
  obtain ⟨hc10, rfl, eh10⟩ := hQ10
  have hv10 : _ = some (Value.int 0) := hc10.elim (fun q => absurd q.2 (by decide)) (fun q => q.1)
  subst hv10
  have Nq10 : Fr n0 ([] : List Loc) := Fr.nil n0
  have N10 := Fr.app N1 Nq10
  refine own_of (fun t k => st10.trans k) ?_
  show own_go p e below s _ _ _ (T10.setTop (mkF m 28 #[.val (.ref x), .val (.ref ar1), .val (.int (3 : Int32)), .val (.int (0 : Int32)), .val (.ref w0)] [(.int (0 : Int32))]))
  have hb28_11 : (0 : Int32) = (0 : Int32) := by decide
  refine own_of (fun t => XS.ifYes X10.here hx rfl (pc0 := 28) (pc' := 34) rfl (hb hby d7_28) rfl ((if0 _ _).trans (teq hb28_11).1) (by decide) (by decide)) ?_
  show own_go p e below s _ _ _ (T10.setTop (mkF m 34 #[.val (.ref x), .val (.ref ar1), .val (.int (3 : Int32)), .val (.int (0 : Int32)), .val (.ref w0)] []))
  refine own_of (fun t => XS.iinc X10.here hx rfl (hb hby d7_34) rfl (l' := #[.val (.ref x), .val (.ref ar1), .val (.int (3 : Int32)), .val (.int (1 : Int32)), .val (.ref w0)]) rfl) ?_
  show own_go p e below s _ _ _ (T10.setTop (mkF m 37 #[.val (.ref x), .val (.ref ar1), .val (.int (3 : Int32)), .val (.int (1 : Int32)), .val (.ref w0)] []))
  refine own_of (fun t => XS.goto X10.here hx rfl (pc0 := 37) (pc' := 9) rfl (hb hby d7_37) (by decide) (by decide)) ?_
  show own_go p e below s _ _ _ (T10.setTop (mkF m 9 #[.val (.ref x), .val (.ref ar1), .val (.int (3 : Int32)), .val (.int (1 : Int32)), .val (.ref w0)] []))
  refine own_of (fun t => XS.iloadN X10.here hx rfl (hb hby d7_9) rfl) ?_
  show own_go p e below s _ _ _ (T10.setTop (mkF m 10 #[.val (.ref x), .val (.ref ar1), .val (.int (3 : Int32)), .val (.int (1 : Int32)), .val (.ref w0)] [(.int (1 : Int32))]))
  refine own_of (fun t => XS.iloadN X10.here hx rfl (hb hby d7_10) rfl) ?_
  show own_go p e below s _ _ _ (T10.setTop (mkF m 11 #[.val (.ref x), .val (.ref ar1), .val (.int (3 : Int32)), .val (.int (1 : Int32)), .val (.ref w0)] [(.int (3 : Int32)), (.int (1 : Int32))]))
  have hb11_12 : (1 : Int32) < (3 : Int32) := by decide
  refine own_of (fun t => XS.icmpNo X10.here hx rfl (hb hby d7_11) rfl (tlt hb11_12).2.1) ?_
  show own_go p e below s _ _ _ (T10.setTop (mkF m 14 #[.val (.ref x), .val (.ref ar1), .val (.int (3 : Int32)), .val (.int (1 : Int32)), .val (.ref w0)] []))
  refine own_of (fun t => XS.aloadN X10.here hx rfl (hb hby d7_14) rfl rfl) ?_
  show own_go p e below s _ _ _ (T10.setTop (mkF m 15 #[.val (.ref x), .val (.ref ar1), .val (.int (3 : Int32)), .val (.int (1 : Int32)), .val (.ref w0)] [(.ref ar1)]))
  refine own_of (fun t => XS.iloadN X10.here hx rfl (hb hby d7_15) rfl) ?_
  show own_go p e below s _ _ _ (T10.setTop (mkF m 16 #[.val (.ref x), .val (.ref ar1), .val (.int (3 : Int32)), .val (.int (1 : Int32)), .val (.ref w0)] [(.int (1 : Int32)), (.ref ar1)]))
  obtain ⟨cl13, Ar13, q13, S13, Ng13, H13, G13⟩ := id Va1
  have hin13 : ¬ ((1 : Int32) < 0 ∨ cl13.slots.size ≤ ((1 : Int32)).toNatClampNeg) := inb_of S13 ⟨by decide, by decide⟩
  have hat13 : cl13.slots[((1 : Int32)).toNatClampNeg]? = some (.ref w1) := H13 1 (by rw [S13]; decide)
  refine own_of (fun t => X10.aaload hx (j := (1 : Int32)) (v := (.ref w1)) (by rw [eh10]; exact Ar13.1) (State.isArrayOf_alike hZ.alike Ar13.2.1) rfl Ar13.2.2 hin13 hat13 (g := (mkF m 16 #[.val (.ref x), .val (.ref ar1), .val (.int (3 : Int32)), .val (.int (1 : Int32)), .val (.ref w0)] [(.int (1 : Int32)), (.ref ar1)])) rfl rfl (hb hby d7_16) _) ?_
  show own_go p e below s _ _ _ (T10.setTop (mkF m 17 #[.val (.ref x), .val (.ref ar1), .val (.int (3 : Int32)), .val (.int (1 : Int32)), .val (.ref w0)] [(.ref w1)]))
  refine own_of (fun t => XS.astore X10.here hx rfl (hb hby d7_17) rfl rfl (l' := #[.val (.ref x), .val (.ref ar1), .val (.int (3 : Int32)), .val (.int (1 : Int32)), .val (.ref w1)]) rfl) ?_
  show own_go p e below s _ _ _ (T10.setTop (mkF m 19 #[.val (.ref x), .val (.ref ar1), .val (.int (3 : Int32)), .val (.int (1 : Int32)), .val (.ref w1)] []))
  refine own_of (fun t => XS.aload X10.here hx rfl (hb hby d7_19) rfl rfl) ?_
  show own_go p e below s _ _ _ (T10.setTop (mkF m 21 #[.val (.ref x), .val (.ref ar1), .val (.int (3 : Int32)), .val (.int (1 : Int32)), .val (.ref w1)] [(.ref w1)]))
  have f14 : Fld Z T1.heap w1 "com/example/bo3/bo3/store/RunStatus" "columnValue" "Ljava/lang/String;" (.ref c1) := Fc1.ext O1.2
  obtain ⟨T15, X15, e15, st15⟩ := getF X10 hx hZ hown (host := "") (Or.inl (hW 54 _ rfl)) Via.refl eh10 f14 (g := (mkF m 21 #[.val (.ref x), .val (.ref ar1), .val (.int (3 : Int32)), .val (.int (1 : Int32)), .val (.ref w1)] [(.ref w1)])) rfl rfl (hb hby d7_21)
  refine own_of st15 ?_
  show own_go p e below s _ _ _ (T15.setTop (mkF m 24 #[.val (.ref x), .val (.ref ar1), .val (.int (3 : Int32)), .val (.int (1 : Int32)), .val (.ref w1)] [(.ref c1)]))
  refine own_of (fun t => XS.aloadN X15.here hx rfl (hb hby d7_24) rfl rfl) ?_
  show own_go p e below s _ _ _ (T15.setTop (mkF m 25 #[.val (.ref x), .val (.ref ar1), .val (.int (3 : Int32)), .val (.int (1 : Int32)), .val (.ref w1)] [(.ref x), (.ref c1)]))
  have f16 : own_str Z T1.heap c1 ([99, 111, 109, 112, 108, 101, 116, 101, 100] : List Int32) := Sc1.ext O1.2
  obtain ⟨t17a, kb17a, N17a, vs17a, Ea17, Va17, Ca17, Ka17, cd17a⟩ := id f16
  obtain ⟨t17b, kb17b, N17b, vs17b, Eb17, Vb17, Cb17, Kb17, cd17b⟩ := id f8
  obtain ⟨cq18, kq18, q18a, q18b, q18c⟩ := isOf hZ e15 Ea17
  obtain ⟨_, _, ⟨T18, L18, k18, n18⟩, -, X18, ⟨Lc18, hQ18, l18, y18, z18⟩, st18⟩ := X15.virtualBack hx (y := (⟨"java/lang/String", "equals", "(Ljava/lang/Object;)Z"⟩ : MethodName)) (z := (⟨"java/lang/String", "equals", "(Ljava/lang/Object;)Z"⟩ : MethodName)) hown (mvT hZ (hW 56 _ rfl)) (mvT hZ (hW 57 _ rfl)) (notFace_of_selects (args := #[]) (mvT hZ (hW 59 _ rfl))) (mvT hZ (hW 59 _ rfl)) (mvT hZ (hW 58 _ rfl)) (by decide) (StrChars.Road.eqW (W := 0) hZ heq (kI := 4) (hW 6 _ rfl) Ea17 Va17 Ca17 Ka17 cd17a (by decide) (by decide) Eb17 Vb17 Cb17 Kb17 cd17b (by decide) (by decide) (O2.ext O1.2) P5 (by decide) (by decide)) q18a q18c (g := (mkF m 25 #[.val (.ref x), .val (.ref ar1), .val (.int (3 : Int32)), .val (.int (1 : Int32)), .val (.ref w1)] [(.ref x), (.ref c1)])) rfl (by rw [hml]; rfl) (Steps.refl _) (argsL := [(.ref x)]) (rest := []) (lenOf pd_1 rfl) rfl (by show 2 * 0 + _ ≤ _; exact Nat.le_of_eq rfl) (hb hby d7_25) (fun _ _ => ⟨rfl, e15, (by decide : 1 + 0 ≤ _), (by decide : 3 + 0 ≤ _)⟩)
  dsimp only [Pt.U, Pt.locs, Pt.cells, Pt.slots] at X18 l18 y18 z18 st18 hQ18
  subst l18 y18 z18
  obtain ⟨hc18, rfl, eh18⟩ := hQ18
  have hv18 : _ = some (Value.int 1) := hc18.elim (fun q => q.1) (fun q => absurd rfl q.2)
  subst hv18
  have Nq18 : Fr n0 ([] : List Loc) := Fr.nil n0
  have N18 := Fr.app N10 Nq18
  refine own_of (fun t k => st18.trans k) ?_
  show own_go p e below s _ _ _ (T18.setTop (mkF m 28 #[.val (.ref x), .val (.ref ar1), .val (.int (3 : Int32)), .val (.int (1 : Int32)), .val (.ref w1)] [(.int (1 : Int32))]))
  have hb28_19 : ¬ ((1 : Int32) = (0 : Int32)) := by decide
  refine own_of (fun t => XS.ifNo X18.here hx rfl (hb hby d7_28) rfl ((if0 _ _).trans (feq hb28_19).1)) ?_
  show own_go p e below s _ _ _ (T18.setTop (mkF m 31 #[.val (.ref x), .val (.ref ar1), .val (.int (3 : Int32)), .val (.int (1 : Int32)), .val (.ref w1)] []))
  refine own_of (fun t => XS.aload X18.here hx rfl (hb hby d7_31) rfl rfl) ?_
  show own_go p e below s _ _ _ (T18.setTop (mkF m 33 #[.val (.ref x), .val (.ref ar1), .val (.int (3 : Int32)), .val (.int (1 : Int32)), .val (.ref w1)] [(.ref w1)]))
  refine own_ret X18 hx hlk Bd.returns rfl (Or.inr (Or.inr (Or.inr (Or.inr ⟨rfl, rfl, rfl⟩)))) (hb hby d7_33) (by decide) (by decide) ?_
  rw [eh18]
  exact ⟨rfl, N18, K1⟩
theorem ef_rmO_2 (m : MethodId) (x0 : Addr) : entryFrame m #[(.ref x0)] 5 = mkF m 0 #[.val (.ref x0), .unset, .unset, .unset, .unset] [] := by first | (simp [entryFrame, mkF, argsToLocals, Value.category]; done) | rfl
def Q_rmO_2 (Z : State) (va : Addr) (k : ClassId) (w0 : Addr) (w1 : Addr) (w2 : Addr) (c0 : Addr) (c1 : Addr) (c2 : Addr) (G1 : Int32) (x : Addr) (h0 : Heap) (n0 : Nat) (v : Option Value) (h : Heap) (L : List Loc) : Prop := v = some (.ref w2) ∧ Fr n0 L ∧ Keep h0 h []
set_option maxRecDepth 65536 in
set_option maxHeartbeats 40000000 in
theorem rmO_2 (l : Launch) (Z : State) (a0 : Array Value) (hw : ∀ d ∈ tables_1, d.before a0 Z = true) (ws : List Jvm.Cond) (va : Addr) (k : ClassId) (w0 : Addr) (w1 : Addr) (w2 : Addr) (c0 : Addr) (c1 : Addr) (c2 : Addr) (G1 : Int32) (x : Addr) (h0 : Heap) (n0 : Nat) (XO0 : Old Z n0 h0) (S_VA : Sta Z Z.heap "com/example/bo3/bo3/store/RunStatus" "$VALUES" "[Lcom/example/bo3/bo3/store/RunStatus;" (.ref va)) (E_va : Exa Z Z.heap va "[Lcom/example/bo3/bo3/store/RunStatus;") (V_va : Arv Z Z.heap va k (.object "com/example/bo3/bo3/store/RunStatus") (3 : Int32) [.ref w0, .ref w1, .ref w2] .null) (Fc0 : Fld Z Z.heap w0 "com/example/bo3/bo3/store/RunStatus" "columnValue" "Ljava/lang/String;" (.ref c0)) (Fc1 : Fld Z Z.heap w1 "com/example/bo3/bo3/store/RunStatus" "columnValue" "Ljava/lang/String;" (.ref c1)) (Fc2 : Fld Z Z.heap w2 "com/example/bo3/bo3/store/RunStatus" "columnValue" "Ljava/lang/String;" (.ref c2)) (Sc0 : own_str Z Z.heap c0 ([114, 117, 110, 110, 105, 110, 103] : List Int32)) (Sc1 : own_str Z Z.heap c1 ([99, 111, 109, 112, 108, 101, 116, 101, 100] : List Int32)) (Sc2 : own_str Z Z.heap c2 ([102, 97, 105, 108, 101, 100] : List Int32)) (O2 : Sta Z Z.heap "java/lang/String" "COMPACT_STRINGS" "Z" (.int G1)) (P5 : ¬ (G1 = (0 : Int32))) (Sx : own_str Z h0 x ([102, 97, 105, 108, 101, 100] : List Int32)) :
    MetFree l (⟨"com/example/bo3/bo3/store/RunStatus", "ofColumnValue", "(Ljava/lang/String;)Lcom/example/bo3/bo3/store/RunStatus;"⟩ : MethodName) (head1 (Jvm.Cond.code (⟨"com/example/bo3/bo3/store/RunStatus", "ofColumnValue", "(Ljava/lang/String;)Lcom/example/bo3/bo3/store/RunStatus;"⟩ : MethodName) prog_53_method_5_code 5 (some (.object "com/example/bo3/bo3/store/RunStatus")) :: ws) ({ frames := 2, cells := 1, slots := 3, locals := 28 } : Room)) (fun zz_ U => zz_ = #[(.ref x)] ∧ Z.Warmed39 U.vm ∧ U.heap = h0) (fun _ _ _ _ _ => True) (fun _ U o U' => ∃ v L, o = .returned v ∧ Q_rmO_2 Z va k w0 w1 w2 c0 c1 c2 G1 x h0 n0 v U'.heap L ∧ FrameEnd U o U' L ({ frames := 2, cells := 1, slots := 3, locals := 28 } : Room).cells ({ frames := 2, cells := 1, slots := 3, locals := 28 } : Room).slots) := by
  refine MetFree.of_bodySF (plainFor_of_name pn_0) hisR ?_
  intro p e s m args below meth c s₁ Bd hml0 hP hK
  obtain ⟨rfl, hZ, hh⟩ := hP
  have hx := Bd.exec
  have hby := Bd.bytes
  have hlk := Bd.notSynchronized
  have hW : ∀ (i : Nat) (d : Jvm.Cond), tables_1[i]? = some d → d.before a0 Z = true := fun i d h => hw d (List.mem_of_getElem? h)
  have hml : c.maxLocals = 5 := hml0
  have hown : s.vm.findClass "com/example/bo3/bo3/store/RunStatus" = some m.cls := findClass_of_methodNamed Bd.named
  have hnm := (name_of_methodNamed Bd.named Bd.method).1
  have X0 : Stand p l e ({ frames := 2, cells := 1, slots := 3, locals := 28 } : Room) s m #[(.ref x)] below meth c s₁ [] 0 0 := Stand.of_body Bd
  have e0 : s₁.heap = h0 := by rw [← hh, Bd.state]; rfl
  have N0 := Fr.nil n0
  refine own_in ?_
  refine own_of (fun t k => castTop (ef_rmO_2 m x) k) ?_
  show own_go p e below s _ _ _ (s₁.setTop (mkF m 0 #[.val (.ref x), .unset, .unset, .unset, .unset] []))
  have heq : ∀ d ∈ StrChars.Road.wordsEq, d.before a0 Z = true := fun d hd => hw d ((by decide +kernel : ∀ d ∈ StrChars.Road.wordsEq, d ∈ tables_1) d hd)
  have K0 : Keep h0 h0 [] := Keep.refl h0 []
  obtain ⟨_, _, ⟨T1, L1, k1, n1⟩, -, X1, ⟨Lc1, hQ1, l1, y1, z1⟩, st1⟩ := Jvm.LawKit.callS X0 hx (y := (⟨"com/example/bo3/bo3/store/RunStatus", "values", "()[Lcom/example/bo3/bo3/store/RunStatus;"⟩ : MethodName)) hown (mvT hZ (hW 37 _ rfl)) (mvT hZ (hW 38 _ rfl)) (mvT hZ (hW 2 _ rfl)) (mvT hZ (hW 39 _ rfl)) (by decide) (backOf (W := 0) (rmV l Z a0 hw [] va k w0 w1 w2 h0 n0 XO0 S_VA E_va V_va) hZ (hW 39 _ rfl) (hW 2 _ rfl) (by decide) (by decide)) (g := (mkF m 0 #[.val (.ref x), .unset, .unset, .unset, .unset] [])) rfl (by rw [hml]; rfl) (argsL := []) (rest := []) (lenOf pd_0 rfl) rfl (by show 2 * 0 + _ ≤ _; exact Nat.le_of_eq rfl) (hb hby d7_0) (fun _ _ => ⟨rfl, e0, (by decide : 0 + 1 ≤ _), (by decide : 0 + 3 ≤ _)⟩)
  dsimp only [Pt.U, Pt.locs, Pt.cells, Pt.slots] at X1 l1 y1 z1 st1 hQ1
  subst l1 y1 z1
  obtain ⟨ar1, rfl, Nq1, Kp1, gs1, Va1⟩ := hQ1
  have N1 := Fr.app N0 Nq1
  refine own_of st1 ?_
  have sz1 : h0.size ≤ T1.heap.size := Kp1.1
  have O1 : Old Z n0 T1.heap := XO0.keep Kp1 (by simp only [List.mem_cons, List.not_mem_nil, or_false, forall_eq, false_implies, implies_true])
  have K1 : Keep h0 T1.heap [] := K0.trans Kp1 (by simp only [List.mem_cons, List.not_mem_nil, or_false, forall_eq, false_implies, implies_true])
  show own_go p e below s _ _ _ (T1.setTop (mkF m 3 #[.val (.ref x), .unset, .unset, .unset, .unset] [(.ref ar1)]))
  refine own_of (fun t => XS.astoreN X1.here hx rfl (hb hby d7_3) rfl rfl (l' := #[.val (.ref x), .val (.ref ar1), .unset, .unset, .unset]) rfl) ?_
  show own_go p e below s _ _ _ (T1.setTop (mkF m 4 #[.val (.ref x), .val (.ref ar1), .unset, .unset, .unset] []))
  refine own_of (fun t => XS.aloadN X1.here hx rfl (hb hby d7_4) rfl rfl) ?_
  show own_go p e below s _ _ _ (T1.setTop (mkF m 5 #[.val (.ref x), .val (.ref ar1), .unset, .unset, .unset] [(.ref ar1)]))
  obtain ⟨cl2, Ar2, q2, S2, Ng2, H2, G2⟩ := id Va1
  refine own_of (fun t kk => X1.arraylength hx Ar2.1 (State.isArrayOf_alike hZ.alike Ar2.2.1) (g := (mkF m 5 #[.val (.ref x), .val (.ref ar1), .unset, .unset, .unset] [(.ref ar1)])) rfl rfl (hb hby d7_5) _ (by rw [len_of S2 Ng2]; exact kk)) ?_
  show own_go p e below s _ _ _ (T1.setTop (mkF m 6 #[.val (.ref x), .val (.ref ar1), .unset, .unset, .unset] [(.int (3 : Int32))]))
  refine own_of (fun t => XS.istoreN X1.here hx rfl (hb hby d7_6) rfl (l' := #[.val (.ref x), .val (.ref ar1), .val (.int (3 : Int32)), .unset, .unset]) rfl) ?_
  show own_go p e below s _ _ _ (T1.setTop (mkF m 7 #[.val (.ref x), .val (.ref ar1), .val (.int (3 : Int32)), .unset, .unset] []))
  refine own_of (fun t => XS.iconst X1.here hx rfl (hb hby d7_7)) ?_
  show own_go p e below s _ _ _ (T1.setTop (mkF m 8 #[.val (.ref x), .val (.ref ar1), .val (.int (3 : Int32)), .unset, .unset] [(.int (0 : Int32))]))
  refine own_of (fun t => XS.istoreN X1.here hx rfl (hb hby d7_8) rfl (l' := #[.val (.ref x), .val (.ref ar1), .val (.int (3 : Int32)), .val (.int (0 : Int32)), .unset]) rfl) ?_
  show own_go p e below s _ _ _ (T1.setTop (mkF m 9 #[.val (.ref x), .val (.ref ar1), .val (.int (3 : Int32)), .val (.int (0 : Int32)), .unset] []))
  refine own_of (fun t => XS.iloadN X1.here hx rfl (hb hby d7_9) rfl) ?_
  show own_go p e below s _ _ _ (T1.setTop (mkF m 10 #[.val (.ref x), .val (.ref ar1), .val (.int (3 : Int32)), .val (.int (0 : Int32)), .unset] [(.int (0 : Int32))]))
  refine own_of (fun t => XS.iloadN X1.here hx rfl (hb hby d7_10) rfl) ?_
  show own_go p e below s _ _ _ (T1.setTop (mkF m 11 #[.val (.ref x), .val (.ref ar1), .val (.int (3 : Int32)), .val (.int (0 : Int32)), .unset] [(.int (3 : Int32)), (.int (0 : Int32))]))
  have hb11_3 : (0 : Int32) < (3 : Int32) := by decide
  refine own_of (fun t => XS.icmpNo X1.here hx rfl (hb hby d7_11) rfl (tlt hb11_3).2.1) ?_
  show own_go p e below s _ _ _ (T1.setTop (mkF m 14 #[.val (.ref x), .val (.ref ar1), .val (.int (3 : Int32)), .val (.int (0 : Int32)), .unset] []))
  refine own_of (fun t => XS.aloadN X1.here hx rfl (hb hby d7_14) rfl rfl) ?_
  show own_go p e below s _ _ _ (T1.setTop (mkF m 15 #[.val (.ref x), .val (.ref ar1), .val (.int (3 : Int32)), .val (.int (0 : Int32)), .unset] [(.ref ar1)]))
  refine own_of (fun t => XS.iloadN X1.here hx rfl (hb hby d7_15) rfl) ?_
  show own_go p e below s _ _ _ (T1.setTop (mkF m 16 #[.val (.ref x), .val (.ref ar1), .val (.int (3 : Int32)), .val (.int (0 : Int32)), .unset] [(.int (0 : Int32)), (.ref ar1)]))
  obtain ⟨cl4, Ar4, q4, S4, Ng4, H4, G4⟩ := id Va1
  have hin4 : ¬ ((0 : Int32) < 0 ∨ cl4.slots.size ≤ ((0 : Int32)).toNatClampNeg) := inb_of S4 ⟨by decide, by decide⟩
  have hat4 : cl4.slots[((0 : Int32)).toNatClampNeg]? = some (.ref w0) := H4 0 (by rw [S4]; decide)
  refine own_of (fun t => X1.aaload hx (j := (0 : Int32)) (v := (.ref w0)) Ar4.1 (State.isArrayOf_alike hZ.alike Ar4.2.1) rfl Ar4.2.2 hin4 hat4 (g := (mkF m 16 #[.val (.ref x), .val (.ref ar1), .val (.int (3 : Int32)), .val (.int (0 : Int32)), .unset] [(.int (0 : Int32)), (.ref ar1)])) rfl rfl (hb hby d7_16) _) ?_
  show own_go p e below s _ _ _ (T1.setTop (mkF m 17 #[.val (.ref x), .val (.ref ar1), .val (.int (3 : Int32)), .val (.int (0 : Int32)), .unset] [(.ref w0)]))
  refine own_of (fun t => XS.astore X1.here hx rfl (hb hby d7_17) rfl rfl (l' := #[.val (.ref x), .val (.ref ar1), .val (.int (3 : Int32)), .val (.int (0 : Int32)), .val (.ref w0)]) rfl) ?_
  show own_go p e below s _ _ _ (T1.setTop (mkF m 19 #[.val (.ref x), .val (.ref ar1), .val (.int (3 : Int32)), .val (.int (0 : Int32)), .val (.ref w0)] []))
  refine own_of (fun t => XS.aload X1.here hx rfl (hb hby d7_19) rfl rfl) ?_
  show own_go p e below s _ _ _ (T1.setTop (mkF m 21 #[.val (.ref x), .val (.ref ar1), .val (.int (3 : Int32)), .val (.int (0 : Int32)), .val (.ref w0)] [(.ref w0)]))
  have f5 : Fld Z T1.heap w0 "com/example/bo3/bo3/store/RunStatus" "columnValue" "Ljava/lang/String;" (.ref c0) := Fc0.ext O1.2
  obtain ⟨T6, X6, e6, st6⟩ := getF X1 hx hZ hown (host := "") (Or.inl (hW 54 _ rfl)) Via.refl rfl f5 (g := (mkF m 21 #[.val (.ref x), .val (.ref ar1), .val (.int (3 : Int32)), .val (.int (0 : Int32)), .val (.ref w0)] [(.ref w0)])) rfl rfl (hb hby d7_21)
  refine own_of st6 ?_
  show own_go p e below s _ _ _ (T6.setTop (mkF m 24 #[.val (.ref x), .val (.ref ar1), .val (.int (3 : Int32)), .val (.int (0 : Int32)), .val (.ref w0)] [(.ref c0)]))
  refine own_of (fun t => XS.aloadN X6.here hx rfl (hb hby d7_24) rfl rfl) ?_
  show own_go p e below s _ _ _ (T6.setTop (mkF m 25 #[.val (.ref x), .val (.ref ar1), .val (.int (3 : Int32)), .val (.int (0 : Int32)), .val (.ref w0)] [(.ref x), (.ref c0)]))
  have f7 : own_str Z T1.heap c0 ([114, 117, 110, 110, 105, 110, 103] : List Int32) := Sc0.ext O1.2
  have f8 : own_str Z T1.heap x ([102, 97, 105, 108, 101, 100] : List Int32) := (Sx.keep Kp1 nin0)
  obtain ⟨t9a, kb9a, N9a, vs9a, Ea9, Va9, Ca9, Ka9, cd9a⟩ := id f7
  obtain ⟨t9b, kb9b, N9b, vs9b, Eb9, Vb9, Cb9, Kb9, cd9b⟩ := id f8
  obtain ⟨cq10, kq10, q10a, q10b, q10c⟩ := isOf hZ e6 Ea9
  obtain ⟨_, _, ⟨T10, L10, k10, n10⟩, -, X10, ⟨Lc10, hQ10, l10, y10, z10⟩, st10⟩ := X6.virtualBack hx (y := (⟨"java/lang/String", "equals", "(Ljava/lang/Object;)Z"⟩ : MethodName)) (z := (⟨"java/lang/String", "equals", "(Ljava/lang/Object;)Z"⟩ : MethodName)) hown (mvT hZ (hW 56 _ rfl)) (mvT hZ (hW 57 _ rfl)) (notFace_of_selects (args := #[]) (mvT hZ (hW 59 _ rfl))) (mvT hZ (hW 59 _ rfl)) (mvT hZ (hW 58 _ rfl)) (by decide) (StrChars.Road.eqW (W := 0) hZ heq (kI := 4) (hW 6 _ rfl) Ea9 Va9 Ca9 Ka9 cd9a (by decide) (by decide) Eb9 Vb9 Cb9 Kb9 cd9b (by decide) (by decide) (O2.ext O1.2) P5 (by decide) (by decide)) q10a q10c (g := (mkF m 25 #[.val (.ref x), .val (.ref ar1), .val (.int (3 : Int32)), .val (.int (0 : Int32)), .val (.ref w0)] [(.ref x), (.ref c0)])) rfl (by rw [hml]; rfl) (Steps.refl _) (argsL := [(.ref x)]) (rest := []) (lenOf pd_1 rfl) rfl (by show 2 * 0 + _ ≤ _; exact Nat.le_of_eq rfl) (hb hby d7_25) (fun _ _ => ⟨rfl, e6, (by decide : 1 + 0 ≤ _), (by decide : 3 + 0 ≤ _)⟩)
  dsimp only [Pt.U, Pt.locs, Pt.cells, Pt.slots] at X10 l10 y10 z10 st10 hQ10
  subst l10 y10 z10
  obtain ⟨hc10, rfl, eh10⟩ := hQ10
  have hv10 : _ = some (Value.int 0) := hc10.elim (fun q => absurd q.2 (by decide)) (fun q => q.1)
  subst hv10
  have Nq10 : Fr n0 ([] : List Loc) := Fr.nil n0
  have N10 := Fr.app N1 Nq10
  refine own_of (fun t k => st10.trans k) ?_
  show own_go p e below s _ _ _ (T10.setTop (mkF m 28 #[.val (.ref x), .val (.ref ar1), .val (.int (3 : Int32)), .val (.int (0 : Int32)), .val (.ref w0)] [(.int (0 : Int32))]))
  have hb28_11 : (0 : Int32) = (0 : Int32) := by decide
  refine own_of (fun t => XS.ifYes X10.here hx rfl (pc0 := 28) (pc' := 34) rfl (hb hby d7_28) rfl ((if0 _ _).trans (teq hb28_11).1) (by decide) (by decide)) ?_
  show own_go p e below s _ _ _ (T10.setTop (mkF m 34 #[.val (.ref x), .val (.ref ar1), .val (.int (3 : Int32)), .val (.int (0 : Int32)), .val (.ref w0)] []))
  refine own_of (fun t => XS.iinc X10.here hx rfl (hb hby d7_34) rfl (l' := #[.val (.ref x), .val (.ref ar1), .val (.int (3 : Int32)), .val (.int (1 : Int32)), .val (.ref w0)]) rfl) ?_
  show own_go p e below s _ _ _ (T10.setTop (mkF m 37 #[.val (.ref x), .val (.ref ar1), .val (.int (3 : Int32)), .val (.int (1 : Int32)), .val (.ref w0)] []))
  refine own_of (fun t => XS.goto X10.here hx rfl (pc0 := 37) (pc' := 9) rfl (hb hby d7_37) (by decide) (by decide)) ?_
  show own_go p e below s _ _ _ (T10.setTop (mkF m 9 #[.val (.ref x), .val (.ref ar1), .val (.int (3 : Int32)), .val (.int (1 : Int32)), .val (.ref w0)] []))
  refine own_of (fun t => XS.iloadN X10.here hx rfl (hb hby d7_9) rfl) ?_
  show own_go p e below s _ _ _ (T10.setTop (mkF m 10 #[.val (.ref x), .val (.ref ar1), .val (.int (3 : Int32)), .val (.int (1 : Int32)), .val (.ref w0)] [(.int (1 : Int32))]))
  refine own_of (fun t => XS.iloadN X10.here hx rfl (hb hby d7_10) rfl) ?_
  show own_go p e below s _ _ _ (T10.setTop (mkF m 11 #[.val (.ref x), .val (.ref ar1), .val (.int (3 : Int32)), .val (.int (1 : Int32)), .val (.ref w0)] [(.int (3 : Int32)), (.int (1 : Int32))]))
  have hb11_12 : (1 : Int32) < (3 : Int32) := by decide
  refine own_of (fun t => XS.icmpNo X10.here hx rfl (hb hby d7_11) rfl (tlt hb11_12).2.1) ?_
  show own_go p e below s _ _ _ (T10.setTop (mkF m 14 #[.val (.ref x), .val (.ref ar1), .val (.int (3 : Int32)), .val (.int (1 : Int32)), .val (.ref w0)] []))
  refine own_of (fun t => XS.aloadN X10.here hx rfl (hb hby d7_14) rfl rfl) ?_
  show own_go p e below s _ _ _ (T10.setTop (mkF m 15 #[.val (.ref x), .val (.ref ar1), .val (.int (3 : Int32)), .val (.int (1 : Int32)), .val (.ref w0)] [(.ref ar1)]))
  refine own_of (fun t => XS.iloadN X10.here hx rfl (hb hby d7_15) rfl) ?_
  show own_go p e below s _ _ _ (T10.setTop (mkF m 16 #[.val (.ref x), .val (.ref ar1), .val (.int (3 : Int32)), .val (.int (1 : Int32)), .val (.ref w0)] [(.int (1 : Int32)), (.ref ar1)]))
  obtain ⟨cl13, Ar13, q13, S13, Ng13, H13, G13⟩ := id Va1
  have hin13 : ¬ ((1 : Int32) < 0 ∨ cl13.slots.size ≤ ((1 : Int32)).toNatClampNeg) := inb_of S13 ⟨by decide, by decide⟩
  have hat13 : cl13.slots[((1 : Int32)).toNatClampNeg]? = some (.ref w1) := H13 1 (by rw [S13]; decide)
  refine own_of (fun t => X10.aaload hx (j := (1 : Int32)) (v := (.ref w1)) (by rw [eh10]; exact Ar13.1) (State.isArrayOf_alike hZ.alike Ar13.2.1) rfl Ar13.2.2 hin13 hat13 (g := (mkF m 16 #[.val (.ref x), .val (.ref ar1), .val (.int (3 : Int32)), .val (.int (1 : Int32)), .val (.ref w0)] [(.int (1 : Int32)), (.ref ar1)])) rfl rfl (hb hby d7_16) _) ?_
  show own_go p e below s _ _ _ (T10.setTop (mkF m 17 #[.val (.ref x), .val (.ref ar1), .val (.int (3 : Int32)), .val (.int (1 : Int32)), .val (.ref w0)] [(.ref w1)]))
  refine own_of (fun t => XS.astore X10.here hx rfl (hb hby d7_17) rfl rfl (l' := #[.val (.ref x), .val (.ref ar1), .val (.int (3 : Int32)), .val (.int (1 : Int32)), .val (.ref w1)]) rfl) ?_
  show own_go p e below s _ _ _ (T10.setTop (mkF m 19 #[.val (.ref x), .val (.ref ar1), .val (.int (3 : Int32)), .val (.int (1 : Int32)), .val (.ref w1)] []))
  refine own_of (fun t => XS.aload X10.here hx rfl (hb hby d7_19) rfl rfl) ?_
  show own_go p e below s _ _ _ (T10.setTop (mkF m 21 #[.val (.ref x), .val (.ref ar1), .val (.int (3 : Int32)), .val (.int (1 : Int32)), .val (.ref w1)] [(.ref w1)]))
  have f14 : Fld Z T1.heap w1 "com/example/bo3/bo3/store/RunStatus" "columnValue" "Ljava/lang/String;" (.ref c1) := Fc1.ext O1.2
  obtain ⟨T15, X15, e15, st15⟩ := getF X10 hx hZ hown (host := "") (Or.inl (hW 54 _ rfl)) Via.refl eh10 f14 (g := (mkF m 21 #[.val (.ref x), .val (.ref ar1), .val (.int (3 : Int32)), .val (.int (1 : Int32)), .val (.ref w1)] [(.ref w1)])) rfl rfl (hb hby d7_21)
  refine own_of st15 ?_
  show own_go p e below s _ _ _ (T15.setTop (mkF m 24 #[.val (.ref x), .val (.ref ar1), .val (.int (3 : Int32)), .val (.int (1 : Int32)), .val (.ref w1)] [(.ref c1)]))
  refine own_of (fun t => XS.aloadN X15.here hx rfl (hb hby d7_24) rfl rfl) ?_
  show own_go p e below s _ _ _ (T15.setTop (mkF m 25 #[.val (.ref x), .val (.ref ar1), .val (.int (3 : Int32)), .val (.int (1 : Int32)), .val (.ref w1)] [(.ref x), (.ref c1)]))
  have f16 : own_str Z T1.heap c1 ([99, 111, 109, 112, 108, 101, 116, 101, 100] : List Int32) := Sc1.ext O1.2
  obtain ⟨t17a, kb17a, N17a, vs17a, Ea17, Va17, Ca17, Ka17, cd17a⟩ := id f16
  obtain ⟨t17b, kb17b, N17b, vs17b, Eb17, Vb17, Cb17, Kb17, cd17b⟩ := id f8
  obtain ⟨cq18, kq18, q18a, q18b, q18c⟩ := isOf hZ e15 Ea17
  obtain ⟨_, _, ⟨T18, L18, k18, n18⟩, -, X18, ⟨Lc18, hQ18, l18, y18, z18⟩, st18⟩ := X15.virtualBack hx (y := (⟨"java/lang/String", "equals", "(Ljava/lang/Object;)Z"⟩ : MethodName)) (z := (⟨"java/lang/String", "equals", "(Ljava/lang/Object;)Z"⟩ : MethodName)) hown (mvT hZ (hW 56 _ rfl)) (mvT hZ (hW 57 _ rfl)) (notFace_of_selects (args := #[]) (mvT hZ (hW 59 _ rfl))) (mvT hZ (hW 59 _ rfl)) (mvT hZ (hW 58 _ rfl)) (by decide) (StrChars.Road.eqW (W := 0) hZ heq (kI := 4) (hW 6 _ rfl) Ea17 Va17 Ca17 Ka17 cd17a (by decide) (by decide) Eb17 Vb17 Cb17 Kb17 cd17b (by decide) (by decide) (O2.ext O1.2) P5 (by decide) (by decide)) q18a q18c (g := (mkF m 25 #[.val (.ref x), .val (.ref ar1), .val (.int (3 : Int32)), .val (.int (1 : Int32)), .val (.ref w1)] [(.ref x), (.ref c1)])) rfl (by rw [hml]; rfl) (Steps.refl _) (argsL := [(.ref x)]) (rest := []) (lenOf pd_1 rfl) rfl (by show 2 * 0 + _ ≤ _; exact Nat.le_of_eq rfl) (hb hby d7_25) (fun _ _ => ⟨rfl, e15, (by decide : 1 + 0 ≤ _), (by decide : 3 + 0 ≤ _)⟩)
  dsimp only [Pt.U, Pt.locs, Pt.cells, Pt.slots] at X18 l18 y18 z18 st18 hQ18
  subst l18 y18 z18
  obtain ⟨hc18, rfl, eh18⟩ := hQ18
  have hv18 : _ = some (Value.int 0) := hc18.elim (fun q => absurd q.2 (by decide)) (fun q => q.1)
  subst hv18
  have Nq18 : Fr n0 ([] : List Loc) := Fr.nil n0
  have N18 := Fr.app N10 Nq18
  refine own_of (fun t k => st18.trans k) ?_
  show own_go p e below s _ _ _ (T18.setTop (mkF m 28 #[.val (.ref x), .val (.ref ar1), .val (.int (3 : Int32)), .val (.int (1 : Int32)), .val (.ref w1)] [(.int (0 : Int32))]))
  have hb28_19 : (0 : Int32) = (0 : Int32) := by decide
  refine own_of (fun t => XS.ifYes X18.here hx rfl (pc0 := 28) (pc' := 34) rfl (hb hby d7_28) rfl ((if0 _ _).trans (teq hb28_19).1) (by decide) (by decide)) ?_
  show own_go p e below s _ _ _ (T18.setTop (mkF m 34 #[.val (.ref x), .val (.ref ar1), .val (.int (3 : Int32)), .val (.int (1 : Int32)), .val (.ref w1)] []))
  refine own_of (fun t => XS.iinc X18.here hx rfl (hb hby d7_34) rfl (l' := #[.val (.ref x), .val (.ref ar1), .val (.int (3 : Int32)), .val (.int (2 : Int32)), .val (.ref w1)]) rfl) ?_
  show own_go p e below s _ _ _ (T18.setTop (mkF m 37 #[.val (.ref x), .val (.ref ar1), .val (.int (3 : Int32)), .val (.int (2 : Int32)), .val (.ref w1)] []))
  refine own_of (fun t => XS.goto X18.here hx rfl (pc0 := 37) (pc' := 9) rfl (hb hby d7_37) (by decide) (by decide)) ?_
  show own_go p e below s _ _ _ (T18.setTop (mkF m 9 #[.val (.ref x), .val (.ref ar1), .val (.int (3 : Int32)), .val (.int (2 : Int32)), .val (.ref w1)] []))
  refine own_of (fun t => XS.iloadN X18.here hx rfl (hb hby d7_9) rfl) ?_
  show own_go p e below s _ _ _ (T18.setTop (mkF m 10 #[.val (.ref x), .val (.ref ar1), .val (.int (3 : Int32)), .val (.int (2 : Int32)), .val (.ref w1)] [(.int (2 : Int32))]))
  refine own_of (fun t => XS.iloadN X18.here hx rfl (hb hby d7_10) rfl) ?_
  show own_go p e below s _ _ _ (T18.setTop (mkF m 11 #[.val (.ref x), .val (.ref ar1), .val (.int (3 : Int32)), .val (.int (2 : Int32)), .val (.ref w1)] [(.int (3 : Int32)), (.int (2 : Int32))]))
  have hb11_20 : (2 : Int32) < (3 : Int32) := by decide
  refine own_of (fun t => XS.icmpNo X18.here hx rfl (hb hby d7_11) rfl (tlt hb11_20).2.1) ?_
  show own_go p e below s _ _ _ (T18.setTop (mkF m 14 #[.val (.ref x), .val (.ref ar1), .val (.int (3 : Int32)), .val (.int (2 : Int32)), .val (.ref w1)] []))
  refine own_of (fun t => XS.aloadN X18.here hx rfl (hb hby d7_14) rfl rfl) ?_
  show own_go p e below s _ _ _ (T18.setTop (mkF m 15 #[.val (.ref x), .val (.ref ar1), .val (.int (3 : Int32)), .val (.int (2 : Int32)), .val (.ref w1)] [(.ref ar1)]))
  refine own_of (fun t => XS.iloadN X18.here hx rfl (hb hby d7_15) rfl) ?_
  show own_go p e below s _ _ _ (T18.setTop (mkF m 16 #[.val (.ref x), .val (.ref ar1), .val (.int (3 : Int32)), .val (.int (2 : Int32)), .val (.ref w1)] [(.int (2 : Int32)), (.ref ar1)]))
  obtain ⟨cl21, Ar21, q21, S21, Ng21, H21, G21⟩ := id Va1
  have hin21 : ¬ ((2 : Int32) < 0 ∨ cl21.slots.size ≤ ((2 : Int32)).toNatClampNeg) := inb_of S21 ⟨by decide, by decide⟩
  have hat21 : cl21.slots[((2 : Int32)).toNatClampNeg]? = some (.ref w2) := H21 2 (by rw [S21]; decide)
  refine own_of (fun t => X18.aaload hx (j := (2 : Int32)) (v := (.ref w2)) (by rw [eh18]; exact Ar21.1) (State.isArrayOf_alike hZ.alike Ar21.2.1) rfl Ar21.2.2 hin21 hat21 (g := (mkF m 16 #[.val (.ref x), .val (.ref ar1), .val (.int (3 : Int32)), .val (.int (2 : Int32)), .val (.ref w1)] [(.int (2 : Int32)), (.ref ar1)])) rfl rfl (hb hby d7_16) _) ?_
  show own_go p e below s _ _ _ (T18.setTop (mkF m 17 #[.val (.ref x), .val (.ref ar1), .val (.int (3 : Int32)), .val (.int (2 : Int32)), .val (.ref w1)] [(.ref w2)]))
  refine own_of (fun t => XS.astore X18.here hx rfl (hb hby d7_17) rfl rfl (l' := #[.val (.ref x), .val (.ref ar1), .val (.int (3 : Int32)), .val (.int (2 : Int32)), .val (.ref w2)]) rfl) ?_
  show own_go p e below s _ _ _ (T18.setTop (mkF m 19 #[.val (.ref x), .val (.ref ar1), .val (.int (3 : Int32)), .val (.int (2 : Int32)), .val (.ref w2)] []))
  refine own_of (fun t => XS.aload X18.here hx rfl (hb hby d7_19) rfl rfl) ?_
  show own_go p e below s _ _ _ (T18.setTop (mkF m 21 #[.val (.ref x), .val (.ref ar1), .val (.int (3 : Int32)), .val (.int (2 : Int32)), .val (.ref w2)] [(.ref w2)]))
  have f22 : Fld Z T1.heap w2 "com/example/bo3/bo3/store/RunStatus" "columnValue" "Ljava/lang/String;" (.ref c2) := Fc2.ext O1.2
  obtain ⟨T23, X23, e23, st23⟩ := getF X18 hx hZ hown (host := "") (Or.inl (hW 54 _ rfl)) Via.refl eh18 f22 (g := (mkF m 21 #[.val (.ref x), .val (.ref ar1), .val (.int (3 : Int32)), .val (.int (2 : Int32)), .val (.ref w2)] [(.ref w2)])) rfl rfl (hb hby d7_21)
  refine own_of st23 ?_
  show own_go p e below s _ _ _ (T23.setTop (mkF m 24 #[.val (.ref x), .val (.ref ar1), .val (.int (3 : Int32)), .val (.int (2 : Int32)), .val (.ref w2)] [(.ref c2)]))
  refine own_of (fun t => XS.aloadN X23.here hx rfl (hb hby d7_24) rfl rfl) ?_
  show own_go p e below s _ _ _ (T23.setTop (mkF m 25 #[.val (.ref x), .val (.ref ar1), .val (.int (3 : Int32)), .val (.int (2 : Int32)), .val (.ref w2)] [(.ref x), (.ref c2)]))
  have f24 : own_str Z T1.heap c2 ([102, 97, 105, 108, 101, 100] : List Int32) := Sc2.ext O1.2
  obtain ⟨t25a, kb25a, N25a, vs25a, Ea25, Va25, Ca25, Ka25, cd25a⟩ := id f24
  obtain ⟨t25b, kb25b, N25b, vs25b, Eb25, Vb25, Cb25, Kb25, cd25b⟩ := id f8
  obtain ⟨cq26, kq26, q26a, q26b, q26c⟩ := isOf hZ e23 Ea25
  obtain ⟨_, _, ⟨T26, L26, k26, n26⟩, -, X26, ⟨Lc26, hQ26, l26, y26, z26⟩, st26⟩ := X23.virtualBack hx (y := (⟨"java/lang/String", "equals", "(Ljava/lang/Object;)Z"⟩ : MethodName)) (z := (⟨"java/lang/String", "equals", "(Ljava/lang/Object;)Z"⟩ : MethodName)) hown (mvT hZ (hW 56 _ rfl)) (mvT hZ (hW 57 _ rfl)) (notFace_of_selects (args := #[]) (mvT hZ (hW 59 _ rfl))) (mvT hZ (hW 59 _ rfl)) (mvT hZ (hW 58 _ rfl)) (by decide) (StrChars.Road.eqW (W := 0) hZ heq (kI := 4) (hW 6 _ rfl) Ea25 Va25 Ca25 Ka25 cd25a (by decide) (by decide) Eb25 Vb25 Cb25 Kb25 cd25b (by decide) (by decide) (O2.ext O1.2) P5 (by decide) (by decide)) q26a q26c (g := (mkF m 25 #[.val (.ref x), .val (.ref ar1), .val (.int (3 : Int32)), .val (.int (2 : Int32)), .val (.ref w2)] [(.ref x), (.ref c2)])) rfl (by rw [hml]; rfl) (Steps.refl _) (argsL := [(.ref x)]) (rest := []) (lenOf pd_1 rfl) rfl (by show 2 * 0 + _ ≤ _; exact Nat.le_of_eq rfl) (hb hby d7_25) (fun _ _ => ⟨rfl, e23, (by decide : 1 + 0 ≤ _), (by decide : 3 + 0 ≤ _)⟩)
  dsimp only [Pt.U, Pt.locs, Pt.cells, Pt.slots] at X26 l26 y26 z26 st26 hQ26
  subst l26 y26 z26
  obtain ⟨hc26, rfl, eh26⟩ := hQ26
  have hv26 : _ = some (Value.int 1) := hc26.elim (fun q => q.1) (fun q => absurd rfl q.2)
  subst hv26
  have Nq26 : Fr n0 ([] : List Loc) := Fr.nil n0
  have N26 := Fr.app N18 Nq26
  refine own_of (fun t k => st26.trans k) ?_
  show own_go p e below s _ _ _ (T26.setTop (mkF m 28 #[.val (.ref x), .val (.ref ar1), .val (.int (3 : Int32)), .val (.int (2 : Int32)), .val (.ref w2)] [(.int (1 : Int32))]))
  have hb28_27 : ¬ ((1 : Int32) = (0 : Int32)) := by decide
  refine own_of (fun t => XS.ifNo X26.here hx rfl (hb hby d7_28) rfl ((if0 _ _).trans (feq hb28_27).1)) ?_
  show own_go p e below s _ _ _ (T26.setTop (mkF m 31 #[.val (.ref x), .val (.ref ar1), .val (.int (3 : Int32)), .val (.int (2 : Int32)), .val (.ref w2)] []))
  refine own_of (fun t => XS.aload X26.here hx rfl (hb hby d7_31) rfl rfl) ?_
  show own_go p e below s _ _ _ (T26.setTop (mkF m 33 #[.val (.ref x), .val (.ref ar1), .val (.int (3 : Int32)), .val (.int (2 : Int32)), .val (.ref w2)] [(.ref w2)]))
  refine own_ret X26 hx hlk Bd.returns rfl (Or.inr (Or.inr (Or.inr (Or.inr ⟨rfl, rfl, rfl⟩)))) (hb hby d7_33) (by decide) (by decide) ?_
  rw [eh26]
  exact ⟨rfl, N26, K1⟩
theorem ef_rmC (m : MethodId) (x0 : Addr) : entryFrame m #[(.ref x0)] 1 = mkF m 0 #[.val (.ref x0)] [] := by first | (simp [entryFrame, mkF, argsToLocals, Value.category]; done) | rfl
theorem d11_0 : decode prog_53_method_4_code 0 = .ok (.aload_n 0, 1) := by decide +kernel
theorem d11_1 : decode prog_53_method_4_code 1 = .ok (.getfield 48, 3) := by decide +kernel
theorem d11_4 : decode prog_53_method_4_code 4 = .ok (.areturn, 1) := by decide +kernel
def Q_rmC (Z : State) (w : Addr) (cc : Addr) (h0 : Heap) (n0 : Nat) (v : Option Value) (h : Heap) (L : List Loc) : Prop := v = some (.ref cc) ∧ Fr n0 L ∧ h = h0
set_option maxRecDepth 65536 in
set_option maxHeartbeats 40000000 in
theorem rmC (l : Launch) (Z : State) (a0 : Array Value) (hw : ∀ d ∈ tables_1, d.before a0 Z = true) (ws : List Jvm.Cond) (w : Addr) (cc : Addr) (h0 : Heap) (n0 : Nat) (XO0 : Old Z n0 h0) (Fc : Fld Z Z.heap w "com/example/bo3/bo3/store/RunStatus" "columnValue" "Ljava/lang/String;" (.ref cc)) :
    MetFree l (⟨"com/example/bo3/bo3/store/RunStatus", "columnValue", "()Ljava/lang/String;"⟩ : MethodName) (head1 (Jvm.Cond.code (⟨"com/example/bo3/bo3/store/RunStatus", "columnValue", "()Ljava/lang/String;"⟩ : MethodName) prog_53_method_4_code 1 (some (.object "java/lang/String")) :: ws) ({ frames := 0, cells := 0, slots := 0, locals := 0 } : Room)) (fun zz_ U => zz_ = #[(.ref w)] ∧ Z.Warmed39 U.vm ∧ U.heap = h0) (fun _ _ _ _ _ => True) (fun _ U o U' => ∃ v L, o = .returned v ∧ Q_rmC Z w cc h0 n0 v U'.heap L ∧ FrameEnd U o U' L ({ frames := 0, cells := 0, slots := 0, locals := 0 } : Room).cells ({ frames := 0, cells := 0, slots := 0, locals := 0 } : Room).slots) := by
  refine MetFree.of_bodySF (plainFor_of_name pn_0) hisR ?_
  intro p e s m args below meth c s₁ Bd hml0 hP hK
  obtain ⟨rfl, hZ, hh⟩ := hP
  have hx := Bd.exec
  have hby := Bd.bytes
  have hlk := Bd.notSynchronized
  have hW : ∀ (i : Nat) (d : Jvm.Cond), tables_1[i]? = some d → d.before a0 Z = true := fun i d h => hw d (List.mem_of_getElem? h)
  have hml : c.maxLocals = 1 := hml0
  have hown : s.vm.findClass "com/example/bo3/bo3/store/RunStatus" = some m.cls := findClass_of_methodNamed Bd.named
  have hnm := (name_of_methodNamed Bd.named Bd.method).1
  have X0 : Stand p l e ({ frames := 0, cells := 0, slots := 0, locals := 0 } : Room) s m #[(.ref w)] below meth c s₁ [] 0 0 := Stand.of_body Bd
  have e0 : s₁.heap = h0 := by rw [← hh, Bd.state]; rfl
  have N0 := Fr.nil n0
  refine own_in ?_
  refine own_of (fun t k => castTop (ef_rmC m w) k) ?_
  show own_go p e below s _ _ _ (s₁.setTop (mkF m 0 #[.val (.ref w)] []))
  refine own_of (fun t => XS.aloadN X0.here hx rfl (hb hby d11_0) rfl rfl) ?_
  show own_go p e below s _ _ _ (s₁.setTop (mkF m 1 #[.val (.ref w)] [(.ref w)]))
  have f1 : Fld Z h0 w "com/example/bo3/bo3/store/RunStatus" "columnValue" "Ljava/lang/String;" (.ref cc) := Fc.ext XO0.2
  obtain ⟨T2, X2, e2, st2⟩ := getF X0 hx hZ hown (host := "") (Or.inl (hW 54 _ rfl)) Via.refl e0 f1 (g := (mkF m 1 #[.val (.ref w)] [(.ref w)])) rfl rfl (hb hby d11_1)
  refine own_of st2 ?_
  show own_go p e below s _ _ _ (T2.setTop (mkF m 4 #[.val (.ref w)] [(.ref cc)]))
  refine own_ret X2 hx hlk Bd.returns rfl (Or.inr (Or.inr (Or.inr (Or.inr ⟨rfl, rfl, rfl⟩)))) (hb hby d11_4) (by decide) (by decide) ?_
  rw [e2]
  exact ⟨rfl, N0, rfl⟩
theorem ef_rm0 (m : MethodId) (x0 : Int32) : entryFrame m #[(.int x0)] maxLocals = mkF m 0 #[.val (.int x0), .unset, .unset, .unset, .unset, .unset, .unset, .unset] [] := by first | (simp [entryFrame, mkF, argsToLocals, Value.category, maxLocals]; done) | rfl
theorem pn_1 : plainName "com/example/bo3/bo3/store/RunStatusOfColumnValuePinLaw" = true := by first | (simp [plainName, overriddenIn]; done) | decide +kernel
theorem pd_2 : parseMethodDescriptor "([C)V" = some ⟨[(.array .char)], none⟩ := by decide +kernel
theorem pd_3 : parseMethodDescriptor "(Ljava/lang/String;)Lcom/example/bo3/bo3/store/RunStatus;" = some ⟨[(.object "java/lang/String")], some (.object "com/example/bo3/bo3/store/RunStatus")⟩ := by decide +kernel
theorem pd_4 : parseMethodDescriptor "()Ljava/lang/String;" = some ⟨[], some (.object "java/lang/String")⟩ := by decide +kernel
def Q_rm0 (Z : State) (p1 : Int32) (va : Addr) (k : ClassId) (w0 : Addr) (w1 : Addr) (w2 : Addr) (c0 : Addr) (c1 : Addr) (c2 : Addr) (G1 : Int32) (h0 : Heap) (n0 : Nat) (v : Option Value) (h : Heap) (L : List Loc) : Prop := v = some (.int 1) ∧ Fr n0 L
set_option maxRecDepth 65536 in
set_option maxHeartbeats 40000000 in
theorem rm0 (l : Launch) (Z : State) (a0 : Array Value) (hw : ∀ d ∈ tables_1, d.before a0 Z = true) (ws : List Jvm.Cond) (p1 : Int32) (va : Addr) (k : ClassId) (w0 : Addr) (w1 : Addr) (w2 : Addr) (c0 : Addr) (c1 : Addr) (c2 : Addr) (G1 : Int32) (h0 : Heap) (n0 : Nat) (XO0 : Old Z n0 h0) (S_VA : Sta Z Z.heap "com/example/bo3/bo3/store/RunStatus" "$VALUES" "[Lcom/example/bo3/bo3/store/RunStatus;" (.ref va)) (E_va : Exa Z Z.heap va "[Lcom/example/bo3/bo3/store/RunStatus;") (V_va : Arv Z Z.heap va k (.object "com/example/bo3/bo3/store/RunStatus") (3 : Int32) [.ref w0, .ref w1, .ref w2] .null) (Fc0 : Fld Z Z.heap w0 "com/example/bo3/bo3/store/RunStatus" "columnValue" "Ljava/lang/String;" (.ref c0)) (Fc1 : Fld Z Z.heap w1 "com/example/bo3/bo3/store/RunStatus" "columnValue" "Ljava/lang/String;" (.ref c1)) (Fc2 : Fld Z Z.heap w2 "com/example/bo3/bo3/store/RunStatus" "columnValue" "Ljava/lang/String;" (.ref c2)) (Sc0 : own_str Z Z.heap c0 ([114, 117, 110, 110, 105, 110, 103] : List Int32)) (Sc1 : own_str Z Z.heap c1 ([99, 111, 109, 112, 108, 101, 116, 101, 100] : List Int32)) (Sc2 : own_str Z Z.heap c2 ([102, 97, 105, 108, 101, 100] : List Int32)) (O2 : Sta Z Z.heap "java/lang/String" "COMPACT_STRINGS" "Z" (.int G1)) (P5 : ¬ (G1 = (0 : Int32))) (S_RUNNING : Sta Z Z.heap "com/example/bo3/bo3/store/RunStatus" "RUNNING" "Lcom/example/bo3/bo3/store/RunStatus;" (.ref w0)) (S_COMPLETED : Sta Z Z.heap "com/example/bo3/bo3/store/RunStatus" "COMPLETED" "Lcom/example/bo3/bo3/store/RunStatus;" (.ref w1)) (S_FAILED : Sta Z Z.heap "com/example/bo3/bo3/store/RunStatus" "FAILED" "Lcom/example/bo3/bo3/store/RunStatus;" (.ref w2)) (Ew0 : Exa Z Z.heap w0 "com/example/bo3/bo3/store/RunStatus") (Ew1 : Exa Z Z.heap w1 "com/example/bo3/bo3/store/RunStatus") (Ew2 : Exa Z Z.heap w2 "com/example/bo3/bo3/store/RunStatus") :
    MetFree l x (head1 (Jvm.Cond.code x code maxLocals ret :: ws) room_1) (fun zz_ U => zz_ = #[(.int p1)] ∧ Z.Warmed39 U.vm ∧ U.heap = h0) (fun _ _ _ _ _ => True) (fun _ U o U' => ∃ v L, o = .returned v ∧ Q_rm0 Z p1 va k w0 w1 w2 c0 c1 c2 G1 h0 n0 v U'.heap L ∧ FrameEnd U o U' L room_1.cells room_1.slots) := by
  refine MetFree.of_bodySF (plainFor_of_name pn_1) hisR ?_
  intro p e s m args below meth c s₁ Bd hml0 hP hK
  obtain ⟨rfl, hZ, hh⟩ := hP
  have hx := Bd.exec
  have hby := Bd.bytes
  have hlk := Bd.notSynchronized
  have hW : ∀ (i : Nat) (d : Jvm.Cond), tables_1[i]? = some d → d.before a0 Z = true := fun i d h => hw d (List.mem_of_getElem? h)
  have hml : c.maxLocals = 8 := hml0
  have hown : s.vm.findClass "com/example/bo3/bo3/store/RunStatusOfColumnValuePinLaw" = some m.cls := findClass_of_methodNamed Bd.named
  have hnm := (name_of_methodNamed Bd.named Bd.method).1
  have X0 : Stand p l e room_1 s m #[(.int p1)] below meth c s₁ [] 0 0 := Stand.of_body Bd
  have e0 : s₁.heap = h0 := by rw [← hh, Bd.state]; rfl
  have N0 := Fr.nil n0
  refine own_in ?_
  refine own_of (fun t k => castTop (ef_rm0 m p1) k) ?_
  show own_go p e below s _ _ _ (s₁.setTop (mkF m 0 #[.val (.int p1), .unset, .unset, .unset, .unset, .unset, .unset, .unset] []))
  refine own_of (fun t => XS.iloadN X0.here hx rfl (hb hby at_0) rfl) ?_
  show own_go p e below s _ _ _ (s₁.setTop (mkF m 1 #[.val (.int p1), .unset, .unset, .unset, .unset, .unset, .unset, .unset] [(.int p1)]))
  refine own_of (fun t => X0.ldcI hx hown (mvT hZ (hW 0 _ rfl)) rfl (hb hby at_1)) ?_
  show own_go p e below s _ _ _ (s₁.setTop (mkF m 3 #[.val (.int p1), .unset, .unset, .unset, .unset, .unset, .unset, .unset] [(.int (2147483647 : Int32)), (.int p1)]))
  refine own_of (fun t => XS.iand X0.here hx rfl (hb hby at_3) rfl) ?_
  show own_go p e below s _ _ _ (s₁.setTop (mkF m 4 #[.val (.int p1), .unset, .unset, .unset, .unset, .unset, .unset, .unset] [(.int (p1 &&& (2147483647 : Int32)))]))
  refine own_of (fun t => XS.iconst X0.here hx rfl (hb hby at_4)) ?_
  show own_go p e below s _ _ _ (s₁.setTop (mkF m 5 #[.val (.int p1), .unset, .unset, .unset, .unset, .unset, .unset, .unset] [(.int (3 : Int32)), (.int (p1 &&& (2147483647 : Int32)))]))
  refine own_of (fun t => iremM X0 hx rfl (hb hby at_5) rfl (by decide)) ?_
  show own_go p e below s _ _ _ (s₁.setTop (mkF m 6 #[.val (.int p1), .unset, .unset, .unset, .unset, .unset, .unset, .unset] [(.int ((p1 &&& (2147483647 : Int32)) % (3 : Int32)))]))
  have heq : ∀ d ∈ StrChars.Road.wordsEq, d.before a0 Z = true := fun d hd => hw d ((by decide +kernel : ∀ d ∈ StrChars.Road.wordsEq, d ∈ tables_1) d hd)
  have hws : ∀ d ∈ StrChars.Road.words, d.before a0 Z = true := fun d hd => hw d ((by decide +kernel : ∀ d ∈ StrChars.Road.words, d ∈ tables_1) d hd)
  rcases own_mod3 p1 with hi | hi | hi
  · rw [hi]
    show own_go p e below s _ _ _ (s₁.setTop (mkF m 6 #[.val (.int p1), .unset, .unset, .unset, .unset, .unset, .unset, .unset] [(.int (0 : Int32))]))
    refine own_of (fun t => XS.istoreN X0.here hx rfl (hb hby at_6) rfl (l' := #[.val (.int p1), .val (.int (0 : Int32)), .unset, .unset, .unset, .unset, .unset, .unset]) rfl) ?_
    show own_go p e below s _ _ _ (s₁.setTop (mkF m 7 #[.val (.int p1), .val (.int (0 : Int32)), .unset, .unset, .unset, .unset, .unset, .unset] []))
    refine own_of (fun t => XS.iloadN X0.here hx rfl (hb hby at_7) rfl) ?_
    show own_go p e below s _ _ _ (s₁.setTop (mkF m 8 #[.val (.int p1), .val (.int (0 : Int32)), .unset, .unset, .unset, .unset, .unset, .unset] [(.int (0 : Int32))]))
    have hb8_1 : (0 : Int32) = (0 : Int32) := by decide
    refine own_of (fun t => XS.ifNo X0.here hx rfl (hb hby at_8) rfl ((if0 _ _).trans (teq hb8_1).2)) ?_
    show own_go p e below s _ _ _ (s₁.setTop (mkF m 11 #[.val (.int p1), .val (.int (0 : Int32)), .unset, .unset, .unset, .unset, .unset, .unset] []))
    obtain ⟨T2, X2, e2, st2⟩ := getS2 X0 hx hZ hown (host := "") (Or.inl (hW 1 _ rfl)) Via.refl e0 (S_RUNNING.ext XO0.2) (g := (mkF m 11 #[.val (.int p1), .val (.int (0 : Int32)), .unset, .unset, .unset, .unset, .unset, .unset] [])) rfl (hb hby at_11)
    refine own_of st2 ?_
    show own_go p e below s _ _ _ (T2.setTop (mkF m 14 #[.val (.int p1), .val (.int (0 : Int32)), .unset, .unset, .unset, .unset, .unset, .unset] [(.ref w0)]))
    refine own_of (fun t => XS.astoreN X2.here hx rfl (hb hby at_14) rfl rfl (l' := #[.val (.int p1), .val (.int (0 : Int32)), .val (.ref w0), .unset, .unset, .unset, .unset, .unset]) rfl) ?_
    show own_go p e below s _ _ _ (T2.setTop (mkF m 15 #[.val (.int p1), .val (.int (0 : Int32)), .val (.ref w0), .unset, .unset, .unset, .unset, .unset] []))
    refine own_of (fun t => XS.bipush X2.here hx rfl (hb hby at_15)) ?_
    show own_go p e below s _ _ _ (T2.setTop (mkF m 17 #[.val (.int p1), .val (.int (0 : Int32)), .val (.ref w0), .unset, .unset, .unset, .unset, .unset] [(.int (7 : Int32))]))
    obtain ⟨T3, h3, k3, X3, e3, E3, A3, st3⟩ := newP X2 hx hZ (hW 4 _ rfl) e2 (g := (mkF m 17 #[.val (.int p1), .val (.int (0 : Int32)), .val (.ref w0), .unset, .unset, .unset, .unset, .unset] [(.int (7 : Int32))])) rfl (hb hby at_17) rfl (by decide) (cap := 7) (by decide) (by decide) (by decide) (by decide)
    obtain ⟨b3, g3⟩ : ∃ z, z = h0.size := ⟨_, rfl⟩
    rw [← g3] at A3 st3
    refine own_of st3 ?_
    have lt3 : b3 < h3.size := A3.lt
    have sz3 : h0.size ≤ h3.size := E3.1
    have O3 : Old Z n0 h3 := XO0.ext E3
    have z3 : n0 ≤ b3 := by have := XO0.1 ▸ XO0.2.1; omega
    have V3 : Arv Z h3 b3 k3 .char (7 : Int32) [(.int (0 : Int32)), (.int (0 : Int32)), (.int (0 : Int32)), (.int (0 : Int32)), (.int (0 : Int32)), (.int (0 : Int32)), (.int (0 : Int32))] (.int (0 : Int32)) := (Arv.new A3 (by decide)).pad (pad_rep [] (.int (0 : Int32)) 7)
    show own_go p e below s _ _ _ (T3.setTop (mkF m 19 #[.val (.int p1), .val (.int (0 : Int32)), .val (.ref w0), .unset, .unset, .unset, .unset, .unset] [(.ref b3)]))
    refine own_of (fun t => XS.dup X3.here hx rfl (hb hby at_19) rfl rfl) ?_
    show own_go p e below s _ _ _ (T3.setTop (mkF m 20 #[.val (.int p1), .val (.int (0 : Int32)), .val (.ref w0), .unset, .unset, .unset, .unset, .unset] [(.ref b3), (.ref b3)]))
    refine own_of (fun t => XS.iconst X3.here hx rfl (hb hby at_20)) ?_
    show own_go p e below s _ _ _ (T3.setTop (mkF m 21 #[.val (.int p1), .val (.int (0 : Int32)), .val (.ref w0), .unset, .unset, .unset, .unset, .unset] [(.int (0 : Int32)), (.ref b3), (.ref b3)]))
    refine own_of (fun t => XS.bipush X3.here hx rfl (hb hby at_21)) ?_
    show own_go p e below s _ _ _ (T3.setTop (mkF m 23 #[.val (.int p1), .val (.int (0 : Int32)), .val (.ref w0), .unset, .unset, .unset, .unset, .unset] [(.int (114 : Int32)), (.int (0 : Int32)), (.ref b3), (.ref b3)]))
    obtain ⟨cl4, Ar4, q4, S4, Ng4, H4, G4⟩ := V3
    obtain ⟨T4, h4, X4, e4, W4, st4⟩ := stC X3 hx hZ e3 Ar4 (j := (0 : Int32)) (inb_of S4 ⟨by decide, by decide⟩) (g := (mkF m 23 #[.val (.int p1), .val (.int (0 : Int32)), .val (.ref w0), .unset, .unset, .unset, .unset, .unset] [(.int (114 : Int32)), (.int (0 : Int32)), (.ref b3), (.ref b3)])) rfl rfl (hb hby at_23)
    have V4 : Arv Z h4 b3 k3 .char (7 : Int32) [(.int (114 : Int32)), (.int (0 : Int32)), (.int (0 : Int32)), (.int (0 : Int32)), (.int (0 : Int32)), (.int (0 : Int32)), (.int (0 : Int32))] (.int (0 : Int32)) := Arv.set Ar4 q4 S4 Ng4 H4 G4 rfl W4 0 rfl (Nat.le_of_ble_eq_true rfl)
    refine own_of st4 ?_
    have N4 := Fr.snoc X4 N0 (by omega : n0 ≤ b3)
    have sz4 : h4.size = h3.size := W4.size
    have O4 : Old Z n0 h4 := O3.wr W4 (by omega)
    show own_go p e below s _ _ _ (T4.setTop (mkF m 24 #[.val (.int p1), .val (.int (0 : Int32)), .val (.ref w0), .unset, .unset, .unset, .unset, .unset] [(.ref b3)]))
    refine own_of (fun t => XS.dup X4.here hx rfl (hb hby at_24) rfl rfl) ?_
    show own_go p e below s _ _ _ (T4.setTop (mkF m 25 #[.val (.int p1), .val (.int (0 : Int32)), .val (.ref w0), .unset, .unset, .unset, .unset, .unset] [(.ref b3), (.ref b3)]))
    refine own_of (fun t => XS.iconst X4.here hx rfl (hb hby at_25)) ?_
    show own_go p e below s _ _ _ (T4.setTop (mkF m 26 #[.val (.int p1), .val (.int (0 : Int32)), .val (.ref w0), .unset, .unset, .unset, .unset, .unset] [(.int (1 : Int32)), (.ref b3), (.ref b3)]))
    refine own_of (fun t => XS.bipush X4.here hx rfl (hb hby at_26)) ?_
    show own_go p e below s _ _ _ (T4.setTop (mkF m 28 #[.val (.int p1), .val (.int (0 : Int32)), .val (.ref w0), .unset, .unset, .unset, .unset, .unset] [(.int (117 : Int32)), (.int (1 : Int32)), (.ref b3), (.ref b3)]))
    obtain ⟨cl5, Ar5, q5, S5, Ng5, H5, G5⟩ := V4
    obtain ⟨T5, h5, X5, e5, W5, st5⟩ := stC X4 hx hZ e4 Ar5 (j := (1 : Int32)) (inb_of S5 ⟨by decide, by decide⟩) (g := (mkF m 28 #[.val (.int p1), .val (.int (0 : Int32)), .val (.ref w0), .unset, .unset, .unset, .unset, .unset] [(.int (117 : Int32)), (.int (1 : Int32)), (.ref b3), (.ref b3)])) rfl rfl (hb hby at_28)
    have V5 : Arv Z h5 b3 k3 .char (7 : Int32) [(.int (114 : Int32)), (.int (117 : Int32)), (.int (0 : Int32)), (.int (0 : Int32)), (.int (0 : Int32)), (.int (0 : Int32)), (.int (0 : Int32))] (.int (0 : Int32)) := Arv.set Ar5 q5 S5 Ng5 H5 G5 rfl W5 1 rfl (Nat.le_of_ble_eq_true rfl)
    refine own_of st5 ?_
    have N5 := Fr.snoc X5 N4 (by omega : n0 ≤ b3)
    have sz5 : h5.size = h4.size := W5.size
    have O5 : Old Z n0 h5 := O4.wr W5 (by omega)
    show own_go p e below s _ _ _ (T5.setTop (mkF m 29 #[.val (.int p1), .val (.int (0 : Int32)), .val (.ref w0), .unset, .unset, .unset, .unset, .unset] [(.ref b3)]))
    refine own_of (fun t => XS.dup X5.here hx rfl (hb hby at_29) rfl rfl) ?_
    show own_go p e below s _ _ _ (T5.setTop (mkF m 30 #[.val (.int p1), .val (.int (0 : Int32)), .val (.ref w0), .unset, .unset, .unset, .unset, .unset] [(.ref b3), (.ref b3)]))
    refine own_of (fun t => XS.iconst X5.here hx rfl (hb hby at_30)) ?_
    show own_go p e below s _ _ _ (T5.setTop (mkF m 31 #[.val (.int p1), .val (.int (0 : Int32)), .val (.ref w0), .unset, .unset, .unset, .unset, .unset] [(.int (2 : Int32)), (.ref b3), (.ref b3)]))
    refine own_of (fun t => XS.bipush X5.here hx rfl (hb hby at_31)) ?_
    show own_go p e below s _ _ _ (T5.setTop (mkF m 33 #[.val (.int p1), .val (.int (0 : Int32)), .val (.ref w0), .unset, .unset, .unset, .unset, .unset] [(.int (110 : Int32)), (.int (2 : Int32)), (.ref b3), (.ref b3)]))
    obtain ⟨cl6, Ar6, q6, S6, Ng6, H6, G6⟩ := V5
    obtain ⟨T6, h6, X6, e6, W6, st6⟩ := stC X5 hx hZ e5 Ar6 (j := (2 : Int32)) (inb_of S6 ⟨by decide, by decide⟩) (g := (mkF m 33 #[.val (.int p1), .val (.int (0 : Int32)), .val (.ref w0), .unset, .unset, .unset, .unset, .unset] [(.int (110 : Int32)), (.int (2 : Int32)), (.ref b3), (.ref b3)])) rfl rfl (hb hby at_33)
    have V6 : Arv Z h6 b3 k3 .char (7 : Int32) [(.int (114 : Int32)), (.int (117 : Int32)), (.int (110 : Int32)), (.int (0 : Int32)), (.int (0 : Int32)), (.int (0 : Int32)), (.int (0 : Int32))] (.int (0 : Int32)) := Arv.set Ar6 q6 S6 Ng6 H6 G6 rfl W6 2 rfl (Nat.le_of_ble_eq_true rfl)
    refine own_of st6 ?_
    have N6 := Fr.snoc X6 N5 (by omega : n0 ≤ b3)
    have sz6 : h6.size = h5.size := W6.size
    have O6 : Old Z n0 h6 := O5.wr W6 (by omega)
    show own_go p e below s _ _ _ (T6.setTop (mkF m 34 #[.val (.int p1), .val (.int (0 : Int32)), .val (.ref w0), .unset, .unset, .unset, .unset, .unset] [(.ref b3)]))
    refine own_of (fun t => XS.dup X6.here hx rfl (hb hby at_34) rfl rfl) ?_
    show own_go p e below s _ _ _ (T6.setTop (mkF m 35 #[.val (.int p1), .val (.int (0 : Int32)), .val (.ref w0), .unset, .unset, .unset, .unset, .unset] [(.ref b3), (.ref b3)]))
    refine own_of (fun t => XS.iconst X6.here hx rfl (hb hby at_35)) ?_
    show own_go p e below s _ _ _ (T6.setTop (mkF m 36 #[.val (.int p1), .val (.int (0 : Int32)), .val (.ref w0), .unset, .unset, .unset, .unset, .unset] [(.int (3 : Int32)), (.ref b3), (.ref b3)]))
    refine own_of (fun t => XS.bipush X6.here hx rfl (hb hby at_36)) ?_
    show own_go p e below s _ _ _ (T6.setTop (mkF m 38 #[.val (.int p1), .val (.int (0 : Int32)), .val (.ref w0), .unset, .unset, .unset, .unset, .unset] [(.int (110 : Int32)), (.int (3 : Int32)), (.ref b3), (.ref b3)]))
    obtain ⟨cl7, Ar7, q7, S7, Ng7, H7, G7⟩ := V6
    obtain ⟨T7, h7, X7, e7, W7, st7⟩ := stC X6 hx hZ e6 Ar7 (j := (3 : Int32)) (inb_of S7 ⟨by decide, by decide⟩) (g := (mkF m 38 #[.val (.int p1), .val (.int (0 : Int32)), .val (.ref w0), .unset, .unset, .unset, .unset, .unset] [(.int (110 : Int32)), (.int (3 : Int32)), (.ref b3), (.ref b3)])) rfl rfl (hb hby at_38)
    have V7 : Arv Z h7 b3 k3 .char (7 : Int32) [(.int (114 : Int32)), (.int (117 : Int32)), (.int (110 : Int32)), (.int (110 : Int32)), (.int (0 : Int32)), (.int (0 : Int32)), (.int (0 : Int32))] (.int (0 : Int32)) := Arv.set Ar7 q7 S7 Ng7 H7 G7 rfl W7 3 rfl (Nat.le_of_ble_eq_true rfl)
    refine own_of st7 ?_
    have N7 := Fr.snoc X7 N6 (by omega : n0 ≤ b3)
    have sz7 : h7.size = h6.size := W7.size
    have O7 : Old Z n0 h7 := O6.wr W7 (by omega)
    show own_go p e below s _ _ _ (T7.setTop (mkF m 39 #[.val (.int p1), .val (.int (0 : Int32)), .val (.ref w0), .unset, .unset, .unset, .unset, .unset] [(.ref b3)]))
    refine own_of (fun t => XS.dup X7.here hx rfl (hb hby at_39) rfl rfl) ?_
    show own_go p e below s _ _ _ (T7.setTop (mkF m 40 #[.val (.int p1), .val (.int (0 : Int32)), .val (.ref w0), .unset, .unset, .unset, .unset, .unset] [(.ref b3), (.ref b3)]))
    refine own_of (fun t => XS.iconst X7.here hx rfl (hb hby at_40)) ?_
    show own_go p e below s _ _ _ (T7.setTop (mkF m 41 #[.val (.int p1), .val (.int (0 : Int32)), .val (.ref w0), .unset, .unset, .unset, .unset, .unset] [(.int (4 : Int32)), (.ref b3), (.ref b3)]))
    refine own_of (fun t => XS.bipush X7.here hx rfl (hb hby at_41)) ?_
    show own_go p e below s _ _ _ (T7.setTop (mkF m 43 #[.val (.int p1), .val (.int (0 : Int32)), .val (.ref w0), .unset, .unset, .unset, .unset, .unset] [(.int (105 : Int32)), (.int (4 : Int32)), (.ref b3), (.ref b3)]))
    obtain ⟨cl8, Ar8, q8, S8, Ng8, H8, G8⟩ := V7
    obtain ⟨T8, h8, X8, e8, W8, st8⟩ := stC X7 hx hZ e7 Ar8 (j := (4 : Int32)) (inb_of S8 ⟨by decide, by decide⟩) (g := (mkF m 43 #[.val (.int p1), .val (.int (0 : Int32)), .val (.ref w0), .unset, .unset, .unset, .unset, .unset] [(.int (105 : Int32)), (.int (4 : Int32)), (.ref b3), (.ref b3)])) rfl rfl (hb hby at_43)
    have V8 : Arv Z h8 b3 k3 .char (7 : Int32) [(.int (114 : Int32)), (.int (117 : Int32)), (.int (110 : Int32)), (.int (110 : Int32)), (.int (105 : Int32)), (.int (0 : Int32)), (.int (0 : Int32))] (.int (0 : Int32)) := Arv.set Ar8 q8 S8 Ng8 H8 G8 rfl W8 4 rfl (Nat.le_of_ble_eq_true rfl)
    refine own_of st8 ?_
    have N8 := Fr.snoc X8 N7 (by omega : n0 ≤ b3)
    have sz8 : h8.size = h7.size := W8.size
    have O8 : Old Z n0 h8 := O7.wr W8 (by omega)
    show own_go p e below s _ _ _ (T8.setTop (mkF m 44 #[.val (.int p1), .val (.int (0 : Int32)), .val (.ref w0), .unset, .unset, .unset, .unset, .unset] [(.ref b3)]))
    refine own_of (fun t => XS.dup X8.here hx rfl (hb hby at_44) rfl rfl) ?_
    show own_go p e below s _ _ _ (T8.setTop (mkF m 45 #[.val (.int p1), .val (.int (0 : Int32)), .val (.ref w0), .unset, .unset, .unset, .unset, .unset] [(.ref b3), (.ref b3)]))
    refine own_of (fun t => XS.iconst X8.here hx rfl (hb hby at_45)) ?_
    show own_go p e below s _ _ _ (T8.setTop (mkF m 46 #[.val (.int p1), .val (.int (0 : Int32)), .val (.ref w0), .unset, .unset, .unset, .unset, .unset] [(.int (5 : Int32)), (.ref b3), (.ref b3)]))
    refine own_of (fun t => XS.bipush X8.here hx rfl (hb hby at_46)) ?_
    show own_go p e below s _ _ _ (T8.setTop (mkF m 48 #[.val (.int p1), .val (.int (0 : Int32)), .val (.ref w0), .unset, .unset, .unset, .unset, .unset] [(.int (110 : Int32)), (.int (5 : Int32)), (.ref b3), (.ref b3)]))
    obtain ⟨cl9, Ar9, q9, S9, Ng9, H9, G9⟩ := V8
    obtain ⟨T9, h9, X9, e9, W9, st9⟩ := stC X8 hx hZ e8 Ar9 (j := (5 : Int32)) (inb_of S9 ⟨by decide, by decide⟩) (g := (mkF m 48 #[.val (.int p1), .val (.int (0 : Int32)), .val (.ref w0), .unset, .unset, .unset, .unset, .unset] [(.int (110 : Int32)), (.int (5 : Int32)), (.ref b3), (.ref b3)])) rfl rfl (hb hby at_48)
    have V9 : Arv Z h9 b3 k3 .char (7 : Int32) [(.int (114 : Int32)), (.int (117 : Int32)), (.int (110 : Int32)), (.int (110 : Int32)), (.int (105 : Int32)), (.int (110 : Int32)), (.int (0 : Int32))] (.int (0 : Int32)) := Arv.set Ar9 q9 S9 Ng9 H9 G9 rfl W9 5 rfl (Nat.le_of_ble_eq_true rfl)
    refine own_of st9 ?_
    have N9 := Fr.snoc X9 N8 (by omega : n0 ≤ b3)
    have sz9 : h9.size = h8.size := W9.size
    have O9 : Old Z n0 h9 := O8.wr W9 (by omega)
    show own_go p e below s _ _ _ (T9.setTop (mkF m 49 #[.val (.int p1), .val (.int (0 : Int32)), .val (.ref w0), .unset, .unset, .unset, .unset, .unset] [(.ref b3)]))
    refine own_of (fun t => XS.dup X9.here hx rfl (hb hby at_49) rfl rfl) ?_
    show own_go p e below s _ _ _ (T9.setTop (mkF m 50 #[.val (.int p1), .val (.int (0 : Int32)), .val (.ref w0), .unset, .unset, .unset, .unset, .unset] [(.ref b3), (.ref b3)]))
    refine own_of (fun t => XS.bipush X9.here hx rfl (hb hby at_50)) ?_
    show own_go p e below s _ _ _ (T9.setTop (mkF m 52 #[.val (.int p1), .val (.int (0 : Int32)), .val (.ref w0), .unset, .unset, .unset, .unset, .unset] [(.int (6 : Int32)), (.ref b3), (.ref b3)]))
    refine own_of (fun t => XS.bipush X9.here hx rfl (hb hby at_52)) ?_
    show own_go p e below s _ _ _ (T9.setTop (mkF m 54 #[.val (.int p1), .val (.int (0 : Int32)), .val (.ref w0), .unset, .unset, .unset, .unset, .unset] [(.int (103 : Int32)), (.int (6 : Int32)), (.ref b3), (.ref b3)]))
    obtain ⟨cl10, Ar10, q10, S10, Ng10, H10, G10⟩ := V9
    obtain ⟨T10, h10, X10, e10, W10, st10⟩ := stC X9 hx hZ e9 Ar10 (j := (6 : Int32)) (inb_of S10 ⟨by decide, by decide⟩) (g := (mkF m 54 #[.val (.int p1), .val (.int (0 : Int32)), .val (.ref w0), .unset, .unset, .unset, .unset, .unset] [(.int (103 : Int32)), (.int (6 : Int32)), (.ref b3), (.ref b3)])) rfl rfl (hb hby at_54)
    have V10 : Arv Z h10 b3 k3 .char (7 : Int32) [(.int (114 : Int32)), (.int (117 : Int32)), (.int (110 : Int32)), (.int (110 : Int32)), (.int (105 : Int32)), (.int (110 : Int32)), (.int (103 : Int32))] (.int (0 : Int32)) := Arv.set Ar10 q10 S10 Ng10 H10 G10 rfl W10 6 rfl (Nat.le_of_ble_eq_true rfl)
    refine own_of st10 ?_
    have N10 := Fr.snoc X10 N9 (by omega : n0 ≤ b3)
    have sz10 : h10.size = h9.size := W10.size
    have O10 : Old Z n0 h10 := O9.wr W10 (by omega)
    show own_go p e below s _ _ _ (T10.setTop (mkF m 55 #[.val (.int p1), .val (.int (0 : Int32)), .val (.ref w0), .unset, .unset, .unset, .unset, .unset] [(.ref b3)]))
    refine own_of (fun t => XS.astoreN X10.here hx rfl (hb hby at_55) rfl rfl (l' := #[.val (.int p1), .val (.int (0 : Int32)), .val (.ref w0), .val (.ref b3), .unset, .unset, .unset, .unset]) rfl) ?_
    show own_go p e below s _ _ _ (T10.setTop (mkF m 56 #[.val (.int p1), .val (.int (0 : Int32)), .val (.ref w0), .val (.ref b3), .unset, .unset, .unset, .unset] []))
    refine own_of (fun t => XS.goto X10.here hx rfl (pc0 := 56) (pc' := 163) rfl (hb hby at_56) (by decide) (by decide)) ?_
    show own_go p e below s _ _ _ (T10.setTop (mkF m 163 #[.val (.int p1), .val (.int (0 : Int32)), .val (.ref w0), .val (.ref b3), .unset, .unset, .unset, .unset] []))
    obtain ⟨T11, h11, X11, e11, E11, A11, D11, -, st11⟩ := newO X10 hx hZ hown (hW 5 _ rfl) (hW 6 _ rfl) (hW 7 _ rfl) e10 (g := (mkF m 163 #[.val (.int p1), .val (.int (0 : Int32)), .val (.ref w0), .val (.ref b3), .unset, .unset, .unset, .unset] [])) rfl (hb hby at_163) (by decide) (by decide)
    obtain ⟨b11, g11⟩ : ∃ z, z = h10.size := ⟨_, rfl⟩
    rw [← g11] at A11 D11 st11
    refine own_of st11 ?_
    have lt11 : b11 < h11.size := A11.lt
    have sz11 : h10.size ≤ h11.size := E11.1
    have O11 : Old Z n0 h11 := O10.ext E11
    have z11 : n0 ≤ b11 := by have := O10.1 ▸ O10.2.1; omega
    have F11_coder : Fld Z h11 b11 "java/lang/String" "coder" "B" (.int (0 : Int32)) := D11 (Or.inr (hW 31 _ rfl)) (ty := .byte) (by decide)
    have F11_value : Fld Z h11 b11 "java/lang/String" "value" "[B" .null := D11 (Or.inr (hW 33 _ rfl)) (ty := (.array .byte)) (by decide)
    show own_go p e below s _ _ _ (T11.setTop (mkF m 166 #[.val (.int p1), .val (.int (0 : Int32)), .val (.ref w0), .val (.ref b3), .unset, .unset, .unset, .unset] [(.ref b11)]))
    refine own_of (fun t => XS.dup X11.here hx rfl (hb hby at_166) rfl rfl) ?_
    show own_go p e below s _ _ _ (T11.setTop (mkF m 167 #[.val (.int p1), .val (.int (0 : Int32)), .val (.ref w0), .val (.ref b3), .unset, .unset, .unset, .unset] [(.ref b11), (.ref b11)]))
    refine own_of (fun t => XS.aloadN X11.here hx rfl (hb hby at_167) rfl rfl) ?_
    show own_go p e below s _ _ _ (T11.setTop (mkF m 168 #[.val (.int p1), .val (.int (0 : Int32)), .val (.ref w0), .val (.ref b3), .unset, .unset, .unset, .unset] [(.ref b3), (.ref b11), (.ref b11)]))
    have hp : ∀ c ∈ ([114, 117, 110, 110, 105, 110, 103] : List Int32), ¬ c < 0 ∧ ¬ (255 : Int32) < c := by decide
    have f12 : Arv Z h11 b3 k3 .char (7 : Int32) [(.int (114 : Int32)), (.int (117 : Int32)), (.int (110 : Int32)), (.int (110 : Int32)), (.int (105 : Int32)), (.int (110 : Int32)), (.int (103 : Int32))] (.int (0 : Int32)) := (V10.ext E11)
    obtain ⟨_, _, ⟨T13, L13, k13, n13⟩, -, X13, ⟨Lc13, hQ13, l13, y13, z13⟩, st13⟩ := X11.specialBack hx (y := (⟨"java/lang/String", "<init>", "([C)V"⟩ : MethodName)) rfl hown (mvT hZ (hW 8 _ rfl)) (mvT hZ (hW 9 _ rfl)) (mvT hZ (hW 10 _ rfl)) (by decide) (StrChars.Road.backV (W := 1) hZ hws (kI := 4) (hW 6 _ rfl) (cs := ([114, 117, 110, 110, 105, 110, 103] : List Int32)) (bs := ([114, 117, 110, 110, 105, 110, 103] : List Int32).map (fun c => c.toInt8.toInt32)) (n := 7) (by omega : n0 ≤ b11) (by omega : n0 ≤ h11.size) A11 F11_value F11_coder f12 (O2.ext O11.2) P5 rfl rfl (by decide) (by decide) hp rfl (by decide) (by decide)) (g := (mkF m 168 #[.val (.int p1), .val (.int (0 : Int32)), .val (.ref w0), .val (.ref b3), .unset, .unset, .unset, .unset] [(.ref b3), (.ref b11), (.ref b11)])) rfl (by rw [hml]; rfl) (Steps.refl _) (a := b11) (argsL := [(.ref b3)]) (rest := [(.ref b11)]) (lenOf pd_2 rfl) rfl (by show 2 * 0 + _ ≤ _; exact Nat.le_of_eq rfl) (hb hby at_168) (fun _ _ => ⟨rfl, e11, (by decide : 2 + 1 ≤ _), (by decide : 11 + 7 ≤ _)⟩)
    dsimp only [Pt.U, Pt.locs, Pt.cells, Pt.slots] at X13 l13 y13 z13 st13 hQ13
    subst l13 y13 z13
    obtain ⟨rfl, Nq13, Kp13, g113, g213, t13, kb13, u113, u213, u313, g413, g513⟩ := hQ13
    have N13 := Fr.app N10 Nq13
    refine own_of (fun t k => st13.trans k) ?_
    have sz13 : h11.size ≤ T13.heap.size := Kp13.1
    have O13 : Old Z n0 T13.heap := O11.keep Kp13 (by simp only [List.mem_cons, List.not_mem_nil, or_false, forall_eq, false_implies, implies_true]; omega)
    have Sx13 : own_str Z T13.heap b11 ([114, 117, 110, 110, 105, 110, 103] : List Int32) := ⟨t13, kb13, _, _, g113, g413, g213, g513, StrChars.Road.codOf (n := 7) rfl (fun c hc => (hp c hc).2)⟩
    show own_go p e below s _ _ _ (T13.setTop (mkF m 171 #[.val (.int p1), .val (.int (0 : Int32)), .val (.ref w0), .val (.ref b3), .unset, .unset, .unset, .unset] [(.ref b11)]))
    refine own_of (fun t => XS.astore X13.here hx rfl (hb hby at_171) rfl rfl (l' := #[.val (.int p1), .val (.int (0 : Int32)), .val (.ref w0), .val (.ref b3), .val (.ref b11), .unset, .unset, .unset]) rfl) ?_
    show own_go p e below s _ _ _ (T13.setTop (mkF m 173 #[.val (.int p1), .val (.int (0 : Int32)), .val (.ref w0), .val (.ref b3), .val (.ref b11), .unset, .unset, .unset] []))
    refine own_of (fun t => XS.aload X13.here hx rfl (hb hby at_173) rfl rfl) ?_
    show own_go p e below s _ _ _ (T13.setTop (mkF m 175 #[.val (.int p1), .val (.int (0 : Int32)), .val (.ref w0), .val (.ref b3), .val (.ref b11), .unset, .unset, .unset] [(.ref b11)]))
    obtain ⟨_, _, ⟨T14, L14, k14, n14⟩, -, X14, ⟨Lc14, hQ14, l14, y14, z14⟩, st14⟩ := Jvm.LawKit.callS X13 hx (y := (⟨"com/example/bo3/bo3/store/RunStatus", "ofColumnValue", "(Ljava/lang/String;)Lcom/example/bo3/bo3/store/RunStatus;"⟩ : MethodName)) hown (mvT hZ (hW 34 _ rfl)) (mvT hZ (hW 35 _ rfl)) (mvT hZ (hW 2 _ rfl)) (mvT hZ (hW 36 _ rfl)) (by decide) (backOf (W := 0) (rmO_0 l Z a0 hw [] va k w0 w1 w2 c0 c1 c2 G1 b11 T13.heap n0 O13 S_VA E_va V_va Fc0 Fc1 Fc2 Sc0 Sc1 Sc2 O2 P5 Sx13) hZ (hW 36 _ rfl) (hW 2 _ rfl) (by decide) (by decide)) (g := (mkF m 175 #[.val (.int p1), .val (.int (0 : Int32)), .val (.ref w0), .val (.ref b3), .val (.ref b11), .unset, .unset, .unset] [(.ref b11)])) rfl (by rw [hml]; rfl) (argsL := [(.ref b11)]) (rest := []) (lenOf pd_3 rfl) rfl (by show 2 * 0 + _ ≤ _; exact Nat.le_of_eq rfl) (hb hby at_175) (fun _ _ => ⟨rfl, rfl, (by decide : 3 + 1 ≤ _), (by decide : 18 + 3 ≤ _)⟩)
    dsimp only [Pt.U, Pt.locs, Pt.cells, Pt.slots] at X14 l14 y14 z14 st14 hQ14
    subst l14 y14 z14
    obtain ⟨rfl, Nq14, Kp14⟩ := hQ14
    have N14 := Fr.app N13 Nq14
    refine own_of st14 ?_
    have sz14 : T13.heap.size ≤ T14.heap.size := Kp14.1
    have O14 : Old Z n0 T14.heap := O13.keep Kp14 (by simp only [List.mem_cons, List.not_mem_nil, or_false, forall_eq, false_implies, implies_true])
    show own_go p e below s _ _ _ (T14.setTop (mkF m 178 #[.val (.int p1), .val (.int (0 : Int32)), .val (.ref w0), .val (.ref b3), .val (.ref b11), .unset, .unset, .unset] [(.ref w0)]))
    refine own_of (fun t => XS.astore X14.here hx rfl (hb hby at_178) rfl rfl (l' := #[.val (.int p1), .val (.int (0 : Int32)), .val (.ref w0), .val (.ref b3), .val (.ref b11), .val (.ref w0), .unset, .unset]) rfl) ?_
    show own_go p e below s _ _ _ (T14.setTop (mkF m 180 #[.val (.int p1), .val (.int (0 : Int32)), .val (.ref w0), .val (.ref b3), .val (.ref b11), .val (.ref w0), .unset, .unset] []))
    refine own_of (fun t => XS.aloadN X14.here hx rfl (hb hby at_180) rfl rfl) ?_
    show own_go p e below s _ _ _ (T14.setTop (mkF m 181 #[.val (.int p1), .val (.int (0 : Int32)), .val (.ref w0), .val (.ref b3), .val (.ref b11), .val (.ref w0), .unset, .unset] [(.ref w0)]))
    have f16 : Exa Z T14.heap w0 "com/example/bo3/bo3/store/RunStatus" := Ew0.ext O14.2
    obtain ⟨cq15, kq15, q15a, q15b, q15c⟩ := isOf hZ rfl f16
    obtain ⟨_, _, ⟨T15, L15, k15, n15⟩, -, X15, ⟨Lc15, hQ15, l15, y15, z15⟩, st15⟩ := X14.virtualBack hx (y := (⟨"com/example/bo3/bo3/store/RunStatus", "columnValue", "()Ljava/lang/String;"⟩ : MethodName)) (z := (⟨"com/example/bo3/bo3/store/RunStatus", "columnValue", "()Ljava/lang/String;"⟩ : MethodName)) hown (mvT hZ (hW 66 _ rfl)) (mvT hZ (hW 67 _ rfl)) (notFace_of_selects (args := #[]) (mvT hZ (hW 69 _ rfl))) (mvT hZ (hW 69 _ rfl)) (mvT hZ (hW 68 _ rfl)) (by decide) (backOf (W := 0) (rmC l Z a0 hw [] w0 c0 T14.heap n0 O14 Fc0) hZ (hW 70 _ rfl) (hW 2 _ rfl) (by decide) (by decide)) q15a q15c (g := (mkF m 181 #[.val (.int p1), .val (.int (0 : Int32)), .val (.ref w0), .val (.ref b3), .val (.ref b11), .val (.ref w0), .unset, .unset] [(.ref w0)])) rfl (by rw [hml]; rfl) (Steps.refl _) (argsL := []) (rest := []) (lenOf pd_4 rfl) rfl (by show 2 * 0 + _ ≤ _; exact Nat.le_of_eq rfl) (hb hby at_181) (fun _ _ => ⟨rfl, rfl, (by decide : 4 + 0 ≤ _), (by decide : 21 + 0 ≤ _)⟩)
    dsimp only [Pt.U, Pt.locs, Pt.cells, Pt.slots] at X15 l15 y15 z15 st15 hQ15
    subst l15 y15 z15
    obtain ⟨rfl, Nq15, eh15⟩ := hQ15
    have N15 := Fr.app N14 Nq15
    refine own_of (fun t k => st15.trans k) ?_
    show own_go p e below s _ _ _ (T15.setTop (mkF m 184 #[.val (.int p1), .val (.int (0 : Int32)), .val (.ref w0), .val (.ref b3), .val (.ref b11), .val (.ref w0), .unset, .unset] [(.ref c0)]))
    refine own_of (fun t => XS.astore X15.here hx rfl (hb hby at_184) rfl rfl (l' := #[.val (.int p1), .val (.int (0 : Int32)), .val (.ref w0), .val (.ref b3), .val (.ref b11), .val (.ref w0), .val (.ref c0), .unset]) rfl) ?_
    show own_go p e below s _ _ _ (T15.setTop (mkF m 186 #[.val (.int p1), .val (.int (0 : Int32)), .val (.ref w0), .val (.ref b3), .val (.ref b11), .val (.ref w0), .val (.ref c0), .unset] []))
    refine own_of (fun t => XS.aload X15.here hx rfl (hb hby at_186) rfl rfl) ?_
    show own_go p e below s _ _ _ (T15.setTop (mkF m 188 #[.val (.int p1), .val (.int (0 : Int32)), .val (.ref w0), .val (.ref b3), .val (.ref b11), .val (.ref w0), .val (.ref c0), .unset] [(.ref c0)]))
    have f17 : own_str Z T14.heap c0 ([114, 117, 110, 110, 105, 110, 103] : List Int32) := Sc0.ext O14.2
    obtain ⟨_, _, ⟨T18, L18, k18, n18⟩, -, X18, ⟨Lc18, hQ18, l18, y18, z18⟩, st18⟩ := Jvm.LawKit.callS X15 hx (y := (⟨"com/example/bo3/bo3/store/RunStatus", "ofColumnValue", "(Ljava/lang/String;)Lcom/example/bo3/bo3/store/RunStatus;"⟩ : MethodName)) hown (mvT hZ (hW 34 _ rfl)) (mvT hZ (hW 35 _ rfl)) (mvT hZ (hW 2 _ rfl)) (mvT hZ (hW 36 _ rfl)) (by decide) (backOf (W := 0) (rmO_0 l Z a0 hw [] va k w0 w1 w2 c0 c1 c2 G1 c0 T14.heap n0 O14 S_VA E_va V_va Fc0 Fc1 Fc2 Sc0 Sc1 Sc2 O2 P5 f17) hZ (hW 36 _ rfl) (hW 2 _ rfl) (by decide) (by decide)) (g := (mkF m 188 #[.val (.int p1), .val (.int (0 : Int32)), .val (.ref w0), .val (.ref b3), .val (.ref b11), .val (.ref w0), .val (.ref c0), .unset] [(.ref c0)])) rfl (by rw [hml]; rfl) (argsL := [(.ref c0)]) (rest := []) (lenOf pd_3 rfl) rfl (by show 2 * 0 + _ ≤ _; exact Nat.le_of_eq rfl) (hb hby at_188) (fun _ _ => ⟨rfl, eh15, (by decide : 4 + 1 ≤ _), (by decide : 21 + 3 ≤ _)⟩)
    dsimp only [Pt.U, Pt.locs, Pt.cells, Pt.slots] at X18 l18 y18 z18 st18 hQ18
    subst l18 y18 z18
    obtain ⟨rfl, Nq18, Kp18⟩ := hQ18
    have N18 := Fr.app N15 Nq18
    refine own_of st18 ?_
    have sz18 : T14.heap.size ≤ T18.heap.size := Kp18.1
    have O18 : Old Z n0 T18.heap := O14.keep Kp18 (by simp only [List.mem_cons, List.not_mem_nil, or_false, forall_eq, false_implies, implies_true])
    show own_go p e below s _ _ _ (T18.setTop (mkF m 191 #[.val (.int p1), .val (.int (0 : Int32)), .val (.ref w0), .val (.ref b3), .val (.ref b11), .val (.ref w0), .val (.ref c0), .unset] [(.ref w0)]))
    refine own_of (fun t => XS.astore X18.here hx rfl (hb hby at_191) rfl rfl (l' := #[.val (.int p1), .val (.int (0 : Int32)), .val (.ref w0), .val (.ref b3), .val (.ref b11), .val (.ref w0), .val (.ref c0), .val (.ref w0)]) rfl) ?_
    show own_go p e below s _ _ _ (T18.setTop (mkF m 193 #[.val (.int p1), .val (.int (0 : Int32)), .val (.ref w0), .val (.ref b3), .val (.ref b11), .val (.ref w0), .val (.ref c0), .val (.ref w0)] []))
    refine own_of (fun t => XS.aload X18.here hx rfl (hb hby at_193) rfl rfl) ?_
    show own_go p e below s _ _ _ (T18.setTop (mkF m 195 #[.val (.int p1), .val (.int (0 : Int32)), .val (.ref w0), .val (.ref b3), .val (.ref b11), .val (.ref w0), .val (.ref c0), .val (.ref w0)] [(.ref w0)]))
    refine own_of (fun t => XS.aloadN X18.here hx rfl (hb hby at_195) rfl rfl) ?_
    show own_go p e below s _ _ _ (T18.setTop (mkF m 196 #[.val (.int p1), .val (.int (0 : Int32)), .val (.ref w0), .val (.ref b3), .val (.ref b11), .val (.ref w0), .val (.ref c0), .val (.ref w0)] [(.ref w0), (.ref w0)]))
    refine own_of (fun t => Jvm.RoadKit.acmp (g := (mkF m 196 #[.val (.int p1), .val (.int (0 : Int32)), .val (.ref w0), .val (.ref b3), .val (.ref b11), .val (.ref w0), .val (.ref c0), .val (.ref w0)] [(.ref w0), (.ref w0)])) X18 hx rfl rfl rfl (pc0 := 196) (pc' := 199) (same := true) rfl (hb hby at_196) rfl (decide_eq_true rfl) (by decide) (by decide)) ?_
    show own_go p e below s _ _ _ (T18.setTop (mkF m 199 #[.val (.int p1), .val (.int (0 : Int32)), .val (.ref w0), .val (.ref b3), .val (.ref b11), .val (.ref w0), .val (.ref c0), .val (.ref w0)] []))
    refine own_of (fun t => XS.aload X18.here hx rfl (hb hby at_199) rfl rfl) ?_
    show own_go p e below s _ _ _ (T18.setTop (mkF m 201 #[.val (.int p1), .val (.int (0 : Int32)), .val (.ref w0), .val (.ref b3), .val (.ref b11), .val (.ref w0), .val (.ref c0), .val (.ref w0)] [(.ref w0)]))
    refine own_of (fun t => XS.aloadN X18.here hx rfl (hb hby at_201) rfl rfl) ?_
    show own_go p e below s _ _ _ (T18.setTop (mkF m 202 #[.val (.int p1), .val (.int (0 : Int32)), .val (.ref w0), .val (.ref b3), .val (.ref b11), .val (.ref w0), .val (.ref c0), .val (.ref w0)] [(.ref w0), (.ref w0)]))
    refine own_of (fun t => Jvm.RoadKit.acmp (g := (mkF m 202 #[.val (.int p1), .val (.int (0 : Int32)), .val (.ref w0), .val (.ref b3), .val (.ref b11), .val (.ref w0), .val (.ref c0), .val (.ref w0)] [(.ref w0), (.ref w0)])) X18 hx rfl rfl rfl (pc0 := 202) (pc' := 205) (same := true) rfl (hb hby at_202) rfl (decide_eq_true rfl) (by decide) (by decide)) ?_
    show own_go p e below s _ _ _ (T18.setTop (mkF m 205 #[.val (.int p1), .val (.int (0 : Int32)), .val (.ref w0), .val (.ref b3), .val (.ref b11), .val (.ref w0), .val (.ref c0), .val (.ref w0)] []))
    refine own_of (fun t => XS.aload X18.here hx rfl (hb hby at_205) rfl rfl) ?_
    show own_go p e below s _ _ _ (T18.setTop (mkF m 207 #[.val (.int p1), .val (.int (0 : Int32)), .val (.ref w0), .val (.ref b3), .val (.ref b11), .val (.ref w0), .val (.ref c0), .val (.ref w0)] [(.ref c0)]))
    refine own_of (fun t => XS.aload X18.here hx rfl (hb hby at_207) rfl rfl) ?_
    show own_go p e below s _ _ _ (T18.setTop (mkF m 209 #[.val (.int p1), .val (.int (0 : Int32)), .val (.ref w0), .val (.ref b3), .val (.ref b11), .val (.ref w0), .val (.ref c0), .val (.ref w0)] [(.ref b11), (.ref c0)]))
    have f19 : own_str Z T18.heap c0 ([114, 117, 110, 110, 105, 110, 103] : List Int32) := (f17.keep Kp18 nin0)
    have f20 : own_str Z T18.heap b11 ([114, 117, 110, 110, 105, 110, 103] : List Int32) := ((Sx13.keep Kp14 nin0).keep Kp18 nin0)
    obtain ⟨t21a, kb21a, N21a, vs21a, Ea21, Va21, Ca21, Ka21, cd21a⟩ := id f19
    obtain ⟨t21b, kb21b, N21b, vs21b, Eb21, Vb21, Cb21, Kb21, cd21b⟩ := id f20
    obtain ⟨cq22, kq22, q22a, q22b, q22c⟩ := isOf hZ rfl Ea21
    obtain ⟨_, _, ⟨T22, L22, k22, n22⟩, -, X22, ⟨Lc22, hQ22, l22, y22, z22⟩, st22⟩ := X18.virtualBack hx (y := (⟨"java/lang/String", "equals", "(Ljava/lang/Object;)Z"⟩ : MethodName)) (z := (⟨"java/lang/String", "equals", "(Ljava/lang/Object;)Z"⟩ : MethodName)) hown (mvT hZ (hW 71 _ rfl)) (mvT hZ (hW 57 _ rfl)) (notFace_of_selects (args := #[]) (mvT hZ (hW 59 _ rfl))) (mvT hZ (hW 59 _ rfl)) (mvT hZ (hW 58 _ rfl)) (by decide) (StrChars.Road.eqW (W := 0) hZ heq (kI := 4) (hW 6 _ rfl) Ea21 Va21 Ca21 Ka21 cd21a (by decide) (by decide) Eb21 Vb21 Cb21 Kb21 cd21b (by decide) (by decide) (O2.ext O18.2) P5 (by decide) (by decide)) q22a q22c (g := (mkF m 209 #[.val (.int p1), .val (.int (0 : Int32)), .val (.ref w0), .val (.ref b3), .val (.ref b11), .val (.ref w0), .val (.ref c0), .val (.ref w0)] [(.ref b11), (.ref c0)])) rfl (by rw [hml]; rfl) (Steps.refl _) (argsL := [(.ref b11)]) (rest := []) (lenOf pd_1 rfl) rfl (by show 2 * 0 + _ ≤ _; exact Nat.le_of_eq rfl) (hb hby at_209) (fun _ _ => ⟨rfl, rfl, (by decide : 5 + 0 ≤ _), (by decide : 24 + 0 ≤ _)⟩)
    dsimp only [Pt.U, Pt.locs, Pt.cells, Pt.slots] at X22 l22 y22 z22 st22 hQ22
    subst l22 y22 z22
    obtain ⟨hc22, rfl, eh22⟩ := hQ22
    have hv22 : _ = some (Value.int 1) := hc22.elim (fun q => q.1) (fun q => absurd rfl q.2)
    subst hv22
    have Nq22 : Fr n0 ([] : List Loc) := Fr.nil n0
    have N22 := Fr.app N18 Nq22
    refine own_of (fun t k => st22.trans k) ?_
    show own_go p e below s _ _ _ (T22.setTop (mkF m 212 #[.val (.int p1), .val (.int (0 : Int32)), .val (.ref w0), .val (.ref b3), .val (.ref b11), .val (.ref w0), .val (.ref c0), .val (.ref w0)] [(.int (1 : Int32))]))
    have hb212_23 : ¬ ((1 : Int32) = (0 : Int32)) := by decide
    refine own_of (fun t => XS.ifNo X22.here hx rfl (hb hby at_212) rfl ((if0 _ _).trans (feq hb212_23).1)) ?_
    show own_go p e below s _ _ _ (T22.setTop (mkF m 215 #[.val (.int p1), .val (.int (0 : Int32)), .val (.ref w0), .val (.ref b3), .val (.ref b11), .val (.ref w0), .val (.ref c0), .val (.ref w0)] []))
    refine own_of (fun t => XS.iconst X22.here hx rfl (hb hby at_215)) ?_
    show own_go p e below s _ _ _ (T22.setTop (mkF m 216 #[.val (.int p1), .val (.int (0 : Int32)), .val (.ref w0), .val (.ref b3), .val (.ref b11), .val (.ref w0), .val (.ref c0), .val (.ref w0)] [(.int (1 : Int32))]))
    refine own_of (fun t => XS.goto X22.here hx rfl (pc0 := 216) (pc' := 220) rfl (hb hby at_216) (by decide) (by decide)) ?_
    show own_go p e below s _ _ _ (T22.setTop (mkF m 220 #[.val (.int p1), .val (.int (0 : Int32)), .val (.ref w0), .val (.ref b3), .val (.ref b11), .val (.ref w0), .val (.ref c0), .val (.ref w0)] [(.int (1 : Int32))]))
    refine own_ret X22 hx hlk Bd.returns rfl (Or.inl ⟨rfl, by simp, _, rfl⟩) (hb hby at_220) (by decide) (by decide) ?_
    rw [eh22]
    exact ⟨rfl, N22⟩
  · rw [hi]
    show own_go p e below s _ _ _ (s₁.setTop (mkF m 6 #[.val (.int p1), .unset, .unset, .unset, .unset, .unset, .unset, .unset] [(.int (1 : Int32))]))
    refine own_of (fun t => XS.istoreN X0.here hx rfl (hb hby at_6) rfl (l' := #[.val (.int p1), .val (.int (1 : Int32)), .unset, .unset, .unset, .unset, .unset, .unset]) rfl) ?_
    show own_go p e below s _ _ _ (s₁.setTop (mkF m 7 #[.val (.int p1), .val (.int (1 : Int32)), .unset, .unset, .unset, .unset, .unset, .unset] []))
    refine own_of (fun t => XS.iloadN X0.here hx rfl (hb hby at_7) rfl) ?_
    show own_go p e below s _ _ _ (s₁.setTop (mkF m 8 #[.val (.int p1), .val (.int (1 : Int32)), .unset, .unset, .unset, .unset, .unset, .unset] [(.int (1 : Int32))]))
    have hb8_24 : ¬ ((1 : Int32) = (0 : Int32)) := by decide
    refine own_of (fun t => XS.ifYes X0.here hx rfl (pc0 := 8) (pc' := 59) rfl (hb hby at_8) rfl ((if0 _ _).trans (feq hb8_24).2) (by decide) (by decide)) ?_
    show own_go p e below s _ _ _ (s₁.setTop (mkF m 59 #[.val (.int p1), .val (.int (1 : Int32)), .unset, .unset, .unset, .unset, .unset, .unset] []))
    refine own_of (fun t => XS.iloadN X0.here hx rfl (hb hby at_59) rfl) ?_
    show own_go p e below s _ _ _ (s₁.setTop (mkF m 60 #[.val (.int p1), .val (.int (1 : Int32)), .unset, .unset, .unset, .unset, .unset, .unset] [(.int (1 : Int32))]))
    refine own_of (fun t => XS.iconst X0.here hx rfl (hb hby at_60)) ?_
    show own_go p e below s _ _ _ (s₁.setTop (mkF m 61 #[.val (.int p1), .val (.int (1 : Int32)), .unset, .unset, .unset, .unset, .unset, .unset] [(.int (1 : Int32)), (.int (1 : Int32))]))
    have hb61_25 : (1 : Int32) = (1 : Int32) := by decide
    refine own_of (fun t => XS.icmpNo X0.here hx rfl (hb hby at_61) rfl (teq hb61_25).2) ?_
    show own_go p e below s _ _ _ (s₁.setTop (mkF m 64 #[.val (.int p1), .val (.int (1 : Int32)), .unset, .unset, .unset, .unset, .unset, .unset] []))
    obtain ⟨T26, X26, e26, st26⟩ := getS2 X0 hx hZ hown (host := "") (Or.inl (hW 73 _ rfl)) Via.refl e0 (S_COMPLETED.ext XO0.2) (g := (mkF m 64 #[.val (.int p1), .val (.int (1 : Int32)), .unset, .unset, .unset, .unset, .unset, .unset] [])) rfl (hb hby at_64)
    refine own_of st26 ?_
    show own_go p e below s _ _ _ (T26.setTop (mkF m 67 #[.val (.int p1), .val (.int (1 : Int32)), .unset, .unset, .unset, .unset, .unset, .unset] [(.ref w1)]))
    refine own_of (fun t => XS.astoreN X26.here hx rfl (hb hby at_67) rfl rfl (l' := #[.val (.int p1), .val (.int (1 : Int32)), .val (.ref w1), .unset, .unset, .unset, .unset, .unset]) rfl) ?_
    show own_go p e below s _ _ _ (T26.setTop (mkF m 68 #[.val (.int p1), .val (.int (1 : Int32)), .val (.ref w1), .unset, .unset, .unset, .unset, .unset] []))
    refine own_of (fun t => XS.bipush X26.here hx rfl (hb hby at_68)) ?_
    show own_go p e below s _ _ _ (T26.setTop (mkF m 70 #[.val (.int p1), .val (.int (1 : Int32)), .val (.ref w1), .unset, .unset, .unset, .unset, .unset] [(.int (9 : Int32))]))
    obtain ⟨T27, h27, k27, X27, e27, E27, A27, st27⟩ := newP X26 hx hZ (hW 4 _ rfl) e26 (g := (mkF m 70 #[.val (.int p1), .val (.int (1 : Int32)), .val (.ref w1), .unset, .unset, .unset, .unset, .unset] [(.int (9 : Int32))])) rfl (hb hby at_70) rfl (by decide) (cap := 9) (by decide) (by decide) (by decide) (by decide)
    obtain ⟨b27, g27⟩ : ∃ z, z = h0.size := ⟨_, rfl⟩
    rw [← g27] at A27 st27
    refine own_of st27 ?_
    have lt27 : b27 < h27.size := A27.lt
    have sz27 : h0.size ≤ h27.size := E27.1
    have O27 : Old Z n0 h27 := XO0.ext E27
    have z27 : n0 ≤ b27 := by have := XO0.1 ▸ XO0.2.1; omega
    have V27 : Arv Z h27 b27 k27 .char (9 : Int32) [(.int (0 : Int32)), (.int (0 : Int32)), (.int (0 : Int32)), (.int (0 : Int32)), (.int (0 : Int32)), (.int (0 : Int32)), (.int (0 : Int32)), (.int (0 : Int32)), (.int (0 : Int32))] (.int (0 : Int32)) := (Arv.new A27 (by decide)).pad (pad_rep [] (.int (0 : Int32)) 9)
    show own_go p e below s _ _ _ (T27.setTop (mkF m 72 #[.val (.int p1), .val (.int (1 : Int32)), .val (.ref w1), .unset, .unset, .unset, .unset, .unset] [(.ref b27)]))
    refine own_of (fun t => XS.dup X27.here hx rfl (hb hby at_72) rfl rfl) ?_
    show own_go p e below s _ _ _ (T27.setTop (mkF m 73 #[.val (.int p1), .val (.int (1 : Int32)), .val (.ref w1), .unset, .unset, .unset, .unset, .unset] [(.ref b27), (.ref b27)]))
    refine own_of (fun t => XS.iconst X27.here hx rfl (hb hby at_73)) ?_
    show own_go p e below s _ _ _ (T27.setTop (mkF m 74 #[.val (.int p1), .val (.int (1 : Int32)), .val (.ref w1), .unset, .unset, .unset, .unset, .unset] [(.int (0 : Int32)), (.ref b27), (.ref b27)]))
    refine own_of (fun t => XS.bipush X27.here hx rfl (hb hby at_74)) ?_
    show own_go p e below s _ _ _ (T27.setTop (mkF m 76 #[.val (.int p1), .val (.int (1 : Int32)), .val (.ref w1), .unset, .unset, .unset, .unset, .unset] [(.int (99 : Int32)), (.int (0 : Int32)), (.ref b27), (.ref b27)]))
    obtain ⟨cl28, Ar28, q28, S28, Ng28, H28, G28⟩ := V27
    obtain ⟨T28, h28, X28, e28, W28, st28⟩ := stC X27 hx hZ e27 Ar28 (j := (0 : Int32)) (inb_of S28 ⟨by decide, by decide⟩) (g := (mkF m 76 #[.val (.int p1), .val (.int (1 : Int32)), .val (.ref w1), .unset, .unset, .unset, .unset, .unset] [(.int (99 : Int32)), (.int (0 : Int32)), (.ref b27), (.ref b27)])) rfl rfl (hb hby at_76)
    have V28 : Arv Z h28 b27 k27 .char (9 : Int32) [(.int (99 : Int32)), (.int (0 : Int32)), (.int (0 : Int32)), (.int (0 : Int32)), (.int (0 : Int32)), (.int (0 : Int32)), (.int (0 : Int32)), (.int (0 : Int32)), (.int (0 : Int32))] (.int (0 : Int32)) := Arv.set Ar28 q28 S28 Ng28 H28 G28 rfl W28 0 rfl (Nat.le_of_ble_eq_true rfl)
    refine own_of st28 ?_
    have N28 := Fr.snoc X28 N0 (by omega : n0 ≤ b27)
    have sz28 : h28.size = h27.size := W28.size
    have O28 : Old Z n0 h28 := O27.wr W28 (by omega)
    show own_go p e below s _ _ _ (T28.setTop (mkF m 77 #[.val (.int p1), .val (.int (1 : Int32)), .val (.ref w1), .unset, .unset, .unset, .unset, .unset] [(.ref b27)]))
    refine own_of (fun t => XS.dup X28.here hx rfl (hb hby at_77) rfl rfl) ?_
    show own_go p e below s _ _ _ (T28.setTop (mkF m 78 #[.val (.int p1), .val (.int (1 : Int32)), .val (.ref w1), .unset, .unset, .unset, .unset, .unset] [(.ref b27), (.ref b27)]))
    refine own_of (fun t => XS.iconst X28.here hx rfl (hb hby at_78)) ?_
    show own_go p e below s _ _ _ (T28.setTop (mkF m 79 #[.val (.int p1), .val (.int (1 : Int32)), .val (.ref w1), .unset, .unset, .unset, .unset, .unset] [(.int (1 : Int32)), (.ref b27), (.ref b27)]))
    refine own_of (fun t => XS.bipush X28.here hx rfl (hb hby at_79)) ?_
    show own_go p e below s _ _ _ (T28.setTop (mkF m 81 #[.val (.int p1), .val (.int (1 : Int32)), .val (.ref w1), .unset, .unset, .unset, .unset, .unset] [(.int (111 : Int32)), (.int (1 : Int32)), (.ref b27), (.ref b27)]))
    obtain ⟨cl29, Ar29, q29, S29, Ng29, H29, G29⟩ := V28
    obtain ⟨T29, h29, X29, e29, W29, st29⟩ := stC X28 hx hZ e28 Ar29 (j := (1 : Int32)) (inb_of S29 ⟨by decide, by decide⟩) (g := (mkF m 81 #[.val (.int p1), .val (.int (1 : Int32)), .val (.ref w1), .unset, .unset, .unset, .unset, .unset] [(.int (111 : Int32)), (.int (1 : Int32)), (.ref b27), (.ref b27)])) rfl rfl (hb hby at_81)
    have V29 : Arv Z h29 b27 k27 .char (9 : Int32) [(.int (99 : Int32)), (.int (111 : Int32)), (.int (0 : Int32)), (.int (0 : Int32)), (.int (0 : Int32)), (.int (0 : Int32)), (.int (0 : Int32)), (.int (0 : Int32)), (.int (0 : Int32))] (.int (0 : Int32)) := Arv.set Ar29 q29 S29 Ng29 H29 G29 rfl W29 1 rfl (Nat.le_of_ble_eq_true rfl)
    refine own_of st29 ?_
    have N29 := Fr.snoc X29 N28 (by omega : n0 ≤ b27)
    have sz29 : h29.size = h28.size := W29.size
    have O29 : Old Z n0 h29 := O28.wr W29 (by omega)
    show own_go p e below s _ _ _ (T29.setTop (mkF m 82 #[.val (.int p1), .val (.int (1 : Int32)), .val (.ref w1), .unset, .unset, .unset, .unset, .unset] [(.ref b27)]))
    refine own_of (fun t => XS.dup X29.here hx rfl (hb hby at_82) rfl rfl) ?_
    show own_go p e below s _ _ _ (T29.setTop (mkF m 83 #[.val (.int p1), .val (.int (1 : Int32)), .val (.ref w1), .unset, .unset, .unset, .unset, .unset] [(.ref b27), (.ref b27)]))
    refine own_of (fun t => XS.iconst X29.here hx rfl (hb hby at_83)) ?_
    show own_go p e below s _ _ _ (T29.setTop (mkF m 84 #[.val (.int p1), .val (.int (1 : Int32)), .val (.ref w1), .unset, .unset, .unset, .unset, .unset] [(.int (2 : Int32)), (.ref b27), (.ref b27)]))
    refine own_of (fun t => XS.bipush X29.here hx rfl (hb hby at_84)) ?_
    show own_go p e below s _ _ _ (T29.setTop (mkF m 86 #[.val (.int p1), .val (.int (1 : Int32)), .val (.ref w1), .unset, .unset, .unset, .unset, .unset] [(.int (109 : Int32)), (.int (2 : Int32)), (.ref b27), (.ref b27)]))
    obtain ⟨cl30, Ar30, q30, S30, Ng30, H30, G30⟩ := V29
    obtain ⟨T30, h30, X30, e30, W30, st30⟩ := stC X29 hx hZ e29 Ar30 (j := (2 : Int32)) (inb_of S30 ⟨by decide, by decide⟩) (g := (mkF m 86 #[.val (.int p1), .val (.int (1 : Int32)), .val (.ref w1), .unset, .unset, .unset, .unset, .unset] [(.int (109 : Int32)), (.int (2 : Int32)), (.ref b27), (.ref b27)])) rfl rfl (hb hby at_86)
    have V30 : Arv Z h30 b27 k27 .char (9 : Int32) [(.int (99 : Int32)), (.int (111 : Int32)), (.int (109 : Int32)), (.int (0 : Int32)), (.int (0 : Int32)), (.int (0 : Int32)), (.int (0 : Int32)), (.int (0 : Int32)), (.int (0 : Int32))] (.int (0 : Int32)) := Arv.set Ar30 q30 S30 Ng30 H30 G30 rfl W30 2 rfl (Nat.le_of_ble_eq_true rfl)
    refine own_of st30 ?_
    have N30 := Fr.snoc X30 N29 (by omega : n0 ≤ b27)
    have sz30 : h30.size = h29.size := W30.size
    have O30 : Old Z n0 h30 := O29.wr W30 (by omega)
    show own_go p e below s _ _ _ (T30.setTop (mkF m 87 #[.val (.int p1), .val (.int (1 : Int32)), .val (.ref w1), .unset, .unset, .unset, .unset, .unset] [(.ref b27)]))
    refine own_of (fun t => XS.dup X30.here hx rfl (hb hby at_87) rfl rfl) ?_
    show own_go p e below s _ _ _ (T30.setTop (mkF m 88 #[.val (.int p1), .val (.int (1 : Int32)), .val (.ref w1), .unset, .unset, .unset, .unset, .unset] [(.ref b27), (.ref b27)]))
    refine own_of (fun t => XS.iconst X30.here hx rfl (hb hby at_88)) ?_
    show own_go p e below s _ _ _ (T30.setTop (mkF m 89 #[.val (.int p1), .val (.int (1 : Int32)), .val (.ref w1), .unset, .unset, .unset, .unset, .unset] [(.int (3 : Int32)), (.ref b27), (.ref b27)]))
    refine own_of (fun t => XS.bipush X30.here hx rfl (hb hby at_89)) ?_
    show own_go p e below s _ _ _ (T30.setTop (mkF m 91 #[.val (.int p1), .val (.int (1 : Int32)), .val (.ref w1), .unset, .unset, .unset, .unset, .unset] [(.int (112 : Int32)), (.int (3 : Int32)), (.ref b27), (.ref b27)]))
    obtain ⟨cl31, Ar31, q31, S31, Ng31, H31, G31⟩ := V30
    obtain ⟨T31, h31, X31, e31, W31, st31⟩ := stC X30 hx hZ e30 Ar31 (j := (3 : Int32)) (inb_of S31 ⟨by decide, by decide⟩) (g := (mkF m 91 #[.val (.int p1), .val (.int (1 : Int32)), .val (.ref w1), .unset, .unset, .unset, .unset, .unset] [(.int (112 : Int32)), (.int (3 : Int32)), (.ref b27), (.ref b27)])) rfl rfl (hb hby at_91)
    have V31 : Arv Z h31 b27 k27 .char (9 : Int32) [(.int (99 : Int32)), (.int (111 : Int32)), (.int (109 : Int32)), (.int (112 : Int32)), (.int (0 : Int32)), (.int (0 : Int32)), (.int (0 : Int32)), (.int (0 : Int32)), (.int (0 : Int32))] (.int (0 : Int32)) := Arv.set Ar31 q31 S31 Ng31 H31 G31 rfl W31 3 rfl (Nat.le_of_ble_eq_true rfl)
    refine own_of st31 ?_
    have N31 := Fr.snoc X31 N30 (by omega : n0 ≤ b27)
    have sz31 : h31.size = h30.size := W31.size
    have O31 : Old Z n0 h31 := O30.wr W31 (by omega)
    show own_go p e below s _ _ _ (T31.setTop (mkF m 92 #[.val (.int p1), .val (.int (1 : Int32)), .val (.ref w1), .unset, .unset, .unset, .unset, .unset] [(.ref b27)]))
    refine own_of (fun t => XS.dup X31.here hx rfl (hb hby at_92) rfl rfl) ?_
    show own_go p e below s _ _ _ (T31.setTop (mkF m 93 #[.val (.int p1), .val (.int (1 : Int32)), .val (.ref w1), .unset, .unset, .unset, .unset, .unset] [(.ref b27), (.ref b27)]))
    refine own_of (fun t => XS.iconst X31.here hx rfl (hb hby at_93)) ?_
    show own_go p e below s _ _ _ (T31.setTop (mkF m 94 #[.val (.int p1), .val (.int (1 : Int32)), .val (.ref w1), .unset, .unset, .unset, .unset, .unset] [(.int (4 : Int32)), (.ref b27), (.ref b27)]))
    refine own_of (fun t => XS.bipush X31.here hx rfl (hb hby at_94)) ?_
    show own_go p e below s _ _ _ (T31.setTop (mkF m 96 #[.val (.int p1), .val (.int (1 : Int32)), .val (.ref w1), .unset, .unset, .unset, .unset, .unset] [(.int (108 : Int32)), (.int (4 : Int32)), (.ref b27), (.ref b27)]))
    obtain ⟨cl32, Ar32, q32, S32, Ng32, H32, G32⟩ := V31
    obtain ⟨T32, h32, X32, e32, W32, st32⟩ := stC X31 hx hZ e31 Ar32 (j := (4 : Int32)) (inb_of S32 ⟨by decide, by decide⟩) (g := (mkF m 96 #[.val (.int p1), .val (.int (1 : Int32)), .val (.ref w1), .unset, .unset, .unset, .unset, .unset] [(.int (108 : Int32)), (.int (4 : Int32)), (.ref b27), (.ref b27)])) rfl rfl (hb hby at_96)
    have V32 : Arv Z h32 b27 k27 .char (9 : Int32) [(.int (99 : Int32)), (.int (111 : Int32)), (.int (109 : Int32)), (.int (112 : Int32)), (.int (108 : Int32)), (.int (0 : Int32)), (.int (0 : Int32)), (.int (0 : Int32)), (.int (0 : Int32))] (.int (0 : Int32)) := Arv.set Ar32 q32 S32 Ng32 H32 G32 rfl W32 4 rfl (Nat.le_of_ble_eq_true rfl)
    refine own_of st32 ?_
    have N32 := Fr.snoc X32 N31 (by omega : n0 ≤ b27)
    have sz32 : h32.size = h31.size := W32.size
    have O32 : Old Z n0 h32 := O31.wr W32 (by omega)
    show own_go p e below s _ _ _ (T32.setTop (mkF m 97 #[.val (.int p1), .val (.int (1 : Int32)), .val (.ref w1), .unset, .unset, .unset, .unset, .unset] [(.ref b27)]))
    refine own_of (fun t => XS.dup X32.here hx rfl (hb hby at_97) rfl rfl) ?_
    show own_go p e below s _ _ _ (T32.setTop (mkF m 98 #[.val (.int p1), .val (.int (1 : Int32)), .val (.ref w1), .unset, .unset, .unset, .unset, .unset] [(.ref b27), (.ref b27)]))
    refine own_of (fun t => XS.iconst X32.here hx rfl (hb hby at_98)) ?_
    show own_go p e below s _ _ _ (T32.setTop (mkF m 99 #[.val (.int p1), .val (.int (1 : Int32)), .val (.ref w1), .unset, .unset, .unset, .unset, .unset] [(.int (5 : Int32)), (.ref b27), (.ref b27)]))
    refine own_of (fun t => XS.bipush X32.here hx rfl (hb hby at_99)) ?_
    show own_go p e below s _ _ _ (T32.setTop (mkF m 101 #[.val (.int p1), .val (.int (1 : Int32)), .val (.ref w1), .unset, .unset, .unset, .unset, .unset] [(.int (101 : Int32)), (.int (5 : Int32)), (.ref b27), (.ref b27)]))
    obtain ⟨cl33, Ar33, q33, S33, Ng33, H33, G33⟩ := V32
    obtain ⟨T33, h33, X33, e33, W33, st33⟩ := stC X32 hx hZ e32 Ar33 (j := (5 : Int32)) (inb_of S33 ⟨by decide, by decide⟩) (g := (mkF m 101 #[.val (.int p1), .val (.int (1 : Int32)), .val (.ref w1), .unset, .unset, .unset, .unset, .unset] [(.int (101 : Int32)), (.int (5 : Int32)), (.ref b27), (.ref b27)])) rfl rfl (hb hby at_101)
    have V33 : Arv Z h33 b27 k27 .char (9 : Int32) [(.int (99 : Int32)), (.int (111 : Int32)), (.int (109 : Int32)), (.int (112 : Int32)), (.int (108 : Int32)), (.int (101 : Int32)), (.int (0 : Int32)), (.int (0 : Int32)), (.int (0 : Int32))] (.int (0 : Int32)) := Arv.set Ar33 q33 S33 Ng33 H33 G33 rfl W33 5 rfl (Nat.le_of_ble_eq_true rfl)
    refine own_of st33 ?_
    have N33 := Fr.snoc X33 N32 (by omega : n0 ≤ b27)
    have sz33 : h33.size = h32.size := W33.size
    have O33 : Old Z n0 h33 := O32.wr W33 (by omega)
    show own_go p e below s _ _ _ (T33.setTop (mkF m 102 #[.val (.int p1), .val (.int (1 : Int32)), .val (.ref w1), .unset, .unset, .unset, .unset, .unset] [(.ref b27)]))
    refine own_of (fun t => XS.dup X33.here hx rfl (hb hby at_102) rfl rfl) ?_
    show own_go p e below s _ _ _ (T33.setTop (mkF m 103 #[.val (.int p1), .val (.int (1 : Int32)), .val (.ref w1), .unset, .unset, .unset, .unset, .unset] [(.ref b27), (.ref b27)]))
    refine own_of (fun t => XS.bipush X33.here hx rfl (hb hby at_103)) ?_
    show own_go p e below s _ _ _ (T33.setTop (mkF m 105 #[.val (.int p1), .val (.int (1 : Int32)), .val (.ref w1), .unset, .unset, .unset, .unset, .unset] [(.int (6 : Int32)), (.ref b27), (.ref b27)]))
    refine own_of (fun t => XS.bipush X33.here hx rfl (hb hby at_105)) ?_
    show own_go p e below s _ _ _ (T33.setTop (mkF m 107 #[.val (.int p1), .val (.int (1 : Int32)), .val (.ref w1), .unset, .unset, .unset, .unset, .unset] [(.int (116 : Int32)), (.int (6 : Int32)), (.ref b27), (.ref b27)]))
    obtain ⟨cl34, Ar34, q34, S34, Ng34, H34, G34⟩ := V33
    obtain ⟨T34, h34, X34, e34, W34, st34⟩ := stC X33 hx hZ e33 Ar34 (j := (6 : Int32)) (inb_of S34 ⟨by decide, by decide⟩) (g := (mkF m 107 #[.val (.int p1), .val (.int (1 : Int32)), .val (.ref w1), .unset, .unset, .unset, .unset, .unset] [(.int (116 : Int32)), (.int (6 : Int32)), (.ref b27), (.ref b27)])) rfl rfl (hb hby at_107)
    have V34 : Arv Z h34 b27 k27 .char (9 : Int32) [(.int (99 : Int32)), (.int (111 : Int32)), (.int (109 : Int32)), (.int (112 : Int32)), (.int (108 : Int32)), (.int (101 : Int32)), (.int (116 : Int32)), (.int (0 : Int32)), (.int (0 : Int32))] (.int (0 : Int32)) := Arv.set Ar34 q34 S34 Ng34 H34 G34 rfl W34 6 rfl (Nat.le_of_ble_eq_true rfl)
    refine own_of st34 ?_
    have N34 := Fr.snoc X34 N33 (by omega : n0 ≤ b27)
    have sz34 : h34.size = h33.size := W34.size
    have O34 : Old Z n0 h34 := O33.wr W34 (by omega)
    show own_go p e below s _ _ _ (T34.setTop (mkF m 108 #[.val (.int p1), .val (.int (1 : Int32)), .val (.ref w1), .unset, .unset, .unset, .unset, .unset] [(.ref b27)]))
    refine own_of (fun t => XS.dup X34.here hx rfl (hb hby at_108) rfl rfl) ?_
    show own_go p e below s _ _ _ (T34.setTop (mkF m 109 #[.val (.int p1), .val (.int (1 : Int32)), .val (.ref w1), .unset, .unset, .unset, .unset, .unset] [(.ref b27), (.ref b27)]))
    refine own_of (fun t => XS.bipush X34.here hx rfl (hb hby at_109)) ?_
    show own_go p e below s _ _ _ (T34.setTop (mkF m 111 #[.val (.int p1), .val (.int (1 : Int32)), .val (.ref w1), .unset, .unset, .unset, .unset, .unset] [(.int (7 : Int32)), (.ref b27), (.ref b27)]))
    refine own_of (fun t => XS.bipush X34.here hx rfl (hb hby at_111)) ?_
    show own_go p e below s _ _ _ (T34.setTop (mkF m 113 #[.val (.int p1), .val (.int (1 : Int32)), .val (.ref w1), .unset, .unset, .unset, .unset, .unset] [(.int (101 : Int32)), (.int (7 : Int32)), (.ref b27), (.ref b27)]))
    obtain ⟨cl35, Ar35, q35, S35, Ng35, H35, G35⟩ := V34
    obtain ⟨T35, h35, X35, e35, W35, st35⟩ := stC X34 hx hZ e34 Ar35 (j := (7 : Int32)) (inb_of S35 ⟨by decide, by decide⟩) (g := (mkF m 113 #[.val (.int p1), .val (.int (1 : Int32)), .val (.ref w1), .unset, .unset, .unset, .unset, .unset] [(.int (101 : Int32)), (.int (7 : Int32)), (.ref b27), (.ref b27)])) rfl rfl (hb hby at_113)
    have V35 : Arv Z h35 b27 k27 .char (9 : Int32) [(.int (99 : Int32)), (.int (111 : Int32)), (.int (109 : Int32)), (.int (112 : Int32)), (.int (108 : Int32)), (.int (101 : Int32)), (.int (116 : Int32)), (.int (101 : Int32)), (.int (0 : Int32))] (.int (0 : Int32)) := Arv.set Ar35 q35 S35 Ng35 H35 G35 rfl W35 7 rfl (Nat.le_of_ble_eq_true rfl)
    refine own_of st35 ?_
    have N35 := Fr.snoc X35 N34 (by omega : n0 ≤ b27)
    have sz35 : h35.size = h34.size := W35.size
    have O35 : Old Z n0 h35 := O34.wr W35 (by omega)
    show own_go p e below s _ _ _ (T35.setTop (mkF m 114 #[.val (.int p1), .val (.int (1 : Int32)), .val (.ref w1), .unset, .unset, .unset, .unset, .unset] [(.ref b27)]))
    refine own_of (fun t => XS.dup X35.here hx rfl (hb hby at_114) rfl rfl) ?_
    show own_go p e below s _ _ _ (T35.setTop (mkF m 115 #[.val (.int p1), .val (.int (1 : Int32)), .val (.ref w1), .unset, .unset, .unset, .unset, .unset] [(.ref b27), (.ref b27)]))
    refine own_of (fun t => XS.bipush X35.here hx rfl (hb hby at_115)) ?_
    show own_go p e below s _ _ _ (T35.setTop (mkF m 117 #[.val (.int p1), .val (.int (1 : Int32)), .val (.ref w1), .unset, .unset, .unset, .unset, .unset] [(.int (8 : Int32)), (.ref b27), (.ref b27)]))
    refine own_of (fun t => XS.bipush X35.here hx rfl (hb hby at_117)) ?_
    show own_go p e below s _ _ _ (T35.setTop (mkF m 119 #[.val (.int p1), .val (.int (1 : Int32)), .val (.ref w1), .unset, .unset, .unset, .unset, .unset] [(.int (100 : Int32)), (.int (8 : Int32)), (.ref b27), (.ref b27)]))
    obtain ⟨cl36, Ar36, q36, S36, Ng36, H36, G36⟩ := V35
    obtain ⟨T36, h36, X36, e36, W36, st36⟩ := stC X35 hx hZ e35 Ar36 (j := (8 : Int32)) (inb_of S36 ⟨by decide, by decide⟩) (g := (mkF m 119 #[.val (.int p1), .val (.int (1 : Int32)), .val (.ref w1), .unset, .unset, .unset, .unset, .unset] [(.int (100 : Int32)), (.int (8 : Int32)), (.ref b27), (.ref b27)])) rfl rfl (hb hby at_119)
    have V36 : Arv Z h36 b27 k27 .char (9 : Int32) [(.int (99 : Int32)), (.int (111 : Int32)), (.int (109 : Int32)), (.int (112 : Int32)), (.int (108 : Int32)), (.int (101 : Int32)), (.int (116 : Int32)), (.int (101 : Int32)), (.int (100 : Int32))] (.int (0 : Int32)) := Arv.set Ar36 q36 S36 Ng36 H36 G36 rfl W36 8 rfl (Nat.le_of_ble_eq_true rfl)
    refine own_of st36 ?_
    have N36 := Fr.snoc X36 N35 (by omega : n0 ≤ b27)
    have sz36 : h36.size = h35.size := W36.size
    have O36 : Old Z n0 h36 := O35.wr W36 (by omega)
    show own_go p e below s _ _ _ (T36.setTop (mkF m 120 #[.val (.int p1), .val (.int (1 : Int32)), .val (.ref w1), .unset, .unset, .unset, .unset, .unset] [(.ref b27)]))
    refine own_of (fun t => XS.astoreN X36.here hx rfl (hb hby at_120) rfl rfl (l' := #[.val (.int p1), .val (.int (1 : Int32)), .val (.ref w1), .val (.ref b27), .unset, .unset, .unset, .unset]) rfl) ?_
    show own_go p e below s _ _ _ (T36.setTop (mkF m 121 #[.val (.int p1), .val (.int (1 : Int32)), .val (.ref w1), .val (.ref b27), .unset, .unset, .unset, .unset] []))
    refine own_of (fun t => XS.goto X36.here hx rfl (pc0 := 121) (pc' := 163) rfl (hb hby at_121) (by decide) (by decide)) ?_
    show own_go p e below s _ _ _ (T36.setTop (mkF m 163 #[.val (.int p1), .val (.int (1 : Int32)), .val (.ref w1), .val (.ref b27), .unset, .unset, .unset, .unset] []))
    obtain ⟨T37, h37, X37, e37, E37, A37, D37, -, st37⟩ := newO X36 hx hZ hown (hW 5 _ rfl) (hW 6 _ rfl) (hW 7 _ rfl) e36 (g := (mkF m 163 #[.val (.int p1), .val (.int (1 : Int32)), .val (.ref w1), .val (.ref b27), .unset, .unset, .unset, .unset] [])) rfl (hb hby at_163) (by decide) (by decide)
    obtain ⟨b37, g37⟩ : ∃ z, z = h36.size := ⟨_, rfl⟩
    rw [← g37] at A37 D37 st37
    refine own_of st37 ?_
    have lt37 : b37 < h37.size := A37.lt
    have sz37 : h36.size ≤ h37.size := E37.1
    have O37 : Old Z n0 h37 := O36.ext E37
    have z37 : n0 ≤ b37 := by have := O36.1 ▸ O36.2.1; omega
    have F37_coder : Fld Z h37 b37 "java/lang/String" "coder" "B" (.int (0 : Int32)) := D37 (Or.inr (hW 31 _ rfl)) (ty := .byte) (by decide)
    have F37_value : Fld Z h37 b37 "java/lang/String" "value" "[B" .null := D37 (Or.inr (hW 33 _ rfl)) (ty := (.array .byte)) (by decide)
    show own_go p e below s _ _ _ (T37.setTop (mkF m 166 #[.val (.int p1), .val (.int (1 : Int32)), .val (.ref w1), .val (.ref b27), .unset, .unset, .unset, .unset] [(.ref b37)]))
    refine own_of (fun t => XS.dup X37.here hx rfl (hb hby at_166) rfl rfl) ?_
    show own_go p e below s _ _ _ (T37.setTop (mkF m 167 #[.val (.int p1), .val (.int (1 : Int32)), .val (.ref w1), .val (.ref b27), .unset, .unset, .unset, .unset] [(.ref b37), (.ref b37)]))
    refine own_of (fun t => XS.aloadN X37.here hx rfl (hb hby at_167) rfl rfl) ?_
    show own_go p e below s _ _ _ (T37.setTop (mkF m 168 #[.val (.int p1), .val (.int (1 : Int32)), .val (.ref w1), .val (.ref b27), .unset, .unset, .unset, .unset] [(.ref b27), (.ref b37), (.ref b37)]))
    have hp : ∀ c ∈ ([99, 111, 109, 112, 108, 101, 116, 101, 100] : List Int32), ¬ c < 0 ∧ ¬ (255 : Int32) < c := by decide
    have f38 : Arv Z h37 b27 k27 .char (9 : Int32) [(.int (99 : Int32)), (.int (111 : Int32)), (.int (109 : Int32)), (.int (112 : Int32)), (.int (108 : Int32)), (.int (101 : Int32)), (.int (116 : Int32)), (.int (101 : Int32)), (.int (100 : Int32))] (.int (0 : Int32)) := (V36.ext E37)
    obtain ⟨_, _, ⟨T39, L39, k39, n39⟩, -, X39, ⟨Lc39, hQ39, l39, y39, z39⟩, st39⟩ := X37.specialBack hx (y := (⟨"java/lang/String", "<init>", "([C)V"⟩ : MethodName)) rfl hown (mvT hZ (hW 8 _ rfl)) (mvT hZ (hW 9 _ rfl)) (mvT hZ (hW 10 _ rfl)) (by decide) (StrChars.Road.backV (W := 1) hZ hws (kI := 4) (hW 6 _ rfl) (cs := ([99, 111, 109, 112, 108, 101, 116, 101, 100] : List Int32)) (bs := ([99, 111, 109, 112, 108, 101, 116, 101, 100] : List Int32).map (fun c => c.toInt8.toInt32)) (n := 9) (by omega : n0 ≤ b37) (by omega : n0 ≤ h37.size) A37 F37_value F37_coder f38 (O2.ext O37.2) P5 rfl rfl (by decide) (by decide) hp rfl (by decide) (by decide)) (g := (mkF m 168 #[.val (.int p1), .val (.int (1 : Int32)), .val (.ref w1), .val (.ref b27), .unset, .unset, .unset, .unset] [(.ref b27), (.ref b37), (.ref b37)])) rfl (by rw [hml]; rfl) (Steps.refl _) (a := b37) (argsL := [(.ref b27)]) (rest := [(.ref b37)]) (lenOf pd_2 rfl) rfl (by show 2 * 0 + _ ≤ _; exact Nat.le_of_eq rfl) (hb hby at_168) (fun _ _ => ⟨rfl, e37, (by decide : 2 + 1 ≤ _), (by decide : 13 + 9 ≤ _)⟩)
    dsimp only [Pt.U, Pt.locs, Pt.cells, Pt.slots] at X39 l39 y39 z39 st39 hQ39
    subst l39 y39 z39
    obtain ⟨rfl, Nq39, Kp39, g139, g239, t39, kb39, u139, u239, u339, g439, g539⟩ := hQ39
    have N39 := Fr.app N36 Nq39
    refine own_of (fun t k => st39.trans k) ?_
    have sz39 : h37.size ≤ T39.heap.size := Kp39.1
    have O39 : Old Z n0 T39.heap := O37.keep Kp39 (by simp only [List.mem_cons, List.not_mem_nil, or_false, forall_eq, false_implies, implies_true]; omega)
    have Sx39 : own_str Z T39.heap b37 ([99, 111, 109, 112, 108, 101, 116, 101, 100] : List Int32) := ⟨t39, kb39, _, _, g139, g439, g239, g539, StrChars.Road.codOf (n := 9) rfl (fun c hc => (hp c hc).2)⟩
    show own_go p e below s _ _ _ (T39.setTop (mkF m 171 #[.val (.int p1), .val (.int (1 : Int32)), .val (.ref w1), .val (.ref b27), .unset, .unset, .unset, .unset] [(.ref b37)]))
    refine own_of (fun t => XS.astore X39.here hx rfl (hb hby at_171) rfl rfl (l' := #[.val (.int p1), .val (.int (1 : Int32)), .val (.ref w1), .val (.ref b27), .val (.ref b37), .unset, .unset, .unset]) rfl) ?_
    show own_go p e below s _ _ _ (T39.setTop (mkF m 173 #[.val (.int p1), .val (.int (1 : Int32)), .val (.ref w1), .val (.ref b27), .val (.ref b37), .unset, .unset, .unset] []))
    refine own_of (fun t => XS.aload X39.here hx rfl (hb hby at_173) rfl rfl) ?_
    show own_go p e below s _ _ _ (T39.setTop (mkF m 175 #[.val (.int p1), .val (.int (1 : Int32)), .val (.ref w1), .val (.ref b27), .val (.ref b37), .unset, .unset, .unset] [(.ref b37)]))
    obtain ⟨_, _, ⟨T40, L40, k40, n40⟩, -, X40, ⟨Lc40, hQ40, l40, y40, z40⟩, st40⟩ := Jvm.LawKit.callS X39 hx (y := (⟨"com/example/bo3/bo3/store/RunStatus", "ofColumnValue", "(Ljava/lang/String;)Lcom/example/bo3/bo3/store/RunStatus;"⟩ : MethodName)) hown (mvT hZ (hW 34 _ rfl)) (mvT hZ (hW 35 _ rfl)) (mvT hZ (hW 2 _ rfl)) (mvT hZ (hW 36 _ rfl)) (by decide) (backOf (W := 0) (rmO_1 l Z a0 hw [] va k w0 w1 w2 c0 c1 c2 G1 b37 T39.heap n0 O39 S_VA E_va V_va Fc0 Fc1 Fc2 Sc0 Sc1 Sc2 O2 P5 Sx39) hZ (hW 36 _ rfl) (hW 2 _ rfl) (by decide) (by decide)) (g := (mkF m 175 #[.val (.int p1), .val (.int (1 : Int32)), .val (.ref w1), .val (.ref b27), .val (.ref b37), .unset, .unset, .unset] [(.ref b37)])) rfl (by rw [hml]; rfl) (argsL := [(.ref b37)]) (rest := []) (lenOf pd_3 rfl) rfl (by show 2 * 0 + _ ≤ _; exact Nat.le_of_eq rfl) (hb hby at_175) (fun _ _ => ⟨rfl, rfl, (by decide : 3 + 1 ≤ _), (by decide : 22 + 3 ≤ _)⟩)
    dsimp only [Pt.U, Pt.locs, Pt.cells, Pt.slots] at X40 l40 y40 z40 st40 hQ40
    subst l40 y40 z40
    obtain ⟨rfl, Nq40, Kp40⟩ := hQ40
    have N40 := Fr.app N39 Nq40
    refine own_of st40 ?_
    have sz40 : T39.heap.size ≤ T40.heap.size := Kp40.1
    have O40 : Old Z n0 T40.heap := O39.keep Kp40 (by simp only [List.mem_cons, List.not_mem_nil, or_false, forall_eq, false_implies, implies_true])
    show own_go p e below s _ _ _ (T40.setTop (mkF m 178 #[.val (.int p1), .val (.int (1 : Int32)), .val (.ref w1), .val (.ref b27), .val (.ref b37), .unset, .unset, .unset] [(.ref w1)]))
    refine own_of (fun t => XS.astore X40.here hx rfl (hb hby at_178) rfl rfl (l' := #[.val (.int p1), .val (.int (1 : Int32)), .val (.ref w1), .val (.ref b27), .val (.ref b37), .val (.ref w1), .unset, .unset]) rfl) ?_
    show own_go p e below s _ _ _ (T40.setTop (mkF m 180 #[.val (.int p1), .val (.int (1 : Int32)), .val (.ref w1), .val (.ref b27), .val (.ref b37), .val (.ref w1), .unset, .unset] []))
    refine own_of (fun t => XS.aloadN X40.here hx rfl (hb hby at_180) rfl rfl) ?_
    show own_go p e below s _ _ _ (T40.setTop (mkF m 181 #[.val (.int p1), .val (.int (1 : Int32)), .val (.ref w1), .val (.ref b27), .val (.ref b37), .val (.ref w1), .unset, .unset] [(.ref w1)]))
    have f42 : Exa Z T40.heap w1 "com/example/bo3/bo3/store/RunStatus" := Ew1.ext O40.2
    obtain ⟨cq41, kq41, q41a, q41b, q41c⟩ := isOf hZ rfl f42
    obtain ⟨_, _, ⟨T41, L41, k41, n41⟩, -, X41, ⟨Lc41, hQ41, l41, y41, z41⟩, st41⟩ := X40.virtualBack hx (y := (⟨"com/example/bo3/bo3/store/RunStatus", "columnValue", "()Ljava/lang/String;"⟩ : MethodName)) (z := (⟨"com/example/bo3/bo3/store/RunStatus", "columnValue", "()Ljava/lang/String;"⟩ : MethodName)) hown (mvT hZ (hW 66 _ rfl)) (mvT hZ (hW 67 _ rfl)) (notFace_of_selects (args := #[]) (mvT hZ (hW 69 _ rfl))) (mvT hZ (hW 69 _ rfl)) (mvT hZ (hW 68 _ rfl)) (by decide) (backOf (W := 0) (rmC l Z a0 hw [] w1 c1 T40.heap n0 O40 Fc1) hZ (hW 70 _ rfl) (hW 2 _ rfl) (by decide) (by decide)) q41a q41c (g := (mkF m 181 #[.val (.int p1), .val (.int (1 : Int32)), .val (.ref w1), .val (.ref b27), .val (.ref b37), .val (.ref w1), .unset, .unset] [(.ref w1)])) rfl (by rw [hml]; rfl) (Steps.refl _) (argsL := []) (rest := []) (lenOf pd_4 rfl) rfl (by show 2 * 0 + _ ≤ _; exact Nat.le_of_eq rfl) (hb hby at_181) (fun _ _ => ⟨rfl, rfl, (by decide : 4 + 0 ≤ _), (by decide : 25 + 0 ≤ _)⟩)
    dsimp only [Pt.U, Pt.locs, Pt.cells, Pt.slots] at X41 l41 y41 z41 st41 hQ41
    subst l41 y41 z41
    obtain ⟨rfl, Nq41, eh41⟩ := hQ41
    have N41 := Fr.app N40 Nq41
    refine own_of (fun t k => st41.trans k) ?_
    show own_go p e below s _ _ _ (T41.setTop (mkF m 184 #[.val (.int p1), .val (.int (1 : Int32)), .val (.ref w1), .val (.ref b27), .val (.ref b37), .val (.ref w1), .unset, .unset] [(.ref c1)]))
    refine own_of (fun t => XS.astore X41.here hx rfl (hb hby at_184) rfl rfl (l' := #[.val (.int p1), .val (.int (1 : Int32)), .val (.ref w1), .val (.ref b27), .val (.ref b37), .val (.ref w1), .val (.ref c1), .unset]) rfl) ?_
    show own_go p e below s _ _ _ (T41.setTop (mkF m 186 #[.val (.int p1), .val (.int (1 : Int32)), .val (.ref w1), .val (.ref b27), .val (.ref b37), .val (.ref w1), .val (.ref c1), .unset] []))
    refine own_of (fun t => XS.aload X41.here hx rfl (hb hby at_186) rfl rfl) ?_
    show own_go p e below s _ _ _ (T41.setTop (mkF m 188 #[.val (.int p1), .val (.int (1 : Int32)), .val (.ref w1), .val (.ref b27), .val (.ref b37), .val (.ref w1), .val (.ref c1), .unset] [(.ref c1)]))
    have f43 : own_str Z T40.heap c1 ([99, 111, 109, 112, 108, 101, 116, 101, 100] : List Int32) := Sc1.ext O40.2
    obtain ⟨_, _, ⟨T44, L44, k44, n44⟩, -, X44, ⟨Lc44, hQ44, l44, y44, z44⟩, st44⟩ := Jvm.LawKit.callS X41 hx (y := (⟨"com/example/bo3/bo3/store/RunStatus", "ofColumnValue", "(Ljava/lang/String;)Lcom/example/bo3/bo3/store/RunStatus;"⟩ : MethodName)) hown (mvT hZ (hW 34 _ rfl)) (mvT hZ (hW 35 _ rfl)) (mvT hZ (hW 2 _ rfl)) (mvT hZ (hW 36 _ rfl)) (by decide) (backOf (W := 0) (rmO_1 l Z a0 hw [] va k w0 w1 w2 c0 c1 c2 G1 c1 T40.heap n0 O40 S_VA E_va V_va Fc0 Fc1 Fc2 Sc0 Sc1 Sc2 O2 P5 f43) hZ (hW 36 _ rfl) (hW 2 _ rfl) (by decide) (by decide)) (g := (mkF m 188 #[.val (.int p1), .val (.int (1 : Int32)), .val (.ref w1), .val (.ref b27), .val (.ref b37), .val (.ref w1), .val (.ref c1), .unset] [(.ref c1)])) rfl (by rw [hml]; rfl) (argsL := [(.ref c1)]) (rest := []) (lenOf pd_3 rfl) rfl (by show 2 * 0 + _ ≤ _; exact Nat.le_of_eq rfl) (hb hby at_188) (fun _ _ => ⟨rfl, eh41, (by decide : 4 + 1 ≤ _), (by decide : 25 + 3 ≤ _)⟩)
    dsimp only [Pt.U, Pt.locs, Pt.cells, Pt.slots] at X44 l44 y44 z44 st44 hQ44
    subst l44 y44 z44
    obtain ⟨rfl, Nq44, Kp44⟩ := hQ44
    have N44 := Fr.app N41 Nq44
    refine own_of st44 ?_
    have sz44 : T40.heap.size ≤ T44.heap.size := Kp44.1
    have O44 : Old Z n0 T44.heap := O40.keep Kp44 (by simp only [List.mem_cons, List.not_mem_nil, or_false, forall_eq, false_implies, implies_true])
    show own_go p e below s _ _ _ (T44.setTop (mkF m 191 #[.val (.int p1), .val (.int (1 : Int32)), .val (.ref w1), .val (.ref b27), .val (.ref b37), .val (.ref w1), .val (.ref c1), .unset] [(.ref w1)]))
    refine own_of (fun t => XS.astore X44.here hx rfl (hb hby at_191) rfl rfl (l' := #[.val (.int p1), .val (.int (1 : Int32)), .val (.ref w1), .val (.ref b27), .val (.ref b37), .val (.ref w1), .val (.ref c1), .val (.ref w1)]) rfl) ?_
    show own_go p e below s _ _ _ (T44.setTop (mkF m 193 #[.val (.int p1), .val (.int (1 : Int32)), .val (.ref w1), .val (.ref b27), .val (.ref b37), .val (.ref w1), .val (.ref c1), .val (.ref w1)] []))
    refine own_of (fun t => XS.aload X44.here hx rfl (hb hby at_193) rfl rfl) ?_
    show own_go p e below s _ _ _ (T44.setTop (mkF m 195 #[.val (.int p1), .val (.int (1 : Int32)), .val (.ref w1), .val (.ref b27), .val (.ref b37), .val (.ref w1), .val (.ref c1), .val (.ref w1)] [(.ref w1)]))
    refine own_of (fun t => XS.aloadN X44.here hx rfl (hb hby at_195) rfl rfl) ?_
    show own_go p e below s _ _ _ (T44.setTop (mkF m 196 #[.val (.int p1), .val (.int (1 : Int32)), .val (.ref w1), .val (.ref b27), .val (.ref b37), .val (.ref w1), .val (.ref c1), .val (.ref w1)] [(.ref w1), (.ref w1)]))
    refine own_of (fun t => Jvm.RoadKit.acmp (g := (mkF m 196 #[.val (.int p1), .val (.int (1 : Int32)), .val (.ref w1), .val (.ref b27), .val (.ref b37), .val (.ref w1), .val (.ref c1), .val (.ref w1)] [(.ref w1), (.ref w1)])) X44 hx rfl rfl rfl (pc0 := 196) (pc' := 199) (same := true) rfl (hb hby at_196) rfl (decide_eq_true rfl) (by decide) (by decide)) ?_
    show own_go p e below s _ _ _ (T44.setTop (mkF m 199 #[.val (.int p1), .val (.int (1 : Int32)), .val (.ref w1), .val (.ref b27), .val (.ref b37), .val (.ref w1), .val (.ref c1), .val (.ref w1)] []))
    refine own_of (fun t => XS.aload X44.here hx rfl (hb hby at_199) rfl rfl) ?_
    show own_go p e below s _ _ _ (T44.setTop (mkF m 201 #[.val (.int p1), .val (.int (1 : Int32)), .val (.ref w1), .val (.ref b27), .val (.ref b37), .val (.ref w1), .val (.ref c1), .val (.ref w1)] [(.ref w1)]))
    refine own_of (fun t => XS.aloadN X44.here hx rfl (hb hby at_201) rfl rfl) ?_
    show own_go p e below s _ _ _ (T44.setTop (mkF m 202 #[.val (.int p1), .val (.int (1 : Int32)), .val (.ref w1), .val (.ref b27), .val (.ref b37), .val (.ref w1), .val (.ref c1), .val (.ref w1)] [(.ref w1), (.ref w1)]))
    refine own_of (fun t => Jvm.RoadKit.acmp (g := (mkF m 202 #[.val (.int p1), .val (.int (1 : Int32)), .val (.ref w1), .val (.ref b27), .val (.ref b37), .val (.ref w1), .val (.ref c1), .val (.ref w1)] [(.ref w1), (.ref w1)])) X44 hx rfl rfl rfl (pc0 := 202) (pc' := 205) (same := true) rfl (hb hby at_202) rfl (decide_eq_true rfl) (by decide) (by decide)) ?_
    show own_go p e below s _ _ _ (T44.setTop (mkF m 205 #[.val (.int p1), .val (.int (1 : Int32)), .val (.ref w1), .val (.ref b27), .val (.ref b37), .val (.ref w1), .val (.ref c1), .val (.ref w1)] []))
    refine own_of (fun t => XS.aload X44.here hx rfl (hb hby at_205) rfl rfl) ?_
    show own_go p e below s _ _ _ (T44.setTop (mkF m 207 #[.val (.int p1), .val (.int (1 : Int32)), .val (.ref w1), .val (.ref b27), .val (.ref b37), .val (.ref w1), .val (.ref c1), .val (.ref w1)] [(.ref c1)]))
    refine own_of (fun t => XS.aload X44.here hx rfl (hb hby at_207) rfl rfl) ?_
    show own_go p e below s _ _ _ (T44.setTop (mkF m 209 #[.val (.int p1), .val (.int (1 : Int32)), .val (.ref w1), .val (.ref b27), .val (.ref b37), .val (.ref w1), .val (.ref c1), .val (.ref w1)] [(.ref b37), (.ref c1)]))
    have f45 : own_str Z T44.heap c1 ([99, 111, 109, 112, 108, 101, 116, 101, 100] : List Int32) := (f43.keep Kp44 nin0)
    have f46 : own_str Z T44.heap b37 ([99, 111, 109, 112, 108, 101, 116, 101, 100] : List Int32) := ((Sx39.keep Kp40 nin0).keep Kp44 nin0)
    obtain ⟨t47a, kb47a, N47a, vs47a, Ea47, Va47, Ca47, Ka47, cd47a⟩ := id f45
    obtain ⟨t47b, kb47b, N47b, vs47b, Eb47, Vb47, Cb47, Kb47, cd47b⟩ := id f46
    obtain ⟨cq48, kq48, q48a, q48b, q48c⟩ := isOf hZ rfl Ea47
    obtain ⟨_, _, ⟨T48, L48, k48, n48⟩, -, X48, ⟨Lc48, hQ48, l48, y48, z48⟩, st48⟩ := X44.virtualBack hx (y := (⟨"java/lang/String", "equals", "(Ljava/lang/Object;)Z"⟩ : MethodName)) (z := (⟨"java/lang/String", "equals", "(Ljava/lang/Object;)Z"⟩ : MethodName)) hown (mvT hZ (hW 71 _ rfl)) (mvT hZ (hW 57 _ rfl)) (notFace_of_selects (args := #[]) (mvT hZ (hW 59 _ rfl))) (mvT hZ (hW 59 _ rfl)) (mvT hZ (hW 58 _ rfl)) (by decide) (StrChars.Road.eqW (W := 0) hZ heq (kI := 4) (hW 6 _ rfl) Ea47 Va47 Ca47 Ka47 cd47a (by decide) (by decide) Eb47 Vb47 Cb47 Kb47 cd47b (by decide) (by decide) (O2.ext O44.2) P5 (by decide) (by decide)) q48a q48c (g := (mkF m 209 #[.val (.int p1), .val (.int (1 : Int32)), .val (.ref w1), .val (.ref b27), .val (.ref b37), .val (.ref w1), .val (.ref c1), .val (.ref w1)] [(.ref b37), (.ref c1)])) rfl (by rw [hml]; rfl) (Steps.refl _) (argsL := [(.ref b37)]) (rest := []) (lenOf pd_1 rfl) rfl (by show 2 * 0 + _ ≤ _; exact Nat.le_of_eq rfl) (hb hby at_209) (fun _ _ => ⟨rfl, rfl, (by decide : 5 + 0 ≤ _), (by decide : 28 + 0 ≤ _)⟩)
    dsimp only [Pt.U, Pt.locs, Pt.cells, Pt.slots] at X48 l48 y48 z48 st48 hQ48
    subst l48 y48 z48
    obtain ⟨hc48, rfl, eh48⟩ := hQ48
    have hv48 : _ = some (Value.int 1) := hc48.elim (fun q => q.1) (fun q => absurd rfl q.2)
    subst hv48
    have Nq48 : Fr n0 ([] : List Loc) := Fr.nil n0
    have N48 := Fr.app N44 Nq48
    refine own_of (fun t k => st48.trans k) ?_
    show own_go p e below s _ _ _ (T48.setTop (mkF m 212 #[.val (.int p1), .val (.int (1 : Int32)), .val (.ref w1), .val (.ref b27), .val (.ref b37), .val (.ref w1), .val (.ref c1), .val (.ref w1)] [(.int (1 : Int32))]))
    have hb212_49 : ¬ ((1 : Int32) = (0 : Int32)) := by decide
    refine own_of (fun t => XS.ifNo X48.here hx rfl (hb hby at_212) rfl ((if0 _ _).trans (feq hb212_49).1)) ?_
    show own_go p e below s _ _ _ (T48.setTop (mkF m 215 #[.val (.int p1), .val (.int (1 : Int32)), .val (.ref w1), .val (.ref b27), .val (.ref b37), .val (.ref w1), .val (.ref c1), .val (.ref w1)] []))
    refine own_of (fun t => XS.iconst X48.here hx rfl (hb hby at_215)) ?_
    show own_go p e below s _ _ _ (T48.setTop (mkF m 216 #[.val (.int p1), .val (.int (1 : Int32)), .val (.ref w1), .val (.ref b27), .val (.ref b37), .val (.ref w1), .val (.ref c1), .val (.ref w1)] [(.int (1 : Int32))]))
    refine own_of (fun t => XS.goto X48.here hx rfl (pc0 := 216) (pc' := 220) rfl (hb hby at_216) (by decide) (by decide)) ?_
    show own_go p e below s _ _ _ (T48.setTop (mkF m 220 #[.val (.int p1), .val (.int (1 : Int32)), .val (.ref w1), .val (.ref b27), .val (.ref b37), .val (.ref w1), .val (.ref c1), .val (.ref w1)] [(.int (1 : Int32))]))
    refine own_ret X48 hx hlk Bd.returns rfl (Or.inl ⟨rfl, by simp, _, rfl⟩) (hb hby at_220) (by decide) (by decide) ?_
    rw [eh48]
    exact ⟨rfl, N48⟩
  · rw [hi]
    show own_go p e below s _ _ _ (s₁.setTop (mkF m 6 #[.val (.int p1), .unset, .unset, .unset, .unset, .unset, .unset, .unset] [(.int (2 : Int32))]))
    refine own_of (fun t => XS.istoreN X0.here hx rfl (hb hby at_6) rfl (l' := #[.val (.int p1), .val (.int (2 : Int32)), .unset, .unset, .unset, .unset, .unset, .unset]) rfl) ?_
    show own_go p e below s _ _ _ (s₁.setTop (mkF m 7 #[.val (.int p1), .val (.int (2 : Int32)), .unset, .unset, .unset, .unset, .unset, .unset] []))
    refine own_of (fun t => XS.iloadN X0.here hx rfl (hb hby at_7) rfl) ?_
    show own_go p e below s _ _ _ (s₁.setTop (mkF m 8 #[.val (.int p1), .val (.int (2 : Int32)), .unset, .unset, .unset, .unset, .unset, .unset] [(.int (2 : Int32))]))
    have hb8_50 : ¬ ((2 : Int32) = (0 : Int32)) := by decide
    refine own_of (fun t => XS.ifYes X0.here hx rfl (pc0 := 8) (pc' := 59) rfl (hb hby at_8) rfl ((if0 _ _).trans (feq hb8_50).2) (by decide) (by decide)) ?_
    show own_go p e below s _ _ _ (s₁.setTop (mkF m 59 #[.val (.int p1), .val (.int (2 : Int32)), .unset, .unset, .unset, .unset, .unset, .unset] []))
    refine own_of (fun t => XS.iloadN X0.here hx rfl (hb hby at_59) rfl) ?_
    show own_go p e below s _ _ _ (s₁.setTop (mkF m 60 #[.val (.int p1), .val (.int (2 : Int32)), .unset, .unset, .unset, .unset, .unset, .unset] [(.int (2 : Int32))]))
    refine own_of (fun t => XS.iconst X0.here hx rfl (hb hby at_60)) ?_
    show own_go p e below s _ _ _ (s₁.setTop (mkF m 61 #[.val (.int p1), .val (.int (2 : Int32)), .unset, .unset, .unset, .unset, .unset, .unset] [(.int (1 : Int32)), (.int (2 : Int32))]))
    have hb61_51 : ¬ ((2 : Int32) = (1 : Int32)) := by decide
    refine own_of (fun t => XS.icmpYes X0.here hx rfl (pc0 := 61) (pc' := 124) rfl (hb hby at_61) rfl (feq hb61_51).2 (by decide) (by decide)) ?_
    show own_go p e below s _ _ _ (s₁.setTop (mkF m 124 #[.val (.int p1), .val (.int (2 : Int32)), .unset, .unset, .unset, .unset, .unset, .unset] []))
    obtain ⟨T52, X52, e52, st52⟩ := getS2 X0 hx hZ hown (host := "") (Or.inl (hW 72 _ rfl)) Via.refl e0 (S_FAILED.ext XO0.2) (g := (mkF m 124 #[.val (.int p1), .val (.int (2 : Int32)), .unset, .unset, .unset, .unset, .unset, .unset] [])) rfl (hb hby at_124)
    refine own_of st52 ?_
    show own_go p e below s _ _ _ (T52.setTop (mkF m 127 #[.val (.int p1), .val (.int (2 : Int32)), .unset, .unset, .unset, .unset, .unset, .unset] [(.ref w2)]))
    refine own_of (fun t => XS.astoreN X52.here hx rfl (hb hby at_127) rfl rfl (l' := #[.val (.int p1), .val (.int (2 : Int32)), .val (.ref w2), .unset, .unset, .unset, .unset, .unset]) rfl) ?_
    show own_go p e below s _ _ _ (T52.setTop (mkF m 128 #[.val (.int p1), .val (.int (2 : Int32)), .val (.ref w2), .unset, .unset, .unset, .unset, .unset] []))
    refine own_of (fun t => XS.bipush X52.here hx rfl (hb hby at_128)) ?_
    show own_go p e below s _ _ _ (T52.setTop (mkF m 130 #[.val (.int p1), .val (.int (2 : Int32)), .val (.ref w2), .unset, .unset, .unset, .unset, .unset] [(.int (6 : Int32))]))
    obtain ⟨T53, h53, k53, X53, e53, E53, A53, st53⟩ := newP X52 hx hZ (hW 4 _ rfl) e52 (g := (mkF m 130 #[.val (.int p1), .val (.int (2 : Int32)), .val (.ref w2), .unset, .unset, .unset, .unset, .unset] [(.int (6 : Int32))])) rfl (hb hby at_130) rfl (by decide) (cap := 6) (by decide) (by decide) (by decide) (by decide)
    obtain ⟨b53, g53⟩ : ∃ z, z = h0.size := ⟨_, rfl⟩
    rw [← g53] at A53 st53
    refine own_of st53 ?_
    have lt53 : b53 < h53.size := A53.lt
    have sz53 : h0.size ≤ h53.size := E53.1
    have O53 : Old Z n0 h53 := XO0.ext E53
    have z53 : n0 ≤ b53 := by have := XO0.1 ▸ XO0.2.1; omega
    have V53 : Arv Z h53 b53 k53 .char (6 : Int32) [(.int (0 : Int32)), (.int (0 : Int32)), (.int (0 : Int32)), (.int (0 : Int32)), (.int (0 : Int32)), (.int (0 : Int32))] (.int (0 : Int32)) := (Arv.new A53 (by decide)).pad (pad_rep [] (.int (0 : Int32)) 6)
    show own_go p e below s _ _ _ (T53.setTop (mkF m 132 #[.val (.int p1), .val (.int (2 : Int32)), .val (.ref w2), .unset, .unset, .unset, .unset, .unset] [(.ref b53)]))
    refine own_of (fun t => XS.dup X53.here hx rfl (hb hby at_132) rfl rfl) ?_
    show own_go p e below s _ _ _ (T53.setTop (mkF m 133 #[.val (.int p1), .val (.int (2 : Int32)), .val (.ref w2), .unset, .unset, .unset, .unset, .unset] [(.ref b53), (.ref b53)]))
    refine own_of (fun t => XS.iconst X53.here hx rfl (hb hby at_133)) ?_
    show own_go p e below s _ _ _ (T53.setTop (mkF m 134 #[.val (.int p1), .val (.int (2 : Int32)), .val (.ref w2), .unset, .unset, .unset, .unset, .unset] [(.int (0 : Int32)), (.ref b53), (.ref b53)]))
    refine own_of (fun t => XS.bipush X53.here hx rfl (hb hby at_134)) ?_
    show own_go p e below s _ _ _ (T53.setTop (mkF m 136 #[.val (.int p1), .val (.int (2 : Int32)), .val (.ref w2), .unset, .unset, .unset, .unset, .unset] [(.int (102 : Int32)), (.int (0 : Int32)), (.ref b53), (.ref b53)]))
    obtain ⟨cl54, Ar54, q54, S54, Ng54, H54, G54⟩ := V53
    obtain ⟨T54, h54, X54, e54, W54, st54⟩ := stC X53 hx hZ e53 Ar54 (j := (0 : Int32)) (inb_of S54 ⟨by decide, by decide⟩) (g := (mkF m 136 #[.val (.int p1), .val (.int (2 : Int32)), .val (.ref w2), .unset, .unset, .unset, .unset, .unset] [(.int (102 : Int32)), (.int (0 : Int32)), (.ref b53), (.ref b53)])) rfl rfl (hb hby at_136)
    have V54 : Arv Z h54 b53 k53 .char (6 : Int32) [(.int (102 : Int32)), (.int (0 : Int32)), (.int (0 : Int32)), (.int (0 : Int32)), (.int (0 : Int32)), (.int (0 : Int32))] (.int (0 : Int32)) := Arv.set Ar54 q54 S54 Ng54 H54 G54 rfl W54 0 rfl (Nat.le_of_ble_eq_true rfl)
    refine own_of st54 ?_
    have N54 := Fr.snoc X54 N0 (by omega : n0 ≤ b53)
    have sz54 : h54.size = h53.size := W54.size
    have O54 : Old Z n0 h54 := O53.wr W54 (by omega)
    show own_go p e below s _ _ _ (T54.setTop (mkF m 137 #[.val (.int p1), .val (.int (2 : Int32)), .val (.ref w2), .unset, .unset, .unset, .unset, .unset] [(.ref b53)]))
    refine own_of (fun t => XS.dup X54.here hx rfl (hb hby at_137) rfl rfl) ?_
    show own_go p e below s _ _ _ (T54.setTop (mkF m 138 #[.val (.int p1), .val (.int (2 : Int32)), .val (.ref w2), .unset, .unset, .unset, .unset, .unset] [(.ref b53), (.ref b53)]))
    refine own_of (fun t => XS.iconst X54.here hx rfl (hb hby at_138)) ?_
    show own_go p e below s _ _ _ (T54.setTop (mkF m 139 #[.val (.int p1), .val (.int (2 : Int32)), .val (.ref w2), .unset, .unset, .unset, .unset, .unset] [(.int (1 : Int32)), (.ref b53), (.ref b53)]))
    refine own_of (fun t => XS.bipush X54.here hx rfl (hb hby at_139)) ?_
    show own_go p e below s _ _ _ (T54.setTop (mkF m 141 #[.val (.int p1), .val (.int (2 : Int32)), .val (.ref w2), .unset, .unset, .unset, .unset, .unset] [(.int (97 : Int32)), (.int (1 : Int32)), (.ref b53), (.ref b53)]))
    obtain ⟨cl55, Ar55, q55, S55, Ng55, H55, G55⟩ := V54
    obtain ⟨T55, h55, X55, e55, W55, st55⟩ := stC X54 hx hZ e54 Ar55 (j := (1 : Int32)) (inb_of S55 ⟨by decide, by decide⟩) (g := (mkF m 141 #[.val (.int p1), .val (.int (2 : Int32)), .val (.ref w2), .unset, .unset, .unset, .unset, .unset] [(.int (97 : Int32)), (.int (1 : Int32)), (.ref b53), (.ref b53)])) rfl rfl (hb hby at_141)
    have V55 : Arv Z h55 b53 k53 .char (6 : Int32) [(.int (102 : Int32)), (.int (97 : Int32)), (.int (0 : Int32)), (.int (0 : Int32)), (.int (0 : Int32)), (.int (0 : Int32))] (.int (0 : Int32)) := Arv.set Ar55 q55 S55 Ng55 H55 G55 rfl W55 1 rfl (Nat.le_of_ble_eq_true rfl)
    refine own_of st55 ?_
    have N55 := Fr.snoc X55 N54 (by omega : n0 ≤ b53)
    have sz55 : h55.size = h54.size := W55.size
    have O55 : Old Z n0 h55 := O54.wr W55 (by omega)
    show own_go p e below s _ _ _ (T55.setTop (mkF m 142 #[.val (.int p1), .val (.int (2 : Int32)), .val (.ref w2), .unset, .unset, .unset, .unset, .unset] [(.ref b53)]))
    refine own_of (fun t => XS.dup X55.here hx rfl (hb hby at_142) rfl rfl) ?_
    show own_go p e below s _ _ _ (T55.setTop (mkF m 143 #[.val (.int p1), .val (.int (2 : Int32)), .val (.ref w2), .unset, .unset, .unset, .unset, .unset] [(.ref b53), (.ref b53)]))
    refine own_of (fun t => XS.iconst X55.here hx rfl (hb hby at_143)) ?_
    show own_go p e below s _ _ _ (T55.setTop (mkF m 144 #[.val (.int p1), .val (.int (2 : Int32)), .val (.ref w2), .unset, .unset, .unset, .unset, .unset] [(.int (2 : Int32)), (.ref b53), (.ref b53)]))
    refine own_of (fun t => XS.bipush X55.here hx rfl (hb hby at_144)) ?_
    show own_go p e below s _ _ _ (T55.setTop (mkF m 146 #[.val (.int p1), .val (.int (2 : Int32)), .val (.ref w2), .unset, .unset, .unset, .unset, .unset] [(.int (105 : Int32)), (.int (2 : Int32)), (.ref b53), (.ref b53)]))
    obtain ⟨cl56, Ar56, q56, S56, Ng56, H56, G56⟩ := V55
    obtain ⟨T56, h56, X56, e56, W56, st56⟩ := stC X55 hx hZ e55 Ar56 (j := (2 : Int32)) (inb_of S56 ⟨by decide, by decide⟩) (g := (mkF m 146 #[.val (.int p1), .val (.int (2 : Int32)), .val (.ref w2), .unset, .unset, .unset, .unset, .unset] [(.int (105 : Int32)), (.int (2 : Int32)), (.ref b53), (.ref b53)])) rfl rfl (hb hby at_146)
    have V56 : Arv Z h56 b53 k53 .char (6 : Int32) [(.int (102 : Int32)), (.int (97 : Int32)), (.int (105 : Int32)), (.int (0 : Int32)), (.int (0 : Int32)), (.int (0 : Int32))] (.int (0 : Int32)) := Arv.set Ar56 q56 S56 Ng56 H56 G56 rfl W56 2 rfl (Nat.le_of_ble_eq_true rfl)
    refine own_of st56 ?_
    have N56 := Fr.snoc X56 N55 (by omega : n0 ≤ b53)
    have sz56 : h56.size = h55.size := W56.size
    have O56 : Old Z n0 h56 := O55.wr W56 (by omega)
    show own_go p e below s _ _ _ (T56.setTop (mkF m 147 #[.val (.int p1), .val (.int (2 : Int32)), .val (.ref w2), .unset, .unset, .unset, .unset, .unset] [(.ref b53)]))
    refine own_of (fun t => XS.dup X56.here hx rfl (hb hby at_147) rfl rfl) ?_
    show own_go p e below s _ _ _ (T56.setTop (mkF m 148 #[.val (.int p1), .val (.int (2 : Int32)), .val (.ref w2), .unset, .unset, .unset, .unset, .unset] [(.ref b53), (.ref b53)]))
    refine own_of (fun t => XS.iconst X56.here hx rfl (hb hby at_148)) ?_
    show own_go p e below s _ _ _ (T56.setTop (mkF m 149 #[.val (.int p1), .val (.int (2 : Int32)), .val (.ref w2), .unset, .unset, .unset, .unset, .unset] [(.int (3 : Int32)), (.ref b53), (.ref b53)]))
    refine own_of (fun t => XS.bipush X56.here hx rfl (hb hby at_149)) ?_
    show own_go p e below s _ _ _ (T56.setTop (mkF m 151 #[.val (.int p1), .val (.int (2 : Int32)), .val (.ref w2), .unset, .unset, .unset, .unset, .unset] [(.int (108 : Int32)), (.int (3 : Int32)), (.ref b53), (.ref b53)]))
    obtain ⟨cl57, Ar57, q57, S57, Ng57, H57, G57⟩ := V56
    obtain ⟨T57, h57, X57, e57, W57, st57⟩ := stC X56 hx hZ e56 Ar57 (j := (3 : Int32)) (inb_of S57 ⟨by decide, by decide⟩) (g := (mkF m 151 #[.val (.int p1), .val (.int (2 : Int32)), .val (.ref w2), .unset, .unset, .unset, .unset, .unset] [(.int (108 : Int32)), (.int (3 : Int32)), (.ref b53), (.ref b53)])) rfl rfl (hb hby at_151)
    have V57 : Arv Z h57 b53 k53 .char (6 : Int32) [(.int (102 : Int32)), (.int (97 : Int32)), (.int (105 : Int32)), (.int (108 : Int32)), (.int (0 : Int32)), (.int (0 : Int32))] (.int (0 : Int32)) := Arv.set Ar57 q57 S57 Ng57 H57 G57 rfl W57 3 rfl (Nat.le_of_ble_eq_true rfl)
    refine own_of st57 ?_
    have N57 := Fr.snoc X57 N56 (by omega : n0 ≤ b53)
    have sz57 : h57.size = h56.size := W57.size
    have O57 : Old Z n0 h57 := O56.wr W57 (by omega)
    show own_go p e below s _ _ _ (T57.setTop (mkF m 152 #[.val (.int p1), .val (.int (2 : Int32)), .val (.ref w2), .unset, .unset, .unset, .unset, .unset] [(.ref b53)]))
    refine own_of (fun t => XS.dup X57.here hx rfl (hb hby at_152) rfl rfl) ?_
    show own_go p e below s _ _ _ (T57.setTop (mkF m 153 #[.val (.int p1), .val (.int (2 : Int32)), .val (.ref w2), .unset, .unset, .unset, .unset, .unset] [(.ref b53), (.ref b53)]))
    refine own_of (fun t => XS.iconst X57.here hx rfl (hb hby at_153)) ?_
    show own_go p e below s _ _ _ (T57.setTop (mkF m 154 #[.val (.int p1), .val (.int (2 : Int32)), .val (.ref w2), .unset, .unset, .unset, .unset, .unset] [(.int (4 : Int32)), (.ref b53), (.ref b53)]))
    refine own_of (fun t => XS.bipush X57.here hx rfl (hb hby at_154)) ?_
    show own_go p e below s _ _ _ (T57.setTop (mkF m 156 #[.val (.int p1), .val (.int (2 : Int32)), .val (.ref w2), .unset, .unset, .unset, .unset, .unset] [(.int (101 : Int32)), (.int (4 : Int32)), (.ref b53), (.ref b53)]))
    obtain ⟨cl58, Ar58, q58, S58, Ng58, H58, G58⟩ := V57
    obtain ⟨T58, h58, X58, e58, W58, st58⟩ := stC X57 hx hZ e57 Ar58 (j := (4 : Int32)) (inb_of S58 ⟨by decide, by decide⟩) (g := (mkF m 156 #[.val (.int p1), .val (.int (2 : Int32)), .val (.ref w2), .unset, .unset, .unset, .unset, .unset] [(.int (101 : Int32)), (.int (4 : Int32)), (.ref b53), (.ref b53)])) rfl rfl (hb hby at_156)
    have V58 : Arv Z h58 b53 k53 .char (6 : Int32) [(.int (102 : Int32)), (.int (97 : Int32)), (.int (105 : Int32)), (.int (108 : Int32)), (.int (101 : Int32)), (.int (0 : Int32))] (.int (0 : Int32)) := Arv.set Ar58 q58 S58 Ng58 H58 G58 rfl W58 4 rfl (Nat.le_of_ble_eq_true rfl)
    refine own_of st58 ?_
    have N58 := Fr.snoc X58 N57 (by omega : n0 ≤ b53)
    have sz58 : h58.size = h57.size := W58.size
    have O58 : Old Z n0 h58 := O57.wr W58 (by omega)
    show own_go p e below s _ _ _ (T58.setTop (mkF m 157 #[.val (.int p1), .val (.int (2 : Int32)), .val (.ref w2), .unset, .unset, .unset, .unset, .unset] [(.ref b53)]))
    refine own_of (fun t => XS.dup X58.here hx rfl (hb hby at_157) rfl rfl) ?_
    show own_go p e below s _ _ _ (T58.setTop (mkF m 158 #[.val (.int p1), .val (.int (2 : Int32)), .val (.ref w2), .unset, .unset, .unset, .unset, .unset] [(.ref b53), (.ref b53)]))
    refine own_of (fun t => XS.iconst X58.here hx rfl (hb hby at_158)) ?_
    show own_go p e below s _ _ _ (T58.setTop (mkF m 159 #[.val (.int p1), .val (.int (2 : Int32)), .val (.ref w2), .unset, .unset, .unset, .unset, .unset] [(.int (5 : Int32)), (.ref b53), (.ref b53)]))
    refine own_of (fun t => XS.bipush X58.here hx rfl (hb hby at_159)) ?_
    show own_go p e below s _ _ _ (T58.setTop (mkF m 161 #[.val (.int p1), .val (.int (2 : Int32)), .val (.ref w2), .unset, .unset, .unset, .unset, .unset] [(.int (100 : Int32)), (.int (5 : Int32)), (.ref b53), (.ref b53)]))
    obtain ⟨cl59, Ar59, q59, S59, Ng59, H59, G59⟩ := V58
    obtain ⟨T59, h59, X59, e59, W59, st59⟩ := stC X58 hx hZ e58 Ar59 (j := (5 : Int32)) (inb_of S59 ⟨by decide, by decide⟩) (g := (mkF m 161 #[.val (.int p1), .val (.int (2 : Int32)), .val (.ref w2), .unset, .unset, .unset, .unset, .unset] [(.int (100 : Int32)), (.int (5 : Int32)), (.ref b53), (.ref b53)])) rfl rfl (hb hby at_161)
    have V59 : Arv Z h59 b53 k53 .char (6 : Int32) [(.int (102 : Int32)), (.int (97 : Int32)), (.int (105 : Int32)), (.int (108 : Int32)), (.int (101 : Int32)), (.int (100 : Int32))] (.int (0 : Int32)) := Arv.set Ar59 q59 S59 Ng59 H59 G59 rfl W59 5 rfl (Nat.le_of_ble_eq_true rfl)
    refine own_of st59 ?_
    have N59 := Fr.snoc X59 N58 (by omega : n0 ≤ b53)
    have sz59 : h59.size = h58.size := W59.size
    have O59 : Old Z n0 h59 := O58.wr W59 (by omega)
    show own_go p e below s _ _ _ (T59.setTop (mkF m 162 #[.val (.int p1), .val (.int (2 : Int32)), .val (.ref w2), .unset, .unset, .unset, .unset, .unset] [(.ref b53)]))
    refine own_of (fun t => XS.astoreN X59.here hx rfl (hb hby at_162) rfl rfl (l' := #[.val (.int p1), .val (.int (2 : Int32)), .val (.ref w2), .val (.ref b53), .unset, .unset, .unset, .unset]) rfl) ?_
    show own_go p e below s _ _ _ (T59.setTop (mkF m 163 #[.val (.int p1), .val (.int (2 : Int32)), .val (.ref w2), .val (.ref b53), .unset, .unset, .unset, .unset] []))
    obtain ⟨T60, h60, X60, e60, E60, A60, D60, -, st60⟩ := newO X59 hx hZ hown (hW 5 _ rfl) (hW 6 _ rfl) (hW 7 _ rfl) e59 (g := (mkF m 163 #[.val (.int p1), .val (.int (2 : Int32)), .val (.ref w2), .val (.ref b53), .unset, .unset, .unset, .unset] [])) rfl (hb hby at_163) (by decide) (by decide)
    obtain ⟨b60, g60⟩ : ∃ z, z = h59.size := ⟨_, rfl⟩
    rw [← g60] at A60 D60 st60
    refine own_of st60 ?_
    have lt60 : b60 < h60.size := A60.lt
    have sz60 : h59.size ≤ h60.size := E60.1
    have O60 : Old Z n0 h60 := O59.ext E60
    have z60 : n0 ≤ b60 := by have := O59.1 ▸ O59.2.1; omega
    have F60_coder : Fld Z h60 b60 "java/lang/String" "coder" "B" (.int (0 : Int32)) := D60 (Or.inr (hW 31 _ rfl)) (ty := .byte) (by decide)
    have F60_value : Fld Z h60 b60 "java/lang/String" "value" "[B" .null := D60 (Or.inr (hW 33 _ rfl)) (ty := (.array .byte)) (by decide)
    show own_go p e below s _ _ _ (T60.setTop (mkF m 166 #[.val (.int p1), .val (.int (2 : Int32)), .val (.ref w2), .val (.ref b53), .unset, .unset, .unset, .unset] [(.ref b60)]))
    refine own_of (fun t => XS.dup X60.here hx rfl (hb hby at_166) rfl rfl) ?_
    show own_go p e below s _ _ _ (T60.setTop (mkF m 167 #[.val (.int p1), .val (.int (2 : Int32)), .val (.ref w2), .val (.ref b53), .unset, .unset, .unset, .unset] [(.ref b60), (.ref b60)]))
    refine own_of (fun t => XS.aloadN X60.here hx rfl (hb hby at_167) rfl rfl) ?_
    show own_go p e below s _ _ _ (T60.setTop (mkF m 168 #[.val (.int p1), .val (.int (2 : Int32)), .val (.ref w2), .val (.ref b53), .unset, .unset, .unset, .unset] [(.ref b53), (.ref b60), (.ref b60)]))
    have hp : ∀ c ∈ ([102, 97, 105, 108, 101, 100] : List Int32), ¬ c < 0 ∧ ¬ (255 : Int32) < c := by decide
    have f61 : Arv Z h60 b53 k53 .char (6 : Int32) [(.int (102 : Int32)), (.int (97 : Int32)), (.int (105 : Int32)), (.int (108 : Int32)), (.int (101 : Int32)), (.int (100 : Int32))] (.int (0 : Int32)) := (V59.ext E60)
    obtain ⟨_, _, ⟨T62, L62, k62, n62⟩, -, X62, ⟨Lc62, hQ62, l62, y62, z62⟩, st62⟩ := X60.specialBack hx (y := (⟨"java/lang/String", "<init>", "([C)V"⟩ : MethodName)) rfl hown (mvT hZ (hW 8 _ rfl)) (mvT hZ (hW 9 _ rfl)) (mvT hZ (hW 10 _ rfl)) (by decide) (StrChars.Road.backV (W := 1) hZ hws (kI := 4) (hW 6 _ rfl) (cs := ([102, 97, 105, 108, 101, 100] : List Int32)) (bs := ([102, 97, 105, 108, 101, 100] : List Int32).map (fun c => c.toInt8.toInt32)) (n := 6) (by omega : n0 ≤ b60) (by omega : n0 ≤ h60.size) A60 F60_value F60_coder f61 (O2.ext O60.2) P5 rfl rfl (by decide) (by decide) hp rfl (by decide) (by decide)) (g := (mkF m 168 #[.val (.int p1), .val (.int (2 : Int32)), .val (.ref w2), .val (.ref b53), .unset, .unset, .unset, .unset] [(.ref b53), (.ref b60), (.ref b60)])) rfl (by rw [hml]; rfl) (Steps.refl _) (a := b60) (argsL := [(.ref b53)]) (rest := [(.ref b60)]) (lenOf pd_2 rfl) rfl (by show 2 * 0 + _ ≤ _; exact Nat.le_of_eq rfl) (hb hby at_168) (fun _ _ => ⟨rfl, e60, (by decide : 2 + 1 ≤ _), (by decide : 10 + 6 ≤ _)⟩)
    dsimp only [Pt.U, Pt.locs, Pt.cells, Pt.slots] at X62 l62 y62 z62 st62 hQ62
    subst l62 y62 z62
    obtain ⟨rfl, Nq62, Kp62, g162, g262, t62, kb62, u162, u262, u362, g462, g562⟩ := hQ62
    have N62 := Fr.app N59 Nq62
    refine own_of (fun t k => st62.trans k) ?_
    have sz62 : h60.size ≤ T62.heap.size := Kp62.1
    have O62 : Old Z n0 T62.heap := O60.keep Kp62 (by simp only [List.mem_cons, List.not_mem_nil, or_false, forall_eq, false_implies, implies_true]; omega)
    have Sx62 : own_str Z T62.heap b60 ([102, 97, 105, 108, 101, 100] : List Int32) := ⟨t62, kb62, _, _, g162, g462, g262, g562, StrChars.Road.codOf (n := 6) rfl (fun c hc => (hp c hc).2)⟩
    show own_go p e below s _ _ _ (T62.setTop (mkF m 171 #[.val (.int p1), .val (.int (2 : Int32)), .val (.ref w2), .val (.ref b53), .unset, .unset, .unset, .unset] [(.ref b60)]))
    refine own_of (fun t => XS.astore X62.here hx rfl (hb hby at_171) rfl rfl (l' := #[.val (.int p1), .val (.int (2 : Int32)), .val (.ref w2), .val (.ref b53), .val (.ref b60), .unset, .unset, .unset]) rfl) ?_
    show own_go p e below s _ _ _ (T62.setTop (mkF m 173 #[.val (.int p1), .val (.int (2 : Int32)), .val (.ref w2), .val (.ref b53), .val (.ref b60), .unset, .unset, .unset] []))
    refine own_of (fun t => XS.aload X62.here hx rfl (hb hby at_173) rfl rfl) ?_
    show own_go p e below s _ _ _ (T62.setTop (mkF m 175 #[.val (.int p1), .val (.int (2 : Int32)), .val (.ref w2), .val (.ref b53), .val (.ref b60), .unset, .unset, .unset] [(.ref b60)]))
    obtain ⟨_, _, ⟨T63, L63, k63, n63⟩, -, X63, ⟨Lc63, hQ63, l63, y63, z63⟩, st63⟩ := Jvm.LawKit.callS X62 hx (y := (⟨"com/example/bo3/bo3/store/RunStatus", "ofColumnValue", "(Ljava/lang/String;)Lcom/example/bo3/bo3/store/RunStatus;"⟩ : MethodName)) hown (mvT hZ (hW 34 _ rfl)) (mvT hZ (hW 35 _ rfl)) (mvT hZ (hW 2 _ rfl)) (mvT hZ (hW 36 _ rfl)) (by decide) (backOf (W := 0) (rmO_2 l Z a0 hw [] va k w0 w1 w2 c0 c1 c2 G1 b60 T62.heap n0 O62 S_VA E_va V_va Fc0 Fc1 Fc2 Sc0 Sc1 Sc2 O2 P5 Sx62) hZ (hW 36 _ rfl) (hW 2 _ rfl) (by decide) (by decide)) (g := (mkF m 175 #[.val (.int p1), .val (.int (2 : Int32)), .val (.ref w2), .val (.ref b53), .val (.ref b60), .unset, .unset, .unset] [(.ref b60)])) rfl (by rw [hml]; rfl) (argsL := [(.ref b60)]) (rest := []) (lenOf pd_3 rfl) rfl (by show 2 * 0 + _ ≤ _; exact Nat.le_of_eq rfl) (hb hby at_175) (fun _ _ => ⟨rfl, rfl, (by decide : 3 + 1 ≤ _), (by decide : 16 + 3 ≤ _)⟩)
    dsimp only [Pt.U, Pt.locs, Pt.cells, Pt.slots] at X63 l63 y63 z63 st63 hQ63
    subst l63 y63 z63
    obtain ⟨rfl, Nq63, Kp63⟩ := hQ63
    have N63 := Fr.app N62 Nq63
    refine own_of st63 ?_
    have sz63 : T62.heap.size ≤ T63.heap.size := Kp63.1
    have O63 : Old Z n0 T63.heap := O62.keep Kp63 (by simp only [List.mem_cons, List.not_mem_nil, or_false, forall_eq, false_implies, implies_true])
    show own_go p e below s _ _ _ (T63.setTop (mkF m 178 #[.val (.int p1), .val (.int (2 : Int32)), .val (.ref w2), .val (.ref b53), .val (.ref b60), .unset, .unset, .unset] [(.ref w2)]))
    refine own_of (fun t => XS.astore X63.here hx rfl (hb hby at_178) rfl rfl (l' := #[.val (.int p1), .val (.int (2 : Int32)), .val (.ref w2), .val (.ref b53), .val (.ref b60), .val (.ref w2), .unset, .unset]) rfl) ?_
    show own_go p e below s _ _ _ (T63.setTop (mkF m 180 #[.val (.int p1), .val (.int (2 : Int32)), .val (.ref w2), .val (.ref b53), .val (.ref b60), .val (.ref w2), .unset, .unset] []))
    refine own_of (fun t => XS.aloadN X63.here hx rfl (hb hby at_180) rfl rfl) ?_
    show own_go p e below s _ _ _ (T63.setTop (mkF m 181 #[.val (.int p1), .val (.int (2 : Int32)), .val (.ref w2), .val (.ref b53), .val (.ref b60), .val (.ref w2), .unset, .unset] [(.ref w2)]))
    have f65 : Exa Z T63.heap w2 "com/example/bo3/bo3/store/RunStatus" := Ew2.ext O63.2
    obtain ⟨cq64, kq64, q64a, q64b, q64c⟩ := isOf hZ rfl f65
    obtain ⟨_, _, ⟨T64, L64, k64, n64⟩, -, X64, ⟨Lc64, hQ64, l64, y64, z64⟩, st64⟩ := X63.virtualBack hx (y := (⟨"com/example/bo3/bo3/store/RunStatus", "columnValue", "()Ljava/lang/String;"⟩ : MethodName)) (z := (⟨"com/example/bo3/bo3/store/RunStatus", "columnValue", "()Ljava/lang/String;"⟩ : MethodName)) hown (mvT hZ (hW 66 _ rfl)) (mvT hZ (hW 67 _ rfl)) (notFace_of_selects (args := #[]) (mvT hZ (hW 69 _ rfl))) (mvT hZ (hW 69 _ rfl)) (mvT hZ (hW 68 _ rfl)) (by decide) (backOf (W := 0) (rmC l Z a0 hw [] w2 c2 T63.heap n0 O63 Fc2) hZ (hW 70 _ rfl) (hW 2 _ rfl) (by decide) (by decide)) q64a q64c (g := (mkF m 181 #[.val (.int p1), .val (.int (2 : Int32)), .val (.ref w2), .val (.ref b53), .val (.ref b60), .val (.ref w2), .unset, .unset] [(.ref w2)])) rfl (by rw [hml]; rfl) (Steps.refl _) (argsL := []) (rest := []) (lenOf pd_4 rfl) rfl (by show 2 * 0 + _ ≤ _; exact Nat.le_of_eq rfl) (hb hby at_181) (fun _ _ => ⟨rfl, rfl, (by decide : 4 + 0 ≤ _), (by decide : 19 + 0 ≤ _)⟩)
    dsimp only [Pt.U, Pt.locs, Pt.cells, Pt.slots] at X64 l64 y64 z64 st64 hQ64
    subst l64 y64 z64
    obtain ⟨rfl, Nq64, eh64⟩ := hQ64
    have N64 := Fr.app N63 Nq64
    refine own_of (fun t k => st64.trans k) ?_
    show own_go p e below s _ _ _ (T64.setTop (mkF m 184 #[.val (.int p1), .val (.int (2 : Int32)), .val (.ref w2), .val (.ref b53), .val (.ref b60), .val (.ref w2), .unset, .unset] [(.ref c2)]))
    refine own_of (fun t => XS.astore X64.here hx rfl (hb hby at_184) rfl rfl (l' := #[.val (.int p1), .val (.int (2 : Int32)), .val (.ref w2), .val (.ref b53), .val (.ref b60), .val (.ref w2), .val (.ref c2), .unset]) rfl) ?_
    show own_go p e below s _ _ _ (T64.setTop (mkF m 186 #[.val (.int p1), .val (.int (2 : Int32)), .val (.ref w2), .val (.ref b53), .val (.ref b60), .val (.ref w2), .val (.ref c2), .unset] []))
    refine own_of (fun t => XS.aload X64.here hx rfl (hb hby at_186) rfl rfl) ?_
    show own_go p e below s _ _ _ (T64.setTop (mkF m 188 #[.val (.int p1), .val (.int (2 : Int32)), .val (.ref w2), .val (.ref b53), .val (.ref b60), .val (.ref w2), .val (.ref c2), .unset] [(.ref c2)]))
    have f66 : own_str Z T63.heap c2 ([102, 97, 105, 108, 101, 100] : List Int32) := Sc2.ext O63.2
    obtain ⟨_, _, ⟨T67, L67, k67, n67⟩, -, X67, ⟨Lc67, hQ67, l67, y67, z67⟩, st67⟩ := Jvm.LawKit.callS X64 hx (y := (⟨"com/example/bo3/bo3/store/RunStatus", "ofColumnValue", "(Ljava/lang/String;)Lcom/example/bo3/bo3/store/RunStatus;"⟩ : MethodName)) hown (mvT hZ (hW 34 _ rfl)) (mvT hZ (hW 35 _ rfl)) (mvT hZ (hW 2 _ rfl)) (mvT hZ (hW 36 _ rfl)) (by decide) (backOf (W := 0) (rmO_2 l Z a0 hw [] va k w0 w1 w2 c0 c1 c2 G1 c2 T63.heap n0 O63 S_VA E_va V_va Fc0 Fc1 Fc2 Sc0 Sc1 Sc2 O2 P5 f66) hZ (hW 36 _ rfl) (hW 2 _ rfl) (by decide) (by decide)) (g := (mkF m 188 #[.val (.int p1), .val (.int (2 : Int32)), .val (.ref w2), .val (.ref b53), .val (.ref b60), .val (.ref w2), .val (.ref c2), .unset] [(.ref c2)])) rfl (by rw [hml]; rfl) (argsL := [(.ref c2)]) (rest := []) (lenOf pd_3 rfl) rfl (by show 2 * 0 + _ ≤ _; exact Nat.le_of_eq rfl) (hb hby at_188) (fun _ _ => ⟨rfl, eh64, (by decide : 4 + 1 ≤ _), (by decide : 19 + 3 ≤ _)⟩)
    dsimp only [Pt.U, Pt.locs, Pt.cells, Pt.slots] at X67 l67 y67 z67 st67 hQ67
    subst l67 y67 z67
    obtain ⟨rfl, Nq67, Kp67⟩ := hQ67
    have N67 := Fr.app N64 Nq67
    refine own_of st67 ?_
    have sz67 : T63.heap.size ≤ T67.heap.size := Kp67.1
    have O67 : Old Z n0 T67.heap := O63.keep Kp67 (by simp only [List.mem_cons, List.not_mem_nil, or_false, forall_eq, false_implies, implies_true])
    show own_go p e below s _ _ _ (T67.setTop (mkF m 191 #[.val (.int p1), .val (.int (2 : Int32)), .val (.ref w2), .val (.ref b53), .val (.ref b60), .val (.ref w2), .val (.ref c2), .unset] [(.ref w2)]))
    refine own_of (fun t => XS.astore X67.here hx rfl (hb hby at_191) rfl rfl (l' := #[.val (.int p1), .val (.int (2 : Int32)), .val (.ref w2), .val (.ref b53), .val (.ref b60), .val (.ref w2), .val (.ref c2), .val (.ref w2)]) rfl) ?_
    show own_go p e below s _ _ _ (T67.setTop (mkF m 193 #[.val (.int p1), .val (.int (2 : Int32)), .val (.ref w2), .val (.ref b53), .val (.ref b60), .val (.ref w2), .val (.ref c2), .val (.ref w2)] []))
    refine own_of (fun t => XS.aload X67.here hx rfl (hb hby at_193) rfl rfl) ?_
    show own_go p e below s _ _ _ (T67.setTop (mkF m 195 #[.val (.int p1), .val (.int (2 : Int32)), .val (.ref w2), .val (.ref b53), .val (.ref b60), .val (.ref w2), .val (.ref c2), .val (.ref w2)] [(.ref w2)]))
    refine own_of (fun t => XS.aloadN X67.here hx rfl (hb hby at_195) rfl rfl) ?_
    show own_go p e below s _ _ _ (T67.setTop (mkF m 196 #[.val (.int p1), .val (.int (2 : Int32)), .val (.ref w2), .val (.ref b53), .val (.ref b60), .val (.ref w2), .val (.ref c2), .val (.ref w2)] [(.ref w2), (.ref w2)]))
    refine own_of (fun t => Jvm.RoadKit.acmp (g := (mkF m 196 #[.val (.int p1), .val (.int (2 : Int32)), .val (.ref w2), .val (.ref b53), .val (.ref b60), .val (.ref w2), .val (.ref c2), .val (.ref w2)] [(.ref w2), (.ref w2)])) X67 hx rfl rfl rfl (pc0 := 196) (pc' := 199) (same := true) rfl (hb hby at_196) rfl (decide_eq_true rfl) (by decide) (by decide)) ?_
    show own_go p e below s _ _ _ (T67.setTop (mkF m 199 #[.val (.int p1), .val (.int (2 : Int32)), .val (.ref w2), .val (.ref b53), .val (.ref b60), .val (.ref w2), .val (.ref c2), .val (.ref w2)] []))
    refine own_of (fun t => XS.aload X67.here hx rfl (hb hby at_199) rfl rfl) ?_
    show own_go p e below s _ _ _ (T67.setTop (mkF m 201 #[.val (.int p1), .val (.int (2 : Int32)), .val (.ref w2), .val (.ref b53), .val (.ref b60), .val (.ref w2), .val (.ref c2), .val (.ref w2)] [(.ref w2)]))
    refine own_of (fun t => XS.aloadN X67.here hx rfl (hb hby at_201) rfl rfl) ?_
    show own_go p e below s _ _ _ (T67.setTop (mkF m 202 #[.val (.int p1), .val (.int (2 : Int32)), .val (.ref w2), .val (.ref b53), .val (.ref b60), .val (.ref w2), .val (.ref c2), .val (.ref w2)] [(.ref w2), (.ref w2)]))
    refine own_of (fun t => Jvm.RoadKit.acmp (g := (mkF m 202 #[.val (.int p1), .val (.int (2 : Int32)), .val (.ref w2), .val (.ref b53), .val (.ref b60), .val (.ref w2), .val (.ref c2), .val (.ref w2)] [(.ref w2), (.ref w2)])) X67 hx rfl rfl rfl (pc0 := 202) (pc' := 205) (same := true) rfl (hb hby at_202) rfl (decide_eq_true rfl) (by decide) (by decide)) ?_
    show own_go p e below s _ _ _ (T67.setTop (mkF m 205 #[.val (.int p1), .val (.int (2 : Int32)), .val (.ref w2), .val (.ref b53), .val (.ref b60), .val (.ref w2), .val (.ref c2), .val (.ref w2)] []))
    refine own_of (fun t => XS.aload X67.here hx rfl (hb hby at_205) rfl rfl) ?_
    show own_go p e below s _ _ _ (T67.setTop (mkF m 207 #[.val (.int p1), .val (.int (2 : Int32)), .val (.ref w2), .val (.ref b53), .val (.ref b60), .val (.ref w2), .val (.ref c2), .val (.ref w2)] [(.ref c2)]))
    refine own_of (fun t => XS.aload X67.here hx rfl (hb hby at_207) rfl rfl) ?_
    show own_go p e below s _ _ _ (T67.setTop (mkF m 209 #[.val (.int p1), .val (.int (2 : Int32)), .val (.ref w2), .val (.ref b53), .val (.ref b60), .val (.ref w2), .val (.ref c2), .val (.ref w2)] [(.ref b60), (.ref c2)]))
    have f68 : own_str Z T67.heap c2 ([102, 97, 105, 108, 101, 100] : List Int32) := (f66.keep Kp67 nin0)
    have f69 : own_str Z T67.heap b60 ([102, 97, 105, 108, 101, 100] : List Int32) := ((Sx62.keep Kp63 nin0).keep Kp67 nin0)
    obtain ⟨t70a, kb70a, N70a, vs70a, Ea70, Va70, Ca70, Ka70, cd70a⟩ := id f68
    obtain ⟨t70b, kb70b, N70b, vs70b, Eb70, Vb70, Cb70, Kb70, cd70b⟩ := id f69
    obtain ⟨cq71, kq71, q71a, q71b, q71c⟩ := isOf hZ rfl Ea70
    obtain ⟨_, _, ⟨T71, L71, k71, n71⟩, -, X71, ⟨Lc71, hQ71, l71, y71, z71⟩, st71⟩ := X67.virtualBack hx (y := (⟨"java/lang/String", "equals", "(Ljava/lang/Object;)Z"⟩ : MethodName)) (z := (⟨"java/lang/String", "equals", "(Ljava/lang/Object;)Z"⟩ : MethodName)) hown (mvT hZ (hW 71 _ rfl)) (mvT hZ (hW 57 _ rfl)) (notFace_of_selects (args := #[]) (mvT hZ (hW 59 _ rfl))) (mvT hZ (hW 59 _ rfl)) (mvT hZ (hW 58 _ rfl)) (by decide) (StrChars.Road.eqW (W := 0) hZ heq (kI := 4) (hW 6 _ rfl) Ea70 Va70 Ca70 Ka70 cd70a (by decide) (by decide) Eb70 Vb70 Cb70 Kb70 cd70b (by decide) (by decide) (O2.ext O67.2) P5 (by decide) (by decide)) q71a q71c (g := (mkF m 209 #[.val (.int p1), .val (.int (2 : Int32)), .val (.ref w2), .val (.ref b53), .val (.ref b60), .val (.ref w2), .val (.ref c2), .val (.ref w2)] [(.ref b60), (.ref c2)])) rfl (by rw [hml]; rfl) (Steps.refl _) (argsL := [(.ref b60)]) (rest := []) (lenOf pd_1 rfl) rfl (by show 2 * 0 + _ ≤ _; exact Nat.le_of_eq rfl) (hb hby at_209) (fun _ _ => ⟨rfl, rfl, (by decide : 5 + 0 ≤ _), (by decide : 22 + 0 ≤ _)⟩)
    dsimp only [Pt.U, Pt.locs, Pt.cells, Pt.slots] at X71 l71 y71 z71 st71 hQ71
    subst l71 y71 z71
    obtain ⟨hc71, rfl, eh71⟩ := hQ71
    have hv71 : _ = some (Value.int 1) := hc71.elim (fun q => q.1) (fun q => absurd rfl q.2)
    subst hv71
    have Nq71 : Fr n0 ([] : List Loc) := Fr.nil n0
    have N71 := Fr.app N67 Nq71
    refine own_of (fun t k => st71.trans k) ?_
    show own_go p e below s _ _ _ (T71.setTop (mkF m 212 #[.val (.int p1), .val (.int (2 : Int32)), .val (.ref w2), .val (.ref b53), .val (.ref b60), .val (.ref w2), .val (.ref c2), .val (.ref w2)] [(.int (1 : Int32))]))
    have hb212_72 : ¬ ((1 : Int32) = (0 : Int32)) := by decide
    refine own_of (fun t => XS.ifNo X71.here hx rfl (hb hby at_212) rfl ((if0 _ _).trans (feq hb212_72).1)) ?_
    show own_go p e below s _ _ _ (T71.setTop (mkF m 215 #[.val (.int p1), .val (.int (2 : Int32)), .val (.ref w2), .val (.ref b53), .val (.ref b60), .val (.ref w2), .val (.ref c2), .val (.ref w2)] []))
    refine own_of (fun t => XS.iconst X71.here hx rfl (hb hby at_215)) ?_
    show own_go p e below s _ _ _ (T71.setTop (mkF m 216 #[.val (.int p1), .val (.int (2 : Int32)), .val (.ref w2), .val (.ref b53), .val (.ref b60), .val (.ref w2), .val (.ref c2), .val (.ref w2)] [(.int (1 : Int32))]))
    refine own_of (fun t => XS.goto X71.here hx rfl (pc0 := 216) (pc' := 220) rfl (hb hby at_216) (by decide) (by decide)) ?_
    show own_go p e below s _ _ _ (T71.setTop (mkF m 220 #[.val (.int p1), .val (.int (2 : Int32)), .val (.ref w2), .val (.ref b53), .val (.ref b60), .val (.ref w2), .val (.ref c2), .val (.ref w2)] [(.int (1 : Int32))]))
    refine own_ret X71 hx hlk Bd.returns rfl (Or.inl ⟨rfl, by simp, _, rfl⟩) (hb hby at_220) (by decide) (by decide) ?_
    rw [eh71]
    exact ⟨rfl, N71⟩
set_option maxRecDepth 65536 in
set_option maxHeartbeats 40000000 in
theorem comes_1 {Post : Tables → Env → Array Value → State → Outcome → State → Prop} (hpost : ∀ tb e args s v u, (limb_1_1.after args s (.returned v) u = true ∧ limb_1_2.after args s (.returned v) u = true ∧ True) → FrameEnd s (.returned v) u (Jvm.fieldLocs frame_1_writes args s ++ Jvm.arrayLocs frame_1_arrays args s ++ Jvm.staticLocs frame_1_statics s) 24 128 → Post tb e args s (.returned v) u) :
    ArmFor flags0 classFile x code maxLocals ret World_1 tables_1 room_1 Calls_1 rest_1 Pre_1 Post := by
  intro l hfl _ _ p e ha hc hk s m args below hf hA hF happ hP
  obtain ⟨hcalls, hrest, hpre⟩ := hP
  obtain ⟨-, -, -, hnamed, -, -, -, hat⟩ := (Spec.applies_iff hf).mp happ
  obtain ⟨hg, hn⟩ := and_e (Cond.before_iff.mp (show (Jvm.Cond.and given_1 narrow_1).before args s = true from hpre))
  obtain ⟨g1, g2⟩ := and_e hg
  obtain ⟨g3, g4⟩ := and_e hn
  obtain ⟨g5, g6⟩ := and_e g4
  obtain ⟨g7, g8⟩ := and_e g6
  obtain ⟨g9, g10⟩ := and_e g8
  obtain ⟨g11, g12⟩ := and_e g10
  obtain ⟨g13, g14⟩ := and_e g12
  obtain ⟨g15, g16⟩ := and_e g14
  obtain ⟨g17, g18⟩ := and_e g16
  obtain ⟨g19, g20⟩ := and_e g18
  obtain ⟨g21, g22⟩ := and_e g20
  obtain ⟨g23, g24⟩ := and_e g22
  obtain ⟨g25, g26⟩ := and_e g24
  obtain ⟨g27, g28⟩ := and_e g26
  obtain ⟨g29, g30⟩ := and_e g28
  obtain ⟨g31, g32⟩ := and_e g30
  obtain ⟨g33, g34⟩ := and_e g32
  obtain ⟨g35, g36⟩ := and_e g34
  obtain ⟨g37, g38⟩ := and_e g36
  obtain ⟨g39, g40⟩ := and_e g38
  obtain ⟨g41, g42⟩ := and_e g40
  obtain ⟨g43, g44⟩ := and_e g42
  obtain ⟨g45, g46⟩ := and_e g44
  obtain ⟨g47, g48⟩ := and_e g46
  obtain ⟨g49, g50⟩ := and_e g48
  obtain ⟨g51, g52⟩ := and_e g50
  obtain ⟨g53, g54⟩ := and_e g52
  obtain ⟨g55, g56⟩ := and_e g54
  obtain ⟨g57, g58⟩ := and_e g56
  obtain ⟨g59, g60⟩ := and_e g58
  obtain ⟨g61, g62⟩ := and_e g60
  obtain ⟨g63, g64⟩ := and_e g62
  obtain ⟨g65, g66⟩ := and_e g64
  obtain ⟨g67, g68⟩ := and_e g66
  obtain ⟨g69, g70⟩ := and_e g68
  obtain ⟨g71, g72⟩ := and_e g70
  obtain ⟨g73, g74⟩ := and_e g72
  obtain ⟨g75, g76⟩ := and_e g74
  obtain ⟨g77, g78⟩ := and_e g76
  obtain ⟨g79, g80⟩ := and_e g78
  obtain ⟨g81, g82⟩ := and_e g80
  obtain ⟨g83, g84⟩ := and_e g82
  obtain ⟨g85, g86⟩ := and_e g84
  obtain ⟨g87, g88⟩ := and_e g86
  obtain ⟨g89, g90⟩ := and_e g88
  obtain ⟨g91, g92⟩ := and_e g90
  obtain ⟨w0, rfl⟩ : ∃ w0 : Value, args = #[w0] := by
    have hs : args.size = 1 := by simpa [Cond.value, given_1] using g1
    obtain ⟨L⟩ := args
    match L, hs with
    | [w0], _ => exact ⟨w0, rfl⟩
  have hw := fun d (hd : d ∈ tables_1) => atoms_spec (ws := Jvm.Cond.code x code maxLocals ret :: tables_1) hat d (List.mem_cons_of_mem _ hd)
  have hW : ∀ (i : Nat) (d : Jvm.Cond), tables_1[i]? = some d → d.before _ s = true := fun i d h => hw d (List.mem_of_getElem? h)
  have hfit : Fit s := fun {y c} hc i hi => by
    obtain ⟨ha, rfl⟩ := Array.getElem?_eq_some_iff.mp hc
    have q := List.all_eq_true.mp ((Array.all_eq_true_iff_forall_mem.mp hF) _ (Array.getElem_mem ha)) i (List.mem_range.mpr hi)
    simpa [Array.getElem?_eq_getElem hi] using q
  obtain ⟨hsets, hown0⟩ := atoms_of _ (rest_1_c_eq ▸ (show rest_1_c.before _ s = true from hrest))
  have hr0 := Cond.before_iff.mp hown0
  obtain ⟨i0, ei0⟩ := is_v g2
  obtain rfl : w0 = (.int i0) := Option.some.inj ei0
  obtain ⟨a_RUNNING, ev_RUNNING, E_RUNNING⟩ := own_ex g3
  have S_RUNNING : Sta s s.heap "com/example/bo3/bo3/store/RunStatus" "RUNNING" "Lcom/example/bo3/bo3/store/RunStatus;" (.ref a_RUNNING) := Sta.start ev_RUNNING (Or.inr ⟨(hW 2 _ rfl), (hW 3 _ rfl)⟩)
  obtain ⟨a__VALUES, ev__VALUES⟩ := arr_v g5
  have S__VALUES : Sta s s.heap "com/example/bo3/bo3/store/RunStatus" "$VALUES" "[Lcom/example/bo3/bo3/store/RunStatus;" (.ref a__VALUES) := Sta.start ev__VALUES (Or.inr ⟨(hW 2 _ rfl), (hW 41 _ rfl)⟩)
  obtain ⟨cl__VALUES, A__VALUES⟩ := Arr.start ev__VALUES g5
  have E__VALUES := Exa.start ev__VALUES g7
  have L__VALUES := own_len ev__VALUES A__VALUES g9
  have e__VALUES_0 := own_er ev__VALUES ev_RUNNING A__VALUES g11
  obtain ⟨a_COMPLETED, ev_COMPLETED, E_COMPLETED⟩ := own_ex g13
  have S_COMPLETED : Sta s s.heap "com/example/bo3/bo3/store/RunStatus" "COMPLETED" "Lcom/example/bo3/bo3/store/RunStatus;" (.ref a_COMPLETED) := Sta.start ev_COMPLETED (Or.inr ⟨(hW 2 _ rfl), (hW 49 _ rfl)⟩)
  have e__VALUES_1 := own_er ev__VALUES ev_COMPLETED A__VALUES g15
  obtain ⟨a_FAILED, ev_FAILED, E_FAILED⟩ := own_ex g17
  have S_FAILED : Sta s s.heap "com/example/bo3/bo3/store/RunStatus" "FAILED" "Lcom/example/bo3/bo3/store/RunStatus;" (.ref a_FAILED) := Sta.start ev_FAILED (Or.inr ⟨(hW 2 _ rfl), (hW 50 _ rfl)⟩)
  have e__VALUES_2 := own_er ev__VALUES ev_FAILED A__VALUES g19
  obtain ⟨a_RUNNING_columnValue, ev_RUNNING_columnValue, E_RUNNING_columnValue⟩ := own_ex g21
  have F_RUNNING_columnValue : Fld s s.heap a_RUNNING "com/example/bo3/bo3/store/RunStatus" "columnValue" "Ljava/lang/String;" (.ref a_RUNNING_columnValue) := own_fr ev_RUNNING ev_RUNNING_columnValue
  have F_RUNNING_columnValue_coder := own_fi ev_RUNNING_columnValue g23
  obtain ⟨a_RUNNING_columnValue_value, ev_RUNNING_columnValue_value⟩ := arr_v g25
  have F_RUNNING_columnValue_value : Fld s s.heap a_RUNNING_columnValue "java/lang/String" "value" "[B" (.ref a_RUNNING_columnValue_value) := own_fr ev_RUNNING_columnValue ev_RUNNING_columnValue_value
  obtain ⟨cl_RUNNING_columnValue_value, A_RUNNING_columnValue_value⟩ := Arr.start ev_RUNNING_columnValue_value g25
  have L_RUNNING_columnValue_value := own_len ev_RUNNING_columnValue_value A_RUNNING_columnValue_value g27
  obtain ⟨a_COMPLETED_columnValue, ev_COMPLETED_columnValue, E_COMPLETED_columnValue⟩ := own_ex g29
  have F_COMPLETED_columnValue : Fld s s.heap a_COMPLETED "com/example/bo3/bo3/store/RunStatus" "columnValue" "Ljava/lang/String;" (.ref a_COMPLETED_columnValue) := own_fr ev_COMPLETED ev_COMPLETED_columnValue
  have F_COMPLETED_columnValue_coder := own_fi ev_COMPLETED_columnValue g31
  obtain ⟨a_COMPLETED_columnValue_value, ev_COMPLETED_columnValue_value⟩ := arr_v g33
  have F_COMPLETED_columnValue_value : Fld s s.heap a_COMPLETED_columnValue "java/lang/String" "value" "[B" (.ref a_COMPLETED_columnValue_value) := own_fr ev_COMPLETED_columnValue ev_COMPLETED_columnValue_value
  obtain ⟨cl_COMPLETED_columnValue_value, A_COMPLETED_columnValue_value⟩ := Arr.start ev_COMPLETED_columnValue_value g33
  have L_COMPLETED_columnValue_value := own_len ev_COMPLETED_columnValue_value A_COMPLETED_columnValue_value g35
  obtain ⟨a_FAILED_columnValue, ev_FAILED_columnValue, E_FAILED_columnValue⟩ := own_ex g37
  have F_FAILED_columnValue : Fld s s.heap a_FAILED "com/example/bo3/bo3/store/RunStatus" "columnValue" "Ljava/lang/String;" (.ref a_FAILED_columnValue) := own_fr ev_FAILED ev_FAILED_columnValue
  have F_FAILED_columnValue_coder := own_fi ev_FAILED_columnValue g39
  obtain ⟨a_FAILED_columnValue_value, ev_FAILED_columnValue_value⟩ := arr_v g41
  have F_FAILED_columnValue_value : Fld s s.heap a_FAILED_columnValue "java/lang/String" "value" "[B" (.ref a_FAILED_columnValue_value) := own_fr ev_FAILED_columnValue ev_FAILED_columnValue_value
  obtain ⟨cl_FAILED_columnValue_value, A_FAILED_columnValue_value⟩ := Arr.start ev_FAILED_columnValue_value g41
  have L_FAILED_columnValue_value := own_len ev_FAILED_columnValue_value A_FAILED_columnValue_value g43
  have e_RUNNING_columnValue_value_0 := own_el ev_RUNNING_columnValue_value A_RUNNING_columnValue_value g51
  have e_RUNNING_columnValue_value_1 := own_el ev_RUNNING_columnValue_value A_RUNNING_columnValue_value g53
  have e_RUNNING_columnValue_value_2 := own_el ev_RUNNING_columnValue_value A_RUNNING_columnValue_value g55
  have e_RUNNING_columnValue_value_3 := own_el ev_RUNNING_columnValue_value A_RUNNING_columnValue_value g57
  have e_RUNNING_columnValue_value_4 := own_el ev_RUNNING_columnValue_value A_RUNNING_columnValue_value g59
  have e_RUNNING_columnValue_value_5 := own_el ev_RUNNING_columnValue_value A_RUNNING_columnValue_value g61
  have e_RUNNING_columnValue_value_6 := own_el ev_RUNNING_columnValue_value A_RUNNING_columnValue_value g63
  have e_COMPLETED_columnValue_value_0 := own_el ev_COMPLETED_columnValue_value A_COMPLETED_columnValue_value g65
  have e_COMPLETED_columnValue_value_1 := own_el ev_COMPLETED_columnValue_value A_COMPLETED_columnValue_value g67
  have e_COMPLETED_columnValue_value_2 := own_el ev_COMPLETED_columnValue_value A_COMPLETED_columnValue_value g69
  have e_COMPLETED_columnValue_value_3 := own_el ev_COMPLETED_columnValue_value A_COMPLETED_columnValue_value g71
  have e_COMPLETED_columnValue_value_4 := own_el ev_COMPLETED_columnValue_value A_COMPLETED_columnValue_value g73
  have e_COMPLETED_columnValue_value_5 := own_el ev_COMPLETED_columnValue_value A_COMPLETED_columnValue_value g75
  have e_COMPLETED_columnValue_value_6 := own_el ev_COMPLETED_columnValue_value A_COMPLETED_columnValue_value g77
  have e_COMPLETED_columnValue_value_7 := own_el ev_COMPLETED_columnValue_value A_COMPLETED_columnValue_value g79
  have e_COMPLETED_columnValue_value_8 := own_el ev_COMPLETED_columnValue_value A_COMPLETED_columnValue_value g81
  have e_FAILED_columnValue_value_0 := own_el ev_FAILED_columnValue_value A_FAILED_columnValue_value g83
  have e_FAILED_columnValue_value_1 := own_el ev_FAILED_columnValue_value A_FAILED_columnValue_value g85
  have e_FAILED_columnValue_value_2 := own_el ev_FAILED_columnValue_value A_FAILED_columnValue_value g87
  have e_FAILED_columnValue_value_3 := own_el ev_FAILED_columnValue_value A_FAILED_columnValue_value g89
  have e_FAILED_columnValue_value_4 := own_el ev_FAILED_columnValue_value A_FAILED_columnValue_value g91
  have e_FAILED_columnValue_value_5 := own_el ev_FAILED_columnValue_value A_FAILED_columnValue_value g92
  -- g45 says: (Jvm.Cond.not (Jvm.Cond.eq (Jvm.Term.field (Jvm.Term.static "com/example/bo3/bo3/store/RunStatus" "FAILED" "Lcom/example/bo3/bo3/store/RunStatus;") "com/example/bo3/bo3/store/RunStatus" "columnValue" "Ljava/lang/String;") (Jvm.Term.field (Jvm.Term.static "com/example/bo3/bo3/store/RunStatus" "RUNNING" "Lcom/example/bo3/bo3/store/RunStatus;") "com/example/bo3/bo3/store/RunStatus" "columnValue" "Lja
  -- g47 says: (Jvm.Cond.not (Jvm.Cond.eq (Jvm.Term.field (Jvm.Term.static "com/example/bo3/bo3/store/RunStatus" "COMPLETED" "Lcom/example/bo3/bo3/store/RunStatus;") "com/example/bo3/bo3/store/RunStatus" "columnValue" "Ljava/lang/String;") (Jvm.Term.field (Jvm.Term.static "com/example/bo3/bo3/store/RunStatus" "FAILED" "Lcom/example/bo3/bo3/store/RunStatus;") "com/example/bo3/bo3/store/RunStatus" "columnValue" "L
  -- g49 says: (Jvm.Cond.not (Jvm.Cond.eq (Jvm.Term.field (Jvm.Term.static "com/example/bo3/bo3/store/RunStatus" "COMPLETED" "Lcom/example/bo3/bo3/store/RunStatus;") "com/example/bo3/bo3/store/RunStatus" "columnValue" "Ljava/lang/String;") (Jvm.Term.field (Jvm.Term.static "com/example/bo3/bo3/store/RunStatus" "RUNNING" "Lcom/example/bo3/bo3/store/RunStatus;") "com/example/bo3/bo3/store/RunStatus" "columnValue" "
  have K_0 : Arv s s.heap a_RUNNING_columnValue_value cl_RUNNING_columnValue_value.cls .byte (7 : Int32) [.int 114, .int 117, .int 110, .int 110, .int 105, .int 110, .int 103] (.int 0) := Arv.start hfit A_RUNNING_columnValue_value L_RUNNING_columnValue_value.2 L_RUNNING_columnValue_value.1 (by decide) (by decide) ⟨e_RUNNING_columnValue_value_0, e_RUNNING_columnValue_value_1, e_RUNNING_columnValue_value_2, e_RUNNING_columnValue_value_3, e_RUNNING_columnValue_value_4, e_RUNNING_columnValue_value_5, e_RUNNING_columnValue_value_6, trivial⟩
  have Sc0 : own_str s s.heap a_RUNNING_columnValue ([114, 117, 110, 110, 105, 110, 103] : List Int32) := ⟨a_RUNNING_columnValue_value, _, _, _, E_RUNNING_columnValue, F_RUNNING_columnValue_value, F_RUNNING_columnValue_coder, K_0, Or.inl ⟨rfl, rfl, rfl, by decide⟩⟩
  have K_1 : Arv s s.heap a_COMPLETED_columnValue_value cl_COMPLETED_columnValue_value.cls .byte (9 : Int32) [.int 99, .int 111, .int 109, .int 112, .int 108, .int 101, .int 116, .int 101, .int 100] (.int 0) := Arv.start hfit A_COMPLETED_columnValue_value L_COMPLETED_columnValue_value.2 L_COMPLETED_columnValue_value.1 (by decide) (by decide) ⟨e_COMPLETED_columnValue_value_0, e_COMPLETED_columnValue_value_1, e_COMPLETED_columnValue_value_2, e_COMPLETED_columnValue_value_3, e_COMPLETED_columnValue_value_4, e_COMPLETED_columnValue_value_5, e_COMPLETED_columnValue_value_6, e_COMPLETED_columnValue_value_7, e_COMPLETED_columnValue_value_8, trivial⟩
  have Sc1 : own_str s s.heap a_COMPLETED_columnValue ([99, 111, 109, 112, 108, 101, 116, 101, 100] : List Int32) := ⟨a_COMPLETED_columnValue_value, _, _, _, E_COMPLETED_columnValue, F_COMPLETED_columnValue_value, F_COMPLETED_columnValue_coder, K_1, Or.inl ⟨rfl, rfl, rfl, by decide⟩⟩
  have K_2 : Arv s s.heap a_FAILED_columnValue_value cl_FAILED_columnValue_value.cls .byte (6 : Int32) [.int 102, .int 97, .int 105, .int 108, .int 101, .int 100] (.int 0) := Arv.start hfit A_FAILED_columnValue_value L_FAILED_columnValue_value.2 L_FAILED_columnValue_value.1 (by decide) (by decide) ⟨e_FAILED_columnValue_value_0, e_FAILED_columnValue_value_1, e_FAILED_columnValue_value_2, e_FAILED_columnValue_value_3, e_FAILED_columnValue_value_4, e_FAILED_columnValue_value_5, trivial⟩
  have Sc2 : own_str s s.heap a_FAILED_columnValue ([102, 97, 105, 108, 101, 100] : List Int32) := ⟨a_FAILED_columnValue_value, _, _, _, E_FAILED_columnValue, F_FAILED_columnValue_value, F_FAILED_columnValue_coder, K_2, Or.inl ⟨rfl, rfl, rfl, by decide⟩⟩
  have K_V : Arv s s.heap a__VALUES cl__VALUES.cls (.object "com/example/bo3/bo3/store/RunStatus") (3 : Int32) [.ref a_RUNNING, .ref a_COMPLETED, .ref a_FAILED] .null := Arv.start hfit A__VALUES L__VALUES.2 L__VALUES.1 (by decide) rfl ⟨e__VALUES_0, e__VALUES_1, e__VALUES_2, trivial⟩
  have n3 := not_v (Cond.before_iff.mp (hsets _ (List.mem_of_getElem? (i := 2) rfl)))
  obtain ⟨i7, e6⟩ := is_v (Cond.before_iff.mp (hsets _ (List.mem_of_getElem? (i := 1) rfl)))
  have S8 : Sta s s.heap "java/lang/String" "COMPACT_STRINGS" "Z" (.int i7) := Sta.start e6 (Or.inl (hsets _ (List.mem_of_getElem? (i := 0) rfl)))
  have c13 : ¬ (i7 = (0 : Int32)) := gotF (Cond.eq_ints e6 (Term.int_eval (0))) n3
  obtain ⟨n, o, h1, h2, h3, _, L, rfl, ⟨rfl, N⟩, hq⟩ := rm0 l s _ hw tables_1 i0 a__VALUES cl__VALUES.cls a_RUNNING a_COMPLETED a_FAILED a_RUNNING_columnValue a_COMPLETED_columnValue a_FAILED_columnValue i7 s.heap s.heap.size (Old.start s) S__VALUES E__VALUES K_V F_RUNNING_columnValue F_COMPLETED_columnValue F_FAILED_columnValue Sc0 Sc1 Sc2 S8 c13 S_RUNNING S_COMPLETED S_FAILED E_RUNNING E_COMPLETED E_FAILED p e ha hc hk s m _ below hf ((Spec.applies_iff_loose hf).mp happ).1 ⟨rfl, State.Warmed39.refl s, rfl⟩ trivial
  refine ⟨n, _, h1, h2, h3, hpost _ _ _ _ _ _ ⟨Cond.after_iff.mpr rfl, Cond.after_iff.mpr (eq_i res_at (Term.int_eval (1)) rfl), trivial⟩ ⟨hq.1, hq.2.1, (hq.2.2.sift fun y hy => Or.inr (N y hy)).mono (by decide) (by decide)⟩⟩
theorem main_1_1 : Claimed_1_1 := comes_1 fun _ _ _ _ _ _ h hF => ⟨h.1, hF⟩
theorem main_1_2 : Claimed_1_2 := comes_1 fun _ _ _ _ _ _ h hF => ⟨h.2.1, hF⟩
end Jvm.Pilot.@@N@@
namespace Jvm.Pilot.@@N@@
open Jvm Jvm.ClassFile Sem Op Lib Jvm.Free Jvm.Stand Jvm.Pilot.@@N@@.Jvm.D
/-! MADE BY PROGRAM (witnessworld.py) out of the Statement's table words and the real class files: 22 classes; the members and pool entries that the words name. The judged class is class 1, her method 1. -/
namespace start1
open Jvm.ClassFile
def u (s : String) : CpInfo := .utf8 (stringToUtf16 s)
/-- a pool by its gaps: so many unusable entries, then the entry; so many at the end -/
def gap : Nat → List CpInfo → List CpInfo
  | 0, r => r
  | n + 1, r => .unusable :: gap n r
def poolList (es : List (Nat × CpInfo)) (last : Nat) : List CpInfo := es.foldr (fun e r => gap e.1 (e.2 :: r)) (gap last [])
def pool (es : List (Nat × CpInfo)) (last : Nat) : Array CpInfo := ⟨poolList es last⟩
def fileOf (pool : Array CpInfo) (this : Nat) (attrs : Array Attribute := #[]) (ms : Array MethodInfo := #[]) (fl : Nat := 33) (sup : Nat := 0) (ifs : Array Nat := #[]) (fds : Array FieldInfo := #[]) : ClassFile where
  minorVersion := 0
  majorVersion := 65
  constantPool := pool
  accessFlags := fl
  thisClass := this
  superClass := sup
  interfaces := ifs
  fields := fds
  methods := ms
  attributes := attrs
def plain (name : String) (sup : Option ClassId) : Class where
  name := name
  kind := .ordinary
  loader := none
  accessFlags := 33
  super := sup
  interfaces := #[]
  cf := none
  fields := #[]
  methods := #[]
  instanceTypes := #[]
  staticTypes := #[]
  resolved := #[]
  callSites := []
  init := .initialized
  statics := none
  mirror := none

def pool0 : Array CpInfo := pool [(5, u "<init>"), (0, u "()V"), (1, .class_ 10), (1, u "java/lang/Object"), (85, u "clone"), (0, u "()Ljava/lang/Object;")] 26

def k0c0 : Code := { maxStack := 0, maxLocals := 1, code := object_method_1_code, exceptionTable := #[], attributes := #[] }
def k0m0 : Method := { name := "<init>", desc := "()V", sig := { parameters := [], returnType := none }, accessFlags := 1, code := some k0c0 }
def k0m1 : Method := { name := "clone", desc := "()Ljava/lang/Object;", sig := { parameters := [], returnType := some (.object "java/lang/Object") }, accessFlags := 260, code := none }
/-- java/lang/Object -/
def k0 : Class := { plain "java/lang/Object" none with
  accessFlags := 33
  interfaces := #[]
  cf := some (fileOf pool0 8 #[] #[{ accessFlags := 1, nameIndex := 5, descriptorIndex := 6, attributes := #[] }, { accessFlags := 260, nameIndex := 96, descriptorIndex := 97, attributes := #[] }] 33 0 #[] #[])
  fields := #[]
  methods := #[k0m0, k0m1]
  instanceTypes := #[]
  staticTypes := #[]
  resolved := Array.replicate 124 none
  statics := none }

def pool1 : Array CpInfo := pool [(2, .class_ 4), (1, u "java/lang/Object"), (0, u "<init>"), (0, u "()V"), (0, .integer 2147483647), (0, .fieldref 9 10), (0, .class_ 11), (0, .nameAndType 12 13), (0, u "com/example/bo3/bo3/store/RunStatus"), (0, u "RUNNING"), (0, u "Lcom/example/bo3/bo3/store/RunStatus;"), (0, .fieldref 9 15), (0, .nameAndType 16 13), (0, u "COMPLETED"), (0, .fieldref 9 18), (0, .nameAndType 19 13), (0, u "FAILED"), (0, .class_ 21), (0, u "java/lang/String"), (0, .methodref 20 23), (0, .nameAndType 5 24), (0, u "([C)V"), (0, .methodref 9 26), (0, .nameAndType 27 28), (0, u "ofColumnValue"), (0, u "(Ljava/lang/String;)Lcom/example/bo3/bo3/store/RunStatus;"), (0, .methodref 9 30), (0, .nameAndType 31 32), (0, u "columnValue"), (0, u "()Ljava/lang/String;"), (0, .methodref 20 34), (0, .nameAndType 35 36), (0, u "equals"), (0, u "(Ljava/lang/Object;)Z"), (0, .class_ 38), (0, u "com/example/bo3/bo3/store/RunStatusOfColumnValuePinLaw"), (2, u "law"), (0, u "(I)Z")] 5

def k1m0 : Method := { name := "<init>", desc := "()V", sig := { parameters := [], returnType := none }, accessFlags := 2, code := none }
def k1c1 : Code := { maxStack := 4, maxLocals := 8, code := code, exceptionTable := #[], attributes := #[] }
def k1m1 : Method := { name := "law", desc := "(I)Z", sig := { parameters := [.int], returnType := some .boolean }, accessFlags := 9, code := some k1c1 }
/-- com/example/bo3/bo3/store/RunStatusOfColumnValuePinLaw -/
def k1 : Class := { plain "com/example/bo3/bo3/store/RunStatusOfColumnValuePinLaw" (some 0) with
  accessFlags := 49
  interfaces := #[]
  cf := some (fileOf pool1 37 #[] #[{ accessFlags := 2, nameIndex := 5, descriptorIndex := 6, attributes := #[] }, { accessFlags := 9, nameIndex := 41, descriptorIndex := 42, attributes := #[] }] 49 2 #[] #[])
  fields := #[]
  methods := #[k1m0, k1m1]
  instanceTypes := #[]
  staticTypes := #[]
  resolved := Array.replicate 48 none
  statics := none }

def pool2 : Array CpInfo := pool [(1, .class_ 2), (0, u "java/lang/constant/Constable"), (0, .class_ 4), (0, u "java/lang/Object")] 6

/-- java/lang/constant/Constable -/
def k2 : Class := { plain "java/lang/constant/Constable" (some 0) with
  accessFlags := 1537
  interfaces := #[]
  cf := some (fileOf pool2 1 #[] #[] 1537 3 #[] #[])
  fields := #[]
  methods := #[]
  instanceTypes := #[]
  staticTypes := #[]
  resolved := Array.replicate 11 none
  statics := none }

def pool3 : Array CpInfo := pool [(1, .class_ 2), (0, u "java/lang/Comparable"), (0, .class_ 4), (0, u "java/lang/Object")] 7

/-- java/lang/Comparable -/
def k3 : Class := { plain "java/lang/Comparable" (some 0) with
  accessFlags := 1537
  interfaces := #[]
  cf := some (fileOf pool3 1 #[] #[] 1537 3 #[] #[])
  fields := #[]
  methods := #[]
  instanceTypes := #[]
  staticTypes := #[]
  resolved := Array.replicate 12 none
  statics := none }

def pool4 : Array CpInfo := pool [(1, .class_ 2), (0, u "java/io/Serializable"), (0, .class_ 4), (0, u "java/lang/Object")] 2

/-- java/io/Serializable -/
def k4 : Class := { plain "java/io/Serializable" (some 0) with
  accessFlags := 1537
  interfaces := #[]
  cf := some (fileOf pool4 1 #[] #[] 1537 3 #[] #[])
  fields := #[]
  methods := #[]
  instanceTypes := #[]
  staticTypes := #[]
  resolved := Array.replicate 7 none
  statics := none }

def pool5 : Array CpInfo := pool [(2, .class_ 4), (1, u "java/lang/Enum"), (0, u "name"), (0, u "Ljava/lang/String;"), (2, u "ordinal"), (0, u "I"), (1, .class_ 14), (1, u "java/lang/Object"), (4, u "hash"), (86, .class_ 108), (1, u "java/lang/Enum$EnumDesc"), (2, .class_ 112), (0, u "java/lang/constant/Constable"), (0, .class_ 114), (0, u "java/lang/Comparable"), (0, .class_ 116), (0, u "java/io/Serializable")] 87

/-- java/lang/Enum -/
def k5 : Class := { plain "java/lang/Enum" (some 0) with
  accessFlags := 1057
  interfaces := #[2, 3, 4]
  cf := some (fileOf pool5 2 #[.nestMembers #[106]] #[] 1057 12 #[111, 113, 115] #[{ accessFlags := 18, nameIndex := 5, descriptorIndex := 6, attributes := #[] }, { accessFlags := 18, nameIndex := 9, descriptorIndex := 10, attributes := #[] }, { accessFlags := 2, nameIndex := 19, descriptorIndex := 10, attributes := #[] }])
  fields := #[{ name := "name", type := (.object "java/lang/String"), accessFlags := 18, slot := 0, constantValue := 0 }, { name := "ordinal", type := .int, accessFlags := 18, slot := 1, constantValue := 0 }, { name := "hash", type := .int, accessFlags := 2, slot := 2, constantValue := 0 }]
  methods := #[]
  instanceTypes := #[(.object "java/lang/String"), .int, .int]
  staticTypes := #[]
  resolved := Array.replicate 204 none
  statics := none }

def pool6 : Array CpInfo := pool [(1, .class_ 2), (0, u "com/example/bo3/bo3/store/RunStatus"), (2, u "RUNNING"), (0, u "Lcom/example/bo3/bo3/store/RunStatus;"), (2, u "COMPLETED"), (2, u "FAILED"), (0, .fieldref 1 14), (0, .nameAndType 15 16), (0, u "$VALUES"), (0, u "[Lcom/example/bo3/bo3/store/RunStatus;"), (0, .methodref 18 19), (0, .class_ 16), (0, .nameAndType 20 21), (0, u "clone"), (0, u "()Ljava/lang/Object;"), (1, .class_ 25), (1, u "java/lang/Enum"), (9, u "()Ljava/lang/String;"), (7, .class_ 45), (1, u "java/lang/String"), (2, .fieldref 1 49), (0, .nameAndType 50 51), (0, u "columnValue"), (0, u "Ljava/lang/String;"), (0, .methodref 1 53), (0, .nameAndType 54 55), (0, u "values"), (0, u "()[Lcom/example/bo3/bo3/store/RunStatus;"), (0, .methodref 43 57), (0, .nameAndType 58 59), (0, u "equals"), (0, u "(Ljava/lang/Object;)Z"), (18, u "(Ljava/lang/String;)Lcom/example/bo3/bo3/store/RunStatus;"), (3, u "ofColumnValue")] 20

def k6c0 : Code := { maxStack := 1, maxLocals := 0, code := prog_53_method_1_code, exceptionTable := #[], attributes := #[] }
def k6m0 : Method := { name := "values", desc := "()[Lcom/example/bo3/bo3/store/RunStatus;", sig := { parameters := [], returnType := some (.array (.object "com/example/bo3/bo3/store/RunStatus")) }, accessFlags := 9, code := some k6c0 }
def k6c1 : Code := { maxStack := 1, maxLocals := 1, code := prog_53_method_4_code, exceptionTable := #[], attributes := #[] }
def k6m1 : Method := { name := "columnValue", desc := "()Ljava/lang/String;", sig := { parameters := [], returnType := some (.object "java/lang/String") }, accessFlags := 0, code := some k6c1 }
def k6c2 : Code := { maxStack := 3, maxLocals := 5, code := prog_53_method_5_code, exceptionTable := #[], attributes := #[] }
def k6m2 : Method := { name := "ofColumnValue", desc := "(Ljava/lang/String;)Lcom/example/bo3/bo3/store/RunStatus;", sig := { parameters := [(.object "java/lang/String")], returnType := some (.object "com/example/bo3/bo3/store/RunStatus") }, accessFlags := 8, code := some k6c2 }
/-- com/example/bo3/bo3/store/RunStatus -/
def k6 : Class := { plain "com/example/bo3/bo3/store/RunStatus" (some 5) with
  accessFlags := 16433
  interfaces := #[]
  cf := some (fileOf pool6 1 #[] #[{ accessFlags := 9, nameIndex := 54, descriptorIndex := 55, attributes := #[] }, { accessFlags := 0, nameIndex := 50, descriptorIndex := 35, attributes := #[] }, { accessFlags := 8, nameIndex := 82, descriptorIndex := 78, attributes := #[] }] 16433 23 #[] #[{ accessFlags := 16409, nameIndex := 5, descriptorIndex := 6, attributes := #[] }, { accessFlags := 16409, nameIndex := 9, descriptorIndex := 6, attributes := #[] }, { accessFlags := 16409, nameIndex := 12, descriptorIndex := 6, attributes := #[] }, { accessFlags := 18, nameIndex := 50, descriptorIndex := 51, attributes := #[] }, { accessFlags := 4122, nameIndex := 15, descriptorIndex := 16, attributes := #[] }])
  fields := #[{ name := "RUNNING", type := (.object "com/example/bo3/bo3/store/RunStatus"), accessFlags := 16409, slot := 0, constantValue := 0 }, { name := "COMPLETED", type := (.object "com/example/bo3/bo3/store/RunStatus"), accessFlags := 16409, slot := 1, constantValue := 0 }, { name := "FAILED", type := (.object "com/example/bo3/bo3/store/RunStatus"), accessFlags := 16409, slot := 2, constantValue := 0 }, { name := "columnValue", type := (.object "java/lang/String"), accessFlags := 18, slot := 3, constantValue := 0 }, { name := "$VALUES", type := (.array (.object "com/example/bo3/bo3/store/RunStatus")), accessFlags := 4122, slot := 3, constantValue := 0 }]
  methods := #[k6m0, k6m1, k6m2]
  instanceTypes := #[(.object "java/lang/String"), .int, .int, (.object "java/lang/String")]
  staticTypes := #[(.object "com/example/bo3/bo3/store/RunStatus"), (.object "com/example/bo3/bo3/store/RunStatus"), (.object "com/example/bo3/bo3/store/RunStatus"), (.array (.object "com/example/bo3/bo3/store/RunStatus"))]
  resolved := Array.replicate 103 none
  statics := some 0 }

def pool7 : Array CpInfo := pool [(2, .class_ 4), (1, u "java/lang/CharSequence"), (42, .class_ 48), (0, u "java/lang/CharSequence$1CodePointIterator"), (10, .class_ 60), (0, u "java/lang/CharSequence$1CharIterator"), (5, .class_ 67), (0, u "java/lang/Object")] 63

/-- java/lang/CharSequence -/
def k7 : Class := { plain "java/lang/CharSequence" (some 0) with
  accessFlags := 1537
  interfaces := #[]
  cf := some (fileOf pool7 2 #[.nestMembers #[47, 59]] #[] 1537 66 #[] #[])
  fields := #[]
  methods := #[]
  instanceTypes := #[]
  staticTypes := #[]
  resolved := Array.replicate 131 none
  statics := none }

def pool8 : Array CpInfo := pool [(1, .class_ 2), (0, u "java/lang/constant/ConstantDesc"), (0, .class_ 4), (0, u "java/lang/Object")] 32

/-- java/lang/constant/ConstantDesc -/
def k8 : Class := { plain "java/lang/constant/ConstantDesc" (some 0) with
  accessFlags := 1537
  interfaces := #[]
  cf := some (fileOf pool8 1 #[] #[] 1537 3 #[] #[])
  fields := #[]
  methods := #[]
  instanceTypes := #[]
  staticTypes := #[]
  resolved := Array.replicate 37 none
  statics := none }

def pool9 : Array CpInfo := pool [(1, .methodref 2 3), (0, .class_ 4), (0, .nameAndType 5 6), (0, u "java/lang/Object"), (0, u "<init>"), (0, u "()V"), (2, .fieldref 10 11), (0, .class_ 12), (0, .nameAndType 13 14), (0, u "java/lang/String"), (0, u "value"), (0, u "[B"), (0, .fieldref 10 16), (0, .nameAndType 17 18), (0, u "coder"), (0, u "B"), (2, u "hash"), (0, u "I"), (2, u "hashIsZero"), (0, u "Z"), (0, .methodref 10 28), (0, .nameAndType 5 29), (0, u "([CIILjava/lang/Void;)V"), (8, .fieldref 10 39), (0, .nameAndType 40 26), (0, u "COMPACT_STRINGS"), (1, .class_ 44), (1, u "java/lang/StringUTF16"), (0, u "compress"), (1, .methodref 42 48), (0, .nameAndType 49 50), (0, u "coderFromArrayLen"), (0, u "([BI)B"), (56, .class_ 109), (1, u "java/lang/StringLatin1"), (67, .methodref 42 178), (0, .nameAndType 45 179), (0, u "([CII)[B"), (361, .methodref 107 542), (0, .nameAndType 543 544), (0, u "equals"), (0, u "([B[B)Z"), (28, u "(Ljava/lang/Object;)Z"), (1, .class_ 576), (0, u "java/lang/CharSequence"), (22, u "CASE_INSENSITIVE_ORDER"), (0, u "Ljava/util/Comparator;"), (409, u "([C)V"), (90, u "serialPersistentFields"), (0, u "[Ljava/io/ObjectStreamField;"), (0, .class_ 1104), (0, u "java/lang/String$CaseInsensitiveComparator"), (1, .class_ 1107), (0, u "java/io/Serializable"), (0, .class_ 1109), (0, u "java/lang/Comparable"), (0, .class_ 1111), (0, u "java/lang/constant/Constable"), (0, .class_ 1113), (0, u "java/lang/constant/ConstantDesc"), (2, u "serialVersionUID"), (0, u "J"), (3, u "REPL"), (0, u "C"), (2, u "LATIN1"), (1, u "UTF16")] 323

def k9m0 : Method := { name := "<init>", desc := "()V", sig := { parameters := [], returnType := none }, accessFlags := 1, code := none }
def k9c1 : Code := { maxStack := 5, maxLocals := 2, code := jdk_42_method_3_code, exceptionTable := #[], attributes := #[] }
def k9m1 : Method := { name := "<init>", desc := "([C)V", sig := { parameters := [(.array .char)], returnType := none }, accessFlags := 1, code := some k9c1 }
def k9c2 : Code := { maxStack := 2, maxLocals := 3, code := jdk_42_method_66_code, exceptionTable := #[], attributes := #[] }
def k9m2 : Method := { name := "equals", desc := "(Ljava/lang/Object;)Z", sig := { parameters := [(.object "java/lang/Object")], returnType := some .boolean }, accessFlags := 1, code := some k9c2 }
def k9c3 : Code := { maxStack := 4, maxLocals := 6, code := jdk_42_method_149_code, exceptionTable := #[], attributes := #[] }
def k9m3 : Method := { name := "<init>", desc := "([CIILjava/lang/Void;)V", sig := { parameters := [(.array .char), .int, .int, (.object "java/lang/Void")], returnType := none }, accessFlags := 2, code := some k9c3 }
/-- java/lang/String -/
def k9 : Class := { plain "java/lang/String" (some 0) with
  accessFlags := 49
  interfaces := #[4, 3, 7, 2, 8]
  cf := some (fileOf pool9 10 #[.nestMembers #[1103]] #[{ accessFlags := 1, nameIndex := 5, descriptorIndex := 6, attributes := #[] }, { accessFlags := 1, nameIndex := 5, descriptorIndex := 1010, attributes := #[] }, { accessFlags := 1, nameIndex := 543, descriptorIndex := 573, attributes := #[] }, { accessFlags := 2, nameIndex := 5, descriptorIndex := 29, attributes := #[] }] 49 2 #[1106, 1108, 575, 1110, 1112] #[{ accessFlags := 18, nameIndex := 13, descriptorIndex := 14, attributes := #[] }, { accessFlags := 18, nameIndex := 17, descriptorIndex := 18, attributes := #[] }, { accessFlags := 2, nameIndex := 21, descriptorIndex := 22, attributes := #[] }, { accessFlags := 2, nameIndex := 25, descriptorIndex := 26, attributes := #[] }, { accessFlags := 26, nameIndex := 1116, descriptorIndex := 1117, attributes := #[] }, { accessFlags := 24, nameIndex := 40, descriptorIndex := 26, attributes := #[] }, { accessFlags := 26, nameIndex := 1101, descriptorIndex := 1102, attributes := #[] }, { accessFlags := 26, nameIndex := 1121, descriptorIndex := 1122, attributes := #[] }, { accessFlags := 25, nameIndex := 599, descriptorIndex := 600, attributes := #[] }, { accessFlags := 24, nameIndex := 1125, descriptorIndex := 18, attributes := #[] }, { accessFlags := 24, nameIndex := 1127, descriptorIndex := 18, attributes := #[] }])
  fields := #[{ name := "value", type := (.array .byte), accessFlags := 18, slot := 0, constantValue := 0 }, { name := "coder", type := .byte, accessFlags := 18, slot := 1, constantValue := 0 }, { name := "hash", type := .int, accessFlags := 2, slot := 2, constantValue := 0 }, { name := "hashIsZero", type := .boolean, accessFlags := 2, slot := 3, constantValue := 0 }, { name := "serialVersionUID", type := .long, accessFlags := 26, slot := 0, constantValue := 0 }, { name := "COMPACT_STRINGS", type := .boolean, accessFlags := 24, slot := 1, constantValue := 0 }, { name := "serialPersistentFields", type := (.array (.object "java/io/ObjectStreamField")), accessFlags := 26, slot := 2, constantValue := 0 }, { name := "REPL", type := .char, accessFlags := 26, slot := 3, constantValue := 0 }, { name := "CASE_INSENSITIVE_ORDER", type := (.object "java/util/Comparator"), accessFlags := 25, slot := 4, constantValue := 0 }, { name := "LATIN1", type := .byte, accessFlags := 24, slot := 5, constantValue := 0 }, { name := "UTF16", type := .byte, accessFlags := 24, slot := 6, constantValue := 0 }]
  methods := #[k9m0, k9m1, k9m2, k9m3]
  instanceTypes := #[(.array .byte), .byte, .int, .boolean]
  staticTypes := #[.long, .boolean, (.array (.object "java/io/ObjectStreamField")), .char, (.object "java/util/Comparator"), .byte, .byte]
  resolved := Array.replicate 1451 none
  statics := some 1 }

def pool10 : Array CpInfo := pool [(6, .class_ 8), (1, u "java/lang/Object"), (0, u "<init>"), (0, u "()V"), (1, .class_ 14), (1, u "java/lang/StringUTF16"), (31, u "$assertionsDisabled"), (0, u "Z"), (13, u "HI_BYTE_SHIFT"), (0, u "I"), (2, u "LO_BYTE_SHIFT"), (49, .methodref 12 116), (0, .nameAndType 117 118), (0, u "compress"), (0, u "([CI[BII)I"), (3, u "([CII)[B"), (138, u "coderFromArrayLen"), (0, u "([BI)B"), (106, .class_ 371), (1, u "java/lang/StringUTF16$LinesSpliterator"), (58, u "MAX_LENGTH"), (196, .class_ 628), (0, u "java/lang/StringUTF16$CodePointsSpliterator"), (0, .class_ 630), (0, u "java/lang/StringUTF16$CharsSpliterator")] 4

def k10m0 : Method := { name := "<init>", desc := "()V", sig := { parameters := [], returnType := none }, accessFlags := 0, code := none }
def k10c1 : Code := { maxStack := 2, maxLocals := 2, code := jdk_52_method_15_code, exceptionTable := #[], attributes := #[] }
def k10m1 : Method := { name := "coderFromArrayLen", desc := "([BI)B", sig := { parameters := [(.array .byte), .int], returnType := some .byte }, accessFlags := 8, code := some k10c1 }
def k10c2 : Code := { maxStack := 5, maxLocals := 6, code := jdk_52_method_16_code, exceptionTable := #[], attributes := #[] }
def k10m2 : Method := { name := "compress", desc := "([CII)[B", sig := { parameters := [(.array .char), .int, .int], returnType := some (.array .byte) }, accessFlags := 9, code := some k10c2 }
def k10c3 : Code := { maxStack := 3, maxLocals := 7, code := jdk_52_method_21_code, exceptionTable := #[], attributes := #[] }
def k10m3 : Method := { name := "compress", desc := "([CI[BII)I", sig := { parameters := [(.array .char), .int, (.array .byte), .int, .int], returnType := some .int }, accessFlags := 9, code := some k10c3 }
/-- java/lang/StringUTF16 -/
def k10 : Class := { plain "java/lang/StringUTF16" (some 0) with
  accessFlags := 48
  interfaces := #[]
  cf := some (fileOf pool10 12 #[.nestMembers #[627, 629, 369]] #[{ accessFlags := 0, nameIndex := 9, descriptorIndex := 10, attributes := #[] }, { accessFlags := 8, nameIndex := 261, descriptorIndex := 262, attributes := #[] }, { accessFlags := 9, nameIndex := 117, descriptorIndex := 122, attributes := #[] }, { accessFlags := 9, nameIndex := 117, descriptorIndex := 118, attributes := #[] }] 48 6 #[] #[{ accessFlags := 26, nameIndex := 61, descriptorIndex := 62, attributes := #[] }, { accessFlags := 26, nameIndex := 65, descriptorIndex := 62, attributes := #[] }, { accessFlags := 24, nameIndex := 430, descriptorIndex := 62, attributes := #[] }, { accessFlags := 4120, nameIndex := 46, descriptorIndex := 47, attributes := #[] }])
  fields := #[{ name := "HI_BYTE_SHIFT", type := .int, accessFlags := 26, slot := 0, constantValue := 0 }, { name := "LO_BYTE_SHIFT", type := .int, accessFlags := 26, slot := 1, constantValue := 0 }, { name := "MAX_LENGTH", type := .int, accessFlags := 24, slot := 2, constantValue := 0 }, { name := "$assertionsDisabled", type := .boolean, accessFlags := 4120, slot := 3, constantValue := 0 }]
  methods := #[k10m0, k10m1, k10m2, k10m3]
  instanceTypes := #[]
  staticTypes := #[.int, .int, .int, .boolean]
  resolved := Array.replicate 635 none
  statics := none }

def pool11 : Array CpInfo := pool [(1, .class_ 2), (0, u "java/lang/Cloneable"), (0, .class_ 4), (0, u "java/lang/Object")] 2

/-- java/lang/Cloneable -/
def k11 : Class := { plain "java/lang/Cloneable" (some 0) with
  accessFlags := 1537
  interfaces := #[]
  cf := some (fileOf pool11 1 #[] #[] 1537 3 #[] #[])
  fields := #[]
  methods := #[]
  instanceTypes := #[]
  staticTypes := #[]
  resolved := Array.replicate 7 none
  statics := none }

def pool12 : Array CpInfo := pool [(4, .class_ 6), (1, u "java/lang/Object"), (0, u "<init>"), (0, u "()V"), (5, .class_ 16), (1, u "java/lang/StringLatin1"), (104, u "$assertionsDisabled"), (0, u "Z"), (98, .class_ 223), (1, u "java/lang/StringLatin1$LinesSpliterator"), (57, u "equals"), (0, u "([B[B)Z"), (107, .class_ 391), (0, u "java/lang/StringLatin1$CharsSpliterator")] 3

def k12m0 : Method := { name := "<init>", desc := "()V", sig := { parameters := [], returnType := none }, accessFlags := 0, code := none }
def k12c1 : Code := { maxStack := 3, maxLocals := 3, code := jdk_43_method_13_code, exceptionTable := #[], attributes := #[] }
def k12m1 : Method := { name := "equals", desc := "([B[B)Z", sig := { parameters := [(.array .byte), (.array .byte)], returnType := some .boolean }, accessFlags := 9, code := some k12c1 }
/-- java/lang/StringLatin1 -/
def k12 : Class := { plain "java/lang/StringLatin1" (some 0) with
  accessFlags := 48
  interfaces := #[]
  cf := some (fileOf pool12 14 #[.nestMembers #[390, 221]] #[{ accessFlags := 0, nameIndex := 7, descriptorIndex := 8, attributes := #[] }, { accessFlags := 9, nameIndex := 281, descriptorIndex := 282, attributes := #[] }] 48 4 #[] #[{ accessFlags := 4120, nameIndex := 121, descriptorIndex := 122, attributes := #[] }])
  fields := #[{ name := "$assertionsDisabled", type := .boolean, accessFlags := 4120, slot := 0, constantValue := 0 }]
  methods := #[k12m0, k12m1]
  instanceTypes := #[]
  staticTypes := #[.boolean]
  resolved := Array.replicate 395 none
  statics := none }

def pool13 : Array CpInfo := pool [(2, .class_ 4), (1, u "java/lang/Object"), (0, u "<init>"), (0, u "()V"), (17, .class_ 26), (1, u "jdk/internal/util/Preconditions"), (28, .class_ 56), (0, u "jdk/internal/util/Preconditions$4"), (57, .class_ 115), (0, u "jdk/internal/util/Preconditions$1"), (7, u "SIOOBE_FORMATTER"), (0, u "Ljava/util/function/BiFunction;"), (0, .class_ 126), (0, u "jdk/internal/util/Preconditions$2"), (3, u "AIOOBE_FORMATTER"), (0, .class_ 132), (0, u "jdk/internal/util/Preconditions$3"), (3, u "IOOBE_FORMATTER")] 57

def k13m0 : Method := { name := "<init>", desc := "()V", sig := { parameters := [], returnType := none }, accessFlags := 1, code := none }
/-- jdk/internal/util/Preconditions -/
def k13 : Class := { plain "jdk/internal/util/Preconditions" (some 0) with
  accessFlags := 33
  interfaces := #[]
  cf := some (fileOf pool13 24 #[.nestMembers #[55, 131, 125, 114]] #[{ accessFlags := 1, nameIndex := 5, descriptorIndex := 6, attributes := #[] }] 33 2 #[] #[{ accessFlags := 25, nameIndex := 123, descriptorIndex := 124, attributes := #[] }, { accessFlags := 25, nameIndex := 130, descriptorIndex := 124, attributes := #[] }, { accessFlags := 25, nameIndex := 136, descriptorIndex := 124, attributes := #[] }])
  fields := #[{ name := "SIOOBE_FORMATTER", type := (.object "java/util/function/BiFunction"), accessFlags := 25, slot := 0, constantValue := 0 }, { name := "AIOOBE_FORMATTER", type := (.object "java/util/function/BiFunction"), accessFlags := 25, slot := 1, constantValue := 0 }, { name := "IOOBE_FORMATTER", type := (.object "java/util/function/BiFunction"), accessFlags := 25, slot := 2, constantValue := 0 }]
  methods := #[k13m0]
  instanceTypes := #[]
  staticTypes := #[(.object "java/util/function/BiFunction"), (.object "java/util/function/BiFunction"), (.object "java/util/function/BiFunction")]
  resolved := Array.replicate 194 none
  statics := some 2 }

def pool14 : Array CpInfo := pool [(9, u "<init>"), (6, .class_ 18), (1, u "java/lang/Object"), (0, u "()V"), (1, .class_ 23), (1, u "jdk/internal/util/ArraysSupport"), (0, u "LOG2_ARRAY_LONG_INDEX_SCALE"), (0, u "I"), (2, u "U"), (0, u "Ljdk/internal/misc/Unsafe;"), (8, u "BIG_ENDIAN"), (0, u "Z"), (8, u "LOG2_BYTE_BIT_SIZE"), (4, u "LOG2_ARRAY_INT_INDEX_SCALE"), (54, u "JLA"), (0, u "Ljdk/internal/access/JavaLangAccess;"), (11, u "LOG2_ARRAY_BOOLEAN_INDEX_SCALE"), (9, u "LOG2_ARRAY_BYTE_INDEX_SCALE"), (5, u "LOG2_ARRAY_CHAR_INDEX_SCALE"), (5, u "LOG2_ARRAY_SHORT_INDEX_SCALE"), (18, u "LOG2_ARRAY_FLOAT_INDEX_SCALE"), (24, u "LOG2_ARRAY_DOUBLE_INDEX_SCALE"), (89, u "T_BOOLEAN"), (2, u "T_CHAR"), (1, u "T_FLOAT"), (1, u "T_DOUBLE"), (1, u "T_BYTE"), (1, u "T_SHORT"), (1, u "T_INT"), (1, u "T_LONG"), (1, u "SOFT_MAX_ARRAY_LENGTH")] 83

def k14m0 : Method := { name := "<init>", desc := "()V", sig := { parameters := [], returnType := none }, accessFlags := 2, code := none }
/-- jdk/internal/util/ArraysSupport -/
def k14 : Class := { plain "jdk/internal/util/ArraysSupport" (some 0) with
  accessFlags := 33
  interfaces := #[]
  cf := some (fileOf pool14 21 #[] #[{ accessFlags := 2, nameIndex := 9, descriptorIndex := 19, attributes := #[] }] 33 16 #[] #[{ accessFlags := 24, nameIndex := 28, descriptorIndex := 29, attributes := #[] }, { accessFlags := 26, nameIndex := 38, descriptorIndex := 39, attributes := #[] }, { accessFlags := 25, nameIndex := 121, descriptorIndex := 25, attributes := #[] }, { accessFlags := 25, nameIndex := 131, descriptorIndex := 25, attributes := #[] }, { accessFlags := 25, nameIndex := 137, descriptorIndex := 25, attributes := #[] }, { accessFlags := 25, nameIndex := 143, descriptorIndex := 25, attributes := #[] }, { accessFlags := 25, nameIndex := 53, descriptorIndex := 25, attributes := #[] }, { accessFlags := 25, nameIndex := 24, descriptorIndex := 25, attributes := #[] }, { accessFlags := 25, nameIndex := 162, descriptorIndex := 25, attributes := #[] }, { accessFlags := 25, nameIndex := 187, descriptorIndex := 25, attributes := #[] }, { accessFlags := 26, nameIndex := 48, descriptorIndex := 25, attributes := #[] }, { accessFlags := 25, nameIndex := 277, descriptorIndex := 25, attributes := #[] }, { accessFlags := 25, nameIndex := 280, descriptorIndex := 25, attributes := #[] }, { accessFlags := 25, nameIndex := 282, descriptorIndex := 25, attributes := #[] }, { accessFlags := 25, nameIndex := 284, descriptorIndex := 25, attributes := #[] }, { accessFlags := 25, nameIndex := 286, descriptorIndex := 25, attributes := #[] }, { accessFlags := 25, nameIndex := 288, descriptorIndex := 25, attributes := #[] }, { accessFlags := 25, nameIndex := 290, descriptorIndex := 25, attributes := #[] }, { accessFlags := 25, nameIndex := 292, descriptorIndex := 25, attributes := #[] }, { accessFlags := 26, nameIndex := 108, descriptorIndex := 109, attributes := #[] }, { accessFlags := 25, nameIndex := 294, descriptorIndex := 25, attributes := #[] }])
  fields := #[{ name := "U", type := (.object "jdk/internal/misc/Unsafe"), accessFlags := 24, slot := 0, constantValue := 0 }, { name := "BIG_ENDIAN", type := .boolean, accessFlags := 26, slot := 1, constantValue := 0 }, { name := "LOG2_ARRAY_BOOLEAN_INDEX_SCALE", type := .int, accessFlags := 25, slot := 2, constantValue := 0 }, { name := "LOG2_ARRAY_BYTE_INDEX_SCALE", type := .int, accessFlags := 25, slot := 3, constantValue := 0 }, { name := "LOG2_ARRAY_CHAR_INDEX_SCALE", type := .int, accessFlags := 25, slot := 4, constantValue := 0 }, { name := "LOG2_ARRAY_SHORT_INDEX_SCALE", type := .int, accessFlags := 25, slot := 5, constantValue := 0 }, { name := "LOG2_ARRAY_INT_INDEX_SCALE", type := .int, accessFlags := 25, slot := 6, constantValue := 0 }, { name := "LOG2_ARRAY_LONG_INDEX_SCALE", type := .int, accessFlags := 25, slot := 7, constantValue := 0 }, { name := "LOG2_ARRAY_FLOAT_INDEX_SCALE", type := .int, accessFlags := 25, slot := 8, constantValue := 0 }, { name := "LOG2_ARRAY_DOUBLE_INDEX_SCALE", type := .int, accessFlags := 25, slot := 9, constantValue := 0 }, { name := "LOG2_BYTE_BIT_SIZE", type := .int, accessFlags := 26, slot := 10, constantValue := 0 }, { name := "T_BOOLEAN", type := .int, accessFlags := 25, slot := 11, constantValue := 0 }, { name := "T_CHAR", type := .int, accessFlags := 25, slot := 12, constantValue := 0 }, { name := "T_FLOAT", type := .int, accessFlags := 25, slot := 13, constantValue := 0 }, { name := "T_DOUBLE", type := .int, accessFlags := 25, slot := 14, constantValue := 0 }, { name := "T_BYTE", type := .int, accessFlags := 25, slot := 15, constantValue := 0 }, { name := "T_SHORT", type := .int, accessFlags := 25, slot := 16, constantValue := 0 }, { name := "T_INT", type := .int, accessFlags := 25, slot := 17, constantValue := 0 }, { name := "T_LONG", type := .int, accessFlags := 25, slot := 18, constantValue := 0 }, { name := "JLA", type := (.object "jdk/internal/access/JavaLangAccess"), accessFlags := 26, slot := 19, constantValue := 0 }, { name := "SOFT_MAX_ARRAY_LENGTH", type := .int, accessFlags := 25, slot := 20, constantValue := 0 }]
  methods := #[k14m0]
  instanceTypes := #[]
  staticTypes := #[(.object "jdk/internal/misc/Unsafe"), .boolean, .int, .int, .int, .int, .int, .int, .int, .int, .int, .int, .int, .int, .int, .int, .int, .int, .int, (.object "jdk/internal/access/JavaLangAccess"), .int]
  resolved := Array.replicate 378 none
  statics := none }

/-- the primitive byte -/
def k15 : Class := { plain "byte" none with kind := .primitive 'B', accessFlags := 0x411 }
/-- [B -/
def k16 : Class := { plain "[B" (some 0) with kind := .array 15 .byte, interfaces := #[11, 4], accessFlags := 1041 }

/-- the primitive char -/
def k17 : Class := { plain "char" none with kind := .primitive 'C', accessFlags := 0x411 }
/-- [C -/
def k18 : Class := { plain "[C" (some 0) with kind := .array 17 .char, interfaces := #[11, 4], accessFlags := 1041 }

/-- the primitive int -/
def k19 : Class := { plain "int" none with kind := .primitive 'I', accessFlags := 0x411 }
/-- [I -/
def k20 : Class := { plain "[I" (some 0) with kind := .array 19 .int, interfaces := #[11, 4], accessFlags := 1041 }

/-- [Lcom/example/bo3/bo3/store/RunStatus; -/
def k21 : Class := { plain "[Lcom/example/bo3/bo3/store/RunStatus;" (some 0) with kind := .array 6 (.object "com/example/bo3/bo3/store/RunStatus"), interfaces := #[11, 4], accessFlags := 1041 }

def heap : Heap := #[{ cls := 6, slots := #[.ref 4, .ref 5, .ref 6, .ref 3], vm := .statics 6 },
  { cls := 9, slots := #[.long 0, .int 1, .null, .int 0, .null, .int 0, .int 0], vm := .statics 9 },
  { cls := 13, slots := #[.null, .null, .null], vm := .statics 13 },
  { cls := 21, slots := #[.ref 4, .ref 5, .ref 6], vm := .none },
  { cls := 6, slots := #[.null, .int 0, .int 0, .ref 7], vm := .none },
  { cls := 6, slots := #[.null, .int 1, .int 0, .ref 8], vm := .none },
  { cls := 6, slots := #[.null, .int 2, .int 0, .ref 9], vm := .none },
  { cls := 9, slots := #[.ref 10, .int 0, .int 0, .int 0], vm := .none },
  { cls := 9, slots := #[.ref 11, .int 0, .int 0, .int 0], vm := .none },
  { cls := 9, slots := #[.ref 12, .int 0, .int 0, .int 0], vm := .none },
  { cls := 16, slots := #[.int 114, .int 117, .int 110, .int 110, .int 105, .int 110, .int 103], vm := .none },
  { cls := 16, slots := #[.int 99, .int 111, .int 109, .int 112, .int 108, .int 101, .int 116, .int 101, .int 100], vm := .none },
  { cls := 16, slots := #[.int 102, .int 97, .int 105, .int 108, .int 101, .int 100], vm := .none }]
def classes : Array Class := #[k0, k1, k2, k3, k4, k5, k6, k7, k8, k9, k10, k11, k12, k13, k14, k15, k16, k17, k18, k19, k20, k21]
def interned : List (Array UInt16 × Addr) := []
def slotsUsed : Nat := 63
def theMethod : MethodId := ⟨1, 1⟩
def args0 : Array Value := #[.int 1]
def aboutOver (below : List Frame) : State where
  vm := { classes := classes, interned := interned.toArray }
  heap := heap
  slotsUsed := slotsUsed
  threads := #[{ frames := .invoking theMethod args0 :: below }]
def below0 : List Frame := [.native { method := ⟨0, 0⟩, args := #[] }]
def about1 : State := aboutOver below0
def p0 : Program := .bare "" "" ""
def e0 : Env := launch0.env 0 0 0
theorem w_frames : about1.frames = Frame.invoking theMethod args0 :: below0 := rfl
set_option maxRecDepth 65536 in
theorem w_args : argsFit about1.vm theMethod args0 = true := by decide +kernel
set_option maxRecDepth 65536 in
theorem w_heap : heapFits about1 = true := by decide +kernel
set_option maxRecDepth 65536 in
theorem w_runnable : about1.curStatus? = some .runnable := by decide +kernel
set_option maxRecDepth 65536 in
theorem w_alone : about1.alone = true := by decide +kernel
set_option maxRecDepth 65536 in
theorem w_named : about1.methodNamed? x = some theMethod := by decide +kernel
set_option maxRecDepth 65536 in
theorem w_hears : about1.hears theMethod below0 = true := by decide +kernel
set_option maxRecDepth 65536 in
theorem w_ripe : about1.ripe theMethod args0 below0 = true := by decide +kernel
theorem w_running : about1.status = .running := rfl
set_option maxRecDepth 65536 in
theorem w_room : about1.hasRoom e0.platform room_1 = true :=
  launch0.hasRoom_least _ room_1 (by decide +kernel) (by decide +kernel) (by decide +kernel) (by decide +kernel) (by decide +kernel) (by decide +kernel)
theorem allAtoms_all (ts : List Jvm.Cond) (a : Array Jvm.Value) (st : Jvm.State) : (allAtoms ts).before a st = ts.all (fun c => c.before a st) := by
  induction ts with
  | nil => rfl
  | cons c t ih =>
    show (Jvm.Cond.and c (allAtoms t)).before a st = _
    rw [Jvm.Cond.before_and, ih, List.all_cons]
def words1 : List Jvm.Cond := Jvm.Cond.code x code maxLocals ret :: tables_1
/-- a 'code' word, met by the world's own term for the bytes: nothing is compared byte by byte -/
theorem code_word {y : MethodName} {bytes : ByteArray} {mx : Nat} {rt : Option FieldType} {a : Array Value} {s : State} {m : MethodId} {meth : Method} {c : Code} (h1 : s.methodNamed? y = some m) (h2 : s.vm.method? m = some meth) (h3 : meth.code = some c) (h4 : c.code = bytes)
    (h5 : (c.maxLocals == mx && c.exceptionTable.isEmpty && decide (c.maxStack ≤ mostOperands) && decide (meth.sig.returnType = rt) && !meth.locks && decide (parseMethodDescriptor y.desc = some meth.sig)) = true) : (Jvm.Cond.code y bytes mx rt).before a s = true := by
  simp only [Bool.and_eq_true, beq_iff_eq, Bool.not_eq_true', decide_eq_true_eq] at h5
  obtain ⟨⟨⟨⟨⟨g1, g2⟩, g3⟩, g4⟩, g5⟩, g6⟩ := h5
  simp [Cond.before, Cond.holds, Cond.value, h1, h2, h3, h4, g1, g2, g3, g4, g5, g6]
def isCode : Jvm.Cond → Bool
  | .code _ _ _ _ => true
  | _ => false
theorem all_split {L : List Jvm.Cond} {P : Jvm.Cond → Bool} (h1 : L.all (fun c => isCode c || P c) = true) (h2 : ∀ c ∈ L.filter isCode, P c = true) : L.all P = true := by
  refine List.all_eq_true.mpr fun c hc => ?_
  have h := List.all_eq_true.mp h1 c hc
  rcases Bool.eq_false_or_eq_true (isCode c) with hi | hi
  · exact h2 c (List.mem_filter.mpr ⟨hc, hi⟩)
  · simpa [hi] using h
set_option maxRecDepth 65536 in
theorem w_c0 : (Jvm.Cond.code x code maxLocals ret).before args0 about1 = true := code_word (m := ⟨1, 1⟩) (meth := k1m1) (c := k1c1) (by decide +kernel) rfl rfl rfl (by decide +kernel)
set_option maxRecDepth 65536 in
theorem w_c1 : (Jvm.Cond.code ({ cls := "java/lang/String", name := "<init>", desc := "([C)V" } : Jvm.MethodName) jdk_42_method_3_code (2 : Nat) (Option.none : Option Jvm.ClassFile.FieldType)).before args0 about1 = true := code_word (m := ⟨9, 1⟩) (meth := k9m1) (c := k9c1) (by decide +kernel) rfl rfl rfl (by decide +kernel)
set_option maxRecDepth 65536 in
theorem w_c2 : (Jvm.Cond.code ({ cls := "java/lang/String", name := "<init>", desc := "([CIILjava/lang/Void;)V" } : Jvm.MethodName) jdk_42_method_149_code (6 : Nat) (Option.none : Option Jvm.ClassFile.FieldType)).before args0 about1 = true := code_word (m := ⟨9, 3⟩) (meth := k9m3) (c := k9c3) (by decide +kernel) rfl rfl rfl (by decide +kernel)
set_option maxRecDepth 65536 in
theorem w_c3 : (Jvm.Cond.code ({ cls := "java/lang/Object", name := "<init>", desc := "()V" } : Jvm.MethodName) object_method_1_code (1 : Nat) (Option.none : Option Jvm.ClassFile.FieldType)).before args0 about1 = true := code_word (m := ⟨0, 0⟩) (meth := k0m0) (c := k0c0) (by decide +kernel) rfl rfl rfl (by decide +kernel)
set_option maxRecDepth 65536 in
theorem w_c4 : (Jvm.Cond.code ({ cls := "java/lang/StringUTF16", name := "compress", desc := "([CII)[B" } : Jvm.MethodName) jdk_52_method_16_code (6 : Nat) (Option.some (Jvm.ClassFile.FieldType.array Jvm.ClassFile.FieldType.byte))).before args0 about1 = true := code_word (m := ⟨10, 2⟩) (meth := k10m2) (c := k10c2) (by decide +kernel) rfl rfl rfl (by decide +kernel)
set_option maxRecDepth 65536 in
theorem w_c5 : (Jvm.Cond.code ({ cls := "java/lang/StringUTF16", name := "compress", desc := "([CI[BII)I" } : Jvm.MethodName) jdk_52_method_21_code (7 : Nat) (Option.some Jvm.ClassFile.FieldType.int)).before args0 about1 = true := code_word (m := ⟨10, 3⟩) (meth := k10m3) (c := k10c3) (by decide +kernel) rfl rfl rfl (by decide +kernel)
set_option maxRecDepth 65536 in
theorem w_c6 : (Jvm.Cond.code ({ cls := "java/lang/StringUTF16", name := "coderFromArrayLen", desc := "([BI)B" } : Jvm.MethodName) jdk_52_method_15_code (2 : Nat) (Option.some Jvm.ClassFile.FieldType.byte)).before args0 about1 = true := code_word (m := ⟨10, 1⟩) (meth := k10m1) (c := k10c1) (by decide +kernel) rfl rfl rfl (by decide +kernel)
set_option maxRecDepth 65536 in
theorem w_c7 : (Jvm.Cond.code ({ cls := "com/example/bo3/bo3/store/RunStatus", name := "ofColumnValue", desc := "(Ljava/lang/String;)Lcom/example/bo3/bo3/store/RunStatus;" } : Jvm.MethodName) prog_53_method_5_code (5 : Nat) (Option.some (Jvm.ClassFile.FieldType.object "com/example/bo3/bo3/store/RunStatus"))).before args0 about1 = true := code_word (m := ⟨6, 2⟩) (meth := k6m2) (c := k6c2) (by decide +kernel) rfl rfl rfl (by decide +kernel)
set_option maxRecDepth 65536 in
theorem w_c8 : (Jvm.Cond.code ({ cls := "com/example/bo3/bo3/store/RunStatus", name := "values", desc := "()[Lcom/example/bo3/bo3/store/RunStatus;" } : Jvm.MethodName) prog_53_method_1_code (0 : Nat) (Option.some (Jvm.ClassFile.FieldType.array (Jvm.ClassFile.FieldType.object "com/example/bo3/bo3/store/RunStatus")))).before args0 about1 = true := code_word (m := ⟨6, 0⟩) (meth := k6m0) (c := k6c0) (by decide +kernel) rfl rfl rfl (by decide +kernel)
set_option maxRecDepth 65536 in
theorem w_c9 : (Jvm.Cond.code ({ cls := "java/lang/String", name := "equals", desc := "(Ljava/lang/Object;)Z" } : Jvm.MethodName) jdk_42_method_66_code (3 : Nat) (Option.some Jvm.ClassFile.FieldType.boolean)).before args0 about1 = true := code_word (m := ⟨9, 2⟩) (meth := k9m2) (c := k9c2) (by decide +kernel) rfl rfl rfl (by decide +kernel)
set_option maxRecDepth 65536 in
theorem w_c10 : (Jvm.Cond.code ({ cls := "java/lang/StringLatin1", name := "equals", desc := "([B[B)Z" } : Jvm.MethodName) jdk_43_method_13_code (3 : Nat) (Option.some Jvm.ClassFile.FieldType.boolean)).before args0 about1 = true := code_word (m := ⟨12, 1⟩) (meth := k12m1) (c := k12c1) (by decide +kernel) rfl rfl rfl (by decide +kernel)
set_option maxRecDepth 65536 in
theorem w_c11 : (Jvm.Cond.code ({ cls := "com/example/bo3/bo3/store/RunStatus", name := "columnValue", desc := "()Ljava/lang/String;" } : Jvm.MethodName) prog_53_method_4_code (1 : Nat) (Option.some (Jvm.ClassFile.FieldType.object "java/lang/String"))).before args0 about1 = true := code_word (m := ⟨6, 1⟩) (meth := k6m1) (c := k6c1) (by decide +kernel) rfl rfl rfl (by decide +kernel)
def codes1 : List Jvm.Cond := [Jvm.Cond.code x code maxLocals ret, Jvm.Cond.code ({ cls := "java/lang/String", name := "<init>", desc := "([C)V" } : Jvm.MethodName) jdk_42_method_3_code (2 : Nat) (Option.none : Option Jvm.ClassFile.FieldType), Jvm.Cond.code ({ cls := "java/lang/String", name := "<init>", desc := "([CIILjava/lang/Void;)V" } : Jvm.MethodName) jdk_42_method_149_code (6 : Nat) (Option.none : Option Jvm.ClassFile.FieldType), Jvm.Cond.code ({ cls := "java/lang/Object", name := "<init>", desc := "()V" } : Jvm.MethodName) object_method_1_code (1 : Nat) (Option.none : Option Jvm.ClassFile.FieldType), Jvm.Cond.code ({ cls := "java/lang/StringUTF16", name := "compress", desc := "([CII)[B" } : Jvm.MethodName) jdk_52_method_16_code (6 : Nat) (Option.some (Jvm.ClassFile.FieldType.array Jvm.ClassFile.FieldType.byte)), Jvm.Cond.code ({ cls := "java/lang/StringUTF16", name := "compress", desc := "([CI[BII)I" } : Jvm.MethodName) jdk_52_method_21_code (7 : Nat) (Option.some Jvm.ClassFile.FieldType.int), Jvm.Cond.code ({ cls := "java/lang/StringUTF16", name := "coderFromArrayLen", desc := "([BI)B" } : Jvm.MethodName) jdk_52_method_15_code (2 : Nat) (Option.some Jvm.ClassFile.FieldType.byte), Jvm.Cond.code ({ cls := "com/example/bo3/bo3/store/RunStatus", name := "ofColumnValue", desc := "(Ljava/lang/String;)Lcom/example/bo3/bo3/store/RunStatus;" } : Jvm.MethodName) prog_53_method_5_code (5 : Nat) (Option.some (Jvm.ClassFile.FieldType.object "com/example/bo3/bo3/store/RunStatus")), Jvm.Cond.code ({ cls := "com/example/bo3/bo3/store/RunStatus", name := "values", desc := "()[Lcom/example/bo3/bo3/store/RunStatus;" } : Jvm.MethodName) prog_53_method_1_code (0 : Nat) (Option.some (Jvm.ClassFile.FieldType.array (Jvm.ClassFile.FieldType.object "com/example/bo3/bo3/store/RunStatus"))), Jvm.Cond.code ({ cls := "java/lang/String", name := "equals", desc := "(Ljava/lang/Object;)Z" } : Jvm.MethodName) jdk_42_method_66_code (3 : Nat) (Option.some Jvm.ClassFile.FieldType.boolean), Jvm.Cond.code ({ cls := "java/lang/StringLatin1", name := "equals", desc := "([B[B)Z" } : Jvm.MethodName) jdk_43_method_13_code (3 : Nat) (Option.some Jvm.ClassFile.FieldType.boolean), Jvm.Cond.code ({ cls := "com/example/bo3/bo3/store/RunStatus", name := "columnValue", desc := "()Ljava/lang/String;" } : Jvm.MethodName) prog_53_method_4_code (1 : Nat) (Option.some (Jvm.ClassFile.FieldType.object "java/lang/String"))]
set_option maxRecDepth 65536 in
theorem codes_eq : words1.filter isCode = codes1 := rfl
theorem w_codes : ∀ c ∈ words1.filter isCode, c.before args0 about1 = true := by
  rw [codes_eq]
  intro c hc
  simp only [codes1, List.mem_cons, List.not_mem_nil, or_false] at hc
  rcases hc with rfl | rfl | rfl | rfl | rfl | rfl | rfl | rfl | rfl | rfl | rfl | rfl
  · exact w_c0
  · exact w_c1
  · exact w_c2
  · exact w_c3
  · exact w_c4
  · exact w_c5
  · exact w_c6
  · exact w_c7
  · exact w_c8
  · exact w_c9
  · exact w_c10
  · exact w_c11
set_option maxRecDepth 65536 in
theorem w_t1 : (words1.take 24).all (fun c => isCode c || c.before args0 about1) = true := by decide +kernel
set_option maxRecDepth 65536 in
theorem w_t2 : ((words1.drop 24).take 24).all (fun c => isCode c || c.before args0 about1) = true := by decide +kernel
set_option maxRecDepth 65536 in
theorem w_t3 : (((words1.drop 24).drop 24).take 24).all (fun c => isCode c || c.before args0 about1) = true := by decide +kernel
set_option maxRecDepth 65536 in
theorem w_t4 : (((words1.drop 24).drop 24).drop 24).all (fun c => isCode c || c.before args0 about1) = true := by decide +kernel
theorem w_tables : (allAtoms (Jvm.Cond.code x code maxLocals ret :: tables_1)).before args0 about1 = true := by
  rw [allAtoms_all]
  show words1.all (fun c => c.before args0 about1) = true
  refine all_split ?_ w_codes
  rw [← List.take_append_drop 24 words1, List.all_append, w_t1, ← List.take_append_drop 24 (words1.drop 24), List.all_append, w_t2, ← List.take_append_drop 24 ((words1.drop 24).drop 24), List.all_append, w_t3, w_t4]
  rfl
set_option maxRecDepth 65536 in
theorem w_rest : rest_1_c.before args0 about1 = true := by decide +kernel
set_option maxRecDepth 65536 in
theorem w_case : (Jvm.Cond.and given_1 narrow_1).before args0 about1 = true := by decide +kernel
theorem w_applies : (headSpec (Jvm.Cond.code x code maxLocals ret :: tables_1) room_1).applies x e0.platform about1 = true :=
  (Spec.applies_iff w_frames).mpr ⟨w_running, w_runnable, w_alone, w_named, w_hears, w_ripe, w_room, w_tables⟩
theorem atStart : AtStart classFile x code maxLocals ret World_1 tables_1 room_1 Calls_1 rest_1 Pre_1 launch0 p0 e0 about1 theMethod args0 below0 :=
  ⟨lists_1, trivial, launch0.admits_env _ _ _, launch0.least_env, fairChoices_fair.cas, fairChoices_fair.clock, w_frames, w_args, w_heap, w_applies, trivial, w_rest, w_case⟩
end start1
theorem witness_1 : WitnessClaimed_1 := ⟨start1.p0, start1.e0, start1.about1, start1.theMethod, start1.args0, start1.below0, start1.atStart⟩
end Jvm.Pilot.@@N@@
