import JvmDerived
import JvmDerived.Pilot.@@N@@Statement
import JvmDerived.Pilot.@@N@@Code
set_option maxRecDepth 65536
set_option maxHeartbeats 40000000
set_option linter.unusedVariables false
set_option linter.unusedSimpArgs false
@@BLOCK:NumsL.lean.txt@@
/- laws to paste: Road.backV (cut by pick.py; bodies as the Statement names them) -/
namespace Jvm.Pilot.@@N@@
namespace StrChars
open Jvm Sem ClassFile Op Lib Jvm.Stand Jvm.Free.XT Jvm.Free.ALB Jvm.Free.JM Jvm.Free
open Jvm.Lib.Cold (StaticIs)
/-- a char array whose places are chars -/
def Ch (a : Addr) (A : Cell) (U : State) : Prop := Arr .char a A U ∧ Typed .char A
theorem Ch.mv {a : Addr} {A : Cell} {U U' : State} (h : Ch a A U) (hal : U.vm.Alike U'.vm) (hh : U'.heap = U.heap) : Ch a A U' := ⟨h.1.mv hal hh, h.2⟩
theorem Ch.keep {a : Addr} {A : Cell} {U U' : State} (h : Ch a A U) (hal : U.vm.Alike U'.vm) (hk : U'.heap[a]? = some A) : Ch a A U' := ⟨h.1.keep hal hk, h.2⟩
/-- what place i of a char[]'s cell holds -/
def cv (A : Cell) (i : Nat) : Int32 := match A.slots[i]? with | some (.int x) => x | _ => 0
theorem Ch.get {a : Addr} {A : Cell} {U : State} (h : Ch a A U) {i : Nat} (hi : i < A.slots.size) : A.slots[i]? = some (.int (cv A i)) := by
  have e := Array.getElem?_eq_getElem hi
  have f := h.2 i _ e
  unfold cv; rw [e]
  generalize A.slots[i] = v at f
  cases v <;> simp [fits] at f ⊢
/-- the byte that i2b leaves of a char -/
def lo8 (x : Int32) : Int32 := x.toInt8.toInt32
theorem fits_lo8 (y : Int32) : fits .byte (.int (lo8 y)) = true := by
  have h1 := y.toInt8.le_toInt
  have h2 := y.toInt8.toInt_lt
  simp only [lo8, fits, Bool.and_eq_true, decide_eq_true_eq, Int32.le_iff_toInt_le, Int8.toInt_toInt32, show (-128 : Int32).toInt = -128 from by decide, show (127 : Int32).toInt = 127 from by decide]
  omega
/-- A' is A but that each place j of lo .. hi - 1 holds f j -/
def Laid (A A' : Cell) (lo hi : Nat) (f : Nat → Value) : Prop := A'.cls = A.cls ∧ A'.vm = A.vm ∧ A'.slots.size = A.slots.size ∧ ∀ i, A'.slots[i]? = if lo ≤ i ∧ i < hi then some (f i) else A.slots[i]?
theorem Laid.zero (A : Cell) (lo : Nat) (f : Nat → Value) : Laid A A lo (lo + 0) f := ⟨rfl, rfl, rfl, fun i => by rw [if_neg (by omega)]⟩
theorem Laid.step {A Ak : Cell} {lo k : Nat} {f : Nat → Value} {v : Value} (h : Laid A Ak lo k f) (hlo : lo ≤ k) (hk : k < Ak.slots.size) (hv : v = f k) : Laid A (Ak.setSlot k v) lo (k + 1) f := by
  refine ⟨h.1, h.2.1, by simpa [Cell.setSlot] using h.2.2.1, fun i => ?_⟩
  by_cases e : k = i
  · subst e; rw [Cell.slots_setSlot_self v hk, if_pos (by omega), hv]
  · rw [Cell.slots_setSlot_ne v e, h.2.2.2 i]
    by_cases q : lo ≤ i ∧ i < k
    · rw [if_pos q, if_pos (by omega)]
    · rw [if_neg q, if_neg (by omega)]
def U16 : String := "java/lang/StringUTF16"
namespace Cmp5
def yN : MethodName := ⟨"java/lang/StringUTF16", "compress", "([CI[BII)I"⟩
abbrev yB : ByteArray := jdk_52_method_21_code
theorem d0 : decode yB 0 = .ok (.iconst 0, 1) := by decide +kernel
theorem d1 : decode yB 1 = .ok (.istore 5, 2) := by decide +kernel
theorem d3 : decode yB 3 = .ok (.iload 5, 2) := by decide +kernel
theorem d5 : decode yB 5 = .ok (.iload 4, 2) := by decide +kernel
theorem d7 : decode yB 7 = .ok (.if_icmp (.ge) 37, 3) := by decide +kernel
theorem d10 : decode yB 10 = .ok (.aload_n 0, 1) := by decide +kernel
theorem d11 : decode yB 11 = .ok (.iload_n 1, 1) := by decide +kernel
theorem d12 : decode yB 12 = .ok (.caload, 1) := by decide +kernel
theorem d13 : decode yB 13 = .ok (.istore 6, 2) := by decide +kernel
theorem d15 : decode yB 15 = .ok (.iload 6, 2) := by decide +kernel
theorem d17 : decode yB 17 = .ok (.sipush 255, 3) := by decide +kernel
theorem d20 : decode yB 20 = .ok (.if_icmp (.le) 6, 3) := by decide +kernel
theorem d26 : decode yB 26 = .ok (.aload_n 2, 1) := by decide +kernel
theorem d27 : decode yB 27 = .ok (.iload_n 3, 1) := by decide +kernel
theorem d28 : decode yB 28 = .ok (.iload 6, 2) := by decide +kernel
theorem d30 : decode yB 30 = .ok (.i2b, 1) := by decide +kernel
theorem d31 : decode yB 31 = .ok (.bastore, 1) := by decide +kernel
theorem d32 : decode yB 32 = .ok (.iinc 1 1, 3) := by decide +kernel
theorem d35 : decode yB 35 = .ok (.iinc 3 1, 3) := by decide +kernel
theorem d38 : decode yB 38 = .ok (.iinc 5 1, 3) := by decide +kernel
theorem d41 : decode yB 41 = .ok (.goto (-38), 3) := by decide +kernel
theorem d44 : decode yB 44 = .ok (.iload 4, 2) := by decide +kernel
theorem d46 : decode yB 46 = .ok (.ireturn, 1) := by decide +kernel
def site : List Cond := []
def tab : Cond := tabOf yN yB 7 (some .int) site
def P (b : Addr) (A : Cell) (d : Addr) (B : Cell) (o q len : Nat) (args : Array Value) (s : State) : Prop := args = #[.ref b, .int (Int32.ofNat o), .ref d, .int (Int32.ofNat q), .int (Int32.ofNat len)] ∧ Ch b A s ∧ Arr .byte d B s ∧ b ≠ d ∧ o + len ≤ A.slots.size ∧ q + len ≤ B.slots.size ∧ ∀ i, i < len → ¬ 255 < cv A (o + i)
def E (b : Addr) (A : Cell) (d : Addr) (B : Cell) (o q len : Nat) (r : Option Value) (s u : State) : Prop := r = some (.int (Int32.ofNat len)) ∧ ∃ B', Put d B' s u ∧ Laid B B' q (q + len) (fun j => Value.int (lo8 (cv A (o + (j - q)))))
/-- no char of the range above 255: len; the places written hold each char's low byte -/
theorem law (l : Launch) (b : Addr) (A : Cell) (d : Addr) (B : Cell) (o q len : Nat) : Law l yN 5 5 0 0 yB 7 (some .int) site (P b A d B o q len) (E b A d B o q len) (copyLocs d q len) 0 0 := by
  refine Law.of_walk (plainFor_of_name (by decide +kernel)) (by decide +kernel) (by decide +kernel) (by decide) (fun _ _ h => by rw [h.1]; rfl) (fun _ U U' hal hh h => ⟨h.1, h.2.1.mv hal hh, h.2.2.1.mv hal hh, h.2.2.2⟩) (fun r U U' V V' h1 hal h2 h => ⟨h.1, h.2.elim fun B' q => ⟨B', q.1.mv h1 h2, q.2⟩⟩) ?_
  intro p e s m args below meth c s₁ X0 hexec hbytes hml hret hlk hnm hown hh0 W hP
  obtain ⟨rfl, hA, hB, hne, l1, l2, hp⟩ := hP
  have c1 : Steps p.tables e below (s₁.setTop (entryFrame m #[.ref b, .int (Int32.ofNat o), .ref d, .int (Int32.ofNat q), .int (Int32.ofNat len)] 7)) (s₁.setTop (mkF m 0 #[.val (.ref b), .val (.int (Int32.ofNat o)), .val (.ref d), .val (.int (Int32.ofNat q)), .val (.int (Int32.ofNat len)), .unset, .unset] [])) := entry rfl
  have hA0 := hA.1.mv X0.warmed.alike hh0
  have hB0 := hB.mv X0.warmed.alike hh0
  have a31 := hA.1.2.2.2
  have c2 : Steps p.tables e below (s₁.setTop (entryFrame m #[.ref b, .int (Int32.ofNat o), .ref d, .int (Int32.ofNat q), .int (Int32.ofNat len)] 7)) (s₁.setTop (mkF m 3 #[.val (.ref b), .val (.int (Int32.ofNat o)), .val (.ref d), .val (.int (Int32.ofNat q)), .val (.int (Int32.ofNat len)), .val (.int 0), .unset] [])) := c1.trans (by
    refine iconstV X0.here hexec rfl 0 (hb hbytes d0) (by decide) ?_
    refine XS.istore X0.here hexec rfl (hb hbytes d1) rfl rfl ?_
    exact Steps.refl _)
  have loop : ∀ (r i : Nat), i + r = len → ∀ (z : Slot), (z = .unset ∨ ∃ w, z = .val w ∧ w.category = 1) → ∀ (Tl : State) (Bk : Cell), Stand p l e { frames := 0, locals := 0, cells := 0, slots := 0 } s m #[.ref b, .int (Int32.ofNat o), .ref d, .int (Int32.ofNat q), .int (Int32.ofNat len)] below meth c Tl ([] ++ copyLocs d q i) 0 0 → Put d Bk s₁ Tl → Laid B Bk q (q + i) (fun j => Value.int (lo8 (cv A (o + (j - q))))) →
      Steps p.tables e below (s₁.setTop (entryFrame m #[.ref b, .int (Int32.ofNat o), .ref d, .int (Int32.ofNat q), .int (Int32.ofNat len)] 7)) (Tl.setTop (mkF m 3 #[.val (.ref b), .val (.int (Int32.ofNat (o + i))), .val (.ref d), .val (.int (Int32.ofNat (q + i))), .val (.int (Int32.ofNat len)), .val (.int (Int32.ofNat i)), z] [])) → ∃ (T' : State) (B' : Cell) (z' : Slot), Stand p l e { frames := 0, locals := 0, cells := 0, slots := 0 } s m #[.ref b, .int (Int32.ofNat o), .ref d, .int (Int32.ofNat q), .int (Int32.ofNat len)] below meth c T' ([] ++ copyLocs d q len) 0 0 ∧ Put d B' s₁ T' ∧ Laid B B' q (q + len) (fun j => Value.int (lo8 (cv A (o + (j - q))))) ∧
      Steps p.tables e below (s₁.setTop (entryFrame m #[.ref b, .int (Int32.ofNat o), .ref d, .int (Int32.ofNat q), .int (Int32.ofNat len)] 7)) (T'.setTop (mkF m 3 #[.val (.ref b), .val (.int (Int32.ofNat (o + len))), .val (.ref d), .val (.int (Int32.ofNat (q + len))), .val (.int (Int32.ofNat len)), .val (.int (Int32.ofNat len)), z'] [])) := by
    intro r
    induction r with
    | zero =>
      intro i hi z hz Tl Bk Xl pl fl cl
      have hil : i = len := by omega
      rw [hil] at Xl fl cl
      exact ⟨Tl, Bk, z, Xl, pl, fl, cl⟩
    | succ r ih =>
      intro i hi z hz Tl Bk Xl pl fl cl
      have all := X0.warmed.alike.symm.trans Xl.warmed.alike
      have hAl := hA0.keep all (pl.other hne hA0.1)
      have hBk := hB0.like all pl.1 fl.1 fl.2.1 fl.2.2.1
      have hlt : q + i < Bk.slots.size := by rw [fl.2.2.1]; omega
      have c3 : Steps p.tables e below (s₁.setTop (entryFrame m #[.ref b, .int (Int32.ofNat o), .ref d, .int (Int32.ofNat q), .int (Int32.ofNat len)] 7)) (Tl.setTop (mkF m 12 #[.val (.ref b), .val (.int (Int32.ofNat (o + i))), .val (.ref d), .val (.int (Int32.ofNat (q + i))), .val (.int (Int32.ofNat len)), .val (.int (Int32.ofNat i)), z] [.int (Int32.ofNat (o + i)), .ref b])) := cl.trans (by
        refine XS.iload Xl.here hexec rfl (hb hbytes d3) rfl ?_
        refine XS.iload Xl.here hexec rfl (hb hbytes d5) rfl ?_
        refine XS.icmpNo Xl.here hexec rfl (hb hbytes d7) rfl (ii_ge_f (lt32 (by omega) (by omega))) ?_
        refine XS.aloadN Xl.here hexec rfl (hb hbytes d10) rfl rfl ?_
        refine XS.iloadN Xl.here hexec rfl (hb hbytes d11) rfl ?_
        exact Steps.refl _)
      have c4 : Steps p.tables e below (s₁.setTop (entryFrame m #[.ref b, .int (Int32.ofNat o), .ref d, .int (Int32.ofNat q), .int (Int32.ofNat len)] 7)) (Tl.setTop (mkF m 13 #[.val (.ref b), .val (.int (Int32.ofNat (o + i))), .val (.ref d), .val (.int (Int32.ofNat (q + i))), .val (.int (Int32.ofNat len)), .val (.int (Int32.ofNat i)), z] [.int (cv A (o + i))])) := c3.trans (by
        refine Xl.aget hexec hAl rfl (hA.get (i := o + i) (by omega)) rfl rfl (hb hbytes d12) ?_
        exact Steps.refl _)
      have c5 : Steps p.tables e below (s₁.setTop (entryFrame m #[.ref b, .int (Int32.ofNat o), .ref d, .int (Int32.ofNat q), .int (Int32.ofNat len)] 7)) (Tl.setTop (mkF m 15 #[.val (.ref b), .val (.int (Int32.ofNat (o + i))), .val (.ref d), .val (.int (Int32.ofNat (q + i))), .val (.int (Int32.ofNat len)), .val (.int (Int32.ofNat i)), .val (.int (cv A (o + i)))] [])) := c4.trans (by
        refine XS.istoreS Xl.here hexec rfl (hb hbytes d13) rfl rfl hz ?_
        exact Steps.refl _)
      have c6 : Steps p.tables e below (s₁.setTop (entryFrame m #[.ref b, .int (Int32.ofNat o), .ref d, .int (Int32.ofNat q), .int (Int32.ofNat len)] 7)) (Tl.setTop (mkF m 31 #[.val (.ref b), .val (.int (Int32.ofNat (o + i))), .val (.ref d), .val (.int (Int32.ofNat (q + i))), .val (.int (Int32.ofNat len)), .val (.int (Int32.ofNat i)), .val (.int (cv A (o + i)))] [.int (lo8 (cv A (o + i))), .int (Int32.ofNat (q + i)), .ref d])) := c5.trans (by
        refine XS.iload Xl.here hexec rfl (hb hbytes d15) rfl ?_
        refine sipushV Xl.here hexec rfl 255 (hb hbytes d17) (by decide) ?_
        refine XS.icmpYes Xl.here hexec rfl (pc0 := 20) rfl (hb hbytes d20) rfl (ii_le_t (hp i (by omega))) (by decide) rfl ?_
        refine XS.aloadN Xl.here hexec rfl (hb hbytes d26) rfl rfl ?_
        refine XS.iloadN Xl.here hexec rfl (hb hbytes d27) rfl ?_
        refine XS.iload Xl.here hexec rfl (hb hbytes d28) rfl ?_
        refine i2b Xl.here hexec rfl (hb hbytes d30) rfl ?_
        exact Steps.refl _)
      obtain ⟨T7, X7, p7, st7⟩ := Xl.aput hexec hBk rfl hlt rfl (fits_lo8 (cv A (o + i))) (g := (mkF m 31 #[.val (.ref b), .val (.int (Int32.ofNat (o + i))), .val (.ref d), .val (.int (Int32.ofNat (q + i))), .val (.int (Int32.ofNat len)), .val (.int (Int32.ofNat i)), .val (.int (cv A (o + i)))] [.int (lo8 (cv A (o + i))), .int (Int32.ofNat (q + i)), .ref d])) rfl (rest := []) rfl (hb hbytes d31)
      have c8 : Steps p.tables e below (s₁.setTop (entryFrame m #[.ref b, .int (Int32.ofNat o), .ref d, .int (Int32.ofNat q), .int (Int32.ofNat len)] 7)) (T7.setTop (mkF m 32 #[.val (.ref b), .val (.int (Int32.ofNat (o + i))), .val (.ref d), .val (.int (Int32.ofNat (q + i))), .val (.int (Int32.ofNat len)), .val (.int (Int32.ofNat i)), .val (.int (cv A (o + i)))] [])) := c6.trans (st7 _ (Steps.refl _))
      have c9 : Steps p.tables e below (s₁.setTop (entryFrame m #[.ref b, .int (Int32.ofNat o), .ref d, .int (Int32.ofNat q), .int (Int32.ofNat len)] 7)) (T7.setTop (mkF m 3 #[.val (.ref b), .val (.int (Int32.ofNat (o + i) + 1)), .val (.ref d), .val (.int (Int32.ofNat (q + i) + 1)), .val (.int (Int32.ofNat len)), .val (.int (Int32.ofNat i + 1)), .val (.int (cv A (o + i)))] [])) := c8.trans (by
        refine iincV X7.here hexec rfl 1 (hb hbytes d32) (by decide) rfl rfl ?_
        refine iincV X7.here hexec rfl 1 (hb hbytes d35) (by decide) rfl rfl ?_
        refine iincV X7.here hexec rfl 1 (hb hbytes d38) (by decide) rfl rfl ?_
        refine XS.goto X7.here hexec rfl (pc0 := 41) rfl (hb hbytes d41) (by decide) rfl ?_
        exact Steps.refl _)
      have c10 : Steps p.tables e below (s₁.setTop (entryFrame m #[.ref b, .int (Int32.ofNat o), .ref d, .int (Int32.ofNat q), .int (Int32.ofNat len)] 7)) (T7.setTop (mkF m 3 #[.val (.ref b), .val (.int (Int32.ofNat (o + (i + 1)))), .val (.ref d), .val (.int (Int32.ofNat (q + (i + 1)))), .val (.int (Int32.ofNat len)), .val (.int (Int32.ofNat (i + 1))), .val (.int (cv A (o + i)))] [])) := by
        have := c9
        rw [succ32, succ32, succ32] at this
        exact this
      exact ih (i + 1) (by omega) _ (Or.inr ⟨_, rfl, rfl⟩) T7 _ (by rw [copyLocs_step, ← List.append_assoc]; exact X7) (pl.trans p7) (fl.step (by omega) hlt (by simp)) c10
  obtain ⟨T9, B9, z9, X9, p9, f9, g9⟩ := loop len 0 (by omega) .unset (Or.inl rfl) s₁ B (by simpa [copyLocs] using X0) ⟨hB0.1, fun _ _ => rfl, rfl⟩ (Laid.zero _ _ _) c2
  have c11 : Steps p.tables e below (s₁.setTop (entryFrame m #[.ref b, .int (Int32.ofNat o), .ref d, .int (Int32.ofNat q), .int (Int32.ofNat len)] 7)) (T9.setTop (mkF m 46 #[.val (.ref b), .val (.int (Int32.ofNat (o + len))), .val (.ref d), .val (.int (Int32.ofNat (q + len))), .val (.int (Int32.ofNat len)), .val (.int (Int32.ofNat len)), z9] [.int (Int32.ofNat len)])) := g9.trans (by
    refine XS.iload X9.here hexec rfl (hb hbytes d3) rfl ?_
    refine XS.iload X9.here hexec rfl (hb hbytes d5) rfl ?_
    refine XS.icmpYes X9.here hexec rfl (pc0 := 7) rfl (hb hbytes d7) rfl (ii_ge_t (nlt32 (by omega) (Nat.le_refl _))) (by decide) rfl ?_
    refine XS.iload X9.here hexec rfl (hb hbytes d44) rfl ?_
    exact Steps.refl _)
  exact ⟨T9, some (.int (Int32.ofNat len)), _, _, _, X9, by simp, rfl, rfl, (fun h => by cases h), ⟨rfl, B9, p9.from hh0, f9⟩, fun fs hl => c11.trans (X9.ireturnOut hexec hret rfl (Or.inl rfl) (hb hbytes d46) hl)⟩
end Cmp5
namespace Cmp3
def yN : MethodName := ⟨"java/lang/StringUTF16", "compress", "([CII)[B"⟩
abbrev yB : ByteArray := jdk_52_method_16_code
theorem d0 : decode yB 0 = .ok (.iload_n 2, 1) := by decide +kernel
theorem d1 : decode yB 1 = .ok (.newarray .byte, 2) := by decide +kernel
theorem d3 : decode yB 3 = .ok (.astore_n 3, 1) := by decide +kernel
theorem d4 : decode yB 4 = .ok (.aload_n 0, 1) := by decide +kernel
theorem d5 : decode yB 5 = .ok (.iload_n 1, 1) := by decide +kernel
theorem d6 : decode yB 6 = .ok (.aload_n 3, 1) := by decide +kernel
theorem d7 : decode yB 7 = .ok (.iconst 0, 1) := by decide +kernel
theorem d8 : decode yB 8 = .ok (.iload_n 2, 1) := by decide +kernel
theorem d9 : decode yB 9 = .ok (.invokestatic 115, 3) := by decide +kernel
theorem d12 : decode yB 12 = .ok (.istore 4, 2) := by decide +kernel
theorem d14 : decode yB 14 = .ok (.iload 4, 2) := by decide +kernel
theorem d16 : decode yB 16 = .ok (.iload_n 2, 1) := by decide +kernel
theorem d17 : decode yB 17 = .ok (.if_icmp (.eq) 40, 3) := by decide +kernel
theorem d57 : decode yB 57 = .ok (.aload_n 3, 1) := by decide +kernel
theorem d58 : decode yB 58 = .ok (.areturn, 1) := by decide +kernel
def site : List Cond := [.arrayClass .byte, Cmp5.tab] ++ staticW U16 115 Cmp5.yN
def tab : Cond := tabOf yN yB 6 (some (.array .byte)) site
def P (b : Addr) (A : Cell) (o len : Nat) (args : Array Value) (s : State) : Prop := args = #[.ref b, .int (Int32.ofNat o), .int (Int32.ofNat len)] ∧ Ch b A s ∧ o + len ≤ A.slots.size ∧ len ≤ 536870912 ∧ ∀ i, i < len → ¬ 255 < cv A (o + i)
def E (b : Addr) (A : Cell) (o len : Nat) (r : Option Value) (s u : State) : Prop := NewArr .byte "[B" len (fun j => .int (lo8 (cv A (o + j)))) r s u ∧ u.heap.size = s.heap.size + 1
/-- no char of the range above 255: a new byte[] of their low bytes -/
theorem law (l : Launch) (b : Addr) (A : Cell) (o len : Nat) : Law l yN 3 3 1 18 yB 6 (some (.array .byte)) site (P b A o len) (E b A o len) [] 1 len := by
  refine Law.of_walk (plainFor_of_name (by decide +kernel)) (by decide +kernel) (by decide +kernel) (by decide) (fun _ _ h => by rw [h.1]; rfl) (fun _ U U' hal hh h => ⟨h.1, h.2.1.mv hal hh, h.2.2⟩) (fun r U U' V V' h1 hal h2 h => ⟨NewArr.mv r U U' V V' h1 hal h2 h.1, by rw [h1, h2]; exact h.2⟩) ?_
  intro p e s m args below meth c s₁ X0 hexec hbytes hml hret hlk hnm hown hh0 W hP
  obtain ⟨rfl, hA, l1, l2, hp⟩ := hP
  have a31 := hA.1.2.2.2
  have c1 : Steps p.tables e below (s₁.setTop (entryFrame m #[.ref b, .int (Int32.ofNat o), .int (Int32.ofNat len)] 6)) (s₁.setTop (mkF m 0 #[.val (.ref b), .val (.int (Int32.ofNat o)), .val (.int (Int32.ofNat len)), .unset, .unset, .unset] [])) := entry rfl
  have c2 : Steps p.tables e below (s₁.setTop (entryFrame m #[.ref b, .int (Int32.ofNat o), .int (Int32.ofNat len)] 6)) (s₁.setTop (mkF m 1 #[.val (.ref b), .val (.int (Int32.ofNat o)), .val (.int (Int32.ofNat len)), .unset, .unset, .unset] [.int (Int32.ofNat len)])) := c1.trans (by
    refine XS.iloadN X0.here hexec rfl (hb hbytes d0) rfl ?_
    exact Steps.refl _)
  obtain ⟨T3, B3, X3, ba3, bs3, bv3, bh3, bf3, st3⟩ := X0.anew hexec (atype := .byte) (wk W (.arrayClass .byte)) rfl (by show len * 1 ≤ _; omega) (by omega) (g := (mkF m 1 #[.val (.ref b), .val (.int (Int32.ofNat o)), .val (.int (Int32.ofNat len)), .unset, .unset, .unset] [.int (Int32.ofNat len)])) rfl (hb hbytes d1) (rest := []) rfl (Nat.le_refl _) (by show 0 + len ≤ len; omega)
  rw [hh0] at ba3 st3
  have kp3 : XT.Kept s T3 := (XT.Kept.of_eq hh0).push bh3
  have hA3 := hA.keep X3.warmed.alike (kp3 _ _ hA.1.1)
  have hne : b ≠ s.heap.size := hA.1.ne
  have c4 : Steps p.tables e below (s₁.setTop (entryFrame m #[.ref b, .int (Int32.ofNat o), .int (Int32.ofNat len)] 6)) (T3.setTop (mkF m 3 #[.val (.ref b), .val (.int (Int32.ofNat o)), .val (.int (Int32.ofNat len)), .unset, .unset, .unset] [.ref s.heap.size])) := c2.trans (st3 _ (Steps.refl _))
  have c5 : Steps p.tables e below (s₁.setTop (entryFrame m #[.ref b, .int (Int32.ofNat o), .int (Int32.ofNat len)] 6)) (T3.setTop (mkF m 9 #[.val (.ref b), .val (.int (Int32.ofNat o)), .val (.int (Int32.ofNat len)), .val (.ref s.heap.size), .unset, .unset] [.int (Int32.ofNat len), .int 0, .ref s.heap.size, .int (Int32.ofNat o), .ref b])) := c4.trans (by
    refine XS.astoreN X3.here hexec rfl (hb hbytes d3) rfl rfl rfl ?_
    refine XS.aloadN X3.here hexec rfl (hb hbytes d4) rfl rfl ?_
    refine XS.iloadN X3.here hexec rfl (hb hbytes d5) rfl ?_
    refine XS.aloadN X3.here hexec rfl (hb hbytes d6) rfl rfl ?_
    refine iconstV X3.here hexec rfl 0 (hb hbytes d7) (by decide) ?_
    refine XS.iloadN X3.here hexec rfl (hb hbytes d8) rfl ?_
    exact Steps.refl _)
  obtain ⟨v6, T6, X6, E6, g6⟩ := X3.callS hexec (Cmp5.law l b A s.heap.size B3 o 0 len) hown (wks W (staticW U16 115 Cmp5.yN)) (wk W Cmp5.tab) (W := 0) (Nat.le_of_ble_eq_true rfl) (Nat.le_of_ble_eq_true rfl) (Nat.le_refl _) (by show 0 + len + 0 ≤ len; omega) (g := (mkF m 9 #[.val (.ref b), .val (.int (Int32.ofNat o)), .val (.int (Int32.ofNat len)), .val (.ref s.heap.size), .unset, .unset] [.int (Int32.ofNat len), .int (Int32.ofNat 0), .ref s.heap.size, .int (Int32.ofNat o), .ref b])) rfl (by rw [hml]; rfl) c5 (argsL := [.ref b, .int (Int32.ofNat o), .ref s.heap.size, .int (Int32.ofNat 0), .int (Int32.ofNat len)]) (rest := []) rfl rfl (by show 2 * 0 + 0 ≤ _; decide) (hb hbytes d9) (⟨rfl, hA3, ba3, hne, l1, by rw [bs3]; simp, hp⟩)
  obtain ⟨rfl, B6, p6, f6⟩ := E6
  have c7 : Steps p.tables e below (s₁.setTop (entryFrame m #[.ref b, .int (Int32.ofNat o), .int (Int32.ofNat len)] 6)) (T6.setTop (mkF m 12 #[.val (.ref b), .val (.int (Int32.ofNat o)), .val (.int (Int32.ofNat len)), .val (.ref s.heap.size), .unset, .unset] [.int (Int32.ofNat len)])) := g6
  have c8 : Steps p.tables e below (s₁.setTop (entryFrame m #[.ref b, .int (Int32.ofNat o), .int (Int32.ofNat len)] 6)) (T6.setTop (mkF m 58 #[.val (.ref b), .val (.int (Int32.ofNat o)), .val (.int (Int32.ofNat len)), .val (.ref s.heap.size), .val (.int (Int32.ofNat len)), .unset] [.ref s.heap.size])) := c7.trans (by
    refine XS.istore X6.here hexec rfl (hb hbytes d12) rfl rfl ?_
    refine XS.iload X6.here hexec rfl (hb hbytes d14) rfl ?_
    refine XS.iloadN X6.here hexec rfl (hb hbytes d16) rfl ?_
    refine XS.icmpYes X6.here hexec rfl (pc0 := 17) rfl (hb hbytes d17) rfl (ii_eq_t rfl) (by decide) rfl ?_
    refine XS.aloadN X6.here hexec rfl (hb hbytes d57) rfl rfl ?_
    exact Steps.refl _)
  have X8 := X6.wide (L' := []) (cells' := 1) (slots' := len) (fun x hx hlt => by
    simp only [List.nil_append, copyLocs, List.mem_map, List.mem_range] at hx
    obtain ⟨i, -, rfl⟩ := hx
    exact absurd hlt (Nat.lt_irrefl _)) (Nat.le_refl _) (by omega)
  exact ⟨T6, some (.ref s.heap.size), _, _, _, X8, rfl, rfl, rfl, (fun h => by cases h), ⟨⟨rfl, B6, ba3.like (X3.warmed.alike.symm.trans X6.warmed.alike) p6.1 f6.1 f6.2.1 f6.2.2.1, f6.2.1.trans bv3, by rw [X6.warmed.alike.findClass, f6.1]; exact bf3, by rw [f6.2.2.1, bs3]; simp, fun j hj => by rw [f6.2.2.2 j, if_pos (by omega)]; rfl, kp3.put p6 (Nat.le_refl _)⟩, by rw [p6.2.2, bh3, hh0]; simp⟩, fun fs hl => c8.trans (X8.areturnOut hexec rfl hret rfl (hb hbytes d58) hl)⟩
end Cmp3
namespace CodL
def yN : MethodName := ⟨"java/lang/StringUTF16", "coderFromArrayLen", "([BI)B"⟩
abbrev yB : ByteArray := jdk_52_method_15_code
theorem d0 : decode yB 0 = .ok (.iload_n 1, 1) := by decide +kernel
theorem d1 : decode yB 1 = .ok (.aload_n 0, 1) := by decide +kernel
theorem d2 : decode yB 2 = .ok (.arraylength, 1) := by decide +kernel
theorem d3 : decode yB 3 = .ok (.isub, 1) := by decide +kernel
theorem d4 : decode yB 4 = .ok (.bipush 31, 2) := by decide +kernel
theorem d6 : decode yB 6 = .ok (.iushr, 1) := by decide +kernel
theorem d7 : decode yB 7 = .ok (.i2b, 1) := by decide +kernel
theorem d8 : decode yB 8 = .ok (.ireturn, 1) := by decide +kernel
def site : List Cond := []
def tab : Cond := tabOf yN yB 2 (some .byte) site
def P (d : Addr) (B : Cell) (args : Array Value) (s : State) : Prop := args = #[.ref d, .int (Int32.ofNat B.slots.size)] ∧ Arr .byte d B s
def E (r : Option Value) (s u : State) : Prop := XT.PureE (some (.int 0)) r s u
/-- an array as long as the number of chars: LATIN1 -/
theorem law (l : Launch) (d : Addr) (B : Cell) : Law l yN 2 2 0 0 yB 2 (some .byte) site (P d B) E [] 0 0 := by
  refine Law.of_walk (plainFor_of_name (by decide +kernel)) (by decide +kernel) (by decide +kernel) (by decide) (fun _ _ h => by rw [h.1]; rfl) (fun _ U U' hal hh h => ⟨h.1, h.2.mv hal hh⟩) (fun r U U' V V' h1 hal h2 h => XT.PureE.mv r U U' V V' h1 hal h2 h) ?_
  intro p e s m args below meth c s₁ X0 hexec hbytes hml hret hlk hnm hown hh0 W hP
  obtain ⟨rfl, hB⟩ := hP
  have hB0 := hB.mv X0.warmed.alike hh0
  have c1 : Steps p.tables e below (s₁.setTop (entryFrame m #[.ref d, .int (Int32.ofNat B.slots.size)] 2)) (s₁.setTop (mkF m 0 #[.val (.ref d), .val (.int (Int32.ofNat B.slots.size))] [])) := entry rfl
  have c2 : Steps p.tables e below (s₁.setTop (entryFrame m #[.ref d, .int (Int32.ofNat B.slots.size)] 2)) (s₁.setTop (mkF m 2 #[.val (.ref d), .val (.int (Int32.ofNat B.slots.size))] [.ref d, .int (Int32.ofNat B.slots.size)])) := c1.trans (by
    refine XS.iloadN X0.here hexec rfl (hb hbytes d0) rfl ?_
    refine XS.aloadN X0.here hexec rfl (hb hbytes d1) rfl rfl ?_
    exact Steps.refl _)
  have c3 : Steps p.tables e below (s₁.setTop (entryFrame m #[.ref d, .int (Int32.ofNat B.slots.size)] 2)) (s₁.setTop (mkF m 8 #[.val (.ref d), .val (.int (Int32.ofNat B.slots.size))] [.int (lo8 (ushr (Int32.ofNat B.slots.size - Int32.ofNat B.slots.size) 31))])) := c2.trans (by
    refine X0.alen hexec hB0 rfl rfl (hb hbytes d2) ?_
    refine XS.isub X0.here hexec rfl (hb hbytes d3) rfl ?_
    refine bipushV X0.here hexec rfl 31 (hb hbytes d4) (by decide) ?_
    refine iushr X0.here hexec rfl (hb hbytes d6) rfl ?_
    refine i2b X0.here hexec rfl (hb hbytes d7) rfl ?_
    exact Steps.refl _)
  have e0 : lo8 (ushr (Int32.ofNat B.slots.size - Int32.ofNat B.slots.size) 31) = 0 := by rw [Int32.sub_self]; decide
  rw [e0] at c3
  exact ⟨s₁, some (.int 0), _, _, _, X0, rfl, rfl, rfl, (fun h => by cases h), ⟨rfl, hh0⟩, fun fs hl => c3.trans (X0.ireturnOut hexec hret rfl (Or.inr (Or.inr (Or.inl rfl))) (hb hbytes d8) hl)⟩
end CodL
/-- the String at a is Latin-1 over a new byte[] (the heap's one new cell): the low bytes of the len chars of A from o on; every cell but a is kept -/
def Got (a : Addr) (D : Cell) (fV fC : Field) (A : Cell) (o len : Nat) (r : Option Value) (s u : State) : Prop := r = none ∧ ∃ D' V : Cell, Blank "java/lang/String" a D' u ∧ Same D D' [fV.slot, fC.slot] ∧ D'.slots[fV.slot]? = some (.ref s.heap.size) ∧ D'.slots[fC.slot]? = some (.int 0) ∧ Arr .byte s.heap.size V u ∧ V.vm = .none ∧ u.vm.findClass "[B" = some V.cls ∧ V.slots.size = len ∧ (∀ j, j < len → V.slots[j]? = some (.int (lo8 (cv A (o + j))))) ∧ (∀ (y : Addr) (c : Cell), y ≠ a → s.heap[y]? = some c → u.heap[y]? = some c) ∧ u.heap.size = s.heap.size + 1
theorem Got.mv {a : Addr} {D A : Cell} {fV fC : Field} {o len : Nat} : ∀ r (U U' V V' : State), U'.heap = U.heap → V.vm.Alike V'.vm → V'.heap = V.heap → Got a D fV fC A o len r U V → Got a D fV fC A o len r U' V' :=
  fun r U U' V V' h1 hal h2 ⟨e0, D', X, a1, a2, a3, a4, a5, a6, a7, a8, a9, a10, a11⟩ => ⟨e0, D', X, a1.mv hal h2, a2, by rw [h1]; exact a3, a4, by rw [h1]; exact a5.mv hal h2, a6, by rw [hal.findClass]; exact a7, a8, a9, by rw [h1, h2]; exact a10, by rw [h1, h2]; exact a11⟩
namespace New4
def yN : MethodName := ⟨"java/lang/String", "<init>", "([CIILjava/lang/Void;)V"⟩
abbrev yB : ByteArray := jdk_42_method_149_code
theorem d0 : decode yB 0 = .ok (.aload_n 0, 1) := by decide +kernel
theorem d1 : decode yB 1 = .ok (.invokespecial 1, 3) := by decide +kernel
theorem d4 : decode yB 4 = .ok (.iload_n 3, 1) := by decide +kernel
theorem d5 : decode yB 5 = .ok (.ifCond (.ne) 22, 3) := by decide +kernel
theorem d27 : decode yB 27 = .ok (.getstatic 38, 3) := by decide +kernel
theorem d30 : decode yB 30 = .ok (.ifCond (.eq) 28, 3) := by decide +kernel
theorem d33 : decode yB 33 = .ok (.aload_n 1, 1) := by decide +kernel
theorem d34 : decode yB 34 = .ok (.iload_n 2, 1) := by decide +kernel
theorem d35 : decode yB 35 = .ok (.iload_n 3, 1) := by decide +kernel
theorem d36 : decode yB 36 = .ok (.invokestatic 177, 3) := by decide +kernel
theorem d39 : decode yB 39 = .ok (.astore 5, 2) := by decide +kernel
theorem d41 : decode yB 41 = .ok (.aload_n 0, 1) := by decide +kernel
theorem d42 : decode yB 42 = .ok (.aload 5, 2) := by decide +kernel
theorem d44 : decode yB 44 = .ok (.iload_n 3, 1) := by decide +kernel
theorem d45 : decode yB 45 = .ok (.invokestatic 47, 3) := by decide +kernel
theorem d48 : decode yB 48 = .ok (.putfield 15, 3) := by decide +kernel
theorem d51 : decode yB 51 = .ok (.aload_n 0, 1) := by decide +kernel
theorem d52 : decode yB 52 = .ok (.aload 5, 2) := by decide +kernel
theorem d54 : decode yB 54 = .ok (.putfield 9, 3) := by decide +kernel
theorem d57 : decode yB 57 = .ok (.return_, 1) := by decide +kernel
def site : List Cond := [.fieldLink "java/lang/String" 38 "java/lang/String" "COMPACT_STRINGS" "Z", Cmp3.tab, CodL.tab, .laysFinal "java/lang/String" "java/lang/String" "value" "[B", .fieldLink "java/lang/String" 9 "java/lang/String" "value" "[B", .laysFinal "java/lang/String" "java/lang/String" "coder" "B", .fieldLink "java/lang/String" 15 "java/lang/String" "coder" "B"] ++ objW "java/lang/String" 1 ++ staticW "java/lang/String" 177 Cmp3.yN ++ staticW "java/lang/String" 47 CodL.yN
def tab : Cond := tabOf yN yB 6 none site
def P (a : Addr) (D : Cell) (fV fC : Field) (b : Addr) (A : Cell) (z : Int32) (o len : Nat) (args : Array Value) (s : State) : Prop := args = #[.ref a, .ref b, .int (Int32.ofNat o), .int (Int32.ofNat len), .null] ∧ Blank "java/lang/String" a D s ∧ Found "java/lang/String" "value" "[B" fV s ∧ Found "java/lang/String" "coder" "B" fC s ∧ Ch b A s ∧ StaticIs s "java/lang/String" "COMPACT_STRINGS" "Z" (.int z) ∧ ¬ z = 0 ∧ 0 < len ∧ o + len ≤ A.slots.size ∧ len ≤ 536870912 ∧ ∀ i, i < len → ¬ 255 < cv A (o + i)
def E (a : Addr) (D : Cell) (fV fC : Field) (A : Cell) (o len : Nat) (r : Option Value) (s u : State) : Prop := Got a D fV fC A o len r s u
/-- len > 0, no char of the range above 255: a Latin-1 String of their low bytes -/
theorem law (l : Launch) (a : Addr) (D : Cell) (fV fC : Field) (b : Addr) (A : Cell) (z : Int32) (o len : Nat) : Law l yN 5 4 2 35 yB 6 none site (P a D fV fC b A z o len) (E a D fV fC A o len) [⟨a, fC.slot⟩, ⟨a, fV.slot⟩] 1 len := by
  refine Law.of_walk (plainFor_of_name (by decide +kernel)) (by decide +kernel) (by decide +kernel) (by decide) (fun _ _ h => by rw [h.1]; rfl) (fun _ U U' hal hh h => ⟨h.1, h.2.1.mv hal hh, h.2.2.1.al hal, h.2.2.2.1.al hal, h.2.2.2.2.1.mv hal hh, h.2.2.2.2.2.1.there hal hh, h.2.2.2.2.2.2⟩) (fun r U U' V V' h1 hal h2 h => Got.mv r U U' V V' h1 hal h2 h) ?_
  intro p e s m args below meth c s₁ X0 hexec hbytes hml hret hlk hnm hown hh0 W hP
  obtain ⟨rfl, hB, f1, f2, hA, s1, hz, l0, l1, l2, hp⟩ := hP
  have a31 := hA.1.2.2.2
  have c1 : Steps p.tables e below (s₁.setTop (entryFrame m #[.ref a, .ref b, .int (Int32.ofNat o), .int (Int32.ofNat len), .null] 6)) (s₁.setTop (mkF m 0 #[.val (.ref a), .val (.ref b), .val (.int (Int32.ofNat o)), .val (.int (Int32.ofNat len)), .val .null, .unset] [])) := entry rfl
  have c2 : Steps p.tables e below (s₁.setTop (entryFrame m #[.ref a, .ref b, .int (Int32.ofNat o), .int (Int32.ofNat len), .null] 6)) (s₁.setTop (mkF m 1 #[.val (.ref a), .val (.ref b), .val (.int (Int32.ofNat o)), .val (.int (Int32.ofNat len)), .val .null, .unset] [.ref a])) := c1.trans (by
    refine XS.aloadN X0.here hexec rfl (hb hbytes d0) rfl rfl ?_
    exact Steps.refl _)
  obtain ⟨T3, X3, q3, st3⟩ := X0.oinit hexec hown (wks W (objW "java/lang/String" 1)) (g := (mkF m 1 #[.val (.ref a), .val (.ref b), .val (.int (Int32.ofNat o)), .val (.int (Int32.ofNat len)), .val .null, .unset] [.ref a])) rfl (by rw [hml]; rfl) (rest := []) rfl (hb hbytes d1) (W := 0) (by show 2 * 0 + 0 ≤ _; decide) (Nat.le_of_ble_eq_true rfl) (Nat.le_of_ble_eq_true rfl)
  have hh3 := q3.trans hh0
  have c4 : Steps p.tables e below (s₁.setTop (entryFrame m #[.ref a, .ref b, .int (Int32.ofNat o), .int (Int32.ofNat len), .null] 6)) (T3.setTop (mkF m 27 #[.val (.ref a), .val (.ref b), .val (.int (Int32.ofNat o)), .val (.int (Int32.ofNat len)), .val .null, .unset] [])) := (c2.trans (st3 _ (Steps.refl _))).trans (by
    refine XS.iloadN X3.here hexec rfl (hb hbytes d4) rfl ?_
    refine XS.ifYes X3.here hexec rfl (pc0 := 5) rfl (hb hbytes d5) rfl (i0_ne_t (nz32 (by omega) l0)) (by decide) rfl ?_
    exact Steps.refl _)
  obtain ⟨T5, X5, q5, st5⟩ := X3.sget hexec hown (wk W (.fieldLink "java/lang/String" 38 "java/lang/String" "COMPACT_STRINGS" "Z")) s1 (fun _ _ h => by rw [hh3]; exact h) (g := (mkF m 27 #[.val (.ref a), .val (.ref b), .val (.int (Int32.ofNat o)), .val (.int (Int32.ofNat len)), .val .null, .unset] [])) rfl (hb hbytes d27)
  have hh5 := q5.trans hh3
  have c6 : Steps p.tables e below (s₁.setTop (entryFrame m #[.ref a, .ref b, .int (Int32.ofNat o), .int (Int32.ofNat len), .null] 6)) (T5.setTop (mkF m 30 #[.val (.ref a), .val (.ref b), .val (.int (Int32.ofNat o)), .val (.int (Int32.ofNat len)), .val .null, .unset] [.int z])) := c4.trans (st5 _ (Steps.refl _))
  have c7 : Steps p.tables e below (s₁.setTop (entryFrame m #[.ref a, .ref b, .int (Int32.ofNat o), .int (Int32.ofNat len), .null] 6)) (T5.setTop (mkF m 36 #[.val (.ref a), .val (.ref b), .val (.int (Int32.ofNat o)), .val (.int (Int32.ofNat len)), .val .null, .unset] [.int (Int32.ofNat len), .int (Int32.ofNat o), .ref b])) := c6.trans (by
    refine XS.ifNo X5.here hexec rfl (hb hbytes d30) rfl (i0_eq_f hz) ?_
    refine XS.aloadN X5.here hexec rfl (hb hbytes d33) rfl rfl ?_
    refine XS.iloadN X5.here hexec rfl (hb hbytes d34) rfl ?_
    refine XS.iloadN X5.here hexec rfl (hb hbytes d35) rfl ?_
    exact Steps.refl _)
  obtain ⟨v8, T8, X8, E8, g8⟩ := X5.callS hexec (Cmp3.law l b A o len) hown (wks W (staticW "java/lang/String" 177 Cmp3.yN)) (wk W Cmp3.tab) (W := 0) (Nat.le_of_ble_eq_true rfl) (Nat.le_of_ble_eq_true rfl) (Nat.le_refl _) (by show 0 + len ≤ len; omega) (g := (mkF m 36 #[.val (.ref a), .val (.ref b), .val (.int (Int32.ofNat o)), .val (.int (Int32.ofNat len)), .val .null, .unset] [.int (Int32.ofNat len), .int (Int32.ofNat o), .ref b])) rfl (by rw [hml]; rfl) c7 (argsL := [.ref b, .int (Int32.ofNat o), .int (Int32.ofNat len)]) (rest := []) rfl rfl (by show 2 * 0 + 0 ≤ _; decide) (hb hbytes d36) (⟨rfl, hA.mv X5.warmed.alike hh5, l1, l2, hp⟩)
  obtain ⟨e8, z8⟩ := E8
  obtain ⟨rfl, N, n1, n2, n3, n4, n5, n6⟩ := NewArr.mv _ T5 s _ _ hh5.symm (Vm.Alike.refl _) rfl e8
  rw [hh5] at z8
  have hB1 := hB.keep X8.warmed.alike (n6 _ _ hB.1)
  have hne : s.heap.size ≠ a := (Nat.ne_of_lt (Array.getElem?_eq_some_iff.mp hB.1).1).symm
  have c9 : Steps p.tables e below (s₁.setTop (entryFrame m #[.ref a, .ref b, .int (Int32.ofNat o), .int (Int32.ofNat len), .null] 6)) (T8.setTop (mkF m 39 #[.val (.ref a), .val (.ref b), .val (.int (Int32.ofNat o)), .val (.int (Int32.ofNat len)), .val .null, .unset] [.ref s.heap.size])) := g8
  have c10 : Steps p.tables e below (s₁.setTop (entryFrame m #[.ref a, .ref b, .int (Int32.ofNat o), .int (Int32.ofNat len), .null] 6)) (T8.setTop (mkF m 45 #[.val (.ref a), .val (.ref b), .val (.int (Int32.ofNat o)), .val (.int (Int32.ofNat len)), .val .null, .val (.ref s.heap.size)] [.int (Int32.ofNat N.slots.size), .ref s.heap.size, .ref a])) := by
    have hc : Steps p.tables e below (s₁.setTop (entryFrame m #[.ref a, .ref b, .int (Int32.ofNat o), .int (Int32.ofNat len), .null] 6)) (T8.setTop (mkF m 45 #[.val (.ref a), .val (.ref b), .val (.int (Int32.ofNat o)), .val (.int (Int32.ofNat len)), .val .null, .val (.ref s.heap.size)] [.int (Int32.ofNat len), .ref s.heap.size, .ref a])) := c9.trans (by
      refine XS.astore X8.here hexec rfl (hb hbytes d39) rfl rfl rfl ?_
      refine XS.aloadN X8.here hexec rfl (hb hbytes d41) rfl rfl ?_
      refine XS.aload X8.here hexec rfl (hb hbytes d42) rfl rfl ?_
      refine XS.iloadN X8.here hexec rfl (hb hbytes d44) rfl ?_
      exact Steps.refl _)
    rw [n4]; exact hc
  obtain ⟨v11, T11, X11, E11, g11⟩ := X8.callS hexec (CodL.law l s.heap.size N) hown (wks W (staticW "java/lang/String" 47 CodL.yN)) (wk W CodL.tab) (W := 1) (Nat.le_of_ble_eq_true rfl) (Nat.le_of_ble_eq_true rfl) (Nat.le_refl _) (by show 0 + len + 0 ≤ len; omega) (g := (mkF m 45 #[.val (.ref a), .val (.ref b), .val (.int (Int32.ofNat o)), .val (.int (Int32.ofNat len)), .val .null, .val (.ref s.heap.size)] [.int (Int32.ofNat N.slots.size), .ref s.heap.size, .ref a])) rfl (by rw [hml]; rfl) c10 (argsL := [.ref s.heap.size, .int (Int32.ofNat N.slots.size)]) (rest := [.ref a]) rfl rfl (by show 2 * 0 + (1 + 0) ≤ _; decide) (hb hbytes d45) (⟨rfl, n1⟩)
  obtain ⟨rfl, q11⟩ := E11
  have hB11 := hB1.mv (X8.warmed.alike.symm.trans X11.warmed.alike) q11
  have c12 : Steps p.tables e below (s₁.setTop (entryFrame m #[.ref a, .ref b, .int (Int32.ofNat o), .int (Int32.ofNat len), .null] 6)) (T11.setTop (mkF m 48 #[.val (.ref a), .val (.ref b), .val (.int (Int32.ofNat o)), .val (.int (Int32.ofNat len)), .val .null, .val (.ref s.heap.size)] [.int 0, .ref a])) := g11
  obtain ⟨T13, X13, p13, bl13, sl13, st13⟩ := X11.finit hexec hown (wk W (.fieldLink "java/lang/String" 15 "java/lang/String" "coder" "B")) (Or.inr ⟨_, (wk W (.laysFinal "java/lang/String" "java/lang/String" "coder" "B"))⟩) (Or.inl ⟨rfl, hnm⟩) f2 (Or.inl rfl) hB11 (t := .byte) (by decide +kernel) rfl (g := (mkF m 48 #[.val (.ref a), .val (.ref b), .val (.int (Int32.ofNat o)), .val (.int (Int32.ofNat len)), .val .null, .val (.ref s.heap.size)] [.int 0, .ref a])) rfl (rest := []) rfl (hb hbytes d48)
  have c14 : Steps p.tables e below (s₁.setTop (entryFrame m #[.ref a, .ref b, .int (Int32.ofNat o), .int (Int32.ofNat len), .null] 6)) (T13.setTop (mkF m 54 #[.val (.ref a), .val (.ref b), .val (.int (Int32.ofNat o)), .val (.int (Int32.ofNat len)), .val .null, .val (.ref s.heap.size)] [.ref s.heap.size, .ref a])) := (c12.trans (st13 _ (Steps.refl _))).trans (by
    refine XS.aloadN X13.here hexec rfl (hb hbytes d51) rfl rfl ?_
    refine XS.aload X13.here hexec rfl (hb hbytes d52) rfl rfl ?_
    exact Steps.refl _)
  obtain ⟨T15, X15, p15, bl15, sl15, st15⟩ := X13.finit hexec hown (wk W (.fieldLink "java/lang/String" 9 "java/lang/String" "value" "[B")) (Or.inr ⟨_, (wk W (.laysFinal "java/lang/String" "java/lang/String" "value" "[B"))⟩) (Or.inl ⟨rfl, hnm⟩) f1 (Or.inl rfl) bl13 (t := (.array .byte)) (by decide +kernel) rfl (g := (mkF m 54 #[.val (.ref a), .val (.ref b), .val (.int (Int32.ofNat o)), .val (.int (Int32.ofNat len)), .val .null, .val (.ref s.heap.size)] [.ref s.heap.size, .ref a])) rfl (rest := []) rfl (hb hbytes d54)
  have c16 : Steps p.tables e below (s₁.setTop (entryFrame m #[.ref a, .ref b, .int (Int32.ofNat o), .int (Int32.ofNat len), .null] 6)) (T15.setTop (mkF m 57 #[.val (.ref a), .val (.ref b), .val (.int (Int32.ofNat o)), .val (.int (Int32.ofNat len)), .val .null, .val (.ref s.heap.size)] [])) := c14.trans (st15 _ (Steps.refl _))
  have ap := apart (Or.inr ⟨_, (wk W (.laysFinal "java/lang/String" "java/lang/String" "value" "[B"))⟩) (Or.inr ⟨_, (wk W (.laysFinal "java/lang/String" "java/lang/String" "coder" "B"))⟩) f1 f2 (t₁ := .array .byte) (t₂ := .byte) (by decide +kernel) (by decide +kernel) (by decide)
  have al := X8.warmed.alike.symm.trans X15.warmed.alike
  have n7 : T11.heap[s.heap.size]? = some N := by rw [q11]; exact n1.1
  exact ⟨T15, none, _, _, _, X15, by simp, rfl, by omega, (fun _ => rfl), ⟨rfl, _, N, bl15, ((Same.refl D _).set _ (by simp)).set _ (by simp), sl15, (Cell.slots_setSlot_ne _ ap).trans sl13, n1.keep al (p15.other hne (p13.other hne n7)), n2, by rw [al.findClass]; exact n3, n4, n5, fun y c h1 h2 => p15.other h1 (p13.other h1 (by rw [q11]; exact n6 y c h2)), by rw [p15.2.2, p13.2.2, q11]; exact z8⟩, fun fs hl => c16.trans (X15.returnOut hexec hret (hb hbytes d57) hl)⟩
end New4
namespace New1
def yN : MethodName := ⟨"java/lang/String", "<init>", "([C)V"⟩
abbrev yB : ByteArray := jdk_42_method_3_code
theorem d0 : decode yB 0 = .ok (.aload_n 0, 1) := by decide +kernel
theorem d1 : decode yB 1 = .ok (.aload_n 1, 1) := by decide +kernel
theorem d2 : decode yB 2 = .ok (.iconst 0, 1) := by decide +kernel
theorem d3 : decode yB 3 = .ok (.aload_n 1, 1) := by decide +kernel
theorem d4 : decode yB 4 = .ok (.arraylength, 1) := by decide +kernel
theorem d5 : decode yB 5 = .ok (.aconst_null, 1) := by decide +kernel
theorem d6 : decode yB 6 = .ok (.invokespecial 27, 3) := by decide +kernel
theorem d9 : decode yB 9 = .ok (.return_, 1) := by decide +kernel
def site : List Cond := [New4.tab] ++ initW "java/lang/String" 27 New4.yN
def tab : Cond := tabOf yN yB 2 none site
def P (a : Addr) (D : Cell) (fV fC : Field) (b : Addr) (A : Cell) (z : Int32) (args : Array Value) (s : State) : Prop := args = #[.ref a, .ref b] ∧ Blank "java/lang/String" a D s ∧ Found "java/lang/String" "value" "[B" fV s ∧ Found "java/lang/String" "coder" "B" fC s ∧ Ch b A s ∧ StaticIs s "java/lang/String" "COMPACT_STRINGS" "Z" (.int z) ∧ ¬ z = 0 ∧ 0 < A.slots.size ∧ A.slots.size ≤ 536870912 ∧ ∀ i, i < A.slots.size → ¬ 255 < cv A i
def E (a : Addr) (D : Cell) (fV fC : Field) (A : Cell) (r : Option Value) (s u : State) : Prop := Got a D fV fC A 0 A.slots.size r s u
/-- new String(chars), not empty, no char above 255: a Latin-1 String of their low bytes -/
theorem law (l : Launch) (a : Addr) (D : Cell) (fV fC : Field) (b : Addr) (A : Cell) (z : Int32) : Law l yN 2 1 3 52 yB 2 none site (P a D fV fC b A z) (E a D fV fC A) [⟨a, fC.slot⟩, ⟨a, fV.slot⟩] 1 A.slots.size := by
  refine Law.of_walk (plainFor_of_name (by decide +kernel)) (by decide +kernel) (by decide +kernel) (by decide) (fun _ _ h => by rw [h.1]; rfl) (fun _ U U' hal hh h => ⟨h.1, h.2.1.mv hal hh, h.2.2.1.al hal, h.2.2.2.1.al hal, h.2.2.2.2.1.mv hal hh, h.2.2.2.2.2.1.there hal hh, h.2.2.2.2.2.2⟩) (fun r U U' V V' h1 hal h2 h => Got.mv r U U' V V' h1 hal h2 h) ?_
  intro p e s m args below meth c s₁ X0 hexec hbytes hml hret hlk hnm hown hh0 W hP
  obtain ⟨rfl, hB, f1, f2, hA, s1, hz, l0, l2, hp⟩ := hP
  have c1 : Steps p.tables e below (s₁.setTop (entryFrame m #[.ref a, .ref b] 2)) (s₁.setTop (mkF m 0 #[.val (.ref a), .val (.ref b)] [])) := entry rfl
  have c2 : Steps p.tables e below (s₁.setTop (entryFrame m #[.ref a, .ref b] 2)) (s₁.setTop (mkF m 6 #[.val (.ref a), .val (.ref b)] [.null, .int (Int32.ofNat A.slots.size), .int 0, .ref b, .ref a])) := c1.trans (by
    refine XS.aloadN X0.here hexec rfl (hb hbytes d0) rfl rfl ?_
    refine XS.aloadN X0.here hexec rfl (hb hbytes d1) rfl rfl ?_
    refine iconstV X0.here hexec rfl 0 (hb hbytes d2) (by decide) ?_
    refine XS.aloadN X0.here hexec rfl (hb hbytes d3) rfl rfl ?_
    refine X0.alen hexec (hA.1.mv X0.warmed.alike hh0) rfl rfl (hb hbytes d4) ?_
    refine XS.aconstNull X0.here hexec rfl (hb hbytes d5) ?_
    exact Steps.refl _)
  obtain ⟨v3, T3, X3, E3, g3⟩ := X0.callN hexec (New4.law l a D fV fC b A z 0 A.slots.size) rfl hown (wks W (initW "java/lang/String" 27 New4.yN)) (W New4.tab (by simp only [site, List.mem_cons, List.mem_append, true_or, or_true])) (W := 0) (Nat.le_of_ble_eq_true rfl) (Nat.le_of_ble_eq_true rfl) (Nat.le_refl _) (by show 0 + A.slots.size ≤ A.slots.size; omega) (g := (mkF m 6 #[.val (.ref a), .val (.ref b)] [.null, .int (Int32.ofNat A.slots.size), .int (Int32.ofNat 0), .ref b, .ref a])) rfl (by rw [hml]; rfl) c2 (argsL := [.ref b, .int (Int32.ofNat 0), .int (Int32.ofNat A.slots.size), .null]) (rest := []) rfl rfl (by show 2 * 0 + 0 ≤ _; decide) (hb hbytes d6) (⟨rfl, hB.mv X0.warmed.alike hh0, f1.al X0.warmed.alike, f2.al X0.warmed.alike, hA.mv X0.warmed.alike hh0, s1.there X0.warmed.alike hh0, hz, l0, by omega, l2, fun i hi => by rw [Nat.zero_add]; exact hp i hi⟩)
  have e0 := Got.mv _ s₁ s _ _ hh0.symm (Vm.Alike.refl _) rfl E3
  obtain rfl := e0.1
  have c4 : Steps p.tables e below (s₁.setTop (entryFrame m #[.ref a, .ref b] 2)) (T3.setTop (mkF m 9 #[.val (.ref a), .val (.ref b)] [])) := g3
  exact ⟨T3, none, _, _, _, X3, by simp, rfl, by omega, (fun _ => rfl), e0, fun fs hl => c4.trans (X3.returnOut hexec hret (hb hbytes d9) hl)⟩
theorem pays {l : Launch} {R : Room} {p : Program} {e : Env} {below : List Frame} {s : State} {sargs : Array Value} {len W : Nat} (a : Addr) (D : Cell) (fV fC : Field) (b : Addr) (A : Cell) (z : Int32) (htab : tab.before sargs s = true) (hfr : 4 ≤ R.frames) (hlo : W + 65 ≤ R.locals) :
    Back l R p e below s sargs yN len W (fun A₁ a₁ => A₁.cells + 1 ≤ R.cells ∧ A₁.slots + A.slots.size ≤ R.slots ∧ P a D fV fC b A z a₁ A₁.U) (fun A₁ _ v₁ B₁ => E a D fV fC A v₁ A₁.U B₁.U ∧ B₁.locs = A₁.locs ++ [⟨a, fC.slot⟩, ⟨a, fV.slot⟩] ∧ B₁.cells = A₁.cells + 1 ∧ B₁.slots = A₁.slots + A.slots.size) :=
  (law l a D fV fC b A z).pays htab hfr (by omega)
end New1
end StrChars
namespace StrChars.Road
open Jvm Sem ClassFile Op Lib Jvm.Stand Jvm.Free Jvm.Free.XT
open Jvm.Lib.Cold (StaticIs)
abbrev ST : String := "java/lang/String"
/-- every table word that New1's law asks, flat -/
abbrev words : List Jvm.Cond := [.code New1.yN New1.yB 2 none, .initialized ST, .methodLink ST 27 New4.yN, .instanceMethod New4.yN,
  .code New4.yN New4.yB 6 none, .fieldLink ST 38 ST "COMPACT_STRINGS" "Z", .laysFinal ST ST "value" "[B", .fieldLink ST 9 ST "value" "[B", .laysFinal ST ST "coder" "B", .fieldLink ST 15 ST "coder" "B",
  .methodLink ST 1 Lib.objectInit, .instanceMethod Lib.objectInit, .code Lib.objectInit ⟨#[0xb1]⟩ 1 none, .methodLink ST 177 Cmp3.yN, .static Cmp3.yN, .methodLink ST 47 CodL.yN, .static CodL.yN,
  .code Cmp3.yN Cmp3.yB 6 (some (.array .byte)), .initialized U16, .arrayClass .byte, .methodLink U16 115 Cmp5.yN, .static Cmp5.yN, .code Cmp5.yN Cmp5.yB 7 (some .int), .code CodL.yN CodL.yB 2 (some .byte)]
theorem tab_of {a : Array Value} {s : State} (h : ∀ w ∈ words, w.before a s = true) : New1.tab.before a s = true := by
  have h5 : Cmp5.tab.before a s = true := unparts (wk h (.code Cmp5.yN Cmp5.yB 7 (some .int))) (wks h (.initialized Cmp5.yN.cls :: Cmp5.site))
  have hc : CodL.tab.before a s = true := unparts (wk h (.code CodL.yN CodL.yB 2 (some .byte))) (wks h (.initialized CodL.yN.cls :: CodL.site))
  have q5 : ∀ w ∈ Cmp5.tab :: words, w.before a s = true := fun w hw => (List.mem_cons.mp hw).elim (fun e => e ▸ h5) (h w)
  have h3 : Cmp3.tab.before a s = true := unparts (wk q5 (.code Cmp3.yN Cmp3.yB 6 (some (.array .byte)))) (wks q5 (.initialized Cmp3.yN.cls :: Cmp3.site))
  have q3 : ∀ w ∈ Cmp3.tab :: CodL.tab :: words, w.before a s = true := fun w hw => (List.mem_cons.mp hw).elim (fun e => e ▸ h3) fun hw => (List.mem_cons.mp hw).elim (fun e => e ▸ hc) (h w)
  have h4 : New4.tab.before a s = true := unparts (wk q3 (.code New4.yN New4.yB 6 none)) (wks q3 (.initialized New4.yN.cls :: New4.site))
  have q4 : ∀ w ∈ New4.tab :: words, w.before a s = true := fun w hw => (List.mem_cons.mp hw).elim (fun e => e ▸ h4) (h w)
  exact unparts (wk q4 (.code New1.yN New1.yB 2 none)) (wks q4 (.initialized New1.yN.cls :: New1.site))
/-- the words ride from the start Z to the walk's own state -/
theorem moved {Z s : State} {a0 args : Array Value} (hZ : Z.Warmed39 s.vm) (hw : ∀ d ∈ words, d.before a0 Z = true) : ∀ d ∈ words, d.before args s = true := fun d hd => by
  have q := hw d hd
  have t : ∀ d ∈ words, d = .arrayClass .byte ∨ (d.onTables && d.keepsFace) = true := by decide +kernel
  rcases t d hd with rfl | t
  · exact RoadKit.mvA hZ q
  · exact RoadKit.mv hZ q t
/-- WHAT COMES BACK, over the tables of the start Z: h the heap at the call, h' behind it -/
def Q (Z : State) (x : Addr) (A : Cell) (h : Heap) (v : Option Value) (h' : Heap) (L : List Loc) : Prop := v = none ∧ (∀ y ∈ L, y.base = x) ∧ RoadKit.Keep h h' [x] ∧ h'.size = h.size + 1 ∧ RoadKit.Exa Z h' x ST ∧ RoadKit.Fld Z h' x ST "value" "[B" (.ref h.size) ∧ RoadKit.Fld Z h' x ST "coder" "B" (.int 0) ∧
  (∃ V : Cell, RoadKit.Arr Z h' h.size V .byte ∧ V.vm = .none ∧ Z.vm.findClass "[B" = some V.cls ∧ V.slots.size = A.slots.size ∧ ∀ j, j < A.slots.size → V.slots[j]? = some (.int (lo8 (cv A j)))) ∧
  ∀ (O n d : String) (w : Value), RoadKit.Fld Z h x O n d w → RoadKit.slotOf Z O n d ≠ RoadKit.slotOf Z ST "value" "[B" → RoadKit.slotOf Z O n d ≠ RoadKit.slotOf Z ST "coder" "B" → RoadKit.Fld Z h' x O n d w
/-- **new String(chars) AT A CALL, IN THE ROAD'S FORM**: for specialBack behind newO: x the fresh String, b the char[] with the cell A -/
theorem back {p : Program} {l : Launch} {e : Env} {R : Room} {s : State} {args : Array Value} {below : List Frame} {len W : Nat} {Z : State} {a0 : Array Value} {h : Heap} (hZ : Z.Warmed39 s.vm) (hw : ∀ d ∈ words, d.before a0 Z = true) {kI : Nat} (wi : (Jvm.Cond.instantiable ST kI).before a0 Z = true)
    {x b : Addr} {A : Cell} {z : Int32} {v0 c0 : Value} (E : RoadKit.Exa Z h x ST) (V : RoadKit.Fld Z h x ST "value" "[B" v0) (C : RoadKit.Fld Z h x ST "coder" "B" c0) (K : RoadKit.Arr Z h b A .char) (hty : Typed .char A) (S : RoadKit.Sta Z h ST "COMPACT_STRINGS" "Z" (.int z)) (hz : ¬ z = 0)
    (l0 : 0 < A.slots.size) (l2 : A.slots.size ≤ 536870912) (hp : ∀ i, i < A.slots.size → ¬ 255 < cv A i) (hfr : 4 ≤ R.frames) (hlo : W + 65 ≤ R.locals) :
    Back l R p e below s args New1.yN len W (fun P a => a = #[.ref x, .ref b] ∧ P.U.heap = h ∧ P.cells + 1 ≤ R.cells ∧ P.slots + A.slots.size ≤ R.slots)
      (fun P _ v B => ∃ L, Q Z x A h v B.U.heap L ∧ B.locs = P.locs ++ L ∧ B.cells = P.cells + 1 ∧ B.slots = P.slots + A.slots.size) := by
  intro m meth c P g ig mk a X hg hsize hdg hW hn hp'
  obtain ⟨rfl, rfl, r1, r2⟩ := hp'
  have al : Z.vm.Alike P.U.vm := hZ.alike.trans X.warmed.alike
  obtain ⟨D, cfV, kV, iV, fV, hD, gV, stV, knV, obV, asV, slV⟩ := id V
  obtain ⟨D', cfC, kC, iC, fC, hD', gC, stC, -, -, asC, slC⟩ := id C
  cases hD.symm.trans hD'
  obtain ⟨D2, kD, e1, e2, e3, e4, e5⟩ := id E
  cases hD.symm.trans e1
  obtain ⟨c2, k2, i1, i2, i3, -⟩ := Cond.instantiable_spec wi
  cases e2.symm.trans i1
  cases e3.symm.trans i2
  obtain ⟨kU, u1, u2⟩ := al.2.2 _ _ e3
  have hB : Blank ST x D P.U := ⟨hD, ⟨knV, fun q hq => by rw [hq] at obV; cases obV⟩, by rw [al.findClass]; exact e2, kU, u1, by rw [u2]; exact i3, by rw [u2]; exact e5 i3⟩
  have F1 : Found ST "value" "[B" fV P.U := ⟨SBG.found_only al ⟨cfV, kV, iV, gV⟩, stV⟩
  have F2 : Found ST "coder" "B" fC P.U := ⟨SBG.found_only al ⟨cfC, kC, iC, gC⟩, stC⟩
  have hA : Ch b A P.U := ⟨⟨K.1, State.isArrayOf_alike al K.2.1, K.2.2, by omega⟩, hty⟩
  have hS : StaticIs P.U ST "COMPACT_STRINGS" "Z" (.int z) := by
    obtain ⟨cfS, iS, kS, fS, st, cS, t1, t2, t3, t4, t5, t6, t7⟩ := S
    exact StaticIs.there (s := { Z with heap := P.U.heap }) ⟨cfS, iS, kS, fS, st, cS, t1, t2, t3, t4, t5, (fun q => by rw [q] at t6; cases t6), t7⟩ al rfl
  obtain ⟨v, B, X', ⟨⟨hv, E', V', q1, q2, q3, q4, q5, q6, q7, q8, q9, q10, q11⟩, hl, hc, hs⟩, st⟩ := New1.pays x D fV fC b A z (tab_of (moved hZ hw)) hfr hlo m meth c P g ig mk _ X hg hsize hdg hW hn ⟨r1, r2, rfl, hB, F1, F2, hA, hS, hz, l0, l2, hp⟩
  have al' : Z.vm.Alike B.U.vm := hZ.alike.trans X'.warmed.alike
  have hsz : E'.slots.size = D.slots.size := by
    obtain ⟨-, -, -, kB, w1, w2, w3⟩ := q1
    obtain ⟨kB', y1, y2⟩ := al'.2.2 _ _ e3
    rw [q2.2.1] at w1
    cases w1.symm.trans y1
    rw [w3, e5 i3, y2]
  refine ⟨v, B, X', ⟨_, ⟨hv, ?_, ⟨by omega, fun y cy hy hn' => q10 y cy (by simpa using hn') hy, fun y cy hy => ?_⟩, q11, ⟨E', _, q1.1, by rw [q2.2.1]; exact e2, by rw [q2.2.1]; exact e3, by rw [q2.1]; exact obV, fun _ => by rw [hsz]; exact e5 i3⟩,
    ⟨E', cfV, kV, iV, fV, q1.1, gV, stV, by rw [q2.1]; exact knV, by rw [q2.1]; exact obV, by rw [q2.2.1]; exact asV, q3⟩, ⟨E', cfC, kC, iC, fC, q1.1, gC, stC, by rw [q2.1]; exact knV, by rw [q2.1]; exact obV, by rw [q2.2.1]; exact asC, q4⟩,
    ⟨V', ⟨q5.1, State.isArrayOf_alike al'.symm q5.2.1, q5.2.2.1⟩, q6, by rw [← al'.findClass]; exact q7, q8, fun j hj => by have := q9 j hj; rwa [Nat.zero_add] at this⟩, fun O n d w F n1 n2 => ?_⟩, hl, hc, hs⟩, st⟩
  · intro y hy
    simp only [List.mem_cons, List.not_mem_nil, or_false] at hy
    rcases hy with rfl | rfl <;> rfl
  · by_cases q : y = x
    · subst q
      cases hD.symm.trans hy
      exact ⟨E', q1.1, q2.2.1, q2.1, hsz⟩
    · exact ⟨cy, q10 y cy q hy, rfl, rfl, rfl⟩
  · obtain ⟨D3, cf, k, i, f, g1, g2, g3, g4, g5, g6, g7⟩ := F
    cases hD.symm.trans g1
    simp only [RoadKit.slotOf, g2, gV, gC, Option.map_some, Option.getD_some] at n1 n2
    exact ⟨E', cf, k, i, f, q1.1, g2, g3, by rw [q2.1]; exact g4, by rw [q2.1]; exact g5, by rw [q2.2.1]; exact g6, by rw [q2.2.2 f.slot (by simp [n1, n2])]; exact g7⟩
end StrChars.Road
namespace StrChars.Road
open Jvm Sem ClassFile Op Lib Jvm.Stand Jvm.Free Jvm.Free.XT
/-- WHAT COMES BACK, the byte[] as a list of values -/
def QA (Z : State) (x : Addr) (zn : Int32) (cs : List Int32) (h : Heap) (v : Option Value) (h' : Heap) (L : List Loc) : Prop := v = none ∧ (∀ y ∈ L, y.base = x) ∧ RoadKit.Keep h h' [x] ∧ h'.size = h.size + 1 ∧ RoadKit.Exa Z h' x ST ∧ RoadKit.Fld Z h' x ST "value" "[B" (.ref h.size) ∧ RoadKit.Fld Z h' x ST "coder" "B" (.int 0) ∧
  (∃ kb, Z.vm.findClass "[B" = some kb ∧ RoadKit.Arv Z h' h.size kb .byte zn (cs.map fun c => .int (lo8 c)) (.int 0)) ∧
  ∀ (O n d : String) (w : Value), RoadKit.Fld Z h x O n d w → RoadKit.slotOf Z O n d ≠ RoadKit.slotOf Z ST "value" "[B" → RoadKit.slotOf Z O n d ≠ RoadKit.slotOf Z ST "coder" "B" → RoadKit.Fld Z h' x O n d w
/-- **new String(chars) AT A CALL, THE ARRAYS AS LISTS**: the char[] at b holds cs, not empty, no char above 255 -/
theorem backArv {p : Program} {l : Launch} {e : Env} {R : Room} {s : State} {args : Array Value} {below : List Frame} {len W : Nat} {Z : State} {a0 : Array Value} {h : Heap} (hZ : Z.Warmed39 s.vm) (hw : ∀ d ∈ words, d.before a0 Z = true) {kI : Nat} (wi : (Jvm.Cond.instantiable ST kI).before a0 Z = true)
    {x b : Addr} {k : ClassId} {zn z : Int32} {cs : List Int32} {dv v0 c0 : Value} (E : RoadKit.Exa Z h x ST) (V : RoadKit.Fld Z h x ST "value" "[B" v0) (C : RoadKit.Fld Z h x ST "coder" "B" c0) (K : RoadKit.Arv Z h b k .char zn (cs.map Value.int) dv) (S : RoadKit.Sta Z h ST "COMPACT_STRINGS" "Z" (.int z)) (hz : ¬ z = 0)
    (hlen : zn.toNatClampNeg = cs.length) (h0 : 0 < cs.length) (hbig : cs.length ≤ 536870912) (hall : ∀ c ∈ cs, ¬ 255 < c) (hfr : 4 ≤ R.frames) (hlo : W + 65 ≤ R.locals) :
    Back l R p e below s args New1.yN len W (fun P a => a = #[.ref x, .ref b] ∧ P.U.heap = h ∧ P.cells + 1 ≤ R.cells ∧ P.slots + cs.length ≤ R.slots)
      (fun P _ v B => ∃ L, QA Z x zn cs h v B.U.heap L ∧ B.locs = P.locs ++ L ∧ B.cells = P.cells + 1 ∧ B.slots = P.slots + cs.length) := by
  obtain ⟨A, K1, K2, K3, K4, K5, K6⟩ := K
  have e : A.slots.size = cs.length := K3.trans hlen
  have hat : ∀ (i : Nat) (hi : i < cs.length), A.slots[i]? = some (.int cs[i]) := fun i hi => by rw [K5 i (by omega)]; simp [List.getD_eq_getElem?_getD, hi]
  have hcv : ∀ (i : Nat) (hi : i < cs.length), cv A i = cs[i] := fun i hi => by unfold cv; rw [hat i hi]
  have hty : Typed .char A := fun i v hv => by
    have hi : i < A.slots.size := (Array.getElem?_eq_some_iff.mp hv).1
    have q := K5 i hi
    rw [hv] at q
    rw [Option.some.inj q]
    exact K6 i hi
  refine Back.mono (back hZ hw wi E V C K1 hty S hz (by omega) (by omega) (fun i hi => by rw [hcv i (by omega)]; exact hall _ (List.getElem_mem _)) hfr hlo) (fun P a hp => ⟨hp.1, hp.2.1, hp.2.2.1, by rw [e]; exact hp.2.2.2⟩) (fun P a v B hp hq => ?_)
  obtain ⟨L, ⟨q1, q2, q3, q4, q5, q6, q7, ⟨V', v1, v2, v3, v4, v5⟩, q9⟩, hl, hc, hs⟩ := hq
  refine ⟨L, ⟨q1, q2, q3, q4, q5, q6, q7, ⟨V'.cls, v3, V', v1, rfl, by rw [v4, e, hlen], K4, fun i hi => ?_, fun i hi => ?_⟩, q9⟩, hl, hc, by rw [hs, e]⟩
  · have hi' : i < cs.length := by omega
    rw [v5 i (by omega), hcv i hi']; simp [List.getD_eq_getElem?_getD, hi']
  · have hi' : i < cs.length := by omega
    simp only [List.getD_eq_getElem?_getD, List.getElem?_map, List.getElem?_eq_getElem hi', Option.map_some, Option.getD_some]
    exact fits_lo8 _
end StrChars.Road
namespace StrChars.Road
open Jvm Sem ClassFile Op Lib Jvm.Stand Jvm.Free Jvm.Free.XT
/-- WHAT COMES BACK, in the writer's own shape -/
def QV (Z : State) (x : Addr) (N : Int32) (bs : List Int32) (h : Heap) (n0 : Nat) (v : Option Value) (h' : Heap) (L : List Loc) : Prop := v = none ∧ RoadKit.Fr n0 L ∧ RoadKit.Keep h h' [x] ∧ RoadKit.Exa Z h' x ST ∧ RoadKit.Fld Z h' x ST "coder" "B" (.int 0) ∧
  ∃ (t : Addr) (kb : ClassId), n0 ≤ t ∧ h.size ≤ t ∧ ¬ t = x ∧ RoadKit.Fld Z h' x ST "value" "[B" (.ref t) ∧ RoadKit.Arv Z h' t kb .byte N (bs.map Value.int) (.int 0)
/-- **new String(chars) AT A CALL, FOR THE WRITER**: a char[] of n known ints, each 0 to 255 -/
theorem backV {p : Program} {l : Launch} {e : Env} {R : Room} {s : State} {args : Array Value} {below : List Frame} {len W : Nat} {Z : State} {a0 : Array Value} {h : Heap} (hZ : Z.Warmed39 s.vm) (hw : ∀ d ∈ words, d.before a0 Z = true) {kI : Nat} (wi : (Jvm.Cond.instantiable ST kI).before a0 Z = true)
    {x b : Addr} {kC : ClassId} {cs bs : List Int32} {d v0 c0 : Value} {z N : Int32} {n n0 : Nat} (hx0 : n0 ≤ x) (hh0 : n0 ≤ h.size) (E : RoadKit.Exa Z h x ST) (V : RoadKit.Fld Z h x ST "value" "[B" v0) (C : RoadKit.Fld Z h x ST "coder" "B" c0) (K : RoadKit.Arv Z h b kC .char N (cs.map Value.int) d) (S : RoadKit.Sta Z h ST "COMPACT_STRINGS" "Z" (.int z)) (hz : ¬ z = 0)
    (hn : cs.length = n) (hN : N = Int32.ofNat n) (l0 : 0 < n) (l2 : n ≤ 4000) (hp : ∀ c ∈ cs, ¬ c < 0 ∧ ¬ (255 : Int32) < c) (hb : bs = cs.map (fun c => c.toInt8.toInt32)) (hfr : 4 ≤ R.frames) (hlo : W + 65 ≤ R.locals) :
    Back l R p e below s args (⟨"java/lang/String", "<init>", "([C)V"⟩ : MethodName) len W (fun P a => a = #[.ref x, .ref b] ∧ P.U.heap = h ∧ P.cells + 1 ≤ R.cells ∧ P.slots + n ≤ R.slots)
      (fun P _ v B => ∃ L, QV Z x N bs h n0 v B.U.heap L ∧ B.locs = P.locs ++ L ∧ B.cells = P.cells + 1 ∧ B.slots = P.slots + n) := by
  subst hn hN hb
  refine Back.mono (backArv hZ hw wi E V C K S hz (n32 (by omega)) l0 (by omega) (fun c hc => (hp c hc).2) hfr hlo) (fun P a hp => hp) (fun P a v B hp hq => ?_)
  obtain ⟨L, ⟨q1, q2, q3, q4, q5, q6, q7, ⟨kb, v1, v2⟩, q9⟩, hl, hc, hs⟩ := hq
  exact ⟨L, ⟨q1, fun y hy => by rw [q2 y hy]; exact hx0, q3, q5, q7, h.size, kb, hh0, Nat.le_refl _, Nat.ne_of_gt E.lt, q6, by rw [List.map_map]; exact v2⟩, hl, hc, hs⟩
end StrChars.Road
end Jvm.Pilot.@@N@@

namespace Jvm.Pilot.@@N@@
open Jvm Jvm.ClassFile Sem Op Lib Jvm.Free Jvm.Stand Jvm.LawKit Jvm.RoadKit Bundle Jvm.Pilot.@@N@@.Jvm.D
abbrev vi (x : Int32) : Slot := .val (.int x)
abbrev vr (a : Nat) : Slot := .val (.ref a)
abbrev uu : Slot := .unset
abbrev own_F (pa pb : Int64) (pi g k : Int32) (bu : Nat) (z : Slot) (ao : Nat) (a b c d e f h : Int32) (r : List Slot) : Array Slot := List.toArray (.val (.long pa) :: .second :: .val (.long pb) :: .second :: .val (.int pi) :: .val (.int g) :: .val (.int k) :: .val (.ref bu) :: z :: .val (.int (Int32.ofNat ao)) :: .val (.int a) :: .val (.int b) :: .val (.int c) :: .val (.int d) :: .val (.int e) :: .val (.int f) :: .val (.int h) :: r)
abbrev vn (x : Nat) : Slot := .val (.int (Int32.ofNat x))
abbrev dk (C : ByteArray) (n : Nat) (i : Instr) (k : Nat) : Prop := decode C n = .ok (i, k)
abbrev vz : Slot := .val (.int 0)
abbrev cD8 : ByteArray := prog_21_method_2_code
abbrev cD17 : ByteArray := jdk_43_method_25_code
abbrev cD37 : ByteArray := method_5_code
abbrev cD57 : ByteArray := jdk_42_method_87_code
abbrev cD20 : ByteArray := jdk_42_method_92_code
abbrev cD43 : ByteArray := jdk_43_method_22_code
abbrev cD49 : ByteArray := jdk_65_method_133_code
abbrev cD9 : ByteArray := prog_21_method_1_code
abbrev cD46 : ByteArray := jdk_43_method_23_code
abbrev cD41 : ByteArray := method_3_code
abbrev cD26 : ByteArray := jdk_38_method_6_code
abbrev cD24 : ByteArray := jdk_38_method_24_code
abbrev cD13 : ByteArray := jdk_42_method_84_code
abbrev cD23 : ByteArray := jdk_38_method_25_code
abbrev cD64 : ByteArray := method_4_code
abbrev cD16 : ByteArray := jdk_43_method_24_code
abbrev cD47 : ByteArray := jdk_43_method_47_code
abbrev cD63 : ByteArray := method_6_code
abbrev cD1 : ByteArray := method_2_code
abbrev cD42 : ByteArray := jdk_42_method_80_code
abbrev cD58 : ByteArray := jdk_29_method_73_code
abbrev cD39 : ByteArray := jdk_43_method_2_code
abbrev cD48 : ByteArray := jdk_65_method_132_code
abbrev cD56 : ByteArray := jdk_42_method_85_code
abbrev cD22 : ByteArray := jdk_41_method_12_code
abbrev cD33 : ByteArray := jdk_38_method_20_code
abbrev cD51 : ByteArray := jdk_42_method_151_code
abbrev cD15 : ByteArray := jdk_42_method_154_code
abbrev cD38 : ByteArray := jdk_42_method_56_code
abbrev cD44 : ByteArray := jdk_43_method_4_code
abbrev cD60 : ByteArray := jdk_29_method_70_code
abbrev cD19 : ByteArray := jdk_42_method_54_code
abbrev cD35 : ByteArray := jdk_41_method_11_code
abbrev cD45 : ByteArray := jdk_29_method_69_code
abbrev cD52 : ByteArray := jdk_42_method_97_code
abbrev cD59 : ByteArray := jdk_29_method_66_code
abbrev cD21 : ByteArray := jdk_42_method_158_code
abbrev cD25 : ByteArray := jdk_38_method_7_code
abbrev cD62 : ByteArray := prog_21_method_7_code
abbrev cD14 : ByteArray := jdk_42_method_152_code
abbrev cD55 : ByteArray := jdk_42_method_55_code
abbrev cD40 : ByteArray := jdk_42_method_155_code
abbrev cD27 : ByteArray := jdk_29_method_65_code
abbrev cD18 : ByteArray := jdk_42_method_91_code
abbrev cD11 : ByteArray := jdk_39_method_1_code
abbrev cD10 : ByteArray := jdk_38_method_2_code
abbrev cD32 : ByteArray := prog_21_method_5_code
abbrev cD61 : ByteArray := prog_21_method_6_code
abbrev cD31 : ByteArray := jdk_42_method_66_code
abbrev cD34 : ByteArray := jdk_31_method_17_code
abbrev cD54 : ByteArray := jdk_42_method_79_code
abbrev cD36 : ByteArray := jdk_38_method_18_code
abbrev cD50 : ByteArray := jdk_65_method_131_code
abbrev cD28 : ByteArray := prog_21_method_4_code
abbrev cD12 : ByteArray := jdk_22_method_1_code
abbrev cD29 : ByteArray := jdk_38_method_8_code
abbrev cD30 : ByteArray := prog_21_method_8_code
abbrev ym20 : MethodName := ⟨"java/lang/String", "substring", "(II)Ljava/lang/String;"⟩
abbrev ym23 : MethodName := ⟨"java/util/ArrayList", "add", "(Ljava/lang/Object;)Z"⟩
abbrev ym8488 : MethodName := ⟨"java/util/List", "add", "(Ljava/lang/Object;)Z"⟩
abbrev ym62 : MethodName := ⟨"com/example/assemble/assemble/SettingText", "fallback", "(I)Ljava/lang/String;"⟩
abbrev ym19 : MethodName := ⟨"java/lang/String", "length", "()I"⟩
abbrev ym32 : MethodName := ⟨"com/example/assemble/assemble/SettingText", "literal", "(I)Ljava/lang/String;"⟩
abbrev ym18 : MethodName := ⟨"java/lang/String", "substring", "(I)Ljava/lang/String;"⟩
abbrev ym14 : MethodName := ⟨"java/lang/String", "coder", "()B"⟩
abbrev ym15 : MethodName := ⟨"java/lang/String", "isLatin1", "()Z"⟩
abbrev ym37 : MethodName := ⟨"com/example/assemble/assemble/SettingTextParsePinLaw", "part", "(Ljava/lang/String;[CII)Z"⟩
abbrev ym55 : MethodName := ⟨"java/lang/String", "isEmpty", "()Z"⟩
abbrev ym56 : MethodName := ⟨"java/lang/String", "indexOf", "(Ljava/lang/String;I)I"⟩
abbrev ym63 : MethodName := ⟨"com/example/assemble/assemble/SettingTextParsePinLaw", "fb", "(Ljava/lang/String;Z[CII)Z"⟩
abbrev ym31 : MethodName := ⟨"java/lang/String", "equals", "(Ljava/lang/Object;)Z"⟩
abbrev ym38 : MethodName := ⟨"java/lang/String", "charAt", "(I)C"⟩
abbrev ym42 : MethodName := ⟨"java/lang/String", "indexOf", "(II)I"⟩
abbrev ym30 : MethodName := ⟨"com/example/assemble/assemble/SettingText", "toString", "()Ljava/lang/String;"⟩
abbrev ym28 : MethodName := ⟨"com/example/assemble/assemble/SettingText", "placeholders", "()I"⟩
abbrev ym61 : MethodName := ⟨"com/example/assemble/assemble/SettingText", "key", "(I)Ljava/lang/String;"⟩
abbrev ym1 : MethodName := ⟨"com/example/assemble/assemble/SettingTextParsePinLaw", "lit", "(J)C"⟩
abbrev ym33 : MethodName := ⟨"java/util/ArrayList", "get", "(I)Ljava/lang/Object;"⟩
abbrev ym54 : MethodName := ⟨"java/lang/String", "indexOf", "(I)I"⟩
abbrev ym13 : MethodName := ⟨"java/lang/String", "indexOf", "(Ljava/lang/String;)I"⟩
abbrev ym52 : MethodName := ⟨"java/lang/String", "contains", "(Ljava/lang/CharSequence;)Z"⟩
abbrev ym8 : MethodName := ⟨"com/example/assemble/assemble/SettingText", "parse", "(Ljava/lang/String;)Lcom/example/assemble/assemble/SettingText;"⟩
abbrev ym41 : MethodName := ⟨"com/example/assemble/assemble/SettingTextParsePinLaw", "keyc", "(J)C"⟩
abbrev ym64 : MethodName := ⟨"com/example/assemble/assemble/SettingTextParsePinLaw", "defc", "(J)C"⟩
abbrev ym47 : MethodName := ⟨"java/lang/StringLatin1", "newString", "([BII)Ljava/lang/String;"⟩
abbrev ym10 : MethodName := ⟨"java/util/ArrayList", "<init>", "()V"⟩
abbrev ym24 : MethodName := ⟨"java/util/ArrayList", "add", "(Ljava/lang/Object;[Ljava/lang/Object;I)V"⟩
abbrev ym8494 : MethodName := ⟨"java/util/List", "get", "(I)Ljava/lang/Object;"⟩
abbrev ym35 : MethodName := ⟨"jdk/internal/util/Preconditions", "checkIndex", "(IILjava/util/function/BiFunction;)I"⟩
abbrev ym27 : MethodName := ⟨"java/lang/Math", "max", "(II)I"⟩
abbrev ym45 : MethodName := ⟨"java/lang/Math", "min", "(II)I"⟩
abbrev ym17 : MethodName := ⟨"java/lang/StringLatin1", "indexOf", "([BI[BII)I"⟩
abbrev ym49 : MethodName := ⟨"java/util/Arrays", "copyOfRangeByte", "([BII)[B"⟩
abbrev ym36 : MethodName := ⟨"java/util/ArrayList", "elementData", "(I)Ljava/lang/Object;"⟩
abbrev ym2 : MethodName := ⟨"java/lang/String", "<init>", "([C)V"⟩
abbrev ym53 : MethodName := ⟨"java/lang/String", "toString", "()Ljava/lang/String;"⟩
abbrev ym34 : MethodName := ⟨"java/util/Objects", "checkIndex", "(II)I"⟩
abbrev ym40 : MethodName := ⟨"java/lang/String", "checkIndex", "(II)V"⟩
abbrev ym39 : MethodName := ⟨"java/lang/StringLatin1", "charAt", "([BI)C"⟩
abbrev ym46 : MethodName := ⟨"java/lang/StringLatin1", "indexOfChar", "([BIII)I"⟩
abbrev ym44 : MethodName := ⟨"java/lang/StringLatin1", "canEncode", "(I)Z"⟩
abbrev ym43 : MethodName := ⟨"java/lang/StringLatin1", "indexOf", "([BIII)I"⟩
abbrev ym16 : MethodName := ⟨"java/lang/StringLatin1", "indexOf", "([B[B)I"⟩
abbrev ym59 : MethodName := ⟨"java/lang/Math", "max", "(JJ)J"⟩
abbrev ym60 : MethodName := ⟨"java/lang/Math", "min", "(JJ)J"⟩
abbrev ym58 : MethodName := ⟨"java/lang/Math", "clamp", "(JII)I"⟩
abbrev ym57 : MethodName := ⟨"java/lang/String", "indexOf", "([BBILjava/lang/String;I)I"⟩
abbrev ym22 : MethodName := ⟨"jdk/internal/util/Preconditions", "checkFromToIndex", "(IIILjava/util/function/BiFunction;)I"⟩
abbrev ym21 : MethodName := ⟨"java/lang/String", "checkBoundsBeginEnd", "(III)V"⟩
abbrev ym50 : MethodName := ⟨"java/util/Arrays", "checkLength", "(II)V"⟩
abbrev ym48 : MethodName := ⟨"java/util/Arrays", "copyOfRange", "([BII)[B"⟩
abbrev ym51 : MethodName := ⟨"java/lang/String", "<init>", "([BB)V"⟩
abbrev ym12 : MethodName := ⟨"java/util/AbstractCollection", "<init>", "()V"⟩
abbrev ym11 : MethodName := ⟨"java/util/AbstractList", "<init>", "()V"⟩
abbrev ym26 : MethodName := ⟨"java/util/ArrayList", "grow", "(I)[Ljava/lang/Object;"⟩
abbrev ym25 : MethodName := ⟨"java/util/ArrayList", "grow", "()[Ljava/lang/Object;"⟩
abbrev ym9 : MethodName := ⟨"com/example/assemble/assemble/SettingText", "<init>", "(Ljava/lang/String;)V"⟩
abbrev ym29 : MethodName := ⟨"java/util/ArrayList", "size", "()I"⟩
section Own
variable {p : Program} {l : Launch} {e : Env} {R : Room} {s : State} {m : MethodId} {args : Array Value} {below : List Frame} {meth : Method} {c : Code} {T : State} {locs : List Loc} {cells slots : Nat}
/-- from A the run ends, and what it leaves is as Q says -/
def own_go (p : Program) (e : Env) (below : List Frame) (s : State) (Q : Option Value → Heap → List Loc → Prop) (C S : Nat) (A : State) : Prop :=
 ∃ t o, Steps p.tables e below A t ∧ t.status = .running ∧ Ended t below o ∧ ∃ v L, o = .returned v ∧ Q v t.heap L ∧ FrameEnd s o t L C S
variable {Q : Option Value → Heap → List Loc → Prop} {C S : Nat} {A B : State}
theorem own_in (h : own_go p e below s Q C S A) : ∃ t o, Steps p.tables e below A t ∧ t.status = .running ∧ Ended t below o ∧ ∃ v L, o = .returned v ∧ Q v t.heap L ∧ FrameEnd s o t L C S := h
theorem oo (k : ∀ t, Steps p.tables e below B t → Steps p.tables e below A t) (h : own_go p e below s Q C S B) : own_go p e below s Q C S A := by
 obtain ⟨t, o, h1, h2⟩ := h
 exact ⟨t, o, k t h1, h2⟩
theorem olt {a b : Nat} (h : a < b) : a < b := h
theorem one {a b : Nat} (h : a ≠ b) : a ≠ b := h
theorem own_use {α : Type} (X : Stand p l e R s m args below meth c T locs cells slots) {h : Heap} {g : α → JFrame} {G : State → Prop} (k : ∀ (r : α) (T' : State), Stand p l e R s m args below meth c T' locs cells slots → T'.heap = h → G (T'.setTop (g r)))
  (b : (∀ (r : α) (T' : State), Stand p l e R s m args below meth c T' locs cells slots → T'.heap = h → G (T'.setTop (g r))) → G A) : G A := b k
theorem own_ret (X : Stand p l e R s m args below meth c T locs cells slots) (hx : p.tables.exec = Jvm.exec) (hlk : meth.locks = false) {pc : Nat} {Ls : Array Slot} {w : Value} {t : FieldType} {i : Instr} {rest : List Value} (hret : meth.sig.returnType = some t) (hn : narrow t w = w)
  (hi : (i = .ireturn ∧ (t = .int ∨ t = .boolean ∨ t = .byte ∨ t = .char ∨ t = .short) ∧ ∃ z, w = .int z) ∨ (i = .lreturn ∧ t = .long ∧ ∃ z, w = .long z) ∨ (i = .dreturn ∧ t = .double ∧ ∃ z, w = .double z) ∨ (i = .freturn ∧ t = .float ∧ ∃ z, w = .float z) ∨ (i = .areturn ∧ t.isReference = true ∧ w.isRef = true))
  (hd : decode c.code pc = .ok (i, 1)) (hc : cells ≤ C) (hs : slots ≤ S) (hQ : Q (some w) T.heap locs) : own_go p e below s Q C S (T.setTop (mkF m pc Ls (w :: rest))) := by
 obtain ⟨fs, hr, hrun, hended, hW, hsame⟩ := X.leave (v := some w) (fun h => by rw [hret] at h; cases h) hlk
 exact ⟨_, _, retOut X hx hret hn hi hd hr, hrun, hended, _, _, rfl, hQ, ⟨_, rfl⟩, hW, hsame.mono hc hs⟩
theorem own_retV (X : Stand p l e R s m args below meth c T locs cells slots) (hx : p.tables.exec = Jvm.exec) (hlk : meth.locks = false) {pc : Nat} {Ls : Array Slot} (hret : meth.sig.returnType = none)
  (hd : decode c.code pc = .ok (.return_, 1)) (hc : cells ≤ C) (hs : slots ≤ S) (hQ : Q none T.heap locs) : own_go p e below s Q C S (T.setTop (mkF m pc Ls [])) := by
 obtain ⟨fs, hr, hrun, hended, hW, hsame⟩ := X.leave (v := none) (fun _ => rfl) hlk
 exact ⟨_, _, X.returnOut hx hret hd hr, hrun, hended, _, _, rfl, hQ, ⟨_, rfl⟩, hW, hsame.mono hc hs⟩
/-- the same, with what the JVM holds for the constants of EL -/
def own_gc (p : Program) (e : Env) (below : List Frame) (s : State) (Z : State) (EL : List (String × Nat)) (Q : Option Value → Heap → List Loc → Prop) (C S : Nat) (A : State) : Prop :=
 ∃ t o, Steps p.tables e below A t ∧ t.status = .running ∧ Ended t below o ∧ ∃ v L, o = .returned v ∧ Q v t.heap L ∧ CHr Z EL s.vm s.heap t.vm t.heap ∧ ReturnedEndW s o t L C S
variable {Z : State} {EL : List (String × Nat)} {a0 : Array Value}
theorem own_inc (h : own_gc p e below s Z EL Q C S A) : ∃ t o, Steps p.tables e below A t ∧ t.status = .running ∧ Ended t below o ∧ ∃ v L, o = .returned v ∧ Q v t.heap L ∧ CHr Z EL s.vm s.heap t.vm t.heap ∧ ReturnedEndW s o t L C S := h
theorem oc (k : ∀ t, Steps p.tables e below B t → Steps p.tables e below A t) (h : own_gc p e below s Z EL Q C S B) : own_gc p e below s Z EL Q C S A := by
 obtain ⟨t, o, h1, h2⟩ := h
 exact ⟨t, o, k t h1, h2⟩
theorem own_retc {vm0 : Vm} {k0 : Nat} (X : Stand p l e R (s.setVm vm0) m args below meth c T locs cells slots) (hx : p.tables.exec = Jvm.exec) (hlk : meth.locks = false) (hS : s.Since vm0 k0) (hk : k0 ≤ T.heap.size) (hZ : Z.Warmed39 vm0) (hEL : EW Z a0 EL) (H : CHr Z EL s.vm s.heap vm0 T.heap) {pc : Nat} {Ls : Array Slot} {w : Value} {t : FieldType} {i : Instr} {rest : List Value} (hret : meth.sig.returnType = some t) (hn : narrow t w = w)
  (hi : (i = .ireturn ∧ (t = .int ∨ t = .boolean ∨ t = .byte ∨ t = .char ∨ t = .short) ∧ ∃ z, w = .int z) ∨ (i = .lreturn ∧ t = .long ∧ ∃ z, w = .long z) ∨ (i = .dreturn ∧ t = .double ∧ ∃ z, w = .double z) ∨ (i = .freturn ∧ t = .float ∧ ∃ z, w = .float z) ∨ (i = .areturn ∧ t.isReference = true ∧ w.isRef = true))
  (hd : decode c.code pc = .ok (i, 1)) (hc : cells ≤ C) (hs : slots ≤ S) (hQ : Q (some w) T.heap locs) : own_gc p e below s Z EL Q C S (T.setTop (mkF m pc Ls (w :: rest))) := by
 obtain ⟨fs, hr, hrun, hended, h1, h2, h3, h4⟩ := X.leaveW hS hk (v := some w) (fun h => by rw [hret] at h; cases h) hlk
 have q : CHr Z EL s.vm s.heap T.vm T.heap := H.trans (CHv.at X hZ hEL H.1)
 exact ⟨_, _, retOut X hx hret hn hi hd hr, hrun, hended, _, _, rfl, hQ, q, h1, h2, h3, h4.mono hc hs⟩
theorem own_retVc {vm0 : Vm} {k0 : Nat} (X : Stand p l e R (s.setVm vm0) m args below meth c T locs cells slots) (hx : p.tables.exec = Jvm.exec) (hlk : meth.locks = false) (hS : s.Since vm0 k0) (hk : k0 ≤ T.heap.size) (hZ : Z.Warmed39 vm0) (hEL : EW Z a0 EL) (H : CHr Z EL s.vm s.heap vm0 T.heap) {pc : Nat} {Ls : Array Slot} (hret : meth.sig.returnType = none)
  (hd : decode c.code pc = .ok (.return_, 1)) (hc : cells ≤ C) (hs : slots ≤ S) (hQ : Q none T.heap locs) : own_gc p e below s Z EL Q C S (T.setTop (mkF m pc Ls [])) := by
 obtain ⟨fs, hr, hrun, hended, h1, h2, h3, h4⟩ := X.leaveW hS hk (v := none) (fun _ => rfl) hlk
 have q : CHr Z EL s.vm s.heap T.vm T.heap := H.trans (CHv.at X hZ hEL H.1)
 exact ⟨_, _, X.returnOut hx hret hd hr, hrun, hended, _, _, rfl, hQ, q, h1, h2, h3, h4.mono hc hs⟩
theorem ci (k : ∀ {t}, Steps p.tables e below B t → Steps p.tables e below A t) (h : own_gc p e below s Z EL Q C S B) : own_gc p e below s Z EL Q C S A := oc (fun _ => k) h
theorem oi (k : ∀ {t}, Steps p.tables e below B t → Steps p.tables e below A t) (h : own_go p e below s Q C S B) : own_go p e below s Q C S A := oo (fun _ => k) h
theorem sc (h : own_gc p e below s Z EL Q C S A) : own_gc p e below s Z EL Q C S A := h
theorem so (h : own_go p e below s Q C S A) : own_go p e below s Q C S A := h
open Jvm.Free.SB Jvm.Free.SBG in
/-- a String that has no array yet is no constant's -/
theorem own_safe_null {vm : Vm} {h : Heap} {x : Addr} (hal : Z.vm.Alike vm) (E : Exa Z h x "java/lang/String") (F : Fld Z h x "java/lang/String" "value" "[B" .null) : Safe Z EL vm h x := fun B => by
 obtain ⟨p, -, u, a, -, q, -, F', rfl | rfl⟩ := B
 ·obtain ⟨cS, ⟨⟨s1, s2, s3, ⟨cv, kv, iv, s4, s4'⟩, s5, s6, s7, s8, -⟩, -, -⟩, -⟩ := F'
  obtain ⟨cell, cf, k, i, f, h1, h2, h3, -, -, -, h7⟩ := F
  cases (show h[q.sa]? = some q.sC from s1).symm.trans h1
  obtain ⟨kv', z4⟩ := ff_back (U := Wst Z vm h) hal s4
  have e4 := z4.symm.trans h2
  simp only [Option.some.injEq, Prod.mk.injEq] at e4
  rw [e4.2.2.2] at s8
  have := s8.symm.trans h7
  simp at this
 ·obtain ⟨cell, k, e1, e2, e3, -, -⟩ := E
  cases (show h[q.sd]? = some q.SA from F'.hd).symm.trans e1
  obtain ⟨cS, -, -, f, -⟩ := F'
  have f' : vm.findClass "[B" = some q.SA.cls := f
  rw [hal.findClass] at f'
  obtain ⟨k1, q1, q2⟩ := Vm.findClass_spec f'
  obtain ⟨k2, q3, q4⟩ := Vm.findClass_spec e2
  cases q1.symm.trans q3
  have := q2.symm.trans q4
  simp at this
theorem own_ex {t : Term} {K : String} (h : (Jvm.Cond.exactly t K).value args s none s [] = some true) : ∃ a, t.eval args s none [] s = some (.ref a) ∧ Exa s s.heap a K := by
 obtain ⟨a, ha⟩ := exa_v h
 exact ⟨a, ha, Exa.start ha h⟩
end Own
abbrev own_R (a b c d : Nat) : Room := { frames := a, cells := b, slots := c, locals := d }
abbrev own_H (Z : State) (a0 : Array Value) : Prop := ∀ d ∈ tables_1, d.before a0 Z = true
theorem own_hW {Z : State} {a0 : Array Value} (hw : own_H Z a0) : ∀ (i : Nat) (d : Jvm.Cond), tables_1[i]? = some d → d.before a0 Z = true := fun i d h => hw d (List.mem_of_getElem? h)
abbrev own_M (l : Launch) (Z : State) (y : MethodName) (code : ByteArray) (ws : List Jvm.Cond) (ml : Nat) (ret : Option FieldType) (R : Room) (A : Array Value) (h0 : Heap) (Q : Option Value → Heap → List Loc → Prop) : Prop := MetFree l y (head1 (Jvm.Cond.code y code ml ret :: ws) R) (fun zz_ U => zz_ = A ∧ Z.Warmed39 U.vm ∧ U.heap = h0) (fun _ _ _ _ _ => True) (fun _ U o U' => ∃ v L, o = .returned v ∧ Q v U'.heap L ∧ FrameEnd U o U' L R.cells R.slots)
theorem own_open {l : Launch} {Z : State} {y : MethodName} {code : ByteArray} {ws : List Jvm.Cond} {ml : Nat} {ret : Option FieldType} {R : Room} {A : Array Value} {h0 : Heap} {Q : Option Value → Heap → List Loc → Prop} (hpl : plainFor y = true)
  (k : ∀ (p : Program) (e : Env) (s : State) (m : MethodId) (below : List Frame) (meth : Method) (c : Code) (s₁ : State), p.tables.exec = Jvm.exec → c.code = code → meth.locks = false → meth.sig.returnType = ret → c.maxLocals = ml → s.vm.findClass y.cls = some m.cls → meth.name = y.name → Z.Warmed39 s.vm → Stand p l e R s m A below meth c s₁ [] 0 0 → s₁.heap = h0 → own_go p e below s Q R.cells R.slots (s₁.setTop (entryFrame m A ml))) : own_M l Z y code ws ml ret R A h0 Q := by
 refine MetFree.of_bodySF hpl hisR ?_
 intro p e s m args below meth c s₁ Bd hml0 hP hK
 obtain ⟨rfl, hZ, hh⟩ := hP
 exact k p e s m below meth c s₁ Bd.exec Bd.bytes Bd.notSynchronized Bd.returns hml0 (findClass_of_methodNamed Bd.named) (name_of_methodNamed Bd.named Bd.method).1 hZ (Stand.of_body Bd) (by rw [← hh, Bd.state]; rfl)
section Call
variable {p : Program} {l : Launch} {e : Env} {R : Room} {s : State} {m : MethodId} {args : Array Value} {below : List Frame} {meth : Method} {c : Code} {T : State} {locs : List Loc} {cells slots : Nat}
theorem own_c1 (X : Stand p l e R s m args below meth c T locs cells slots) {Q : Option Value → Heap → List Loc → Prop} {kc ks : Nat} {G : Option Value → Pt → Prop} {W : Vm → Prop}
  (h : ∃ (v : Option Value) (vm₁ : Vm) (B : Pt), W vm₁ ∧ Stand p l e R s m args below meth c B.U B.locs B.cells B.slots ∧ (∃ L, Q v B.U.heap L ∧ B.locs = locs ++ L ∧ B.cells = cells + kc ∧ B.slots = slots + ks) ∧ G v B) :
  ∃ v T' L, Stand p l e R s m args below meth c T' (locs ++ L) (cells + kc) (slots + ks) ∧ Q v T'.heap L ∧ G v ⟨T', locs ++ L, cells + kc, slots + ks⟩ := by
 obtain ⟨v, -, ⟨T', L', k, n⟩, -, X', ⟨L, hQ, e1, e2, e3⟩, g⟩ := h
 have e1 : L' = locs ++ L := e1
 have e2 : k = cells + kc := e2
 have e3 : n = slots + ks := e3
 subst e1 e2 e3
 exact ⟨v, T', L, X', hQ, g⟩
end Call
theorem own_len {s : State} {args : Array Value} {t : Term} {a : Addr} {cl : Cell} {ty : FieldType} {k : Int32} (ht : t.eval args s none [] s = some (.ref a)) (A : Arr s s.heap a cl ty) (h : (Jvm.Cond.eq (Term.length t) (Term.int k)).value args s none s [] = some true) : cl.slots.size.toInt32 = k ∧ cl.slots.size < 2 ^ 31 := by
 obtain ⟨x, y, h1, h2, h3, h4⟩ := cmp_v (Or.inl h)
 have e2 := Option.some.inj ((Term.int_eval k).symm.trans h2)
 subst e2
 obtain ⟨z, rfl⟩ := h4
 have hA : s.arrayAt? a = some cl := A.fin (Vm.Alike.refl _)
 by_cases hl : cl.slots.size < 2 ^ 31
 ·have h5 := len_f ht hA hl
  have h6 : cl.slots.size.toInt32 = z := by have := h5.symm.trans h1; simpa using this
  refine ⟨?_, hl⟩
  rw [h6]
  simpa [Cond.value, h1, Term.int_eval] using h
 ·simp [Term.eval, ht, hA, hl] at h1
def own_lo8 (x : Int32) : Int32 := x.toInt8.toInt32
theorem own_narb (x : Int32) : nar .byte (x.toInt8.toInt32) = own_lo8 x := by
 unfold nar own_lo8; simp
abbrev own_ch (z : Int32) : Prop := ¬ z < 0 ∧ ¬ (255 : Int32) < z
def own_cl (a : Int64) : Int32 := ((a &&& (255 : Int64)).toInt32).toUInt32.toUInt16.toUInt32.toInt32
theorem own_cl_ch (a : Int64) : own_ch (own_cl a) := by
 have t : ∀ k : Fin 256, own_ch (((Int64.ofNat k.val).toInt32).toUInt32.toUInt16.toUInt32.toInt32) := by decide +kernel
 have h : (a &&& 255).toBitVec.toNat < 256 := by
  simp only [Int64.toBitVec_and, BitVec.toNat_and]
  exact Nat.lt_succ_of_le Nat.and_le_right
 have e : (a &&& 255) = Int64.ofNat (a &&& 255).toBitVec.toNat := by
  apply Int64.toBitVec_inj.mp
  show _ = BitVec.ofNat 64 _
  rw [BitVec.ofNat_toNat]; simp
 unfold own_cl
 rw [e]
 exact t ⟨_, h⟩
theorem own_256 {z : Int32} (h : own_ch z) : ∃ k : Fin 256, z = Int32.ofNat k.val := by
 obtain ⟨h1, h2⟩ := h
 rw [Int32.lt_iff_toInt_lt] at h1 h2
 have e0 : (0 : Int32).toInt = 0 := rfl
 have e1 : (255 : Int32).toInt = 255 := rfl
 refine ⟨⟨z.toInt.toNat, by omega⟩, ?_⟩
 apply Int32.toInt_inj.mp
 show _ = (Int32.ofNat z.toInt.toNat).toInt
 rw [Int32.toInt_ofNat_small (by omega)]
 omega
theorem own_nar {z : Int32} (h : own_ch z) : nar .char z = z := by
 have t : ∀ k : Fin 256, nar .char (Int32.ofNat k.val) = Int32.ofNat k.val := by decide +kernel
 obtain ⟨k, rfl⟩ := own_256 h
 exact t k
theorem own_c16 {z : Int32} (h : own_ch z) : z.toUInt32.toUInt16.toUInt32.toInt32 = z := by
 have t : ∀ k : Fin 256, (Int32.ofNat k.val).toUInt32.toUInt16.toUInt32.toInt32 = Int32.ofNat k.val := by decide +kernel
 obtain ⟨k, rfl⟩ := own_256 h
 exact t k
theorem own_lo_mask {z : Int32} (h : own_ch z) : own_lo8 z &&& 255 = z := by
 have t : ∀ k : Fin 256, own_lo8 (Int32.ofNat k.val) &&& 255 = Int32.ofNat k.val := by decide +kernel
 obtain ⟨k, rfl⟩ := own_256 h
 exact t k
theorem own_lo_inj {a b : Int32} (ha : own_ch a) (hb : own_ch b) (h : own_lo8 a = own_lo8 b) : a = b := by
 rw [← own_lo_mask ha, ← own_lo_mask hb, h]
theorem own_nat {n : Nat} (h : n ≤ 100) : (Int32.ofNat n).toInt = n := Int32.toInt_ofNat_small (by omega)
theorem own_ncl {n : Nat} (h : n ≤ 100) : (Int32.ofNat n).toNatClampNeg = n := by
 simp only [Int32.toNatClampNeg, own_nat h]
 rfl
theorem own_nlt {a b : Nat} (ha : a ≤ 100) (hb : b ≤ 100) : (Int32.ofNat a < Int32.ofNat b) ↔ a < b := by
 rw [Int32.lt_iff_toInt_lt, own_nat ha, own_nat hb]
 omega
theorem own_neq {a b : Nat} (ha : a ≤ 100) (hb : b ≤ 100) : (Int32.ofNat a = Int32.ofNat b) ↔ a = b := by
 rw [← Int32.toInt_inj, own_nat ha, own_nat hb]
 omega
theorem own_nadd (a b : Nat) : Int32.ofNat a + Int32.ofNat b = Int32.ofNat (a + b) := (Int32.ofNat_add a b).symm
theorem own_p1 (a : Nat) : Int32.ofNat a + (1 : Int32) = Int32.ofNat (a + 1) := own_nadd a 1
theorem own_p2 (a : Nat) : Int32.ofNat a + (2 : Int32) = Int32.ofNat (a + 2) := own_nadd a 2
theorem own_nsub {a b : Nat} (h : b ≤ a) : Int32.ofNat a - Int32.ofNat b = Int32.ofNat (a - b) := by
 have e : Int32.ofNat a = Int32.ofNat (a - b) + Int32.ofNat b := by rw [own_nadd]; congr 1; omega
 rw [e]
 simp
theorem own_pm (a : Nat) : Int32.ofNat (a + 1) + (2 : Int32) - (1 : Int32) = Int32.ofNat (a + 2) := by
 rw [own_p2]
 exact own_nsub (a := a + 1 + 2) (b := 1) (by omega)
theorem own_mx {n i : Nat} (hn : n ≤ 100) (hi : i ≤ 100) : (Int32.ofNat n - (2 : Int32) < Int32.ofNat i) ↔ n < i + 2 := by
 have e1 := own_nat hn
 have e2 : (2 : Int32).toInt = 2 := rfl
 rw [Int32.lt_iff_toInt_lt, own_nat hi, Jvm.Kit.i32_sub (by omega) (by omega), e1, e2]
 omega
theorem own_nn {n : Nat} (h : n ≤ 100) : ¬ Int32.ofNat n < (0 : Int32) := fun q => Nat.not_lt_zero _ ((own_nlt (b := 0) h (by omega)).mp q)
theorem own_shr0 (x : Int32) : x >>> ((0 : Int32) &&& 31) = x := by
 have e : (0 : Int32) &&& 31 = 0 := by decide
 rw [e]
 simp
theorem own_getD {α : Type} {f : α → Value} {ms : List α} {i : Nat} {a : α} {d : Value} (h : ms[i]? = some a) : (ms.map f).getD i d = f a := by
 simp [List.getD_eq_getElem?_getD, h]
theorem own_hget {α : Type} {f : α → Value} {ms : List α} {i : Nat} {a : α} {d : Value} (hi : i ≤ 100) (h : ms[i]? = some a) : (ms.map f).getD (Int32.ofNat i).toNatClampNeg d = f a := by
 rw [own_ncl hi]; exact own_getD h
theorem own_hgv {ms : List Value} {i : Nat} {a : Value} {d : Value} (hi : i ≤ 100) (h : ms[i]? = some a) : ms.getD (Int32.ofNat i).toNatClampNeg d = a := by
 rw [own_ncl hi]; simp [List.getD_eq_getElem?_getD, h]
theorem own_inn {i m : Nat} (h : i < m) (hm : m ≤ 100) : ¬ Int32.ofNat i < (0 : Int32) ∧ Int32.ofNat i < Int32.ofNat m := ⟨own_nn (by omega), (own_nlt (by omega) hm).mpr h⟩
theorem own_wk {h h' : Heap} {ws ws' : List Addr} (K : Keep h h' ws) (q : ∀ x ∈ ws, x ∈ ws') : Keep h h' ws' := ⟨K.1, fun x c e n => K.2.1 x c e (fun m => n (q x m)), K.2.2⟩
theorem own_and3 (x : Int32) : x &&& 3 = 0 ∨ x &&& 3 = 1 ∨ x &&& 3 = 2 ∨ x &&& 3 = 3 := by
 have e1 : (x &&& 3).toInt = x.toInt % 2 ^ 2 := Jvm.Kit.i32_mask x 3 (k := 2) (by decide) (by decide)
 simp only [← Int32.toInt_inj, show (0 : Int32).toInt = 0 from rfl, show (1 : Int32).toInt = 1 from rfl, show (2 : Int32).toInt = 2 from rfl, show (3 : Int32).toInt = 3 from rfl]
 omega
theorem own_mod3 (x : Int32) : ∃ k : Nat, k ≤ 2 ∧ (x &&& 3) % 3 = Int32.ofNat k := by
 rcases own_and3 x with h | h | h | h <;> rw [h]
 ·exact ⟨0, by omega, by decide⟩
 ·exact ⟨1, by omega, by decide⟩
 ·exact ⟨2, by omega, by decide⟩
 ·exact ⟨0, by omega, by decide⟩
/-- a part of the chars -/
abbrev own_sl (cs : List Int32) (a b : Nat) : List Int32 := (cs.drop a).take (b - a)
theorem own_sl_len {cs : List Int32} {a b : Nat} (hb : b ≤ cs.length) : (own_sl cs a b).length = b - a := by
 simp only [List.length_take, List.length_drop]; omega
theorem own_sl_get {cs : List Int32} {a b i : Nat} (h : i < b - a) : (own_sl cs a b)[i]? = cs[a + i]? := by
 rw [List.getElem?_take_of_lt h, List.getElem?_drop]
theorem own_sl_none {cs : List Int32} {a b i : Nat} (h : b - a ≤ i) : (own_sl cs a b)[i]? = none := by
 apply List.getElem?_eq_none
 simp only [List.length_take]; omega
theorem own_sl_all (cs : List Int32) : own_sl cs 0 cs.length = cs := by simp
theorem own_sl_mem {cs : List Int32} {a b : Nat} {c : Int32} (h : c ∈ own_sl cs a b) : c ∈ cs := List.mem_of_mem_drop (List.mem_of_mem_take h)
theorem own_sl_sl {cs : List Int32} {a b i j : Nat} (h : j ≤ b - a) : own_sl (own_sl cs a b) i j = own_sl cs (a + i) (a + j) := by
 apply List.ext_getElem?
 intro q
 by_cases h1 : q < j - i
 ·rw [own_sl_get h1, own_sl_get (by omega), own_sl_get (by omega)]
  congr 1; omega
 ·rw [own_sl_none (by omega), own_sl_none (by omega)]
theorem own_sl_map {cs : List Int32} {a b : Nat} {f : Int32 → Value} (h : b ≤ cs.length) {d : Value} : ((own_sl cs a b).map f) = (List.range (b - a)).map fun i => (cs.map f).getD (a + i) d := by
 apply List.ext_getElem?
 intro q
 by_cases h1 : q < b - a
 ·rw [List.getElem?_map, own_sl_get h1, List.getElem?_map, List.getElem?_range h1]
  simp only [Option.map_some, List.getD_eq_getElem?_getD, List.getElem?_map]
  rw [List.getElem?_eq_getElem (show a + q < cs.length by omega)]
  rfl
 ·rw [List.getElem?_map, own_sl_none (by omega), List.getElem?_map, List.getElem?_eq_none (by simp only [List.length_range]; omega)]
  rfl
section Str
variable {Z : State} {h h' : Heap} {x : Nat} {cs : List Int32}
/-- a Latin-1 String of at most 22 chars -/
def own_sr (Z : State) (h : Heap) (x : Nat) (cs : List Int32) : Prop := (∀ c ∈ cs, own_ch c) ∧ cs.length ≤ 22 ∧ ∃ (t : Nat) (kb : ClassId), Exa Z h x "java/lang/String" ∧ Fld Z h x "java/lang/String" "value" "[B" (.ref t) ∧ Fld Z h x "java/lang/String" "coder" "B" (.int 0) ∧ Arv Z h t kb .byte (Int32.ofNat cs.length) (cs.map fun c => Value.int (own_lo8 c)) (.int 0)
theorem own_sr.exa (S : own_sr Z h x cs) : Exa Z h x "java/lang/String" := by
 obtain ⟨-, -, _, _, a, -⟩ := S
 exact a
/-- what an ArrayList's add may write: no String and no byte array -/
def own_aw (Z : State) (h h' : Heap) : Prop := ∃ ws : List Addr, Keep h h' ws ∧ (∀ x, Exa Z h x "java/lang/String" → x ∉ ws) ∧ (∀ x kb n vs d, Arv Z h x kb .byte n vs d → x ∉ ws)
theorem own_sr.aw (S : own_sr Z h x cs) (A : own_aw Z h h') : own_sr Z h' x cs := by
 obtain ⟨q1, q2, t, kb, a, b, c, d⟩ := S
 obtain ⟨ws, K, f, g⟩ := A
 exact ⟨q1, q2, t, kb, a.keep K, b.keep K (f x a), c.keep K (f x a), d.keep K (g _ _ _ _ _ d)⟩
theorem own_aw.nil (K : Keep h h' []) : own_aw Z h h' := ⟨[], K, fun _ _ => nin0, fun _ _ _ _ _ _ => nin0⟩
theorem own_aw.ofExt (E : Ext h h') : own_aw Z h h' := own_aw.nil ((Keep.refl h []).ext E)
theorem own_sr.ext (S : own_sr Z h x cs) (E : Ext h h') : own_sr Z h' x cs := S.aw (own_aw.ofExt E)
theorem own_sr.keep (S : own_sr Z h x cs) (K : Keep h h' []) (q : x ∉ ([] : List Addr)) : own_sr Z h' x cs := S.aw (own_aw.nil K)
def own_it (Z : State) (h : Heap) : Value → Option (List Int32) → Prop
 | w, none => w = .null
 | w, some cs => ∃ x : Nat, w = .ref x ∧ own_sr Z h x cs
def own_cont (Z : State) (h : Heap) : List Value → List (Option (List Int32)) → Prop
 | [], [] => True
 | w :: xs, o :: os => own_it Z h w o ∧ own_cont Z h xs os
 | _, _ => False
theorem own_it.aw {w : Value} {o : Option (List Int32)} (S : own_it Z h w o) (A : own_aw Z h h') : own_it Z h' w o := by
 cases o with
 | none => exact S
 | some cs => obtain ⟨x, e, q⟩ := S; exact ⟨x, e, q.aw A⟩
theorem own_cont.aw : ∀ {xs : List Value} {os : List (Option (List Int32))}, own_cont Z h xs os → own_aw Z h h' → own_cont Z h' xs os
 | [], [], _, _ => trivial
 | _ :: _, _ :: _, a, A => ⟨a.1.aw A, own_cont.aw a.2 A⟩
 | [], _ :: _, a, _ => a.elim
 | _ :: _, [], a, _ => a.elim
theorem own_cont.ext {xs : List Value} {os : List (Option (List Int32))} (S : own_cont Z h xs os) (E : Ext h h') : own_cont Z h' xs os := S.aw (own_aw.ofExt E)
theorem own_cont.keep {xs : List Value} {os : List (Option (List Int32))} (S : own_cont Z h xs os) (K : Keep h h' []) (q : (0 : Nat) ∉ ([] : List Addr)) : own_cont Z h' xs os := S.aw (own_aw.nil K)
theorem own_cont.snoc {w : Value} {o : Option (List Int32)} : ∀ {xs : List Value} {os : List (Option (List Int32))}, own_cont Z h xs os → own_it Z h w o → own_cont Z h (xs ++ [w]) (os ++ [o])
 | [], [], _, q => ⟨q, trivial⟩
 | _ :: _, _ :: _, a, q => ⟨a.1, own_cont.snoc a.2 q⟩
 | [], _ :: _, a, _ => a.elim
 | _ :: _, [], a, _ => a.elim
theorem own_cont.len : ∀ {xs : List Value} {os : List (Option (List Int32))}, own_cont Z h xs os → xs.length = os.length
 | [], [], _ => rfl
 | _ :: _, _ :: _, a => congrArg (· + 1) (own_cont.len a.2)
 | [], _ :: _, a => a.elim
 | _ :: _, [], a => a.elim
theorem own_cont.get {o : Option (List Int32)} : ∀ {xs : List Value} {os : List (Option (List Int32))} {i : Nat}, own_cont Z h xs os → os[i]? = some o → ∃ w, xs[i]? = some w ∧ own_it Z h w o
 | [], [], _, _, q => by simp at q
 | w :: _, _ :: _, 0, a, q => by
  simp at q
  exact ⟨w, by simp, q ▸ a.1⟩
 | _ :: _, _ :: _, i + 1, a, q => by
  simp only [List.getElem?_cons_succ] at q ⊢
  exact own_cont.get a.2 q
 | [], _ :: _, _, a, _ => a.elim
 | _ :: _, [], _, a, _ => a.elim
def own_okv (Z : State) (h : Heap) (w : Value) : Prop := w = .null ∨ ∃ a : Nat, w = .ref a ∧ Exa Z h a "java/lang/String"
theorem own_okv.ref {w : Value} (S : own_okv Z h w) : w.isRef = true := by
 rcases S with rfl | ⟨a, rfl, -⟩ <;> rfl
theorem own_okv.ext {w : Value} (S : own_okv Z h w) (E : Ext h h') : own_okv Z h' w := S.imp id fun ⟨a, e, q⟩ => ⟨a, e, q.ext E⟩
theorem own_okv.keep {w : Value} (S : own_okv Z h w) {ws : List Addr} (K : Keep h h' ws) : own_okv Z h' w := S.imp id fun ⟨a, e, q⟩ => ⟨a, e, q.keep K⟩
theorem own_okv.wr {w : Value} (S : own_okv Z h w) {a : Addr} {sl : Nat} {v : Value} (W : Wr h h' a sl v) : own_okv Z h' w := S.imp id fun ⟨a, e, q⟩ => ⟨a, e, q.wr W⟩
theorem own_okv.sto {w : Value} (S : own_okv Z h w) {a : Addr} {c : Cell} {k : ClassId} {ty : FieldType} {a0 : Array Value} (A : Arr Z h a c ty) (q : c.cls = k) (O : Ovr Z k "java/lang/Object") (wc : (Jvm.Cond.castable "java/lang/String" "java/lang/Object").before a0 Z = true) : Sto Z h a w := by
 rcases S with rfl | ⟨y, rfl, e⟩
 ·exact Or.inl rfl
 ·exact Sto.ofV A q O (Ins.of_exa e wc)
theorem own_arne {a b : Addr} {k k' : ClassId} {n n' : Int32} {vs vs' : List Value} {d d' : Value} {ty ty' : FieldType} (A : Arv Z h a k ty n vs d) (B : Arv Z h b k' ty' n' vs' d') (hne : ty ≠ ty') : a ≠ b := fun q => by
 subst q
 obtain ⟨c1, ⟨a1, ⟨-, k1, a2, c2, a3⟩, -⟩, -⟩ := A
 obtain ⟨c3, ⟨b1, ⟨-, k2, b2, c4, b3⟩, -⟩, -⟩ := B
 cases a1.symm.trans b1
 cases a2.symm.trans b2
 have e := a3.symm.trans b3
 injection e with _ e2
 exact hne e2
end Str
section Lst
variable {Z : State} {h h' : Heap}
theorem own_pad0 (vs : List Value) (d : Value) (m i : Nat) : (vs ++ List.replicate m d).getD i d = vs.getD i d := by
 simp only [List.getD_eq_getElem?_getD]
 by_cases h : i < vs.length
 ·rw [List.getElem?_append_left h]
 ·rw [List.getElem?_append_right (by omega), List.getElem?_eq_none (Nat.le_of_not_lt h), List.getElem?_replicate]
  split <;> rfl
theorem own_push {a : Addr} {c : Cell} {k : ClassId} {ty : FieldType} {z j : Int32} {xs : List Value} {y : Value} (A : Arr Z h a c ty) (q1 : c.cls = k) (S : c.slots.size = z.toNatClampNeg) (q3 : ¬ z < 0) (H : Has c xs .null) (G : ∀ i, i < c.slots.size → fits ty (xs.getD i .null) = true) (hv : fits ty y = true) (W : Wr h h' a j.toNatClampNeg y) (hj : j.toNatClampNeg = xs.length) : Arv Z h' a k ty z (xs ++ [y]) .null := by
 have F : Arv Z h a k ty z (xs ++ List.replicate 1 .null) .null := Arv.pad (vs := xs) ⟨c, A, q1, S, q3, H, G⟩ (fun i => own_pad0 _ _ _ i)
 obtain ⟨c', A', q1', S', q3', H', G'⟩ := F
 have e := Arv.set A' q1' S' q3' H' G' hv W xs.length hj (by simp)
 have e2 : (xs ++ List.replicate 1 Value.null).set xs.length y = xs ++ [y] := by simp
 rw [e2] at e
 exact e
def own_al (Z : State) (h : Heap) (dq n0 lo eo : Nat) (ko : ClassId) (xs : List Value) (mc : Int32) : Prop :=
 Exa Z h lo "java/util/ArrayList" ∧ Fld Z h lo "java/util/ArrayList" "elementData" "[Ljava/lang/Object;" (.ref eo) ∧ Fld Z h lo "java/util/ArrayList" "size" "I" (.int (Int32.ofNat xs.length)) ∧ Fld Z h lo "java/util/AbstractList" "modCount" "I" (.int mc) ∧ Exa Z h eo "[Ljava/lang/Object;" ∧
  ((xs = [] ∧ eo = dq ∧ Arv Z h eo ko (.object "java/lang/Object") (0 : Int32) [] .null) ∨ (n0 ≤ eo ∧ lo ≠ eo ∧ Ovr Z ko "java/lang/Object" ∧ Arv Z h eo ko (.object "java/lang/Object") (10 : Int32) xs .null))
variable {dq n0 lo eo : Nat} {ko : ClassId} {xs : List Value} {mc : Int32}
theorem own_al.ext (S : own_al Z h dq n0 lo eo ko xs mc) (E : Ext h h') : own_al Z h' dq n0 lo eo ko xs mc := ⟨S.1.ext E, S.2.1.ext E, S.2.2.1.ext E, S.2.2.2.1.ext E, S.2.2.2.2.1.ext E, S.2.2.2.2.2.imp (fun q => ⟨q.1, q.2.1, q.2.2.ext E⟩) (fun q => ⟨q.1, q.2.1, q.2.2.1, q.2.2.2.ext E⟩)⟩
theorem own_al.keep (S : own_al Z h dq n0 lo eo ko xs mc) {ws : List Addr} (K : Keep h h' ws) (hl : lo ∉ ws) (he : eo ∉ ws) : own_al Z h' dq n0 lo eo ko xs mc := ⟨S.1.keep K, S.2.1.keep K hl, S.2.2.1.keep K hl, S.2.2.2.1.keep K hl, S.2.2.2.2.1.keep K, S.2.2.2.2.2.imp (fun q => ⟨q.1, q.2.1, q.2.2.keep K he⟩) (fun q => ⟨q.1, q.2.1, q.2.2.1, q.2.2.2.keep K he⟩)⟩
theorem own_al.wr (S : own_al Z h dq n0 lo eo ko xs mc) {a : Addr} {sl : Nat} {v : Value} (W : Wr h h' a sl v) (hl : lo ≠ a) (he : eo ≠ a) : own_al Z h' dq n0 lo eo ko xs mc := ⟨S.1.wr W, S.2.1.other W (Or.inl hl), S.2.2.1.other W (Or.inl hl), S.2.2.2.1.other W (Or.inl hl), S.2.2.2.2.1.wr W, S.2.2.2.2.2.imp (fun q => ⟨q.1, q.2.1, q.2.2.other W he⟩) (fun q => ⟨q.1, q.2.1, q.2.2.1, q.2.2.2.other W he⟩)⟩
theorem own_al.lt2 (S : own_al Z h dq n0 lo eo ko xs mc) : lo < h.size ∧ eo < h.size := ⟨S.1.lt, S.2.2.2.2.1.lt⟩
theorem own_al.aw (S : own_al Z h dq n0 lo eo ko xs mc) {z : Nat} (K : Keep h h' [lo, z]) (hz : z = lo ∨ z = eo) {a0 : Array Value} {n : Nat} (w : (Cond.instantiable "java/util/ArrayList" n).before a0 Z = true) : own_aw Z h h' := by
 obtain ⟨E, -, -, -, Ee, T⟩ := S
 refine ⟨_, K, fun x e => ?_, fun x kb n vs d A => ?_⟩
 ·have q1 : x ≠ lo := Exa.ne e E (by decide)
  have q2 : x ≠ eo := Exa.ne e Ee (by decide)
  exact ninS q1 (ninS (by rcases hz with rfl | rfl <;> assumption) nin0)
 ·have q1 : x ≠ lo := (Exa.neArv E A w).symm
  have q2 : x ≠ eo := by
   rcases T with ⟨-, -, B⟩ | ⟨-, -, -, B⟩
   ·exact own_arne A B (by decide)
   ·exact own_arne A B (by decide)
  exact ninS q1 (ninS (by rcases hz with rfl | rfl <;> assumption) nin0)
theorem own_sz1 (xs : List Value) (y : Value) : Int32.ofNat xs.length + (1 : Int32) = Int32.ofNat (xs ++ [y]).length := by
 rw [List.length_append]
 exact own_nadd _ 1
end Lst
/-- "${" stands at j -/
def own_hit (cs : List Int32) (j : Nat) : Prop := cs[j]? = some 36 ∧ cs[j + 1]? = some 123
def own_ixs (cs : List Int32) (f : Nat) (r : Int32) : Prop := (∃ j, r = Int32.ofNat j ∧ f ≤ j ∧ own_hit cs j ∧ ∀ i, f ≤ i → i < j → ¬ own_hit cs i) ∨ (r = -1 ∧ ∀ i, f ≤ i → ¬ own_hit cs i)
def own_ixc (cs : List Int32) (f : Nat) (ch r : Int32) : Prop := (∃ j, r = Int32.ofNat j ∧ f ≤ j ∧ cs[j]? = some ch ∧ ∀ i, f ≤ i → i < j → cs[i]? ≠ some ch) ∨ (r = -1 ∧ ∀ i, f ≤ i → cs[i]? ≠ some ch)
theorem own_lt_of {cs : List Int32} {j : Nat} {c : Int32} (h : cs[j]? = some c) : j < cs.length := (List.getElem?_eq_some_iff.mp h).1
theorem own_mem_of {cs : List Int32} {j : Nat} {c : Int32} (h : cs[j]? = some c) : c ∈ cs := List.mem_of_getElem? h
theorem own_nhS {cs : List Int32} {f i : Nat} (H : ∀ j, f ≤ j → j < i → ¬ own_hit cs j) (q : ¬ own_hit cs i) : ∀ j, f ≤ j → j < i + 1 → ¬ own_hit cs j := fun j h1 h2 => by
 by_cases e : j = i
 ·rw [e]; exact q
 ·exact H j h1 (by omega)
theorem own_ncS {cs : List Int32} {f i : Nat} {ch : Int32} (H : ∀ j, f ≤ j → j < i → cs[j]? ≠ some ch) (q : cs[i]? ≠ some ch) : ∀ j, f ≤ j → j < i + 1 → cs[j]? ≠ some ch := fun j h1 h2 => by
 by_cases e : j = i
 ·rw [e]; exact q
 ·exact H j h1 (by omega)
theorem own_nh0 {cs : List Int32} {i : Nat} {c : Int32} (h : cs[i]? = some c) (hc : own_ch c) (q : ¬ own_lo8 c = 36) : ¬ own_hit cs i := fun u => by
 have e := Option.some.inj (h.symm.trans u.1)
 subst e
 exact q (by decide)
theorem own_nh1 {cs : List Int32} {i : Nat} {c : Int32} (h : cs[i + 1]? = some c) (hc : own_ch c) (q : ¬ own_lo8 c = 123) : ¬ own_hit cs i := fun u => by
 have e := Option.some.inj (h.symm.trans u.2)
 subst e
 exact q (by decide)
theorem own_nh2 {cs : List Int32} {i : Nat} (h : cs.length < i + 2) : ¬ own_hit cs i := fun u => by
 have := own_lt_of u.2
 omega
theorem own_is {c k : Int32} (hc : own_ch c) (hk : own_ch k) (q : own_lo8 c = own_lo8 k) : c = k := own_lo_inj hc hk q
theorem own_ixs_at {cs : List Int32} {f j : Nat} {r : Int32} (h : own_ixs cs f r) (hf : f ≤ j) (hj : own_hit cs j) (hn : ∀ i, f ≤ i → i < j → ¬ own_hit cs i) : r = Int32.ofNat j := by
 rcases h with ⟨i, e, q1, q2, q3⟩ | ⟨-, q⟩
 ·have : i = j := by
   by_cases a : i < j
   ·exact (hn i q1 a q2).elim
   ·by_cases b : j < i
    ·exact (q3 j hf b hj).elim
    ·omega
  rw [e, this]
 ·exact (q j hf hj).elim
theorem own_ixs_no {cs : List Int32} {f : Nat} {r : Int32} (h : own_ixs cs f r) (hn : ∀ i, f ≤ i → ¬ own_hit cs i) : r = -1 := by
 rcases h with ⟨i, e, q1, q2, q3⟩ | ⟨e, -⟩
 ·exact (hn i q1 q2).elim
 ·exact e
theorem own_ixc_at {cs : List Int32} {f j : Nat} {ch r : Int32} (h : own_ixc cs f ch r) (hf : f ≤ j) (hj : cs[j]? = some ch) (hn : ∀ i, f ≤ i → i < j → cs[i]? ≠ some ch) : r = Int32.ofNat j := by
 rcases h with ⟨i, e, q1, q2, q3⟩ | ⟨-, q⟩
 ·have : i = j := by
   by_cases a : i < j
   ·exact (hn i q1 a q2).elim
   ·by_cases b : j < i
    ·exact (q3 j hf b hj).elim
    ·omega
  rw [e, this]
 ·exact (q j hf hj).elim
theorem own_ixc_no {cs : List Int32} {f : Nat} {ch r : Int32} (h : own_ixc cs f ch r) (hn : ∀ i, f ≤ i → cs[i]? ≠ some ch) : r = -1 := by
 rcases h with ⟨i, e, q1, q2, q3⟩ | ⟨e, -⟩
 ·exact (hn i q1 q2).elim
 ·exact e
/-- no '{' from a up to b -/
def own_nb (cs : List Int32) (a b : Nat) : Prop := ∀ j, a ≤ j → j < b → cs[j]? ≠ some 123
/-- a placeholder: open, the key's end, whether a colon stands there, close -/
def own_pl (cs : List Int32) (o kt : Nat) (hc : Bool) (cl : Nat) : Prop :=
 o + 2 < kt ∧ kt ≤ cl ∧ cl < 22 ∧ cs[o]? = some 36 ∧ cs[o + 1]? = some 123 ∧ (∀ j c, o + 2 ≤ j → j < kt → cs[j]? = some c → c ≠ 123 ∧ c ≠ 125 ∧ c ≠ 58) ∧
  (∀ j c, kt < j → j < cl → cs[j]? = some c → c ≠ 123 ∧ c ≠ 125) ∧ cs[cl]? = some 125 ∧ ((hc = true ∧ kt < cl ∧ cs[kt]? = some 58) ∨ (hc = false ∧ kt = cl))
abbrev own_Pl : Type := Nat × Nat × Bool × Nat
def own_ps (cs : List Int32) : Nat → List own_Pl → Prop
 | f, [] => f ≤ 22 ∧ own_nb cs f 22
 | f, (o, kt, hc, cl) :: r => f ≤ o ∧ own_nb cs f o ∧ own_pl cs o kt hc cl ∧ own_ps cs (cl + 1) r
def own_lits (cs : List Int32) : Nat → List own_Pl → List (Option (List Int32))
 | f, [] => [some (own_sl cs f 22)]
 | f, (o, _, _, cl) :: r => some (own_sl cs f o) :: own_lits cs (cl + 1) r
def own_keys (cs : List Int32) : List own_Pl → List (Option (List Int32))
 | [] => []
 | (o, kt, _, _) :: r => some (own_sl cs (o + 2) kt) :: own_keys cs r
def own_fb (cs : List Int32) (kt cl : Nat) : Bool → Option (List Int32)
 | true => some (own_sl cs (kt + 1) cl)
 | false => none
def own_fbs (cs : List Int32) : List own_Pl → List (Option (List Int32))
 | [] => []
 | (_, kt, hc, cl) :: r => own_fb cs kt cl hc :: own_fbs cs r
theorem own_it0 {Z : State} {h : Heap} {cs : List Int32} {kt cl : Nat} : own_it Z h .null (own_fb cs kt cl false) := rfl
section Pl
variable {cs : List Int32} {f o kt cl : Nat} {hc : Bool} {r : Int32}
theorem own_pl_in (P : own_pl cs o kt hc cl) {j : Nat} {c : Int32} (h1 : o + 2 ≤ j) (h2 : j < cl) (e : cs[j]? = some c) : c ≠ 123 ∧ c ≠ 125 := by
 obtain ⟨a1, a2, a3, a4, a5, a6, a7, a8, a9⟩ := P
 by_cases q : j < kt
 ·have := a6 j c h1 q e; exact ⟨this.1, this.2.1⟩
 ·by_cases q2 : kt < j
  ·exact a7 j c q2 h2 e
  ·have : j = kt := by omega
   subst this
   rcases a9 with ⟨-, -, u⟩ | ⟨-, u⟩
   ·have := Option.some.inj (e.symm.trans u)
    subst this
    exact ⟨by decide, by decide⟩
   ·omega
theorem own_ix_nil (hl : cs.length = 22) (P : own_ps cs f []) (h : own_ixs cs f r) : r = -1 := by
 refine own_ixs_no h fun i hi u => ?_
 have := own_lt_of u.2
 exact P.2 (i + 1) (by omega) (by omega) u.2
theorem own_ix_cons {rs : List own_Pl} (P : own_ps cs f ((o, kt, hc, cl) :: rs)) (h : own_ixs cs f r) : r = Int32.ofNat o := by
 obtain ⟨q1, q2, q3, -⟩ := P
 obtain ⟨a1, a2, a3, a4, a5, -⟩ := q3
 refine own_ixs_at h q1 ⟨a4, a5⟩ fun i h1 h2 u => ?_
 by_cases e : i + 1 = o
 ·have := u.2
  rw [e, a4] at this
  exact absurd (Option.some.inj this) (by decide)
 ·exact q2 (i + 1) (by omega) (by omega) u.2
theorem own_ix_close (P : own_pl cs o kt hc cl) (h : own_ixc cs o 125 r) : r = Int32.ofNat cl := by
 have P' := P
 obtain ⟨a1, a2, a3, a4, a5, a6, a7, a8, a9⟩ := P'
 refine own_ixc_at h (by omega) a8 fun i h1 h2 u => ?_
 by_cases e : i = o
 ·rw [e, a4] at u; exact absurd (Option.some.inj u) (by decide)
 ·by_cases e2 : i = o + 1
  ·rw [e2, a5] at u; exact absurd (Option.some.inj u) (by decide)
  ·exact (own_pl_in P (by omega) h2 u).2 rfl
theorem own_no_hit (P : own_pl cs o kt hc cl) : ∀ i, ¬ own_hit (own_sl cs (o + 2) cl) i := fun i u => by
 by_cases q : i + 1 < cl - (o + 2)
 ·have e := u.2
  rw [own_sl_get q] at e
  exact (own_pl_in P (by omega) (by omega) e).1 rfl
 ·have e := u.2
  rw [own_sl_none (by omega)] at e
  cases e
theorem own_ix_col (P : own_pl cs o kt true cl) (h : own_ixc (own_sl cs (o + 2) cl) 0 58 r) : r = Int32.ofNat (kt - (o + 2)) := by
 obtain ⟨a1, a2, a3, a4, a5, a6, a7, a8, a9⟩ := P
 rcases a9 with ⟨-, b1, b2⟩ | ⟨u, -⟩
 ·refine own_ixc_at h (by omega) (by rw [own_sl_get (by omega)]; rw [show o + 2 + (kt - (o + 2)) = kt by omega]; exact b2) fun i h1 h2 u => ?_
  rw [own_sl_get (by omega)] at u
  exact (a6 _ _ (by omega) (by omega) u).2.2 rfl
 ·cases u
theorem own_ix_nocol (P : own_pl cs o kt false cl) (h : own_ixc (own_sl cs (o + 2) cl) 0 58 r) : r = -1 := by
 obtain ⟨a1, a2, a3, a4, a5, a6, a7, a8, a9⟩ := P
 rcases a9 with ⟨u, -⟩ | ⟨-, b1⟩
 ·cases u
 ·refine own_ixc_no h fun i _ u => ?_
  by_cases q : i < cl - (o + 2)
  ·rw [own_sl_get q] at u
   exact (a6 _ _ (by omega) (by omega) u).2.2 rfl
  ·rw [own_sl_none (by omega)] at u
   cases u
end Pl
def own_ok (cs : List Int32) : Prop := cs.length = 22 ∧ ∀ c ∈ cs, own_ch c
theorem own_ok.set {cs : List Int32} (h : own_ok cs) {i : Nat} {c : Int32} (hc : own_ch c) : own_ok (cs.set i c) := ⟨by rw [List.length_set]; exact h.1, fun d hd => (List.mem_or_eq_of_mem_set hd).elim (h.2 d) (fun e => e ▸ hc)⟩
theorem own_ga {cs : List Int32} {i j : Nat} {c : Int32} (h : j ≠ i) : (cs.set i c)[j]? = cs[j]? := List.getElem?_set_ne (Ne.symm h)
theorem own_gs {cs : List Int32} {i : Nat} {c : Int32} (h : i < cs.length) : (cs.set i c)[i]? = some c := List.getElem?_set_self h
abbrev own_kc (c : Int32) : Prop := c ≠ 123 ∧ c ≠ 125 ∧ c ≠ 58
abbrev own_dc (c : Int32) : Prop := c ≠ 123 ∧ c ≠ 125
theorem own_nb.set {cs : List Int32} {a b i : Nat} {c : Int32} (h : own_nb cs a b) (hc : c ≠ 123) : own_nb (cs.set i c) a b := fun j h1 h2 u => by
 by_cases e : j = i
 ·subst e
  have hl := own_lt_of u
  rw [List.length_set] at hl
  rw [own_gs hl] at u
  exact hc (Option.some.inj u)
 ·rw [own_ga e] at u
  exact h j h1 h2 u
theorem own_nb.out {cs : List Int32} {a b i : Nat} {c : Int32} (h : own_nb cs a b) (hi : b ≤ i ∨ i < a) : own_nb (cs.set i c) a b := fun j h1 h2 u => by
 rw [own_ga (by omega)] at u
 exact h j h1 h2 u
theorem own_nb.sub {cs : List Int32} {a b a' b' : Nat} (h : own_nb cs a b) (h1 : a ≤ a') (h2 : b' ≤ b) : own_nb cs a' b' := fun j q1 q2 => h j (by omega) (by omega)
theorem own_pl.set {cs : List Int32} {o kt cl i : Nat} {hc : Bool} {c : Int32} (P : own_pl cs o kt hc cl) (hi : cl < i) : own_pl (cs.set i c) o kt hc cl := by
 obtain ⟨a1, a2, a3, a4, a5, a6, a7, a8, a9⟩ := P
 refine ⟨a1, a2, a3, by rw [own_ga (by omega)]; exact a4, by rw [own_ga (by omega)]; exact a5, fun j d h1 h2 u => a6 j d h1 h2 (by rw [own_ga (by omega)] at u; exact u), fun j d h1 h2 u => a7 j d h1 h2 (by rw [own_ga (by omega)] at u; exact u), by rw [own_ga (by omega)]; exact a8, a9.imp (fun q => ⟨q.1, q.2.1, by rw [own_ga (by omega)]; exact q.2.2⟩) id⟩
/-- the placeholders read up to f -/
def own_pse (cs : List Int32) : Nat → List own_Pl → Nat → Prop
 | a, [], f => a = f
 | a, (o, kt, hc, cl) :: r, f => a ≤ o ∧ own_nb cs a o ∧ own_pl cs o kt hc cl ∧ own_pse cs (cl + 1) r f
theorem own_pse.le {cs : List Int32} : ∀ {r : List own_Pl} {a f : Nat}, own_pse cs a r f → a ≤ f
 | [], _, _, h => Nat.le_of_eq h
 | (o, kt, hc, cl) :: r, a, f, h => by
  have := own_pse.le h.2.2.2
  have h1 := h.1
  have h2 := h.2.2.1.1
  have h3 := h.2.2.1.2.1
  omega
theorem own_pse.set {cs : List Int32} {i : Nat} {c : Int32} : ∀ {r : List own_Pl} {a f : Nat}, own_pse cs a r f → f ≤ i → own_pse (cs.set i c) a r f
 | [], _, _, h, _ => h
 | (o, kt, hc, cl) :: r, a, f, h, hi => by
  have h0 := own_pse.le h.2.2.2
  have h1 := h.1
  have h2 := h.2.2.1.1
  have h3 := h.2.2.1.2.1
  exact ⟨h.1, h.2.1.out (Or.inl (by omega)), h.2.2.1.set (by omega), own_pse.set h.2.2.2 hi⟩
theorem own_pse.snoc {cs : List Int32} {o kt cl : Nat} {hc : Bool} : ∀ {r : List own_Pl} {a f : Nat}, own_pse cs a r f → f ≤ o → own_nb cs f o → own_pl cs o kt hc cl → own_pse cs a (r ++ [(o, kt, hc, cl)]) (cl + 1)
 | [], _, _, h, h1, h2, h3 => by
  have e : _ = _ := h
  subst e
  exact ⟨h1, h2, h3, rfl⟩
 | (o', kt', hc', cl') :: r, a, f, h, h1, h2, h3 => ⟨h.1, h.2.1, h.2.2.1, own_pse.snoc h.2.2.2 h1 h2 h3⟩
theorem own_pse.fin {cs : List Int32} : ∀ {r : List own_Pl} {a f : Nat}, own_pse cs a r f → f ≤ 22 → own_nb cs f 22 → own_ps cs a r
 | [], _, _, h, h1, h2 => by
  have e : _ = _ := h
  subst e
  exact ⟨h1, h2⟩
 | (o, kt, hc, cl) :: r, a, f, h, h1, h2 => ⟨h.1, h.2.1, h.2.2.1, own_pse.fin h.2.2.2 h1 h2⟩
/-- the key is being written -/
def own_K (cs : List Int32) (f o i : Nat) : Prop := f ≤ o ∧ own_nb cs f o ∧ cs[o]? = some 36 ∧ cs[o + 1]? = some 123 ∧ o + 2 < i ∧ (∀ j c, o + 2 ≤ j → j < i → cs[j]? = some c → own_kc c) ∧ own_nb cs i 22
/-- the default is being written -/
def own_D (cs : List Int32) (f o kt i : Nat) : Prop := f ≤ o ∧ own_nb cs f o ∧ cs[o]? = some 36 ∧ cs[o + 1]? = some 123 ∧ o + 2 < kt ∧ (∀ j c, o + 2 ≤ j → j < kt → cs[j]? = some c → own_kc c) ∧ kt < i ∧ cs[kt]? = some 58 ∧ (∀ j c, kt < j → j < i → cs[j]? = some c → own_dc c) ∧ own_nb cs i 22
def own_C (cs : List Int32) (f o kt : Nat) (hc : Bool) (i : Nat) (c0 : Int32) (df dt : Nat) : Prop := (hc = true ∧ ¬ c0 = 0 ∧ df = kt + 1 ∧ dt = i ∧ own_D cs f o kt i) ∨ (hc = false ∧ c0 = 0 ∧ kt = i ∧ own_K cs f o i)
def own_hf (c0 : Int32) (hc : Bool) (kt cl df dt : Nat) : Prop := (hc = true ∧ ¬ c0 = 0 ∧ df = kt + 1 ∧ dt = cl) ∨ (hc = false ∧ c0 = 0)
section Fill
variable {cs : List Int32} {f o kt i : Nat} {c : Int32}
theorem own_tK0 (h : own_ok cs) (hn : own_nb cs f 22) (hf : f ≤ o) (ho : o + 2 < 22) (hc : own_kc c) : own_K (((cs.set o 36).set (o + 1) 123).set (o + 2) c) f o (o + 3) := by
 have hl := h.1
 refine ⟨hf, ((((hn.sub (Nat.le_refl f) (by omega : o ≤ 22)).out (Or.inl (Nat.le_refl _)))).out (Or.inl (by omega))).out (Or.inl (by omega)), ?_, ?_, by omega, ?_, ?_⟩
 ·rw [own_ga (by omega), own_ga (by omega), own_gs (by omega)]
 ·rw [own_ga (by omega), own_gs (by rw [List.length_set]; omega)]
 ·intro j d h1 h2 u
  have e : j = o + 2 := by omega
  subst e
  rw [own_gs (by simp only [List.length_set]; omega)] at u
  exact Option.some.inj u ▸ hc
 ·exact (((hn.sub (by omega : f ≤ o + 3) (Nat.le_refl 22)).out (Or.inr (by omega))).out (Or.inr (by omega))).out (Or.inr (by omega))
theorem own_tK1 (h : own_ok cs) (hi : i < 22) (K : own_K cs f o i) (hc : own_kc c) : own_K (cs.set i c) f o (i + 1) := by
 have hl := h.1
 obtain ⟨a1, a2, a3, a4, a5, a6, a7⟩ := K
 refine ⟨a1, a2.out (Or.inl (by omega)), by rw [own_ga (by omega)]; exact a3, by rw [own_ga (by omega)]; exact a4, by omega, ?_, (a7.sub (by omega : i ≤ i + 1) (Nat.le_refl 22)).out (Or.inr (by omega))⟩
 intro j d h1 h2 u
 by_cases e : j = i
 ·subst e
  rw [own_gs (by omega)] at u
  exact Option.some.inj u ▸ hc
 ·rw [own_ga e] at u
  exact a6 j d h1 (by omega) u
theorem own_tD0 (h : own_ok cs) (hi : i < 22) (K : own_K cs f o i) : own_D (cs.set i 58) f o i (i + 1) := by
 have hl := h.1
 obtain ⟨a1, a2, a3, a4, a5, a6, a7⟩ := K
 refine ⟨a1, a2.out (Or.inl (by omega)), by rw [own_ga (by omega)]; exact a3, by rw [own_ga (by omega)]; exact a4, a5, ?_, by omega, own_gs (by omega), fun j d h1 h2 => by omega, (a7.sub (by omega : i ≤ i + 1) (Nat.le_refl 22)).out (Or.inr (by omega))⟩
 intro j d h1 h2 u
 rw [own_ga (by omega)] at u
 exact a6 j d h1 h2 u
theorem own_tD1 (h : own_ok cs) (hi : i < 22) (D : own_D cs f o kt i) (hc : own_dc c) : own_D (cs.set i c) f o kt (i + 1) := by
 have hl := h.1
 obtain ⟨a1, a2, a3, a4, a5, a6, a7, a8, a9, a10⟩ := D
 refine ⟨a1, a2.out (Or.inl (by omega)), by rw [own_ga (by omega)]; exact a3, by rw [own_ga (by omega)]; exact a4, a5, ?_, by omega, by rw [own_ga (by omega)]; exact a8, ?_, (a10.sub (by omega : i ≤ i + 1) (Nat.le_refl 22)).out (Or.inr (by omega))⟩
 ·intro j d h1 h2 u
  rw [own_ga (by omega)] at u
  exact a6 j d h1 h2 u
 ·intro j d h1 h2 u
  by_cases e : j = i
  ·subst e
   rw [own_gs (by omega)] at u
   exact Option.some.inj u ▸ hc
  ·rw [own_ga e] at u
   exact a9 j d h1 (by omega) u
theorem own_tC {hc : Bool} {c0 : Int32} {df dt : Nat} (h : own_ok cs) (hi : i < 22) (C : own_C cs f o kt hc i c0 df dt) : own_pl (cs.set i 125) o kt hc i ∧ own_nb (cs.set i 125) f o ∧ own_nb (cs.set i 125) (i + 1) 22 ∧ f ≤ o ∧ o < i ∧ own_hf c0 hc kt i df dt := by
 have hl := h.1
 rcases C with ⟨rfl, b1, b2, b3, a1, a2, a3, a4, a5, a6, a7, a8, a9, a10⟩ | ⟨rfl, b1, rfl, a1, a2, a3, a4, a5, a6, a7⟩
 ·refine ⟨⟨a5, by omega, hi, by rw [own_ga (by omega)]; exact a3, by rw [own_ga (by omega)]; exact a4, ?_, ?_, own_gs (by omega), Or.inl ⟨rfl, a7, by rw [own_ga (by omega)]; exact a8⟩⟩, a2.out (Or.inl (by omega)), (a10.sub (by omega : i ≤ i + 1) (Nat.le_refl 22)).out (Or.inr (by omega)), a1, by omega, Or.inl ⟨rfl, b1, b2, b3⟩⟩
  ·intro j d h1 h2 u
   rw [own_ga (by omega)] at u
   exact a6 j d h1 h2 u
  ·intro j d h1 h2 u
   rw [own_ga (by omega)] at u
   exact a9 j d h1 h2 u
 ·refine ⟨⟨a5, by omega, hi, by rw [own_ga (by omega)]; exact a3, by rw [own_ga (by omega)]; exact a4, ?_, fun j d h1 h2 => by omega, own_gs (by omega), Or.inr ⟨rfl, rfl⟩⟩, a2.out (Or.inl (by omega)), (a7.sub (by omega : kt ≤ kt + 1) (Nat.le_refl 22)).out (Or.inr (by omega)), a1, by omega, Or.inr ⟨rfl, b1⟩⟩
  intro j d h1 h2 u
  rw [own_ga (by omega)] at u
  exact a6 j d h1 h2 u
end Fill
def own_EL : List (String × Nat) := [("com/example/assemble/assemble/SettingText", 29), ("java/lang/StringLatin1", 151)]
theorem ef_rmCo (m : MethodId) (x0 : Nat) : entryFrame m #[(.ref x0)] 1 = mkF m 0 #[vr x0] [] := by first | (simp [entryFrame, mkF, argsToLocals, Value.category]; done) | rfl
theorem pn_0 : plainName "java/lang/String" = true := by first | (simp [plainName, overriddenIn]; done) | decide +kernel
theorem d14_0 : dk cD14 0 (.getstatic 38) 3 := by decide +kernel
theorem d14_3 : dk cD14 3 (.ifCond .eq 10) 3 := by decide +kernel
theorem d14_6 : dk cD14 6 (.aload_n 0) 1 := by decide +kernel
theorem d14_7 : dk cD14 7 (.getfield 15) 3 := by decide +kernel
theorem d14_10 : dk cD14 10 (.goto 4) 3 := by decide +kernel
theorem d14_14 : dk cD14 14 .ireturn 1 := by decide +kernel
def Q_rmCo (Z : State) (x : Nat) (cs : List Int32) (Gc : Int32) (h0 : Heap) (n0 : Nat) (v : Option Value) (h : Heap) (L : List Loc) : Prop := v = some (.int 0) ∧ Fr n0 L ∧ h = h0
theorem rmCo (l : Launch) (Z : State) (a0 : Array Value) (hw : own_H Z a0) (ws : List Jvm.Cond) (x : Nat) (cs : List Int32) (Gc : Int32) (h0 : Heap) (n0 : Nat) (XO0 : Old Z n0 h0) (Oc : Sta Z Z.heap "java/lang/String" "COMPACT_STRINGS" "Z" (.int Gc)) (Pc : ¬ (Gc = (0 : Int32))) (S_x : own_sr Z h0 x cs) :
  own_M l Z ym14 cD14 ws 1 (some .byte) (own_R 0 0 0 0) #[(.ref x)] h0 (Q_rmCo Z x cs Gc h0 n0) := by
 refine own_open (plainFor_of_name pn_0) ?_
 intro p e s m below meth c s₁ hx hby hlk hret hml hown hnm hZ X0 e0
 have hW := own_hW hw
 have N0 := Fr.nil n0
 refine oo (fun tt_ kk_ => castTop (ef_rmCo m x) kk_) ?_
 refine so (A := (s₁.setTop (mkF m 0 #[vr x] []))) ?_
 obtain ⟨hc_x, hl_x, t_x, kb_x, E_x, F_x, C_x, V_x⟩ := id S_x
 obtain ⟨T1, X1, e1, st1⟩ := getS2 X0 hx hZ hown (host := "") (Or.inl (hW 19 _ rfl)) Via.refl e0 (Oc.ext XO0.2) (g := (mkF m 0 #[vr x] [])) rfl (hb hby d14_0)
 refine oo st1 ?_
 have hb3_2 : ¬ (Gc = (0 : Int32)) := Pc
 refine oi (XS.ifNo X1.here hx rfl (hb hby d14_3) rfl ((if0 _ _).trans (feq hb3_2).1)) ?_
 refine so (A := (T1.setTop (mkF m 6 #[vr x] []))) ?_
 refine oi (XS.aloadN X1.here hx rfl (hb hby d14_6) rfl rfl) ?_
 obtain ⟨T3, X3, e3, st3⟩ := getF X1 hx hZ hown (host := "") (Or.inl (hW 31 _ rfl)) Via.refl e1 C_x (g := (mkF m 7 #[vr x] [(.ref x)])) rfl rfl (hb hby d14_7)
 refine oo st3 ?_
 refine oi (XS.goto X3.here hx rfl (pc0 := 10) (pc' := 14) rfl (hb hby d14_10) (by decide) (by decide)) ?_
 refine so (A := (T3.setTop (mkF m 14 #[vr x] [(.int 0)]))) ?_
 refine own_ret X3 hx hlk hret rfl (Or.inl ⟨rfl, by simp, _, rfl⟩) (hb hby d14_14) (by decide) (by decide) ?_
 rw [e3]
 exact ⟨rfl, N0, rfl⟩
theorem ef_rmIL (m : MethodId) (x0 : Nat) : entryFrame m #[(.ref x0)] 1 = mkF m 0 #[vr x0] [] := by first | (simp [entryFrame, mkF, argsToLocals, Value.category]; done) | rfl
theorem d15_0 : dk cD15 0 (.getstatic 38) 3 := by decide +kernel
theorem d15_3 : dk cD15 3 (.ifCond .eq 14) 3 := by decide +kernel
theorem d15_6 : dk cD15 6 (.aload_n 0) 1 := by decide +kernel
theorem d15_7 : dk cD15 7 (.getfield 15) 3 := by decide +kernel
theorem d15_10 : dk cD15 10 (.ifCond .ne 7) 3 := by decide +kernel
theorem d15_13 : dk cD15 13 (.iconst 1) 1 := by decide +kernel
theorem d15_14 : dk cD15 14 (.goto 4) 3 := by decide +kernel
theorem d15_18 : dk cD15 18 .ireturn 1 := by decide +kernel
def Q_rmIL (Z : State) (x : Nat) (cs : List Int32) (Gc : Int32) (h0 : Heap) (n0 : Nat) (v : Option Value) (h : Heap) (L : List Loc) : Prop := v = some (.int 1) ∧ Fr n0 L ∧ h = h0
theorem rmIL (l : Launch) (Z : State) (a0 : Array Value) (hw : own_H Z a0) (ws : List Jvm.Cond) (x : Nat) (cs : List Int32) (Gc : Int32) (h0 : Heap) (n0 : Nat) (XO0 : Old Z n0 h0) (Oc : Sta Z Z.heap "java/lang/String" "COMPACT_STRINGS" "Z" (.int Gc)) (Pc : ¬ (Gc = (0 : Int32))) (S_x : own_sr Z h0 x cs) :
  own_M l Z ym15 cD15 ws 1 (some .boolean) (own_R 0 0 0 0) #[(.ref x)] h0 (Q_rmIL Z x cs Gc h0 n0) := by
 refine own_open (plainFor_of_name pn_0) ?_
 intro p e s m below meth c s₁ hx hby hlk hret hml hown hnm hZ X0 e0
 have hW := own_hW hw
 have N0 := Fr.nil n0
 refine oo (fun tt_ kk_ => castTop (ef_rmIL m x) kk_) ?_
 refine so (A := (s₁.setTop (mkF m 0 #[vr x] []))) ?_
 obtain ⟨hc_x, hl_x, t_x, kb_x, E_x, F_x, C_x, V_x⟩ := id S_x
 obtain ⟨T1, X1, e1, st1⟩ := getS2 X0 hx hZ hown (host := "") (Or.inl (hW 19 _ rfl)) Via.refl e0 (Oc.ext XO0.2) (g := (mkF m 0 #[vr x] [])) rfl (hb hby d15_0)
 refine oo st1 ?_
 have hb3_2 : ¬ (Gc = (0 : Int32)) := Pc
 refine oi (XS.ifNo X1.here hx rfl (hb hby d15_3) rfl ((if0 _ _).trans (feq hb3_2).1)) ?_
 refine so (A := (T1.setTop (mkF m 6 #[vr x] []))) ?_
 refine oi (XS.aloadN X1.here hx rfl (hb hby d15_6) rfl rfl) ?_
 obtain ⟨T3, X3, e3, st3⟩ := getF X1 hx hZ hown (host := "") (Or.inl (hW 31 _ rfl)) Via.refl e1 C_x (g := (mkF m 7 #[vr x] [(.ref x)])) rfl rfl (hb hby d15_7)
 refine oo st3 ?_
 have hb10_4 : (0 : Int32) = (0 : Int32) := by decide
 refine oi (XS.ifNo X3.here hx rfl (hb hby d15_10) rfl ((if0 _ _).trans (teq hb10_4).2)) ?_
 refine oi (XS.iconst X3.here hx rfl (hb hby d15_13)) ?_
 refine oi (XS.goto X3.here hx rfl (pc0 := 14) (pc' := 18) rfl (hb hby d15_14) (by decide) (by decide)) ?_
 refine so (A := (T3.setTop (mkF m 18 #[vr x] [(.int 1)]))) ?_
 refine own_ret X3 hx hlk hret rfl (Or.inl ⟨rfl, by simp, _, rfl⟩) (hb hby d15_18) (by decide) (by decide) ?_
 rw [e3]
 exact ⟨rfl, N0, rfl⟩
theorem ef_rmLen (m : MethodId) (x0 : Nat) : entryFrame m #[(.ref x0)] 1 = mkF m 0 #[vr x0] [] := by first | (simp [entryFrame, mkF, argsToLocals, Value.category]; done) | rfl
theorem d19_0 : dk cD19 0 (.aload_n 0) 1 := by decide +kernel
theorem d19_1 : dk cD19 1 (.getfield 9) 3 := by decide +kernel
theorem d19_4 : dk cD19 4 .arraylength 1 := by decide +kernel
theorem d19_5 : dk cD19 5 (.aload_n 0) 1 := by decide +kernel
theorem d19_6 : dk cD19 6 (.invokevirtual 335) 3 := by decide +kernel
theorem pd_0 : parseMethodDescriptor "()B" = some ⟨[], some .byte⟩ := by decide +kernel
theorem d19_9 : dk cD19 9 .ishr 1 := by decide +kernel
theorem d19_10 : dk cD19 10 .ireturn 1 := by decide +kernel
def Q_rmLen (Z : State) (x : Nat) (cs : List Int32) (Gc : Int32) (h0 : Heap) (n0 : Nat) (v : Option Value) (h : Heap) (L : List Loc) : Prop := v = some (.int (Int32.ofNat cs.length)) ∧ Fr n0 L ∧ h = h0
theorem rmLen (l : Launch) (Z : State) (a0 : Array Value) (hw : own_H Z a0) (ws : List Jvm.Cond) (x : Nat) (cs : List Int32) (Gc : Int32) (h0 : Heap) (n0 : Nat) (XO0 : Old Z n0 h0) (Oc : Sta Z Z.heap "java/lang/String" "COMPACT_STRINGS" "Z" (.int Gc)) (Pc : ¬ (Gc = (0 : Int32))) (S_x : own_sr Z h0 x cs) :
  own_M l Z ym19 cD19 ws 1 (some .int) (own_R 1 0 0 13) #[(.ref x)] h0 (Q_rmLen Z x cs Gc h0 n0) := by
 refine own_open (plainFor_of_name pn_0) ?_
 intro p e s m below meth c s₁ hx hby hlk hret hml hown hnm hZ X0 e0
 have hW := own_hW hw
 have N0 := Fr.nil n0
 refine oo (fun tt_ kk_ => castTop (ef_rmLen m x) kk_) ?_
 refine so (A := (s₁.setTop (mkF m 0 #[vr x] []))) ?_
 obtain ⟨hc_x, hl_x, t_x, kb_x, E_x, F_x, C_x, V_x⟩ := id S_x
 refine oi (XS.aloadN X0.here hx rfl (hb hby d19_0) rfl rfl) ?_
 obtain ⟨T1, X1, e1, st1⟩ := getF X0 hx hZ hown (host := "") (Or.inl (hW 33 _ rfl)) Via.refl e0 F_x (g := (mkF m 1 #[vr x] [(.ref x)])) rfl rfl (hb hby d19_1)
 refine oo st1 ?_
 obtain ⟨cl2, Ar2, q2, S2, Ng2, H2, G2⟩ := id V_x
 refine oo (fun tt_ kk => X1.arraylength hx (by rw [e1]; exact Ar2.1) (State.isArrayOf_alike hZ.alike Ar2.2.1) (g := (mkF m 4 #[vr x] [(.ref t_x)])) rfl rfl (hb hby d19_4) _ (by rw [len_of S2 Ng2]; exact kk)) ?_
 refine oi (XS.aloadN X1.here hx rfl (hb hby d19_5) rfl rfl) ?_
 refine so (A := (T1.setTop (mkF m 6 #[vr x] [(.ref x), (.int (Int32.ofNat cs.length))]))) ?_
 obtain ⟨cq3, kq3, q3a, q3b, q3c⟩ := isOf hZ e1 E_x
 obtain ⟨_, T3, Lc3, X3, hQ3, st3⟩ := own_c1 X1 <| X1.virtualBack hx (y := ym14) (z := ym14) hown (mvT hZ (hW 85 _ rfl)) (mvT hZ (hW 86 _ rfl)) (notFace_of_selects (args := #[]) (mvT hZ (hW 88 _ rfl))) (mvT hZ (hW 88 _ rfl)) (mvT hZ (hW 87 _ rfl)) (by decide) (backOf (W := 1) (rmCo l Z a0 hw [] x cs Gc h0 n0 XO0 Oc Pc S_x) hZ (hW 89 _ rfl) (hW 8 _ rfl) (by decide) (by decide)) q3a q3c (g := (mkF m 6 #[vr x] [(.ref x), (.int (Int32.ofNat cs.length))])) rfl (by rw [hml]; rfl) (Steps.refl _) (argsL := []) (rest := [(.int (Int32.ofNat cs.length))]) (lenOf pd_0 rfl) rfl (Nat.le_of_eq rfl) (hb hby d19_6) (fun _ _ => ⟨rfl, e1, (by decide : 0 + 0 ≤ _), (by decide : 0 + 0 ≤ _)⟩)
 obtain ⟨rfl, Nq3, eh3⟩ := hQ3
 have N3 := Fr.app N0 Nq3
 refine oo (fun tt_ kk_ => st3.trans kk_) ?_
 refine oi (XS.ishr X3.here hx rfl (hb hby d19_9) rfl) ?_
 refine so (A := (T3.setTop (mkF m 10 #[vr x] [(.int ((Int32.ofNat cs.length) >>> ((0 : Int32) &&& 31)))]))) ?_
 refine own_ret X3 hx hlk hret rfl (Or.inl ⟨rfl, by simp, _, rfl⟩) (hb hby d19_10) (by decide) (by decide) ?_
 rw [eh3]
 exact ⟨by rw [own_shr0], N3, rfl⟩
theorem ef_rmEm (m : MethodId) (x0 : Nat) : entryFrame m #[(.ref x0)] 1 = mkF m 0 #[vr x0] [] := by first | (simp [entryFrame, mkF, argsToLocals, Value.category]; done) | rfl
theorem d55_0 : dk cD55 0 (.aload_n 0) 1 := by decide +kernel
theorem d55_1 : dk cD55 1 (.getfield 9) 3 := by decide +kernel
theorem d55_4 : dk cD55 4 .arraylength 1 := by decide +kernel
theorem d55_5 : dk cD55 5 (.ifCond .ne 7) 3 := by decide +kernel
theorem d55_12 : dk cD55 12 (.iconst 0) 1 := by decide +kernel
theorem d55_13 : dk cD55 13 .ireturn 1 := by decide +kernel
def Q_rmEm (Z : State) (x : Nat) (cs : List Int32) (h0 : Heap) (n0 : Nat) (v : Option Value) (h : Heap) (L : List Loc) : Prop := v = some (.int 0) ∧ Fr n0 L ∧ h = h0
theorem rmEm (l : Launch) (Z : State) (a0 : Array Value) (hw : own_H Z a0) (ws : List Jvm.Cond) (x : Nat) (cs : List Int32) (h0 : Heap) (n0 : Nat) (XO0 : Old Z n0 h0) (S_x : own_sr Z h0 x cs) (hp : 0 < cs.length) :
  own_M l Z ym55 cD55 ws 1 (some .boolean) (own_R 0 0 0 0) #[(.ref x)] h0 (Q_rmEm Z x cs h0 n0) := by
 refine own_open (plainFor_of_name pn_0) ?_
 intro p e s m below meth c s₁ hx hby hlk hret hml hown hnm hZ X0 e0
 have hW := own_hW hw
 have N0 := Fr.nil n0
 refine oo (fun tt_ kk_ => castTop (ef_rmEm m x) kk_) ?_
 refine so (A := (s₁.setTop (mkF m 0 #[vr x] []))) ?_
 obtain ⟨hc_x, hl_x, t_x, kb_x, E_x, F_x, C_x, V_x⟩ := id S_x
 refine oi (XS.aloadN X0.here hx rfl (hb hby d55_0) rfl rfl) ?_
 obtain ⟨T1, X1, e1, st1⟩ := getF X0 hx hZ hown (host := "") (Or.inl (hW 33 _ rfl)) Via.refl e0 F_x (g := (mkF m 1 #[vr x] [(.ref x)])) rfl rfl (hb hby d55_1)
 refine oo st1 ?_
 obtain ⟨cl2, Ar2, q2, S2, Ng2, H2, G2⟩ := id V_x
 refine oo (fun tt_ kk => X1.arraylength hx (by rw [e1]; exact Ar2.1) (State.isArrayOf_alike hZ.alike Ar2.2.1) (g := (mkF m 4 #[vr x] [(.ref t_x)])) rfl rfl (hb hby d55_4) _ (by rw [len_of S2 Ng2]; exact kk)) ?_
 have hb5_3 : ¬ ((Int32.ofNat cs.length) = (0 : Int32)) := fun q => Nat.ne_of_gt hp ((own_neq (b := 0) (by omega) (by omega)).mp q)
 refine oi (XS.ifYes X1.here hx rfl (pc0 := 5) (pc' := 12) rfl (hb hby d55_5) rfl ((if0 _ _).trans (feq hb5_3).2) (by decide) (by decide)) ?_
 refine so (A := (T1.setTop (mkF m 12 #[vr x] []))) ?_
 refine oi (XS.iconst X1.here hx rfl (hb hby d55_12)) ?_
 refine so (A := (T1.setTop (mkF m 13 #[vr x] [(.int 0)]))) ?_
 refine own_ret X1 hx hlk hret rfl (Or.inl ⟨rfl, by simp, _, rfl⟩) (hb hby d55_13) (by decide) (by decide) ?_
 rw [e1]
 exact ⟨rfl, N0, rfl⟩
theorem ef_rmTS (m : MethodId) (x0 : Nat) : entryFrame m #[(.ref x0)] 1 = mkF m 0 #[vr x0] [] := by first | (simp [entryFrame, mkF, argsToLocals, Value.category]; done) | rfl
theorem d53_0 : dk jdk_42_method_126_code 0 (.aload_n 0) 1 := by decide +kernel
theorem d53_1 : dk jdk_42_method_126_code 1 .areturn 1 := by decide +kernel
def Q_rmTS (Z : State) (x : Nat) (h0 : Heap) (n0 : Nat) (v : Option Value) (h : Heap) (L : List Loc) : Prop := v = some (.ref x) ∧ Fr n0 L ∧ h = h0
theorem rmTS (l : Launch) (Z : State) (a0 : Array Value) (hw : own_H Z a0) (ws : List Jvm.Cond) (x : Nat) (h0 : Heap) (n0 : Nat) (XO0 : Old Z n0 h0) :
  own_M l Z ym53 jdk_42_method_126_code ws 1 (some (.object "java/lang/String")) (own_R 0 0 0 0) #[(.ref x)] h0 (Q_rmTS Z x h0 n0) := by
 refine own_open (plainFor_of_name pn_0) ?_
 intro p e s m below meth c s₁ hx hby hlk hret hml hown hnm hZ X0 e0
 have hW := own_hW hw
 have N0 := Fr.nil n0
 refine oo (fun tt_ kk_ => castTop (ef_rmTS m x) kk_) ?_
 refine so (A := (s₁.setTop (mkF m 0 #[vr x] []))) ?_
 refine oi (XS.aloadN X0.here hx rfl (hb hby d53_0) rfl rfl) ?_
 refine so (A := (s₁.setTop (mkF m 1 #[vr x] [(.ref x)]))) ?_
 refine own_ret X0 hx hlk hret rfl (Or.inr (Or.inr (Or.inr (Or.inr ⟨rfl, rfl, rfl⟩)))) (hb hby d53_1) (by decide) (by decide) ?_
 rw [e0]
 exact ⟨rfl, N0, rfl⟩
theorem ef_rmES (m : MethodId) (x0 : Nat) (x1 : Nat) : entryFrame m #[(.ref x0), (.ref x1)] 3 = mkF m 0 #[vr x0, vr x1, uu] [] := by first | (simp [entryFrame, mkF, argsToLocals, Value.category]; done) | rfl
theorem d31_0 : dk cD31 0 (.aload_n 0) 1 := by decide +kernel
theorem d31_1 : dk cD31 1 (.aload_n 1) 1 := by decide +kernel
theorem d31_2 : dk cD31 2 (.if_acmp .ne 5) 3 := by decide +kernel
theorem d31_5 : dk cD31 5 (.iconst 1) 1 := by decide +kernel
theorem d31_6 : dk cD31 6 .ireturn 1 := by decide +kernel
def Q_rmES (Z : State) (x : Nat) (h0 : Heap) (n0 : Nat) (v : Option Value) (h : Heap) (L : List Loc) : Prop := v = some (.int 1) ∧ Fr n0 L ∧ h = h0
theorem rmES (l : Launch) (Z : State) (a0 : Array Value) (hw : own_H Z a0) (ws : List Jvm.Cond) (x : Nat) (h0 : Heap) (n0 : Nat) (XO0 : Old Z n0 h0) :
  own_M l Z ym31 cD31 ws 3 (some .boolean) (own_R 0 0 0 0) #[(.ref x), (.ref x)] h0 (Q_rmES Z x h0 n0) := by
 refine own_open (plainFor_of_name pn_0) ?_
 intro p e s m below meth c s₁ hx hby hlk hret hml hown hnm hZ X0 e0
 have hW := own_hW hw
 have N0 := Fr.nil n0
 refine oo (fun tt_ kk_ => castTop (ef_rmES m x x) kk_) ?_
 refine so (A := (s₁.setTop (mkF m 0 #[vr x, vr x, uu] []))) ?_
 refine oi (XS.aloadN X0.here hx rfl (hb hby d31_0) rfl rfl) ?_
 refine oi (XS.aloadN X0.here hx rfl (hb hby d31_1) rfl rfl) ?_
 refine oo (fun _ => Jvm.RoadKit.acmp (g := (mkF m 2 #[vr x, vr x, uu] [(.ref x), (.ref x)])) X0 hx rfl rfl rfl (pc0 := 2) (pc' := 5) (same := true) rfl (hb hby d31_2) rfl (decide_eq_true rfl) (by decide) (by decide)) ?_
 refine oi (XS.iconst X0.here hx rfl (hb hby d31_5)) ?_
 refine so (A := (s₁.setTop (mkF m 6 #[vr x, vr x, uu] [(.int 1)]))) ?_
 refine own_ret X0 hx hlk hret rfl (Or.inl ⟨rfl, by simp, _, rfl⟩) (hb hby d31_6) (by decide) (by decide) ?_
 rw [e0]
 exact ⟨rfl, N0, rfl⟩
theorem ef_rmX1 (m : MethodId) (x0 : Int32) (x1 : Int32) (x2 : Value) (hx2 : x2.isRef = true) : entryFrame m #[(.int x0), (.int x1), x2] 3 = mkF m 0 #[vi x0, vi x1, .val x2] [] := by rcases ref_cases hx2 with rfl | ⟨_, rfl⟩ <;> first | (simp [entryFrame, mkF, argsToLocals, Value.category]; done) | rfl
theorem pn_1 : plainName "jdk/internal/util/Preconditions" = true := by first | (simp [plainName, overriddenIn]; done) | decide +kernel
theorem d35_0 : dk cD35 0 (.iload_n 0) 1 := by decide +kernel
theorem d35_1 : dk cD35 1 (.ifCond .lt 8) 3 := by decide +kernel
theorem d35_4 : dk cD35 4 (.iload_n 0) 1 := by decide +kernel
theorem d35_5 : dk cD35 5 (.iload_n 1) 1 := by decide +kernel
theorem d35_6 : dk cD35 6 (.if_icmp .lt 10) 3 := by decide +kernel
theorem d35_16 : dk cD35 16 (.iload_n 0) 1 := by decide +kernel
theorem d35_17 : dk cD35 17 .ireturn 1 := by decide +kernel
def Q_rmX1 (Z : State) (ix : Int32) (nx : Int32) (fm : Value) (h0 : Heap) (n0 : Nat) (v : Option Value) (h : Heap) (L : List Loc) : Prop := v = some (.int ix) ∧ Fr n0 L ∧ h = h0
theorem rmX1 (l : Launch) (Z : State) (a0 : Array Value) (hw : own_H Z a0) (ws : List Jvm.Cond) (ix : Int32) (nx : Int32) (fm : Value) (h0 : Heap) (n0 : Nat) (XO0 : Old Z n0 h0) (q_0 : ¬ ix < (0 : Int32)) (q_n : ix < nx) (hfm : fm.isRef = true) :
  own_M l Z ym35 cD35 ws 3 (some .int) (own_R 0 0 0 0) #[(.int ix), (.int nx), fm] h0 (Q_rmX1 Z ix nx fm h0 n0) := by
 refine own_open (plainFor_of_name pn_1) ?_
 intro p e s m below meth c s₁ hx hby hlk hret hml hown hnm hZ X0 e0
 have hW := own_hW hw
 have N0 := Fr.nil n0
 refine oo (fun tt_ kk_ => castTop (ef_rmX1 m ix nx fm hfm) kk_) ?_
 refine so (A := (s₁.setTop (mkF m 0 #[vi ix, vi nx, .val fm] []))) ?_
 refine oi (XS.iloadN X0.here hx rfl (hb hby d35_0) rfl) ?_
 have hb1_1 : ¬ (ix < (0 : Int32)) := q_0
 refine oi (XS.ifNo X0.here hx rfl (hb hby d35_1) rfl ((if0 _ _).trans (flt hb1_1).1)) ?_
 refine so (A := (s₁.setTop (mkF m 4 #[vi ix, vi nx, .val fm] []))) ?_
 refine oi (XS.iloadN X0.here hx rfl (hb hby d35_4) rfl) ?_
 refine oi (XS.iloadN X0.here hx rfl (hb hby d35_5) rfl) ?_
 have hb6_2 : ix < nx := q_n
 refine oi (XS.icmpYes X0.here hx rfl (pc0 := 6) (pc' := 16) rfl (hb hby d35_6) rfl (tlt hb6_2).1 (by decide) (by decide)) ?_
 refine so (A := (s₁.setTop (mkF m 16 #[vi ix, vi nx, .val fm] []))) ?_
 refine oi (XS.iloadN X0.here hx rfl (hb hby d35_16) rfl) ?_
 refine so (A := (s₁.setTop (mkF m 17 #[vi ix, vi nx, .val fm] [(.int ix)]))) ?_
 refine own_ret X0 hx hlk hret rfl (Or.inl ⟨rfl, by simp, _, rfl⟩) (hb hby d35_17) (by decide) (by decide) ?_
 rw [e0]
 exact ⟨rfl, N0, rfl⟩
theorem ef_rmX2 (m : MethodId) (x0 : Int32) (x1 : Int32) : entryFrame m #[(.int x0), (.int x1)] 2 = mkF m 0 #[vi x0, vi x1] [] := by first | (simp [entryFrame, mkF, argsToLocals, Value.category]; done) | rfl
theorem pn_2 : plainName "java/util/Objects" = true := by first | (simp [plainName, overriddenIn]; done) | decide +kernel
theorem d34_0 : dk cD34 0 (.iload_n 0) 1 := by decide +kernel
theorem d34_1 : dk cD34 1 (.iload_n 1) 1 := by decide +kernel
theorem d34_2 : dk cD34 2 .aconst_null 1 := by decide +kernel
theorem d34_3 : dk cD34 3 (.invokestatic 105) 3 := by decide +kernel
theorem pd_1 : parseMethodDescriptor "(IILjava/util/function/BiFunction;)I" = some ⟨[.int, .int, (.object "java/util/function/BiFunction")], some .int⟩ := by decide +kernel
theorem d34_6 : dk cD34 6 .ireturn 1 := by decide +kernel
def Q_rmX2 (Z : State) (ix : Int32) (nx : Int32) (h0 : Heap) (n0 : Nat) (v : Option Value) (h : Heap) (L : List Loc) : Prop := v = some (.int ix) ∧ Fr n0 L ∧ h = h0
theorem rmX2 (l : Launch) (Z : State) (a0 : Array Value) (hw : own_H Z a0) (ws : List Jvm.Cond) (ix : Int32) (nx : Int32) (h0 : Heap) (n0 : Nat) (XO0 : Old Z n0 h0) (q_0 : ¬ ix < (0 : Int32)) (q_n : ix < nx) :
  own_M l Z ym34 cD34 ws 2 (some .int) (own_R 1 0 0 14) #[(.int ix), (.int nx)] h0 (Q_rmX2 Z ix nx h0 n0) := by
 refine own_open (plainFor_of_name pn_2) ?_
 intro p e s m below meth c s₁ hx hby hlk hret hml hown hnm hZ X0 e0
 have hW := own_hW hw
 have N0 := Fr.nil n0
 refine oo (fun tt_ kk_ => castTop (ef_rmX2 m ix nx) kk_) ?_
 refine so (A := (s₁.setTop (mkF m 0 #[vi ix, vi nx] []))) ?_
 refine oi (XS.iloadN X0.here hx rfl (hb hby d34_0) rfl) ?_
 refine oi (XS.iloadN X0.here hx rfl (hb hby d34_1) rfl) ?_
 refine oi (XS.aconstNull X0.here hx rfl (hb hby d34_2)) ?_
 refine so (A := (s₁.setTop (mkF m 3 #[vi ix, vi nx] [.null, (.int nx), (.int ix)]))) ?_
 obtain ⟨_, T1, Lc1, X1, hQ1, st1⟩ := own_c1 X0 <| Jvm.LawKit.callS X0 hx (y := ym35) hown (mvT hZ (hW 200 _ rfl)) (mvT hZ (hW 201 _ rfl)) (mvT hZ (hW 121 _ rfl)) (mvT hZ (hW 202 _ rfl)) (by decide) (backOf (W := 0) (rmX1 l Z a0 hw [] ix nx .null h0 n0 XO0 q_0 q_n rfl) hZ (hW 202 _ rfl) (hW 121 _ rfl) (by decide) (by decide)) (g := (mkF m 3 #[vi ix, vi nx] [.null, (.int nx), (.int ix)])) rfl (by rw [hml]; rfl) (argsL := [(.int ix), (.int nx), .null]) (rest := []) (lenOf pd_1 rfl) rfl (Nat.le_of_eq rfl) (hb hby d34_3) (fun _ _ => ⟨rfl, e0, (by decide : 0 + 0 ≤ _), (by decide : 0 + 0 ≤ _)⟩)
 obtain ⟨rfl, Nq1, eh1⟩ := hQ1
 have N1 := Fr.app N0 Nq1
 refine oo st1 ?_
 refine so (A := (T1.setTop (mkF m 6 #[vi ix, vi nx] [(.int ix)]))) ?_
 refine own_ret X1 hx hlk hret rfl (Or.inl ⟨rfl, by simp, _, rfl⟩) (hb hby d34_6) (by decide) (by decide) ?_
 rw [eh1]
 exact ⟨rfl, N1, rfl⟩
theorem ef_rmX3 (m : MethodId) (x0 : Int32) (x1 : Int32) : entryFrame m #[(.int x0), (.int x1)] 2 = mkF m 0 #[vi x0, vi x1] [] := by first | (simp [entryFrame, mkF, argsToLocals, Value.category]; done) | rfl
theorem d40_0 : dk cD40 0 (.iload_n 0) 1 := by decide +kernel
theorem d40_1 : dk cD40 1 (.iload_n 1) 1 := by decide +kernel
theorem d40_2 : dk cD40 2 (.getstatic 1053) 3 := by decide +kernel
theorem d40_5 : dk cD40 5 (.invokestatic 1059) 3 := by decide +kernel
theorem d40_8 : dk cD40 8 .pop 1 := by decide +kernel
theorem d40_9 : dk cD40 9 .return_ 1 := by decide +kernel
def Q_rmX3 (Z : State) (ix : Int32) (nx : Int32) (fm : Value) (h0 : Heap) (n0 : Nat) (v : Option Value) (h : Heap) (L : List Loc) : Prop := v = none ∧ Fr n0 L ∧ h = h0
theorem rmX3 (l : Launch) (Z : State) (a0 : Array Value) (hw : own_H Z a0) (ws : List Jvm.Cond) (ix : Int32) (nx : Int32) (fm : Value) (h0 : Heap) (n0 : Nat) (XO0 : Old Z n0 h0) (q_0 : ¬ ix < (0 : Int32)) (q_n : ix < nx) (Of : Sta Z Z.heap "jdk/internal/util/Preconditions" "SIOOBE_FORMATTER" "Ljava/util/function/BiFunction;" fm) (hfm : fm.isRef = true) :
  own_M l Z ym40 cD40 ws 2 none (own_R 1 0 0 14) #[(.int ix), (.int nx)] h0 (Q_rmX3 Z ix nx fm h0 n0) := by
 refine own_open (plainFor_of_name pn_0) ?_
 intro p e s m below meth c s₁ hx hby hlk hret hml hown hnm hZ X0 e0
 have hW := own_hW hw
 have N0 := Fr.nil n0
 refine oo (fun tt_ kk_ => castTop (ef_rmX3 m ix nx) kk_) ?_
 refine so (A := (s₁.setTop (mkF m 0 #[vi ix, vi nx] []))) ?_
 refine oi (XS.iloadN X0.here hx rfl (hb hby d40_0) rfl) ?_
 refine oi (XS.iloadN X0.here hx rfl (hb hby d40_1) rfl) ?_
 obtain ⟨T1, X1, e1, st1⟩ := getS2 X0 hx hZ hown (host := "") (Or.inl (hW 120 _ rfl)) Via.refl e0 (Of.ext XO0.2) (g := (mkF m 2 #[vi ix, vi nx] [(.int nx), (.int ix)])) rfl (hb hby d40_2)
 refine oo st1 ?_
 refine so (A := (T1.setTop (mkF m 5 #[vi ix, vi nx] [fm, (.int nx), (.int ix)]))) ?_
 obtain ⟨_, T2, Lc2, X2, hQ2, st2⟩ := own_c1 X1 <| Jvm.LawKit.callS X1 hx (y := ym35) hown (mvT hZ (hW 224 _ rfl)) (mvT hZ (hW 201 _ rfl)) (mvT hZ (hW 121 _ rfl)) (mvT hZ (hW 202 _ rfl)) (by decide) (backOf (W := 0) (rmX1 l Z a0 hw [] ix nx fm h0 n0 XO0 q_0 q_n hfm) hZ (hW 202 _ rfl) (hW 121 _ rfl) (by decide) (by decide)) (g := (mkF m 5 #[vi ix, vi nx] [fm, (.int nx), (.int ix)])) rfl (by rw [hml]; rfl) (argsL := [(.int ix), (.int nx), fm]) (rest := []) (lenOf pd_1 rfl) rfl (Nat.le_of_eq rfl) (hb hby d40_5) (fun _ _ => ⟨rfl, e1, (by decide : 0 + 0 ≤ _), (by decide : 0 + 0 ≤ _)⟩)
 obtain ⟨rfl, Nq2, eh2⟩ := hQ2
 have N2 := Fr.app N0 Nq2
 refine oo st2 ?_
 refine oi (XS.pop X2.here hx rfl (hb hby d40_8) rfl rfl) ?_
 refine so (A := (T2.setTop (mkF m 9 #[vi ix, vi nx] []))) ?_
 refine own_retV X2 hx hlk hret (hb hby d40_9) (by decide) (by decide) ?_
 rw [eh2]
 exact ⟨rfl, N2, rfl⟩
theorem ef_rmC1 (m : MethodId) (x0 : Nat) (x1 : Int32) : entryFrame m #[(.ref x0), (.int x1)] 2 = mkF m 0 #[vr x0, vi x1] [] := by first | (simp [entryFrame, mkF, argsToLocals, Value.category]; done) | rfl
theorem pn_3 : plainName "java/lang/StringLatin1" = true := by first | (simp [plainName, overriddenIn]; done) | decide +kernel
theorem d39_0 : dk cD39 0 (.iload_n 1) 1 := by decide +kernel
theorem d39_1 : dk cD39 1 (.aload_n 0) 1 := by decide +kernel
theorem d39_2 : dk cD39 2 .arraylength 1 := by decide +kernel
theorem d39_3 : dk cD39 3 (.invokestatic 9) 3 := by decide +kernel
theorem pd_2 : parseMethodDescriptor "(II)V" = some ⟨[.int, .int], none⟩ := by decide +kernel
theorem d39_6 : dk cD39 6 (.aload_n 0) 1 := by decide +kernel
theorem d39_7 : dk cD39 7 (.iload_n 1) 1 := by decide +kernel
theorem d39_8 : dk cD39 8 .baload 1 := by decide +kernel
theorem d39_9 : dk cD39 9 (.sipush 255) 3 := by decide +kernel
theorem d39_12 : dk cD39 12 .iand 1 := by decide +kernel
theorem d39_13 : dk cD39 13 .i2c 1 := by decide +kernel
theorem d39_14 : dk cD39 14 .ireturn 1 := by decide +kernel
def Q_rmC1 (Z : State) (t : Nat) (kb : ClassId) (cs : List Int32) (j : Nat) (cc : Int32) (fm : Value) (h0 : Heap) (n0 : Nat) (v : Option Value) (h : Heap) (L : List Loc) : Prop := v = some (.int cc) ∧ Fr n0 L ∧ h = h0
theorem rmC1 (l : Launch) (Z : State) (a0 : Array Value) (hw : own_H Z a0) (ws : List Jvm.Cond) (t : Nat) (kb : ClassId) (cs : List Int32) (j : Nat) (cc : Int32) (fm : Value) (h0 : Heap) (n0 : Nat) (XO0 : Old Z n0 h0) (Of : Sta Z Z.heap "jdk/internal/util/Preconditions" "SIOOBE_FORMATTER" "Ljava/util/function/BiFunction;" fm) (hfm : fm.isRef = true) (V_t : Arv Z h0 t kb .byte (Int32.ofNat cs.length) (cs.map fun c => Value.int (own_lo8 c)) (.int 0)) (hcs : ∀ c ∈ cs, own_ch c) (hcl : cs.length ≤ 22) (hj : cs[j]? = some cc) :
  own_M l Z ym39 cD39 ws 2 (some .char) (own_R 2 0 0 27) #[(.ref t), (.int (Int32.ofNat j))] h0 (Q_rmC1 Z t kb cs j cc fm h0 n0) := by
 refine own_open (plainFor_of_name pn_3) ?_
 intro p e s m below meth c s₁ hx hby hlk hret hml hown hnm hZ X0 e0
 have hW := own_hW hw
 have N0 := Fr.nil n0
 refine oo (fun tt_ kk_ => castTop (ef_rmC1 m t (Int32.ofNat j)) kk_) ?_
 refine so (A := (s₁.setTop (mkF m 0 #[vr t, vn j] []))) ?_
 have hjl := own_lt_of hj
 refine oi (XS.iloadN X0.here hx rfl (hb hby d39_0) rfl) ?_
 refine oi (XS.aloadN X0.here hx rfl (hb hby d39_1) rfl rfl) ?_
 obtain ⟨cl1, Ar1, q1, S1, Ng1, H1, G1⟩ := id V_t
 refine oo (fun tt_ kk => X0.arraylength hx (by rw [e0]; exact Ar1.1) (State.isArrayOf_alike hZ.alike Ar1.2.1) (g := (mkF m 2 #[vr t, vn j] [(.ref t), (.int (Int32.ofNat j))])) rfl rfl (hb hby d39_2) _ (by rw [len_of S1 Ng1]; exact kk)) ?_
 refine so (A := (s₁.setTop (mkF m 3 #[vr t, vn j] [(.int (Int32.ofNat cs.length)), (.int (Int32.ofNat j))]))) ?_
 obtain ⟨_, T2, Lc2, X2, hQ2, st2⟩ := own_c1 X0 <| Jvm.LawKit.callS X0 hx (y := ym40) hown (mvT hZ (hW 221 _ rfl)) (mvT hZ (hW 222 _ rfl)) (mvT hZ (hW 8 _ rfl)) (mvT hZ (hW 223 _ rfl)) (by decide) (backOf (W := 0) (rmX3 l Z a0 hw [] (Int32.ofNat j) (Int32.ofNat cs.length) fm h0 n0 XO0 (own_inn hjl (by omega)).1 (own_inn hjl (by omega)).2 Of hfm) hZ (hW 223 _ rfl) (hW 8 _ rfl) (by decide) (by decide)) (g := (mkF m 3 #[vr t, vn j] [(.int (Int32.ofNat cs.length)), (.int (Int32.ofNat j))])) rfl (by rw [hml]; rfl) (argsL := [(.int (Int32.ofNat j)), (.int (Int32.ofNat cs.length))]) (rest := []) (lenOf pd_2 rfl) rfl (Nat.le_of_eq rfl) (hb hby d39_3) (fun _ _ => ⟨rfl, e0, (by decide : 0 + 0 ≤ _), (by decide : 0 + 0 ≤ _)⟩)
 obtain ⟨rfl, Nq2, eh2⟩ := hQ2
 have N2 := Fr.app N0 Nq2
 refine oo st2 ?_
 refine oi (XS.aloadN X2.here hx rfl (hb hby d39_6) rfl rfl) ?_
 refine oi (XS.iloadN X2.here hx rfl (hb hby d39_7) rfl) ?_
 refine so (A := (T2.setTop (mkF m 8 #[vr t, vn j] [(.int (Int32.ofNat j)), (.ref t)]))) ?_
 obtain ⟨cl3, Ar3, q3, S3, Ng3, H3, G3⟩ := id V_t
 have hin3 : ¬ ((Int32.ofNat j) < 0 ∨ cl3.slots.size ≤ ((Int32.ofNat j)).toNatClampNeg) := inb_of S3 (own_inn hjl (by omega))
 have hat3 : cl3.slots[((Int32.ofNat j)).toNatClampNeg]? = some (.int (own_lo8 cc)) := Has.at H3 hin3 (own_hget (by omega) hj)
 refine oo (fun _ => X2.baloadBytes hx (j := (Int32.ofNat j)) (v := (.int (own_lo8 cc))) (by rw [eh2]; exact Ar3.1) (State.isArrayOf_alike hZ.alike Ar3.2.1) Ar3.2.2 hin3 hat3 (g := (mkF m 8 #[vr t, vn j] [(.int (Int32.ofNat j)), (.ref t)])) rfl rfl (hb hby d39_8) _) ?_
 refine oi (XS.sipush X2.here hx rfl (hb hby d39_9)) ?_
 refine oi (XS.iand X2.here hx rfl (hb hby d39_12) rfl) ?_
 refine oi (XS.i2c X2.here hx rfl (hb hby d39_13) rfl) ?_
 refine so (A := (T2.setTop (mkF m 14 #[vr t, vn j] [(.int (((own_lo8 cc) &&& (255 : Int32)).toUInt32.toUInt16.toUInt32.toInt32))]))) ?_
 refine own_ret X2 hx hlk hret (XT.narrow_c _) (Or.inl ⟨rfl, by simp, _, rfl⟩) (hb hby d39_14) (by decide) (by decide) ?_
 rw [eh2]
 exact ⟨by rw [own_lo_mask (hcs cc (own_mem_of hj)), own_c16 (hcs cc (own_mem_of hj))], N2, rfl⟩
theorem ef_rmCh (m : MethodId) (x0 : Nat) (x1 : Int32) : entryFrame m #[(.ref x0), (.int x1)] 2 = mkF m 0 #[vr x0, vi x1] [] := by first | (simp [entryFrame, mkF, argsToLocals, Value.category]; done) | rfl
theorem d38_0 : dk cD38 0 (.aload_n 0) 1 := by decide +kernel
theorem d38_1 : dk cD38 1 (.invokevirtual 492) 3 := by decide +kernel
theorem pd_3 : parseMethodDescriptor "()Z" = some ⟨[], some .boolean⟩ := by decide +kernel
theorem d38_4 : dk cD38 4 (.ifCond .eq 12) 3 := by decide +kernel
theorem d38_7 : dk cD38 7 (.aload_n 0) 1 := by decide +kernel
theorem d38_8 : dk cD38 8 (.getfield 9) 3 := by decide +kernel
theorem d38_11 : dk cD38 11 (.iload_n 1) 1 := by decide +kernel
theorem d38_12 : dk cD38 12 (.invokestatic 495) 3 := by decide +kernel
theorem pd_4 : parseMethodDescriptor "([BI)C" = some ⟨[(.array .byte), .int], some .char⟩ := by decide +kernel
theorem d38_15 : dk cD38 15 .ireturn 1 := by decide +kernel
def Q_rmCh (Z : State) (x : Nat) (cs : List Int32) (j : Nat) (cc : Int32) (Gc : Int32) (fm : Value) (h0 : Heap) (n0 : Nat) (v : Option Value) (h : Heap) (L : List Loc) : Prop := v = some (.int cc) ∧ Fr n0 L ∧ h = h0
theorem rmCh (l : Launch) (Z : State) (a0 : Array Value) (hw : own_H Z a0) (ws : List Jvm.Cond) (x : Nat) (cs : List Int32) (j : Nat) (cc : Int32) (Gc : Int32) (fm : Value) (h0 : Heap) (n0 : Nat) (XO0 : Old Z n0 h0) (Oc : Sta Z Z.heap "java/lang/String" "COMPACT_STRINGS" "Z" (.int Gc)) (Pc : ¬ (Gc = (0 : Int32))) (Of : Sta Z Z.heap "jdk/internal/util/Preconditions" "SIOOBE_FORMATTER" "Ljava/util/function/BiFunction;" fm) (hfm : fm.isRef = true) (S_x : own_sr Z h0 x cs) (hj : cs[j]? = some cc) :
  own_M l Z ym38 cD38 ws 2 (some .char) (own_R 3 0 0 40) #[(.ref x), (.int (Int32.ofNat j))] h0 (Q_rmCh Z x cs j cc Gc fm h0 n0) := by
 refine own_open (plainFor_of_name pn_0) ?_
 intro p e s m below meth c s₁ hx hby hlk hret hml hown hnm hZ X0 e0
 have hW := own_hW hw
 have N0 := Fr.nil n0
 refine oo (fun tt_ kk_ => castTop (ef_rmCh m x (Int32.ofNat j)) kk_) ?_
 refine so (A := (s₁.setTop (mkF m 0 #[vr x, vn j] []))) ?_
 obtain ⟨hc_x, hl_x, t_x, kb_x, E_x, F_x, C_x, V_x⟩ := id S_x
 refine oi (XS.aloadN X0.here hx rfl (hb hby d38_0) rfl rfl) ?_
 refine so (A := (s₁.setTop (mkF m 1 #[vr x, vn j] [(.ref x)]))) ?_
 obtain ⟨cq1, kq1, q1a, q1b, q1c⟩ := isOf hZ e0 E_x
 obtain ⟨_, T1, Lc1, X1, hQ1, st1⟩ := own_c1 X0 <| X0.virtualBack hx (y := ym15) (z := ym15) hown (mvT hZ (hW 90 _ rfl)) (mvT hZ (hW 91 _ rfl)) (notFace_of_selects (args := #[]) (mvT hZ (hW 93 _ rfl))) (mvT hZ (hW 93 _ rfl)) (mvT hZ (hW 92 _ rfl)) (by decide) (backOf (W := 0) (rmIL l Z a0 hw [] x cs Gc h0 n0 XO0 Oc Pc S_x) hZ (hW 94 _ rfl) (hW 8 _ rfl) (by decide) (by decide)) q1a q1c (g := (mkF m 1 #[vr x, vn j] [(.ref x)])) rfl (by rw [hml]; rfl) (Steps.refl _) (argsL := []) (rest := []) (lenOf pd_3 rfl) rfl (Nat.le_of_eq rfl) (hb hby d38_1) (fun _ _ => ⟨rfl, e0, (by decide : 0 + 0 ≤ _), (by decide : 0 + 0 ≤ _)⟩)
 obtain ⟨rfl, Nq1, eh1⟩ := hQ1
 have N1 := Fr.app N0 Nq1
 refine oo (fun tt_ kk_ => st1.trans kk_) ?_
 have hb4_2 : ¬ ((1 : Int32) = (0 : Int32)) := by decide
 refine oi (XS.ifNo X1.here hx rfl (hb hby d38_4) rfl ((if0 _ _).trans (feq hb4_2).1)) ?_
 refine oi (XS.aloadN X1.here hx rfl (hb hby d38_7) rfl rfl) ?_
 obtain ⟨T3, X3, e3, st3⟩ := getF X1 hx hZ hown (host := "") (Or.inl (hW 33 _ rfl)) Via.refl eh1 F_x (g := (mkF m 8 #[vr x, vn j] [(.ref x)])) rfl rfl (hb hby d38_8)
 refine oo st3 ?_
 refine oi (XS.iloadN X3.here hx rfl (hb hby d38_11) rfl) ?_
 refine so (A := (T3.setTop (mkF m 12 #[vr x, vn j] [(.int (Int32.ofNat j)), (.ref t_x)]))) ?_
 obtain ⟨_, T4, Lc4, X4, hQ4, st4⟩ := own_c1 X3 <| Jvm.LawKit.callS X3 hx (y := ym39) hown (mvT hZ (hW 218 _ rfl)) (mvT hZ (hW 219 _ rfl)) (mvT hZ (hW 97 _ rfl)) (mvT hZ (hW 220 _ rfl)) (by decide) (backOf (W := 0) (rmC1 l Z a0 hw [] t_x kb_x cs j cc fm h0 n0 XO0 Of hfm V_x hc_x hl_x hj) hZ (hW 220 _ rfl) (hW 97 _ rfl) (by decide) (by decide)) (g := (mkF m 12 #[vr x, vn j] [(.int (Int32.ofNat j)), (.ref t_x)])) rfl (by rw [hml]; rfl) (argsL := [(.ref t_x), (.int (Int32.ofNat j))]) (rest := []) (lenOf pd_4 rfl) rfl (Nat.le_of_eq rfl) (hb hby d38_12) (fun _ _ => ⟨rfl, e3, (by decide : 0 + 0 ≤ _), (by decide : 0 + 0 ≤ _)⟩)
 obtain ⟨rfl, Nq4, eh4⟩ := hQ4
 have N4 := Fr.app N1 Nq4
 refine oo st4 ?_
 refine so (A := (T4.setTop (mkF m 15 #[vr x, vn j] [(.int cc)]))) ?_
 refine own_ret X4 hx hlk hret (congrArg Value.int (own_nar (hc_x cc (own_mem_of hj)))) (Or.inl ⟨rfl, by simp, _, rfl⟩) (hb hby d38_15) (by decide) (by decide) ?_
 rw [eh4]
 exact ⟨rfl, N4, rfl⟩
theorem ef_rmIC (m : MethodId) (x0 : Nat) (x1 : Int32) (x2 : Int32) (x3 : Int32) : entryFrame m #[(.ref x0), (.int x1), (.int x2), (.int x3)] 6 = mkF m 0 #[vr x0, vi x1, vi x2, vi x3, uu, uu] [] := by first | (simp [entryFrame, mkF, argsToLocals, Value.category]; done) | rfl
theorem d46_0 : dk cD46 0 (.iload_n 1) 1 := by decide +kernel
theorem d46_1 : dk cD46 1 .i2b 1 := by decide +kernel
theorem d46_2 : dk cD46 2 (.istore 4) 2 := by decide +kernel
theorem d46_4 : dk cD46 4 (.iload_n 2) 1 := by decide +kernel
theorem d46_5 : dk cD46 5 (.istore 5) 2 := by decide +kernel
theorem d46_7 : dk cD46 7 (.iload 5) 2 := by decide +kernel
theorem d46_9 : dk cD46 9 (.iload_n 3) 1 := by decide +kernel
theorem d46_10 : dk cD46 10 (.if_icmp .ge 21) 3 := by decide +kernel
theorem d46_13 : dk cD46 13 (.aload_n 0) 1 := by decide +kernel
theorem d46_14 : dk cD46 14 (.iload 5) 2 := by decide +kernel
theorem d46_16 : dk cD46 16 .baload 1 := by decide +kernel
theorem d46_17 : dk cD46 17 (.iload 4) 2 := by decide +kernel
theorem d46_19 : dk cD46 19 (.if_icmp .ne 6) 3 := by decide +kernel
theorem d46_22 : dk cD46 22 (.iload 5) 2 := by decide +kernel
theorem d46_24 : dk cD46 24 .ireturn 1 := by decide +kernel
theorem d46_25 : dk cD46 25 (.iinc 5 1) 3 := by decide +kernel
theorem d46_28 : dk cD46 28 (.goto (-21)) 3 := by decide +kernel
theorem d46_31 : dk cD46 31 (.iconst (-1)) 1 := by decide +kernel
theorem d46_32 : dk cD46 32 .ireturn 1 := by decide +kernel
def Q_rmIC (Z : State) (t : Nat) (kb : ClassId) (cs : List Int32) (ch : Int32) (f : Nat) (h0 : Heap) (n0 : Nat) (v : Option Value) (h : Heap) (L : List Loc) : Prop := ∃ r : Int32, v = some (.int r) ∧ own_ixc cs f ch r ∧ Fr n0 L ∧ h = h0
theorem rmIC (l : Launch) (Z : State) (a0 : Array Value) (hw : own_H Z a0) (ws : List Jvm.Cond) (t : Nat) (kb : ClassId) (cs : List Int32) (ch : Int32) (f : Nat) (h0 : Heap) (n0 : Nat) (XO0 : Old Z n0 h0) (V_t : Arv Z h0 t kb .byte (Int32.ofNat cs.length) (cs.map fun c => Value.int (own_lo8 c)) (.int 0)) (hcs : ∀ c ∈ cs, own_ch c) (hcl : cs.length ≤ 22) (hf : f ≤ cs.length) (hch : own_ch ch) :
  own_M l Z ym46 cD46 ws 6 (some .int) (own_R 0 0 0 0) #[(.ref t), (.int ch), (.int (Int32.ofNat f)), (.int (Int32.ofNat cs.length))] h0 (Q_rmIC Z t kb cs ch f h0 n0) := by
 refine own_open (plainFor_of_name pn_3) ?_
 intro p e s m below meth c s₁ hx hby hlk hret hml hown hnm hZ X0 e0
 have hW := own_hW hw
 have N0 := Fr.nil n0
 refine oo (fun tt_ kk_ => castTop (ef_rmIC m t ch (Int32.ofNat f) (Int32.ofNat cs.length)) kk_) ?_
 refine so (A := (s₁.setTop (mkF m 0 #[vr t, vi ch, vn f, vi (Int32.ofNat cs.length), uu, uu] []))) ?_
 refine oi (XS.iloadN X0.here hx rfl (hb hby d46_0) rfl) ?_
 refine oi (XS.i2b X0.here hx rfl (hb hby d46_1) rfl) ?_
 refine oi (XS.istore X0.here hx rfl (hb hby d46_2) rfl (l' := #[vr t, vi ch, vn f, vi (Int32.ofNat cs.length), vi (ch.toInt8.toInt32), uu]) rfl) ?_
 refine oi (XS.iloadN X0.here hx rfl (hb hby d46_4) rfl) ?_
 refine oi (XS.istore X0.here hx rfl (hb hby d46_5) rfl (l' := #[vr t, vi ch, vn f, vi (Int32.ofNat cs.length), vi (ch.toInt8.toInt32), vn f]) rfl) ?_
 refine so (A := (s₁.setTop (mkF m 7 #[vr t, vi ch, vn f, vi (Int32.ofNat cs.length), vi (ch.toInt8.toInt32), vn f] []))) ?_
 have loop : ∀ (kk_ i : Nat), cs.length + 1 ≤ i + kk_ → i ≤ cs.length → f ≤ i → (∀ j, f ≤ j → j < i → cs[j]? ≠ some ch) → ∀ (T' : State), Stand p l e (own_R 0 0 0 0) s m #[(.ref t), (.int ch), (.int (Int32.ofNat f)), (.int (Int32.ofNat cs.length))] below meth c T' [] 0 0 → T'.heap = h0 → own_go p e below s (Q_rmIC Z t kb cs ch f h0 n0) ((own_R 0 0 0 0)).cells ((own_R 0 0 0 0)).slots (T'.setTop (mkF m 7 #[vr t, vi ch, vn f, vi (Int32.ofNat cs.length), vi (ch.toInt8.toInt32), vn i] [])) := by
  intro kk_
  induction kk_ with
  | zero => intro i q1 q2; omega
  | succ kk_ ih =>
   intro i q1 q2 q3 hno T' X' e'
   refine so (A := (T'.setTop (mkF m 7 #[vr t, vi ch, vn f, vi (Int32.ofNat cs.length), vi (ch.toInt8.toInt32), vn i] []))) ?_
   refine oi (XS.iload X'.here hx rfl (hb hby d46_7) rfl) ?_
   refine oi (XS.iloadN X'.here hx rfl (hb hby d46_9) rfl) ?_
   by_cases hb10_1 : (Int32.ofNat i) < (Int32.ofNat cs.length)
   ·refine oi (XS.icmpNo X'.here hx rfl (hb hby d46_10) rfl (tlt hb10_1).2.1) ?_
    refine so (A := (T'.setTop (mkF m 13 #[vr t, vi ch, vn f, vi (Int32.ofNat cs.length), vi (ch.toInt8.toInt32), vn i] []))) ?_
    refine oi (XS.aloadN X'.here hx rfl (hb hby d46_13) rfl rfl) ?_
    refine oi (XS.iload X'.here hx rfl (hb hby d46_14) rfl) ?_
    refine so (A := (T'.setTop (mkF m 16 #[vr t, vi ch, vn f, vi (Int32.ofNat cs.length), vi (ch.toInt8.toInt32), vn i] [(.int (Int32.ofNat i)), (.ref t)]))) ?_
    have hil : i < cs.length := (own_nlt (by omega) (by omega)).mp hb10_1
    obtain ⟨ci, hci⟩ : ∃ z, cs[i]? = some z := ⟨_, List.getElem?_eq_getElem hil⟩
    obtain ⟨cl2, Ar2, q2, S2, Ng2, H2, G2⟩ := id V_t
    have hin2 : ¬ ((Int32.ofNat i) < 0 ∨ cl2.slots.size ≤ ((Int32.ofNat i)).toNatClampNeg) := inb_of S2 (own_inn hil (by omega))
    have hat2 : cl2.slots[((Int32.ofNat i)).toNatClampNeg]? = some (.int (own_lo8 ci)) := Has.at H2 hin2 (own_hget (by omega) hci)
    refine oo (fun _ => X'.baloadBytes hx (j := (Int32.ofNat i)) (v := (.int (own_lo8 ci))) (by rw [e']; exact Ar2.1) (State.isArrayOf_alike hZ.alike Ar2.2.1) Ar2.2.2 hin2 hat2 (g := (mkF m 16 #[vr t, vi ch, vn f, vi (Int32.ofNat cs.length), vi (ch.toInt8.toInt32), vn i] [(.int (Int32.ofNat i)), (.ref t)])) rfl rfl (hb hby d46_16) _) ?_
    refine oi (XS.iload X'.here hx rfl (hb hby d46_17) rfl) ?_
    by_cases hb19_3 : (own_lo8 ci) = (ch.toInt8.toInt32)
    ·refine oi (XS.icmpNo X'.here hx rfl (hb hby d46_19) rfl (teq hb19_3).2) ?_
     refine so (A := (T'.setTop (mkF m 22 #[vr t, vi ch, vn f, vi (Int32.ofNat cs.length), vi (ch.toInt8.toInt32), vn i] []))) ?_
     refine oi (XS.iload X'.here hx rfl (hb hby d46_22) rfl) ?_
     refine so (A := (T'.setTop (mkF m 24 #[vr t, vi ch, vn f, vi (Int32.ofNat cs.length), vi (ch.toInt8.toInt32), vn i] [(.int (Int32.ofNat i))]))) ?_
     refine own_ret X' hx hlk hret rfl (Or.inl ⟨rfl, by simp, _, rfl⟩) (hb hby d46_24) (by decide) (by decide) ?_
     rw [e']
     exact ⟨_, rfl, Or.inl ⟨i, rfl, q3, (by rw [hci, own_is (hcs ci (own_mem_of hci)) hch hb19_3]), hno⟩, N0, rfl⟩
    ·refine oi (XS.icmpYes X'.here hx rfl (pc0 := 19) (pc' := 25) rfl (hb hby d46_19) rfl (feq hb19_3).2 (by decide) (by decide)) ?_
     refine so (A := (T'.setTop (mkF m 25 #[vr t, vi ch, vn f, vi (Int32.ofNat cs.length), vi (ch.toInt8.toInt32), vn i] []))) ?_
     refine oi (XS.iinc X'.here hx rfl (hb hby d46_25) rfl (l' := #[vr t, vi ch, vn f, vi (Int32.ofNat cs.length), vi (ch.toInt8.toInt32), vi ((Int32.ofNat i) + (1 : Int32))]) rfl) ?_
     refine oi (XS.goto X'.here hx rfl (pc0 := 28) (pc' := 7) rfl (hb hby d46_28) (by decide) (by decide)) ?_
     refine so (A := (T'.setTop (mkF m 7 #[vr t, vi ch, vn f, vi (Int32.ofNat cs.length), vi (ch.toInt8.toInt32), vi ((Int32.ofNat i) + (1 : Int32))] []))) ?_
     rw [own_p1]
     exact ih (i + 1) (by omega) (by omega) (by omega) (own_ncS hno (fun u => hb19_3 (congrArg own_lo8 (Option.some.inj (hci.symm.trans u))))) _ X' e'
   ·refine oi (XS.icmpYes X'.here hx rfl (pc0 := 10) (pc' := 31) rfl (hb hby d46_10) rfl (flt hb10_1).2.1 (by decide) (by decide)) ?_
    refine so (A := (T'.setTop (mkF m 31 #[vr t, vi ch, vn f, vi (Int32.ofNat cs.length), vi (ch.toInt8.toInt32), vn i] []))) ?_
    refine oi (XS.iconst X'.here hx rfl (hb hby d46_31)) ?_
    refine so (A := (T'.setTop (mkF m 32 #[vr t, vi ch, vn f, vi (Int32.ofNat cs.length), vi (ch.toInt8.toInt32), vn i] [(.int (-1))]))) ?_
    refine own_ret X' hx hlk hret rfl (Or.inl ⟨rfl, by simp, _, rfl⟩) (hb hby d46_32) (by decide) (by decide) ?_
    rw [e']
    exact ⟨_, rfl, Or.inr ⟨rfl, fun j u1 u2 => by by_cases u3 : j < i; exact hno j u1 u3 u2; have u4 := own_lt_of u2; exact hb10_1 ((own_nlt (by omega) (by omega)).mpr (by omega))⟩, N0, rfl⟩
 exact loop (cs.length + 1) f (by omega) hf (Nat.le_refl f) (fun j u1 u2 => by omega) _ X0 e0
theorem ef_rmCE (m : MethodId) (x0 : Int32) : entryFrame m #[(.int x0)] 1 = mkF m 0 #[vi x0] [] := by first | (simp [entryFrame, mkF, argsToLocals, Value.category]; done) | rfl
theorem d44_0 : dk cD44 0 (.iload_n 0) 1 := by decide +kernel
theorem d44_1 : dk cD44 1 (.ifCond .lt 14) 3 := by decide +kernel
theorem d44_4 : dk cD44 4 (.iload_n 0) 1 := by decide +kernel
theorem d44_5 : dk cD44 5 (.sipush 255) 3 := by decide +kernel
theorem d44_8 : dk cD44 8 (.if_icmp .gt 7) 3 := by decide +kernel
theorem d44_11 : dk cD44 11 (.iconst 1) 1 := by decide +kernel
theorem d44_12 : dk cD44 12 (.goto 4) 3 := by decide +kernel
theorem d44_16 : dk cD44 16 .ireturn 1 := by decide +kernel
def Q_rmCE (Z : State) (ch : Int32) (h0 : Heap) (n0 : Nat) (v : Option Value) (h : Heap) (L : List Loc) : Prop := v = some (.int 1) ∧ Fr n0 L ∧ h = h0
theorem rmCE (l : Launch) (Z : State) (a0 : Array Value) (hw : own_H Z a0) (ws : List Jvm.Cond) (ch : Int32) (h0 : Heap) (n0 : Nat) (XO0 : Old Z n0 h0) (hch : own_ch ch) :
  own_M l Z ym44 cD44 ws 1 (some .boolean) (own_R 0 0 0 0) #[(.int ch)] h0 (Q_rmCE Z ch h0 n0) := by
 refine own_open (plainFor_of_name pn_3) ?_
 intro p e s m below meth c s₁ hx hby hlk hret hml hown hnm hZ X0 e0
 have hW := own_hW hw
 have N0 := Fr.nil n0
 refine oo (fun tt_ kk_ => castTop (ef_rmCE m ch) kk_) ?_
 refine so (A := (s₁.setTop (mkF m 0 #[vi ch] []))) ?_
 refine oi (XS.iloadN X0.here hx rfl (hb hby d44_0) rfl) ?_
 have hb1_1 : ¬ (ch < (0 : Int32)) := hch.1
 refine oi (XS.ifNo X0.here hx rfl (hb hby d44_1) rfl ((if0 _ _).trans (flt hb1_1).1)) ?_
 refine so (A := (s₁.setTop (mkF m 4 #[vi ch] []))) ?_
 refine oi (XS.iloadN X0.here hx rfl (hb hby d44_4) rfl) ?_
 refine oi (XS.sipush X0.here hx rfl (hb hby d44_5)) ?_
 have hb8_2 : ¬ ((255 : Int32) < ch) := hch.2
 refine oi (XS.icmpNo X0.here hx rfl (hb hby d44_8) rfl (flt hb8_2).2.2.1) ?_
 refine so (A := (s₁.setTop (mkF m 11 #[vi ch] []))) ?_
 refine oi (XS.iconst X0.here hx rfl (hb hby d44_11)) ?_
 refine oi (XS.goto X0.here hx rfl (pc0 := 12) (pc' := 16) rfl (hb hby d44_12) (by decide) (by decide)) ?_
 refine so (A := (s₁.setTop (mkF m 16 #[vi ch] [(.int 1)]))) ?_
 refine own_ret X0 hx hlk hret rfl (Or.inl ⟨rfl, by simp, _, rfl⟩) (hb hby d44_16) (by decide) (by decide) ?_
 rw [e0]
 exact ⟨rfl, N0, rfl⟩
theorem ef_rmMx (m : MethodId) (x0 : Int32) (x1 : Int32) : entryFrame m #[(.int x0), (.int x1)] 2 = mkF m 0 #[vi x0, vi x1] [] := by first | (simp [entryFrame, mkF, argsToLocals, Value.category]; done) | rfl
theorem d27_0 : dk cD27 0 (.iload_n 0) 1 := by decide +kernel
theorem d27_1 : dk cD27 1 (.iload_n 1) 1 := by decide +kernel
theorem d27_2 : dk cD27 2 (.if_icmp .lt 7) 3 := by decide +kernel
theorem d27_5 : dk cD27 5 (.iload_n 0) 1 := by decide +kernel
theorem d27_6 : dk cD27 6 (.goto 4) 3 := by decide +kernel
theorem d27_10 : dk cD27 10 .ireturn 1 := by decide +kernel
def Q_rmMx (Z : State) (ix : Int32) (jx : Int32) (h0 : Heap) (n0 : Nat) (v : Option Value) (h : Heap) (L : List Loc) : Prop := v = some (.int ix) ∧ Fr n0 L ∧ h = h0
theorem rmMx (l : Launch) (Z : State) (a0 : Array Value) (hw : own_H Z a0) (ws : List Jvm.Cond) (ix : Int32) (jx : Int32) (h0 : Heap) (n0 : Nat) (XO0 : Old Z n0 h0) (hj : ¬ ix < jx) :
  own_M l Z ym27 cD27 ws 2 (some .int) (own_R 0 0 0 0) #[(.int ix), (.int jx)] h0 (Q_rmMx Z ix jx h0 n0) := by
 refine own_open (Jvm.Free.JP.mathPlain rfl (by decide +kernel)) ?_
 intro p e s m below meth c s₁ hx hby hlk hret hml hown hnm hZ X0 e0
 have hW := own_hW hw
 have N0 := Fr.nil n0
 refine oo (fun tt_ kk_ => castTop (ef_rmMx m ix jx) kk_) ?_
 refine so (A := (s₁.setTop (mkF m 0 #[vi ix, vi jx] []))) ?_
 refine oi (XS.iloadN X0.here hx rfl (hb hby d27_0) rfl) ?_
 refine oi (XS.iloadN X0.here hx rfl (hb hby d27_1) rfl) ?_
 have hb2_1 : ¬ (ix < jx) := hj
 refine oi (XS.icmpNo X0.here hx rfl (hb hby d27_2) rfl (flt hb2_1).1) ?_
 refine so (A := (s₁.setTop (mkF m 5 #[vi ix, vi jx] []))) ?_
 refine oi (XS.iloadN X0.here hx rfl (hb hby d27_5) rfl) ?_
 refine oi (XS.goto X0.here hx rfl (pc0 := 6) (pc' := 10) rfl (hb hby d27_6) (by decide) (by decide)) ?_
 refine so (A := (s₁.setTop (mkF m 10 #[vi ix, vi jx] [(.int ix)]))) ?_
 refine own_ret X0 hx hlk hret rfl (Or.inl ⟨rfl, by simp, _, rfl⟩) (hb hby d27_10) (by decide) (by decide) ?_
 rw [e0]
 exact ⟨rfl, N0, rfl⟩
theorem ef_rmMn (m : MethodId) (x0 : Int32) (x1 : Int32) : entryFrame m #[(.int x0), (.int x1)] 2 = mkF m 0 #[vi x0, vi x1] [] := by first | (simp [entryFrame, mkF, argsToLocals, Value.category]; done) | rfl
theorem d45_0 : dk cD45 0 (.iload_n 0) 1 := by decide +kernel
theorem d45_1 : dk cD45 1 (.iload_n 1) 1 := by decide +kernel
theorem d45_2 : dk cD45 2 (.if_icmp .gt 7) 3 := by decide +kernel
theorem d45_9 : dk cD45 9 (.iload_n 1) 1 := by decide +kernel
theorem d45_10 : dk cD45 10 .ireturn 1 := by decide +kernel
theorem d45_5 : dk cD45 5 (.iload_n 0) 1 := by decide +kernel
theorem d45_6 : dk cD45 6 (.goto 4) 3 := by decide +kernel
def Q_rmMn (Z : State) (ix : Int32) (jx : Int32) (h0 : Heap) (n0 : Nat) (v : Option Value) (h : Heap) (L : List Loc) : Prop := v = some (.int jx) ∧ Fr n0 L ∧ h = h0
theorem rmMn (l : Launch) (Z : State) (a0 : Array Value) (hw : own_H Z a0) (ws : List Jvm.Cond) (ix : Int32) (jx : Int32) (h0 : Heap) (n0 : Nat) (XO0 : Old Z n0 h0) (hj : ¬ jx < ix → ix = jx) :
  own_M l Z ym45 cD45 ws 2 (some .int) (own_R 0 0 0 0) #[(.int ix), (.int jx)] h0 (Q_rmMn Z ix jx h0 n0) := by
 refine own_open (Jvm.Free.JP.mathPlain rfl (by decide +kernel)) ?_
 intro p e s m below meth c s₁ hx hby hlk hret hml hown hnm hZ X0 e0
 have hW := own_hW hw
 have N0 := Fr.nil n0
 refine oo (fun tt_ kk_ => castTop (ef_rmMn m ix jx) kk_) ?_
 refine so (A := (s₁.setTop (mkF m 0 #[vi ix, vi jx] []))) ?_
 refine oi (XS.iloadN X0.here hx rfl (hb hby d45_0) rfl) ?_
 refine oi (XS.iloadN X0.here hx rfl (hb hby d45_1) rfl) ?_
 by_cases hb2_1 : jx < ix
 ·refine oi (XS.icmpYes X0.here hx rfl (pc0 := 2) (pc' := 9) rfl (hb hby d45_2) rfl (tlt hb2_1).2.2.1 (by decide) (by decide)) ?_
  refine so (A := (s₁.setTop (mkF m 9 #[vi ix, vi jx] []))) ?_
  refine oi (XS.iloadN X0.here hx rfl (hb hby d45_9) rfl) ?_
  refine so (A := (s₁.setTop (mkF m 10 #[vi ix, vi jx] [(.int jx)]))) ?_
  refine own_ret X0 hx hlk hret rfl (Or.inl ⟨rfl, by simp, _, rfl⟩) (hb hby d45_10) (by decide) (by decide) ?_
  rw [e0]
  exact ⟨rfl, N0, rfl⟩
 ·refine oi (XS.icmpNo X0.here hx rfl (hb hby d45_2) rfl (flt hb2_1).2.2.1) ?_
  refine so (A := (s₁.setTop (mkF m 5 #[vi ix, vi jx] []))) ?_
  refine oi (XS.iloadN X0.here hx rfl (hb hby d45_5) rfl) ?_
  refine oi (XS.goto X0.here hx rfl (pc0 := 6) (pc' := 10) rfl (hb hby d45_6) (by decide) (by decide)) ?_
  refine so (A := (s₁.setTop (mkF m 10 #[vi ix, vi jx] [(.int ix)]))) ?_
  refine own_ret X0 hx hlk hret rfl (Or.inl ⟨rfl, by simp, _, rfl⟩) (hb hby d45_10) (by decide) (by decide) ?_
  rw [e0]
  exact ⟨(by rw [hj hb2_1]), N0, rfl⟩
theorem ef_rmI4 (m : MethodId) (x0 : Nat) (x1 : Int32) (x2 : Int32) (x3 : Int32) : entryFrame m #[(.ref x0), (.int x1), (.int x2), (.int x3)] 4 = mkF m 0 #[vr x0, vi x1, vi x2, vi x3] [] := by first | (simp [entryFrame, mkF, argsToLocals, Value.category]; done) | rfl
theorem d43_0 : dk cD43 0 (.iload_n 1) 1 := by decide +kernel
theorem d43_1 : dk cD43 1 (.invokestatic 88) 3 := by decide +kernel
theorem pd_5 : parseMethodDescriptor "(I)Z" = some ⟨[.int], some .boolean⟩ := by decide +kernel
theorem d43_4 : dk cD43 4 (.ifCond .ne 5) 3 := by decide +kernel
theorem d43_9 : dk cD43 9 (.iload_n 2) 1 := by decide +kernel
theorem d43_10 : dk cD43 10 (.iconst 0) 1 := by decide +kernel
theorem d43_11 : dk cD43 11 (.invokestatic 92) 3 := by decide +kernel
theorem pd_6 : parseMethodDescriptor "(II)I" = some ⟨[.int, .int], some .int⟩ := by decide +kernel
theorem d43_14 : dk cD43 14 (.istore_n 2) 1 := by decide +kernel
theorem d43_15 : dk cD43 15 (.iload_n 3) 1 := by decide +kernel
theorem d43_16 : dk cD43 16 (.aload_n 0) 1 := by decide +kernel
theorem d43_17 : dk cD43 17 .arraylength 1 := by decide +kernel
theorem d43_18 : dk cD43 18 (.invokestatic 38) 3 := by decide +kernel
theorem d43_21 : dk cD43 21 (.istore_n 3) 1 := by decide +kernel
theorem d43_22 : dk cD43 22 (.iload_n 2) 1 := by decide +kernel
theorem d43_23 : dk cD43 23 (.iload_n 3) 1 := by decide +kernel
theorem d43_24 : dk cD43 24 (.if_icmp .lt 5) 3 := by decide +kernel
theorem d43_29 : dk cD43 29 (.aload_n 0) 1 := by decide +kernel
theorem d43_30 : dk cD43 30 (.iload_n 1) 1 := by decide +kernel
theorem d43_31 : dk cD43 31 (.iload_n 2) 1 := by decide +kernel
theorem d43_32 : dk cD43 32 (.iload_n 3) 1 := by decide +kernel
theorem d43_33 : dk cD43 33 (.invokestatic 95) 3 := by decide +kernel
theorem pd_7 : parseMethodDescriptor "([BIII)I" = some ⟨[(.array .byte), .int, .int, .int], some .int⟩ := by decide +kernel
theorem d43_36 : dk cD43 36 .ireturn 1 := by decide +kernel
theorem d43_27 : dk cD43 27 (.iconst (-1)) 1 := by decide +kernel
theorem d43_28 : dk cD43 28 .ireturn 1 := by decide +kernel
def Q_rmI4 (Z : State) (t : Nat) (kb : ClassId) (cs : List Int32) (ch : Int32) (f : Nat) (h0 : Heap) (n0 : Nat) (v : Option Value) (h : Heap) (L : List Loc) : Prop := ∃ r : Int32, v = some (.int r) ∧ own_ixc cs f ch r ∧ Fr n0 L ∧ h = h0
theorem rmI4 (l : Launch) (Z : State) (a0 : Array Value) (hw : own_H Z a0) (ws : List Jvm.Cond) (t : Nat) (kb : ClassId) (cs : List Int32) (ch : Int32) (f : Nat) (h0 : Heap) (n0 : Nat) (XO0 : Old Z n0 h0) (V_t : Arv Z h0 t kb .byte (Int32.ofNat cs.length) (cs.map fun c => Value.int (own_lo8 c)) (.int 0)) (hcs : ∀ c ∈ cs, own_ch c) (hcl : cs.length ≤ 22) (hf : f ≤ cs.length) (hch : own_ch ch) :
  own_M l Z ym43 cD43 ws 4 (some .int) (own_R 1 0 0 17) #[(.ref t), (.int ch), (.int (Int32.ofNat f)), (.int (Int32.ofNat cs.length))] h0 (Q_rmI4 Z t kb cs ch f h0 n0) := by
 refine own_open (plainFor_of_name pn_3) ?_
 intro p e s m below meth c s₁ hx hby hlk hret hml hown hnm hZ X0 e0
 have hW := own_hW hw
 have N0 := Fr.nil n0
 refine oo (fun tt_ kk_ => castTop (ef_rmI4 m t ch (Int32.ofNat f) (Int32.ofNat cs.length)) kk_) ?_
 refine so (A := (s₁.setTop (mkF m 0 #[vr t, vi ch, vn f, vi (Int32.ofNat cs.length)] []))) ?_
 refine oi (XS.iloadN X0.here hx rfl (hb hby d43_0) rfl) ?_
 refine so (A := (s₁.setTop (mkF m 1 #[vr t, vi ch, vn f, vi (Int32.ofNat cs.length)] [(.int ch)]))) ?_
 obtain ⟨_, T1, Lc1, X1, hQ1, st1⟩ := own_c1 X0 <| Jvm.LawKit.callS X0 hx (y := ym44) hown (mvT hZ (hW 236 _ rfl)) (mvT hZ (hW 237 _ rfl)) (mvT hZ (hW 97 _ rfl)) (mvT hZ (hW 238 _ rfl)) (by decide) (backOf (W := 0) (rmCE l Z a0 hw [] ch h0 n0 XO0 hch) hZ (hW 238 _ rfl) (hW 97 _ rfl) (by decide) (by decide)) (g := (mkF m 1 #[vr t, vi ch, vn f, vi (Int32.ofNat cs.length)] [(.int ch)])) rfl (by rw [hml]; rfl) (argsL := [(.int ch)]) (rest := []) (lenOf pd_5 rfl) rfl (Nat.le_of_eq rfl) (hb hby d43_1) (fun _ _ => ⟨rfl, e0, (by decide : 0 + 0 ≤ _), (by decide : 0 + 0 ≤ _)⟩)
 obtain ⟨rfl, Nq1, eh1⟩ := hQ1
 have N1 := Fr.app N0 Nq1
 refine oo st1 ?_
 have hb4_2 : ¬ ((1 : Int32) = (0 : Int32)) := by decide
 refine oi (XS.ifYes X1.here hx rfl (pc0 := 4) (pc' := 9) rfl (hb hby d43_4) rfl ((if0 _ _).trans (feq hb4_2).2) (by decide) (by decide)) ?_
 refine oi (XS.iloadN X1.here hx rfl (hb hby d43_9) rfl) ?_
 refine oi (XS.iconst X1.here hx rfl (hb hby d43_10)) ?_
 refine so (A := (T1.setTop (mkF m 11 #[vr t, vi ch, vn f, vi (Int32.ofNat cs.length)] [(.int 0), (.int (Int32.ofNat f))]))) ?_
 obtain ⟨_, T3, Lc3, X3, hQ3, st3⟩ := own_c1 X1 <| Jvm.LawKit.callS X1 hx (y := ym27) hown (mvT hZ (hW 239 _ rfl)) (mvT hZ (hW 154 _ rfl)) (mvT hZ (hW 155 _ rfl)) (mvT hZ (hW 156 _ rfl)) (by decide) (backOf (W := 0) (rmMx l Z a0 hw [] (Int32.ofNat f) (0 : Int32) h0 n0 XO0 (own_nn (by omega))) hZ (hW 156 _ rfl) (hW 155 _ rfl) (by decide) (by decide)) (g := (mkF m 11 #[vr t, vi ch, vn f, vi (Int32.ofNat cs.length)] [(.int 0), (.int (Int32.ofNat f))])) rfl (by rw [hml]; rfl) (argsL := [(.int (Int32.ofNat f)), (.int 0)]) (rest := []) (lenOf pd_6 rfl) rfl (Nat.le_of_eq rfl) (hb hby d43_11) (fun _ _ => ⟨rfl, eh1, (by decide : 0 + 0 ≤ _), (by decide : 0 + 0 ≤ _)⟩)
 obtain ⟨rfl, Nq3, eh3⟩ := hQ3
 have N3 := Fr.app N1 Nq3
 refine oo st3 ?_
 refine oi (XS.istoreN X3.here hx rfl (hb hby d43_14) rfl (l' := #[vr t, vi ch, vn f, vi (Int32.ofNat cs.length)]) rfl) ?_
 refine oi (XS.iloadN X3.here hx rfl (hb hby d43_15) rfl) ?_
 refine oi (XS.aloadN X3.here hx rfl (hb hby d43_16) rfl rfl) ?_
 obtain ⟨cl4, Ar4, q4, S4, Ng4, H4, G4⟩ := id V_t
 refine oo (fun tt_ kk => X3.arraylength hx (by rw [eh3]; exact Ar4.1) (State.isArrayOf_alike hZ.alike Ar4.2.1) (g := (mkF m 17 #[vr t, vi ch, vn f, vi (Int32.ofNat cs.length)] [(.ref t), (.int (Int32.ofNat cs.length))])) rfl rfl (hb hby d43_17) _ (by rw [len_of S4 Ng4]; exact kk)) ?_
 refine so (A := (T3.setTop (mkF m 18 #[vr t, vi ch, vn f, vi (Int32.ofNat cs.length)] [(.int (Int32.ofNat cs.length)), (.int (Int32.ofNat cs.length))]))) ?_
 obtain ⟨_, T5, Lc5, X5, hQ5, st5⟩ := own_c1 X3 <| Jvm.LawKit.callS X3 hx (y := ym45) hown (mvT hZ (hW 240 _ rfl)) (mvT hZ (hW 241 _ rfl)) (mvT hZ (hW 155 _ rfl)) (mvT hZ (hW 242 _ rfl)) (by decide) (backOf (W := 0) (rmMn l Z a0 hw [] (Int32.ofNat cs.length) (Int32.ofNat cs.length) h0 n0 XO0 (fun _ => rfl)) hZ (hW 242 _ rfl) (hW 155 _ rfl) (by decide) (by decide)) (g := (mkF m 18 #[vr t, vi ch, vn f, vi (Int32.ofNat cs.length)] [(.int (Int32.ofNat cs.length)), (.int (Int32.ofNat cs.length))])) rfl (by rw [hml]; rfl) (argsL := [(.int (Int32.ofNat cs.length)), (.int (Int32.ofNat cs.length))]) (rest := []) (lenOf pd_6 rfl) rfl (Nat.le_of_eq rfl) (hb hby d43_18) (fun _ _ => ⟨rfl, eh3, (by decide : 0 + 0 ≤ _), (by decide : 0 + 0 ≤ _)⟩)
 obtain ⟨rfl, Nq5, eh5⟩ := hQ5
 have N5 := Fr.app N3 Nq5
 refine oo st5 ?_
 refine oi (XS.istoreN X5.here hx rfl (hb hby d43_21) rfl (l' := #[vr t, vi ch, vn f, vi (Int32.ofNat cs.length)]) rfl) ?_
 refine oi (XS.iloadN X5.here hx rfl (hb hby d43_22) rfl) ?_
 refine oi (XS.iloadN X5.here hx rfl (hb hby d43_23) rfl) ?_
 by_cases hb24_6 : (Int32.ofNat f) < (Int32.ofNat cs.length)
 ·refine oi (XS.icmpYes X5.here hx rfl (pc0 := 24) (pc' := 29) rfl (hb hby d43_24) rfl (tlt hb24_6).1 (by decide) (by decide)) ?_
  refine so (A := (T5.setTop (mkF m 29 #[vr t, vi ch, vn f, vi (Int32.ofNat cs.length)] []))) ?_
  refine oi (XS.aloadN X5.here hx rfl (hb hby d43_29) rfl rfl) ?_
  refine oi (XS.iloadN X5.here hx rfl (hb hby d43_30) rfl) ?_
  refine oi (XS.iloadN X5.here hx rfl (hb hby d43_31) rfl) ?_
  refine oi (XS.iloadN X5.here hx rfl (hb hby d43_32) rfl) ?_
  refine so (A := (T5.setTop (mkF m 33 #[vr t, vi ch, vn f, vi (Int32.ofNat cs.length)] [(.int (Int32.ofNat cs.length)), (.int (Int32.ofNat f)), (.int ch), (.ref t)]))) ?_
  obtain ⟨_, T7, Lc7, X7, hQ7, st7⟩ := own_c1 X5 <| Jvm.LawKit.callS X5 hx (y := ym46) hown (mvT hZ (hW 243 _ rfl)) (mvT hZ (hW 244 _ rfl)) (mvT hZ (hW 97 _ rfl)) (mvT hZ (hW 245 _ rfl)) (by decide) (backOf (W := 0) (rmIC l Z a0 hw [] t kb cs ch f h0 n0 XO0 V_t hcs hcl hf hch) hZ (hW 245 _ rfl) (hW 97 _ rfl) (by decide) (by decide)) (g := (mkF m 33 #[vr t, vi ch, vn f, vi (Int32.ofNat cs.length)] [(.int (Int32.ofNat cs.length)), (.int (Int32.ofNat f)), (.int ch), (.ref t)])) rfl (by rw [hml]; rfl) (argsL := [(.ref t), (.int ch), (.int (Int32.ofNat f)), (.int (Int32.ofNat cs.length))]) (rest := []) (lenOf pd_7 rfl) rfl (Nat.le_of_eq rfl) (hb hby d43_33) (fun _ _ => ⟨rfl, eh5, (by decide : 0 + 0 ≤ _), (by decide : 0 + 0 ≤ _)⟩)
  obtain ⟨r7, rfl, hr7, Nq7, eh7⟩ := hQ7
  have N7 := Fr.app N5 Nq7
  refine oo st7 ?_
  refine so (A := (T7.setTop (mkF m 36 #[vr t, vi ch, vn f, vi (Int32.ofNat cs.length)] [(.int r7)]))) ?_
  refine own_ret X7 hx hlk hret rfl (Or.inl ⟨rfl, by simp, _, rfl⟩) (hb hby d43_36) (by decide) (by decide) ?_
  rw [eh7]
  exact ⟨_, rfl, hr7, N7, rfl⟩
 ·refine oi (XS.icmpNo X5.here hx rfl (hb hby d43_24) rfl (flt hb24_6).1) ?_
  refine so (A := (T5.setTop (mkF m 27 #[vr t, vi ch, vn f, vi (Int32.ofNat cs.length)] []))) ?_
  refine oi (XS.iconst X5.here hx rfl (hb hby d43_27)) ?_
  refine so (A := (T5.setTop (mkF m 28 #[vr t, vi ch, vn f, vi (Int32.ofNat cs.length)] [(.int (-1))]))) ?_
  refine own_ret X5 hx hlk hret rfl (Or.inl ⟨rfl, by simp, _, rfl⟩) (hb hby d43_28) (by decide) (by decide) ?_
  rw [eh5]
  exact ⟨_, rfl, Or.inr ⟨rfl, fun j u1 u2 => by have u4 := own_lt_of u2; exact hb24_6 ((own_nlt (by omega) (by omega)).mpr (by omega))⟩, N5, rfl⟩
theorem ef_rmI2 (m : MethodId) (x0 : Nat) (x1 : Int32) (x2 : Int32) : entryFrame m #[(.ref x0), (.int x1), (.int x2)] 3 = mkF m 0 #[vr x0, vi x1, vi x2] [] := by first | (simp [entryFrame, mkF, argsToLocals, Value.category]; done) | rfl
theorem d42_0 : dk cD42 0 (.aload_n 0) 1 := by decide +kernel
theorem d42_1 : dk cD42 1 (.invokevirtual 492) 3 := by decide +kernel
theorem d42_4 : dk cD42 4 (.ifCond .eq 19) 3 := by decide +kernel
theorem d42_7 : dk cD42 7 (.aload_n 0) 1 := by decide +kernel
theorem d42_8 : dk cD42 8 (.getfield 9) 3 := by decide +kernel
theorem d42_11 : dk cD42 11 (.iload_n 1) 1 := by decide +kernel
theorem d42_12 : dk cD42 12 (.iload_n 2) 1 := by decide +kernel
theorem d42_13 : dk cD42 13 (.aload_n 0) 1 := by decide +kernel
theorem d42_14 : dk cD42 14 (.invokevirtual 505) 3 := by decide +kernel
theorem pd_8 : parseMethodDescriptor "()I" = some ⟨[], some .int⟩ := by decide +kernel
theorem d42_17 : dk cD42 17 (.invokestatic 637) 3 := by decide +kernel
theorem d42_20 : dk cD42 20 (.goto 16) 3 := by decide +kernel
theorem d42_36 : dk cD42 36 .ireturn 1 := by decide +kernel
def Q_rmI2 (Z : State) (x : Nat) (cs : List Int32) (ch : Int32) (f : Nat) (Gc : Int32) (h0 : Heap) (n0 : Nat) (v : Option Value) (h : Heap) (L : List Loc) : Prop := ∃ r : Int32, v = some (.int r) ∧ own_ixc cs f ch r ∧ Fr n0 L ∧ h = h0
theorem rmI2 (l : Launch) (Z : State) (a0 : Array Value) (hw : own_H Z a0) (ws : List Jvm.Cond) (x : Nat) (cs : List Int32) (ch : Int32) (f : Nat) (Gc : Int32) (h0 : Heap) (n0 : Nat) (XO0 : Old Z n0 h0) (Oc : Sta Z Z.heap "java/lang/String" "COMPACT_STRINGS" "Z" (.int Gc)) (Pc : ¬ (Gc = (0 : Int32))) (S_x : own_sr Z h0 x cs) (hf : f ≤ cs.length) (hch : own_ch ch) :
  own_M l Z ym42 cD42 ws 3 (some .int) (own_R 2 0 0 32) #[(.ref x), (.int ch), (.int (Int32.ofNat f))] h0 (Q_rmI2 Z x cs ch f Gc h0 n0) := by
 refine own_open (plainFor_of_name pn_0) ?_
 intro p e s m below meth c s₁ hx hby hlk hret hml hown hnm hZ X0 e0
 have hW := own_hW hw
 have N0 := Fr.nil n0
 refine oo (fun tt_ kk_ => castTop (ef_rmI2 m x ch (Int32.ofNat f)) kk_) ?_
 refine so (A := (s₁.setTop (mkF m 0 #[vr x, vi ch, vn f] []))) ?_
 obtain ⟨hc_x, hl_x, t_x, kb_x, E_x, F_x, C_x, V_x⟩ := id S_x
 refine oi (XS.aloadN X0.here hx rfl (hb hby d42_0) rfl rfl) ?_
 refine so (A := (s₁.setTop (mkF m 1 #[vr x, vi ch, vn f] [(.ref x)]))) ?_
 obtain ⟨cq1, kq1, q1a, q1b, q1c⟩ := isOf hZ e0 E_x
 obtain ⟨_, T1, Lc1, X1, hQ1, st1⟩ := own_c1 X0 <| X0.virtualBack hx (y := ym15) (z := ym15) hown (mvT hZ (hW 90 _ rfl)) (mvT hZ (hW 91 _ rfl)) (notFace_of_selects (args := #[]) (mvT hZ (hW 93 _ rfl))) (mvT hZ (hW 93 _ rfl)) (mvT hZ (hW 92 _ rfl)) (by decide) (backOf (W := 0) (rmIL l Z a0 hw [] x cs Gc h0 n0 XO0 Oc Pc S_x) hZ (hW 94 _ rfl) (hW 8 _ rfl) (by decide) (by decide)) q1a q1c (g := (mkF m 1 #[vr x, vi ch, vn f] [(.ref x)])) rfl (by rw [hml]; rfl) (Steps.refl _) (argsL := []) (rest := []) (lenOf pd_3 rfl) rfl (Nat.le_of_eq rfl) (hb hby d42_1) (fun _ _ => ⟨rfl, e0, (by decide : 0 + 0 ≤ _), (by decide : 0 + 0 ≤ _)⟩)
 obtain ⟨rfl, Nq1, eh1⟩ := hQ1
 have N1 := Fr.app N0 Nq1
 refine oo (fun tt_ kk_ => st1.trans kk_) ?_
 have hb4_2 : ¬ ((1 : Int32) = (0 : Int32)) := by decide
 refine oi (XS.ifNo X1.here hx rfl (hb hby d42_4) rfl ((if0 _ _).trans (feq hb4_2).1)) ?_
 refine oi (XS.aloadN X1.here hx rfl (hb hby d42_7) rfl rfl) ?_
 obtain ⟨T3, X3, e3, st3⟩ := getF X1 hx hZ hown (host := "") (Or.inl (hW 33 _ rfl)) Via.refl eh1 F_x (g := (mkF m 8 #[vr x, vi ch, vn f] [(.ref x)])) rfl rfl (hb hby d42_8)
 refine oo st3 ?_
 refine oi (XS.iloadN X3.here hx rfl (hb hby d42_11) rfl) ?_
 refine oi (XS.iloadN X3.here hx rfl (hb hby d42_12) rfl) ?_
 refine oi (XS.aloadN X3.here hx rfl (hb hby d42_13) rfl rfl) ?_
 refine so (A := (T3.setTop (mkF m 14 #[vr x, vi ch, vn f] [(.ref x), (.int (Int32.ofNat f)), (.int ch), (.ref t_x)]))) ?_
 obtain ⟨cq4, kq4, q4a, q4b, q4c⟩ := isOf hZ e3 E_x
 obtain ⟨_, T4, Lc4, X4, hQ4, st4⟩ := own_c1 X3 <| X3.virtualBack hx (y := ym19) (z := ym19) hown (mvT hZ (hW 107 _ rfl)) (mvT hZ (hW 108 _ rfl)) (notFace_of_selects (args := #[]) (mvT hZ (hW 110 _ rfl))) (mvT hZ (hW 110 _ rfl)) (mvT hZ (hW 109 _ rfl)) (by decide) (backOf (W := 3) (rmLen l Z a0 hw [] x cs Gc h0 n0 XO0 Oc Pc S_x) hZ (hW 111 _ rfl) (hW 8 _ rfl) (by decide) (by decide)) q4a q4c (g := (mkF m 14 #[vr x, vi ch, vn f] [(.ref x), (.int (Int32.ofNat f)), (.int ch), (.ref t_x)])) rfl (by rw [hml]; rfl) (Steps.refl _) (argsL := []) (rest := [(.int (Int32.ofNat f)), (.int ch), (.ref t_x)]) (lenOf pd_8 rfl) rfl (Nat.le_of_eq rfl) (hb hby d42_14) (fun _ _ => ⟨rfl, e3, (by decide : 0 + 0 ≤ _), (by decide : 0 + 0 ≤ _)⟩)
 obtain ⟨rfl, Nq4, eh4⟩ := hQ4
 have N4 := Fr.app N1 Nq4
 refine oo (fun tt_ kk_ => st4.trans kk_) ?_
 refine so (A := (T4.setTop (mkF m 17 #[vr x, vi ch, vn f] [(.int (Int32.ofNat cs.length)), (.int (Int32.ofNat f)), (.int ch), (.ref t_x)]))) ?_
 obtain ⟨_, T5, Lc5, X5, hQ5, st5⟩ := own_c1 X4 <| Jvm.LawKit.callS X4 hx (y := ym43) hown (mvT hZ (hW 233 _ rfl)) (mvT hZ (hW 234 _ rfl)) (mvT hZ (hW 97 _ rfl)) (mvT hZ (hW 235 _ rfl)) (by decide) (backOf (W := 0) (rmI4 l Z a0 hw [] t_x kb_x cs ch f h0 n0 XO0 V_x hc_x hl_x hf hch) hZ (hW 235 _ rfl) (hW 97 _ rfl) (by decide) (by decide)) (g := (mkF m 17 #[vr x, vi ch, vn f] [(.int (Int32.ofNat cs.length)), (.int (Int32.ofNat f)), (.int ch), (.ref t_x)])) rfl (by rw [hml]; rfl) (argsL := [(.ref t_x), (.int ch), (.int (Int32.ofNat f)), (.int (Int32.ofNat cs.length))]) (rest := []) (lenOf pd_7 rfl) rfl (Nat.le_of_eq rfl) (hb hby d42_17) (fun _ _ => ⟨rfl, eh4, (by decide : 0 + 0 ≤ _), (by decide : 0 + 0 ≤ _)⟩)
 obtain ⟨r5, rfl, hr5, Nq5, eh5⟩ := hQ5
 have N5 := Fr.app N4 Nq5
 refine oo st5 ?_
 refine oi (XS.goto X5.here hx rfl (pc0 := 20) (pc' := 36) rfl (hb hby d42_20) (by decide) (by decide)) ?_
 refine so (A := (T5.setTop (mkF m 36 #[vr x, vi ch, vn f] [(.int r5)]))) ?_
 refine own_ret X5 hx hlk hret rfl (Or.inl ⟨rfl, by simp, _, rfl⟩) (hb hby d42_36) (by decide) (by decide) ?_
 rw [eh5]
 exact ⟨_, rfl, hr5, N5, rfl⟩
theorem ef_rmI1 (m : MethodId) (x0 : Nat) (x1 : Int32) : entryFrame m #[(.ref x0), (.int x1)] 2 = mkF m 0 #[vr x0, vi x1] [] := by first | (simp [entryFrame, mkF, argsToLocals, Value.category]; done) | rfl
theorem d54_0 : dk cD54 0 (.aload_n 0) 1 := by decide +kernel
theorem d54_1 : dk cD54 1 (.iload_n 1) 1 := by decide +kernel
theorem d54_2 : dk cD54 2 (.iconst 0) 1 := by decide +kernel
theorem d54_3 : dk cD54 3 (.invokevirtual 633) 3 := by decide +kernel
theorem d54_6 : dk cD54 6 .ireturn 1 := by decide +kernel
def Q_rmI1 (Z : State) (x : Nat) (cs : List Int32) (ch : Int32) (Gc : Int32) (h0 : Heap) (n0 : Nat) (v : Option Value) (h : Heap) (L : List Loc) : Prop := ∃ r : Int32, v = some (.int r) ∧ own_ixc cs 0 ch r ∧ Fr n0 L ∧ h = h0
theorem rmI1 (l : Launch) (Z : State) (a0 : Array Value) (hw : own_H Z a0) (ws : List Jvm.Cond) (x : Nat) (cs : List Int32) (ch : Int32) (Gc : Int32) (h0 : Heap) (n0 : Nat) (XO0 : Old Z n0 h0) (Oc : Sta Z Z.heap "java/lang/String" "COMPACT_STRINGS" "Z" (.int Gc)) (Pc : ¬ (Gc = (0 : Int32))) (S_x : own_sr Z h0 x cs) (hch : own_ch ch) :
  own_M l Z ym54 cD54 ws 2 (some .int) (own_R 3 0 0 46) #[(.ref x), (.int ch)] h0 (Q_rmI1 Z x cs ch Gc h0 n0) := by
 refine own_open (plainFor_of_name pn_0) ?_
 intro p e s m below meth c s₁ hx hby hlk hret hml hown hnm hZ X0 e0
 have hW := own_hW hw
 have N0 := Fr.nil n0
 refine oo (fun tt_ kk_ => castTop (ef_rmI1 m x ch) kk_) ?_
 refine so (A := (s₁.setTop (mkF m 0 #[vr x, vi ch] []))) ?_
 obtain ⟨hc_x, hl_x, t_x, kb_x, E_x, F_x, C_x, V_x⟩ := id S_x
 refine oi (XS.aloadN X0.here hx rfl (hb hby d54_0) rfl rfl) ?_
 refine oi (XS.iloadN X0.here hx rfl (hb hby d54_1) rfl) ?_
 refine oi (XS.iconst X0.here hx rfl (hb hby d54_2)) ?_
 refine so (A := (s₁.setTop (mkF m 3 #[vr x, vi ch] [(.int 0), (.int ch), (.ref x)]))) ?_
 obtain ⟨cq1, kq1, q1a, q1b, q1c⟩ := isOf hZ e0 E_x
 obtain ⟨_, T1, Lc1, X1, hQ1, st1⟩ := own_c1 X0 <| X0.virtualBack hx (y := ym42) (z := ym42) hown (mvT hZ (hW 289 _ rfl)) (mvT hZ (hW 229 _ rfl)) (notFace_of_selects (args := #[]) (mvT hZ (hW 231 _ rfl))) (mvT hZ (hW 231 _ rfl)) (mvT hZ (hW 230 _ rfl)) (by decide) (backOf (W := 0) (rmI2 l Z a0 hw [] x cs ch 0 Gc h0 n0 XO0 Oc Pc S_x (by omega) hch) hZ (hW 232 _ rfl) (hW 8 _ rfl) (by decide) (by decide)) q1a q1c (g := (mkF m 3 #[vr x, vi ch] [(.int 0), (.int ch), (.ref x)])) rfl (by rw [hml]; rfl) (Steps.refl _) (argsL := [(.int ch), (.int 0)]) (rest := []) (lenOf pd_6 rfl) rfl (Nat.le_of_eq rfl) (hb hby d54_3) (fun _ _ => ⟨rfl, e0, (by decide : 0 + 0 ≤ _), (by decide : 0 + 0 ≤ _)⟩)
 obtain ⟨r1, rfl, hr1, Nq1, eh1⟩ := hQ1
 have N1 := Fr.app N0 Nq1
 refine oo (fun tt_ kk_ => st1.trans kk_) ?_
 refine so (A := (T1.setTop (mkF m 6 #[vr x, vi ch] [(.int r1)]))) ?_
 refine own_ret X1 hx hlk hret rfl (Or.inl ⟨rfl, by simp, _, rfl⟩) (hb hby d54_6) (by decide) (by decide) ?_
 rw [eh1]
 exact ⟨_, rfl, hr1, N1, rfl⟩
theorem ef_rmS5 (m : MethodId) (x0 : Nat) (x1 : Int32) (x2 : Nat) (x3 : Int32) (x4 : Int32) : entryFrame m #[(.ref x0), (.int x1), (.ref x2), (.int x3), (.int x4)] 11 = mkF m 0 #[vr x0, vi x1, vr x2, vi x3, vi x4, uu, uu, uu, uu, uu, uu] [] := by first | (simp [entryFrame, mkF, argsToLocals, Value.category]; done) | rfl
theorem d17_0 : dk cD17 0 (.aload_n 2) 1 := by decide +kernel
theorem d17_1 : dk cD17 1 (.iconst 0) 1 := by decide +kernel
theorem d17_2 : dk cD17 2 .baload 1 := by decide +kernel
theorem d17_3 : dk cD17 3 (.istore 5) 2 := by decide +kernel
theorem d17_5 : dk cD17 5 (.iload_n 1) 1 := by decide +kernel
theorem d17_6 : dk cD17 6 (.iload_n 3) 1 := by decide +kernel
theorem d17_7 : dk cD17 7 .isub 1 := by decide +kernel
theorem d17_8 : dk cD17 8 (.istore 6) 2 := by decide +kernel
theorem d17_10 : dk cD17 10 (.iload 4) 2 := by decide +kernel
theorem d17_12 : dk cD17 12 (.istore 7) 2 := by decide +kernel
theorem d17_52 : dk cD17 52 (.iload 7) 2 := by decide +kernel
theorem d17_54 : dk cD17 54 (.iload 6) 2 := by decide +kernel
theorem d17_56 : dk cD17 56 (.if_icmp .gt 57) 3 := by decide +kernel
theorem d17_113 : dk cD17 113 (.iinc 7 1) 3 := by decide +kernel
theorem d17_116 : dk cD17 116 (.goto (-102)) 3 := by decide +kernel
theorem d17_59 : dk cD17 59 (.iload 7) 2 := by decide +kernel
theorem d17_61 : dk cD17 61 (.iconst 1) 1 := by decide +kernel
theorem d17_62 : dk cD17 62 .iadd 1 := by decide +kernel
theorem d17_63 : dk cD17 63 (.istore 8) 2 := by decide +kernel
theorem d17_65 : dk cD17 65 (.iload 8) 2 := by decide +kernel
theorem d17_67 : dk cD17 67 (.iload_n 3) 1 := by decide +kernel
theorem d17_68 : dk cD17 68 .iadd 1 := by decide +kernel
theorem d17_69 : dk cD17 69 (.iconst 1) 1 := by decide +kernel
theorem d17_70 : dk cD17 70 .isub 1 := by decide +kernel
theorem d17_71 : dk cD17 71 (.istore 9) 2 := by decide +kernel
theorem d17_73 : dk cD17 73 (.iconst 1) 1 := by decide +kernel
theorem d17_74 : dk cD17 74 (.istore 10) 2 := by decide +kernel
theorem d17_76 : dk cD17 76 (.iload 8) 2 := by decide +kernel
theorem d17_78 : dk cD17 78 (.iload 9) 2 := by decide +kernel
theorem d17_80 : dk cD17 80 (.if_icmp .ge 23) 3 := by decide +kernel
theorem d17_83 : dk cD17 83 (.aload_n 0) 1 := by decide +kernel
theorem d17_84 : dk cD17 84 (.iload 8) 2 := by decide +kernel
theorem d17_86 : dk cD17 86 .baload 1 := by decide +kernel
theorem d17_87 : dk cD17 87 (.aload_n 2) 1 := by decide +kernel
theorem d17_88 : dk cD17 88 (.iload 10) 2 := by decide +kernel
theorem d17_90 : dk cD17 90 .baload 1 := by decide +kernel
theorem d17_91 : dk cD17 91 (.if_icmp .ne 12) 3 := by decide +kernel
theorem d17_94 : dk cD17 94 (.iinc 8 1) 3 := by decide +kernel
theorem d17_97 : dk cD17 97 (.iinc 10 1) 3 := by decide +kernel
theorem d17_100 : dk cD17 100 (.goto (-24)) 3 := by decide +kernel
theorem d17_103 : dk cD17 103 (.iload 8) 2 := by decide +kernel
theorem d17_105 : dk cD17 105 (.iload 9) 2 := by decide +kernel
theorem d17_107 : dk cD17 107 (.if_icmp .ne 6) 3 := by decide +kernel
theorem d17_110 : dk cD17 110 (.iload 7) 2 := by decide +kernel
theorem d17_112 : dk cD17 112 .ireturn 1 := by decide +kernel
theorem d17_33 : dk cD17 33 (.iload 7) 2 := by decide +kernel
theorem d17_35 : dk cD17 35 (.iload 6) 2 := by decide +kernel
theorem d17_37 : dk cD17 37 (.if_icmp .gt 15) 3 := by decide +kernel
theorem d17_40 : dk cD17 40 (.aload_n 0) 1 := by decide +kernel
theorem d17_41 : dk cD17 41 (.iload 7) 2 := by decide +kernel
theorem d17_43 : dk cD17 43 .baload 1 := by decide +kernel
theorem d17_44 : dk cD17 44 (.iload 5) 2 := by decide +kernel
theorem d17_46 : dk cD17 46 (.if_icmp .eq 6) 3 := by decide +kernel
theorem d17_49 : dk cD17 49 (.goto (-19)) 3 := by decide +kernel
theorem d17_30 : dk cD17 30 (.iinc 7 1) 3 := by decide +kernel
theorem d17_14 : dk cD17 14 (.iload 7) 2 := by decide +kernel
theorem d17_16 : dk cD17 16 (.iload 6) 2 := by decide +kernel
theorem d17_18 : dk cD17 18 (.if_icmp .gt 101) 3 := by decide +kernel
theorem d17_119 : dk cD17 119 (.iconst (-1)) 1 := by decide +kernel
theorem d17_120 : dk cD17 120 .ireturn 1 := by decide +kernel
theorem d17_21 : dk cD17 21 (.aload_n 0) 1 := by decide +kernel
theorem d17_22 : dk cD17 22 (.iload 7) 2 := by decide +kernel
theorem d17_24 : dk cD17 24 .baload 1 := by decide +kernel
theorem d17_25 : dk cD17 25 (.iload 5) 2 := by decide +kernel
theorem d17_27 : dk cD17 27 (.if_icmp .eq 25) 3 := by decide +kernel
def Q_rmS5 (Z : State) (t : Nat) (kb : ClassId) (cs : List Int32) (u : Nat) (ku : ClassId) (f : Nat) (h0 : Heap) (n0 : Nat) (v : Option Value) (h : Heap) (L : List Loc) : Prop := ∃ r : Int32, v = some (.int r) ∧ own_ixs cs f r ∧ Fr n0 L ∧ h = h0
theorem rmS5 (l : Launch) (Z : State) (a0 : Array Value) (hw : own_H Z a0) (ws : List Jvm.Cond) (t : Nat) (kb : ClassId) (cs : List Int32) (u : Nat) (ku : ClassId) (f : Nat) (h0 : Heap) (n0 : Nat) (XO0 : Old Z n0 h0) (V_t : Arv Z h0 t kb .byte (Int32.ofNat cs.length) (cs.map fun c => Value.int (own_lo8 c)) (.int 0)) (hcs : ∀ c ∈ cs, own_ch c) (hcl : cs.length ≤ 22) (V_u : Arv Z h0 u ku .byte (2 : Int32) [(.int 36), (.int 123)] (.int 0)) (hf : f ≤ cs.length) :
  own_M l Z ym17 cD17 ws 11 (some .int) (own_R 0 0 0 0) #[(.ref t), (.int (Int32.ofNat cs.length)), (.ref u), (.int 2), (.int (Int32.ofNat f))] h0 (Q_rmS5 Z t kb cs u ku f h0 n0) := by
 refine own_open (plainFor_of_name pn_3) ?_
 intro p e s m below meth c s₁ hx hby hlk hret hml hown hnm hZ X0 e0
 have hW := own_hW hw
 have N0 := Fr.nil n0
 refine oo (fun tt_ kk_ => castTop (ef_rmS5 m t (Int32.ofNat cs.length) u (2 : Int32) (Int32.ofNat f)) kk_) ?_
 refine so (A := (s₁.setTop (mkF m 0 #[vr t, vi (Int32.ofNat cs.length), vr u, vi 2, vn f, uu, uu, uu, uu, uu, uu] []))) ?_
 refine oi (XS.aloadN X0.here hx rfl (hb hby d17_0) rfl rfl) ?_
 refine oi (XS.iconst X0.here hx rfl (hb hby d17_1)) ?_
 obtain ⟨cl1, Ar1, q1, S1, Ng1, H1, G1⟩ := id V_u
 have hin1 : ¬ ((0 : Int32) < 0 ∨ cl1.slots.size ≤ ((0 : Int32)).toNatClampNeg) := inb_of S1 ⟨by decide, by decide⟩
 have hat1 : cl1.slots[((0 : Int32)).toNatClampNeg]? = some (.int 36) := H1 0 (by rw [S1]; decide)
 refine oo (fun _ => X0.baloadBytes hx (j := (0 : Int32)) (v := (.int 36)) (by rw [e0]; exact Ar1.1) (State.isArrayOf_alike hZ.alike Ar1.2.1) Ar1.2.2 hin1 hat1 (g := (mkF m 2 #[vr t, vi (Int32.ofNat cs.length), vr u, vi 2, vn f, uu, uu, uu, uu, uu, uu] [(.int 0), (.ref u)])) rfl rfl (hb hby d17_2) _) ?_
 refine oi (XS.istore X0.here hx rfl (hb hby d17_3) rfl (l' := #[vr t, vi (Int32.ofNat cs.length), vr u, vi 2, vn f, vi 36, uu, uu, uu, uu, uu]) rfl) ?_
 refine oi (XS.iloadN X0.here hx rfl (hb hby d17_5) rfl) ?_
 refine oi (XS.iloadN X0.here hx rfl (hb hby d17_6) rfl) ?_
 refine oi (XS.isub X0.here hx rfl (hb hby d17_7) rfl) ?_
 refine oi (XS.istore X0.here hx rfl (hb hby d17_8) rfl (l' := #[vr t, vi (Int32.ofNat cs.length), vr u, vi 2, vn f, vi 36, vi ((Int32.ofNat cs.length) - (2 : Int32)), uu, uu, uu, uu]) rfl) ?_
 refine oi (XS.iload X0.here hx rfl (hb hby d17_10) rfl) ?_
 refine oi (XS.istore X0.here hx rfl (hb hby d17_12) rfl (l' := #[vr t, vi (Int32.ofNat cs.length), vr u, vi 2, vn f, vi 36, vi ((Int32.ofNat cs.length) - (2 : Int32)), vn f, uu, uu, uu]) rfl) ?_
 refine so (A := (s₁.setTop (mkF m 14 #[vr t, vi (Int32.ofNat cs.length), vr u, vi 2, vn f, vi 36, vi ((Int32.ofNat cs.length) - (2 : Int32)), vn f, uu, uu, uu] []))) ?_
 have loop : ∀ kk_ : Nat, (∀ i : Nat, cs.length + 1 ≤ i + kk_ → f ≤ i → (∀ j, f ≤ j → j < i → ¬ own_hit cs j) → i ≤ cs.length → ∀ (l8 l9 l10 : Slot), (l8 = .unset ∨ ∃ z, l8 = vi z) → (l9 = .unset ∨ ∃ z, l9 = vi z) → (l10 = .unset ∨ ∃ z, l10 = vi z) → ∀ (T' : State), Stand p l e (own_R 0 0 0 0) s m #[(.ref t), (.int (Int32.ofNat cs.length)), (.ref u), (.int 2), (.int (Int32.ofNat f))] below meth c T' [] 0 0 → T'.heap = h0 → own_go p e below s (Q_rmS5 Z t kb cs u ku f h0 n0) ((own_R 0 0 0 0)).cells ((own_R 0 0 0 0)).slots (T'.setTop (mkF m 14 #[vr t, vi (Int32.ofNat cs.length), vr u, vi 2, vn f, vi 36, vi ((Int32.ofNat cs.length) - (2 : Int32)), vn i, l8, l9, l10] []))) ∧ (∀ i : Nat, cs.length + 1 ≤ i + kk_ → f ≤ i → (∀ j, f ≤ j → j < i → ¬ own_hit cs j) → i + 1 ≤ cs.length → ∀ (l8 l9 l10 : Slot), (l8 = .unset ∨ ∃ z, l8 = vi z) → (l9 = .unset ∨ ∃ z, l9 = vi z) → (l10 = .unset ∨ ∃ z, l10 = vi z) → ∀ (T' : State), Stand p l e (own_R 0 0 0 0) s m #[(.ref t), (.int (Int32.ofNat cs.length)), (.ref u), (.int 2), (.int (Int32.ofNat f))] below meth c T' [] 0 0 → T'.heap = h0 → own_go p e below s (Q_rmS5 Z t kb cs u ku f h0 n0) ((own_R 0 0 0 0)).cells ((own_R 0 0 0 0)).slots (T'.setTop (mkF m 33 #[vr t, vi (Int32.ofNat cs.length), vr u, vi 2, vn f, vi 36, vi ((Int32.ofNat cs.length) - (2 : Int32)), vn i, l8, l9, l10] []))) := by
  intro kk_
  induction kk_ with
  | zero => exact ⟨fun i q1 q2 q3 q4 => by omega, fun i q1 q2 q3 q4 => by omega⟩
  | succ kk_ ih =>
   have h52 : ∀ i : Nat, cs.length + 1 ≤ i + (kk_ + 1) → f ≤ i → (∀ j, f ≤ j → j < i → ¬ own_hit cs j) → i + 1 ≤ cs.length → (i + 2 ≤ cs.length → cs[i]? = some 36) → ∀ (l8 l9 l10 : Slot), (l8 = .unset ∨ ∃ z, l8 = vi z) → (l9 = .unset ∨ ∃ z, l9 = vi z) → (l10 = .unset ∨ ∃ z, l10 = vi z) → ∀ (T' : State), Stand p l e (own_R 0 0 0 0) s m #[(.ref t), (.int (Int32.ofNat cs.length)), (.ref u), (.int 2), (.int (Int32.ofNat f))] below meth c T' [] 0 0 → T'.heap = h0 → own_go p e below s (Q_rmS5 Z t kb cs u ku f h0 n0) ((own_R 0 0 0 0)).cells ((own_R 0 0 0 0)).slots (T'.setTop (mkF m 52 #[vr t, vi (Int32.ofNat cs.length), vr u, vi 2, vn f, vi 36, vi ((Int32.ofNat cs.length) - (2 : Int32)), vn i, l8, l9, l10] [])) := by
    intro i q1 q3 hno q2 hd l8 l9 l10 o8 o9 o10 T' X' e'
    refine so (A := (T'.setTop (mkF m 52 #[vr t, vi (Int32.ofNat cs.length), vr u, vi 2, vn f, vi 36, vi ((Int32.ofNat cs.length) - (2 : Int32)), vn i, l8, l9, l10] []))) ?_
    refine oi (XS.iload X'.here hx rfl (hb hby d17_52) rfl) ?_
    refine oi (XS.iload X'.here hx rfl (hb hby d17_54) rfl) ?_
    by_cases hb56_2 : ((Int32.ofNat cs.length) - (2 : Int32)) < (Int32.ofNat i)
    ·refine oi (XS.icmpYes X'.here hx rfl (pc0 := 56) (pc' := 113) rfl (hb hby d17_56) rfl (tlt hb56_2).2.2.1 (by decide) (by decide)) ?_
     refine so (A := (T'.setTop (mkF m 113 #[vr t, vi (Int32.ofNat cs.length), vr u, vi 2, vn f, vi 36, vi ((Int32.ofNat cs.length) - (2 : Int32)), vn i, l8, l9, l10] []))) ?_
     refine oi (XS.iinc X'.here hx rfl (hb hby d17_113) rfl (l' := #[vr t, vi (Int32.ofNat cs.length), vr u, vi 2, vn f, vi 36, vi ((Int32.ofNat cs.length) - (2 : Int32)), vi ((Int32.ofNat i) + (1 : Int32)), l8, l9, l10]) rfl) ?_
     refine oi (XS.goto X'.here hx rfl (pc0 := 116) (pc' := 14) rfl (hb hby d17_116) (by decide) (by decide)) ?_
     refine so (A := (T'.setTop (mkF m 14 #[vr t, vi (Int32.ofNat cs.length), vr u, vi 2, vn f, vi 36, vi ((Int32.ofNat cs.length) - (2 : Int32)), vi ((Int32.ofNat i) + (1 : Int32)), l8, l9, l10] []))) ?_
     rw [own_p1]
     exact ih.1 (i + 1) (by omega) (by omega) (own_nhS hno (own_nh2 ((own_mx (by omega) (by omega)).mp hb56_2))) (by omega) _ _ _ o8 o9 o10 _ X' e'
    ·refine oi (XS.icmpNo X'.here hx rfl (hb hby d17_56) rfl (flt hb56_2).2.2.1) ?_
     refine so (A := (T'.setTop (mkF m 59 #[vr t, vi (Int32.ofNat cs.length), vr u, vi 2, vn f, vi 36, vi ((Int32.ofNat cs.length) - (2 : Int32)), vn i, l8, l9, l10] []))) ?_
     have hi2 : i + 2 ≤ cs.length := Nat.le_of_not_lt (fun u => hb56_2 ((own_mx (by omega) (by omega)).mpr u))
     obtain ⟨cj, hcj⟩ : ∃ z, cs[i + 1]? = some z := ⟨_, List.getElem?_eq_getElem (by omega)⟩
     refine oi (XS.iload X'.here hx rfl (hb hby d17_59) rfl) ?_
     refine oi (XS.iconst X'.here hx rfl (hb hby d17_61)) ?_
     refine oi (XS.iadd X'.here hx rfl (hb hby d17_62) rfl) ?_
     refine so (A := (T'.setTop (mkF m 63 #[vr t, vi (Int32.ofNat cs.length), vr u, vi 2, vn f, vi 36, vi ((Int32.ofNat cs.length) - (2 : Int32)), vn i, l8, l9, l10] [(.int ((Int32.ofNat i) + (1 : Int32)))]))) ?_
     rw [own_p1]
     refine so (A := (T'.setTop (mkF m 63 #[vr t, vi (Int32.ofNat cs.length), vr u, vi 2, vn f, vi 36, vi ((Int32.ofNat cs.length) - (2 : Int32)), vn i, l8, l9, l10] [(.int (Int32.ofNat (i + 1)))]))) ?_
     refine oi (XS.istore X'.here hx rfl (hb hby d17_63) rfl (l' := #[vr t, vi (Int32.ofNat cs.length), vr u, vi 2, vn f, vi 36, vi ((Int32.ofNat cs.length) - (2 : Int32)), vn i, vn (i + 1), l9, l10]) (by rcases o8 with rfl | ⟨z, rfl⟩ <;> rfl)) ?_
     refine oi (XS.iload X'.here hx rfl (hb hby d17_65) rfl) ?_
     refine oi (XS.iloadN X'.here hx rfl (hb hby d17_67) rfl) ?_
     refine oi (XS.iadd X'.here hx rfl (hb hby d17_68) rfl) ?_
     refine oi (XS.iconst X'.here hx rfl (hb hby d17_69)) ?_
     refine oi (XS.isub X'.here hx rfl (hb hby d17_70) rfl) ?_
     refine so (A := (T'.setTop (mkF m 71 #[vr t, vi (Int32.ofNat cs.length), vr u, vi 2, vn f, vi 36, vi ((Int32.ofNat cs.length) - (2 : Int32)), vn i, vn (i + 1), l9, l10] [(.int (((Int32.ofNat (i + 1)) + (2 : Int32)) - (1 : Int32)))]))) ?_
     rw [own_pm]
     refine so (A := (T'.setTop (mkF m 71 #[vr t, vi (Int32.ofNat cs.length), vr u, vi 2, vn f, vi 36, vi ((Int32.ofNat cs.length) - (2 : Int32)), vn i, vn (i + 1), l9, l10] [(.int (Int32.ofNat (i + 2)))]))) ?_
     refine oi (XS.istore X'.here hx rfl (hb hby d17_71) rfl (l' := #[vr t, vi (Int32.ofNat cs.length), vr u, vi 2, vn f, vi 36, vi ((Int32.ofNat cs.length) - (2 : Int32)), vn i, vn (i + 1), vn (i + 2), l10]) (by rcases o9 with rfl | ⟨z, rfl⟩ <;> rfl)) ?_
     refine oi (XS.iconst X'.here hx rfl (hb hby d17_73)) ?_
     refine oi (XS.istore X'.here hx rfl (hb hby d17_74) rfl (l' := #[vr t, vi (Int32.ofNat cs.length), vr u, vi 2, vn f, vi 36, vi ((Int32.ofNat cs.length) - (2 : Int32)), vn i, vn (i + 1), vn (i + 2), vi 1]) (by rcases o10 with rfl | ⟨z, rfl⟩ <;> rfl)) ?_
     refine oi (XS.iload X'.here hx rfl (hb hby d17_76) rfl) ?_
     refine oi (XS.iload X'.here hx rfl (hb hby d17_78) rfl) ?_
     have hb80_3 : (Int32.ofNat (i + 1)) < (Int32.ofNat (i + 2)) := (own_nlt (by omega) (by omega)).mpr (by omega)
     refine oi (XS.icmpNo X'.here hx rfl (hb hby d17_80) rfl (tlt hb80_3).2.1) ?_
     refine so (A := (T'.setTop (mkF m 83 #[vr t, vi (Int32.ofNat cs.length), vr u, vi 2, vn f, vi 36, vi ((Int32.ofNat cs.length) - (2 : Int32)), vn i, vn (i + 1), vn (i + 2), vi 1] []))) ?_
     refine oi (XS.aloadN X'.here hx rfl (hb hby d17_83) rfl rfl) ?_
     refine oi (XS.iload X'.here hx rfl (hb hby d17_84) rfl) ?_
     refine so (A := (T'.setTop (mkF m 86 #[vr t, vi (Int32.ofNat cs.length), vr u, vi 2, vn f, vi 36, vi ((Int32.ofNat cs.length) - (2 : Int32)), vn i, vn (i + 1), vn (i + 2), vi 1] [(.int (Int32.ofNat (i + 1))), (.ref t)]))) ?_
     obtain ⟨cl4, Ar4, q4, S4, Ng4, H4, G4⟩ := id V_t
     have hin4 : ¬ ((Int32.ofNat (i + 1)) < 0 ∨ cl4.slots.size ≤ ((Int32.ofNat (i + 1))).toNatClampNeg) := inb_of S4 (own_inn (by omega) (by omega))
     have hat4 : cl4.slots[((Int32.ofNat (i + 1))).toNatClampNeg]? = some (.int (own_lo8 cj)) := Has.at H4 hin4 (own_hget (by omega) hcj)
     refine oo (fun _ => X'.baloadBytes hx (j := (Int32.ofNat (i + 1))) (v := (.int (own_lo8 cj))) (by rw [e']; exact Ar4.1) (State.isArrayOf_alike hZ.alike Ar4.2.1) Ar4.2.2 hin4 hat4 (g := (mkF m 86 #[vr t, vi (Int32.ofNat cs.length), vr u, vi 2, vn f, vi 36, vi ((Int32.ofNat cs.length) - (2 : Int32)), vn i, vn (i + 1), vn (i + 2), vi 1] [(.int (Int32.ofNat (i + 1))), (.ref t)])) rfl rfl (hb hby d17_86) _) ?_
     refine oi (XS.aloadN X'.here hx rfl (hb hby d17_87) rfl rfl) ?_
     refine oi (XS.iload X'.here hx rfl (hb hby d17_88) rfl) ?_
     obtain ⟨cl5, Ar5, q5, S5, Ng5, H5, G5⟩ := id V_u
     have hin5 : ¬ ((1 : Int32) < 0 ∨ cl5.slots.size ≤ ((1 : Int32)).toNatClampNeg) := inb_of S5 ⟨by decide, by decide⟩
     have hat5 : cl5.slots[((1 : Int32)).toNatClampNeg]? = some (.int 123) := H5 1 (by rw [S5]; decide)
     refine oo (fun _ => X'.baloadBytes hx (j := (1 : Int32)) (v := (.int 123)) (by rw [e']; exact Ar5.1) (State.isArrayOf_alike hZ.alike Ar5.2.1) Ar5.2.2 hin5 hat5 (g := (mkF m 90 #[vr t, vi (Int32.ofNat cs.length), vr u, vi 2, vn f, vi 36, vi ((Int32.ofNat cs.length) - (2 : Int32)), vn i, vn (i + 1), vn (i + 2), vi 1] [(.int 1), (.ref u), (.int (own_lo8 cj))])) rfl rfl (hb hby d17_90) _) ?_
     by_cases hb91_6 : (own_lo8 cj) = (123 : Int32)
     ·refine oi (XS.icmpNo X'.here hx rfl (hb hby d17_91) rfl (teq hb91_6).2) ?_
      refine so (A := (T'.setTop (mkF m 94 #[vr t, vi (Int32.ofNat cs.length), vr u, vi 2, vn f, vi 36, vi ((Int32.ofNat cs.length) - (2 : Int32)), vn i, vn (i + 1), vn (i + 2), vi 1] []))) ?_
      refine oi (XS.iinc X'.here hx rfl (hb hby d17_94) rfl (l' := #[vr t, vi (Int32.ofNat cs.length), vr u, vi 2, vn f, vi 36, vi ((Int32.ofNat cs.length) - (2 : Int32)), vn i, .val (.int ((Int32.ofNat (i + 1)) + (1 : Int32))), vn (i + 2), vi 1]) rfl) ?_
      refine so (A := (T'.setTop (mkF m 97 #[vr t, vi (Int32.ofNat cs.length), vr u, vi 2, vn f, vi 36, vi ((Int32.ofNat cs.length) - (2 : Int32)), vn i, .val (.int ((Int32.ofNat (i + 1)) + (1 : Int32))), vn (i + 2), vi 1] []))) ?_
      rw [own_p1]
      refine so (A := (T'.setTop (mkF m 97 #[vr t, vi (Int32.ofNat cs.length), vr u, vi 2, vn f, vi 36, vi ((Int32.ofNat cs.length) - (2 : Int32)), vn i, vn (i + 2), vn (i + 2), vi 1] []))) ?_
      refine oi (XS.iinc X'.here hx rfl (hb hby d17_97) rfl (l' := #[vr t, vi (Int32.ofNat cs.length), vr u, vi 2, vn f, vi 36, vi ((Int32.ofNat cs.length) - (2 : Int32)), vn i, vn (i + 2), vn (i + 2), vi 2]) rfl) ?_
      refine oi (XS.goto X'.here hx rfl (pc0 := 100) (pc' := 76) rfl (hb hby d17_100) (by decide) (by decide)) ?_
      refine oi (XS.iload X'.here hx rfl (hb hby d17_76) rfl) ?_
      refine oi (XS.iload X'.here hx rfl (hb hby d17_78) rfl) ?_
      have hb80_7 : ¬ ((Int32.ofNat (i + 2)) < (Int32.ofNat (i + 2))) := fun u => by have := (own_nlt (by omega) (by omega)).mp u; omega
      refine oi (XS.icmpYes X'.here hx rfl (pc0 := 80) (pc' := 103) rfl (hb hby d17_80) rfl (flt hb80_7).2.1 (by decide) (by decide)) ?_
      refine so (A := (T'.setTop (mkF m 103 #[vr t, vi (Int32.ofNat cs.length), vr u, vi 2, vn f, vi 36, vi ((Int32.ofNat cs.length) - (2 : Int32)), vn i, vn (i + 2), vn (i + 2), vi 2] []))) ?_
      refine oi (XS.iload X'.here hx rfl (hb hby d17_103) rfl) ?_
      refine oi (XS.iload X'.here hx rfl (hb hby d17_105) rfl) ?_
      have hb107_8 : (Int32.ofNat (i + 2)) = (Int32.ofNat (i + 2)) := rfl
      refine oi (XS.icmpNo X'.here hx rfl (hb hby d17_107) rfl (teq hb107_8).2) ?_
      refine so (A := (T'.setTop (mkF m 110 #[vr t, vi (Int32.ofNat cs.length), vr u, vi 2, vn f, vi 36, vi ((Int32.ofNat cs.length) - (2 : Int32)), vn i, vn (i + 2), vn (i + 2), vi 2] []))) ?_
      refine oi (XS.iload X'.here hx rfl (hb hby d17_110) rfl) ?_
      refine so (A := (T'.setTop (mkF m 112 #[vr t, vi (Int32.ofNat cs.length), vr u, vi 2, vn f, vi 36, vi ((Int32.ofNat cs.length) - (2 : Int32)), vn i, vn (i + 2), vn (i + 2), vi 2] [(.int (Int32.ofNat i))]))) ?_
      refine own_ret X' hx hlk hret rfl (Or.inl ⟨rfl, by simp, _, rfl⟩) (hb hby d17_112) (by decide) (by decide) ?_
      rw [e']
      exact ⟨_, rfl, Or.inl ⟨i, rfl, q3, ⟨hd hi2, by rw [hcj, own_is (hcs cj (own_mem_of hcj)) (by decide : own_ch 123) hb91_6]⟩, hno⟩, N0, rfl⟩
     ·refine oi (XS.icmpYes X'.here hx rfl (pc0 := 91) (pc' := 103) rfl (hb hby d17_91) rfl (feq hb91_6).2 (by decide) (by decide)) ?_
      refine so (A := (T'.setTop (mkF m 103 #[vr t, vi (Int32.ofNat cs.length), vr u, vi 2, vn f, vi 36, vi ((Int32.ofNat cs.length) - (2 : Int32)), vn i, vn (i + 1), vn (i + 2), vi 1] []))) ?_
      refine oi (XS.iload X'.here hx rfl (hb hby d17_103) rfl) ?_
      refine oi (XS.iload X'.here hx rfl (hb hby d17_105) rfl) ?_
      have hb107_9 : ¬ ((Int32.ofNat (i + 1)) = (Int32.ofNat (i + 2))) := fun u => by have := (own_neq (by omega) (by omega)).mp u; omega
      refine oi (XS.icmpYes X'.here hx rfl (pc0 := 107) (pc' := 113) rfl (hb hby d17_107) rfl (feq hb107_9).2 (by decide) (by decide)) ?_
      refine so (A := (T'.setTop (mkF m 113 #[vr t, vi (Int32.ofNat cs.length), vr u, vi 2, vn f, vi 36, vi ((Int32.ofNat cs.length) - (2 : Int32)), vn i, vn (i + 1), vn (i + 2), vi 1] []))) ?_
      refine oi (XS.iinc X'.here hx rfl (hb hby d17_113) rfl (l' := #[vr t, vi (Int32.ofNat cs.length), vr u, vi 2, vn f, vi 36, vi ((Int32.ofNat cs.length) - (2 : Int32)), vi ((Int32.ofNat i) + (1 : Int32)), vn (i + 1), vn (i + 2), vi 1]) rfl) ?_
      refine oi (XS.goto X'.here hx rfl (pc0 := 116) (pc' := 14) rfl (hb hby d17_116) (by decide) (by decide)) ?_
      refine so (A := (T'.setTop (mkF m 14 #[vr t, vi (Int32.ofNat cs.length), vr u, vi 2, vn f, vi 36, vi ((Int32.ofNat cs.length) - (2 : Int32)), vi ((Int32.ofNat i) + (1 : Int32)), vn (i + 1), vn (i + 2), vi 1] []))) ?_
      rw [own_p1]
      exact ih.1 (i + 1) (by omega) (by omega) (own_nhS hno (own_nh1 hcj (hcs cj (own_mem_of hcj)) hb91_6)) (by omega) _ _ _ (Or.inr ⟨_, rfl⟩) (Or.inr ⟨_, rfl⟩) (Or.inr ⟨_, rfl⟩) _ X' e'
   have h33 : ∀ i : Nat, cs.length + 1 ≤ i + (kk_ + 1) → f ≤ i → (∀ j, f ≤ j → j < i → ¬ own_hit cs j) → i + 1 ≤ cs.length → ∀ (l8 l9 l10 : Slot), (l8 = .unset ∨ ∃ z, l8 = vi z) → (l9 = .unset ∨ ∃ z, l9 = vi z) → (l10 = .unset ∨ ∃ z, l10 = vi z) → ∀ (T' : State), Stand p l e (own_R 0 0 0 0) s m #[(.ref t), (.int (Int32.ofNat cs.length)), (.ref u), (.int 2), (.int (Int32.ofNat f))] below meth c T' [] 0 0 → T'.heap = h0 → own_go p e below s (Q_rmS5 Z t kb cs u ku f h0 n0) ((own_R 0 0 0 0)).cells ((own_R 0 0 0 0)).slots (T'.setTop (mkF m 33 #[vr t, vi (Int32.ofNat cs.length), vr u, vi 2, vn f, vi 36, vi ((Int32.ofNat cs.length) - (2 : Int32)), vn i, l8, l9, l10] [])) := by
    intro i q1 q3 hno q2 l8 l9 l10 o8 o9 o10 T' X' e'
    refine so (A := (T'.setTop (mkF m 33 #[vr t, vi (Int32.ofNat cs.length), vr u, vi 2, vn f, vi 36, vi ((Int32.ofNat cs.length) - (2 : Int32)), vn i, l8, l9, l10] []))) ?_
    refine oi (XS.iload X'.here hx rfl (hb hby d17_33) rfl) ?_
    refine oi (XS.iload X'.here hx rfl (hb hby d17_35) rfl) ?_
    by_cases hb37_10 : ((Int32.ofNat cs.length) - (2 : Int32)) < (Int32.ofNat i)
    ·refine oi (XS.icmpYes X'.here hx rfl (pc0 := 37) (pc' := 52) rfl (hb hby d17_37) rfl (tlt hb37_10).2.2.1 (by decide) (by decide)) ?_
     refine so (A := (T'.setTop (mkF m 52 #[vr t, vi (Int32.ofNat cs.length), vr u, vi 2, vn f, vi 36, vi ((Int32.ofNat cs.length) - (2 : Int32)), vn i, l8, l9, l10] []))) ?_
     exact h52 i q1 q3 hno (by omega) (fun u => absurd u (Nat.not_le_of_lt ((own_mx (by omega) (by omega)).mp hb37_10))) _ _ _ o8 o9 o10 _ X' e'
    ·refine oi (XS.icmpNo X'.here hx rfl (hb hby d17_37) rfl (flt hb37_10).2.2.1) ?_
     refine so (A := (T'.setTop (mkF m 40 #[vr t, vi (Int32.ofNat cs.length), vr u, vi 2, vn f, vi 36, vi ((Int32.ofNat cs.length) - (2 : Int32)), vn i, l8, l9, l10] []))) ?_
     refine oi (XS.aloadN X'.here hx rfl (hb hby d17_40) rfl rfl) ?_
     refine oi (XS.iload X'.here hx rfl (hb hby d17_41) rfl) ?_
     refine so (A := (T'.setTop (mkF m 43 #[vr t, vi (Int32.ofNat cs.length), vr u, vi 2, vn f, vi 36, vi ((Int32.ofNat cs.length) - (2 : Int32)), vn i, l8, l9, l10] [(.int (Int32.ofNat i)), (.ref t)]))) ?_
     have hi2 : i + 2 ≤ cs.length := Nat.le_of_not_lt (fun u => hb37_10 ((own_mx (by omega) (by omega)).mpr u))
     obtain ⟨ci, hci⟩ : ∃ z, cs[i]? = some z := ⟨_, List.getElem?_eq_getElem (by omega)⟩
     obtain ⟨cl11, Ar11, q11, S11, Ng11, H11, G11⟩ := id V_t
     have hin11 : ¬ ((Int32.ofNat i) < 0 ∨ cl11.slots.size ≤ ((Int32.ofNat i)).toNatClampNeg) := inb_of S11 (own_inn (by omega) (by omega))
     have hat11 : cl11.slots[((Int32.ofNat i)).toNatClampNeg]? = some (.int (own_lo8 ci)) := Has.at H11 hin11 (own_hget (by omega) hci)
     refine oo (fun _ => X'.baloadBytes hx (j := (Int32.ofNat i)) (v := (.int (own_lo8 ci))) (by rw [e']; exact Ar11.1) (State.isArrayOf_alike hZ.alike Ar11.2.1) Ar11.2.2 hin11 hat11 (g := (mkF m 43 #[vr t, vi (Int32.ofNat cs.length), vr u, vi 2, vn f, vi 36, vi ((Int32.ofNat cs.length) - (2 : Int32)), vn i, l8, l9, l10] [(.int (Int32.ofNat i)), (.ref t)])) rfl rfl (hb hby d17_43) _) ?_
     refine oi (XS.iload X'.here hx rfl (hb hby d17_44) rfl) ?_
     by_cases hb46_12 : (own_lo8 ci) = (36 : Int32)
     ·refine oi (XS.icmpYes X'.here hx rfl (pc0 := 46) (pc' := 52) rfl (hb hby d17_46) rfl (teq hb46_12).1 (by decide) (by decide)) ?_
      refine so (A := (T'.setTop (mkF m 52 #[vr t, vi (Int32.ofNat cs.length), vr u, vi 2, vn f, vi 36, vi ((Int32.ofNat cs.length) - (2 : Int32)), vn i, l8, l9, l10] []))) ?_
      exact h52 i q1 q3 hno (by omega) (fun u => (by rw [hci, own_is (hcs ci (own_mem_of hci)) (by decide : own_ch 36) hb46_12])) _ _ _ o8 o9 o10 _ X' e'
     ·refine oi (XS.icmpNo X'.here hx rfl (hb hby d17_46) rfl (feq hb46_12).1) ?_
      refine so (A := (T'.setTop (mkF m 49 #[vr t, vi (Int32.ofNat cs.length), vr u, vi 2, vn f, vi 36, vi ((Int32.ofNat cs.length) - (2 : Int32)), vn i, l8, l9, l10] []))) ?_
      refine oi (XS.goto X'.here hx rfl (pc0 := 49) (pc' := 30) rfl (hb hby d17_49) (by decide) (by decide)) ?_
      refine oi (XS.iinc X'.here hx rfl (hb hby d17_30) rfl (l' := #[vr t, vi (Int32.ofNat cs.length), vr u, vi 2, vn f, vi 36, vi ((Int32.ofNat cs.length) - (2 : Int32)), vi ((Int32.ofNat i) + (1 : Int32)), l8, l9, l10]) rfl) ?_
      refine so (A := (T'.setTop (mkF m 33 #[vr t, vi (Int32.ofNat cs.length), vr u, vi 2, vn f, vi 36, vi ((Int32.ofNat cs.length) - (2 : Int32)), vi ((Int32.ofNat i) + (1 : Int32)), l8, l9, l10] []))) ?_
      rw [own_p1]
      exact ih.2 (i + 1) (by omega) (by omega) (own_nhS hno (own_nh0 hci (hcs ci (own_mem_of hci)) hb46_12)) (by omega) _ _ _ o8 o9 o10 _ X' e'
   refine ⟨?_, h33⟩
   intro i q1 q3 hno q2 l8 l9 l10 o8 o9 o10 T' X' e'
   refine so (A := (T'.setTop (mkF m 14 #[vr t, vi (Int32.ofNat cs.length), vr u, vi 2, vn f, vi 36, vi ((Int32.ofNat cs.length) - (2 : Int32)), vn i, l8, l9, l10] []))) ?_
   refine oi (XS.iload X'.here hx rfl (hb hby d17_14) rfl) ?_
   refine oi (XS.iload X'.here hx rfl (hb hby d17_16) rfl) ?_
   by_cases hb18_13 : ((Int32.ofNat cs.length) - (2 : Int32)) < (Int32.ofNat i)
   ·refine oi (XS.icmpYes X'.here hx rfl (pc0 := 18) (pc' := 119) rfl (hb hby d17_18) rfl (tlt hb18_13).2.2.1 (by decide) (by decide)) ?_
    refine so (A := (T'.setTop (mkF m 119 #[vr t, vi (Int32.ofNat cs.length), vr u, vi 2, vn f, vi 36, vi ((Int32.ofNat cs.length) - (2 : Int32)), vn i, l8, l9, l10] []))) ?_
    refine oi (XS.iconst X'.here hx rfl (hb hby d17_119)) ?_
    refine so (A := (T'.setTop (mkF m 120 #[vr t, vi (Int32.ofNat cs.length), vr u, vi 2, vn f, vi 36, vi ((Int32.ofNat cs.length) - (2 : Int32)), vn i, l8, l9, l10] [(.int (-1))]))) ?_
    refine own_ret X' hx hlk hret rfl (Or.inl ⟨rfl, by simp, _, rfl⟩) (hb hby d17_120) (by decide) (by decide) ?_
    rw [e']
    exact ⟨_, rfl, Or.inr ⟨rfl, fun j u1 u2 => by by_cases u3 : j < i; exact hno j u1 u3 u2; have u4 := own_lt_of u2.2; have u5 := (own_mx (by omega) (by omega)).mp hb18_13; omega⟩, N0, rfl⟩
   ·refine oi (XS.icmpNo X'.here hx rfl (hb hby d17_18) rfl (flt hb18_13).2.2.1) ?_
    refine so (A := (T'.setTop (mkF m 21 #[vr t, vi (Int32.ofNat cs.length), vr u, vi 2, vn f, vi 36, vi ((Int32.ofNat cs.length) - (2 : Int32)), vn i, l8, l9, l10] []))) ?_
    refine oi (XS.aloadN X'.here hx rfl (hb hby d17_21) rfl rfl) ?_
    refine oi (XS.iload X'.here hx rfl (hb hby d17_22) rfl) ?_
    refine so (A := (T'.setTop (mkF m 24 #[vr t, vi (Int32.ofNat cs.length), vr u, vi 2, vn f, vi 36, vi ((Int32.ofNat cs.length) - (2 : Int32)), vn i, l8, l9, l10] [(.int (Int32.ofNat i)), (.ref t)]))) ?_
    have hi2 : i + 2 ≤ cs.length := Nat.le_of_not_lt (fun u => hb18_13 ((own_mx (by omega) (by omega)).mpr u))
    obtain ⟨ci, hci⟩ : ∃ z, cs[i]? = some z := ⟨_, List.getElem?_eq_getElem (by omega)⟩
    obtain ⟨cl14, Ar14, q14, S14, Ng14, H14, G14⟩ := id V_t
    have hin14 : ¬ ((Int32.ofNat i) < 0 ∨ cl14.slots.size ≤ ((Int32.ofNat i)).toNatClampNeg) := inb_of S14 (own_inn (by omega) (by omega))
    have hat14 : cl14.slots[((Int32.ofNat i)).toNatClampNeg]? = some (.int (own_lo8 ci)) := Has.at H14 hin14 (own_hget (by omega) hci)
    refine oo (fun _ => X'.baloadBytes hx (j := (Int32.ofNat i)) (v := (.int (own_lo8 ci))) (by rw [e']; exact Ar14.1) (State.isArrayOf_alike hZ.alike Ar14.2.1) Ar14.2.2 hin14 hat14 (g := (mkF m 24 #[vr t, vi (Int32.ofNat cs.length), vr u, vi 2, vn f, vi 36, vi ((Int32.ofNat cs.length) - (2 : Int32)), vn i, l8, l9, l10] [(.int (Int32.ofNat i)), (.ref t)])) rfl rfl (hb hby d17_24) _) ?_
    refine oi (XS.iload X'.here hx rfl (hb hby d17_25) rfl) ?_
    by_cases hb27_15 : (own_lo8 ci) = (36 : Int32)
    ·refine oi (XS.icmpYes X'.here hx rfl (pc0 := 27) (pc' := 52) rfl (hb hby d17_27) rfl (teq hb27_15).1 (by decide) (by decide)) ?_
     refine so (A := (T'.setTop (mkF m 52 #[vr t, vi (Int32.ofNat cs.length), vr u, vi 2, vn f, vi 36, vi ((Int32.ofNat cs.length) - (2 : Int32)), vn i, l8, l9, l10] []))) ?_
     exact h52 i q1 q3 hno (by omega) (fun u => (by rw [hci, own_is (hcs ci (own_mem_of hci)) (by decide : own_ch 36) hb27_15])) _ _ _ o8 o9 o10 _ X' e'
    ·refine oi (XS.icmpNo X'.here hx rfl (hb hby d17_27) rfl (feq hb27_15).1) ?_
     refine so (A := (T'.setTop (mkF m 30 #[vr t, vi (Int32.ofNat cs.length), vr u, vi 2, vn f, vi 36, vi ((Int32.ofNat cs.length) - (2 : Int32)), vn i, l8, l9, l10] []))) ?_
     refine oi (XS.iinc X'.here hx rfl (hb hby d17_30) rfl (l' := #[vr t, vi (Int32.ofNat cs.length), vr u, vi 2, vn f, vi 36, vi ((Int32.ofNat cs.length) - (2 : Int32)), vi ((Int32.ofNat i) + (1 : Int32)), l8, l9, l10]) rfl) ?_
     refine so (A := (T'.setTop (mkF m 33 #[vr t, vi (Int32.ofNat cs.length), vr u, vi 2, vn f, vi 36, vi ((Int32.ofNat cs.length) - (2 : Int32)), vi ((Int32.ofNat i) + (1 : Int32)), l8, l9, l10] []))) ?_
     rw [own_p1]
     exact ih.2 (i + 1) (by omega) (by omega) (own_nhS hno (own_nh0 hci (hcs ci (own_mem_of hci)) hb27_15)) (by omega) _ _ _ o8 o9 o10 _ X' e'
 exact (loop (cs.length + 1)).1 f (by omega) (Nat.le_refl f) (fun j u1 u2 => by omega) hf _ _ _ (Or.inl rfl) (Or.inl rfl) (Or.inl rfl) _ X0 e0
theorem ef_rmS2 (m : MethodId) (x0 : Nat) (x1 : Nat) : entryFrame m #[(.ref x0), (.ref x1)] 2 = mkF m 0 #[vr x0, vr x1] [] := by first | (simp [entryFrame, mkF, argsToLocals, Value.category]; done) | rfl
theorem d16_0 : dk cD16 0 (.aload_n 1) 1 := by decide +kernel
theorem d16_1 : dk cD16 1 .arraylength 1 := by decide +kernel
theorem d16_2 : dk cD16 2 (.ifCond .ne 5) 3 := by decide +kernel
theorem d16_7 : dk cD16 7 (.aload_n 0) 1 := by decide +kernel
theorem d16_8 : dk cD16 8 .arraylength 1 := by decide +kernel
theorem d16_9 : dk cD16 9 (.ifCond .ne 5) 3 := by decide +kernel
theorem d16_14 : dk cD16 14 (.aload_n 0) 1 := by decide +kernel
theorem d16_15 : dk cD16 15 (.aload_n 0) 1 := by decide +kernel
theorem d16_16 : dk cD16 16 .arraylength 1 := by decide +kernel
theorem d16_17 : dk cD16 17 (.aload_n 1) 1 := by decide +kernel
theorem d16_18 : dk cD16 18 (.aload_n 1) 1 := by decide +kernel
theorem d16_19 : dk cD16 19 .arraylength 1 := by decide +kernel
theorem d16_20 : dk cD16 20 (.iconst 0) 1 := by decide +kernel
theorem d16_21 : dk cD16 21 (.invokestatic 99) 3 := by decide +kernel
theorem pd_9 : parseMethodDescriptor "([BI[BII)I" = some ⟨[(.array .byte), .int, (.array .byte), .int, .int], some .int⟩ := by decide +kernel
theorem d16_24 : dk cD16 24 .ireturn 1 := by decide +kernel
def Q_rmS2 (Z : State) (t : Nat) (kb : ClassId) (cs : List Int32) (u : Nat) (ku : ClassId) (h0 : Heap) (n0 : Nat) (v : Option Value) (h : Heap) (L : List Loc) : Prop := ∃ r : Int32, v = some (.int r) ∧ own_ixs cs 0 r ∧ Fr n0 L ∧ h = h0
theorem rmS2 (l : Launch) (Z : State) (a0 : Array Value) (hw : own_H Z a0) (ws : List Jvm.Cond) (t : Nat) (kb : ClassId) (cs : List Int32) (u : Nat) (ku : ClassId) (h0 : Heap) (n0 : Nat) (XO0 : Old Z n0 h0) (V_t : Arv Z h0 t kb .byte (Int32.ofNat cs.length) (cs.map fun c => Value.int (own_lo8 c)) (.int 0)) (hcs : ∀ c ∈ cs, own_ch c) (hcl : cs.length ≤ 22) (V_u : Arv Z h0 u ku .byte (2 : Int32) [(.int 36), (.int 123)] (.int 0)) (hp : 0 < cs.length) :
  own_M l Z ym16 cD16 ws 2 (some .int) (own_R 1 0 0 22) #[(.ref t), (.ref u)] h0 (Q_rmS2 Z t kb cs u ku h0 n0) := by
 refine own_open (plainFor_of_name pn_3) ?_
 intro p e s m below meth c s₁ hx hby hlk hret hml hown hnm hZ X0 e0
 have hW := own_hW hw
 have N0 := Fr.nil n0
 refine oo (fun tt_ kk_ => castTop (ef_rmS2 m t u) kk_) ?_
 refine so (A := (s₁.setTop (mkF m 0 #[vr t, vr u] []))) ?_
 refine oi (XS.aloadN X0.here hx rfl (hb hby d16_0) rfl rfl) ?_
 obtain ⟨cl1, Ar1, q1, S1, Ng1, H1, G1⟩ := id V_u
 refine oo (fun tt_ kk => X0.arraylength hx (by rw [e0]; exact Ar1.1) (State.isArrayOf_alike hZ.alike Ar1.2.1) (g := (mkF m 1 #[vr t, vr u] [(.ref u)])) rfl rfl (hb hby d16_1) _ (by rw [len_of S1 Ng1]; exact kk)) ?_
 have hb2_2 : ¬ ((2 : Int32) = (0 : Int32)) := by decide
 refine oi (XS.ifYes X0.here hx rfl (pc0 := 2) (pc' := 7) rfl (hb hby d16_2) rfl ((if0 _ _).trans (feq hb2_2).2) (by decide) (by decide)) ?_
 refine oi (XS.aloadN X0.here hx rfl (hb hby d16_7) rfl rfl) ?_
 obtain ⟨cl3, Ar3, q3, S3, Ng3, H3, G3⟩ := id V_t
 refine oo (fun tt_ kk => X0.arraylength hx (by rw [e0]; exact Ar3.1) (State.isArrayOf_alike hZ.alike Ar3.2.1) (g := (mkF m 8 #[vr t, vr u] [(.ref t)])) rfl rfl (hb hby d16_8) _ (by rw [len_of S3 Ng3]; exact kk)) ?_
 have hb9_4 : ¬ ((Int32.ofNat cs.length) = (0 : Int32)) := fun q => Nat.ne_of_gt hp ((own_neq (b := 0) (by omega) (by omega)).mp q)
 refine oi (XS.ifYes X0.here hx rfl (pc0 := 9) (pc' := 14) rfl (hb hby d16_9) rfl ((if0 _ _).trans (feq hb9_4).2) (by decide) (by decide)) ?_
 refine so (A := (s₁.setTop (mkF m 14 #[vr t, vr u] []))) ?_
 refine oi (XS.aloadN X0.here hx rfl (hb hby d16_14) rfl rfl) ?_
 refine oi (XS.aloadN X0.here hx rfl (hb hby d16_15) rfl rfl) ?_
 obtain ⟨cl5, Ar5, q5, S5, Ng5, H5, G5⟩ := id V_t
 refine oo (fun tt_ kk => X0.arraylength hx (by rw [e0]; exact Ar5.1) (State.isArrayOf_alike hZ.alike Ar5.2.1) (g := (mkF m 16 #[vr t, vr u] [(.ref t), (.ref t)])) rfl rfl (hb hby d16_16) _ (by rw [len_of S5 Ng5]; exact kk)) ?_
 refine oi (XS.aloadN X0.here hx rfl (hb hby d16_17) rfl rfl) ?_
 refine oi (XS.aloadN X0.here hx rfl (hb hby d16_18) rfl rfl) ?_
 obtain ⟨cl6, Ar6, q6, S6, Ng6, H6, G6⟩ := id V_u
 refine oo (fun tt_ kk => X0.arraylength hx (by rw [e0]; exact Ar6.1) (State.isArrayOf_alike hZ.alike Ar6.2.1) (g := (mkF m 19 #[vr t, vr u] [(.ref u), (.ref u), (.int (Int32.ofNat cs.length)), (.ref t)])) rfl rfl (hb hby d16_19) _ (by rw [len_of S6 Ng6]; exact kk)) ?_
 refine oi (XS.iconst X0.here hx rfl (hb hby d16_20)) ?_
 refine so (A := (s₁.setTop (mkF m 21 #[vr t, vr u] [(.int 0), (.int 2), (.ref u), (.int (Int32.ofNat cs.length)), (.ref t)]))) ?_
 obtain ⟨_, T7, Lc7, X7, hQ7, st7⟩ := own_c1 X0 <| Jvm.LawKit.callS X0 hx (y := ym17) hown (mvT hZ (hW 99 _ rfl)) (mvT hZ (hW 100 _ rfl)) (mvT hZ (hW 97 _ rfl)) (mvT hZ (hW 101 _ rfl)) (by decide) (backOf (W := 0) (rmS5 l Z a0 hw [] t kb cs u ku 0 h0 n0 XO0 V_t hcs hcl V_u (by omega)) hZ (hW 101 _ rfl) (hW 97 _ rfl) (by decide) (by decide)) (g := (mkF m 21 #[vr t, vr u] [(.int 0), (.int 2), (.ref u), (.int (Int32.ofNat cs.length)), (.ref t)])) rfl (by rw [hml]; rfl) (argsL := [(.ref t), (.int (Int32.ofNat cs.length)), (.ref u), (.int 2), (.int 0)]) (rest := []) (lenOf pd_9 rfl) rfl (Nat.le_of_eq rfl) (hb hby d16_21) (fun _ _ => ⟨rfl, e0, (by decide : 0 + 0 ≤ _), (by decide : 0 + 0 ≤ _)⟩)
 obtain ⟨r7, rfl, hr7, Nq7, eh7⟩ := hQ7
 have N7 := Fr.app N0 Nq7
 refine oo st7 ?_
 refine so (A := (T7.setTop (mkF m 24 #[vr t, vr u] [(.int r7)]))) ?_
 refine own_ret X7 hx hlk hret rfl (Or.inl ⟨rfl, by simp, _, rfl⟩) (hb hby d16_24) (by decide) (by decide) ?_
 rw [eh7]
 exact ⟨_, rfl, hr7, N7, rfl⟩
theorem ef_rmS1 (m : MethodId) (x0 : Nat) (x1 : Nat) : entryFrame m #[(.ref x0), (.ref x1)] 3 = mkF m 0 #[vr x0, vr x1, uu] [] := by first | (simp [entryFrame, mkF, argsToLocals, Value.category]; done) | rfl
theorem d13_0 : dk cD13 0 (.aload_n 0) 1 := by decide +kernel
theorem d13_1 : dk cD13 1 (.invokevirtual 335) 3 := by decide +kernel
theorem d13_4 : dk cD13 4 (.istore_n 2) 1 := by decide +kernel
theorem d13_5 : dk cD13 5 (.iload_n 2) 1 := by decide +kernel
theorem d13_6 : dk cD13 6 (.aload_n 1) 1 := by decide +kernel
theorem d13_7 : dk cD13 7 (.invokevirtual 335) 3 := by decide +kernel
theorem d13_10 : dk cD13 10 (.if_icmp .ne 36) 3 := by decide +kernel
theorem d13_13 : dk cD13 13 (.aload_n 0) 1 := by decide +kernel
theorem d13_14 : dk cD13 14 (.invokevirtual 492) 3 := by decide +kernel
theorem d13_17 : dk cD13 17 (.ifCond .eq 17) 3 := by decide +kernel
theorem d13_20 : dk cD13 20 (.aload_n 0) 1 := by decide +kernel
theorem d13_21 : dk cD13 21 (.getfield 9) 3 := by decide +kernel
theorem d13_24 : dk cD13 24 (.aload_n 1) 1 := by decide +kernel
theorem d13_25 : dk cD13 25 (.getfield 9) 3 := by decide +kernel
theorem d13_28 : dk cD13 28 (.invokestatic 647) 3 := by decide +kernel
theorem pd_10 : parseMethodDescriptor "([B[B)I" = some ⟨[(.array .byte), (.array .byte)], some .int⟩ := by decide +kernel
theorem d13_31 : dk cD13 31 (.goto 14) 3 := by decide +kernel
theorem d13_45 : dk cD13 45 .ireturn 1 := by decide +kernel
def Q_rmS1 (Z : State) (x : Nat) (cs : List Int32) (y : Nat) (Gc : Int32) (h0 : Heap) (n0 : Nat) (v : Option Value) (h : Heap) (L : List Loc) : Prop := ∃ r : Int32, v = some (.int r) ∧ own_ixs cs 0 r ∧ Fr n0 L ∧ h = h0
theorem rmS1 (l : Launch) (Z : State) (a0 : Array Value) (hw : own_H Z a0) (ws : List Jvm.Cond) (x : Nat) (cs : List Int32) (y : Nat) (Gc : Int32) (h0 : Heap) (n0 : Nat) (XO0 : Old Z n0 h0) (Oc : Sta Z Z.heap "java/lang/String" "COMPACT_STRINGS" "Z" (.int Gc)) (Pc : ¬ (Gc = (0 : Int32))) (S_x : own_sr Z h0 x cs) (S_y : own_sr Z h0 y ([36, 123] : List Int32)) (hp : 0 < cs.length) :
  own_M l Z ym13 cD13 ws 3 (some .int) (own_R 2 0 0 35) #[(.ref x), (.ref y)] h0 (Q_rmS1 Z x cs y Gc h0 n0) := by
 refine own_open (plainFor_of_name pn_0) ?_
 intro p e s m below meth c s₁ hx hby hlk hret hml hown hnm hZ X0 e0
 have hW := own_hW hw
 have N0 := Fr.nil n0
 refine oo (fun tt_ kk_ => castTop (ef_rmS1 m x y) kk_) ?_
 refine so (A := (s₁.setTop (mkF m 0 #[vr x, vr y, uu] []))) ?_
 obtain ⟨hc_x, hl_x, t_x, kb_x, E_x, F_x, C_x, V_x⟩ := id S_x
 obtain ⟨hc_y, hl_y, t_y, kb_y, E_y, F_y, C_y, V_y⟩ := id S_y
 have V_u : Arv Z h0 t_y kb_y .byte (2 : Int32) [(.int 36), (.int 123)] (.int 0) := V_y
 refine oi (XS.aloadN X0.here hx rfl (hb hby d13_0) rfl rfl) ?_
 refine so (A := (s₁.setTop (mkF m 1 #[vr x, vr y, uu] [(.ref x)]))) ?_
 obtain ⟨cq1, kq1, q1a, q1b, q1c⟩ := isOf hZ e0 E_x
 obtain ⟨_, T1, Lc1, X1, hQ1, st1⟩ := own_c1 X0 <| X0.virtualBack hx (y := ym14) (z := ym14) hown (mvT hZ (hW 85 _ rfl)) (mvT hZ (hW 86 _ rfl)) (notFace_of_selects (args := #[]) (mvT hZ (hW 88 _ rfl))) (mvT hZ (hW 88 _ rfl)) (mvT hZ (hW 87 _ rfl)) (by decide) (backOf (W := 0) (rmCo l Z a0 hw [] x cs Gc h0 n0 XO0 Oc Pc S_x) hZ (hW 89 _ rfl) (hW 8 _ rfl) (by decide) (by decide)) q1a q1c (g := (mkF m 1 #[vr x, vr y, uu] [(.ref x)])) rfl (by rw [hml]; rfl) (Steps.refl _) (argsL := []) (rest := []) (lenOf pd_0 rfl) rfl (Nat.le_of_eq rfl) (hb hby d13_1) (fun _ _ => ⟨rfl, e0, (by decide : 0 + 0 ≤ _), (by decide : 0 + 0 ≤ _)⟩)
 obtain ⟨rfl, Nq1, eh1⟩ := hQ1
 have N1 := Fr.app N0 Nq1
 refine oo (fun tt_ kk_ => st1.trans kk_) ?_
 refine oi (XS.istoreN X1.here hx rfl (hb hby d13_4) rfl (l' := #[vr x, vr y, vz]) rfl) ?_
 refine oi (XS.iloadN X1.here hx rfl (hb hby d13_5) rfl) ?_
 refine oi (XS.aloadN X1.here hx rfl (hb hby d13_6) rfl rfl) ?_
 refine so (A := (T1.setTop (mkF m 7 #[vr x, vr y, vz] [(.ref y), (.int 0)]))) ?_
 obtain ⟨cq2, kq2, q2a, q2b, q2c⟩ := isOf hZ eh1 E_y
 obtain ⟨_, T2, Lc2, X2, hQ2, st2⟩ := own_c1 X1 <| X1.virtualBack hx (y := ym14) (z := ym14) hown (mvT hZ (hW 85 _ rfl)) (mvT hZ (hW 86 _ rfl)) (notFace_of_selects (args := #[]) (mvT hZ (hW 88 _ rfl))) (mvT hZ (hW 88 _ rfl)) (mvT hZ (hW 87 _ rfl)) (by decide) (backOf (W := 1) (rmCo l Z a0 hw [] y ([36, 123] : List Int32) Gc h0 n0 XO0 Oc Pc S_y) hZ (hW 89 _ rfl) (hW 8 _ rfl) (by decide) (by decide)) q2a q2c (g := (mkF m 7 #[vr x, vr y, vz] [(.ref y), (.int 0)])) rfl (by rw [hml]; rfl) (Steps.refl _) (argsL := []) (rest := [(.int 0)]) (lenOf pd_0 rfl) rfl (Nat.le_of_eq rfl) (hb hby d13_7) (fun _ _ => ⟨rfl, eh1, (by decide : 0 + 0 ≤ _), (by decide : 0 + 0 ≤ _)⟩)
 obtain ⟨rfl, Nq2, eh2⟩ := hQ2
 have N2 := Fr.app N1 Nq2
 refine oo (fun tt_ kk_ => st2.trans kk_) ?_
 have hb10_3 : (0 : Int32) = (0 : Int32) := by decide
 refine oi (XS.icmpNo X2.here hx rfl (hb hby d13_10) rfl (teq hb10_3).2) ?_
 refine oi (XS.aloadN X2.here hx rfl (hb hby d13_13) rfl rfl) ?_
 refine so (A := (T2.setTop (mkF m 14 #[vr x, vr y, vz] [(.ref x)]))) ?_
 obtain ⟨cq4, kq4, q4a, q4b, q4c⟩ := isOf hZ eh2 E_x
 obtain ⟨_, T4, Lc4, X4, hQ4, st4⟩ := own_c1 X2 <| X2.virtualBack hx (y := ym15) (z := ym15) hown (mvT hZ (hW 90 _ rfl)) (mvT hZ (hW 91 _ rfl)) (notFace_of_selects (args := #[]) (mvT hZ (hW 93 _ rfl))) (mvT hZ (hW 93 _ rfl)) (mvT hZ (hW 92 _ rfl)) (by decide) (backOf (W := 0) (rmIL l Z a0 hw [] x cs Gc h0 n0 XO0 Oc Pc S_x) hZ (hW 94 _ rfl) (hW 8 _ rfl) (by decide) (by decide)) q4a q4c (g := (mkF m 14 #[vr x, vr y, vz] [(.ref x)])) rfl (by rw [hml]; rfl) (Steps.refl _) (argsL := []) (rest := []) (lenOf pd_3 rfl) rfl (Nat.le_of_eq rfl) (hb hby d13_14) (fun _ _ => ⟨rfl, eh2, (by decide : 0 + 0 ≤ _), (by decide : 0 + 0 ≤ _)⟩)
 obtain ⟨rfl, Nq4, eh4⟩ := hQ4
 have N4 := Fr.app N2 Nq4
 refine oo (fun tt_ kk_ => st4.trans kk_) ?_
 have hb17_5 : ¬ ((1 : Int32) = (0 : Int32)) := by decide
 refine oi (XS.ifNo X4.here hx rfl (hb hby d13_17) rfl ((if0 _ _).trans (feq hb17_5).1)) ?_
 refine oi (XS.aloadN X4.here hx rfl (hb hby d13_20) rfl rfl) ?_
 obtain ⟨T6, X6, e6, st6⟩ := getF X4 hx hZ hown (host := "") (Or.inl (hW 33 _ rfl)) Via.refl eh4 F_x (g := (mkF m 21 #[vr x, vr y, vz] [(.ref x)])) rfl rfl (hb hby d13_21)
 refine oo st6 ?_
 refine oi (XS.aloadN X6.here hx rfl (hb hby d13_24) rfl rfl) ?_
 obtain ⟨T7, X7, e7, st7⟩ := getF X6 hx hZ hown (host := "") (Or.inl (hW 33 _ rfl)) Via.refl e6 F_y (g := (mkF m 25 #[vr x, vr y, vz] [(.ref y), (.ref t_x)])) rfl rfl (hb hby d13_25)
 refine oo st7 ?_
 refine so (A := (T7.setTop (mkF m 28 #[vr x, vr y, vz] [(.ref t_y), (.ref t_x)]))) ?_
 obtain ⟨_, T8, Lc8, X8, hQ8, st8⟩ := own_c1 X7 <| Jvm.LawKit.callS X7 hx (y := ym16) hown (mvT hZ (hW 95 _ rfl)) (mvT hZ (hW 96 _ rfl)) (mvT hZ (hW 97 _ rfl)) (mvT hZ (hW 98 _ rfl)) (by decide) (backOf (W := 0) (rmS2 l Z a0 hw [] t_x kb_x cs t_y kb_y h0 n0 XO0 V_x hc_x hl_x V_u hp) hZ (hW 98 _ rfl) (hW 97 _ rfl) (by decide) (by decide)) (g := (mkF m 28 #[vr x, vr y, vz] [(.ref t_y), (.ref t_x)])) rfl (by rw [hml]; rfl) (argsL := [(.ref t_x), (.ref t_y)]) (rest := []) (lenOf pd_10 rfl) rfl (Nat.le_of_eq rfl) (hb hby d13_28) (fun _ _ => ⟨rfl, e7, (by decide : 0 + 0 ≤ _), (by decide : 0 + 0 ≤ _)⟩)
 obtain ⟨r8, rfl, hr8, Nq8, eh8⟩ := hQ8
 have N8 := Fr.app N4 Nq8
 refine oo st8 ?_
 refine oi (XS.goto X8.here hx rfl (pc0 := 31) (pc' := 45) rfl (hb hby d13_31) (by decide) (by decide)) ?_
 refine so (A := (T8.setTop (mkF m 45 #[vr x, vr y, vz] [(.int r8)]))) ?_
 refine own_ret X8 hx hlk hret rfl (Or.inl ⟨rfl, by simp, _, rfl⟩) (hb hby d13_45) (by decide) (by decide) ?_
 rw [eh8]
 exact ⟨_, rfl, hr8, N8, rfl⟩
theorem ef_rmCt (m : MethodId) (x0 : Nat) (x1 : Nat) : entryFrame m #[(.ref x0), (.ref x1)] 2 = mkF m 0 #[vr x0, vr x1] [] := by first | (simp [entryFrame, mkF, argsToLocals, Value.category]; done) | rfl
theorem d52_0 : dk cD52 0 (.aload_n 0) 1 := by decide +kernel
theorem d52_1 : dk cD52 1 (.aload_n 1) 1 := by decide +kernel
theorem d52_2 : dk cD52 2 (.invokeinterface 710 1) 5 := by decide +kernel
theorem pd_11 : parseMethodDescriptor "()Ljava/lang/String;" = some ⟨[], some (.object "java/lang/String")⟩ := by decide +kernel
theorem d52_7 : dk cD52 7 (.invokevirtual 711) 3 := by decide +kernel
theorem pd_12 : parseMethodDescriptor "(Ljava/lang/String;)I" = some ⟨[(.object "java/lang/String")], some .int⟩ := by decide +kernel
theorem d52_10 : dk cD52 10 (.ifCond .lt 7) 3 := by decide +kernel
theorem d52_17 : dk cD52 17 (.iconst 0) 1 := by decide +kernel
theorem d52_18 : dk cD52 18 .ireturn 1 := by decide +kernel
def Q_rmCt (Z : State) (x : Nat) (cs : List Int32) (y : Nat) (Gc : Int32) (h0 : Heap) (n0 : Nat) (v : Option Value) (h : Heap) (L : List Loc) : Prop := v = some (.int 0) ∧ Fr n0 L ∧ h = h0
theorem rmCt (l : Launch) (Z : State) (a0 : Array Value) (hw : own_H Z a0) (ws : List Jvm.Cond) (x : Nat) (cs : List Int32) (y : Nat) (Gc : Int32) (h0 : Heap) (n0 : Nat) (XO0 : Old Z n0 h0) (Oc : Sta Z Z.heap "java/lang/String" "COMPACT_STRINGS" "Z" (.int Gc)) (Pc : ¬ (Gc = (0 : Int32))) (S_x : own_sr Z h0 x cs) (S_y : own_sr Z h0 y ([36, 123] : List Int32)) (hp : 0 < cs.length) (hno : ∀ i, ¬ own_hit cs i) :
  own_M l Z ym52 cD52 ws 2 (some .boolean) (own_R 3 0 0 49) #[(.ref x), (.ref y)] h0 (Q_rmCt Z x cs y Gc h0 n0) := by
 refine own_open (plainFor_of_name pn_0) ?_
 intro p e s m below meth c s₁ hx hby hlk hret hml hown hnm hZ X0 e0
 have hW := own_hW hw
 have N0 := Fr.nil n0
 refine oo (fun tt_ kk_ => castTop (ef_rmCt m x y) kk_) ?_
 refine so (A := (s₁.setTop (mkF m 0 #[vr x, vr y] []))) ?_
 obtain ⟨hc_x, hl_x, t_x, kb_x, E_x, F_x, C_x, V_x⟩ := id S_x
 obtain ⟨hc_y, hl_y, t_y, kb_y, E_y, F_y, C_y, V_y⟩ := id S_y
 have V_u : Arv Z h0 t_y kb_y .byte (2 : Int32) [(.int 36), (.int 123)] (.int 0) := V_y
 refine oi (XS.aloadN X0.here hx rfl (hb hby d52_0) rfl rfl) ?_
 refine oi (XS.aloadN X0.here hx rfl (hb hby d52_1) rfl rfl) ?_
 refine so (A := (s₁.setTop (mkF m 2 #[vr x, vr y] [(.ref y), (.ref x)]))) ?_
 obtain ⟨cq1, kq1, q1a, q1b, q1c⟩ := isOf hZ e0 E_y
 obtain ⟨_, T1, Lc1, X1, hQ1, st1⟩ := own_c1 X0 <| X0.interfaceBack hx (xi := (⟨"java/lang/CharSequence", "toString", "()Ljava/lang/String;"⟩ : MethodName)) (y := ym53) hown (mvT hZ (hW 274 _ rfl)) (mvT hZ (hW 275 _ rfl)) (mvT hZ (hW 276 _ rfl)) (mvT hZ (hW 277 _ rfl)) (mvT hZ (hW 278 _ rfl)) (mvT hZ (hW 279 _ rfl)) (mvT hZ (hW 280 _ rfl)) (mvT hZ (hW 281 _ rfl)) (by decide) (backOf (W := 1) (rmTS l Z a0 hw [] y h0 n0 XO0 ) hZ (hW 282 _ rfl) (hW 8 _ rfl) (by decide) (by decide)) q1a q1b q1c (g := (mkF m 2 #[vr x, vr y] [(.ref y), (.ref x)])) rfl (by rw [hml]; rfl) (Steps.refl _) (argsL := []) (rest := [(.ref x)]) (lenOf pd_11 rfl) rfl (Nat.le_of_eq rfl) (hb hby d52_2) (fun _ _ => ⟨rfl, e0, (by decide : 0 + 0 ≤ _), (by decide : 0 + 0 ≤ _)⟩)
 obtain ⟨rfl, Nq1, eh1⟩ := hQ1
 have N1 := Fr.app N0 Nq1
 refine oo (fun tt_ kk_ => st1.trans kk_) ?_
 refine so (A := (T1.setTop (mkF m 7 #[vr x, vr y] [(.ref y), (.ref x)]))) ?_
 obtain ⟨cq2, kq2, q2a, q2b, q2c⟩ := isOf hZ eh1 E_x
 obtain ⟨_, T2, Lc2, X2, hQ2, st2⟩ := own_c1 X1 <| X1.virtualBack hx (y := ym13) (z := ym13) hown (mvT hZ (hW 283 _ rfl)) (mvT hZ (hW 81 _ rfl)) (notFace_of_selects (args := #[]) (mvT hZ (hW 83 _ rfl))) (mvT hZ (hW 83 _ rfl)) (mvT hZ (hW 82 _ rfl)) (by decide) (backOf (W := 0) (rmS1 l Z a0 hw [] x cs y Gc h0 n0 XO0 Oc Pc S_x S_y hp) hZ (hW 84 _ rfl) (hW 8 _ rfl) (by decide) (by decide)) q2a q2c (g := (mkF m 7 #[vr x, vr y] [(.ref y), (.ref x)])) rfl (by rw [hml]; rfl) (Steps.refl _) (argsL := [(.ref y)]) (rest := []) (lenOf pd_12 rfl) rfl (Nat.le_of_eq rfl) (hb hby d52_7) (fun _ _ => ⟨rfl, eh1, (by decide : 0 + 0 ≤ _), (by decide : 0 + 0 ≤ _)⟩)
 obtain ⟨r2, rfl, hr2, Nq2, eh2⟩ := hQ2
 have N2 := Fr.app N1 Nq2
 refine oo (fun tt_ kk_ => st2.trans kk_) ?_
 obtain rfl : r2 = -1 := own_ixs_no hr2 (fun i _ => hno i)
 have hb10_3 : (-1 : Int32) < (0 : Int32) := by decide
 refine oi (XS.ifYes X2.here hx rfl (pc0 := 10) (pc' := 17) rfl (hb hby d52_10) rfl ((if0 _ _).trans (tlt hb10_3).1) (by decide) (by decide)) ?_
 refine oi (XS.iconst X2.here hx rfl (hb hby d52_17)) ?_
 refine so (A := (T2.setTop (mkF m 18 #[vr x, vr y] [(.int 0)]))) ?_
 refine own_ret X2 hx hlk hret rfl (Or.inl ⟨rfl, by simp, _, rfl⟩) (hb hby d52_18) (by decide) (by decide) ?_
 rw [eh2]
 exact ⟨rfl, N2, rfl⟩
theorem ef_rmMJ (m : MethodId) (x0 : Int64) (x1 : Int64) : entryFrame m #[(.long x0), (.long x1)] 4 = mkF m 0 #[.val (.long x0), .second, .val (.long x1), .second] [] := by first | (simp [entryFrame, mkF, argsToLocals, Value.category]; done) | rfl
theorem d59_0 : dk cD59 0 (.lload_n 0) 1 := by decide +kernel
theorem d59_1 : dk cD59 1 (.lload_n 2) 1 := by decide +kernel
theorem d59_2 : dk cD59 2 .lcmp 1 := by decide +kernel
theorem d59_3 : dk cD59 3 (.ifCond .lt 7) 3 := by decide +kernel
theorem d59_6 : dk cD59 6 (.lload_n 0) 1 := by decide +kernel
theorem d59_7 : dk cD59 7 (.goto 4) 3 := by decide +kernel
theorem d59_11 : dk cD59 11 .lreturn 1 := by decide +kernel
def Q_rmMJ (Z : State) (aj : Int64) (bj : Int64) (h0 : Heap) (n0 : Nat) (v : Option Value) (h : Heap) (L : List Loc) : Prop := v = some (.long aj) ∧ Fr n0 L ∧ h = h0
theorem rmMJ (l : Launch) (Z : State) (a0 : Array Value) (hw : own_H Z a0) (ws : List Jvm.Cond) (aj : Int64) (bj : Int64) (h0 : Heap) (n0 : Nat) (XO0 : Old Z n0 h0) (hj : ¬ aj < bj) :
  own_M l Z ym59 cD59 ws 4 (some .long) (own_R 0 0 0 0) #[(.long aj), (.long bj)] h0 (Q_rmMJ Z aj bj h0 n0) := by
 refine own_open (Jvm.Free.JP.mathPlain rfl (by decide +kernel)) ?_
 intro p e s m below meth c s₁ hx hby hlk hret hml hown hnm hZ X0 e0
 have hW := own_hW hw
 have N0 := Fr.nil n0
 refine oo (fun tt_ kk_ => castTop (ef_rmMJ m aj bj) kk_) ?_
 refine so (A := (s₁.setTop (mkF m 0 #[.val (.long aj), .second, .val (.long bj), .second] []))) ?_
 refine oi (XS.lloadN X0.here hx rfl (hb hby d59_0) rfl) ?_
 refine oi (XS.lloadN X0.here hx rfl (hb hby d59_1) rfl) ?_
 refine oi (XS.lcmp X0.here hx rfl (hb hby d59_2) rfl) ?_
 have hb3_1 : ¬ ((lcmpW aj bj) < (0 : Int32)) := fun q => hj ((lw_lt _ _).mp q)
 refine oi (XS.ifNo X0.here hx rfl (hb hby d59_3) rfl ((if0 _ _).trans (flt hb3_1).1)) ?_
 refine so (A := (s₁.setTop (mkF m 6 #[.val (.long aj), .second, .val (.long bj), .second] []))) ?_
 refine oi (XS.lloadN X0.here hx rfl (hb hby d59_6) rfl) ?_
 refine oi (XS.goto X0.here hx rfl (pc0 := 7) (pc' := 11) rfl (hb hby d59_7) (by decide) (by decide)) ?_
 refine so (A := (s₁.setTop (mkF m 11 #[.val (.long aj), .second, .val (.long bj), .second] [(.long aj)]))) ?_
 refine own_ret X0 hx hlk hret rfl (Or.inr (Or.inl ⟨rfl, rfl, _, rfl⟩)) (hb hby d59_11) (by decide) (by decide) ?_
 rw [e0]
 exact ⟨rfl, N0, rfl⟩
theorem ef_rmNJ (m : MethodId) (x0 : Int64) (x1 : Int64) : entryFrame m #[(.long x0), (.long x1)] 4 = mkF m 0 #[.val (.long x0), .second, .val (.long x1), .second] [] := by first | (simp [entryFrame, mkF, argsToLocals, Value.category]; done) | rfl
theorem d60_0 : dk cD60 0 (.lload_n 0) 1 := by decide +kernel
theorem d60_1 : dk cD60 1 (.lload_n 2) 1 := by decide +kernel
theorem d60_2 : dk cD60 2 .lcmp 1 := by decide +kernel
theorem d60_3 : dk cD60 3 (.ifCond .gt 7) 3 := by decide +kernel
theorem d60_10 : dk cD60 10 (.lload_n 2) 1 := by decide +kernel
theorem d60_11 : dk cD60 11 .lreturn 1 := by decide +kernel
theorem d60_6 : dk cD60 6 (.lload_n 0) 1 := by decide +kernel
theorem d60_7 : dk cD60 7 (.goto 4) 3 := by decide +kernel
def Q_rmNJ (Z : State) (aj : Int64) (bj : Int64) (h0 : Heap) (n0 : Nat) (v : Option Value) (h : Heap) (L : List Loc) : Prop := v = some (.long bj) ∧ Fr n0 L ∧ h = h0
theorem rmNJ (l : Launch) (Z : State) (a0 : Array Value) (hw : own_H Z a0) (ws : List Jvm.Cond) (aj : Int64) (bj : Int64) (h0 : Heap) (n0 : Nat) (XO0 : Old Z n0 h0) (hj : ¬ bj < aj → aj = bj) :
  own_M l Z ym60 cD60 ws 4 (some .long) (own_R 0 0 0 0) #[(.long aj), (.long bj)] h0 (Q_rmNJ Z aj bj h0 n0) := by
 refine own_open (Jvm.Free.JP.mathPlain rfl (by decide +kernel)) ?_
 intro p e s m below meth c s₁ hx hby hlk hret hml hown hnm hZ X0 e0
 have hW := own_hW hw
 have N0 := Fr.nil n0
 refine oo (fun tt_ kk_ => castTop (ef_rmNJ m aj bj) kk_) ?_
 refine so (A := (s₁.setTop (mkF m 0 #[.val (.long aj), .second, .val (.long bj), .second] []))) ?_
 refine oi (XS.lloadN X0.here hx rfl (hb hby d60_0) rfl) ?_
 refine oi (XS.lloadN X0.here hx rfl (hb hby d60_1) rfl) ?_
 refine oi (XS.lcmp X0.here hx rfl (hb hby d60_2) rfl) ?_
 by_cases hb3_1 : (0 : Int32) < (lcmpW aj bj)
 ·refine oi (XS.ifYes X0.here hx rfl (pc0 := 3) (pc' := 10) rfl (hb hby d60_3) rfl ((if0 _ _).trans (tlt hb3_1).2.2.1) (by decide) (by decide)) ?_
  refine so (A := (s₁.setTop (mkF m 10 #[.val (.long aj), .second, .val (.long bj), .second] []))) ?_
  refine oi (XS.lloadN X0.here hx rfl (hb hby d60_10) rfl) ?_
  refine so (A := (s₁.setTop (mkF m 11 #[.val (.long aj), .second, .val (.long bj), .second] [(.long bj)]))) ?_
  refine own_ret X0 hx hlk hret rfl (Or.inr (Or.inl ⟨rfl, rfl, _, rfl⟩)) (hb hby d60_11) (by decide) (by decide) ?_
  rw [e0]
  exact ⟨rfl, N0, rfl⟩
 ·refine oi (XS.ifNo X0.here hx rfl (hb hby d60_3) rfl ((if0 _ _).trans (flt hb3_1).2.2.1)) ?_
  refine so (A := (s₁.setTop (mkF m 6 #[.val (.long aj), .second, .val (.long bj), .second] []))) ?_
  refine oi (XS.lloadN X0.here hx rfl (hb hby d60_6) rfl) ?_
  refine oi (XS.goto X0.here hx rfl (pc0 := 7) (pc' := 11) rfl (hb hby d60_7) (by decide) (by decide)) ?_
  refine so (A := (s₁.setTop (mkF m 11 #[.val (.long aj), .second, .val (.long bj), .second] [(.long aj)]))) ?_
  refine own_ret X0 hx hlk hret rfl (Or.inr (Or.inl ⟨rfl, rfl, _, rfl⟩)) (hb hby d60_11) (by decide) (by decide) ?_
  rw [e0]
  exact ⟨(by rw [hj (fun q => hb3_1 ((lw_gt _ _).mpr q))]), N0, rfl⟩
theorem own_64n {f : Nat} (hf : f ≤ 100) : ¬ (Int32.ofNat f).toInt64 < (0 : Int64) := by
 have e0 : (0 : Int64).toInt = 0 := rfl
 rw [Int64.lt_iff_toInt_lt, Int32.toInt_toInt64, own_nat hf, e0]
 omega
theorem own_64e {f n : Nat} (hf : f ≤ n) (hn : n ≤ 100) (h : ¬ (Int32.ofNat f).toInt64 < (Int32.ofNat n).toInt64) : (Int32.ofNat n).toInt64 = (Int32.ofNat f).toInt64 := by
 rw [Int64.lt_iff_toInt_lt, Int32.toInt_toInt64, Int32.toInt_toInt64, own_nat hn, own_nat (by omega)] at h
 have : f = n := by omega
 rw [this]
theorem own_min {a b : Nat} (h : b ≤ a) (ha : a ≤ 100) : ¬ Int32.ofNat b < Int32.ofNat a → Int32.ofNat a = Int32.ofNat b := fun q => by
 rw [own_nlt (by omega) ha] at q
 have : a = b := by omega
 rw [this]
theorem own_nlh {a b : Nat} (h : a ≤ b) : Int32.ofNat a + Int32.ofNat (b - a) = Int32.ofNat b := by
 rw [own_nadd]
 congr 1
 omega
theorem own_sl_nil {cs : List Int32} {a b : Nat} (h : b - a = 0) : own_sl cs a b = [] := by
 rw [own_sl, h, List.take_zero]
theorem ef_rmCl (m : MethodId) (x0 : Int64) (x1 : Int32) (x2 : Int32) : entryFrame m #[(.long x0), (.int x1), (.int x2)] 4 = mkF m 0 #[.val (.long x0), .second, vi x1, vi x2] [] := by first | (simp [entryFrame, mkF, argsToLocals, Value.category]; done) | rfl
theorem d58_0 : dk cD58 0 (.iload_n 2) 1 := by decide +kernel
theorem d58_1 : dk cD58 1 (.iload_n 3) 1 := by decide +kernel
theorem d58_2 : dk cD58 2 (.if_icmp .le 34) 3 := by decide +kernel
theorem d58_36 : dk cD58 36 (.iload_n 3) 1 := by decide +kernel
theorem d58_37 : dk cD58 37 .i2l 1 := by decide +kernel
theorem d58_38 : dk cD58 38 (.lload_n 0) 1 := by decide +kernel
theorem d58_39 : dk cD58 39 (.iload_n 2) 1 := by decide +kernel
theorem d58_40 : dk cD58 40 .i2l 1 := by decide +kernel
theorem d58_41 : dk cD58 41 (.invokestatic 196) 3 := by decide +kernel
theorem pd_13 : parseMethodDescriptor "(JJ)J" = some ⟨[.long, .long], some .long⟩ := by decide +kernel
theorem d58_44 : dk cD58 44 (.invokestatic 199) 3 := by decide +kernel
theorem d58_47 : dk cD58 47 .l2i 1 := by decide +kernel
theorem d58_48 : dk cD58 48 .ireturn 1 := by decide +kernel
def Q_rmCl (Z : State) (f : Nat) (nn : Nat) (h0 : Heap) (n0 : Nat) (v : Option Value) (h : Heap) (L : List Loc) : Prop := v = some (.int (Int32.ofNat f)) ∧ Fr n0 L ∧ h = h0
theorem rmCl (l : Launch) (Z : State) (a0 : Array Value) (hw : own_H Z a0) (ws : List Jvm.Cond) (f : Nat) (nn : Nat) (h0 : Heap) (n0 : Nat) (XO0 : Old Z n0 h0) (hf : f ≤ nn) (hn : nn ≤ 22) :
  own_M l Z ym58 cD58 ws 4 (some .int) (own_R 1 0 0 17) #[(.long ((Int32.ofNat f).toInt64)), (.int 0), (.int (Int32.ofNat nn))] h0 (Q_rmCl Z f nn h0 n0) := by
 refine own_open (Jvm.Free.JP.mathPlain rfl (by decide +kernel)) ?_
 intro p e s m below meth c s₁ hx hby hlk hret hml hown hnm hZ X0 e0
 have hW := own_hW hw
 have N0 := Fr.nil n0
 refine oo (fun tt_ kk_ => castTop (ef_rmCl m ((Int32.ofNat f).toInt64) (0 : Int32) (Int32.ofNat nn)) kk_) ?_
 refine so (A := (s₁.setTop (mkF m 0 #[.val (.long ((Int32.ofNat f).toInt64)), .second, vz, vn nn] []))) ?_
 refine oi (XS.iloadN X0.here hx rfl (hb hby d58_0) rfl) ?_
 refine oi (XS.iloadN X0.here hx rfl (hb hby d58_1) rfl) ?_
 have hb2_1 : ¬ ((Int32.ofNat nn) < (0 : Int32)) := (own_nn (by omega))
 refine oi (XS.icmpYes X0.here hx rfl (pc0 := 2) (pc' := 36) rfl (hb hby d58_2) rfl (flt hb2_1).2.2.2 (by decide) (by decide)) ?_
 refine so (A := (s₁.setTop (mkF m 36 #[.val (.long ((Int32.ofNat f).toInt64)), .second, vz, vn nn] []))) ?_
 refine oi (XS.iloadN X0.here hx rfl (hb hby d58_36) rfl) ?_
 refine oi (XS.i2l X0.here hx rfl (hb hby d58_37) rfl) ?_
 refine oi (XS.lloadN X0.here hx rfl (hb hby d58_38) rfl) ?_
 refine oi (XS.iloadN X0.here hx rfl (hb hby d58_39) rfl) ?_
 refine oi (XS.i2l X0.here hx rfl (hb hby d58_40) rfl) ?_
 refine so (A := (s₁.setTop (mkF m 41 #[.val (.long ((Int32.ofNat f).toInt64)), .second, vz, vn nn] [(.long 0), (.long ((Int32.ofNat f).toInt64)), (.long ((Int32.ofNat nn).toInt64))]))) ?_
 obtain ⟨_, T2, Lc2, X2, hQ2, st2⟩ := own_c1 X0 <| Jvm.LawKit.callS X0 hx (y := ym59) hown (mvT hZ (hW 307 _ rfl)) (mvT hZ (hW 308 _ rfl)) (mvT hZ (hW 155 _ rfl)) (mvT hZ (hW 309 _ rfl)) (by decide) (backOf (W := 2) (rmMJ l Z a0 hw [] ((Int32.ofNat f).toInt64) (0 : Int64) h0 n0 XO0 (own_64n (by omega))) hZ (hW 309 _ rfl) (hW 155 _ rfl) (by decide) (by decide)) (g := (mkF m 41 #[.val (.long ((Int32.ofNat f).toInt64)), .second, vz, vn nn] [(.long 0), (.long ((Int32.ofNat f).toInt64)), (.long ((Int32.ofNat nn).toInt64))])) rfl (by rw [hml]; rfl) (argsL := [(.long ((Int32.ofNat f).toInt64)), (.long 0)]) (rest := [(.long ((Int32.ofNat nn).toInt64))]) (lenOf pd_13 rfl) rfl (Nat.le_of_eq rfl) (hb hby d58_41) (fun _ _ => ⟨rfl, e0, (by decide : 0 + 0 ≤ _), (by decide : 0 + 0 ≤ _)⟩)
 obtain ⟨rfl, Nq2, eh2⟩ := hQ2
 have N2 := Fr.app N0 Nq2
 refine oo st2 ?_
 refine so (A := (T2.setTop (mkF m 44 #[.val (.long ((Int32.ofNat f).toInt64)), .second, vz, vn nn] [(.long ((Int32.ofNat f).toInt64)), (.long ((Int32.ofNat nn).toInt64))]))) ?_
 obtain ⟨_, T3, Lc3, X3, hQ3, st3⟩ := own_c1 X2 <| Jvm.LawKit.callS X2 hx (y := ym60) hown (mvT hZ (hW 310 _ rfl)) (mvT hZ (hW 311 _ rfl)) (mvT hZ (hW 155 _ rfl)) (mvT hZ (hW 312 _ rfl)) (by decide) (backOf (W := 0) (rmNJ l Z a0 hw [] ((Int32.ofNat nn).toInt64) ((Int32.ofNat f).toInt64) h0 n0 XO0 (own_64e hf (by omega))) hZ (hW 312 _ rfl) (hW 155 _ rfl) (by decide) (by decide)) (g := (mkF m 44 #[.val (.long ((Int32.ofNat f).toInt64)), .second, vz, vn nn] [(.long ((Int32.ofNat f).toInt64)), (.long ((Int32.ofNat nn).toInt64))])) rfl (by rw [hml]; rfl) (argsL := [(.long ((Int32.ofNat nn).toInt64)), (.long ((Int32.ofNat f).toInt64))]) (rest := []) (lenOf pd_13 rfl) rfl (Nat.le_of_eq rfl) (hb hby d58_44) (fun _ _ => ⟨rfl, eh2, (by decide : 0 + 0 ≤ _), (by decide : 0 + 0 ≤ _)⟩)
 obtain ⟨rfl, Nq3, eh3⟩ := hQ3
 have N3 := Fr.app N2 Nq3
 refine oo st3 ?_
 refine oi (XS.l2i X3.here hx rfl (hb hby d58_47) rfl) ?_
 refine so (A := (T3.setTop (mkF m 48 #[.val (.long ((Int32.ofNat f).toInt64)), .second, vz, vn nn] [(.int (((Int32.ofNat f).toInt64).toInt32))]))) ?_
 refine own_ret X3 hx hlk hret rfl (Or.inl ⟨rfl, by simp, _, rfl⟩) (hb hby d58_48) (by decide) (by decide) ?_
 rw [eh3]
 exact ⟨by rw [Int32.toInt32_toInt64], N3, rfl⟩
theorem ef_rmF5 (m : MethodId) (x0 : Nat) (x1 : Int32) (x2 : Int32) (x3 : Nat) (x4 : Int32) : entryFrame m #[(.ref x0), (.int x1), (.int x2), (.ref x3), (.int x4)] 8 = mkF m 0 #[vr x0, vi x1, vi x2, vr x3, vi x4, uu, uu, uu] [] := by first | (simp [entryFrame, mkF, argsToLocals, Value.category]; done) | rfl
theorem d57_0 : dk cD57 0 (.iload 4) 2 := by decide +kernel
theorem d57_2 : dk cD57 2 .i2l 1 := by decide +kernel
theorem d57_3 : dk cD57 3 (.iconst 0) 1 := by decide +kernel
theorem d57_4 : dk cD57 4 (.iload_n 2) 1 := by decide +kernel
theorem d57_5 : dk cD57 5 (.invokestatic 659) 3 := by decide +kernel
theorem pd_14 : parseMethodDescriptor "(JII)I" = some ⟨[.long, .int, .int], some .int⟩ := by decide +kernel
theorem d57_8 : dk cD57 8 (.istore 4) 2 := by decide +kernel
theorem d57_10 : dk cD57 10 (.aload_n 3) 1 := by decide +kernel
theorem d57_11 : dk cD57 11 (.invokevirtual 505) 3 := by decide +kernel
theorem d57_14 : dk cD57 14 (.istore 5) 2 := by decide +kernel
theorem d57_16 : dk cD57 16 (.iload 5) 2 := by decide +kernel
theorem d57_18 : dk cD57 18 (.iload_n 2) 1 := by decide +kernel
theorem d57_19 : dk cD57 19 (.iload 4) 2 := by decide +kernel
theorem d57_21 : dk cD57 21 .isub 1 := by decide +kernel
theorem d57_22 : dk cD57 22 (.if_icmp .le 5) 3 := by decide +kernel
theorem d57_25 : dk cD57 25 (.iconst (-1)) 1 := by decide +kernel
theorem d57_26 : dk cD57 26 .ireturn 1 := by decide +kernel
theorem d57_27 : dk cD57 27 (.iload 5) 2 := by decide +kernel
theorem d57_29 : dk cD57 29 (.ifCond .ne 6) 3 := by decide +kernel
theorem d57_35 : dk cD57 35 (.aload_n 3) 1 := by decide +kernel
theorem d57_36 : dk cD57 36 (.getfield 9) 3 := by decide +kernel
theorem d57_39 : dk cD57 39 (.astore 6) 2 := by decide +kernel
theorem d57_41 : dk cD57 41 (.aload_n 3) 1 := by decide +kernel
theorem d57_42 : dk cD57 42 (.invokevirtual 335) 3 := by decide +kernel
theorem d57_45 : dk cD57 45 (.istore 7) 2 := by decide +kernel
theorem d57_47 : dk cD57 47 (.iload_n 1) 1 := by decide +kernel
theorem d57_48 : dk cD57 48 (.iload 7) 2 := by decide +kernel
theorem d57_50 : dk cD57 50 (.if_icmp .ne 33) 3 := by decide +kernel
theorem d57_53 : dk cD57 53 (.iload_n 1) 1 := by decide +kernel
theorem d57_54 : dk cD57 54 (.ifCond .ne 17) 3 := by decide +kernel
theorem d57_57 : dk cD57 57 (.aload_n 0) 1 := by decide +kernel
theorem d57_58 : dk cD57 58 (.iload_n 2) 1 := by decide +kernel
theorem d57_59 : dk cD57 59 (.aload 6) 2 := by decide +kernel
theorem d57_61 : dk cD57 61 (.iload 5) 2 := by decide +kernel
theorem d57_63 : dk cD57 63 (.iload 4) 2 := by decide +kernel
theorem d57_65 : dk cD57 65 (.invokestatic 665) 3 := by decide +kernel
theorem d57_68 : dk cD57 68 (.goto 14) 3 := by decide +kernel
theorem d57_82 : dk cD57 82 .ireturn 1 := by decide +kernel
def Q_rmF5 (Z : State) (t : Nat) (kb : ClassId) (cs : List Int32) (y : Nat) (f : Nat) (Gc : Int32) (h0 : Heap) (n0 : Nat) (v : Option Value) (h : Heap) (L : List Loc) : Prop := ∃ r : Int32, v = some (.int r) ∧ own_ixs cs f r ∧ Fr n0 L ∧ h = h0
theorem rmF5 (l : Launch) (Z : State) (a0 : Array Value) (hw : own_H Z a0) (ws : List Jvm.Cond) (t : Nat) (kb : ClassId) (cs : List Int32) (y : Nat) (f : Nat) (Gc : Int32) (h0 : Heap) (n0 : Nat) (XO0 : Old Z n0 h0) (Oc : Sta Z Z.heap "java/lang/String" "COMPACT_STRINGS" "Z" (.int Gc)) (Pc : ¬ (Gc = (0 : Int32))) (V_t : Arv Z h0 t kb .byte (Int32.ofNat cs.length) (cs.map fun c => Value.int (own_lo8 c)) (.int 0)) (hcs : ∀ c ∈ cs, own_ch c) (hcl : cs.length ≤ 22) (S_y : own_sr Z h0 y ([36, 123] : List Int32)) (hf : f ≤ cs.length) :
  own_M l Z ym57 cD57 ws 8 (some .int) (own_R 2 0 0 32) #[(.ref t), (.int 0), (.int (Int32.ofNat cs.length)), (.ref y), (.int (Int32.ofNat f))] h0 (Q_rmF5 Z t kb cs y f Gc h0 n0) := by
 refine own_open (plainFor_of_name pn_0) ?_
 intro p e s m below meth c s₁ hx hby hlk hret hml hown hnm hZ X0 e0
 have hW := own_hW hw
 have N0 := Fr.nil n0
 refine oo (fun tt_ kk_ => castTop (ef_rmF5 m t (0 : Int32) (Int32.ofNat cs.length) y (Int32.ofNat f)) kk_) ?_
 refine so (A := (s₁.setTop (mkF m 0 #[vr t, vz, vi (Int32.ofNat cs.length), vr y, vn f, uu, uu, uu] []))) ?_
 obtain ⟨hc_y, hl_y, t_y, kb_y, E_y, F_y, C_y, V_y⟩ := id S_y
 have V_u : Arv Z h0 t_y kb_y .byte (2 : Int32) [(.int 36), (.int 123)] (.int 0) := V_y
 refine oi (XS.iload X0.here hx rfl (hb hby d57_0) rfl) ?_
 refine oi (XS.i2l X0.here hx rfl (hb hby d57_2) rfl) ?_
 refine oi (XS.iconst X0.here hx rfl (hb hby d57_3)) ?_
 refine oi (XS.iloadN X0.here hx rfl (hb hby d57_4) rfl) ?_
 refine so (A := (s₁.setTop (mkF m 5 #[vr t, vz, vi (Int32.ofNat cs.length), vr y, vn f, uu, uu, uu] [(.int (Int32.ofNat cs.length)), (.int 0), (.long ((Int32.ofNat f).toInt64))]))) ?_
 obtain ⟨_, T1, Lc1, X1, hQ1, st1⟩ := own_c1 X0 <| Jvm.LawKit.callS X0 hx (y := ym58) hown (mvT hZ (hW 304 _ rfl)) (mvT hZ (hW 305 _ rfl)) (mvT hZ (hW 155 _ rfl)) (mvT hZ (hW 306 _ rfl)) (by decide) (backOf (W := 0) (rmCl l Z a0 hw [] f cs.length h0 n0 XO0 hf hcl) hZ (hW 306 _ rfl) (hW 155 _ rfl) (by decide) (by decide)) (g := (mkF m 5 #[vr t, vz, vi (Int32.ofNat cs.length), vr y, vn f, uu, uu, uu] [(.int (Int32.ofNat cs.length)), (.int 0), (.long ((Int32.ofNat f).toInt64))])) rfl (by rw [hml]; rfl) (argsL := [(.long ((Int32.ofNat f).toInt64)), (.int 0), (.int (Int32.ofNat cs.length))]) (rest := []) (lenOf pd_14 rfl) rfl (Nat.le_of_eq rfl) (hb hby d57_5) (fun _ _ => ⟨rfl, e0, (by decide : 0 + 0 ≤ _), (by decide : 0 + 0 ≤ _)⟩)
 obtain ⟨rfl, Nq1, eh1⟩ := hQ1
 have N1 := Fr.app N0 Nq1
 refine oo st1 ?_
 refine oi (XS.istore X1.here hx rfl (hb hby d57_8) rfl (l' := #[vr t, vz, vi (Int32.ofNat cs.length), vr y, vn f, uu, uu, uu]) rfl) ?_
 refine oi (XS.aloadN X1.here hx rfl (hb hby d57_10) rfl rfl) ?_
 refine so (A := (T1.setTop (mkF m 11 #[vr t, vz, vi (Int32.ofNat cs.length), vr y, vn f, uu, uu, uu] [(.ref y)]))) ?_
 obtain ⟨cq2, kq2, q2a, q2b, q2c⟩ := isOf hZ eh1 E_y
 obtain ⟨_, T2, Lc2, X2, hQ2, st2⟩ := own_c1 X1 <| X1.virtualBack hx (y := ym19) (z := ym19) hown (mvT hZ (hW 107 _ rfl)) (mvT hZ (hW 108 _ rfl)) (notFace_of_selects (args := #[]) (mvT hZ (hW 110 _ rfl))) (mvT hZ (hW 110 _ rfl)) (mvT hZ (hW 109 _ rfl)) (by decide) (backOf (W := 0) (rmLen l Z a0 hw [] y ([36, 123] : List Int32) Gc h0 n0 XO0 Oc Pc S_y) hZ (hW 111 _ rfl) (hW 8 _ rfl) (by decide) (by decide)) q2a q2c (g := (mkF m 11 #[vr t, vz, vi (Int32.ofNat cs.length), vr y, vn f, uu, uu, uu] [(.ref y)])) rfl (by rw [hml]; rfl) (Steps.refl _) (argsL := []) (rest := []) (lenOf pd_8 rfl) rfl (Nat.le_of_eq rfl) (hb hby d57_11) (fun _ _ => ⟨rfl, eh1, (by decide : 0 + 0 ≤ _), (by decide : 0 + 0 ≤ _)⟩)
 obtain ⟨rfl, Nq2, eh2⟩ := hQ2
 have N2 := Fr.app N1 Nq2
 refine oo (fun tt_ kk_ => st2.trans kk_) ?_
 refine oi (XS.istore X2.here hx rfl (hb hby d57_14) rfl (l' := #[vr t, vz, vi (Int32.ofNat cs.length), vr y, vn f, vi 2, uu, uu]) rfl) ?_
 refine oi (XS.iload X2.here hx rfl (hb hby d57_16) rfl) ?_
 refine oi (XS.iloadN X2.here hx rfl (hb hby d57_18) rfl) ?_
 refine oi (XS.iload X2.here hx rfl (hb hby d57_19) rfl) ?_
 refine oi (XS.isub X2.here hx rfl (hb hby d57_21) rfl) ?_
 by_cases hb22_3 : ((Int32.ofNat cs.length) - (Int32.ofNat f)) < (2 : Int32)
 ·refine oi (XS.icmpNo X2.here hx rfl (hb hby d57_22) rfl (tlt hb22_3).2.2.2) ?_
  refine so (A := (T2.setTop (mkF m 25 #[vr t, vz, vi (Int32.ofNat cs.length), vr y, vn f, vi 2, uu, uu] []))) ?_
  refine oi (XS.iconst X2.here hx rfl (hb hby d57_25)) ?_
  refine so (A := (T2.setTop (mkF m 26 #[vr t, vz, vi (Int32.ofNat cs.length), vr y, vn f, vi 2, uu, uu] [(.int (-1))]))) ?_
  refine own_ret X2 hx hlk hret rfl (Or.inl ⟨rfl, by simp, _, rfl⟩) (hb hby d57_26) (by decide) (by decide) ?_
  rw [eh2]
  exact ⟨_, rfl, Or.inr ⟨rfl, fun j u1 u2 => by have u4 := own_lt_of u2.2; have u5 := hb22_3; rw [own_nsub hf, show (2 : Int32) = Int32.ofNat 2 from rfl, own_nlt (by omega) (by omega)] at u5; omega⟩, N2, rfl⟩
 ·refine oi (XS.icmpYes X2.here hx rfl (pc0 := 22) (pc' := 27) rfl (hb hby d57_22) rfl (flt hb22_3).2.2.2 (by decide) (by decide)) ?_
  refine so (A := (T2.setTop (mkF m 27 #[vr t, vz, vi (Int32.ofNat cs.length), vr y, vn f, vi 2, uu, uu] []))) ?_
  refine oi (XS.iload X2.here hx rfl (hb hby d57_27) rfl) ?_
  have hb29_4 : ¬ ((2 : Int32) = (0 : Int32)) := by decide
  refine oi (XS.ifYes X2.here hx rfl (pc0 := 29) (pc' := 35) rfl (hb hby d57_29) rfl ((if0 _ _).trans (feq hb29_4).2) (by decide) (by decide)) ?_
  refine oi (XS.aloadN X2.here hx rfl (hb hby d57_35) rfl rfl) ?_
  obtain ⟨T5, X5, e5, st5⟩ := getF X2 hx hZ hown (host := "") (Or.inl (hW 33 _ rfl)) Via.refl eh2 F_y (g := (mkF m 36 #[vr t, vz, vi (Int32.ofNat cs.length), vr y, vn f, vi 2, uu, uu] [(.ref y)])) rfl rfl (hb hby d57_36)
  refine oo st5 ?_
  refine oi (XS.astore X5.here hx rfl (hb hby d57_39) rfl rfl (l' := #[vr t, vz, vi (Int32.ofNat cs.length), vr y, vn f, vi 2, vr t_y, uu]) rfl) ?_
  refine oi (XS.aloadN X5.here hx rfl (hb hby d57_41) rfl rfl) ?_
  refine so (A := (T5.setTop (mkF m 42 #[vr t, vz, vi (Int32.ofNat cs.length), vr y, vn f, vi 2, vr t_y, uu] [(.ref y)]))) ?_
  obtain ⟨cq6, kq6, q6a, q6b, q6c⟩ := isOf hZ e5 E_y
  obtain ⟨_, T6, Lc6, X6, hQ6, st6⟩ := own_c1 X5 <| X5.virtualBack hx (y := ym14) (z := ym14) hown (mvT hZ (hW 85 _ rfl)) (mvT hZ (hW 86 _ rfl)) (notFace_of_selects (args := #[]) (mvT hZ (hW 88 _ rfl))) (mvT hZ (hW 88 _ rfl)) (mvT hZ (hW 87 _ rfl)) (by decide) (backOf (W := 0) (rmCo l Z a0 hw [] y ([36, 123] : List Int32) Gc h0 n0 XO0 Oc Pc S_y) hZ (hW 89 _ rfl) (hW 8 _ rfl) (by decide) (by decide)) q6a q6c (g := (mkF m 42 #[vr t, vz, vi (Int32.ofNat cs.length), vr y, vn f, vi 2, vr t_y, uu] [(.ref y)])) rfl (by rw [hml]; rfl) (Steps.refl _) (argsL := []) (rest := []) (lenOf pd_0 rfl) rfl (Nat.le_of_eq rfl) (hb hby d57_42) (fun _ _ => ⟨rfl, e5, (by decide : 0 + 0 ≤ _), (by decide : 0 + 0 ≤ _)⟩)
  obtain ⟨rfl, Nq6, eh6⟩ := hQ6
  have N6 := Fr.app N2 Nq6
  refine oo (fun tt_ kk_ => st6.trans kk_) ?_
  refine oi (XS.istore X6.here hx rfl (hb hby d57_45) rfl (l' := #[vr t, vz, vi (Int32.ofNat cs.length), vr y, vn f, vi 2, vr t_y, vz]) rfl) ?_
  refine oi (XS.iloadN X6.here hx rfl (hb hby d57_47) rfl) ?_
  refine oi (XS.iload X6.here hx rfl (hb hby d57_48) rfl) ?_
  have hb50_7 : (0 : Int32) = (0 : Int32) := by decide
  refine oi (XS.icmpNo X6.here hx rfl (hb hby d57_50) rfl (teq hb50_7).2) ?_
  refine oi (XS.iloadN X6.here hx rfl (hb hby d57_53) rfl) ?_
  have hb54_8 : (0 : Int32) = (0 : Int32) := by decide
  refine oi (XS.ifNo X6.here hx rfl (hb hby d57_54) rfl ((if0 _ _).trans (teq hb54_8).2)) ?_
  refine oi (XS.aloadN X6.here hx rfl (hb hby d57_57) rfl rfl) ?_
  refine oi (XS.iloadN X6.here hx rfl (hb hby d57_58) rfl) ?_
  refine oi (XS.aload X6.here hx rfl (hb hby d57_59) rfl rfl) ?_
  refine oi (XS.iload X6.here hx rfl (hb hby d57_61) rfl) ?_
  refine oi (XS.iload X6.here hx rfl (hb hby d57_63) rfl) ?_
  refine so (A := (T6.setTop (mkF m 65 #[vr t, vz, vi (Int32.ofNat cs.length), vr y, vn f, vi 2, vr t_y, vz] [(.int (Int32.ofNat f)), (.int 2), (.ref t_y), (.int (Int32.ofNat cs.length)), (.ref t)]))) ?_
  obtain ⟨_, T9, Lc9, X9, hQ9, st9⟩ := own_c1 X6 <| Jvm.LawKit.callS X6 hx (y := ym17) hown (mvT hZ (hW 313 _ rfl)) (mvT hZ (hW 100 _ rfl)) (mvT hZ (hW 97 _ rfl)) (mvT hZ (hW 101 _ rfl)) (by decide) (backOf (W := 0) (rmS5 l Z a0 hw [] t kb cs t_y kb_y f h0 n0 XO0 V_t hcs hcl V_u hf) hZ (hW 101 _ rfl) (hW 97 _ rfl) (by decide) (by decide)) (g := (mkF m 65 #[vr t, vz, vi (Int32.ofNat cs.length), vr y, vn f, vi 2, vr t_y, vz] [(.int (Int32.ofNat f)), (.int 2), (.ref t_y), (.int (Int32.ofNat cs.length)), (.ref t)])) rfl (by rw [hml]; rfl) (argsL := [(.ref t), (.int (Int32.ofNat cs.length)), (.ref t_y), (.int 2), (.int (Int32.ofNat f))]) (rest := []) (lenOf pd_9 rfl) rfl (Nat.le_of_eq rfl) (hb hby d57_65) (fun _ _ => ⟨rfl, eh6, (by decide : 0 + 0 ≤ _), (by decide : 0 + 0 ≤ _)⟩)
  obtain ⟨r9, rfl, hr9, Nq9, eh9⟩ := hQ9
  have N9 := Fr.app N6 Nq9
  refine oo st9 ?_
  refine oi (XS.goto X9.here hx rfl (pc0 := 68) (pc' := 82) rfl (hb hby d57_68) (by decide) (by decide)) ?_
  refine so (A := (T9.setTop (mkF m 82 #[vr t, vz, vi (Int32.ofNat cs.length), vr y, vn f, vi 2, vr t_y, vz] [(.int r9)]))) ?_
  refine own_ret X9 hx hlk hret rfl (Or.inl ⟨rfl, by simp, _, rfl⟩) (hb hby d57_82) (by decide) (by decide) ?_
  rw [eh9]
  exact ⟨_, rfl, hr9, N9, rfl⟩
theorem ef_rmF (m : MethodId) (x0 : Nat) (x1 : Nat) (x2 : Int32) : entryFrame m #[(.ref x0), (.ref x1), (.int x2)] 3 = mkF m 0 #[vr x0, vr x1, vi x2] [] := by first | (simp [entryFrame, mkF, argsToLocals, Value.category]; done) | rfl
theorem d56_0 : dk cD56 0 (.aload_n 0) 1 := by decide +kernel
theorem d56_1 : dk cD56 1 (.getfield 9) 3 := by decide +kernel
theorem d56_4 : dk cD56 4 (.aload_n 0) 1 := by decide +kernel
theorem d56_5 : dk cD56 5 (.invokevirtual 335) 3 := by decide +kernel
theorem d56_8 : dk cD56 8 (.aload_n 0) 1 := by decide +kernel
theorem d56_9 : dk cD56 9 (.invokevirtual 505) 3 := by decide +kernel
theorem d56_12 : dk cD56 12 (.aload_n 1) 1 := by decide +kernel
theorem d56_13 : dk cD56 13 (.iload_n 2) 1 := by decide +kernel
theorem d56_14 : dk cD56 14 (.invokestatic 653) 3 := by decide +kernel
theorem pd_15 : parseMethodDescriptor "([BBILjava/lang/String;I)I" = some ⟨[(.array .byte), .byte, .int, (.object "java/lang/String"), .int], some .int⟩ := by decide +kernel
theorem d56_17 : dk cD56 17 .ireturn 1 := by decide +kernel
def Q_rmF (Z : State) (x : Nat) (cs : List Int32) (y : Nat) (f : Nat) (Gc : Int32) (h0 : Heap) (n0 : Nat) (v : Option Value) (h : Heap) (L : List Loc) : Prop := ∃ r : Int32, v = some (.int r) ∧ own_ixs cs f r ∧ Fr n0 L ∧ h = h0
theorem rmF (l : Launch) (Z : State) (a0 : Array Value) (hw : own_H Z a0) (ws : List Jvm.Cond) (x : Nat) (cs : List Int32) (y : Nat) (f : Nat) (Gc : Int32) (h0 : Heap) (n0 : Nat) (XO0 : Old Z n0 h0) (Oc : Sta Z Z.heap "java/lang/String" "COMPACT_STRINGS" "Z" (.int Gc)) (Pc : ¬ (Gc = (0 : Int32))) (S_x : own_sr Z h0 x cs) (S_y : own_sr Z h0 y ([36, 123] : List Int32)) (hf : f ≤ cs.length) :
  own_M l Z ym56 cD56 ws 3 (some .int) (own_R 3 0 0 51) #[(.ref x), (.ref y), (.int (Int32.ofNat f))] h0 (Q_rmF Z x cs y f Gc h0 n0) := by
 refine own_open (plainFor_of_name pn_0) ?_
 intro p e s m below meth c s₁ hx hby hlk hret hml hown hnm hZ X0 e0
 have hW := own_hW hw
 have N0 := Fr.nil n0
 refine oo (fun tt_ kk_ => castTop (ef_rmF m x y (Int32.ofNat f)) kk_) ?_
 refine so (A := (s₁.setTop (mkF m 0 #[vr x, vr y, vn f] []))) ?_
 obtain ⟨hc_x, hl_x, t_x, kb_x, E_x, F_x, C_x, V_x⟩ := id S_x
 refine oi (XS.aloadN X0.here hx rfl (hb hby d56_0) rfl rfl) ?_
 obtain ⟨T1, X1, e1, st1⟩ := getF X0 hx hZ hown (host := "") (Or.inl (hW 33 _ rfl)) Via.refl e0 F_x (g := (mkF m 1 #[vr x, vr y, vn f] [(.ref x)])) rfl rfl (hb hby d56_1)
 refine oo st1 ?_
 refine oi (XS.aloadN X1.here hx rfl (hb hby d56_4) rfl rfl) ?_
 refine so (A := (T1.setTop (mkF m 5 #[vr x, vr y, vn f] [(.ref x), (.ref t_x)]))) ?_
 obtain ⟨cq2, kq2, q2a, q2b, q2c⟩ := isOf hZ e1 E_x
 obtain ⟨_, T2, Lc2, X2, hQ2, st2⟩ := own_c1 X1 <| X1.virtualBack hx (y := ym14) (z := ym14) hown (mvT hZ (hW 85 _ rfl)) (mvT hZ (hW 86 _ rfl)) (notFace_of_selects (args := #[]) (mvT hZ (hW 88 _ rfl))) (mvT hZ (hW 88 _ rfl)) (mvT hZ (hW 87 _ rfl)) (by decide) (backOf (W := 1) (rmCo l Z a0 hw [] x cs Gc h0 n0 XO0 Oc Pc S_x) hZ (hW 89 _ rfl) (hW 8 _ rfl) (by decide) (by decide)) q2a q2c (g := (mkF m 5 #[vr x, vr y, vn f] [(.ref x), (.ref t_x)])) rfl (by rw [hml]; rfl) (Steps.refl _) (argsL := []) (rest := [(.ref t_x)]) (lenOf pd_0 rfl) rfl (Nat.le_of_eq rfl) (hb hby d56_5) (fun _ _ => ⟨rfl, e1, (by decide : 0 + 0 ≤ _), (by decide : 0 + 0 ≤ _)⟩)
 obtain ⟨rfl, Nq2, eh2⟩ := hQ2
 have N2 := Fr.app N0 Nq2
 refine oo (fun tt_ kk_ => st2.trans kk_) ?_
 refine oi (XS.aloadN X2.here hx rfl (hb hby d56_8) rfl rfl) ?_
 refine so (A := (T2.setTop (mkF m 9 #[vr x, vr y, vn f] [(.ref x), (.int 0), (.ref t_x)]))) ?_
 obtain ⟨cq3, kq3, q3a, q3b, q3c⟩ := isOf hZ eh2 E_x
 obtain ⟨_, T3, Lc3, X3, hQ3, st3⟩ := own_c1 X2 <| X2.virtualBack hx (y := ym19) (z := ym19) hown (mvT hZ (hW 107 _ rfl)) (mvT hZ (hW 108 _ rfl)) (notFace_of_selects (args := #[]) (mvT hZ (hW 110 _ rfl))) (mvT hZ (hW 110 _ rfl)) (mvT hZ (hW 109 _ rfl)) (by decide) (backOf (W := 2) (rmLen l Z a0 hw [] x cs Gc h0 n0 XO0 Oc Pc S_x) hZ (hW 111 _ rfl) (hW 8 _ rfl) (by decide) (by decide)) q3a q3c (g := (mkF m 9 #[vr x, vr y, vn f] [(.ref x), (.int 0), (.ref t_x)])) rfl (by rw [hml]; rfl) (Steps.refl _) (argsL := []) (rest := [(.int 0), (.ref t_x)]) (lenOf pd_8 rfl) rfl (Nat.le_of_eq rfl) (hb hby d56_9) (fun _ _ => ⟨rfl, eh2, (by decide : 0 + 0 ≤ _), (by decide : 0 + 0 ≤ _)⟩)
 obtain ⟨rfl, Nq3, eh3⟩ := hQ3
 have N3 := Fr.app N2 Nq3
 refine oo (fun tt_ kk_ => st3.trans kk_) ?_
 refine oi (XS.aloadN X3.here hx rfl (hb hby d56_12) rfl rfl) ?_
 refine oi (XS.iloadN X3.here hx rfl (hb hby d56_13) rfl) ?_
 refine so (A := (T3.setTop (mkF m 14 #[vr x, vr y, vn f] [(.int (Int32.ofNat f)), (.ref y), (.int (Int32.ofNat cs.length)), (.int 0), (.ref t_x)]))) ?_
 obtain ⟨_, T4, Lc4, X4, hQ4, st4⟩ := own_c1 X3 <| Jvm.LawKit.callS X3 hx (y := ym57) hown (mvT hZ (hW 301 _ rfl)) (mvT hZ (hW 302 _ rfl)) (mvT hZ (hW 8 _ rfl)) (mvT hZ (hW 303 _ rfl)) (by decide) (backOf (W := 0) (rmF5 l Z a0 hw [] t_x kb_x cs y f Gc h0 n0 XO0 Oc Pc V_x hc_x hl_x S_y hf) hZ (hW 303 _ rfl) (hW 8 _ rfl) (by decide) (by decide)) (g := (mkF m 14 #[vr x, vr y, vn f] [(.int (Int32.ofNat f)), (.ref y), (.int (Int32.ofNat cs.length)), (.int 0), (.ref t_x)])) rfl (by rw [hml]; rfl) (argsL := [(.ref t_x), (.int 0), (.int (Int32.ofNat cs.length)), (.ref y), (.int (Int32.ofNat f))]) (rest := []) (lenOf pd_15 rfl) rfl (Nat.le_of_eq rfl) (hb hby d56_14) (fun _ _ => ⟨rfl, eh3, (by decide : 0 + 0 ≤ _), (by decide : 0 + 0 ≤ _)⟩)
 obtain ⟨r4, rfl, hr4, Nq4, eh4⟩ := hQ4
 have N4 := Fr.app N3 Nq4
 refine oo st4 ?_
 refine so (A := (T4.setTop (mkF m 17 #[vr x, vr y, vn f] [(.int r4)]))) ?_
 refine own_ret X4 hx hlk hret rfl (Or.inl ⟨rfl, by simp, _, rfl⟩) (hb hby d56_17) (by decide) (by decide) ?_
 rw [eh4]
 exact ⟨_, rfl, hr4, N4, rfl⟩
theorem ef_rmFT (m : MethodId) (x0 : Int32) (x1 : Int32) (x2 : Int32) (x3 : Value) (hx3 : x3.isRef = true) : entryFrame m #[(.int x0), (.int x1), (.int x2), x3] 4 = mkF m 0 #[vi x0, vi x1, vi x2, .val x3] [] := by rcases ref_cases hx3 with rfl | ⟨_, rfl⟩ <;> first | (simp [entryFrame, mkF, argsToLocals, Value.category]; done) | rfl
theorem d22_0 : dk cD22 0 (.iload_n 0) 1 := by decide +kernel
theorem d22_1 : dk cD22 1 (.ifCond .lt 13) 3 := by decide +kernel
theorem d22_4 : dk cD22 4 (.iload_n 0) 1 := by decide +kernel
theorem d22_5 : dk cD22 5 (.iload_n 1) 1 := by decide +kernel
theorem d22_6 : dk cD22 6 (.if_icmp .gt 8) 3 := by decide +kernel
theorem d22_9 : dk cD22 9 (.iload_n 1) 1 := by decide +kernel
theorem d22_10 : dk cD22 10 (.iload_n 2) 1 := by decide +kernel
theorem d22_11 : dk cD22 11 (.if_icmp .le 11) 3 := by decide +kernel
theorem d22_22 : dk cD22 22 (.iload_n 0) 1 := by decide +kernel
theorem d22_23 : dk cD22 23 .ireturn 1 := by decide +kernel
def Q_rmFT (Z : State) (ix : Int32) (jx : Int32) (nx : Int32) (fm : Value) (h0 : Heap) (n0 : Nat) (v : Option Value) (h : Heap) (L : List Loc) : Prop := v = some (.int ix) ∧ Fr n0 L ∧ h = h0
theorem rmFT (l : Launch) (Z : State) (a0 : Array Value) (hw : own_H Z a0) (ws : List Jvm.Cond) (ix : Int32) (jx : Int32) (nx : Int32) (fm : Value) (h0 : Heap) (n0 : Nat) (XO0 : Old Z n0 h0) (q_0 : ¬ ix < (0 : Int32)) (q_1 : ¬ jx < ix) (q_2 : ¬ nx < jx) (hfm : fm.isRef = true) :
  own_M l Z ym22 cD22 ws 4 (some .int) (own_R 0 0 0 0) #[(.int ix), (.int jx), (.int nx), fm] h0 (Q_rmFT Z ix jx nx fm h0 n0) := by
 refine own_open (plainFor_of_name pn_1) ?_
 intro p e s m below meth c s₁ hx hby hlk hret hml hown hnm hZ X0 e0
 have hW := own_hW hw
 have N0 := Fr.nil n0
 refine oo (fun tt_ kk_ => castTop (ef_rmFT m ix jx nx fm hfm) kk_) ?_
 refine so (A := (s₁.setTop (mkF m 0 #[vi ix, vi jx, vi nx, .val fm] []))) ?_
 refine oi (XS.iloadN X0.here hx rfl (hb hby d22_0) rfl) ?_
 have hb1_1 : ¬ (ix < (0 : Int32)) := q_0
 refine oi (XS.ifNo X0.here hx rfl (hb hby d22_1) rfl ((if0 _ _).trans (flt hb1_1).1)) ?_
 refine so (A := (s₁.setTop (mkF m 4 #[vi ix, vi jx, vi nx, .val fm] []))) ?_
 refine oi (XS.iloadN X0.here hx rfl (hb hby d22_4) rfl) ?_
 refine oi (XS.iloadN X0.here hx rfl (hb hby d22_5) rfl) ?_
 have hb6_2 : ¬ (jx < ix) := q_1
 refine oi (XS.icmpNo X0.here hx rfl (hb hby d22_6) rfl (flt hb6_2).2.2.1) ?_
 refine so (A := (s₁.setTop (mkF m 9 #[vi ix, vi jx, vi nx, .val fm] []))) ?_
 refine oi (XS.iloadN X0.here hx rfl (hb hby d22_9) rfl) ?_
 refine oi (XS.iloadN X0.here hx rfl (hb hby d22_10) rfl) ?_
 have hb11_3 : ¬ (nx < jx) := q_2
 refine oi (XS.icmpYes X0.here hx rfl (pc0 := 11) (pc' := 22) rfl (hb hby d22_11) rfl (flt hb11_3).2.2.2 (by decide) (by decide)) ?_
 refine so (A := (s₁.setTop (mkF m 22 #[vi ix, vi jx, vi nx, .val fm] []))) ?_
 refine oi (XS.iloadN X0.here hx rfl (hb hby d22_22) rfl) ?_
 refine so (A := (s₁.setTop (mkF m 23 #[vi ix, vi jx, vi nx, .val fm] [(.int ix)]))) ?_
 refine own_ret X0 hx hlk hret rfl (Or.inl ⟨rfl, by simp, _, rfl⟩) (hb hby d22_23) (by decide) (by decide) ?_
 rw [e0]
 exact ⟨rfl, N0, rfl⟩
theorem ef_rmBE (m : MethodId) (x0 : Int32) (x1 : Int32) (x2 : Int32) : entryFrame m #[(.int x0), (.int x1), (.int x2)] 3 = mkF m 0 #[vi x0, vi x1, vi x2] [] := by first | (simp [entryFrame, mkF, argsToLocals, Value.category]; done) | rfl
theorem d21_0 : dk cD21 0 (.iload_n 0) 1 := by decide +kernel
theorem d21_1 : dk cD21 1 (.iload_n 1) 1 := by decide +kernel
theorem d21_2 : dk cD21 2 (.iload_n 2) 1 := by decide +kernel
theorem d21_3 : dk cD21 3 (.getstatic 1053) 3 := by decide +kernel
theorem d21_6 : dk cD21 6 (.invokestatic 1062) 3 := by decide +kernel
theorem pd_16 : parseMethodDescriptor "(IIILjava/util/function/BiFunction;)I" = some ⟨[.int, .int, .int, (.object "java/util/function/BiFunction")], some .int⟩ := by decide +kernel
theorem d21_9 : dk cD21 9 .pop 1 := by decide +kernel
theorem d21_10 : dk cD21 10 .return_ 1 := by decide +kernel
def Q_rmBE (Z : State) (ix : Int32) (jx : Int32) (nx : Int32) (fm : Value) (h0 : Heap) (n0 : Nat) (v : Option Value) (h : Heap) (L : List Loc) : Prop := v = none ∧ Fr n0 L ∧ h = h0
theorem rmBE (l : Launch) (Z : State) (a0 : Array Value) (hw : own_H Z a0) (ws : List Jvm.Cond) (ix : Int32) (jx : Int32) (nx : Int32) (fm : Value) (h0 : Heap) (n0 : Nat) (XO0 : Old Z n0 h0) (q_0 : ¬ ix < (0 : Int32)) (q_1 : ¬ jx < ix) (q_2 : ¬ nx < jx) (Of : Sta Z Z.heap "jdk/internal/util/Preconditions" "SIOOBE_FORMATTER" "Ljava/util/function/BiFunction;" fm) (hfm : fm.isRef = true) :
  own_M l Z ym21 cD21 ws 3 none (own_R 1 0 0 15) #[(.int ix), (.int jx), (.int nx)] h0 (Q_rmBE Z ix jx nx fm h0 n0) := by
 refine own_open (plainFor_of_name pn_0) ?_
 intro p e s m below meth c s₁ hx hby hlk hret hml hown hnm hZ X0 e0
 have hW := own_hW hw
 have N0 := Fr.nil n0
 refine oo (fun tt_ kk_ => castTop (ef_rmBE m ix jx nx) kk_) ?_
 refine so (A := (s₁.setTop (mkF m 0 #[vi ix, vi jx, vi nx] []))) ?_
 refine oi (XS.iloadN X0.here hx rfl (hb hby d21_0) rfl) ?_
 refine oi (XS.iloadN X0.here hx rfl (hb hby d21_1) rfl) ?_
 refine oi (XS.iloadN X0.here hx rfl (hb hby d21_2) rfl) ?_
 obtain ⟨T1, X1, e1, st1⟩ := getS2 X0 hx hZ hown (host := "") (Or.inl (hW 120 _ rfl)) Via.refl e0 (Of.ext XO0.2) (g := (mkF m 3 #[vi ix, vi jx, vi nx] [(.int nx), (.int jx), (.int ix)])) rfl (hb hby d21_3)
 refine oo st1 ?_
 refine so (A := (T1.setTop (mkF m 6 #[vi ix, vi jx, vi nx] [fm, (.int nx), (.int jx), (.int ix)]))) ?_
 obtain ⟨_, T2, Lc2, X2, hQ2, st2⟩ := own_c1 X1 <| Jvm.LawKit.callS X1 hx (y := ym22) hown (mvT hZ (hW 122 _ rfl)) (mvT hZ (hW 123 _ rfl)) (mvT hZ (hW 121 _ rfl)) (mvT hZ (hW 124 _ rfl)) (by decide) (backOf (W := 0) (rmFT l Z a0 hw [] ix jx nx fm h0 n0 XO0 q_0 q_1 q_2 hfm) hZ (hW 124 _ rfl) (hW 121 _ rfl) (by decide) (by decide)) (g := (mkF m 6 #[vi ix, vi jx, vi nx] [fm, (.int nx), (.int jx), (.int ix)])) rfl (by rw [hml]; rfl) (argsL := [(.int ix), (.int jx), (.int nx), fm]) (rest := []) (lenOf pd_16 rfl) rfl (Nat.le_of_eq rfl) (hb hby d21_6) (fun _ _ => ⟨rfl, e1, (by decide : 0 + 0 ≤ _), (by decide : 0 + 0 ≤ _)⟩)
 obtain ⟨rfl, Nq2, eh2⟩ := hQ2
 have N2 := Fr.app N0 Nq2
 refine oo st2 ?_
 refine oi (XS.pop X2.here hx rfl (hb hby d21_9) rfl rfl) ?_
 refine so (A := (T2.setTop (mkF m 10 #[vi ix, vi jx, vi nx] []))) ?_
 refine own_retV X2 hx hlk hret (hb hby d21_10) (by decide) (by decide) ?_
 rw [eh2]
 exact ⟨rfl, N2, rfl⟩
theorem ef_rmKL (m : MethodId) (x0 : Int32) (x1 : Int32) : entryFrame m #[(.int x0), (.int x1)] 2 = mkF m 0 #[vi x0, vi x1] [] := by first | (simp [entryFrame, mkF, argsToLocals, Value.category]; done) | rfl
theorem pn_4 : plainName "java/util/Arrays" = true := by first | (simp [plainName, overriddenIn]; done) | decide +kernel
theorem d50_0 : dk cD50 0 (.iload_n 1) 1 := by decide +kernel
theorem d50_1 : dk cD50 1 (.iload_n 0) 1 := by decide +kernel
theorem d50_2 : dk cD50 2 (.if_icmp .ge 35) 3 := by decide +kernel
theorem d50_37 : dk cD50 37 .return_ 1 := by decide +kernel
def Q_rmKL (Z : State) (ix : Int32) (jx : Int32) (h0 : Heap) (n0 : Nat) (v : Option Value) (h : Heap) (L : List Loc) : Prop := v = none ∧ Fr n0 L ∧ h = h0
theorem rmKL (l : Launch) (Z : State) (a0 : Array Value) (hw : own_H Z a0) (ws : List Jvm.Cond) (ix : Int32) (jx : Int32) (h0 : Heap) (n0 : Nat) (XO0 : Old Z n0 h0) (q_1 : ¬ jx < ix) :
  own_M l Z ym50 cD50 ws 2 none (own_R 0 0 0 0) #[(.int ix), (.int jx)] h0 (Q_rmKL Z ix jx h0 n0) := by
 refine own_open (plainFor_of_name pn_4) ?_
 intro p e s m below meth c s₁ hx hby hlk hret hml hown hnm hZ X0 e0
 have hW := own_hW hw
 have N0 := Fr.nil n0
 refine oo (fun tt_ kk_ => castTop (ef_rmKL m ix jx) kk_) ?_
 refine so (A := (s₁.setTop (mkF m 0 #[vi ix, vi jx] []))) ?_
 refine oi (XS.iloadN X0.here hx rfl (hb hby d50_0) rfl) ?_
 refine oi (XS.iloadN X0.here hx rfl (hb hby d50_1) rfl) ?_
 have hb2_1 : ¬ (jx < ix) := q_1
 refine oi (XS.icmpYes X0.here hx rfl (pc0 := 2) (pc' := 37) rfl (hb hby d50_2) rfl (flt hb2_1).2.1 (by decide) (by decide)) ?_
 refine so (A := (s₁.setTop (mkF m 37 #[vi ix, vi jx] []))) ?_
 refine own_retV X0 hx hlk hret (hb hby d50_37) (by decide) (by decide) ?_
 rw [e0]
 exact ⟨rfl, N0, rfl⟩
theorem ef_rmRB (m : MethodId) (x0 : Nat) (x1 : Int32) (x2 : Int32) : entryFrame m #[(.ref x0), (.int x1), (.int x2)] 5 = mkF m 0 #[vr x0, vi x1, vi x2, uu, uu] [] := by first | (simp [entryFrame, mkF, argsToLocals, Value.category]; done) | rfl
theorem d49_0 : dk cD49 0 (.iload_n 1) 1 := by decide +kernel
theorem d49_1 : dk cD49 1 (.iload_n 2) 1 := by decide +kernel
theorem d49_2 : dk cD49 2 (.invokestatic 343) 3 := by decide +kernel
theorem d49_5 : dk cD49 5 (.iload_n 2) 1 := by decide +kernel
theorem d49_6 : dk cD49 6 (.iload_n 1) 1 := by decide +kernel
theorem d49_7 : dk cD49 7 .isub 1 := by decide +kernel
theorem d49_8 : dk cD49 8 (.istore_n 3) 1 := by decide +kernel
theorem d49_9 : dk cD49 9 (.iload_n 3) 1 := by decide +kernel
theorem d49_10 : dk cD49 10 (.newarray .byte) 2 := by decide +kernel
theorem d49_12 : dk cD49 12 (.astore 4) 2 := by decide +kernel
theorem d49_14 : dk cD49 14 (.aload_n 0) 1 := by decide +kernel
theorem d49_15 : dk cD49 15 (.iload_n 1) 1 := by decide +kernel
theorem d49_16 : dk cD49 16 (.aload 4) 2 := by decide +kernel
theorem d49_18 : dk cD49 18 (.iconst 0) 1 := by decide +kernel
theorem d49_19 : dk cD49 19 (.aload_n 0) 1 := by decide +kernel
theorem d49_20 : dk cD49 20 .arraylength 1 := by decide +kernel
theorem d49_21 : dk cD49 21 (.iload_n 1) 1 := by decide +kernel
theorem d49_22 : dk cD49 22 .isub 1 := by decide +kernel
theorem d49_23 : dk cD49 23 (.iload_n 3) 1 := by decide +kernel
theorem d49_24 : dk cD49 24 (.invokestatic 304) 3 := by decide +kernel
theorem d49_27 : dk cD49 27 (.invokestatic 150) 3 := by decide +kernel
theorem d49_30 : dk cD49 30 (.aload 4) 2 := by decide +kernel
theorem d49_32 : dk cD49 32 .areturn 1 := by decide +kernel
def Q_rmRB (Z : State) (t : Nat) (kb : ClassId) (cs : List Int32) (lo : Nat) (hi : Nat) (h0 : Heap) (n0 : Nat) (v : Option Value) (h : Heap) (L : List Loc) : Prop := ∃ (r : Nat) (kr : ClassId), v = some (.ref r) ∧ Fr n0 L ∧ Keep h0 h [] ∧ h0.size ≤ r ∧ r < h.size ∧ Arv Z h r kr .byte (Int32.ofNat (hi - lo)) ((own_sl cs lo hi).map fun c => Value.int (own_lo8 c)) (.int 0)
theorem rmRB (l : Launch) (Z : State) (a0 : Array Value) (hw : own_H Z a0) (ws : List Jvm.Cond) (t : Nat) (kb : ClassId) (cs : List Int32) (lo : Nat) (hi : Nat) (h0 : Heap) (n0 : Nat) (XO0 : Old Z n0 h0) (V_t : Arv Z h0 t kb .byte (Int32.ofNat cs.length) (cs.map fun c => Value.int (own_lo8 c)) (.int 0)) (hcs : ∀ c ∈ cs, own_ch c) (hcl : cs.length ≤ 22) (hlo : lo ≤ hi) (hhi : hi ≤ cs.length) :
  own_M l Z ym49 cD49 ws 5 (some (.array .byte)) (own_R 1 1 22 40) #[(.ref t), (.int (Int32.ofNat lo)), (.int (Int32.ofNat hi))] h0 (Q_rmRB Z t kb cs lo hi h0 n0) := by
 refine own_open (plainFor_of_name pn_4) ?_
 intro p e s m below meth c s₁ hx hby hlk hret hml hown hnm hZ X0 e0
 have hW := own_hW hw
 have N0 := Fr.nil n0
 refine oo (fun tt_ kk_ => castTop (ef_rmRB m t (Int32.ofNat lo) (Int32.ofNat hi)) kk_) ?_
 refine so (A := (s₁.setTop (mkF m 0 #[vr t, vn lo, vn hi, uu, uu] []))) ?_
 have K0_ : Keep h0 h0 [] := Keep.refl h0 []
 have lt_t := olt V_t.lt
 refine oi (XS.iloadN X0.here hx rfl (hb hby d49_0) rfl) ?_
 refine oi (XS.iloadN X0.here hx rfl (hb hby d49_1) rfl) ?_
 refine so (A := (s₁.setTop (mkF m 2 #[vr t, vn lo, vn hi, uu, uu] [(.int (Int32.ofNat hi)), (.int (Int32.ofNat lo))]))) ?_
 obtain ⟨_, T1, Lc1, X1, hQ1, st1⟩ := own_c1 X0 <| Jvm.LawKit.callS X0 hx (y := ym50) hown (mvT hZ (hW 258 _ rfl)) (mvT hZ (hW 259 _ rfl)) (mvT hZ (hW 253 _ rfl)) (mvT hZ (hW 260 _ rfl)) (by decide) (backOf (W := 0) (rmKL l Z a0 hw [] (Int32.ofNat lo) (Int32.ofNat hi) h0 n0 XO0 (fun q => by have := (own_nlt (by omega) (by omega)).mp q; omega)) hZ (hW 260 _ rfl) (hW 253 _ rfl) (by decide) (by decide)) (g := (mkF m 2 #[vr t, vn lo, vn hi, uu, uu] [(.int (Int32.ofNat hi)), (.int (Int32.ofNat lo))])) rfl (by rw [hml]; rfl) (argsL := [(.int (Int32.ofNat lo)), (.int (Int32.ofNat hi))]) (rest := []) (lenOf pd_2 rfl) rfl (Nat.le_of_eq rfl) (hb hby d49_2) (fun _ _ => ⟨rfl, e0, (by decide : 0 + 0 ≤ _), (by decide : 0 + 0 ≤ _)⟩)
 obtain ⟨rfl, Nq1, eh1⟩ := hQ1
 have N1 := Fr.app N0 Nq1
 refine oo st1 ?_
 refine oi (XS.iloadN X1.here hx rfl (hb hby d49_5) rfl) ?_
 refine oi (XS.iloadN X1.here hx rfl (hb hby d49_6) rfl) ?_
 refine oi (XS.isub X1.here hx rfl (hb hby d49_7) rfl) ?_
 refine so (A := (T1.setTop (mkF m 8 #[vr t, vn lo, vn hi, uu, uu] [(.int ((Int32.ofNat hi) - (Int32.ofNat lo)))]))) ?_
 rw [own_nsub hlo]
 refine so (A := (T1.setTop (mkF m 8 #[vr t, vn lo, vn hi, uu, uu] [(.int (Int32.ofNat (hi - lo)))]))) ?_
 refine oi (XS.istoreN X1.here hx rfl (hb hby d49_8) rfl (l' := #[vr t, vn lo, vn hi, vn (hi - lo), uu]) rfl) ?_
 refine oi (XS.iloadN X1.here hx rfl (hb hby d49_9) rfl) ?_
 obtain ⟨T2, h2, k2, X2, e2, E2, A2, st2⟩ := newP X1 hx hZ (hW 24 _ rfl) eh1 (g := (mkF m 10 #[vr t, vn lo, vn hi, vn (hi - lo), uu] [(.int (Int32.ofNat (hi - lo)))])) rfl (hb hby d49_10) rfl (own_nn (by omega)) (cap := 22) (by rw [own_ncl (by omega)]; omega) (by decide) (by decide) (by decide)
 obtain ⟨b2, g2⟩ : ∃ z, z = h0.size := ⟨_, rfl⟩
 rw [← g2] at A2 st2
 refine oo st2 ?_
 have lt2 := olt A2.lt
 have sz2 : h0.size ≤ h2.size := E2.1
 have O2 : Old Z n0 h2 := XO0.ext E2
 have z2 : n0 ≤ b2 := by have := XO0.1 ▸ XO0.2.1; omega
 have K2 : Keep h0 h2 [] := K0_.ext E2
 have V2 : Arv Z h2 b2 k2 .byte (Int32.ofNat (hi - lo)) [] (.int 0) := Arv.new A2 (own_nn (by omega))
 refine oi (XS.astore X2.here hx rfl (hb hby d49_12) rfl rfl (l' := #[vr t, vn lo, vn hi, vn (hi - lo), vr b2]) rfl) ?_
 refine oi (XS.aloadN X2.here hx rfl (hb hby d49_14) rfl rfl) ?_
 refine oi (XS.iloadN X2.here hx rfl (hb hby d49_15) rfl) ?_
 refine oi (XS.aload X2.here hx rfl (hb hby d49_16) rfl rfl) ?_
 refine oi (XS.iconst X2.here hx rfl (hb hby d49_18)) ?_
 refine oi (XS.aloadN X2.here hx rfl (hb hby d49_19) rfl rfl) ?_
 have f3 : Arv Z h2 t kb .byte (Int32.ofNat cs.length) (cs.map fun c => Value.int (own_lo8 c)) (.int 0) := V_t.keep K2 nin0
 obtain ⟨cl4, Ar4, q4, S4, Ng4, H4, G4⟩ := id f3
 refine oo (fun tt_ kk => X2.arraylength hx (by rw [e2]; exact Ar4.1) (State.isArrayOf_alike hZ.alike Ar4.2.1) (g := (mkF m 20 #[vr t, vn lo, vn hi, vn (hi - lo), vr b2] [(.ref t), (.int 0), (.ref b2), (.int (Int32.ofNat lo)), (.ref t)])) rfl rfl (hb hby d49_20) _ (by rw [len_of S4 Ng4]; exact kk)) ?_
 refine oi (XS.iloadN X2.here hx rfl (hb hby d49_21) rfl) ?_
 refine oi (XS.isub X2.here hx rfl (hb hby d49_22) rfl) ?_
 refine so (A := (T2.setTop (mkF m 23 #[vr t, vn lo, vn hi, vn (hi - lo), vr b2] [(.int ((Int32.ofNat cs.length) - (Int32.ofNat lo))), (.int 0), (.ref b2), (.int (Int32.ofNat lo)), (.ref t)]))) ?_
 rw [own_nsub (by omega : lo ≤ cs.length)]
 refine so (A := (T2.setTop (mkF m 23 #[vr t, vn lo, vn hi, vn (hi - lo), vr b2] [(.int (Int32.ofNat (cs.length - lo))), (.int 0), (.ref b2), (.int (Int32.ofNat lo)), (.ref t)]))) ?_
 refine oi (XS.iloadN X2.here hx rfl (hb hby d49_23) rfl) ?_
 refine so (A := (T2.setTop (mkF m 24 #[vr t, vn lo, vn hi, vn (hi - lo), vr b2] [(.int (Int32.ofNat (hi - lo))), (.int (Int32.ofNat (cs.length - lo))), (.int 0), (.ref b2), (.int (Int32.ofNat lo)), (.ref t)]))) ?_
 obtain ⟨_, T5, Lc5, X5, hQ5, st5⟩ := own_c1 X2 <| Jvm.LawKit.callS X2 hx (y := ym45) hown (mvT hZ (hW 261 _ rfl)) (mvT hZ (hW 241 _ rfl)) (mvT hZ (hW 155 _ rfl)) (mvT hZ (hW 242 _ rfl)) (by decide) (backOf (W := 4) (rmMn l Z a0 hw [] (Int32.ofNat (cs.length - lo)) (Int32.ofNat (hi - lo)) h2 n0 O2 (own_min (by omega) (by omega))) hZ (hW 242 _ rfl) (hW 155 _ rfl) (by decide) (by decide)) (g := (mkF m 24 #[vr t, vn lo, vn hi, vn (hi - lo), vr b2] [(.int (Int32.ofNat (hi - lo))), (.int (Int32.ofNat (cs.length - lo))), (.int 0), (.ref b2), (.int (Int32.ofNat lo)), (.ref t)])) rfl (by rw [hml]; rfl) (argsL := [(.int (Int32.ofNat (cs.length - lo))), (.int (Int32.ofNat (hi - lo)))]) (rest := [(.int 0), (.ref b2), (.int (Int32.ofNat lo)), (.ref t)]) (lenOf pd_6 rfl) rfl (Nat.le_of_eq rfl) (hb hby d49_24) (fun _ _ => ⟨rfl, e2, (by decide : 1 + 0 ≤ _), (by decide : 22 + 0 ≤ _)⟩)
 obtain ⟨rfl, Nq5, eh5⟩ := hQ5
 have N5 := Fr.app N1 Nq5
 refine oo st5 ?_
 refine so (A := (T5.setTop (mkF m 27 #[vr t, vn lo, vn hi, vn (hi - lo), vr b2] [(.int (Int32.ofNat (hi - lo))), (.int 0), (.ref b2), (.int (Int32.ofNat lo)), (.ref t)]))) ?_
 have Bp6 : Arv Z h2 b2 k2 .byte (Int32.ofNat (hi - lo)) ([] ++ List.replicate (hi - lo) (.int 0)) (.int 0) := Arv.pad (vs := []) V2 (fun i => own_pad0 _ _ _ i)
 have en6 : ((Int32.ofNat (hi - lo))).toNatClampNeg = hi - lo := own_ncl (by omega)
 have es6 : ((Int32.ofNat lo)).toNatClampNeg = lo := own_ncl (by omega)
 have ec6 : ((Int32.ofNat cs.length)).toNatClampNeg = cs.length := own_ncl (by omega)
 obtain ⟨T6, h6, L6, X6, e6, N6, Kp6, V6, st6⟩ := cpA X5 hx hZ hown (hW 262 _ rfl) (hW 265 _ rfl) (hW 263 _ rfl) (hW 264 _ rfl) eh5 (us := ((own_sl cs lo hi).map fun c => Value.int (own_lo8 c))) f3 Bp6 (Or.inl ⟨rfl, rfl⟩) (own_nn (by omega)) (by decide) (own_nn (by omega)) (by rw [en6, es6, ec6]; omega) (by rw [en6]; show 0 + _ ≤ _; omega) (by rw [en6, es6]; exact own_sl_map hhi) (by rw [en6]; show 0 + _ ≤ _; simp) N5 (by omega : n0 ≤ b2) (g := (mkF m 27 #[vr t, vn lo, vn hi, vn (hi - lo), vr b2] [(.int (Int32.ofNat (hi - lo))), (.int 0), (.ref b2), (.int (Int32.ofNat lo)), (.ref t)])) rfl (by rw [hml]; rfl) rfl (hb hby d49_27) (by decide) (W := 0) (Nat.le_of_eq rfl) (by decide +kernel)
 have Vc6 : Arv Z h6 b2 k2 .byte (Int32.ofNat (hi - lo)) ((own_sl cs lo hi).map fun c => Value.int (own_lo8 c)) (.int 0) := by rw [en6] at V6; simpa [List.drop_eq_nil_of_le] using V6
 refine oo st6 ?_
 have sz6 : h2.size ≤ h6.size := Kp6.1
 have O6 : Old Z n0 h6 := O2.keep Kp6 (allS (by omega) all0)
 have K6 : Keep h0 h6 [] := K2.trans Kp6 (allS (Or.inr (by omega)) all0)
 refine oi (XS.aload X6.here hx rfl (hb hby d49_30) rfl rfl) ?_
 refine so (A := (T6.setTop (mkF m 32 #[vr t, vn lo, vn hi, vn (hi - lo), vr b2] [(.ref b2)]))) ?_
 refine own_ret X6 hx hlk hret rfl (Or.inr (Or.inr (Or.inr (Or.inr ⟨rfl, rfl, rfl⟩)))) (hb hby d49_32) (by decide) (by decide) ?_
 rw [e6]
 exact ⟨b2, k2, rfl, N6, K6, by omega, by omega, Vc6⟩
theorem ef_rmOR (m : MethodId) (x0 : Nat) (x1 : Int32) (x2 : Int32) : entryFrame m #[(.ref x0), (.int x1), (.int x2)] 3 = mkF m 0 #[vr x0, vi x1, vi x2] [] := by first | (simp [entryFrame, mkF, argsToLocals, Value.category]; done) | rfl
theorem d48_0 : dk cD48 0 (.iload_n 1) 1 := by decide +kernel
theorem d48_1 : dk cD48 1 (.ifCond .ne 9) 3 := by decide +kernel
theorem d48_4 : dk cD48 4 (.iload_n 2) 1 := by decide +kernel
theorem d48_5 : dk cD48 5 (.aload_n 0) 1 := by decide +kernel
theorem d48_6 : dk cD48 6 .arraylength 1 := by decide +kernel
theorem d48_7 : dk cD48 7 (.if_icmp .eq 10) 3 := by decide +kernel
theorem d48_10 : dk cD48 10 (.aload_n 0) 1 := by decide +kernel
theorem d48_11 : dk cD48 11 (.iload_n 1) 1 := by decide +kernel
theorem d48_12 : dk cD48 12 (.iload_n 2) 1 := by decide +kernel
theorem d48_13 : dk cD48 13 (.invokestatic 339) 3 := by decide +kernel
theorem pd_17 : parseMethodDescriptor "([BII)[B" = some ⟨[(.array .byte), .int, .int], some (.array .byte)⟩ := by decide +kernel
theorem d48_16 : dk cD48 16 .areturn 1 := by decide +kernel
def Q_rmOR (Z : State) (t : Nat) (kb : ClassId) (cs : List Int32) (lo : Nat) (hi : Nat) (h0 : Heap) (n0 : Nat) (v : Option Value) (h : Heap) (L : List Loc) : Prop := ∃ (r : Nat) (kr : ClassId), v = some (.ref r) ∧ Fr n0 L ∧ Keep h0 h [] ∧ h0.size ≤ r ∧ r < h.size ∧ Arv Z h r kr .byte (Int32.ofNat (hi - lo)) ((own_sl cs lo hi).map fun c => Value.int (own_lo8 c)) (.int 0)
theorem rmOR (l : Launch) (Z : State) (a0 : Array Value) (hw : own_H Z a0) (ws : List Jvm.Cond) (t : Nat) (kb : ClassId) (cs : List Int32) (lo : Nat) (hi : Nat) (h0 : Heap) (n0 : Nat) (XO0 : Old Z n0 h0) (V_t : Arv Z h0 t kb .byte (Int32.ofNat cs.length) (cs.map fun c => Value.int (own_lo8 c)) (.int 0)) (hcs : ∀ c ∈ cs, own_ch c) (hcl : cs.length ≤ 22) (hlo : lo ≤ hi) (hhi : hi ≤ cs.length) (hnw : ¬ (lo = 0 ∧ hi = cs.length)) :
  own_M l Z ym48 cD48 ws 3 (some (.array .byte)) (own_R 2 1 22 56) #[(.ref t), (.int (Int32.ofNat lo)), (.int (Int32.ofNat hi))] h0 (Q_rmOR Z t kb cs lo hi h0 n0) := by
 refine own_open (plainFor_of_name pn_4) ?_
 intro p e s m below meth c s₁ hx hby hlk hret hml hown hnm hZ X0 e0
 have hW := own_hW hw
 have N0 := Fr.nil n0
 refine oo (fun tt_ kk_ => castTop (ef_rmOR m t (Int32.ofNat lo) (Int32.ofNat hi)) kk_) ?_
 refine so (A := (s₁.setTop (mkF m 0 #[vr t, vn lo, vn hi] []))) ?_
 have K0_ : Keep h0 h0 [] := Keep.refl h0 []
 refine oi (XS.iloadN X0.here hx rfl (hb hby d48_0) rfl) ?_
 by_cases hb1_1 : (Int32.ofNat lo) = (0 : Int32)
 ·refine oi (XS.ifNo X0.here hx rfl (hb hby d48_1) rfl ((if0 _ _).trans (teq hb1_1).2)) ?_
  refine so (A := (s₁.setTop (mkF m 4 #[vr t, vn lo, vn hi] []))) ?_
  refine oi (XS.iloadN X0.here hx rfl (hb hby d48_4) rfl) ?_
  refine oi (XS.aloadN X0.here hx rfl (hb hby d48_5) rfl rfl) ?_
  obtain ⟨cl2, Ar2, q2, S2, Ng2, H2, G2⟩ := id V_t
  refine oo (fun tt_ kk => X0.arraylength hx (by rw [e0]; exact Ar2.1) (State.isArrayOf_alike hZ.alike Ar2.2.1) (g := (mkF m 6 #[vr t, vn lo, vn hi] [(.ref t), (.int (Int32.ofNat hi))])) rfl rfl (hb hby d48_6) _ (by rw [len_of S2 Ng2]; exact kk)) ?_
  have hb7_3 : ¬ ((Int32.ofNat hi) = (Int32.ofNat cs.length)) := fun q => hnw ⟨(own_neq (b := 0) (by omega) (by omega)).mp hb1_1, (own_neq (by omega) (by omega)).mp q⟩
  refine oi (XS.icmpNo X0.here hx rfl (hb hby d48_7) rfl (feq hb7_3).1) ?_
  refine so (A := (s₁.setTop (mkF m 10 #[vr t, vn lo, vn hi] []))) ?_
  refine oi (XS.aloadN X0.here hx rfl (hb hby d48_10) rfl rfl) ?_
  refine oi (XS.iloadN X0.here hx rfl (hb hby d48_11) rfl) ?_
  refine oi (XS.iloadN X0.here hx rfl (hb hby d48_12) rfl) ?_
  refine so (A := (s₁.setTop (mkF m 13 #[vr t, vn lo, vn hi] [(.int (Int32.ofNat hi)), (.int (Int32.ofNat lo)), (.ref t)]))) ?_
  obtain ⟨_, T4, Lc4, X4, hQ4, st4⟩ := own_c1 X0 <| Jvm.LawKit.callS X0 hx (y := ym49) hown (mvT hZ (hW 255 _ rfl)) (mvT hZ (hW 256 _ rfl)) (mvT hZ (hW 253 _ rfl)) (mvT hZ (hW 257 _ rfl)) (by decide) (backOf (W := 0) (rmRB l Z a0 hw [] t kb cs lo hi h0 n0 XO0 V_t hcs hcl hlo hhi) hZ (hW 257 _ rfl) (hW 253 _ rfl) (by decide) (by decide)) (g := (mkF m 13 #[vr t, vn lo, vn hi] [(.int (Int32.ofNat hi)), (.int (Int32.ofNat lo)), (.ref t)])) rfl (by rw [hml]; rfl) (argsL := [(.ref t), (.int (Int32.ofNat lo)), (.int (Int32.ofNat hi))]) (rest := []) (lenOf pd_17 rfl) rfl (Nat.le_of_eq rfl) (hb hby d48_13) (fun _ _ => ⟨rfl, e0, (by decide : 0 + 1 ≤ _), (by decide : 0 + 22 ≤ _)⟩)
  obtain ⟨ar4, kr4, rfl, Nq4, Kp4, ga4, la4, Va4⟩ := hQ4
  have N4 := Fr.app N0 Nq4
  refine oo st4 ?_
  have sz4 : h0.size ≤ T4.heap.size := Kp4.1
  have O4 : Old Z n0 T4.heap := XO0.keep Kp4 all0
  have K4 : Keep h0 T4.heap [] := K0_.trans Kp4 all0
  refine so (A := (T4.setTop (mkF m 16 #[vr t, vn lo, vn hi] [(.ref ar4)]))) ?_
  refine own_ret X4 hx hlk hret rfl (Or.inr (Or.inr (Or.inr (Or.inr ⟨rfl, rfl, rfl⟩)))) (hb hby d48_16) (by decide) (by decide) ?_
  skip
  exact ⟨ar4, kr4, rfl, N4, K4, by omega, by omega, Va4⟩
 ·refine oi (XS.ifYes X0.here hx rfl (pc0 := 1) (pc' := 10) rfl (hb hby d48_1) rfl ((if0 _ _).trans (feq hb1_1).2) (by decide) (by decide)) ?_
  refine so (A := (s₁.setTop (mkF m 10 #[vr t, vn lo, vn hi] []))) ?_
  refine oi (XS.aloadN X0.here hx rfl (hb hby d48_10) rfl rfl) ?_
  refine oi (XS.iloadN X0.here hx rfl (hb hby d48_11) rfl) ?_
  refine oi (XS.iloadN X0.here hx rfl (hb hby d48_12) rfl) ?_
  refine so (A := (s₁.setTop (mkF m 13 #[vr t, vn lo, vn hi] [(.int (Int32.ofNat hi)), (.int (Int32.ofNat lo)), (.ref t)]))) ?_
  obtain ⟨_, T5, Lc5, X5, hQ5, st5⟩ := own_c1 X0 <| Jvm.LawKit.callS X0 hx (y := ym49) hown (mvT hZ (hW 255 _ rfl)) (mvT hZ (hW 256 _ rfl)) (mvT hZ (hW 253 _ rfl)) (mvT hZ (hW 257 _ rfl)) (by decide) (backOf (W := 0) (rmRB l Z a0 hw [] t kb cs lo hi h0 n0 XO0 V_t hcs hcl hlo hhi) hZ (hW 257 _ rfl) (hW 253 _ rfl) (by decide) (by decide)) (g := (mkF m 13 #[vr t, vn lo, vn hi] [(.int (Int32.ofNat hi)), (.int (Int32.ofNat lo)), (.ref t)])) rfl (by rw [hml]; rfl) (argsL := [(.ref t), (.int (Int32.ofNat lo)), (.int (Int32.ofNat hi))]) (rest := []) (lenOf pd_17 rfl) rfl (Nat.le_of_eq rfl) (hb hby d48_13) (fun _ _ => ⟨rfl, e0, (by decide : 0 + 1 ≤ _), (by decide : 0 + 22 ≤ _)⟩)
  obtain ⟨ar5, kr5, rfl, Nq5, Kp5, ga5, la5, Va5⟩ := hQ5
  have N5 := Fr.app N0 Nq5
  refine oo st5 ?_
  have sz5 : h0.size ≤ T5.heap.size := Kp5.1
  have O5 : Old Z n0 T5.heap := XO0.keep Kp5 all0
  have K5 : Keep h0 T5.heap [] := K0_.trans Kp5 all0
  refine so (A := (T5.setTop (mkF m 16 #[vr t, vn lo, vn hi] [(.ref ar5)]))) ?_
  refine own_ret X5 hx hlk hret rfl (Or.inr (Or.inr (Or.inr (Or.inr ⟨rfl, rfl, rfl⟩)))) (hb hby d48_16) (by decide) (by decide) ?_
  skip
  exact ⟨ar5, kr5, rfl, N5, K5, by omega, by omega, Va5⟩
theorem ef_rmSB (m : MethodId) (x0 : Nat) (x1 : Nat) (x2 : Int32) : entryFrame m #[(.ref x0), (.ref x1), (.int x2)] 3 = mkF m 0 #[vr x0, vr x1, vi x2] [] := by first | (simp [entryFrame, mkF, argsToLocals, Value.category]; done) | rfl
theorem d51_0 : dk cD51 0 (.aload_n 0) 1 := by decide +kernel
theorem d51_1 : dk cD51 1 (.invokespecial 1) 3 := by decide +kernel
theorem d51_4 : dk cD51 4 (.aload_n 0) 1 := by decide +kernel
theorem d51_5 : dk cD51 5 (.aload_n 1) 1 := by decide +kernel
theorem d51_6 : dk cD51 6 (.putfield 9) 3 := by decide +kernel
theorem pf_0 : parseFieldDescriptor "[B" = some (.array .byte) := by decide +kernel
theorem d51_9 : dk cD51 9 (.aload_n 0) 1 := by decide +kernel
theorem d51_10 : dk cD51 10 (.iload_n 2) 1 := by decide +kernel
theorem d51_11 : dk cD51 11 (.putfield 15) 3 := by decide +kernel
theorem pf_1 : parseFieldDescriptor "B" = some .byte := by decide +kernel
theorem d51_14 : dk cD51 14 .return_ 1 := by decide +kernel
def Q_rmSB (Z : State) (x : Nat) (t : Nat) (h0 : Heap) (n0 : Nat) (v : Option Value) (h : Heap) (L : List Loc) : Prop := v = none ∧ Fr n0 L ∧ Keep h0 h [x] ∧ Fld Z h x "java/lang/String" "value" "[B" (.ref t) ∧ Fld Z h x "java/lang/String" "coder" "B" (.int 0)
theorem rmSB (l : Launch) (Z : State) (a0 : Array Value) (hw : own_H Z a0) (ws : List Jvm.Cond) (x : Nat) (t : Nat) (h0 : Heap) (n0 : Nat) (XO0 : Old Z n0 h0) (g_x : n0 ≤ x) (E_x : Exa Z h0 x "java/lang/String") (F_v : Fld Z h0 x "java/lang/String" "value" "[B" .null) (F_c : Fld Z h0 x "java/lang/String" "coder" "B" (.int 0)) :
  own_M l Z ym51 cD51 ws 3 none (own_R 1 0 0 12) #[(.ref x), (.ref t), (.int 0)] h0 (Q_rmSB Z x t h0 n0) := by
 refine own_open (plainFor_of_name pn_0) ?_
 intro p e s m below meth c s₁ hx hby hlk hret hml hown hnm hZ X0 e0
 have hW := own_hW hw
 have N0 := Fr.nil n0
 refine oo (fun tt_ kk_ => castTop (ef_rmSB m x t (0 : Int32)) kk_) ?_
 refine so (A := (s₁.setTop (mkF m 0 #[vr x, vr t, vz] []))) ?_
 have K0_ : Keep h0 h0 [x] := Keep.refl h0 [x]
 have lt_x := olt E_x.lt
 refine oi (XS.aloadN X0.here hx rfl (hb hby d51_0) rfl rfl) ?_
 obtain ⟨T1, X1, e1, st1⟩ := initO X0 hx hZ hown (hW 16 _ rfl) (hW 17 _ rfl) (hW 18 _ rfl) e0 (g := (mkF m 1 #[vr x, vr t, vz] [(.ref x)])) rfl (by rw [hml]; rfl) rfl (hb hby d51_1) (by decide) (W := 0) (Nat.le_of_eq rfl) (by decide)
 refine oo st1 ?_
 refine oi (XS.aloadN X1.here hx rfl (hb hby d51_4) rfl rfl) ?_
 refine oi (XS.aloadN X1.here hx rfl (hb hby d51_5) rfl rfl) ?_
 obtain ⟨T2, h2, X2, e2, W2, st2⟩ := putF X1 hx hZ hown (host := "") (Or.inl (hW 33 _ rfl)) Via.refl e1 F_v E_x (Or.inr ⟨(hW 34 _ rfl), rfl, hnm⟩) (hW 7 _ rfl) (ty := (.array .byte)) pf_0 rfl rfl (g := (mkF m 6 #[vr x, vr t, vz] [(.ref t), (.ref x)])) rfl rfl (hb hby d51_6)
 refine oo st2 ?_
 have N2 := Fr.snoc X2 N0 (by omega : n0 ≤ x)
 have sz2 : h2.size = h0.size := W2.size
 have O2 : Old Z n0 h2 := XO0.wr W2 (by omega)
 have K2 : Keep h0 h2 [x] := K0_.wr W2 (Or.inl (List.mem_of_getElem? (i := 0) rfl))
 have Fw2 := F_v.same W2
 refine oi (XS.aloadN X2.here hx rfl (hb hby d51_9) rfl rfl) ?_
 refine oi (XS.iloadN X2.here hx rfl (hb hby d51_10) rfl) ?_
 have f3 : Exa Z h2 x "java/lang/String" := (E_x.wr W2)
 have f4 : Fld Z h2 x "java/lang/String" "coder" "B" (.int 0) := (F_c.other W2 (Or.inr (slot_ne (Or.inr (hW 32 _ rfl)) (Or.inr (hW 34 _ rfl)) (by decide) pf_1 pf_0)))
 obtain ⟨T5, h5, X5, e5, W5, st5⟩ := putFN X2 hx hZ hown (hW 31 _ rfl) Via.refl e2 f4 f3 (Or.inr ⟨(hW 32 _ rfl), rfl, hnm⟩) (hW 7 _ rfl) (ty := .byte) (v' := .int (nar .byte (0 : Int32))) pf_1 rfl (fits_nar_byte _) (g := (mkF m 11 #[vr x, vr t, vz] [(.int 0), (.ref x)])) rfl rfl (hb hby d51_11)
 refine oo st5 ?_
 have N5 := Fr.snoc X5 N2 (by omega : n0 ≤ x)
 have sz5 : h5.size = h2.size := W5.size
 have O5 : Old Z n0 h5 := O2.wr W5 (by omega)
 have K5 : Keep h0 h5 [x] := K2.wr W5 (Or.inl (List.mem_of_getElem? (i := 0) rfl))
 have Fw5 := f4.same W5
 refine so (A := (T5.setTop (mkF m 14 #[vr x, vr t, vz] []))) ?_
 refine own_retV X5 hx hlk hret (hb hby d51_14) (by decide) (by decide) ?_
 rw [e5]
 have f6 : Fld Z h5 x "java/lang/String" "value" "[B" (.ref t) := (Fw2.other W5 (Or.inr (slot_ne (Or.inr (hW 34 _ rfl)) (Or.inr (hW 32 _ rfl)) (by decide) pf_0 pf_1)))
 exact ⟨rfl, N5, K5, f6, Fw5⟩
def Q_Sub (Z : State) (cs : List Int32) (lo hi : Nat) (h0 : Heap) (n0 : Nat) (v : Option Value) (h : Heap) (L : List Loc) : Prop := ∃ y : Nat, v = some (.ref y) ∧ Fr n0 L ∧ Keep h0 h [] ∧ own_sr Z h y (own_sl cs lo hi)
theorem ef_rmNS (m : MethodId) (x0 : Nat) (x1 : Int32) (x2 : Int32) : entryFrame m #[(.ref x0), (.int x1), (.int x2)] 3 = mkF m 0 #[vr x0, vi x1, vi x2] [] := by first | (simp [entryFrame, mkF, argsToLocals, Value.category]; done) | rfl
theorem d47_0 : dk cD47 0 (.iload_n 2) 1 := by decide +kernel
theorem d47_1 : dk cD47 1 (.ifCond .ne 6) 3 := by decide +kernel
theorem d47_4 : dk cD47 4 (.ldc 151) 2 := by decide +kernel
theorem d47_6 : dk cD47 6 .areturn 1 := by decide +kernel
theorem d47_7 : dk cD47 7 (.new 1) 3 := by decide +kernel
theorem d47_10 : dk cD47 10 .dup 1 := by decide +kernel
theorem d47_11 : dk cD47 11 (.aload_n 0) 1 := by decide +kernel
theorem d47_12 : dk cD47 12 (.iload_n 1) 1 := by decide +kernel
theorem d47_13 : dk cD47 13 (.iload_n 1) 1 := by decide +kernel
theorem d47_14 : dk cD47 14 (.iload_n 2) 1 := by decide +kernel
theorem d47_15 : dk cD47 15 .iadd 1 := by decide +kernel
theorem d47_16 : dk cD47 16 (.invokestatic 232) 3 := by decide +kernel
theorem d47_19 : dk cD47 19 (.iconst 0) 1 := by decide +kernel
theorem d47_20 : dk cD47 20 (.invokespecial 112) 3 := by decide +kernel
theorem pd_18 : parseMethodDescriptor "([BB)V" = some ⟨[(.array .byte), .byte], none⟩ := by decide +kernel
theorem d47_23 : dk cD47 23 .areturn 1 := by decide +kernel
theorem rmNS (l : Launch) (Z : State) (a0 : Array Value) (hw : ∀ d ∈ tables_1, d.before a0 Z = true) (ws : List Jvm.Cond) (t : Nat) (kb : ClassId) (cs : List Int32) (lo : Nat) (hi : Nat) (h0 : Heap) (n0 : Nat) (hEL : EW Z a0 own_EL) (XO0 : Old Z n0 h0) (V_t : Arv Z h0 t kb .byte (Int32.ofNat cs.length) (cs.map fun c => Value.int (own_lo8 c)) (.int 0)) (hcs : ∀ c ∈ cs, own_ch c) (hcl : cs.length ≤ 22) (hlo : lo ≤ hi) (hhi : hi ≤ cs.length) (hnw : ¬ (lo = 0 ∧ hi = cs.length)) :
  MetFree l ym47 (head1 (Jvm.Cond.code ym47 cD47 3 (some (.object "java/lang/String")) :: ws) (own_R 3 2 26 72)) (fun zz_ U => zz_ = #[(.ref t), (.int (Int32.ofNat lo)), (.int (Int32.ofNat (hi - lo)))] ∧ Z.Warmed39 U.vm ∧ U.heap = h0 ∧ CHv Z own_EL U.vm h0) (fun _ _ _ _ _ => True) (fun _ U o U' => ∃ v L, o = .returned v ∧ Q_Sub Z cs lo hi h0 n0 v U'.heap L ∧ CHr Z own_EL U.vm U.heap U'.vm U'.heap ∧ ReturnedEndW U o U' L (own_R 3 2 26 72).cells (own_R 3 2 26 72).slots) := by
 refine MetFree.of_bodySF (plainFor_of_name pn_3) hisR ?_
 intro p e s m args below meth c s₁ Bd hml0 hP hK
 obtain ⟨rfl, hZ, hh, hCH⟩ := hP
 have hx := Bd.exec
 have hby := Bd.bytes
 have hlk := Bd.notSynchronized
 have hW : ∀ (i : Nat) (d : Jvm.Cond), tables_1[i]? = some d → d.before a0 Z = true := fun i d h => hw d (List.mem_of_getElem? h)
 have hml : c.maxLocals = 3 := hml0
 have hown : s.vm.findClass "java/lang/StringLatin1" = some m.cls := findClass_of_methodNamed Bd.named
 have hnm := (name_of_methodNamed Bd.named Bd.method).1
 have X0 : Stand p l e (own_R 3 2 26 72) (s.setVm s.vm) m #[(.ref t), (.int (Int32.ofNat lo)), (.int (Int32.ofNat (hi - lo)))] below meth c s₁ [] 0 0 := Stand.of_body Bd
 have e0 : s₁.heap = h0 := by rw [← hh, Bd.state]; rfl
 have N0 := Fr.nil n0
 have hS0 : s.Since s.vm 0 := (State.WarmedH.refl s).since 0
 have CH0 : CHr Z own_EL s.vm s.heap s.vm h0 := by rw [hh]; exact CHr.refl hCH
 refine own_inc ?_
 refine oc (fun tt_ kk_ => castTop (ef_rmNS m t (Int32.ofNat lo) (Int32.ofNat (hi - lo))) kk_) ?_
 refine sc (A := (s₁.setTop (mkF m 0 #[vr t, vn lo, vn (hi - lo)] []))) ?_
 have wS : ∀ a ∈ Bundle.stringAtoms, a.before a0 Z = true := fun d hd => hw d ((by decide +kernel : ∀ d ∈ Bundle.stringAtoms, d ∈ tables_1) d hd)
 have K0_ : Keep h0 h0 [] := Keep.refl h0 []
 have lt_t := olt V_t.lt
 refine ci (XS.iloadN X0.here hx rfl (hb hby d47_0) rfl) ?_
 by_cases hb1_1 : (Int32.ofNat (hi - lo)) = (0 : Int32)
 ·refine ci (XS.ifNo X0.here hx rfl (hb hby d47_1) rfl ((if0 _ _).trans (teq hb1_1).2)) ?_
  refine sc (A := (s₁.setTop (mkF m 4 #[vr t, vn lo, vn (hi - lo)] []))) ?_
  obtain ⟨b2, T2, h2, k2, t2, kb2, X2, e2, E2, hS2, hk2, hZ2, hown2, Ex2, Cx2, Vx2, Kx2, la2, lb2, CHs2, -, hne2, st2⟩ := ldcCH X0 hx hZ hown (hW 295 _ rfl) wS e0 hS0 (by omega : 0 ≤ h0.size) hEL (by decide +kernel) CH0.1 (vs := []) (z := 0) ⟨by decide +kernel, by decide +kernel⟩ (by decide +kernel) (by decide +kernel) (g := (mkF m 4 #[vr t, vn lo, vn (hi - lo)] [])) rfl (hb hby d47_4) (n := 0) (by decide +kernel) (by decide) (by decide) (by decide)
  have CH2 := CH0.trans CHs2
  have Ss2 : own_sr Z h2 b2 ([] : List Int32) := ⟨by decide, by decide, t2, kb2, Ex2, Vx2, Cx2, Kx2⟩
  refine oc st2 ?_
  have sz2 : h0.size ≤ h2.size := E2.1
  have O2 : Old Z n0 h2 := XO0.ext E2
  have K2 : Keep h0 h2 [] := K0_.ext E2
  have lla2 := olt la2
  have llb2 := olt lb2
  refine sc (A := (T2.setTop (mkF m 6 #[vr t, vn lo, vn (hi - lo)] [(.ref b2)]))) ?_
  refine own_retc X2 hx hlk hS2 (by rw [e2]; omega : k2 ≤ T2.heap.size) hZ2 hEL (by rw [e2]; exact CH2) Bd.returns rfl (Or.inr (Or.inr (Or.inr (Or.inr ⟨rfl, rfl, rfl⟩)))) (hb hby d47_6) (by decide) (by decide) ?_
  rw [e2]
  exact ⟨b2, rfl, N0, K2, by rw [own_sl_nil ((own_neq (b := 0) (by omega) (by omega)).mp hb1_1)]; exact Ss2⟩
 ·refine ci (XS.ifYes X0.here hx rfl (pc0 := 1) (pc' := 7) rfl (hb hby d47_1) rfl ((if0 _ _).trans (feq hb1_1).2) (by decide) (by decide)) ?_
  refine sc (A := (s₁.setTop (mkF m 7 #[vr t, vn lo, vn (hi - lo)] []))) ?_
  obtain ⟨T3, h3, X3, e3, E3, A3, D3, -, st3⟩ := newO X0 hx hZ hown (hW 250 _ rfl) (hW 7 _ rfl) (hW 8 _ rfl) e0 (g := (mkF m 7 #[vr t, vn lo, vn (hi - lo)] [])) rfl (hb hby d47_7) (by decide) (by decide)
  obtain ⟨b3, g3⟩ : ∃ z, z = h0.size := ⟨_, rfl⟩
  rw [← g3] at A3 D3 st3
  refine oc st3 ?_
  have lt3 := olt A3.lt
  have sz3 : h0.size ≤ h3.size := E3.1
  have O3 : Old Z n0 h3 := XO0.ext E3
  have z3 : n0 ≤ b3 := by have := XO0.1 ▸ XO0.2.1; omega
  have CHs3 := CHr.ext E3 CH0.1
  have Sf3 := Safe.ext E3 CH0.1 (Safe.new (Nat.le_of_eq g3.symm))
  have CH3 := CH0.trans CHs3
  have K3 : Keep h0 h3 [] := K0_.ext E3
  have F3_coder : Fld Z h3 b3 "java/lang/String" "coder" "B" (.int 0) := D3 (Or.inr (hW 32 _ rfl)) (ty := .byte) pf_1
  have F3_value : Fld Z h3 b3 "java/lang/String" "value" "[B" .null := D3 (Or.inr (hW 34 _ rfl)) (ty := (.array .byte)) pf_0
  refine ci (XS.dup X3.here hx rfl (hb hby d47_10) rfl rfl) ?_
  refine ci (XS.aloadN X3.here hx rfl (hb hby d47_11) rfl rfl) ?_
  refine ci (XS.iloadN X3.here hx rfl (hb hby d47_12) rfl) ?_
  refine ci (XS.iloadN X3.here hx rfl (hb hby d47_13) rfl) ?_
  refine ci (XS.iloadN X3.here hx rfl (hb hby d47_14) rfl) ?_
  refine ci (XS.iadd X3.here hx rfl (hb hby d47_15) rfl) ?_
  refine sc (A := (T3.setTop (mkF m 16 #[vr t, vn lo, vn (hi - lo)] [(.int ((Int32.ofNat lo) + (Int32.ofNat (hi - lo)))), (.int (Int32.ofNat lo)), (.ref t), (.ref b3), (.ref b3)]))) ?_
  rw [own_nlh hlo]
  refine sc (A := (T3.setTop (mkF m 16 #[vr t, vn lo, vn (hi - lo)] [(.int (Int32.ofNat hi)), (.int (Int32.ofNat lo)), (.ref t), (.ref b3), (.ref b3)]))) ?_
  have f4 : Arv Z h3 t kb .byte (Int32.ofNat cs.length) (cs.map fun c => Value.int (own_lo8 c)) (.int 0) := V_t.keep K3 nin0
  obtain ⟨_, T5, Lc5, X5, hQ5, st5⟩ := own_c1 X3 <| Jvm.LawKit.callS X3 hx (y := ym48) hown (mvT hZ (hW 251 _ rfl)) (mvT hZ (hW 252 _ rfl)) (mvT hZ (hW 253 _ rfl)) (mvT hZ (hW 254 _ rfl)) (by decide) (backOf (W := 2) (rmOR l Z a0 hw [] t kb cs lo hi h3 n0 O3 f4 hcs hcl hlo hhi hnw) hZ (hW 254 _ rfl) (hW 253 _ rfl) (by decide) (by decide)) (g := (mkF m 16 #[vr t, vn lo, vn (hi - lo)] [(.int (Int32.ofNat hi)), (.int (Int32.ofNat lo)), (.ref t), (.ref b3), (.ref b3)])) rfl (by rw [hml]; rfl) (argsL := [(.ref t), (.int (Int32.ofNat lo)), (.int (Int32.ofNat hi))]) (rest := [(.ref b3), (.ref b3)]) (lenOf pd_17 rfl) rfl (Nat.le_of_eq rfl) (hb hby d47_16) (fun _ _ => ⟨rfl, e3, (by decide : 1 + 1 ≤ _), (by decide : 4 + 22 ≤ _)⟩)
  obtain ⟨ar5, kr5, rfl, Nq5, Kp5, ga5, la5, Va5⟩ := hQ5
  have N5 := Fr.app N0 Nq5
  refine oc st5 ?_
  have CHs5 := CHr.keep Kp5 all0 CH3.1
  have CH5 := CH3.trans CHs5
  have sz5 : h3.size ≤ T5.heap.size := Kp5.1
  have O5 : Old Z n0 T5.heap := O3.keep Kp5 all0
  have K5 : Keep h0 T5.heap [] := K3.trans Kp5 all0
  refine ci (XS.iconst X5.here hx rfl (hb hby d47_19)) ?_
  refine sc (A := (T5.setTop (mkF m 20 #[vr t, vn lo, vn (hi - lo)] [(.int 0), (.ref ar5), (.ref b3), (.ref b3)]))) ?_
  have f6 : Exa Z T5.heap b3 "java/lang/String" := (A3.keep Kp5)
  have f7 : Fld Z T5.heap b3 "java/lang/String" "value" "[B" .null := (F3_value.keep Kp5 nin0)
  have f8 : Fld Z T5.heap b3 "java/lang/String" "coder" "B" (.int 0) := (F3_coder.keep Kp5 nin0)
  obtain ⟨_, T9, Lc9, X9, hQ9, st9⟩ := own_c1 X5 <| X5.specialBack hx (y := ym51) rfl hown (mvT hZ (hW 266 _ rfl)) (mvT hZ (hW 267 _ rfl)) (mvT hZ (hW 268 _ rfl)) (by decide) (backOf (W := 1) (rmSB l Z a0 hw [] b3 ar5 T5.heap n0 O5 (by omega) f6 f7 f8) hZ (hW 268 _ rfl) (hW 8 _ rfl) (by decide) (by decide)) (g := (mkF m 20 #[vr t, vn lo, vn (hi - lo)] [(.int 0), (.ref ar5), (.ref b3), (.ref b3)])) rfl (by rw [hml]; rfl) (Steps.refl _) (a := b3) (argsL := [(.ref ar5), (.int 0)]) (rest := [(.ref b3)]) (lenOf pd_18 rfl) rfl (Nat.le_of_eq rfl) (hb hby d47_20) (fun _ _ => ⟨rfl, rfl, (by decide : 2 + 0 ≤ _), (by decide : 26 + 0 ≤ _)⟩)
  obtain ⟨rfl, Nq9, Kp9, Fv9, Fc9⟩ := hQ9
  have N9 := Fr.app N5 Nq9
  refine oc (fun tt_ kk_ => st9.trans kk_) ?_
  have f10 := (CHs5.safe (olt (by omega)) Sf3)
  have CHs9 := CHr.keep Kp9 (allS f10 all0) CH5.1
  have CH9 := CH5.trans CHs9
  have sz9 : T5.heap.size ≤ T9.heap.size := Kp9.1
  have O9 : Old Z n0 T9.heap := O5.keep Kp9 (allS (by omega) all0)
  have K9 : Keep h0 T9.heap [] := K5.trans Kp9 (allS (Or.inr (by omega)) all0)
  refine sc (A := (T9.setTop (mkF m 23 #[vr t, vn lo, vn (hi - lo)] [(.ref b3)]))) ?_
  refine own_retc X9 hx hlk hS0 (by omega : 0 ≤ T9.heap.size) hZ hEL CH9 Bd.returns rfl (Or.inr (Or.inr (Or.inr (Or.inr ⟨rfl, rfl, rfl⟩)))) (hb hby d47_23) (by decide) (by decide) ?_
  skip
  have f11 : Exa Z T9.heap b3 "java/lang/String" := (f6.keep Kp9)
  have f12 : Arv Z T9.heap ar5 kr5 .byte (Int32.ofNat (hi - lo)) ((own_sl cs lo hi).map fun c => Value.int (own_lo8 c)) (.int 0) := (Va5.keep Kp9 (ninS (one (by omega)) nin0))
  exact ⟨b3, rfl, N9, K9, fun c hc => hcs c (own_sl_mem hc), by rw [own_sl_len hhi]; omega, ar5, kr5, f11, Fv9, Fc9, by rw [own_sl_len hhi]; exact f12⟩
theorem ef_rmSu (m : MethodId) (x0 : Nat) (x1 : Int32) (x2 : Int32) : entryFrame m #[(.ref x0), (.int x1), (.int x2)] 5 = mkF m 0 #[vr x0, vi x1, vi x2, uu, uu] [] := by first | (simp [entryFrame, mkF, argsToLocals, Value.category]; done) | rfl
theorem d20_0 : dk cD20 0 (.aload_n 0) 1 := by decide +kernel
theorem d20_1 : dk cD20 1 (.invokevirtual 505) 3 := by decide +kernel
theorem d20_4 : dk cD20 4 (.istore_n 3) 1 := by decide +kernel
theorem d20_5 : dk cD20 5 (.iload_n 1) 1 := by decide +kernel
theorem d20_6 : dk cD20 6 (.iload_n 2) 1 := by decide +kernel
theorem d20_7 : dk cD20 7 (.iload_n 3) 1 := by decide +kernel
theorem d20_8 : dk cD20 8 (.invokestatic 521) 3 := by decide +kernel
theorem pd_19 : parseMethodDescriptor "(III)V" = some ⟨[.int, .int, .int], none⟩ := by decide +kernel
theorem d20_11 : dk cD20 11 (.iload_n 1) 1 := by decide +kernel
theorem d20_12 : dk cD20 12 (.ifCond .ne 10) 3 := by decide +kernel
theorem d20_15 : dk cD20 15 (.iload_n 2) 1 := by decide +kernel
theorem d20_16 : dk cD20 16 (.iload_n 3) 1 := by decide +kernel
theorem d20_17 : dk cD20 17 (.if_icmp .ne 5) 3 := by decide +kernel
theorem d20_20 : dk cD20 20 (.aload_n 0) 1 := by decide +kernel
theorem d20_21 : dk cD20 21 .areturn 1 := by decide +kernel
theorem d20_22 : dk cD20 22 (.iload_n 2) 1 := by decide +kernel
theorem d20_23 : dk cD20 23 (.iload_n 1) 1 := by decide +kernel
theorem d20_24 : dk cD20 24 .isub 1 := by decide +kernel
theorem d20_25 : dk cD20 25 (.istore 4) 2 := by decide +kernel
theorem d20_27 : dk cD20 27 (.aload_n 0) 1 := by decide +kernel
theorem d20_28 : dk cD20 28 (.invokevirtual 492) 3 := by decide +kernel
theorem d20_31 : dk cD20 31 (.ifCond .eq 16) 3 := by decide +kernel
theorem d20_34 : dk cD20 34 (.aload_n 0) 1 := by decide +kernel
theorem d20_35 : dk cD20 35 (.getfield 9) 3 := by decide +kernel
theorem d20_38 : dk cD20 38 (.iload_n 1) 1 := by decide +kernel
theorem d20_39 : dk cD20 39 (.iload 4) 2 := by decide +kernel
theorem d20_41 : dk cD20 41 (.invokestatic 685) 3 := by decide +kernel
theorem pd_20 : parseMethodDescriptor "([BII)Ljava/lang/String;" = some ⟨[(.array .byte), .int, .int], some (.object "java/lang/String")⟩ := by decide +kernel
theorem d20_44 : dk cD20 44 (.goto 13) 3 := by decide +kernel
theorem d20_57 : dk cD20 57 .areturn 1 := by decide +kernel
theorem rmSu (l : Launch) (Z : State) (a0 : Array Value) (hw : ∀ d ∈ tables_1, d.before a0 Z = true) (ws : List Jvm.Cond) (x : Nat) (cs : List Int32) (lo : Nat) (hi : Nat) (Gc : Int32) (fm : Value) (h0 : Heap) (n0 : Nat) (hEL : EW Z a0 own_EL) (XO0 : Old Z n0 h0) (Oc : Sta Z Z.heap "java/lang/String" "COMPACT_STRINGS" "Z" (.int Gc)) (Pc : ¬ (Gc = (0 : Int32))) (Of : Sta Z Z.heap "jdk/internal/util/Preconditions" "SIOOBE_FORMATTER" "Ljava/util/function/BiFunction;" fm) (hfm : fm.isRef = true) (S_x : own_sr Z h0 x cs) (hlo : lo ≤ hi) (hhi : hi ≤ cs.length) :
  MetFree l ym20 (head1 (Jvm.Cond.code ym20 cD20 5 (some (.object "java/lang/String")) :: ws) (own_R 4 2 26 86)) (fun zz_ U => zz_ = #[(.ref x), (.int (Int32.ofNat lo)), (.int (Int32.ofNat hi))] ∧ Z.Warmed39 U.vm ∧ U.heap = h0 ∧ CHv Z own_EL U.vm h0) (fun _ _ _ _ _ => True) (fun _ U o U' => ∃ v L, o = .returned v ∧ Q_Sub Z cs lo hi h0 n0 v U'.heap L ∧ CHr Z own_EL U.vm U.heap U'.vm U'.heap ∧ ReturnedEndW U o U' L (own_R 4 2 26 86).cells (own_R 4 2 26 86).slots) := by
 refine MetFree.of_bodySF (plainFor_of_name pn_0) hisR ?_
 intro p e s m args below meth c s₁ Bd hml0 hP hK
 obtain ⟨rfl, hZ, hh, hCH⟩ := hP
 have hx := Bd.exec
 have hby := Bd.bytes
 have hlk := Bd.notSynchronized
 have hW : ∀ (i : Nat) (d : Jvm.Cond), tables_1[i]? = some d → d.before a0 Z = true := fun i d h => hw d (List.mem_of_getElem? h)
 have hml : c.maxLocals = 5 := hml0
 have hown : s.vm.findClass "java/lang/String" = some m.cls := findClass_of_methodNamed Bd.named
 have hnm := (name_of_methodNamed Bd.named Bd.method).1
 have X0 : Stand p l e (own_R 4 2 26 86) (s.setVm s.vm) m #[(.ref x), (.int (Int32.ofNat lo)), (.int (Int32.ofNat hi))] below meth c s₁ [] 0 0 := Stand.of_body Bd
 have e0 : s₁.heap = h0 := by rw [← hh, Bd.state]; rfl
 have N0 := Fr.nil n0
 have hS0 : s.Since s.vm 0 := (State.WarmedH.refl s).since 0
 have CH0 : CHr Z own_EL s.vm s.heap s.vm h0 := by rw [hh]; exact CHr.refl hCH
 refine own_inc ?_
 refine oc (fun tt_ kk_ => castTop (ef_rmSu m x (Int32.ofNat lo) (Int32.ofNat hi)) kk_) ?_
 refine sc (A := (s₁.setTop (mkF m 0 #[vr x, vn lo, vn hi, uu, uu] []))) ?_
 have K0_ : Keep h0 h0 [] := Keep.refl h0 []
 obtain ⟨hc_x, hl_x, t_x, kb_x, E_x, F_x, C_x, V_x⟩ := id S_x
 refine ci (XS.aloadN X0.here hx rfl (hb hby d20_0) rfl rfl) ?_
 refine sc (A := (s₁.setTop (mkF m 1 #[vr x, vn lo, vn hi, uu, uu] [(.ref x)]))) ?_
 obtain ⟨cq1, kq1, q1a, q1b, q1c⟩ := isOf hZ e0 E_x
 obtain ⟨_, T1, Lc1, X1, hQ1, st1⟩ := own_c1 X0 <| X0.virtualBack hx (y := ym19) (z := ym19) hown (mvT hZ (hW 107 _ rfl)) (mvT hZ (hW 108 _ rfl)) (notFace_of_selects (args := #[]) (mvT hZ (hW 110 _ rfl))) (mvT hZ (hW 110 _ rfl)) (mvT hZ (hW 109 _ rfl)) (by decide) (backOf (W := 0) (rmLen l Z a0 hw [] x cs Gc h0 n0 XO0 Oc Pc S_x) hZ (hW 111 _ rfl) (hW 8 _ rfl) (by decide) (by decide)) q1a q1c (g := (mkF m 1 #[vr x, vn lo, vn hi, uu, uu] [(.ref x)])) rfl (by rw [hml]; rfl) (Steps.refl _) (argsL := []) (rest := []) (lenOf pd_8 rfl) rfl (Nat.le_of_eq rfl) (hb hby d20_1) (fun _ _ => ⟨rfl, e0, (by decide : 0 + 0 ≤ _), (by decide : 0 + 0 ≤ _)⟩)
 obtain ⟨rfl, Nq1, eh1⟩ := hQ1
 have N1 := Fr.app N0 Nq1
 refine oc (fun tt_ kk_ => st1.trans kk_) ?_
 refine ci (XS.istoreN X1.here hx rfl (hb hby d20_4) rfl (l' := #[vr x, vn lo, vn hi, vi (Int32.ofNat cs.length), uu]) rfl) ?_
 refine ci (XS.iloadN X1.here hx rfl (hb hby d20_5) rfl) ?_
 refine ci (XS.iloadN X1.here hx rfl (hb hby d20_6) rfl) ?_
 refine ci (XS.iloadN X1.here hx rfl (hb hby d20_7) rfl) ?_
 refine sc (A := (T1.setTop (mkF m 8 #[vr x, vn lo, vn hi, vi (Int32.ofNat cs.length), uu] [(.int (Int32.ofNat cs.length)), (.int (Int32.ofNat hi)), (.int (Int32.ofNat lo))]))) ?_
 obtain ⟨_, T2, Lc2, X2, hQ2, st2⟩ := own_c1 X1 <| Jvm.LawKit.callS X1 hx (y := ym21) hown (mvT hZ (hW 117 _ rfl)) (mvT hZ (hW 118 _ rfl)) (mvT hZ (hW 8 _ rfl)) (mvT hZ (hW 119 _ rfl)) (by decide) (backOf (W := 0) (rmBE l Z a0 hw [] (Int32.ofNat lo) (Int32.ofNat hi) (Int32.ofNat cs.length) fm h0 n0 XO0 (own_nn (by omega)) (fun q => by have := (own_nlt (by omega) (by omega)).mp q; omega) (fun q => by have := (own_nlt (by omega) (by omega)).mp q; omega) Of hfm) hZ (hW 119 _ rfl) (hW 8 _ rfl) (by decide) (by decide)) (g := (mkF m 8 #[vr x, vn lo, vn hi, vi (Int32.ofNat cs.length), uu] [(.int (Int32.ofNat cs.length)), (.int (Int32.ofNat hi)), (.int (Int32.ofNat lo))])) rfl (by rw [hml]; rfl) (argsL := [(.int (Int32.ofNat lo)), (.int (Int32.ofNat hi)), (.int (Int32.ofNat cs.length))]) (rest := []) (lenOf pd_19 rfl) rfl (Nat.le_of_eq rfl) (hb hby d20_8) (fun _ _ => ⟨rfl, eh1, (by decide : 0 + 0 ≤ _), (by decide : 0 + 0 ≤ _)⟩)
 obtain ⟨rfl, Nq2, eh2⟩ := hQ2
 have N2 := Fr.app N1 Nq2
 refine oc st2 ?_
 refine ci (XS.iloadN X2.here hx rfl (hb hby d20_11) rfl) ?_
 by_cases hb12_3 : (Int32.ofNat lo) = (0 : Int32)
 ·refine ci (XS.ifNo X2.here hx rfl (hb hby d20_12) rfl ((if0 _ _).trans (teq hb12_3).2)) ?_
  refine sc (A := (T2.setTop (mkF m 15 #[vr x, vn lo, vn hi, vi (Int32.ofNat cs.length), uu] []))) ?_
  refine ci (XS.iloadN X2.here hx rfl (hb hby d20_15) rfl) ?_
  refine ci (XS.iloadN X2.here hx rfl (hb hby d20_16) rfl) ?_
  by_cases hb17_4 : (Int32.ofNat hi) = (Int32.ofNat cs.length)
  ·refine ci (XS.icmpNo X2.here hx rfl (hb hby d20_17) rfl (teq hb17_4).2) ?_
   refine sc (A := (T2.setTop (mkF m 20 #[vr x, vn lo, vn hi, vi (Int32.ofNat cs.length), uu] []))) ?_
   refine ci (XS.aloadN X2.here hx rfl (hb hby d20_20) rfl rfl) ?_
   refine sc (A := (T2.setTop (mkF m 21 #[vr x, vn lo, vn hi, vi (Int32.ofNat cs.length), uu] [(.ref x)]))) ?_
   refine own_retc X2 hx hlk hS0 (by rw [eh2]; omega : 0 ≤ T2.heap.size) hZ hEL (by rw [eh2]; exact CH0) Bd.returns rfl (Or.inr (Or.inr (Or.inr (Or.inr ⟨rfl, rfl, rfl⟩)))) (hb hby d20_21) (by decide) (by decide) ?_
   rw [eh2]
   have e1_ := (own_neq (b := 0) (by omega) (by omega)).mp hb12_3
   have e2_ := (own_neq (by omega) (by omega)).mp hb17_4
   exact ⟨x, rfl, N2, K0_, by rw [e1_, e2_, own_sl_all]; exact S_x⟩
  ·refine ci (XS.icmpYes X2.here hx rfl (pc0 := 17) (pc' := 22) rfl (hb hby d20_17) rfl (feq hb17_4).2 (by decide) (by decide)) ?_
   refine sc (A := (T2.setTop (mkF m 22 #[vr x, vn lo, vn hi, vi (Int32.ofNat cs.length), uu] []))) ?_
   refine ci (XS.iloadN X2.here hx rfl (hb hby d20_22) rfl) ?_
   refine ci (XS.iloadN X2.here hx rfl (hb hby d20_23) rfl) ?_
   refine ci (XS.isub X2.here hx rfl (hb hby d20_24) rfl) ?_
   refine sc (A := (T2.setTop (mkF m 25 #[vr x, vn lo, vn hi, vi (Int32.ofNat cs.length), uu] [(.int ((Int32.ofNat hi) - (Int32.ofNat lo)))]))) ?_
   rw [own_nsub hlo]
   refine sc (A := (T2.setTop (mkF m 25 #[vr x, vn lo, vn hi, vi (Int32.ofNat cs.length), uu] [(.int (Int32.ofNat (hi - lo)))]))) ?_
   refine ci (XS.istore X2.here hx rfl (hb hby d20_25) rfl (l' := #[vr x, vn lo, vn hi, vi (Int32.ofNat cs.length), vn (hi - lo)]) rfl) ?_
   refine ci (XS.aloadN X2.here hx rfl (hb hby d20_27) rfl rfl) ?_
   refine sc (A := (T2.setTop (mkF m 28 #[vr x, vn lo, vn hi, vi (Int32.ofNat cs.length), vn (hi - lo)] [(.ref x)]))) ?_
   obtain ⟨cq5, kq5, q5a, q5b, q5c⟩ := isOf hZ eh2 E_x
   obtain ⟨_, T5, Lc5, X5, hQ5, st5⟩ := own_c1 X2 <| X2.virtualBack hx (y := ym15) (z := ym15) hown (mvT hZ (hW 90 _ rfl)) (mvT hZ (hW 91 _ rfl)) (notFace_of_selects (args := #[]) (mvT hZ (hW 93 _ rfl))) (mvT hZ (hW 93 _ rfl)) (mvT hZ (hW 92 _ rfl)) (by decide) (backOf (W := 0) (rmIL l Z a0 hw [] x cs Gc h0 n0 XO0 Oc Pc S_x) hZ (hW 94 _ rfl) (hW 8 _ rfl) (by decide) (by decide)) q5a q5c (g := (mkF m 28 #[vr x, vn lo, vn hi, vi (Int32.ofNat cs.length), vn (hi - lo)] [(.ref x)])) rfl (by rw [hml]; rfl) (Steps.refl _) (argsL := []) (rest := []) (lenOf pd_3 rfl) rfl (Nat.le_of_eq rfl) (hb hby d20_28) (fun _ _ => ⟨rfl, eh2, (by decide : 0 + 0 ≤ _), (by decide : 0 + 0 ≤ _)⟩)
   obtain ⟨rfl, Nq5, eh5⟩ := hQ5
   have N5 := Fr.app N2 Nq5
   refine oc (fun tt_ kk_ => st5.trans kk_) ?_
   have hb31_6 : ¬ ((1 : Int32) = (0 : Int32)) := by decide
   refine ci (XS.ifNo X5.here hx rfl (hb hby d20_31) rfl ((if0 _ _).trans (feq hb31_6).1)) ?_
   refine ci (XS.aloadN X5.here hx rfl (hb hby d20_34) rfl rfl) ?_
   obtain ⟨T7, X7, e7, st7⟩ := getF X5 hx hZ hown (host := "") (Or.inl (hW 33 _ rfl)) Via.refl eh5 F_x (g := (mkF m 35 #[vr x, vn lo, vn hi, vi (Int32.ofNat cs.length), vn (hi - lo)] [(.ref x)])) rfl rfl (hb hby d20_35)
   refine oc st7 ?_
   refine ci (XS.iloadN X7.here hx rfl (hb hby d20_38) rfl) ?_
   refine ci (XS.iload X7.here hx rfl (hb hby d20_39) rfl) ?_
   refine sc (A := (T7.setTop (mkF m 41 #[vr x, vn lo, vn hi, vi (Int32.ofNat cs.length), vn (hi - lo)] [(.int (Int32.ofNat (hi - lo))), (.int (Int32.ofNat lo)), (.ref t_x)]))) ?_
   obtain ⟨_, _, ⟨T8, L8, k8, n8⟩, -, Xr8, hSr8, hgr8, ⟨Lc8, hQ8, l8, y8, z8, CHs8⟩, st8⟩ := callSS X7 hx (y := ym47) hown (mvT hZ (hW 247 _ rfl)) (mvT hZ (hW 248 _ rfl)) (mvT hZ (hW 97 _ rfl)) (mvT hZ (hW 249 _ rfl)) (by decide) (backOfSH (W := 0) (rmNS l Z a0 hw [] t_x kb_x cs lo hi h0 n0 hEL XO0 V_x hc_x hl_x hlo hhi (fun q => hb17_4 ((own_neq (by omega) (by omega)).mpr q.2))) hZ (hW 249 _ rfl) (hW 97 _ rfl) (by decide) (by decide) hEL CH0.1) (g := (mkF m 41 #[vr x, vn lo, vn hi, vi (Int32.ofNat cs.length), vn (hi - lo)] [(.int (Int32.ofNat (hi - lo))), (.int (Int32.ofNat lo)), (.ref t_x)])) rfl (by rw [hml]; rfl) (argsL := [(.ref t_x), (.int (Int32.ofNat lo)), (.int (Int32.ofNat (hi - lo)))]) (rest := []) (lenOf pd_20 rfl) rfl (Nat.le_of_eq rfl) (hb hby d20_41) (fun _ _ => ⟨rfl, e7, (by decide : 0 + 2 ≤ _), (by decide : 0 + 26 ≤ _)⟩)
   dsimp only [Pt.U, Pt.locs, Pt.cells, Pt.slots] at Xr8 l8 y8 z8 st8 hQ8 hSr8 hgr8 CHs8
   obtain ⟨X8, hS8, hZ8, hown8⟩ := rebS hS0 (by rw [e7]; omega : 0 ≤ T7.heap.size) Xr8 hSr8 hgr8 hZ hown
   subst l8 y8 z8
   obtain ⟨y8, rfl, Nq8, Kp8, Sy8⟩ := hQ8
   have N8 := Fr.app N5 Nq8
   refine oc (fun tt_ kk_ => st8.trans kk_) ?_
   have CH8 := CH0.trans CHs8
   have sz8 : h0.size ≤ T8.heap.size := Kp8.1
   have O8 : Old Z n0 T8.heap := XO0.keep Kp8 all0
   have K8 : Keep h0 T8.heap [] := K0_.trans Kp8 all0
   refine ci (XS.goto X8.here hx rfl (pc0 := 44) (pc' := 57) rfl (hb hby d20_44) (by decide) (by decide)) ?_
   refine sc (A := (T8.setTop (mkF m 57 #[vr x, vn lo, vn hi, vi (Int32.ofNat cs.length), vn (hi - lo)] [(.ref y8)]))) ?_
   refine own_retc X8 hx hlk hS8 (by omega : T8.heap.size ≤ T8.heap.size) hZ8 hEL CH8 Bd.returns rfl (Or.inr (Or.inr (Or.inr (Or.inr ⟨rfl, rfl, rfl⟩)))) (hb hby d20_57) (by decide) (by decide) ?_
   skip
   exact ⟨y8, rfl, N8, K8, Sy8⟩
 ·refine ci (XS.ifYes X2.here hx rfl (pc0 := 12) (pc' := 22) rfl (hb hby d20_12) rfl ((if0 _ _).trans (feq hb12_3).2) (by decide) (by decide)) ?_
  refine sc (A := (T2.setTop (mkF m 22 #[vr x, vn lo, vn hi, vi (Int32.ofNat cs.length), uu] []))) ?_
  refine ci (XS.iloadN X2.here hx rfl (hb hby d20_22) rfl) ?_
  refine ci (XS.iloadN X2.here hx rfl (hb hby d20_23) rfl) ?_
  refine ci (XS.isub X2.here hx rfl (hb hby d20_24) rfl) ?_
  refine sc (A := (T2.setTop (mkF m 25 #[vr x, vn lo, vn hi, vi (Int32.ofNat cs.length), uu] [(.int ((Int32.ofNat hi) - (Int32.ofNat lo)))]))) ?_
  rw [own_nsub hlo]
  refine sc (A := (T2.setTop (mkF m 25 #[vr x, vn lo, vn hi, vi (Int32.ofNat cs.length), uu] [(.int (Int32.ofNat (hi - lo)))]))) ?_
  refine ci (XS.istore X2.here hx rfl (hb hby d20_25) rfl (l' := #[vr x, vn lo, vn hi, vi (Int32.ofNat cs.length), vn (hi - lo)]) rfl) ?_
  refine ci (XS.aloadN X2.here hx rfl (hb hby d20_27) rfl rfl) ?_
  refine sc (A := (T2.setTop (mkF m 28 #[vr x, vn lo, vn hi, vi (Int32.ofNat cs.length), vn (hi - lo)] [(.ref x)]))) ?_
  obtain ⟨cq9, kq9, q9a, q9b, q9c⟩ := isOf hZ eh2 E_x
  obtain ⟨_, T9, Lc9, X9, hQ9, st9⟩ := own_c1 X2 <| X2.virtualBack hx (y := ym15) (z := ym15) hown (mvT hZ (hW 90 _ rfl)) (mvT hZ (hW 91 _ rfl)) (notFace_of_selects (args := #[]) (mvT hZ (hW 93 _ rfl))) (mvT hZ (hW 93 _ rfl)) (mvT hZ (hW 92 _ rfl)) (by decide) (backOf (W := 0) (rmIL l Z a0 hw [] x cs Gc h0 n0 XO0 Oc Pc S_x) hZ (hW 94 _ rfl) (hW 8 _ rfl) (by decide) (by decide)) q9a q9c (g := (mkF m 28 #[vr x, vn lo, vn hi, vi (Int32.ofNat cs.length), vn (hi - lo)] [(.ref x)])) rfl (by rw [hml]; rfl) (Steps.refl _) (argsL := []) (rest := []) (lenOf pd_3 rfl) rfl (Nat.le_of_eq rfl) (hb hby d20_28) (fun _ _ => ⟨rfl, eh2, (by decide : 0 + 0 ≤ _), (by decide : 0 + 0 ≤ _)⟩)
  obtain ⟨rfl, Nq9, eh9⟩ := hQ9
  have N9 := Fr.app N2 Nq9
  refine oc (fun tt_ kk_ => st9.trans kk_) ?_
  have hb31_10 : ¬ ((1 : Int32) = (0 : Int32)) := by decide
  refine ci (XS.ifNo X9.here hx rfl (hb hby d20_31) rfl ((if0 _ _).trans (feq hb31_10).1)) ?_
  refine ci (XS.aloadN X9.here hx rfl (hb hby d20_34) rfl rfl) ?_
  obtain ⟨T11, X11, e11, st11⟩ := getF X9 hx hZ hown (host := "") (Or.inl (hW 33 _ rfl)) Via.refl eh9 F_x (g := (mkF m 35 #[vr x, vn lo, vn hi, vi (Int32.ofNat cs.length), vn (hi - lo)] [(.ref x)])) rfl rfl (hb hby d20_35)
  refine oc st11 ?_
  refine ci (XS.iloadN X11.here hx rfl (hb hby d20_38) rfl) ?_
  refine ci (XS.iload X11.here hx rfl (hb hby d20_39) rfl) ?_
  refine sc (A := (T11.setTop (mkF m 41 #[vr x, vn lo, vn hi, vi (Int32.ofNat cs.length), vn (hi - lo)] [(.int (Int32.ofNat (hi - lo))), (.int (Int32.ofNat lo)), (.ref t_x)]))) ?_
  obtain ⟨_, _, ⟨T12, L12, k12, n12⟩, -, Xr12, hSr12, hgr12, ⟨Lc12, hQ12, l12, y12, z12, CHs12⟩, st12⟩ := callSS X11 hx (y := ym47) hown (mvT hZ (hW 247 _ rfl)) (mvT hZ (hW 248 _ rfl)) (mvT hZ (hW 97 _ rfl)) (mvT hZ (hW 249 _ rfl)) (by decide) (backOfSH (W := 0) (rmNS l Z a0 hw [] t_x kb_x cs lo hi h0 n0 hEL XO0 V_x hc_x hl_x hlo hhi (fun q => hb12_3 ((own_neq (b := 0) (by omega) (by omega)).mpr q.1))) hZ (hW 249 _ rfl) (hW 97 _ rfl) (by decide) (by decide) hEL CH0.1) (g := (mkF m 41 #[vr x, vn lo, vn hi, vi (Int32.ofNat cs.length), vn (hi - lo)] [(.int (Int32.ofNat (hi - lo))), (.int (Int32.ofNat lo)), (.ref t_x)])) rfl (by rw [hml]; rfl) (argsL := [(.ref t_x), (.int (Int32.ofNat lo)), (.int (Int32.ofNat (hi - lo)))]) (rest := []) (lenOf pd_20 rfl) rfl (Nat.le_of_eq rfl) (hb hby d20_41) (fun _ _ => ⟨rfl, e11, (by decide : 0 + 2 ≤ _), (by decide : 0 + 26 ≤ _)⟩)
  dsimp only [Pt.U, Pt.locs, Pt.cells, Pt.slots] at Xr12 l12 y12 z12 st12 hQ12 hSr12 hgr12 CHs12
  obtain ⟨X12, hS12, hZ12, hown12⟩ := rebS hS0 (by rw [e11]; omega : 0 ≤ T11.heap.size) Xr12 hSr12 hgr12 hZ hown
  subst l12 y12 z12
  obtain ⟨y12, rfl, Nq12, Kp12, Sy12⟩ := hQ12
  have N12 := Fr.app N9 Nq12
  refine oc (fun tt_ kk_ => st12.trans kk_) ?_
  have CH12 := CH0.trans CHs12
  have sz12 : h0.size ≤ T12.heap.size := Kp12.1
  have O12 : Old Z n0 T12.heap := XO0.keep Kp12 all0
  have K12 : Keep h0 T12.heap [] := K0_.trans Kp12 all0
  refine ci (XS.goto X12.here hx rfl (pc0 := 44) (pc' := 57) rfl (hb hby d20_44) (by decide) (by decide)) ?_
  refine sc (A := (T12.setTop (mkF m 57 #[vr x, vn lo, vn hi, vi (Int32.ofNat cs.length), vn (hi - lo)] [(.ref y12)]))) ?_
  refine own_retc X12 hx hlk hS12 (by omega : T12.heap.size ≤ T12.heap.size) hZ12 hEL CH12 Bd.returns rfl (Or.inr (Or.inr (Or.inr (Or.inr ⟨rfl, rfl, rfl⟩)))) (hb hby d20_57) (by decide) (by decide) ?_
  skip
  exact ⟨y12, rfl, N12, K12, Sy12⟩
theorem ef_rmS1s (m : MethodId) (x0 : Nat) (x1 : Int32) : entryFrame m #[(.ref x0), (.int x1)] 2 = mkF m 0 #[vr x0, vi x1] [] := by first | (simp [entryFrame, mkF, argsToLocals, Value.category]; done) | rfl
theorem d18_0 : dk cD18 0 (.aload_n 0) 1 := by decide +kernel
theorem d18_1 : dk cD18 1 (.iload_n 1) 1 := by decide +kernel
theorem d18_2 : dk cD18 2 (.aload_n 0) 1 := by decide +kernel
theorem d18_3 : dk cD18 3 (.invokevirtual 505) 3 := by decide +kernel
theorem d18_6 : dk cD18 6 (.invokevirtual 681) 3 := by decide +kernel
theorem pd_21 : parseMethodDescriptor "(II)Ljava/lang/String;" = some ⟨[.int, .int], some (.object "java/lang/String")⟩ := by decide +kernel
theorem d18_9 : dk cD18 9 .areturn 1 := by decide +kernel
theorem rmS1s (l : Launch) (Z : State) (a0 : Array Value) (hw : ∀ d ∈ tables_1, d.before a0 Z = true) (ws : List Jvm.Cond) (x : Nat) (cs : List Int32) (lo : Nat) (Gc : Int32) (fm : Value) (h0 : Heap) (n0 : Nat) (hEL : EW Z a0 own_EL) (XO0 : Old Z n0 h0) (Oc : Sta Z Z.heap "java/lang/String" "COMPACT_STRINGS" "Z" (.int Gc)) (Pc : ¬ (Gc = (0 : Int32))) (Of : Sta Z Z.heap "jdk/internal/util/Preconditions" "SIOOBE_FORMATTER" "Ljava/util/function/BiFunction;" fm) (hfm : fm.isRef = true) (S_x : own_sr Z h0 x cs) (hlo : lo ≤ cs.length) :
  MetFree l ym18 (head1 (Jvm.Cond.code ym18 cD18 2 (some (.object "java/lang/String")) :: ws) (own_R 5 2 26 102)) (fun zz_ U => zz_ = #[(.ref x), (.int (Int32.ofNat lo))] ∧ Z.Warmed39 U.vm ∧ U.heap = h0 ∧ CHv Z own_EL U.vm h0) (fun _ _ _ _ _ => True) (fun _ U o U' => ∃ v L, o = .returned v ∧ Q_Sub Z cs lo cs.length h0 n0 v U'.heap L ∧ CHr Z own_EL U.vm U.heap U'.vm U'.heap ∧ ReturnedEndW U o U' L (own_R 5 2 26 102).cells (own_R 5 2 26 102).slots) := by
 refine MetFree.of_bodySF (plainFor_of_name pn_0) hisR ?_
 intro p e s m args below meth c s₁ Bd hml0 hP hK
 obtain ⟨rfl, hZ, hh, hCH⟩ := hP
 have hx := Bd.exec
 have hby := Bd.bytes
 have hlk := Bd.notSynchronized
 have hW : ∀ (i : Nat) (d : Jvm.Cond), tables_1[i]? = some d → d.before a0 Z = true := fun i d h => hw d (List.mem_of_getElem? h)
 have hml : c.maxLocals = 2 := hml0
 have hown : s.vm.findClass "java/lang/String" = some m.cls := findClass_of_methodNamed Bd.named
 have hnm := (name_of_methodNamed Bd.named Bd.method).1
 have X0 : Stand p l e (own_R 5 2 26 102) (s.setVm s.vm) m #[(.ref x), (.int (Int32.ofNat lo))] below meth c s₁ [] 0 0 := Stand.of_body Bd
 have e0 : s₁.heap = h0 := by rw [← hh, Bd.state]; rfl
 have N0 := Fr.nil n0
 have hS0 : s.Since s.vm 0 := (State.WarmedH.refl s).since 0
 have CH0 : CHr Z own_EL s.vm s.heap s.vm h0 := by rw [hh]; exact CHr.refl hCH
 refine own_inc ?_
 refine oc (fun tt_ kk_ => castTop (ef_rmS1s m x (Int32.ofNat lo)) kk_) ?_
 refine sc (A := (s₁.setTop (mkF m 0 #[vr x, vn lo] []))) ?_
 have K0_ : Keep h0 h0 [] := Keep.refl h0 []
 obtain ⟨hc_x, hl_x, t_x, kb_x, E_x, F_x, C_x, V_x⟩ := id S_x
 refine ci (XS.aloadN X0.here hx rfl (hb hby d18_0) rfl rfl) ?_
 refine ci (XS.iloadN X0.here hx rfl (hb hby d18_1) rfl) ?_
 refine ci (XS.aloadN X0.here hx rfl (hb hby d18_2) rfl rfl) ?_
 refine sc (A := (s₁.setTop (mkF m 3 #[vr x, vn lo] [(.ref x), (.int (Int32.ofNat lo)), (.ref x)]))) ?_
 obtain ⟨cq1, kq1, q1a, q1b, q1c⟩ := isOf hZ e0 E_x
 obtain ⟨_, T1, Lc1, X1, hQ1, st1⟩ := own_c1 X0 <| X0.virtualBack hx (y := ym19) (z := ym19) hown (mvT hZ (hW 107 _ rfl)) (mvT hZ (hW 108 _ rfl)) (notFace_of_selects (args := #[]) (mvT hZ (hW 110 _ rfl))) (mvT hZ (hW 110 _ rfl)) (mvT hZ (hW 109 _ rfl)) (by decide) (backOf (W := 2) (rmLen l Z a0 hw [] x cs Gc h0 n0 XO0 Oc Pc S_x) hZ (hW 111 _ rfl) (hW 8 _ rfl) (by decide) (by decide)) q1a q1c (g := (mkF m 3 #[vr x, vn lo] [(.ref x), (.int (Int32.ofNat lo)), (.ref x)])) rfl (by rw [hml]; rfl) (Steps.refl _) (argsL := []) (rest := [(.int (Int32.ofNat lo)), (.ref x)]) (lenOf pd_8 rfl) rfl (Nat.le_of_eq rfl) (hb hby d18_3) (fun _ _ => ⟨rfl, e0, (by decide : 0 + 0 ≤ _), (by decide : 0 + 0 ≤ _)⟩)
 obtain ⟨rfl, Nq1, eh1⟩ := hQ1
 have N1 := Fr.app N0 Nq1
 refine oc (fun tt_ kk_ => st1.trans kk_) ?_
 refine sc (A := (T1.setTop (mkF m 6 #[vr x, vn lo] [(.int (Int32.ofNat cs.length)), (.int (Int32.ofNat lo)), (.ref x)]))) ?_
 obtain ⟨cq2, kq2, q2a, q2b, q2c⟩ := isOf hZ eh1 E_x
 obtain ⟨_, _, ⟨T2, L2, k2, n2⟩, -, Xr2, hSr2, hgr2, ⟨Lc2, hQ2, l2, y2, z2, CHs2⟩, st2⟩ := X1.virtualBackS hx (y := ym20) (z := ym20) hown (mvT hZ (hW 112 _ rfl)) (mvT hZ (hW 113 _ rfl)) (notFace_of_selects (args := #[]) (mvT hZ (hW 115 _ rfl))) (mvT hZ (hW 115 _ rfl)) (mvT hZ (hW 114 _ rfl)) (by decide) (backOfSH (W := 0) (rmSu l Z a0 hw [] x cs lo cs.length Gc fm h0 n0 hEL XO0 Oc Pc Of hfm S_x hlo (Nat.le_refl _)) hZ (hW 116 _ rfl) (hW 8 _ rfl) (by decide) (by decide) hEL CH0.1) q2a q2c (g := (mkF m 6 #[vr x, vn lo] [(.int (Int32.ofNat cs.length)), (.int (Int32.ofNat lo)), (.ref x)])) rfl (by rw [hml]; rfl) (Steps.refl _) (argsL := [(.int (Int32.ofNat lo)), (.int (Int32.ofNat cs.length))]) (rest := []) (lenOf pd_21 rfl) rfl (Nat.le_of_eq rfl) (hb hby d18_6) (fun _ _ => ⟨rfl, eh1, (by decide : 0 + 2 ≤ _), (by decide : 0 + 26 ≤ _)⟩)
 dsimp only [Pt.U, Pt.locs, Pt.cells, Pt.slots] at Xr2 l2 y2 z2 st2 hQ2 hSr2 hgr2 CHs2
 obtain ⟨X2, hS2, hZ2, hown2⟩ := rebS hS0 (by rw [eh1]; omega : 0 ≤ T1.heap.size) Xr2 hSr2 hgr2 hZ hown
 subst l2 y2 z2
 obtain ⟨y2, rfl, Nq2, Kp2, Sy2⟩ := hQ2
 have N2 := Fr.app N1 Nq2
 refine oc (fun tt_ kk_ => st2.trans kk_) ?_
 have CH2 := CH0.trans CHs2
 have sz2 : h0.size ≤ T2.heap.size := Kp2.1
 have O2 : Old Z n0 T2.heap := XO0.keep Kp2 all0
 have K2 : Keep h0 T2.heap [] := K0_.trans Kp2 all0
 have Ex_y2 := Sy2.exa
 refine sc (A := (T2.setTop (mkF m 9 #[vr x, vn lo] [(.ref y2)]))) ?_
 refine own_retc X2 hx hlk hS2 (by omega : T2.heap.size ≤ T2.heap.size) hZ2 hEL CH2 Bd.returns rfl (Or.inr (Or.inr (Or.inr (Or.inr ⟨rfl, rfl, rfl⟩)))) (hb hby d18_9) (by decide) (by decide) ?_
 skip
 exact ⟨y2, rfl, N2, K2, Sy2⟩
theorem ef_rmABC (m : MethodId) (x0 : Nat) : entryFrame m #[(.ref x0)] 1 = mkF m 0 #[vr x0] [] := by first | (simp [entryFrame, mkF, argsToLocals, Value.category]; done) | rfl
theorem pn_5 : plainName "java/util/AbstractCollection" = true := by first | (simp [plainName, overriddenIn]; done) | decide +kernel
theorem d12_0 : dk cD12 0 (.aload_n 0) 1 := by decide +kernel
theorem d12_1 : dk cD12 1 (.invokespecial 1) 3 := by decide +kernel
theorem d12_4 : dk cD12 4 .return_ 1 := by decide +kernel
def Q_rmABC (Z : State) (la : Nat) (h0 : Heap) (n0 : Nat) (v : Option Value) (h : Heap) (L : List Loc) : Prop := v = none ∧ Fr n0 L ∧ h = h0
theorem rmABC (l : Launch) (Z : State) (a0 : Array Value) (hw : own_H Z a0) (ws : List Jvm.Cond) (la : Nat) (h0 : Heap) (n0 : Nat) (XO0 : Old Z n0 h0) :
  own_M l Z ym12 cD12 ws 1 none (own_R 1 0 0 12) #[(.ref la)] h0 (Q_rmABC Z la h0 n0) := by
 refine own_open (plainFor_of_name pn_5) ?_
 intro p e s m below meth c s₁ hx hby hlk hret hml hown hnm hZ X0 e0
 have hW := own_hW hw
 have N0 := Fr.nil n0
 refine oo (fun tt_ kk_ => castTop (ef_rmABC m la) kk_) ?_
 refine so (A := (s₁.setTop (mkF m 0 #[vr la] []))) ?_
 refine oi (XS.aloadN X0.here hx rfl (hb hby d12_0) rfl rfl) ?_
 obtain ⟨T1, X1, e1, st1⟩ := initO X0 hx hZ hown (hW 63 _ rfl) (hW 17 _ rfl) (hW 18 _ rfl) e0 (g := (mkF m 1 #[vr la] [(.ref la)])) rfl (by rw [hml]; rfl) rfl (hb hby d12_1) (by decide) (W := 0) (Nat.le_of_eq rfl) (by decide)
 refine oo st1 ?_
 refine so (A := (T1.setTop (mkF m 4 #[vr la] []))) ?_
 refine own_retV X1 hx hlk hret (hb hby d12_4) (by decide) (by decide) ?_
 rw [e1]
 exact ⟨rfl, N0, rfl⟩
theorem ef_rmABL (m : MethodId) (x0 : Nat) : entryFrame m #[(.ref x0)] 1 = mkF m 0 #[vr x0] [] := by first | (simp [entryFrame, mkF, argsToLocals, Value.category]; done) | rfl
theorem pn_6 : plainName "java/util/AbstractList" = true := by first | (simp [plainName, overriddenIn]; done) | decide +kernel
theorem d11_0 : dk cD11 0 (.aload_n 0) 1 := by decide +kernel
theorem d11_1 : dk cD11 1 (.invokespecial 1) 3 := by decide +kernel
theorem pd_22 : parseMethodDescriptor "()V" = some ⟨[], none⟩ := by decide +kernel
theorem d11_4 : dk cD11 4 (.aload_n 0) 1 := by decide +kernel
theorem d11_5 : dk cD11 5 (.iconst 0) 1 := by decide +kernel
theorem d11_6 : dk cD11 6 (.putfield 7) 3 := by decide +kernel
theorem pf_2 : parseFieldDescriptor "I" = some .int := by decide +kernel
theorem d11_9 : dk cD11 9 .return_ 1 := by decide +kernel
theorem pf_3 : parseFieldDescriptor "[Ljava/lang/Object;" = some (.array (.object "java/lang/Object")) := by decide +kernel
def Q_rmABL (Z : State) (la : Nat) (h0 : Heap) (n0 : Nat) (v : Option Value) (h : Heap) (L : List Loc) : Prop := v = none ∧ Fr n0 L ∧ Keep h0 h [la] ∧ Exa Z h la "java/util/ArrayList" ∧ Fld Z h la "java/util/ArrayList" "elementData" "[Ljava/lang/Object;" .null ∧ Fld Z h la "java/util/ArrayList" "size" "I" (.int 0) ∧ Fld Z h la "java/util/AbstractList" "modCount" "I" (.int 0)
theorem rmABL (l : Launch) (Z : State) (a0 : Array Value) (hw : own_H Z a0) (ws : List Jvm.Cond) (la : Nat) (h0 : Heap) (n0 : Nat) (XO0 : Old Z n0 h0) (g_l : n0 ≤ la) (E_l : Exa Z h0 la "java/util/ArrayList") (F_e : Fld Z h0 la "java/util/ArrayList" "elementData" "[Ljava/lang/Object;" .null) (F_z : Fld Z h0 la "java/util/ArrayList" "size" "I" (.int 0)) (F_m : Fld Z h0 la "java/util/AbstractList" "modCount" "I" (.int 0)) :
  own_M l Z ym11 cD11 ws 1 none (own_R 2 0 0 24) #[(.ref la)] h0 (Q_rmABL Z la h0 n0) := by
 refine own_open (plainFor_of_name pn_6) ?_
 intro p e s m below meth c s₁ hx hby hlk hret hml hown hnm hZ X0 e0
 have hW := own_hW hw
 have N0 := Fr.nil n0
 refine oo (fun tt_ kk_ => castTop (ef_rmABL m la) kk_) ?_
 refine so (A := (s₁.setTop (mkF m 0 #[vr la] []))) ?_
 have K0_ : Keep h0 h0 [la] := Keep.refl h0 [la]
 have lt_la := olt E_l.lt
 refine oi (XS.aloadN X0.here hx rfl (hb hby d11_0) rfl rfl) ?_
 refine so (A := (s₁.setTop (mkF m 1 #[vr la] [(.ref la)]))) ?_
 obtain ⟨_, T1, Lc1, X1, hQ1, st1⟩ := own_c1 X0 <| X0.specialBack hx (y := ym12) rfl hown (mvT hZ (hW 57 _ rfl)) (mvT hZ (hW 58 _ rfl)) (mvT hZ (hW 62 _ rfl)) (by decide) (backOf (W := 0) (rmABC l Z a0 hw [] la h0 n0 XO0 ) hZ (hW 62 _ rfl) (hW 61 _ rfl) (by decide) (by decide)) (g := (mkF m 1 #[vr la] [(.ref la)])) rfl (by rw [hml]; rfl) (Steps.refl _) (a := la) (argsL := []) (rest := []) (lenOf pd_22 rfl) rfl (Nat.le_of_eq rfl) (hb hby d11_1) (fun _ _ => ⟨rfl, e0, (by decide : 0 + 0 ≤ _), (by decide : 0 + 0 ≤ _)⟩)
 obtain ⟨rfl, Nq1, eh1⟩ := hQ1
 have N1 := Fr.app N0 Nq1
 refine oo (fun tt_ kk_ => st1.trans kk_) ?_
 refine oi (XS.aloadN X1.here hx rfl (hb hby d11_4) rfl rfl) ?_
 refine oi (XS.iconst X1.here hx rfl (hb hby d11_5)) ?_
 obtain ⟨T2, h2, X2, e2, W2, st2⟩ := putF X1 hx hZ hown (host := "") (Or.inl (hW 64 _ rfl)) Via.refl eh1 F_m E_l (Or.inl (hW 65 _ rfl)) (hW 46 _ rfl) (ty := .int) pf_2 rfl rfl (g := (mkF m 6 #[vr la] [(.int 0), (.ref la)])) rfl rfl (hb hby d11_6)
 refine oo st2 ?_
 have N2 := Fr.snoc X2 N1 (by omega : n0 ≤ la)
 have sz2 : h2.size = h0.size := W2.size
 have O2 : Old Z n0 h2 := XO0.wr W2 (by omega)
 have K2 : Keep h0 h2 [la] := K0_.wr W2 (Or.inl (List.mem_of_getElem? (i := 0) rfl))
 have Fw2 := F_m.same W2
 refine so (A := (T2.setTop (mkF m 9 #[vr la] []))) ?_
 refine own_retV X2 hx hlk hret (hb hby d11_9) (by decide) (by decide) ?_
 rw [e2]
 have f3 : Exa Z h2 la "java/util/ArrayList" := (E_l.wr W2)
 have f4 : Fld Z h2 la "java/util/ArrayList" "elementData" "[Ljava/lang/Object;" .null := (F_e.other W2 (Or.inr (slot_ne (Or.inl (hW 68 _ rfl)) (Or.inl (hW 65 _ rfl)) (by decide) pf_3 pf_2)))
 have f5 : Fld Z h2 la "java/util/ArrayList" "size" "I" (.int 0) := (F_z.other W2 (Or.inr (slot_ne (Or.inl (hW 137 _ rfl)) (Or.inl (hW 65 _ rfl)) (by decide) pf_2 pf_2)))
 exact ⟨rfl, N2, K2, f3, f4, f5, Fw2⟩
theorem ef_rmLI (m : MethodId) (x0 : Nat) : entryFrame m #[(.ref x0)] 1 = mkF m 0 #[vr x0] [] := by first | (simp [entryFrame, mkF, argsToLocals, Value.category]; done) | rfl
theorem pn_7 : plainName "java/util/ArrayList" = true := by first | (simp [plainName, overriddenIn]; done) | decide +kernel
theorem d10_0 : dk cD10 0 (.aload_n 0) 1 := by decide +kernel
theorem d10_1 : dk cD10 1 (.invokespecial 1) 3 := by decide +kernel
theorem d10_4 : dk cD10 4 (.aload_n 0) 1 := by decide +kernel
theorem d10_5 : dk cD10 5 (.getstatic 39) 3 := by decide +kernel
theorem d10_8 : dk cD10 8 (.putfield 9) 3 := by decide +kernel
theorem d10_11 : dk cD10 11 .return_ 1 := by decide +kernel
def Q_rmLI (Z : State) (la : Nat) (dq : Nat) (kd : ClassId) (h0 : Heap) (n0 : Nat) (v : Option Value) (h : Heap) (L : List Loc) : Prop := v = none ∧ Fr n0 L ∧ Keep h0 h [la] ∧ own_al Z h dq n0 la dq kd [] (0 : Int32)
theorem rmLI (l : Launch) (Z : State) (a0 : Array Value) (hw : own_H Z a0) (ws : List Jvm.Cond) (la : Nat) (dq : Nat) (kd : ClassId) (h0 : Heap) (n0 : Nat) (XO0 : Old Z n0 h0) (g_l : n0 ≤ la) (S_d : Sta Z Z.heap "java/util/ArrayList" "DEFAULTCAPACITY_EMPTY_ELEMENTDATA" "[Ljava/lang/Object;" (.ref dq)) (V_d : Arv Z Z.heap dq kd (.object "java/lang/Object") (0 : Int32) [] .null) (E_d : Exa Z Z.heap dq "[Ljava/lang/Object;") (l_d : dq < n0) (E_l : Exa Z h0 la "java/util/ArrayList") (F_e : Fld Z h0 la "java/util/ArrayList" "elementData" "[Ljava/lang/Object;" .null) (F_z : Fld Z h0 la "java/util/ArrayList" "size" "I" (.int 0)) (F_m : Fld Z h0 la "java/util/AbstractList" "modCount" "I" (.int 0)) :
  own_M l Z ym10 cD10 ws 1 none (own_R 3 0 0 36) #[(.ref la)] h0 (Q_rmLI Z la dq kd h0 n0) := by
 refine own_open (plainFor_of_name pn_7) ?_
 intro p e s m below meth c s₁ hx hby hlk hret hml hown hnm hZ X0 e0
 have hW := own_hW hw
 have N0 := Fr.nil n0
 refine oo (fun tt_ kk_ => castTop (ef_rmLI m la) kk_) ?_
 refine so (A := (s₁.setTop (mkF m 0 #[vr la] []))) ?_
 have K0_ : Keep h0 h0 [la] := Keep.refl h0 [la]
 have lt_la := olt E_l.lt
 refine oi (XS.aloadN X0.here hx rfl (hb hby d10_0) rfl rfl) ?_
 refine so (A := (s₁.setTop (mkF m 1 #[vr la] [(.ref la)]))) ?_
 obtain ⟨_, T1, Lc1, X1, hQ1, st1⟩ := own_c1 X0 <| X0.specialBack hx (y := ym11) rfl hown (mvT hZ (hW 51 _ rfl)) (mvT hZ (hW 52 _ rfl)) (mvT hZ (hW 56 _ rfl)) (by decide) (backOf (W := 0) (rmABL l Z a0 hw [] la h0 n0 XO0 g_l E_l F_e F_z F_m) hZ (hW 56 _ rfl) (hW 55 _ rfl) (by decide) (by decide)) (g := (mkF m 1 #[vr la] [(.ref la)])) rfl (by rw [hml]; rfl) (Steps.refl _) (a := la) (argsL := []) (rest := []) (lenOf pd_22 rfl) rfl (Nat.le_of_eq rfl) (hb hby d10_1) (fun _ _ => ⟨rfl, e0, (by decide : 0 + 0 ≤ _), (by decide : 0 + 0 ≤ _)⟩)
 obtain ⟨rfl, Nq1, Kp1, El1, Fe1, Fz1, Fm1⟩ := hQ1
 have N1 := Fr.app N0 Nq1
 refine oo (fun tt_ kk_ => st1.trans kk_) ?_
 have sz1 : h0.size ≤ T1.heap.size := Kp1.1
 have O1 : Old Z n0 T1.heap := XO0.keep Kp1 (allS (by omega) all0)
 have K1 : Keep h0 T1.heap [la] := K0_.trans Kp1 (allS (Or.inl (List.mem_of_getElem? (i := 0) rfl)) all0)
 refine oi (XS.aloadN X1.here hx rfl (hb hby d10_4) rfl rfl) ?_
 obtain ⟨T2, X2, e2, st2⟩ := getS2 X1 hx hZ hown (host := "") (Or.inl (hW 66 _ rfl)) Via.refl rfl (S_d.ext O1.2) (g := (mkF m 5 #[vr la] [(.ref la)])) rfl (hb hby d10_5)
 refine oo st2 ?_
 obtain ⟨T3, h3, X3, e3, W3, st3⟩ := putF X2 hx hZ hown (host := "") (Or.inl (hW 67 _ rfl)) Via.refl e2 Fe1 El1 (Or.inl (hW 68 _ rfl)) (hW 46 _ rfl) (ty := (.array (.object "java/lang/Object"))) pf_3 rfl rfl (g := (mkF m 8 #[vr la] [(.ref dq), (.ref la)])) rfl rfl (hb hby d10_8)
 refine oo st3 ?_
 have N3 := Fr.snoc X3 N1 (by omega : n0 ≤ la)
 have sz3 : h3.size = T1.heap.size := W3.size
 have O3 : Old Z n0 h3 := O1.wr W3 (by omega)
 have K3 : Keep h0 h3 [la] := K1.wr W3 (Or.inl (List.mem_of_getElem? (i := 0) rfl))
 have Fw3 := Fe1.same W3
 refine so (A := (T3.setTop (mkF m 11 #[vr la] []))) ?_
 refine own_retV X3 hx hlk hret (hb hby d10_11) (by decide) (by decide) ?_
 rw [e3]
 have f4 : Exa Z h3 la "java/util/ArrayList" := (El1.wr W3)
 have f5 : Fld Z h3 la "java/util/ArrayList" "size" "I" (.int 0) := (Fz1.other W3 (Or.inr (slot_ne (Or.inl (hW 137 _ rfl)) (Or.inl (hW 68 _ rfl)) (by decide) pf_2 pf_3)))
 have f6 : Fld Z h3 la "java/util/AbstractList" "modCount" "I" (.int 0) := (Fm1.other W3 (Or.inr (slot_ne (Or.inl (hW 65 _ rfl)) (Or.inl (hW 68 _ rfl)) (by decide) pf_2 pf_3)))
 have f7 : Exa Z h3 dq "[Ljava/lang/Object;" := E_d.ext O3.2
 have f8 : Arv Z h3 dq kd (.object "java/lang/Object") (0 : Int32) [] .null := V_d.ext O3.2
 exact ⟨rfl, N3, K3, f4, Fw3, f5, f6, f7, Or.inl ⟨rfl, rfl, f8⟩⟩
theorem ef_rmGrI (m : MethodId) (x0 : Nat) (x1 : Int32) : entryFrame m #[(.ref x0), (.int x1)] 4 = mkF m 0 #[vr x0, vi x1, uu, uu] [] := by first | (simp [entryFrame, mkF, argsToLocals, Value.category]; done) | rfl
theorem d26_0 : dk cD26 0 (.aload_n 0) 1 := by decide +kernel
theorem d26_1 : dk cD26 1 (.getfield 9) 3 := by decide +kernel
theorem d26_4 : dk cD26 4 .arraylength 1 := by decide +kernel
theorem d26_5 : dk cD26 5 (.istore_n 2) 1 := by decide +kernel
theorem d26_6 : dk cD26 6 (.iload_n 2) 1 := by decide +kernel
theorem d26_7 : dk cD26 7 (.ifCond .gt 13) 3 := by decide +kernel
theorem d26_10 : dk cD26 10 (.aload_n 0) 1 := by decide +kernel
theorem d26_11 : dk cD26 11 (.getfield 9) 3 := by decide +kernel
theorem d26_14 : dk cD26 14 (.getstatic 39) 3 := by decide +kernel
theorem d26_17 : dk cD26 17 (.if_acmp .eq 28) 3 := by decide +kernel
theorem d26_45 : dk cD26 45 (.aload_n 0) 1 := by decide +kernel
theorem d26_46 : dk cD26 46 (.bipush 10) 2 := by decide +kernel
theorem d26_48 : dk cD26 48 (.iload_n 1) 1 := by decide +kernel
theorem d26_49 : dk cD26 49 (.invokestatic 79) 3 := by decide +kernel
theorem d26_52 : dk cD26 52 (.anewarray 7) 3 := by decide +kernel
theorem d26_55 : dk cD26 55 .dup_x1 1 := by decide +kernel
theorem d26_56 : dk cD26 56 (.putfield 9) 3 := by decide +kernel
theorem d26_59 : dk cD26 59 .areturn 1 := by decide +kernel
def Q_rmGrI (Z : State) (la : Nat) (dq : Nat) (kd : ClassId) (mc : Int32) (h0 : Heap) (n0 : Nat) (v : Option Value) (h : Heap) (L : List Loc) : Prop := ∃ (e2 : Nat) (k2 : ClassId), v = some (.ref e2) ∧ Fr n0 L ∧ Keep h0 h [la] ∧ h0.size ≤ e2 ∧ e2 < h.size ∧ Exa Z h la "java/util/ArrayList" ∧ Fld Z h la "java/util/ArrayList" "elementData" "[Ljava/lang/Object;" (.ref e2) ∧ Fld Z h la "java/util/ArrayList" "size" "I" (.int 0) ∧ Fld Z h la "java/util/AbstractList" "modCount" "I" (.int mc) ∧ Arv Z h e2 k2 (.object "java/lang/Object") (10 : Int32) ([]) .null ∧ Ovr Z k2 "java/lang/Object" ∧ Exa Z h e2 "[Ljava/lang/Object;"
theorem rmGrI (l : Launch) (Z : State) (a0 : Array Value) (hw : own_H Z a0) (ws : List Jvm.Cond) (la : Nat) (dq : Nat) (kd : ClassId) (mc : Int32) (h0 : Heap) (n0 : Nat) (XO0 : Old Z n0 h0) (g_l : n0 ≤ la) (S_d : Sta Z Z.heap "java/util/ArrayList" "DEFAULTCAPACITY_EMPTY_ELEMENTDATA" "[Ljava/lang/Object;" (.ref dq)) (V_d : Arv Z Z.heap dq kd (.object "java/lang/Object") (0 : Int32) [] .null) (E_d : Exa Z Z.heap dq "[Ljava/lang/Object;") (l_d : dq < n0) (E_l : Exa Z h0 la "java/util/ArrayList") (F_e : Fld Z h0 la "java/util/ArrayList" "elementData" "[Ljava/lang/Object;" (.ref dq)) (F_z : Fld Z h0 la "java/util/ArrayList" "size" "I" (.int 0)) (F_m : Fld Z h0 la "java/util/AbstractList" "modCount" "I" (.int mc)) :
  own_M l Z ym26 cD26 ws 4 (some (.array (.object "java/lang/Object"))) (own_R 1 1 10 14) #[(.ref la), (.int 1)] h0 (Q_rmGrI Z la dq kd mc h0 n0) := by
 refine own_open (plainFor_of_name pn_7) ?_
 intro p e s m below meth c s₁ hx hby hlk hret hml hown hnm hZ X0 e0
 have hW := own_hW hw
 have N0 := Fr.nil n0
 refine oo (fun tt_ kk_ => castTop (ef_rmGrI m la (1 : Int32)) kk_) ?_
 refine so (A := (s₁.setTop (mkF m 0 #[vr la, vi 1, uu, uu] []))) ?_
 have K0_ : Keep h0 h0 [la] := Keep.refl h0 [la]
 have lt_la := olt E_l.lt
 refine oi (XS.aloadN X0.here hx rfl (hb hby d26_0) rfl rfl) ?_
 obtain ⟨T1, X1, e1, st1⟩ := getF X0 hx hZ hown (host := "") (Or.inl (hW 67 _ rfl)) Via.refl e0 F_e (g := (mkF m 1 #[vr la, vi 1, uu, uu] [(.ref la)])) rfl rfl (hb hby d26_1)
 refine oo st1 ?_
 have f2 : Arv Z h0 dq kd (.object "java/lang/Object") (0 : Int32) [] .null := V_d.ext XO0.2
 obtain ⟨cl3, Ar3, q3, S3, Ng3, H3, G3⟩ := id f2
 refine oo (fun tt_ kk => X1.arraylength hx (by rw [e1]; exact Ar3.1) (State.isArrayOf_alike hZ.alike Ar3.2.1) (g := (mkF m 4 #[vr la, vi 1, uu, uu] [(.ref dq)])) rfl rfl (hb hby d26_4) _ (by rw [len_of S3 Ng3]; exact kk)) ?_
 refine oi (XS.istoreN X1.here hx rfl (hb hby d26_5) rfl (l' := #[vr la, vi 1, vz, uu]) rfl) ?_
 refine oi (XS.iloadN X1.here hx rfl (hb hby d26_6) rfl) ?_
 have hb7_4 : ¬ ((0 : Int32) < (0 : Int32)) := by decide
 refine oi (XS.ifNo X1.here hx rfl (hb hby d26_7) rfl ((if0 _ _).trans (flt hb7_4).2.2.1)) ?_
 refine oi (XS.aloadN X1.here hx rfl (hb hby d26_10) rfl rfl) ?_
 obtain ⟨T5, X5, e5, st5⟩ := getF X1 hx hZ hown (host := "") (Or.inl (hW 67 _ rfl)) Via.refl e1 F_e (g := (mkF m 11 #[vr la, vi 1, vz, uu] [(.ref la)])) rfl rfl (hb hby d26_11)
 refine oo st5 ?_
 obtain ⟨T6, X6, e6, st6⟩ := getS2 X5 hx hZ hown (host := "") (Or.inl (hW 66 _ rfl)) Via.refl e5 (S_d.ext XO0.2) (g := (mkF m 14 #[vr la, vi 1, vz, uu] [(.ref dq)])) rfl (hb hby d26_14)
 refine oo st6 ?_
 refine oo (fun _ => Jvm.RoadKit.acmp (g := (mkF m 17 #[vr la, vi 1, vz, uu] [(.ref dq), (.ref dq)])) X6 hx rfl rfl rfl (pc0 := 17) (pc' := 45) (same := true) rfl (hb hby d26_17) rfl (decide_eq_true rfl) (by decide) (by decide)) ?_
 refine oi (XS.aloadN X6.here hx rfl (hb hby d26_45) rfl rfl) ?_
 refine oi (XS.bipush X6.here hx rfl (hb hby d26_46)) ?_
 refine oi (XS.iloadN X6.here hx rfl (hb hby d26_48) rfl) ?_
 refine so (A := (T6.setTop (mkF m 49 #[vr la, vi 1, vz, uu] [(.int 1), (.int 10), (.ref la)]))) ?_
 obtain ⟨_, T7, Lc7, X7, hQ7, st7⟩ := own_c1 X6 <| Jvm.LawKit.callS X6 hx (y := ym27) hown (mvT hZ (hW 153 _ rfl)) (mvT hZ (hW 154 _ rfl)) (mvT hZ (hW 155 _ rfl)) (mvT hZ (hW 156 _ rfl)) (by decide) (backOf (W := 1) (rmMx l Z a0 hw [] (10 : Int32) (1 : Int32) h0 n0 XO0 (by decide)) hZ (hW 156 _ rfl) (hW 155 _ rfl) (by decide) (by decide)) (g := (mkF m 49 #[vr la, vi 1, vz, uu] [(.int 1), (.int 10), (.ref la)])) rfl (by rw [hml]; rfl) (argsL := [(.int 10), (.int 1)]) (rest := [(.ref la)]) (lenOf pd_6 rfl) rfl (Nat.le_of_eq rfl) (hb hby d26_49) (fun _ _ => ⟨rfl, e6, (by decide : 0 + 0 ≤ _), (by decide : 0 + 0 ≤ _)⟩)
 obtain ⟨rfl, Nq7, eh7⟩ := hQ7
 have N7 := Fr.app N0 Nq7
 refine oo st7 ?_
 obtain ⟨T8, h8, k8, X8, e8, E8, A8, Ea8, Ov8, st8⟩ := newRE X7 hx hZ hown (hW 157 _ rfl) (hW 158 _ rfl) eh7 (g := (mkF m 52 #[vr la, vi 1, vz, uu] [(.int 10), (.ref la)])) rfl (hb hby d26_52) rfl (by decide) (cap := 10) (by decide) (by decide) (by decide) (by decide) rfl
 obtain ⟨b8, g8⟩ : ∃ z, z = h0.size := ⟨_, rfl⟩
 rw [← g8] at A8 Ea8 st8
 refine oo st8 ?_
 have lt8 := olt A8.lt
 have sz8 : h0.size ≤ h8.size := E8.1
 have O8 : Old Z n0 h8 := XO0.ext E8
 have z8 : n0 ≤ b8 := by have := XO0.1 ▸ XO0.2.1; omega
 have K8 : Keep h0 h8 [la] := K0_.ext E8
 have V8 : Arv Z h8 b8 k8 (.object "java/lang/Object") (10 : Int32) [] .null := Arv.new A8 (by decide)
 refine oi (XS.dupX1 X8.here hx rfl (hb hby d26_55) rfl rfl rfl) ?_
 have f9 : Exa Z h8 la "java/util/ArrayList" := (E_l.ext E8)
 have f10 : Fld Z h8 la "java/util/ArrayList" "elementData" "[Ljava/lang/Object;" (.ref dq) := (F_e.ext E8)
 obtain ⟨T11, h11, X11, e11, W11, st11⟩ := putF X8 hx hZ hown (host := "") (Or.inl (hW 67 _ rfl)) Via.refl e8 f10 f9 (Or.inl (hW 68 _ rfl)) (hW 46 _ rfl) (ty := (.array (.object "java/lang/Object"))) pf_3 rfl rfl (g := (mkF m 56 #[vr la, vi 1, vz, uu] [(.ref b8), (.ref la), (.ref b8)])) rfl rfl (hb hby d26_56)
 refine oo st11 ?_
 have N11 := Fr.snoc X11 N7 (by omega : n0 ≤ la)
 have sz11 : h11.size = h8.size := W11.size
 have O11 : Old Z n0 h11 := O8.wr W11 (by omega)
 have K11 : Keep h0 h11 [la] := K8.wr W11 (Or.inl (List.mem_of_getElem? (i := 0) rfl))
 have Fw11 := f10.same W11
 refine so (A := (T11.setTop (mkF m 59 #[vr la, vi 1, vz, uu] [(.ref b8)]))) ?_
 refine own_ret X11 hx hlk hret rfl (Or.inr (Or.inr (Or.inr (Or.inr ⟨rfl, rfl, rfl⟩)))) (hb hby d26_59) (by decide) (by decide) ?_
 rw [e11]
 have f12 : Exa Z h11 la "java/util/ArrayList" := (f9.wr W11)
 have f13 : Fld Z h11 la "java/util/ArrayList" "size" "I" (.int 0) := ((F_z.ext E8).other W11 (Or.inr (slot_ne (Or.inl (hW 137 _ rfl)) (Or.inl (hW 68 _ rfl)) (by decide) pf_2 pf_3)))
 have f14 : Fld Z h11 la "java/util/AbstractList" "modCount" "I" (.int mc) := ((F_m.ext E8).other W11 (Or.inr (slot_ne (Or.inl (hW 65 _ rfl)) (Or.inl (hW 68 _ rfl)) (by decide) pf_2 pf_3)))
 have f15 : Arv Z h11 b8 k8 (.object "java/lang/Object") (10 : Int32) [] .null := (V8.other W11 (one (by omega)))
 have f16 : Exa Z h11 b8 "[Ljava/lang/Object;" := (Ea8.wr W11)
 exact ⟨b8, k8, rfl, N11, K11, by omega, by omega, f12, Fw11, f13, f14, f15, Ov8, f16⟩
theorem ef_rmGr (m : MethodId) (x0 : Nat) : entryFrame m #[(.ref x0)] 1 = mkF m 0 #[vr x0] [] := by first | (simp [entryFrame, mkF, argsToLocals, Value.category]; done) | rfl
theorem d25_0 : dk cD25 0 (.aload_n 0) 1 := by decide +kernel
theorem d25_1 : dk cD25 1 (.aload_n 0) 1 := by decide +kernel
theorem d25_2 : dk cD25 2 (.getfield 48) 3 := by decide +kernel
theorem d25_5 : dk cD25 5 (.iconst 1) 1 := by decide +kernel
theorem d25_6 : dk cD25 6 .iadd 1 := by decide +kernel
theorem d25_7 : dk cD25 7 (.invokevirtual 69) 3 := by decide +kernel
theorem pd_23 : parseMethodDescriptor "(I)[Ljava/lang/Object;" = some ⟨[.int], some (.array (.object "java/lang/Object"))⟩ := by decide +kernel
theorem d25_10 : dk cD25 10 .areturn 1 := by decide +kernel
def Q_rmGr (Z : State) (la : Nat) (dq : Nat) (kd : ClassId) (mc : Int32) (h0 : Heap) (n0 : Nat) (v : Option Value) (h : Heap) (L : List Loc) : Prop := ∃ (e2 : Nat) (k2 : ClassId), v = some (.ref e2) ∧ Fr n0 L ∧ Keep h0 h [la] ∧ h0.size ≤ e2 ∧ e2 < h.size ∧ Exa Z h la "java/util/ArrayList" ∧ Fld Z h la "java/util/ArrayList" "elementData" "[Ljava/lang/Object;" (.ref e2) ∧ Fld Z h la "java/util/ArrayList" "size" "I" (.int 0) ∧ Fld Z h la "java/util/AbstractList" "modCount" "I" (.int mc) ∧ Arv Z h e2 k2 (.object "java/lang/Object") (10 : Int32) ([]) .null ∧ Ovr Z k2 "java/lang/Object" ∧ Exa Z h e2 "[Ljava/lang/Object;"
theorem rmGr (l : Launch) (Z : State) (a0 : Array Value) (hw : own_H Z a0) (ws : List Jvm.Cond) (la : Nat) (dq : Nat) (kd : ClassId) (mc : Int32) (h0 : Heap) (n0 : Nat) (XO0 : Old Z n0 h0) (g_l : n0 ≤ la) (S_d : Sta Z Z.heap "java/util/ArrayList" "DEFAULTCAPACITY_EMPTY_ELEMENTDATA" "[Ljava/lang/Object;" (.ref dq)) (V_d : Arv Z Z.heap dq kd (.object "java/lang/Object") (0 : Int32) [] .null) (E_d : Exa Z Z.heap dq "[Ljava/lang/Object;") (l_d : dq < n0) (E_l : Exa Z h0 la "java/util/ArrayList") (F_e : Fld Z h0 la "java/util/ArrayList" "elementData" "[Ljava/lang/Object;" (.ref dq)) (F_z : Fld Z h0 la "java/util/ArrayList" "size" "I" (.int 0)) (F_m : Fld Z h0 la "java/util/AbstractList" "modCount" "I" (.int mc)) :
  own_M l Z ym25 cD25 ws 1 (some (.array (.object "java/lang/Object"))) (own_R 2 1 10 29) #[(.ref la)] h0 (Q_rmGr Z la dq kd mc h0 n0) := by
 refine own_open (plainFor_of_name pn_7) ?_
 intro p e s m below meth c s₁ hx hby hlk hret hml hown hnm hZ X0 e0
 have hW := own_hW hw
 have N0 := Fr.nil n0
 refine oo (fun tt_ kk_ => castTop (ef_rmGr m la) kk_) ?_
 refine so (A := (s₁.setTop (mkF m 0 #[vr la] []))) ?_
 have K0_ : Keep h0 h0 [la] := Keep.refl h0 [la]
 have lt_la := olt E_l.lt
 refine oi (XS.aloadN X0.here hx rfl (hb hby d25_0) rfl rfl) ?_
 refine oi (XS.aloadN X0.here hx rfl (hb hby d25_1) rfl rfl) ?_
 obtain ⟨T1, X1, e1, st1⟩ := getF X0 hx hZ hown (host := "") (Or.inl (hW 136 _ rfl)) Via.refl e0 F_z (g := (mkF m 2 #[vr la] [(.ref la), (.ref la)])) rfl rfl (hb hby d25_2)
 refine oo st1 ?_
 refine oi (XS.iconst X1.here hx rfl (hb hby d25_5)) ?_
 refine oi (XS.iadd X1.here hx rfl (hb hby d25_6) rfl) ?_
 refine so (A := (T1.setTop (mkF m 7 #[vr la] [(.int 1), (.ref la)]))) ?_
 obtain ⟨cq2, q2, q2'⟩ := E_l.cell
 obtain ⟨_, T2, Lc2, X2, hQ2, st2⟩ := own_c1 X1 <| X1.privateBack hx (y := ym26) hown (mvT hZ (hW 148 _ rfl)) (mvT hZ (hW 149 _ rfl)) (mvT hZ (hW 151 _ rfl)) (Cond.privateMethod_at (mvP hZ (hW 150 _ rfl) (args := #[]))) (mvT hZ (hW 152 _ rfl)) (by decide) (backOf (W := 0) (rmGrI l Z a0 hw [] la dq kd mc h0 n0 XO0 (by omega) S_d V_d E_d l_d E_l F_e F_z F_m) hZ (hW 152 _ rfl) (hW 47 _ rfl) (by decide) (by decide)) (g := (mkF m 7 #[vr la] [(.int 1), (.ref la)])) rfl (by rw [hml]; rfl) (Steps.refl _) (a := la) (by rw [e1]; exact q2) q2' (argsL := [(.int 1)]) (rest := []) (lenOf pd_23 rfl) rfl (Nat.le_of_eq rfl) (hb hby d25_7) (fun _ _ => ⟨rfl, e1, (by decide : 0 + 1 ≤ _), (by decide : 0 + 10 ≤ _)⟩)
 obtain ⟨e2, k2, rfl, Nq2, Kp2, ge2, le2, El2, Fe2, Fz2, Fm2, Ve2, Oe2, Ee2⟩ := hQ2
 have N2 := Fr.app N0 Nq2
 refine oo (fun tt_ kk_ => st2.trans kk_) ?_
 have sz2 : h0.size ≤ T2.heap.size := Kp2.1
 have O2 : Old Z n0 T2.heap := XO0.keep Kp2 (allS (by omega) all0)
 have K2 : Keep h0 T2.heap [la] := K0_.trans Kp2 (allS (Or.inl (List.mem_of_getElem? (i := 0) rfl)) all0)
 refine so (A := (T2.setTop (mkF m 10 #[vr la] [(.ref e2)]))) ?_
 refine own_ret X2 hx hlk hret rfl (Or.inr (Or.inr (Or.inr (Or.inr ⟨rfl, rfl, rfl⟩)))) (hb hby d25_10) (by decide) (by decide) ?_
 skip
 exact ⟨e2, k2, rfl, N2, K2, by omega, by omega, El2, Fe2, Fz2, Fm2, Ve2, Oe2, Ee2⟩
def Q_A3 (Z : State) (dq la ea : Nat) (xs : List Value) (yy : Value) (mc : Int32) (h0 : Heap) (n0 : Nat) (v : Option Value) (h : Heap) (L : List Loc) : Prop := ∃ (e2 : Nat) (k2 : ClassId) (z2 : Nat), v = none ∧ Fr n0 L ∧ n0 ≤ z2 ∧ ((z2 = la ∧ ea = dq ∧ h0.size ≤ e2) ∨ (z2 = ea ∧ n0 ≤ ea ∧ e2 = ea)) ∧ Keep h0 h [la, z2] ∧ own_al Z h dq n0 la e2 k2 (xs ++ [yy]) mc
def Q_Ad (Z : State) (dq la ea : Nat) (xs : List Value) (yy : Value) (mc : Int32) (h0 : Heap) (n0 : Nat) (v : Option Value) (h : Heap) (L : List Loc) : Prop := ∃ (e2 : Nat) (k2 : ClassId) (z2 : Nat), v = some (.int 1) ∧ Fr n0 L ∧ n0 ≤ z2 ∧ ((z2 = la ∧ ea = dq ∧ h0.size ≤ e2) ∨ (z2 = ea ∧ n0 ≤ ea ∧ e2 = ea)) ∧ Keep h0 h [la, z2] ∧ own_al Z h dq n0 la e2 k2 (xs ++ [yy]) (mc + (1 : Int32))
theorem own_okv.fits {Z : State} {h : Heap} {w : Value} (S : own_okv Z h w) : fits (.object "java/lang/Object") w = true := by
 rcases S with rfl | ⟨a, rfl, -⟩ <;> rfl
theorem ef_rmA3_1 (m : MethodId) (x0 : Nat) (x1 : Value) (x2 : Nat) (x3 : Int32) (hx1 : x1.isRef = true) : entryFrame m #[(.ref x0), x1, (.ref x2), (.int x3)] 4 = mkF m 0 #[vr x0, .val x1, vr x2, vi x3] [] := by rcases ref_cases hx1 with rfl | ⟨_, rfl⟩ <;> first | (simp [entryFrame, mkF, argsToLocals, Value.category]; done) | rfl
theorem d24_0 : dk cD24 0 (.iload_n 3) 1 := by decide +kernel
theorem d24_1 : dk cD24 1 (.aload_n 2) 1 := by decide +kernel
theorem d24_2 : dk cD24 2 .arraylength 1 := by decide +kernel
theorem d24_3 : dk cD24 3 (.if_icmp .ne 8) 3 := by decide +kernel
theorem d24_6 : dk cD24 6 (.aload_n 0) 1 := by decide +kernel
theorem d24_7 : dk cD24 7 (.invokevirtual 129) 3 := by decide +kernel
theorem pd_24 : parseMethodDescriptor "()[Ljava/lang/Object;" = some ⟨[], some (.array (.object "java/lang/Object"))⟩ := by decide +kernel
theorem d24_10 : dk cD24 10 (.astore_n 2) 1 := by decide +kernel
theorem d24_11 : dk cD24 11 (.aload_n 2) 1 := by decide +kernel
theorem d24_12 : dk cD24 12 (.iload_n 3) 1 := by decide +kernel
theorem d24_13 : dk cD24 13 (.aload_n 1) 1 := by decide +kernel
theorem d24_14 : dk cD24 14 .aastore 1 := by decide +kernel
theorem d24_15 : dk cD24 15 (.aload_n 0) 1 := by decide +kernel
theorem d24_16 : dk cD24 16 (.iload_n 3) 1 := by decide +kernel
theorem d24_17 : dk cD24 17 (.iconst 1) 1 := by decide +kernel
theorem d24_18 : dk cD24 18 .iadd 1 := by decide +kernel
theorem d24_19 : dk cD24 19 (.putfield 48) 3 := by decide +kernel
theorem d24_22 : dk cD24 22 .return_ 1 := by decide +kernel
theorem rmA3_1 (l : Launch) (Z : State) (a0 : Array Value) (hw : own_H Z a0) (ws : List Jvm.Cond) (la : Nat) (dq : Nat) (kd : ClassId) (yy : Value) (mc : Int32) (h0 : Heap) (n0 : Nat) (XO0 : Old Z n0 h0) (g_l : n0 ≤ la) (S_d : Sta Z Z.heap "java/util/ArrayList" "DEFAULTCAPACITY_EMPTY_ELEMENTDATA" "[Ljava/lang/Object;" (.ref dq)) (V_d : Arv Z Z.heap dq kd (.object "java/lang/Object") (0 : Int32) [] .null) (E_d : Exa Z Z.heap dq "[Ljava/lang/Object;") (l_d : dq < n0) (E_l : Exa Z h0 la "java/util/ArrayList") (F_e : Fld Z h0 la "java/util/ArrayList" "elementData" "[Ljava/lang/Object;" (.ref dq)) (F_z : Fld Z h0 la "java/util/ArrayList" "size" "I" (.int 0)) (F_m : Fld Z h0 la "java/util/AbstractList" "modCount" "I" (.int mc)) (E_y : own_okv Z h0 yy) :
  own_M l Z ym24 cD24 ws 4 none (own_R 3 1 10 41) #[(.ref la), yy, (.ref dq), (.int 0)] h0 (Q_A3 Z dq la dq [] yy mc h0 n0) := by
 refine own_open (plainFor_of_name pn_7) ?_
 intro p e s m below meth c s₁ hx hby hlk hret hml hown hnm hZ X0 e0
 have hW := own_hW hw
 have N0 := Fr.nil n0
 refine oo (fun tt_ kk_ => castTop (ef_rmA3_1 m la yy dq (0 : Int32) E_y.ref) kk_) ?_
 refine so (A := (s₁.setTop (mkF m 0 #[vr la, .val yy, vr dq, vz] []))) ?_
 have K0_ : Keep h0 h0 [la, la] := Keep.refl h0 [la, la]
 have lt_la := olt E_l.lt
 refine oi (XS.iloadN X0.here hx rfl (hb hby d24_0) rfl) ?_
 refine oi (XS.aloadN X0.here hx rfl (hb hby d24_1) rfl rfl) ?_
 have f1 : Arv Z h0 dq kd (.object "java/lang/Object") (0 : Int32) [] .null := V_d.ext XO0.2
 obtain ⟨cl2, Ar2, q2, S2, Ng2, H2, G2⟩ := id f1
 refine oo (fun tt_ kk => X0.arraylength hx (by rw [e0]; exact Ar2.1) (State.isArrayOf_alike hZ.alike Ar2.2.1) (g := (mkF m 2 #[vr la, .val yy, vr dq, vz] [(.ref dq), (.int 0)])) rfl rfl (hb hby d24_2) _ (by rw [len_of S2 Ng2]; exact kk)) ?_
 have hb3_3 : (0 : Int32) = (0 : Int32) := by decide
 refine oi (XS.icmpNo X0.here hx rfl (hb hby d24_3) rfl (teq hb3_3).2) ?_
 refine oi (XS.aloadN X0.here hx rfl (hb hby d24_6) rfl rfl) ?_
 refine so (A := (s₁.setTop (mkF m 7 #[vr la, .val yy, vr dq, vz] [(.ref la)]))) ?_
 obtain ⟨cq4, q4, q4'⟩ := E_l.cell
 obtain ⟨_, T4, Lc4, X4, hQ4, st4⟩ := own_c1 X0 <| X0.privateBack hx (y := ym25) hown (mvT hZ (hW 143 _ rfl)) (mvT hZ (hW 144 _ rfl)) (mvT hZ (hW 146 _ rfl)) (Cond.privateMethod_at (mvP hZ (hW 145 _ rfl) (args := #[]))) (mvT hZ (hW 147 _ rfl)) (by decide) (backOf (W := 0) (rmGr l Z a0 hw [] la dq kd mc h0 n0 XO0 (by omega) S_d V_d E_d l_d E_l F_e F_z F_m) hZ (hW 147 _ rfl) (hW 47 _ rfl) (by decide) (by decide)) (g := (mkF m 7 #[vr la, .val yy, vr dq, vz] [(.ref la)])) rfl (by rw [hml]; rfl) (Steps.refl _) (a := la) (by rw [e0]; exact q4) q4' (argsL := []) (rest := []) (lenOf pd_24 rfl) rfl (Nat.le_of_eq rfl) (hb hby d24_7) (fun _ _ => ⟨rfl, e0, (by decide : 0 + 1 ≤ _), (by decide : 0 + 10 ≤ _)⟩)
 obtain ⟨e4, k4, rfl, Nq4, Kp4, ge4, le4, El4, Fe4, Fz4, Fm4, Ve4, Oe4, Ee4⟩ := hQ4
 have N4 := Fr.app N0 Nq4
 refine oo (fun tt_ kk_ => st4.trans kk_) ?_
 have sz4 : h0.size ≤ T4.heap.size := Kp4.1
 have O4 : Old Z n0 T4.heap := XO0.keep Kp4 (allS (by omega) all0)
 have K4 : Keep h0 T4.heap [la, la] := K0_.trans Kp4 (allS (Or.inl (List.mem_of_getElem? (i := 0) rfl)) all0)
 refine oi (XS.astoreN X4.here hx rfl (hb hby d24_10) rfl rfl (l' := #[vr la, .val yy, vr e4, vz]) rfl) ?_
 refine oi (XS.aloadN X4.here hx rfl (hb hby d24_11) rfl rfl) ?_
 refine oi (XS.iloadN X4.here hx rfl (hb hby d24_12) rfl) ?_
 refine oi (XS.aloadN X4.here hx rfl (hb hby d24_13) rfl E_y.ref) ?_
 refine so (A := (T4.setTop (mkF m 14 #[vr la, .val yy, vr e4, vz] [yy, (.int 0), (.ref e4)]))) ?_
 obtain ⟨cl5, Ar5, q5, S5, Ng5, H5, G5⟩ := id Ve4
 have hin5 : ¬ ((0 : Int32) < 0 ∨ cl5.slots.size ≤ ((0 : Int32)).toNatClampNeg) := inb_of S5 ⟨by decide, by decide⟩
 have f6 : own_okv Z T4.heap yy := (E_y.keep Kp4)
 obtain ⟨T5, h5, X5, e5, W5, st5⟩ := stR X4 hx hZ rfl Ar5 (j := (0 : Int32)) hin5 rfl (own_okv.sto f6 Ar5 q5 Oe4 (hW 159 _ rfl)) (g := (mkF m 14 #[vr la, .val yy, vr e4, vz] [yy, (.int 0), (.ref e4)])) rfl rfl (hb hby d24_14)
 have V5 : Arv Z h5 e4 k4 (.object "java/lang/Object") (10 : Int32) ([] ++ [yy]) .null := own_push (xs := []) Ar5 q5 S5 Ng5 H5 G5 (own_okv.fits f6) W5 rfl
 refine oo st5 ?_
 have N5 := Fr.snoc X5 N4 (by omega : n0 ≤ e4)
 have sz5 : h5.size = T4.heap.size := W5.size
 have O5 : Old Z n0 h5 := O4.wr W5 (by omega)
 have K5 : Keep h0 h5 [la, la] := K4.wr W5 (Or.inr (by omega))
 refine oi (XS.aloadN X5.here hx rfl (hb hby d24_15) rfl rfl) ?_
 refine oi (XS.iloadN X5.here hx rfl (hb hby d24_16) rfl) ?_
 refine oi (XS.iconst X5.here hx rfl (hb hby d24_17)) ?_
 refine oi (XS.iadd X5.here hx rfl (hb hby d24_18) rfl) ?_
 have f7 : Exa Z h5 la "java/util/ArrayList" := (El4.wr W5)
 have f8 : Fld Z h5 la "java/util/ArrayList" "size" "I" (.int 0) := (Fz4.other W5 (Or.inl (one (by omega))))
 obtain ⟨T9, h9, X9, e9, W9, st9⟩ := putF X5 hx hZ hown (host := "") (Or.inl (hW 136 _ rfl)) Via.refl e5 f8 f7 (Or.inl (hW 137 _ rfl)) (hW 46 _ rfl) (ty := .int) pf_2 rfl rfl (g := (mkF m 19 #[vr la, .val yy, vr e4, vz] [(.int 1), (.ref la)])) rfl rfl (hb hby d24_19)
 refine oo st9 ?_
 have N9 := Fr.snoc X9 N5 (by omega : n0 ≤ la)
 have sz9 : h9.size = h5.size := W9.size
 have O9 : Old Z n0 h9 := O5.wr W9 (by omega)
 have K9 : Keep h0 h9 [la, la] := K5.wr W9 (Or.inl (List.mem_of_getElem? (i := 0) rfl))
 have Fw9 := f8.same W9
 refine so (A := (T9.setTop (mkF m 22 #[vr la, .val yy, vr e4, vz] []))) ?_
 refine own_retV X9 hx hlk hret (hb hby d24_22) (by decide) (by decide) ?_
 rw [e9]
 have f10 : Exa Z h9 la "java/util/ArrayList" := (f7.wr W9)
 have f11 : Fld Z h9 la "java/util/ArrayList" "elementData" "[Ljava/lang/Object;" (.ref e4) := ((Fe4.other W5 (Or.inl (one (by omega)))).other W9 (Or.inr (slot_ne (Or.inl (hW 68 _ rfl)) (Or.inl (hW 137 _ rfl)) (by decide) pf_3 pf_2)))
 have f12 : Fld Z h9 la "java/util/AbstractList" "modCount" "I" (.int mc) := ((Fm4.other W5 (Or.inl (one (by omega)))).other W9 (Or.inr (slot_ne (Or.inl (hW 65 _ rfl)) (Or.inl (hW 137 _ rfl)) (by decide) pf_2 pf_2)))
 have f13 : Exa Z h9 e4 "[Ljava/lang/Object;" := ((Ee4.wr W5).wr W9)
 have f14 : Arv Z h9 e4 k4 (.object "java/lang/Object") (10 : Int32) ([] ++ [yy]) .null := (V5.other W9 (one (by omega)))
 exact ⟨e4, k4, la, rfl, N9, by omega, Or.inl ⟨rfl, rfl, by omega⟩, K9, ⟨f10, f11, Fw9, f12, f13, Or.inr ⟨by omega, by omega, Oe4, f14⟩⟩⟩
theorem ef_rmA3_2 (m : MethodId) (x0 : Nat) (x1 : Value) (x2 : Nat) (x3 : Int32) (hx1 : x1.isRef = true) : entryFrame m #[(.ref x0), x1, (.ref x2), (.int x3)] 4 = mkF m 0 #[vr x0, .val x1, vr x2, vi x3] [] := by rcases ref_cases hx1 with rfl | ⟨_, rfl⟩ <;> first | (simp [entryFrame, mkF, argsToLocals, Value.category]; done) | rfl
theorem rmA3_2 (l : Launch) (Z : State) (a0 : Array Value) (hw : own_H Z a0) (ws : List Jvm.Cond) (la : Nat) (dq : Nat) (kd : ClassId) (ea : Nat) (ke : ClassId) (xs : List Value) (yy : Value) (mc : Int32) (h0 : Heap) (n0 : Nat) (XO0 : Old Z n0 h0) (g_l : n0 ≤ la) (S_d : Sta Z Z.heap "java/util/ArrayList" "DEFAULTCAPACITY_EMPTY_ELEMENTDATA" "[Ljava/lang/Object;" (.ref dq)) (V_d : Arv Z Z.heap dq kd (.object "java/lang/Object") (0 : Int32) [] .null) (E_d : Exa Z Z.heap dq "[Ljava/lang/Object;") (l_d : dq < n0) (E_l : Exa Z h0 la "java/util/ArrayList") (F_e : Fld Z h0 la "java/util/ArrayList" "elementData" "[Ljava/lang/Object;" (.ref ea)) (F_z : Fld Z h0 la "java/util/ArrayList" "size" "I" (.int (Int32.ofNat xs.length))) (F_m : Fld Z h0 la "java/util/AbstractList" "modCount" "I" (.int mc)) (g_e : n0 ≤ ea) (n_le : la ≠ ea) (O_e : Ovr Z ke "java/lang/Object") (V_e : Arv Z h0 ea ke (.object "java/lang/Object") (10 : Int32) (xs) .null) (E_e : Exa Z h0 ea "[Ljava/lang/Object;") (hl : xs.length < 10) (E_y : own_okv Z h0 yy) :
  own_M l Z ym24 cD24 ws 4 none (own_R 0 0 0 0) #[(.ref la), yy, (.ref ea), (.int (Int32.ofNat xs.length))] h0 (Q_A3 Z dq la ea xs yy mc h0 n0) := by
 refine own_open (plainFor_of_name pn_7) ?_
 intro p e s m below meth c s₁ hx hby hlk hret hml hown hnm hZ X0 e0
 have hW := own_hW hw
 have N0 := Fr.nil n0
 refine oo (fun tt_ kk_ => castTop (ef_rmA3_2 m la yy ea (Int32.ofNat xs.length) E_y.ref) kk_) ?_
 refine so (A := (s₁.setTop (mkF m 0 #[vr la, .val yy, vr ea, vi (Int32.ofNat xs.length)] []))) ?_
 have K0_ : Keep h0 h0 [la, ea] := Keep.refl h0 [la, ea]
 have lt_la := olt E_l.lt
 have lt_ea := olt V_e.lt
 refine oi (XS.iloadN X0.here hx rfl (hb hby d24_0) rfl) ?_
 refine oi (XS.aloadN X0.here hx rfl (hb hby d24_1) rfl rfl) ?_
 obtain ⟨cl1, Ar1, q1, S1, Ng1, H1, G1⟩ := id V_e
 refine oo (fun tt_ kk => X0.arraylength hx (by rw [e0]; exact Ar1.1) (State.isArrayOf_alike hZ.alike Ar1.2.1) (g := (mkF m 2 #[vr la, .val yy, vr ea, vi (Int32.ofNat xs.length)] [(.ref ea), (.int (Int32.ofNat xs.length))])) rfl rfl (hb hby d24_2) _ (by rw [len_of S1 Ng1]; exact kk)) ?_
 have hb3_2 : ¬ ((Int32.ofNat xs.length) = (10 : Int32)) := fun q => Nat.ne_of_lt hl ((own_neq (by omega) (b := 10) (by omega)).mp q)
 refine oi (XS.icmpYes X0.here hx rfl (pc0 := 3) (pc' := 11) rfl (hb hby d24_3) rfl (feq hb3_2).2 (by decide) (by decide)) ?_
 refine so (A := (s₁.setTop (mkF m 11 #[vr la, .val yy, vr ea, vi (Int32.ofNat xs.length)] []))) ?_
 refine oi (XS.aloadN X0.here hx rfl (hb hby d24_11) rfl rfl) ?_
 refine oi (XS.iloadN X0.here hx rfl (hb hby d24_12) rfl) ?_
 refine oi (XS.aloadN X0.here hx rfl (hb hby d24_13) rfl E_y.ref) ?_
 refine so (A := (s₁.setTop (mkF m 14 #[vr la, .val yy, vr ea, vi (Int32.ofNat xs.length)] [yy, (.int (Int32.ofNat xs.length)), (.ref ea)]))) ?_
 obtain ⟨cl3, Ar3, q3, S3, Ng3, H3, G3⟩ := id V_e
 have hin3 : ¬ ((Int32.ofNat xs.length) < 0 ∨ cl3.slots.size ≤ ((Int32.ofNat xs.length)).toNatClampNeg) := inb_of S3 (own_inn (m := 10) hl (by omega))
 obtain ⟨T3, h3, X3, e3, W3, st3⟩ := stR X0 hx hZ e0 Ar3 (j := (Int32.ofNat xs.length)) hin3 rfl (own_okv.sto E_y Ar3 q3 O_e (hW 159 _ rfl)) (g := (mkF m 14 #[vr la, .val yy, vr ea, vi (Int32.ofNat xs.length)] [yy, (.int (Int32.ofNat xs.length)), (.ref ea)])) rfl rfl (hb hby d24_14)
 have V3 : Arv Z h3 ea ke (.object "java/lang/Object") (10 : Int32) (xs ++ [yy]) .null := own_push (xs := xs) Ar3 q3 S3 Ng3 H3 G3 (own_okv.fits E_y) W3 (own_ncl (by omega))
 refine oo st3 ?_
 have N3 := Fr.snoc X3 N0 (by omega : n0 ≤ ea)
 have sz3 : h3.size = h0.size := W3.size
 have O3 : Old Z n0 h3 := XO0.wr W3 (by omega)
 have K3 : Keep h0 h3 [la, ea] := K0_.wr W3 (Or.inl (List.mem_of_getElem? (i := 1) rfl))
 refine oi (XS.aloadN X3.here hx rfl (hb hby d24_15) rfl rfl) ?_
 refine oi (XS.iloadN X3.here hx rfl (hb hby d24_16) rfl) ?_
 refine oi (XS.iconst X3.here hx rfl (hb hby d24_17)) ?_
 refine oi (XS.iadd X3.here hx rfl (hb hby d24_18) rfl) ?_
 have f4 : Exa Z h3 la "java/util/ArrayList" := (E_l.wr W3)
 have f5 : Fld Z h3 la "java/util/ArrayList" "size" "I" (.int (Int32.ofNat xs.length)) := (F_z.other W3 (Or.inl (one (by omega))))
 obtain ⟨T6, h6, X6, e6, W6, st6⟩ := putF X3 hx hZ hown (host := "") (Or.inl (hW 136 _ rfl)) Via.refl e3 f5 f4 (Or.inl (hW 137 _ rfl)) (hW 46 _ rfl) (ty := .int) pf_2 rfl rfl (g := (mkF m 19 #[vr la, .val yy, vr ea, vi (Int32.ofNat xs.length)] [(.int ((Int32.ofNat xs.length) + (1 : Int32))), (.ref la)])) rfl rfl (hb hby d24_19)
 refine oo st6 ?_
 have N6 := Fr.snoc X6 N3 (by omega : n0 ≤ la)
 have sz6 : h6.size = h3.size := W6.size
 have O6 : Old Z n0 h6 := O3.wr W6 (by omega)
 have K6 : Keep h0 h6 [la, ea] := K3.wr W6 (Or.inl (List.mem_of_getElem? (i := 0) rfl))
 have Fw6 := f5.same W6
 refine so (A := (T6.setTop (mkF m 22 #[vr la, .val yy, vr ea, vi (Int32.ofNat xs.length)] []))) ?_
 refine own_retV X6 hx hlk hret (hb hby d24_22) (by decide) (by decide) ?_
 rw [e6]
 have f7 : Exa Z h6 la "java/util/ArrayList" := (f4.wr W6)
 have f8 : Fld Z h6 la "java/util/ArrayList" "elementData" "[Ljava/lang/Object;" (.ref ea) := ((F_e.other W3 (Or.inl (one (by omega)))).other W6 (Or.inr (slot_ne (Or.inl (hW 68 _ rfl)) (Or.inl (hW 137 _ rfl)) (by decide) pf_3 pf_2)))
 have f9 : Fld Z h6 la "java/util/AbstractList" "modCount" "I" (.int mc) := ((F_m.other W3 (Or.inl (one (by omega)))).other W6 (Or.inr (slot_ne (Or.inl (hW 65 _ rfl)) (Or.inl (hW 137 _ rfl)) (by decide) pf_2 pf_2)))
 have f10 : Exa Z h6 ea "[Ljava/lang/Object;" := ((E_e.wr W3).wr W6)
 have f11 : Arv Z h6 ea ke (.object "java/lang/Object") (10 : Int32) (xs ++ [yy]) .null := (V3.other W6 (one (by omega)))
 exact ⟨ea, ke, ea, rfl, N6, by omega, Or.inr ⟨rfl, by omega, rfl⟩, K6, ⟨f7, f8, (by rw [← own_sz1]; exact Fw6), f9, f10, Or.inr ⟨by omega, by omega, O_e, f11⟩⟩⟩
theorem ef_rmAd_1 (m : MethodId) (x0 : Nat) (x1 : Value) (hx1 : x1.isRef = true) : entryFrame m #[(.ref x0), x1] 2 = mkF m 0 #[vr x0, .val x1] [] := by rcases ref_cases hx1 with rfl | ⟨_, rfl⟩ <;> first | (simp [entryFrame, mkF, argsToLocals, Value.category]; done) | rfl
theorem d23_0 : dk cD23 0 (.aload_n 0) 1 := by decide +kernel
theorem d23_1 : dk cD23 1 .dup 1 := by decide +kernel
theorem d23_2 : dk cD23 2 (.getfield 63) 3 := by decide +kernel
theorem d23_5 : dk cD23 5 (.iconst 1) 1 := by decide +kernel
theorem d23_6 : dk cD23 6 .iadd 1 := by decide +kernel
theorem d23_7 : dk cD23 7 (.putfield 63) 3 := by decide +kernel
theorem d23_10 : dk cD23 10 (.aload_n 0) 1 := by decide +kernel
theorem d23_11 : dk cD23 11 (.aload_n 1) 1 := by decide +kernel
theorem d23_12 : dk cD23 12 (.aload_n 0) 1 := by decide +kernel
theorem d23_13 : dk cD23 13 (.getfield 9) 3 := by decide +kernel
theorem d23_16 : dk cD23 16 (.aload_n 0) 1 := by decide +kernel
theorem d23_17 : dk cD23 17 (.getfield 48) 3 := by decide +kernel
theorem d23_20 : dk cD23 20 (.invokevirtual 131) 3 := by decide +kernel
theorem pd_25 : parseMethodDescriptor "(Ljava/lang/Object;[Ljava/lang/Object;I)V" = some ⟨[(.object "java/lang/Object"), (.array (.object "java/lang/Object")), .int], none⟩ := by decide +kernel
theorem d23_23 : dk cD23 23 (.iconst 1) 1 := by decide +kernel
theorem d23_24 : dk cD23 24 .ireturn 1 := by decide +kernel
theorem rmAd_1 (l : Launch) (Z : State) (a0 : Array Value) (hw : own_H Z a0) (ws : List Jvm.Cond) (la : Nat) (dq : Nat) (kd : ClassId) (yy : Value) (mc : Int32) (h0 : Heap) (n0 : Nat) (XO0 : Old Z n0 h0) (g_l : n0 ≤ la) (S_d : Sta Z Z.heap "java/util/ArrayList" "DEFAULTCAPACITY_EMPTY_ELEMENTDATA" "[Ljava/lang/Object;" (.ref dq)) (V_d : Arv Z Z.heap dq kd (.object "java/lang/Object") (0 : Int32) [] .null) (E_d : Exa Z Z.heap dq "[Ljava/lang/Object;") (l_d : dq < n0) (E_l : Exa Z h0 la "java/util/ArrayList") (F_e : Fld Z h0 la "java/util/ArrayList" "elementData" "[Ljava/lang/Object;" (.ref dq)) (F_z : Fld Z h0 la "java/util/ArrayList" "size" "I" (.int 0)) (F_m : Fld Z h0 la "java/util/AbstractList" "modCount" "I" (.int mc)) (E_y : own_okv Z h0 yy) :
  own_M l Z ym23 cD23 ws 2 (some .boolean) (own_R 4 1 10 56) #[(.ref la), yy] h0 (Q_Ad Z dq la dq [] yy mc h0 n0) := by
 refine own_open (plainFor_of_name pn_7) ?_
 intro p e s m below meth c s₁ hx hby hlk hret hml hown hnm hZ X0 e0
 have hW := own_hW hw
 have N0 := Fr.nil n0
 refine oo (fun tt_ kk_ => castTop (ef_rmAd_1 m la yy E_y.ref) kk_) ?_
 refine so (A := (s₁.setTop (mkF m 0 #[vr la, .val yy] []))) ?_
 have lt_la := olt E_l.lt
 refine oi (XS.aloadN X0.here hx rfl (hb hby d23_0) rfl rfl) ?_
 refine oi (XS.dup X0.here hx rfl (hb hby d23_1) rfl rfl) ?_
 obtain ⟨T1, X1, e1, st1⟩ := getF X0 hx hZ hown (host := "") (Or.inl (hW 134 _ rfl)) (Via.of (hW 135 _ rfl)) e0 F_m (g := (mkF m 2 #[vr la, .val yy] [(.ref la), (.ref la)])) rfl rfl (hb hby d23_2)
 refine oo st1 ?_
 refine oi (XS.iconst X1.here hx rfl (hb hby d23_5)) ?_
 refine oi (XS.iadd X1.here hx rfl (hb hby d23_6) rfl) ?_
 obtain ⟨T2, h2, X2, e2, W2, st2⟩ := putF X1 hx hZ hown (host := "") (Or.inl (hW 134 _ rfl)) (Via.of (hW 135 _ rfl)) e1 F_m E_l (Or.inl (hW 65 _ rfl)) (hW 46 _ rfl) (ty := .int) pf_2 rfl rfl (g := (mkF m 7 #[vr la, .val yy] [(.int (mc + (1 : Int32))), (.ref la)])) rfl rfl (hb hby d23_7)
 refine oo st2 ?_
 have N2 := Fr.snoc X2 N0 (by omega : n0 ≤ la)
 have sz2 : h2.size = h0.size := W2.size
 have O2 : Old Z n0 h2 := XO0.wr W2 (by omega)
 have Fw2 := F_m.same W2
 refine so (A := (T2.setTop (mkF m 10 #[vr la, .val yy] []))) ?_
 have Kw2 : Keep h0 h2 [la] := Keep.of_wr W2
 refine oi (XS.aloadN X2.here hx rfl (hb hby d23_10) rfl rfl) ?_
 refine oi (XS.aloadN X2.here hx rfl (hb hby d23_11) rfl E_y.ref) ?_
 refine oi (XS.aloadN X2.here hx rfl (hb hby d23_12) rfl rfl) ?_
 have f3 : Fld Z h2 la "java/util/ArrayList" "elementData" "[Ljava/lang/Object;" (.ref dq) := (F_e.other W2 (Or.inr (slot_ne (Or.inl (hW 68 _ rfl)) (Or.inl (hW 65 _ rfl)) (by decide) pf_3 pf_2)))
 obtain ⟨T4, X4, e4, st4⟩ := getF X2 hx hZ hown (host := "") (Or.inl (hW 67 _ rfl)) Via.refl e2 f3 (g := (mkF m 13 #[vr la, .val yy] [(.ref la), yy, (.ref la)])) rfl rfl (hb hby d23_13)
 refine oo st4 ?_
 refine oi (XS.aloadN X4.here hx rfl (hb hby d23_16) rfl rfl) ?_
 have f5 : Fld Z h2 la "java/util/ArrayList" "size" "I" (.int 0) := (F_z.other W2 (Or.inr (slot_ne (Or.inl (hW 137 _ rfl)) (Or.inl (hW 65 _ rfl)) (by decide) pf_2 pf_2)))
 obtain ⟨T6, X6, e6, st6⟩ := getF X4 hx hZ hown (host := "") (Or.inl (hW 136 _ rfl)) Via.refl e4 f5 (g := (mkF m 17 #[vr la, .val yy] [(.ref la), (.ref dq), yy, (.ref la)])) rfl rfl (hb hby d23_17)
 refine oo st6 ?_
 refine so (A := (T6.setTop (mkF m 20 #[vr la, .val yy] [(.int 0), (.ref dq), yy, (.ref la)]))) ?_
 have f7 : Exa Z h2 la "java/util/ArrayList" := (E_l.wr W2)
 have f8 : own_okv Z h2 yy := (E_y.wr W2)
 obtain ⟨cq9, q9, q9'⟩ := f7.cell
 obtain ⟨_, T9, Lc9, X9, hQ9, st9⟩ := own_c1 X6 <| X6.privateBack hx (y := ym24) hown (mvT hZ (hW 138 _ rfl)) (mvT hZ (hW 139 _ rfl)) (mvT hZ (hW 141 _ rfl)) (Cond.privateMethod_at (mvP hZ (hW 140 _ rfl) (args := #[]))) (mvT hZ (hW 142 _ rfl)) (by decide) (backOf (W := 0) (rmA3_1 l Z a0 hw [] la dq kd  yy (mc + (1 : Int32)) h2 n0 O2 g_l S_d V_d E_d l_d f7 f3 f5 Fw2  f8) hZ (hW 142 _ rfl) (hW 47 _ rfl) (by decide) (by decide)) (g := (mkF m 20 #[vr la, .val yy] [(.int 0), (.ref dq), yy, (.ref la)])) rfl (by rw [hml]; rfl) (Steps.refl _) (a := la) (by rw [e6]; exact q9) q9' (argsL := [yy, (.ref dq), (.int 0)]) (rest := []) (lenOf pd_25 rfl) rfl (Nat.le_of_eq rfl) (hb hby d23_20) (fun _ _ => ⟨rfl, e6, (by decide : 0 + 1 ≤ _), (by decide : 0 + 10 ≤ _)⟩)
 obtain ⟨e9, k9, z9, rfl, Nq9, gz9, hz9, Kp9, AL9⟩ := hQ9
 have N9 := Fr.app N2 Nq9
 refine oo (fun tt_ kk_ => st9.trans kk_) ?_
 have sz9 : h2.size ≤ T9.heap.size := Kp9.1
 have O9 : Old Z n0 T9.heap := O2.keep Kp9 (allS (by omega) (allS (by omega) all0))
 refine oi (XS.iconst X9.here hx rfl (hb hby d23_23)) ?_
 refine so (A := (T9.setTop (mkF m 24 #[vr la, .val yy] [(.int 1)]))) ?_
 refine own_ret X9 hx hlk hret rfl (Or.inl ⟨rfl, by simp, _, rfl⟩) (hb hby d23_24) (by decide) (by decide) ?_
 skip
 have Kf : Keep h0 T9.heap [la, z9] := (own_wk Kw2 (fun x hx_ => by simp only [List.mem_cons, List.not_mem_nil, or_false] at hx_ ⊢; exact Or.inl hx_)).trans Kp9 (fun x hx_ => Or.inl hx_)
 exact ⟨e9, k9, z9, rfl, N9, gz9, by omega, Kf, AL9⟩
theorem ef_rmAd_2 (m : MethodId) (x0 : Nat) (x1 : Value) (hx1 : x1.isRef = true) : entryFrame m #[(.ref x0), x1] 2 = mkF m 0 #[vr x0, .val x1] [] := by rcases ref_cases hx1 with rfl | ⟨_, rfl⟩ <;> first | (simp [entryFrame, mkF, argsToLocals, Value.category]; done) | rfl
theorem rmAd_2 (l : Launch) (Z : State) (a0 : Array Value) (hw : own_H Z a0) (ws : List Jvm.Cond) (la : Nat) (dq : Nat) (kd : ClassId) (ea : Nat) (ke : ClassId) (xs : List Value) (yy : Value) (mc : Int32) (h0 : Heap) (n0 : Nat) (XO0 : Old Z n0 h0) (g_l : n0 ≤ la) (S_d : Sta Z Z.heap "java/util/ArrayList" "DEFAULTCAPACITY_EMPTY_ELEMENTDATA" "[Ljava/lang/Object;" (.ref dq)) (V_d : Arv Z Z.heap dq kd (.object "java/lang/Object") (0 : Int32) [] .null) (E_d : Exa Z Z.heap dq "[Ljava/lang/Object;") (l_d : dq < n0) (E_l : Exa Z h0 la "java/util/ArrayList") (F_e : Fld Z h0 la "java/util/ArrayList" "elementData" "[Ljava/lang/Object;" (.ref ea)) (F_z : Fld Z h0 la "java/util/ArrayList" "size" "I" (.int (Int32.ofNat xs.length))) (F_m : Fld Z h0 la "java/util/AbstractList" "modCount" "I" (.int mc)) (g_e : n0 ≤ ea) (n_le : la ≠ ea) (O_e : Ovr Z ke "java/lang/Object") (V_e : Arv Z h0 ea ke (.object "java/lang/Object") (10 : Int32) (xs) .null) (E_e : Exa Z h0 ea "[Ljava/lang/Object;") (hl : xs.length < 10) (E_y : own_okv Z h0 yy) :
  own_M l Z ym23 cD23 ws 2 (some .boolean) (own_R 4 1 10 56) #[(.ref la), yy] h0 (Q_Ad Z dq la ea xs yy mc h0 n0) := by
 refine own_open (plainFor_of_name pn_7) ?_
 intro p e s m below meth c s₁ hx hby hlk hret hml hown hnm hZ X0 e0
 have hW := own_hW hw
 have N0 := Fr.nil n0
 refine oo (fun tt_ kk_ => castTop (ef_rmAd_2 m la yy E_y.ref) kk_) ?_
 refine so (A := (s₁.setTop (mkF m 0 #[vr la, .val yy] []))) ?_
 have lt_la := olt E_l.lt
 have lt_ea := olt V_e.lt
 refine oi (XS.aloadN X0.here hx rfl (hb hby d23_0) rfl rfl) ?_
 refine oi (XS.dup X0.here hx rfl (hb hby d23_1) rfl rfl) ?_
 obtain ⟨T1, X1, e1, st1⟩ := getF X0 hx hZ hown (host := "") (Or.inl (hW 134 _ rfl)) (Via.of (hW 135 _ rfl)) e0 F_m (g := (mkF m 2 #[vr la, .val yy] [(.ref la), (.ref la)])) rfl rfl (hb hby d23_2)
 refine oo st1 ?_
 refine oi (XS.iconst X1.here hx rfl (hb hby d23_5)) ?_
 refine oi (XS.iadd X1.here hx rfl (hb hby d23_6) rfl) ?_
 obtain ⟨T2, h2, X2, e2, W2, st2⟩ := putF X1 hx hZ hown (host := "") (Or.inl (hW 134 _ rfl)) (Via.of (hW 135 _ rfl)) e1 F_m E_l (Or.inl (hW 65 _ rfl)) (hW 46 _ rfl) (ty := .int) pf_2 rfl rfl (g := (mkF m 7 #[vr la, .val yy] [(.int (mc + (1 : Int32))), (.ref la)])) rfl rfl (hb hby d23_7)
 refine oo st2 ?_
 have N2 := Fr.snoc X2 N0 (by omega : n0 ≤ la)
 have sz2 : h2.size = h0.size := W2.size
 have O2 : Old Z n0 h2 := XO0.wr W2 (by omega)
 have Fw2 := F_m.same W2
 refine so (A := (T2.setTop (mkF m 10 #[vr la, .val yy] []))) ?_
 have Kw2 : Keep h0 h2 [la] := Keep.of_wr W2
 refine oi (XS.aloadN X2.here hx rfl (hb hby d23_10) rfl rfl) ?_
 refine oi (XS.aloadN X2.here hx rfl (hb hby d23_11) rfl E_y.ref) ?_
 refine oi (XS.aloadN X2.here hx rfl (hb hby d23_12) rfl rfl) ?_
 have f3 : Fld Z h2 la "java/util/ArrayList" "elementData" "[Ljava/lang/Object;" (.ref ea) := (F_e.other W2 (Or.inr (slot_ne (Or.inl (hW 68 _ rfl)) (Or.inl (hW 65 _ rfl)) (by decide) pf_3 pf_2)))
 obtain ⟨T4, X4, e4, st4⟩ := getF X2 hx hZ hown (host := "") (Or.inl (hW 67 _ rfl)) Via.refl e2 f3 (g := (mkF m 13 #[vr la, .val yy] [(.ref la), yy, (.ref la)])) rfl rfl (hb hby d23_13)
 refine oo st4 ?_
 refine oi (XS.aloadN X4.here hx rfl (hb hby d23_16) rfl rfl) ?_
 have f5 : Fld Z h2 la "java/util/ArrayList" "size" "I" (.int (Int32.ofNat xs.length)) := (F_z.other W2 (Or.inr (slot_ne (Or.inl (hW 137 _ rfl)) (Or.inl (hW 65 _ rfl)) (by decide) pf_2 pf_2)))
 obtain ⟨T6, X6, e6, st6⟩ := getF X4 hx hZ hown (host := "") (Or.inl (hW 136 _ rfl)) Via.refl e4 f5 (g := (mkF m 17 #[vr la, .val yy] [(.ref la), (.ref ea), yy, (.ref la)])) rfl rfl (hb hby d23_17)
 refine oo st6 ?_
 refine so (A := (T6.setTop (mkF m 20 #[vr la, .val yy] [(.int (Int32.ofNat xs.length)), (.ref ea), yy, (.ref la)]))) ?_
 have f7 : Exa Z h2 la "java/util/ArrayList" := (E_l.wr W2)
 have f8 : Arv Z h2 ea ke (.object "java/lang/Object") (10 : Int32) xs .null := (V_e.other W2 (one (by omega)))
 have f9 : Exa Z h2 ea "[Ljava/lang/Object;" := (E_e.wr W2)
 have f10 : own_okv Z h2 yy := (E_y.wr W2)
 obtain ⟨cq11, q11, q11'⟩ := f7.cell
 obtain ⟨_, T11, Lc11, X11, hQ11, st11⟩ := own_c1 X6 <| X6.privateBack hx (y := ym24) hown (mvT hZ (hW 138 _ rfl)) (mvT hZ (hW 139 _ rfl)) (mvT hZ (hW 141 _ rfl)) (Cond.privateMethod_at (mvP hZ (hW 140 _ rfl) (args := #[]))) (mvT hZ (hW 142 _ rfl)) (by decide) (backOf (W := 0) (rmA3_2 l Z a0 hw [] la dq kd ea ke xs yy (mc + (1 : Int32)) h2 n0 O2 g_l S_d V_d E_d l_d f7 f3 f5 Fw2 g_e n_le O_e f8 f9 hl f10) hZ (hW 142 _ rfl) (hW 47 _ rfl) (by decide) (by decide)) (g := (mkF m 20 #[vr la, .val yy] [(.int (Int32.ofNat xs.length)), (.ref ea), yy, (.ref la)])) rfl (by rw [hml]; rfl) (Steps.refl _) (a := la) (by rw [e6]; exact q11) q11' (argsL := [yy, (.ref ea), (.int (Int32.ofNat xs.length))]) (rest := []) (lenOf pd_25 rfl) rfl (Nat.le_of_eq rfl) (hb hby d23_20) (fun _ _ => ⟨rfl, e6, (by decide : 0 + 0 ≤ _), (by decide : 0 + 0 ≤ _)⟩)
 obtain ⟨e11, k11, z11, rfl, Nq11, gz11, hz11, Kp11, AL11⟩ := hQ11
 have N11 := Fr.app N2 Nq11
 refine oo (fun tt_ kk_ => st11.trans kk_) ?_
 have sz11 : h2.size ≤ T11.heap.size := Kp11.1
 have O11 : Old Z n0 T11.heap := O2.keep Kp11 (allS (by omega) (allS (by omega) all0))
 refine oi (XS.iconst X11.here hx rfl (hb hby d23_23)) ?_
 refine so (A := (T11.setTop (mkF m 24 #[vr la, .val yy] [(.int 1)]))) ?_
 refine own_ret X11 hx hlk hret rfl (Or.inl ⟨rfl, by simp, _, rfl⟩) (hb hby d23_24) (by decide) (by decide) ?_
 skip
 have Kf : Keep h0 T11.heap [la, z11] := (own_wk Kw2 (fun x hx_ => by simp only [List.mem_cons, List.not_mem_nil, or_false] at hx_ ⊢; exact Or.inl hx_)).trans Kp11 (fun x hx_ => Or.inl hx_)
 exact ⟨e11, k11, z11, rfl, N11, gz11, by omega, Kf, AL11⟩
theorem rmAd (l : Launch) (Z : State) (a0 : Array Value) (hw : own_H Z a0) (ws : List Jvm.Cond) (la : Nat) (dq : Nat) (kd : ClassId) (ea : Nat) (ke : ClassId) (xs : List Value) (yy : Value) (mc : Int32) (h0 : Heap) (n0 : Nat) (XO0 : Old Z n0 h0) (g_l : n0 ≤ la) (S_d : Sta Z Z.heap "java/util/ArrayList" "DEFAULTCAPACITY_EMPTY_ELEMENTDATA" "[Ljava/lang/Object;" (.ref dq)) (V_d : Arv Z Z.heap dq kd (.object "java/lang/Object") (0 : Int32) [] .null) (E_d : Exa Z Z.heap dq "[Ljava/lang/Object;") (l_d : dq < n0) (AL : own_al Z h0 dq n0 la ea ke xs mc) (hl : xs.length < 10) (E_y : own_okv Z h0 yy) :
  own_M l Z ym23 cD23 ws 2 (some .boolean) (own_R 4 1 10 56) #[(.ref la), yy] h0 (Q_Ad Z dq la ea xs yy mc h0 n0) := by
 obtain ⟨E_l, F_e, F_z, F_m, E_e, AL⟩ := AL
 rcases AL with ⟨e1, e2, V_e⟩ | ⟨g_e, n_le, O_e, V_e⟩
 ·subst e1
  have e3 := e2.symm
  subst e3
  exact rmAd_1 l Z a0 hw ws la dq kd yy mc h0 n0 XO0 g_l S_d V_d E_d l_d E_l F_e F_z F_m E_y
 ·exact rmAd_2 l Z a0 hw ws la dq kd ea ke xs yy mc h0 n0 XO0 g_l S_d V_d E_d l_d E_l F_e F_z F_m g_e n_le O_e V_e E_e hl E_y
theorem own_al.safe {Z : State} {h : Heap} {dq n0 lo eo z : Nat} {ko : ClassId} {xs : List Value} {mc : Int32} {EL : List (String × Nat)} {vm : Vm} (hal : Z.vm.Alike vm) (S : own_al Z h dq n0 lo eo ko xs mc) (hz : z = lo ∨ z = eo) : Safe Z EL vm h z := by
 rcases hz with rfl | rfl
 ·exact Safe.exa hal S.1 (by decide) (by decide)
 ·exact Safe.exa hal S.2.2.2.2.1 (by decide) (by decide)
theorem own_nref {C : String} {w : Value} (h : w.isRef = true) : narrow (.object C) w = w := by
 rcases ref_cases h with rfl | ⟨a, rfl⟩ <;> rfl
def own_set (Z : State) (h : Heap) (o x lL lK lF : Nat) : Prop := Exa Z h o "com/example/assemble/assemble/SettingText" ∧ Fld Z h o "com/example/assemble/assemble/SettingText" "text" "Ljava/lang/String;" (.ref x) ∧ Fld Z h o "com/example/assemble/assemble/SettingText" "literals" "Ljava/util/List;" (.ref lL) ∧ Fld Z h o "com/example/assemble/assemble/SettingText" "keys" "Ljava/util/List;" (.ref lK) ∧ Fld Z h o "com/example/assemble/assemble/SettingText" "fallbacks" "Ljava/util/List;" (.ref lF)
theorem own_set.ext {Z : State} {h h' : Heap} {o x lL lK lF : Nat} (S : own_set Z h o x lL lK lF) (E : Ext h h') : own_set Z h' o x lL lK lF := ⟨S.1.ext E, S.2.1.ext E, S.2.2.1.ext E, S.2.2.2.1.ext E, S.2.2.2.2.ext E⟩
theorem own_set.keep {Z : State} {h h' : Heap} {o x lL lK lF : Nat} (S : own_set Z h o x lL lK lF) {ws : List Addr} (K : Keep h h' ws) (q : o ∉ ws) : own_set Z h' o x lL lK lF := ⟨S.1.keep K, S.2.1.keep K q, S.2.2.1.keep K q, S.2.2.2.1.keep K q, S.2.2.2.2.keep K q⟩
theorem ef_rmSI (m : MethodId) (x0 : Nat) (x1 : Nat) : entryFrame m #[(.ref x0), (.ref x1)] 2 = mkF m 0 #[vr x0, vr x1] [] := by first | (simp [entryFrame, mkF, argsToLocals, Value.category]; done) | rfl
theorem pn_8 : plainName "com/example/assemble/assemble/SettingText" = true := by first | (simp [plainName, overriddenIn]; done) | decide +kernel
theorem d9_0 : dk cD9 0 (.aload_n 0) 1 := by decide +kernel
theorem d9_1 : dk cD9 1 (.invokespecial 1) 3 := by decide +kernel
theorem d9_4 : dk cD9 4 (.aload_n 0) 1 := by decide +kernel
theorem d9_5 : dk cD9 5 (.new 7) 3 := by decide +kernel
theorem d9_8 : dk cD9 8 .dup 1 := by decide +kernel
theorem d9_9 : dk cD9 9 (.invokespecial 9) 3 := by decide +kernel
theorem d9_12 : dk cD9 12 (.putfield 10) 3 := by decide +kernel
theorem pf_4 : parseFieldDescriptor "Ljava/util/List;" = some (.object "java/util/List") := by decide +kernel
theorem d9_15 : dk cD9 15 (.aload_n 0) 1 := by decide +kernel
theorem d9_16 : dk cD9 16 (.new 7) 3 := by decide +kernel
theorem d9_19 : dk cD9 19 .dup 1 := by decide +kernel
theorem d9_20 : dk cD9 20 (.invokespecial 9) 3 := by decide +kernel
theorem d9_23 : dk cD9 23 (.putfield 16) 3 := by decide +kernel
theorem d9_26 : dk cD9 26 (.aload_n 0) 1 := by decide +kernel
theorem d9_27 : dk cD9 27 (.new 7) 3 := by decide +kernel
theorem d9_30 : dk cD9 30 .dup 1 := by decide +kernel
theorem d9_31 : dk cD9 31 (.invokespecial 9) 3 := by decide +kernel
theorem d9_34 : dk cD9 34 (.putfield 19) 3 := by decide +kernel
theorem d9_37 : dk cD9 37 (.aload_n 0) 1 := by decide +kernel
theorem d9_38 : dk cD9 38 (.aload_n 1) 1 := by decide +kernel
theorem d9_39 : dk cD9 39 (.putfield 22) 3 := by decide +kernel
theorem pf_5 : parseFieldDescriptor "Ljava/lang/String;" = some (.object "java/lang/String") := by decide +kernel
theorem d9_42 : dk cD9 42 .return_ 1 := by decide +kernel
def Q_rmSI (Z : State) (o : Nat) (x : Nat) (dq : Nat) (kd : ClassId) (h0 : Heap) (n0 : Nat) (v : Option Value) (h : Heap) (L : List Loc) : Prop := ∃ lL lK lF : Nat, v = none ∧ Fr n0 L ∧ Keep h0 h [o] ∧ h0.size ≤ lL ∧ lL < lK ∧ lK < lF ∧ lF < h.size ∧ own_set Z h o x lL lK lF ∧ own_al Z h dq n0 lL dq kd [] (0 : Int32) ∧ own_al Z h dq n0 lK dq kd [] (0 : Int32) ∧ own_al Z h dq n0 lF dq kd [] (0 : Int32)
theorem rmSI (l : Launch) (Z : State) (a0 : Array Value) (hw : own_H Z a0) (ws : List Jvm.Cond) (o : Nat) (x : Nat) (dq : Nat) (kd : ClassId) (h0 : Heap) (n0 : Nat) (XO0 : Old Z n0 h0) (g_o : n0 ≤ o) (S_d : Sta Z Z.heap "java/util/ArrayList" "DEFAULTCAPACITY_EMPTY_ELEMENTDATA" "[Ljava/lang/Object;" (.ref dq)) (V_d : Arv Z Z.heap dq kd (.object "java/lang/Object") (0 : Int32) [] .null) (E_d : Exa Z Z.heap dq "[Ljava/lang/Object;") (l_d : dq < n0) (E_o : Exa Z h0 o "com/example/assemble/assemble/SettingText") (F_t : Fld Z h0 o "com/example/assemble/assemble/SettingText" "text" "Ljava/lang/String;" .null) (F_li : Fld Z h0 o "com/example/assemble/assemble/SettingText" "literals" "Ljava/util/List;" .null) (F_ke : Fld Z h0 o "com/example/assemble/assemble/SettingText" "keys" "Ljava/util/List;" .null) (F_fa : Fld Z h0 o "com/example/assemble/assemble/SettingText" "fallbacks" "Ljava/util/List;" .null) :
  own_M l Z ym9 cD9 ws 2 none (own_R 4 3 9 50) #[(.ref o), (.ref x)] h0 (Q_rmSI Z o x dq kd h0 n0) := by
 refine own_open (plainFor_of_name pn_8) ?_
 intro p e s m below meth c s₁ hx hby hlk hret hml hown hnm hZ X0 e0
 have hW := own_hW hw
 have N0 := Fr.nil n0
 refine oo (fun tt_ kk_ => castTop (ef_rmSI m o x) kk_) ?_
 refine so (A := (s₁.setTop (mkF m 0 #[vr o, vr x] []))) ?_
 have K0_ : Keep h0 h0 [o] := Keep.refl h0 [o]
 have lt_o := olt E_o.lt
 refine oi (XS.aloadN X0.here hx rfl (hb hby d9_0) rfl rfl) ?_
 obtain ⟨T1, X1, e1, st1⟩ := initO X0 hx hZ hown (hW 44 _ rfl) (hW 17 _ rfl) (hW 18 _ rfl) e0 (g := (mkF m 1 #[vr o, vr x] [(.ref o)])) rfl (by rw [hml]; rfl) rfl (hb hby d9_1) (by decide) (W := 0) (Nat.le_of_eq rfl) (by decide)
 refine oo st1 ?_
 refine oi (XS.aloadN X1.here hx rfl (hb hby d9_4) rfl rfl) ?_
 obtain ⟨T2, h2, X2, e2, E2, A2, D2, -, st2⟩ := newO X1 hx hZ hown (hW 45 _ rfl) (hW 46 _ rfl) (hW 47 _ rfl) e1 (g := (mkF m 5 #[vr o, vr x] [(.ref o)])) rfl (hb hby d9_5) (by decide) (by decide)
 obtain ⟨b2, g2⟩ : ∃ z, z = h0.size := ⟨_, rfl⟩
 rw [← g2] at A2 D2 st2
 refine oo st2 ?_
 have lt2 := olt A2.lt
 have sz2 : h0.size ≤ h2.size := E2.1
 have O2 : Old Z n0 h2 := XO0.ext E2
 have z2 : n0 ≤ b2 := by have := XO0.1 ▸ XO0.2.1; omega
 have K2 : Keep h0 h2 [o] := K0_.ext E2
 have F2_modCount : Fld Z h2 b2 "java/util/AbstractList" "modCount" "I" (.int 0) := D2 (Or.inl (hW 65 _ rfl)) (ty := .int) pf_2
 have F2_elementData : Fld Z h2 b2 "java/util/ArrayList" "elementData" "[Ljava/lang/Object;" .null := D2 (Or.inl (hW 68 _ rfl)) (ty := (.array (.object "java/lang/Object"))) pf_3
 have F2_size : Fld Z h2 b2 "java/util/ArrayList" "size" "I" (.int 0) := D2 (Or.inl (hW 137 _ rfl)) (ty := .int) pf_2
 refine oi (XS.dup X2.here hx rfl (hb hby d9_8) rfl rfl) ?_
 refine so (A := (T2.setTop (mkF m 9 #[vr o, vr x] [(.ref b2), (.ref b2), (.ref o)]))) ?_
 obtain ⟨_, T3, Lc3, X3, hQ3, st3⟩ := own_c1 X2 <| X2.specialBack hx (y := ym10) rfl hown (mvT hZ (hW 48 _ rfl)) (mvT hZ (hW 49 _ rfl)) (mvT hZ (hW 50 _ rfl)) (by decide) (backOf (W := 2) (rmLI l Z a0 hw [] b2 dq kd h2 n0 O2 (by omega) S_d V_d E_d l_d A2 F2_elementData F2_size F2_modCount) hZ (hW 50 _ rfl) (hW 47 _ rfl) (by decide) (by decide)) (g := (mkF m 9 #[vr o, vr x] [(.ref b2), (.ref b2), (.ref o)])) rfl (by rw [hml]; rfl) (Steps.refl _) (a := b2) (argsL := []) (rest := [(.ref b2), (.ref o)]) (lenOf pd_22 rfl) rfl (Nat.le_of_eq rfl) (hb hby d9_9) (fun _ _ => ⟨rfl, e2, (by decide : 1 + 0 ≤ _), (by decide : 3 + 0 ≤ _)⟩)
 obtain ⟨rfl, Nq3, Kp3, AL3⟩ := hQ3
 have N3 := Fr.app N0 Nq3
 refine oo (fun tt_ kk_ => st3.trans kk_) ?_
 have sz3 : h2.size ≤ T3.heap.size := Kp3.1
 have O3 : Old Z n0 T3.heap := O2.keep Kp3 (allS (by omega) all0)
 have K3 : Keep h0 T3.heap [o] := K2.trans Kp3 (allS (Or.inr (by omega)) all0)
 have f4 : Exa Z T3.heap o "com/example/assemble/assemble/SettingText" := ((E_o.ext E2).keep Kp3)
 have f5 : Fld Z T3.heap o "com/example/assemble/assemble/SettingText" "literals" "Ljava/util/List;" .null := ((F_li.ext E2).keep Kp3 (ninS (one (by omega)) nin0))
 obtain ⟨T6, h6, X6, e6, W6, st6⟩ := putF X3 hx hZ hown (host := "") (Or.inl (hW 69 _ rfl)) Via.refl rfl f5 f4 (Or.inr ⟨(hW 70 _ rfl), rfl, hnm⟩) (hW 40 _ rfl) (ty := (.object "java/util/List")) pf_4 rfl rfl (g := (mkF m 12 #[vr o, vr x] [(.ref b2), (.ref o)])) rfl rfl (hb hby d9_12)
 refine oo st6 ?_
 have N6 := Fr.snoc X6 N3 (by omega : n0 ≤ o)
 have sz6 : h6.size = T3.heap.size := W6.size
 have O6 : Old Z n0 h6 := O3.wr W6 (by omega)
 have K6 : Keep h0 h6 [o] := K3.wr W6 (Or.inl (List.mem_of_getElem? (i := 0) rfl))
 have Fw6 := f5.same W6
 refine oi (XS.aloadN X6.here hx rfl (hb hby d9_15) rfl rfl) ?_
 obtain ⟨T7, h7, X7, e7, E7, A7, D7, -, st7⟩ := newO X6 hx hZ hown (hW 45 _ rfl) (hW 46 _ rfl) (hW 47 _ rfl) e6 (g := (mkF m 16 #[vr o, vr x] [(.ref o)])) rfl (hb hby d9_16) (by decide) (by decide)
 obtain ⟨b7, g7⟩ : ∃ z, z = h6.size := ⟨_, rfl⟩
 rw [← g7] at A7 D7 st7
 refine oo st7 ?_
 have lt7 := olt A7.lt
 have sz7 : h6.size ≤ h7.size := E7.1
 have O7 : Old Z n0 h7 := O6.ext E7
 have z7 : n0 ≤ b7 := by have := O6.1 ▸ O6.2.1; omega
 have K7 : Keep h0 h7 [o] := K6.ext E7
 have F7_modCount : Fld Z h7 b7 "java/util/AbstractList" "modCount" "I" (.int 0) := D7 (Or.inl (hW 65 _ rfl)) (ty := .int) pf_2
 have F7_elementData : Fld Z h7 b7 "java/util/ArrayList" "elementData" "[Ljava/lang/Object;" .null := D7 (Or.inl (hW 68 _ rfl)) (ty := (.array (.object "java/lang/Object"))) pf_3
 have F7_size : Fld Z h7 b7 "java/util/ArrayList" "size" "I" (.int 0) := D7 (Or.inl (hW 137 _ rfl)) (ty := .int) pf_2
 refine oi (XS.dup X7.here hx rfl (hb hby d9_19) rfl rfl) ?_
 refine so (A := (T7.setTop (mkF m 20 #[vr o, vr x] [(.ref b7), (.ref b7), (.ref o)]))) ?_
 obtain ⟨_, T8, Lc8, X8, hQ8, st8⟩ := own_c1 X7 <| X7.specialBack hx (y := ym10) rfl hown (mvT hZ (hW 48 _ rfl)) (mvT hZ (hW 49 _ rfl)) (mvT hZ (hW 50 _ rfl)) (by decide) (backOf (W := 2) (rmLI l Z a0 hw [] b7 dq kd h7 n0 O7 (by omega) S_d V_d E_d l_d A7 F7_elementData F7_size F7_modCount) hZ (hW 50 _ rfl) (hW 47 _ rfl) (by decide) (by decide)) (g := (mkF m 20 #[vr o, vr x] [(.ref b7), (.ref b7), (.ref o)])) rfl (by rw [hml]; rfl) (Steps.refl _) (a := b7) (argsL := []) (rest := [(.ref b7), (.ref o)]) (lenOf pd_22 rfl) rfl (Nat.le_of_eq rfl) (hb hby d9_20) (fun _ _ => ⟨rfl, e7, (by decide : 2 + 0 ≤ _), (by decide : 6 + 0 ≤ _)⟩)
 obtain ⟨rfl, Nq8, Kp8, AL8⟩ := hQ8
 have N8 := Fr.app N6 Nq8
 refine oo (fun tt_ kk_ => st8.trans kk_) ?_
 have sz8 : h7.size ≤ T8.heap.size := Kp8.1
 have O8 : Old Z n0 T8.heap := O7.keep Kp8 (allS (by omega) all0)
 have K8 : Keep h0 T8.heap [o] := K7.trans Kp8 (allS (Or.inr (by omega)) all0)
 have f9 : Exa Z T8.heap o "com/example/assemble/assemble/SettingText" := (((f4.wr W6).ext E7).keep Kp8)
 have f10 : Fld Z T8.heap o "com/example/assemble/assemble/SettingText" "keys" "Ljava/util/List;" .null := (((((F_ke.ext E2).keep Kp3 (ninS (one (by omega)) nin0)).other W6 (Or.inr (slot_ne (Or.inr (hW 72 _ rfl)) (Or.inr (hW 70 _ rfl)) (by decide) pf_4 pf_4))).ext E7).keep Kp8 (ninS (one (by omega)) nin0))
 obtain ⟨T11, h11, X11, e11, W11, st11⟩ := putF X8 hx hZ hown (host := "") (Or.inl (hW 71 _ rfl)) Via.refl rfl f10 f9 (Or.inr ⟨(hW 72 _ rfl), rfl, hnm⟩) (hW 40 _ rfl) (ty := (.object "java/util/List")) pf_4 rfl rfl (g := (mkF m 23 #[vr o, vr x] [(.ref b7), (.ref o)])) rfl rfl (hb hby d9_23)
 refine oo st11 ?_
 have N11 := Fr.snoc X11 N8 (by omega : n0 ≤ o)
 have sz11 : h11.size = T8.heap.size := W11.size
 have O11 : Old Z n0 h11 := O8.wr W11 (by omega)
 have K11 : Keep h0 h11 [o] := K8.wr W11 (Or.inl (List.mem_of_getElem? (i := 0) rfl))
 have Fw11 := f10.same W11
 refine oi (XS.aloadN X11.here hx rfl (hb hby d9_26) rfl rfl) ?_
 obtain ⟨T12, h12, X12, e12, E12, A12, D12, -, st12⟩ := newO X11 hx hZ hown (hW 45 _ rfl) (hW 46 _ rfl) (hW 47 _ rfl) e11 (g := (mkF m 27 #[vr o, vr x] [(.ref o)])) rfl (hb hby d9_27) (by decide) (by decide)
 obtain ⟨b12, g12⟩ : ∃ z, z = h11.size := ⟨_, rfl⟩
 rw [← g12] at A12 D12 st12
 refine oo st12 ?_
 have lt12 := olt A12.lt
 have sz12 : h11.size ≤ h12.size := E12.1
 have O12 : Old Z n0 h12 := O11.ext E12
 have z12 : n0 ≤ b12 := by have := O11.1 ▸ O11.2.1; omega
 have K12 : Keep h0 h12 [o] := K11.ext E12
 have F12_modCount : Fld Z h12 b12 "java/util/AbstractList" "modCount" "I" (.int 0) := D12 (Or.inl (hW 65 _ rfl)) (ty := .int) pf_2
 have F12_elementData : Fld Z h12 b12 "java/util/ArrayList" "elementData" "[Ljava/lang/Object;" .null := D12 (Or.inl (hW 68 _ rfl)) (ty := (.array (.object "java/lang/Object"))) pf_3
 have F12_size : Fld Z h12 b12 "java/util/ArrayList" "size" "I" (.int 0) := D12 (Or.inl (hW 137 _ rfl)) (ty := .int) pf_2
 refine oi (XS.dup X12.here hx rfl (hb hby d9_30) rfl rfl) ?_
 refine so (A := (T12.setTop (mkF m 31 #[vr o, vr x] [(.ref b12), (.ref b12), (.ref o)]))) ?_
 obtain ⟨_, T13, Lc13, X13, hQ13, st13⟩ := own_c1 X12 <| X12.specialBack hx (y := ym10) rfl hown (mvT hZ (hW 48 _ rfl)) (mvT hZ (hW 49 _ rfl)) (mvT hZ (hW 50 _ rfl)) (by decide) (backOf (W := 2) (rmLI l Z a0 hw [] b12 dq kd h12 n0 O12 (by omega) S_d V_d E_d l_d A12 F12_elementData F12_size F12_modCount) hZ (hW 50 _ rfl) (hW 47 _ rfl) (by decide) (by decide)) (g := (mkF m 31 #[vr o, vr x] [(.ref b12), (.ref b12), (.ref o)])) rfl (by rw [hml]; rfl) (Steps.refl _) (a := b12) (argsL := []) (rest := [(.ref b12), (.ref o)]) (lenOf pd_22 rfl) rfl (Nat.le_of_eq rfl) (hb hby d9_31) (fun _ _ => ⟨rfl, e12, (by decide : 3 + 0 ≤ _), (by decide : 9 + 0 ≤ _)⟩)
 obtain ⟨rfl, Nq13, Kp13, AL13⟩ := hQ13
 have N13 := Fr.app N11 Nq13
 refine oo (fun tt_ kk_ => st13.trans kk_) ?_
 have sz13 : h12.size ≤ T13.heap.size := Kp13.1
 have O13 : Old Z n0 T13.heap := O12.keep Kp13 (allS (by omega) all0)
 have K13 : Keep h0 T13.heap [o] := K12.trans Kp13 (allS (Or.inr (by omega)) all0)
 have f14 : Exa Z T13.heap o "com/example/assemble/assemble/SettingText" := (((f9.wr W11).ext E12).keep Kp13)
 have f15 : Fld Z T13.heap o "com/example/assemble/assemble/SettingText" "fallbacks" "Ljava/util/List;" .null := ((((((((F_fa.ext E2).keep Kp3 (ninS (one (by omega)) nin0)).other W6 (Or.inr (slot_ne (Or.inr (hW 74 _ rfl)) (Or.inr (hW 70 _ rfl)) (by decide) pf_4 pf_4))).ext E7).keep Kp8 (ninS (one (by omega)) nin0)).other W11 (Or.inr (slot_ne (Or.inr (hW 74 _ rfl)) (Or.inr (hW 72 _ rfl)) (by decide) pf_4 pf_4))).ext E12).keep Kp13 (ninS (one (by omega)) nin0))
 obtain ⟨T16, h16, X16, e16, W16, st16⟩ := putF X13 hx hZ hown (host := "") (Or.inl (hW 73 _ rfl)) Via.refl rfl f15 f14 (Or.inr ⟨(hW 74 _ rfl), rfl, hnm⟩) (hW 40 _ rfl) (ty := (.object "java/util/List")) pf_4 rfl rfl (g := (mkF m 34 #[vr o, vr x] [(.ref b12), (.ref o)])) rfl rfl (hb hby d9_34)
 refine oo st16 ?_
 have N16 := Fr.snoc X16 N13 (by omega : n0 ≤ o)
 have sz16 : h16.size = T13.heap.size := W16.size
 have O16 : Old Z n0 h16 := O13.wr W16 (by omega)
 have K16 : Keep h0 h16 [o] := K13.wr W16 (Or.inl (List.mem_of_getElem? (i := 0) rfl))
 have Fw16 := f15.same W16
 refine oi (XS.aloadN X16.here hx rfl (hb hby d9_37) rfl rfl) ?_
 refine oi (XS.aloadN X16.here hx rfl (hb hby d9_38) rfl rfl) ?_
 have f17 : Exa Z h16 o "com/example/assemble/assemble/SettingText" := (f14.wr W16)
 have f18 : Fld Z h16 o "com/example/assemble/assemble/SettingText" "text" "Ljava/lang/String;" .null := (((((((((F_t.ext E2).keep Kp3 (ninS (one (by omega)) nin0)).other W6 (Or.inr (slot_ne (Or.inr (hW 76 _ rfl)) (Or.inr (hW 70 _ rfl)) (by decide) pf_5 pf_4))).ext E7).keep Kp8 (ninS (one (by omega)) nin0)).other W11 (Or.inr (slot_ne (Or.inr (hW 76 _ rfl)) (Or.inr (hW 72 _ rfl)) (by decide) pf_5 pf_4))).ext E12).keep Kp13 (ninS (one (by omega)) nin0)).other W16 (Or.inr (slot_ne (Or.inr (hW 76 _ rfl)) (Or.inr (hW 74 _ rfl)) (by decide) pf_5 pf_4)))
 obtain ⟨T19, h19, X19, e19, W19, st19⟩ := putF X16 hx hZ hown (host := "") (Or.inl (hW 75 _ rfl)) Via.refl e16 f18 f17 (Or.inr ⟨(hW 76 _ rfl), rfl, hnm⟩) (hW 40 _ rfl) (ty := (.object "java/lang/String")) pf_5 rfl rfl (g := (mkF m 39 #[vr o, vr x] [(.ref x), (.ref o)])) rfl rfl (hb hby d9_39)
 refine oo st19 ?_
 have N19 := Fr.snoc X19 N16 (by omega : n0 ≤ o)
 have sz19 : h19.size = h16.size := W19.size
 have O19 : Old Z n0 h19 := O16.wr W19 (by omega)
 have K19 : Keep h0 h19 [o] := K16.wr W19 (Or.inl (List.mem_of_getElem? (i := 0) rfl))
 have Fw19 := f18.same W19
 refine so (A := (T19.setTop (mkF m 42 #[vr o, vr x] []))) ?_
 refine own_retV X19 hx hlk hret (hb hby d9_42) (by decide) (by decide) ?_
 rw [e19]
 have f20 : Exa Z h19 o "com/example/assemble/assemble/SettingText" := (f17.wr W19)
 have f21 : Fld Z h19 o "com/example/assemble/assemble/SettingText" "literals" "Ljava/util/List;" (.ref b2) := (((((((Fw6.ext E7).keep Kp8 (ninS (one (by omega)) nin0)).other W11 (Or.inr (slot_ne (Or.inr (hW 70 _ rfl)) (Or.inr (hW 72 _ rfl)) (by decide) pf_4 pf_4))).ext E12).keep Kp13 (ninS (one (by omega)) nin0)).other W16 (Or.inr (slot_ne (Or.inr (hW 70 _ rfl)) (Or.inr (hW 74 _ rfl)) (by decide) pf_4 pf_4))).other W19 (Or.inr (slot_ne (Or.inr (hW 70 _ rfl)) (Or.inr (hW 76 _ rfl)) (by decide) pf_4 pf_5)))
 have f22 : Fld Z h19 o "com/example/assemble/assemble/SettingText" "keys" "Ljava/util/List;" (.ref b7) := ((((Fw11.ext E12).keep Kp13 (ninS (one (by omega)) nin0)).other W16 (Or.inr (slot_ne (Or.inr (hW 72 _ rfl)) (Or.inr (hW 74 _ rfl)) (by decide) pf_4 pf_4))).other W19 (Or.inr (slot_ne (Or.inr (hW 72 _ rfl)) (Or.inr (hW 76 _ rfl)) (by decide) pf_4 pf_5)))
 have f23 : Fld Z h19 o "com/example/assemble/assemble/SettingText" "fallbacks" "Ljava/util/List;" (.ref b12) := (Fw16.other W19 (Or.inr (slot_ne (Or.inr (hW 74 _ rfl)) (Or.inr (hW 76 _ rfl)) (by decide) pf_4 pf_5)))
 have f24 : own_al Z h19 dq n0 b2 dq kd [] (0 : Int32) := ((((((((AL3.wr W6 (one (by omega)) (one (by omega))).ext E7).keep Kp8 (ninS (one (by omega)) nin0) (ninS (one (by omega)) nin0)).wr W11 (one (by omega)) (one (by omega))).ext E12).keep Kp13 (ninS (one (by omega)) nin0) (ninS (one (by omega)) nin0)).wr W16 (one (by omega)) (one (by omega))).wr W19 (one (by omega)) (one (by omega)))
 have f25 : own_al Z h19 dq n0 b7 dq kd [] (0 : Int32) := (((((AL8.wr W11 (one (by omega)) (one (by omega))).ext E12).keep Kp13 (ninS (one (by omega)) nin0) (ninS (one (by omega)) nin0)).wr W16 (one (by omega)) (one (by omega))).wr W19 (one (by omega)) (one (by omega)))
 have f26 : own_al Z h19 dq n0 b12 dq kd [] (0 : Int32) := ((AL13.wr W16 (one (by omega)) (one (by omega))).wr W19 (one (by omega)) (one (by omega)))
 exact ⟨b2, b7, b12, rfl, N19, K19, by omega, by omega, by omega, by omega, ⟨f20, Fw19, f21, f22, f23⟩, f24, f25, f26⟩
theorem ef_rmSz (m : MethodId) (x0 : Nat) : entryFrame m #[(.ref x0)] 1 = mkF m 0 #[vr x0] [] := by first | (simp [entryFrame, mkF, argsToLocals, Value.category]; done) | rfl
theorem d29_0 : dk cD29 0 (.aload_n 0) 1 := by decide +kernel
theorem d29_1 : dk cD29 1 (.getfield 48) 3 := by decide +kernel
theorem d29_4 : dk cD29 4 .ireturn 1 := by decide +kernel
def Q_rmSz (Z : State) (la : Nat) (sz : Int32) (h0 : Heap) (n0 : Nat) (v : Option Value) (h : Heap) (L : List Loc) : Prop := v = some (.int sz) ∧ Fr n0 L ∧ h = h0
theorem rmSz (l : Launch) (Z : State) (a0 : Array Value) (hw : own_H Z a0) (ws : List Jvm.Cond) (la : Nat) (sz : Int32) (h0 : Heap) (n0 : Nat) (XO0 : Old Z n0 h0) (F_z : Fld Z h0 la "java/util/ArrayList" "size" "I" (.int sz)) :
  own_M l Z ym29 cD29 ws 1 (some .int) (own_R 0 0 0 0) #[(.ref la)] h0 (Q_rmSz Z la sz h0 n0) := by
 refine own_open (plainFor_of_name pn_7) ?_
 intro p e s m below meth c s₁ hx hby hlk hret hml hown hnm hZ X0 e0
 have hW := own_hW hw
 have N0 := Fr.nil n0
 refine oo (fun tt_ kk_ => castTop (ef_rmSz m la) kk_) ?_
 refine so (A := (s₁.setTop (mkF m 0 #[vr la] []))) ?_
 refine oi (XS.aloadN X0.here hx rfl (hb hby d29_0) rfl rfl) ?_
 obtain ⟨T1, X1, e1, st1⟩ := getF X0 hx hZ hown (host := "") (Or.inl (hW 136 _ rfl)) Via.refl e0 F_z (g := (mkF m 1 #[vr la] [(.ref la)])) rfl rfl (hb hby d29_1)
 refine oo st1 ?_
 refine so (A := (T1.setTop (mkF m 4 #[vr la] [(.int sz)]))) ?_
 refine own_ret X1 hx hlk hret rfl (Or.inl ⟨rfl, by simp, _, rfl⟩) (hb hby d29_4) (by decide) (by decide) ?_
 rw [e1]
 exact ⟨rfl, N0, rfl⟩
def Q_Ge (yv : Value) (h0 : Heap) (n0 : Nat) (v : Option Value) (h : Heap) (L : List Loc) : Prop := v = some yv ∧ Fr n0 L ∧ h = h0
theorem ef_rmEd (m : MethodId) (x0 : Nat) (x1 : Int32) : entryFrame m #[(.ref x0), (.int x1)] 2 = mkF m 0 #[vr x0, vi x1] [] := by first | (simp [entryFrame, mkF, argsToLocals, Value.category]; done) | rfl
theorem d36_0 : dk cD36 0 (.aload_n 0) 1 := by decide +kernel
theorem d36_1 : dk cD36 1 (.getfield 9) 3 := by decide +kernel
theorem d36_4 : dk cD36 4 (.iload_n 1) 1 := by decide +kernel
theorem d36_5 : dk cD36 5 .aaload 1 := by decide +kernel
theorem d36_6 : dk cD36 6 .areturn 1 := by decide +kernel
theorem rmEd (l : Launch) (Z : State) (a0 : Array Value) (hw : own_H Z a0) (ws : List Jvm.Cond) (la : Nat) (ea : Nat) (ke : ClassId) (xs : List Value) (mc : Int32) (j : Nat) (yv : Value) (h0 : Heap) (n0 : Nat) (XO0 : Old Z n0 h0) (E_l : Exa Z h0 la "java/util/ArrayList") (F_e : Fld Z h0 la "java/util/ArrayList" "elementData" "[Ljava/lang/Object;" (.ref ea)) (F_z : Fld Z h0 la "java/util/ArrayList" "size" "I" (.int (Int32.ofNat xs.length))) (F_m : Fld Z h0 la "java/util/AbstractList" "modCount" "I" (.int mc)) (g_e : n0 ≤ ea) (n_le : la ≠ ea) (O_e : Ovr Z ke "java/lang/Object") (V_e : Arv Z h0 ea ke (.object "java/lang/Object") (10 : Int32) (xs) .null) (E_e : Exa Z h0 ea "[Ljava/lang/Object;") (hi : j < xs.length) (hx9 : xs.length ≤ 9) (hy : xs[j]? = some yv) (h_v : yv.isRef = true) :
  own_M l Z ym36 cD36 ws 2 (some (.object "java/lang/Object")) (own_R 0 0 0 0) #[(.ref la), (.int (Int32.ofNat j))] h0 (Q_Ge yv h0 n0) := by
 refine own_open (plainFor_of_name pn_7) ?_
 intro p e s m below meth c s₁ hx hby hlk hret hml hown hnm hZ X0 e0
 have hW := own_hW hw
 have N0 := Fr.nil n0
 refine oo (fun tt_ kk_ => castTop (ef_rmEd m la (Int32.ofNat j)) kk_) ?_
 refine so (A := (s₁.setTop (mkF m 0 #[vr la, vn j] []))) ?_
 refine oi (XS.aloadN X0.here hx rfl (hb hby d36_0) rfl rfl) ?_
 obtain ⟨T1, X1, e1, st1⟩ := getF X0 hx hZ hown (host := "") (Or.inl (hW 67 _ rfl)) Via.refl e0 F_e (g := (mkF m 1 #[vr la, vn j] [(.ref la)])) rfl rfl (hb hby d36_1)
 refine oo st1 ?_
 refine oi (XS.iloadN X1.here hx rfl (hb hby d36_4) rfl) ?_
 refine so (A := (T1.setTop (mkF m 5 #[vr la, vn j] [(.int (Int32.ofNat j)), (.ref ea)]))) ?_
 obtain ⟨cl2, Ar2, q2, S2, Ng2, H2, G2⟩ := id V_e
 have hin2 : ¬ ((Int32.ofNat j) < 0 ∨ cl2.slots.size ≤ ((Int32.ofNat j)).toNatClampNeg) := inb_of S2 (own_inn (m := 10) (by omega) (by omega))
 have hat2 : cl2.slots[((Int32.ofNat j)).toNatClampNeg]? = some yv := Has.at H2 hin2 (own_hgv (by omega) hy)
 refine oo (fun _ => X1.aaload hx (j := (Int32.ofNat j)) (v := yv) (by rw [e1]; exact Ar2.1) (State.isArrayOf_alike hZ.alike Ar2.2.1) rfl Ar2.2.2 hin2 hat2 (g := (mkF m 5 #[vr la, vn j] [(.int (Int32.ofNat j)), (.ref ea)])) rfl rfl (hb hby d36_5) _) ?_
 refine so (A := (T1.setTop (mkF m 6 #[vr la, vn j] [yv]))) ?_
 refine own_ret X1 hx hlk hret (own_nref h_v) (Or.inr (Or.inr (Or.inr (Or.inr ⟨rfl, rfl, h_v⟩)))) (hb hby d36_6) (by decide) (by decide) ?_
 rw [e1]
 exact ⟨rfl, N0, rfl⟩
theorem ef_rmGe_2 (m : MethodId) (x0 : Nat) (x1 : Int32) : entryFrame m #[(.ref x0), (.int x1)] 2 = mkF m 0 #[vr x0, vi x1] [] := by first | (simp [entryFrame, mkF, argsToLocals, Value.category]; done) | rfl
theorem d33_0 : dk cD33 0 (.iload_n 1) 1 := by decide +kernel
theorem d33_1 : dk cD33 1 (.aload_n 0) 1 := by decide +kernel
theorem d33_2 : dk cD33 2 (.getfield 48) 3 := by decide +kernel
theorem d33_5 : dk cD33 5 (.invokestatic 118) 3 := by decide +kernel
theorem d33_8 : dk cD33 8 .pop 1 := by decide +kernel
theorem d33_9 : dk cD33 9 (.aload_n 0) 1 := by decide +kernel
theorem d33_10 : dk cD33 10 (.iload_n 1) 1 := by decide +kernel
theorem d33_11 : dk cD33 11 (.invokevirtual 123) 3 := by decide +kernel
theorem pd_26 : parseMethodDescriptor "(I)Ljava/lang/Object;" = some ⟨[.int], some (.object "java/lang/Object")⟩ := by decide +kernel
theorem d33_14 : dk cD33 14 .areturn 1 := by decide +kernel
theorem rmGe_2 (l : Launch) (Z : State) (a0 : Array Value) (hw : own_H Z a0) (ws : List Jvm.Cond) (la : Nat) (ea : Nat) (ke : ClassId) (xs : List Value) (mc : Int32) (j : Nat) (yv : Value) (h0 : Heap) (n0 : Nat) (XO0 : Old Z n0 h0) (E_l : Exa Z h0 la "java/util/ArrayList") (F_e : Fld Z h0 la "java/util/ArrayList" "elementData" "[Ljava/lang/Object;" (.ref ea)) (F_z : Fld Z h0 la "java/util/ArrayList" "size" "I" (.int (Int32.ofNat xs.length))) (F_m : Fld Z h0 la "java/util/AbstractList" "modCount" "I" (.int mc)) (g_e : n0 ≤ ea) (n_le : la ≠ ea) (O_e : Ovr Z ke "java/lang/Object") (V_e : Arv Z h0 ea ke (.object "java/lang/Object") (10 : Int32) (xs) .null) (E_e : Exa Z h0 ea "[Ljava/lang/Object;") (hi : j < xs.length) (hx9 : xs.length ≤ 9) (hy : xs[j]? = some yv) (h_v : yv.isRef = true) :
  own_M l Z ym33 cD33 ws 2 (some (.object "java/lang/Object")) (own_R 2 0 0 27) #[(.ref la), (.int (Int32.ofNat j))] h0 (Q_Ge yv h0 n0) := by
 refine own_open (plainFor_of_name pn_7) ?_
 intro p e s m below meth c s₁ hx hby hlk hret hml hown hnm hZ X0 e0
 have hW := own_hW hw
 have N0 := Fr.nil n0
 refine oo (fun tt_ kk_ => castTop (ef_rmGe_2 m la (Int32.ofNat j)) kk_) ?_
 refine so (A := (s₁.setTop (mkF m 0 #[vr la, vn j] []))) ?_
 refine oi (XS.iloadN X0.here hx rfl (hb hby d33_0) rfl) ?_
 refine oi (XS.aloadN X0.here hx rfl (hb hby d33_1) rfl rfl) ?_
 obtain ⟨T1, X1, e1, st1⟩ := getF X0 hx hZ hown (host := "") (Or.inl (hW 136 _ rfl)) Via.refl e0 F_z (g := (mkF m 2 #[vr la, vn j] [(.ref la), (.int (Int32.ofNat j))])) rfl rfl (hb hby d33_2)
 refine oo st1 ?_
 refine so (A := (T1.setTop (mkF m 5 #[vr la, vn j] [(.int (Int32.ofNat xs.length)), (.int (Int32.ofNat j))]))) ?_
 obtain ⟨_, T2, Lc2, X2, hQ2, st2⟩ := own_c1 X1 <| Jvm.LawKit.callS X1 hx (y := ym34) hown (mvT hZ (hW 196 _ rfl)) (mvT hZ (hW 197 _ rfl)) (mvT hZ (hW 198 _ rfl)) (mvT hZ (hW 199 _ rfl)) (by decide) (backOf (W := 0) (rmX2 l Z a0 hw [] (Int32.ofNat j) (Int32.ofNat xs.length) h0 n0 XO0 (own_nn (by omega)) ((own_nlt (by omega) (by omega)).mpr hi)) hZ (hW 199 _ rfl) (hW 198 _ rfl) (by decide) (by decide)) (g := (mkF m 5 #[vr la, vn j] [(.int (Int32.ofNat xs.length)), (.int (Int32.ofNat j))])) rfl (by rw [hml]; rfl) (argsL := [(.int (Int32.ofNat j)), (.int (Int32.ofNat xs.length))]) (rest := []) (lenOf pd_6 rfl) rfl (Nat.le_of_eq rfl) (hb hby d33_5) (fun _ _ => ⟨rfl, e1, (by decide : 0 + 0 ≤ _), (by decide : 0 + 0 ≤ _)⟩)
 obtain ⟨rfl, Nq2, eh2⟩ := hQ2
 have N2 := Fr.app N0 Nq2
 refine oo st2 ?_
 refine oi (XS.pop X2.here hx rfl (hb hby d33_8) rfl rfl) ?_
 refine oi (XS.aloadN X2.here hx rfl (hb hby d33_9) rfl rfl) ?_
 refine oi (XS.iloadN X2.here hx rfl (hb hby d33_10) rfl) ?_
 refine so (A := (T2.setTop (mkF m 11 #[vr la, vn j] [(.int (Int32.ofNat j)), (.ref la)]))) ?_
 obtain ⟨cq3, kq3, q3a, q3b, q3c⟩ := isOf hZ eh2 E_l
 obtain ⟨_, T3, Lc3, X3, hQ3, st3⟩ := own_c1 X2 <| X2.virtualBack hx (y := ym36) (z := ym36) hown (mvT hZ (hW 203 _ rfl)) (mvT hZ (hW 204 _ rfl)) (notFace_of_selects (args := #[]) (mvT hZ (hW 206 _ rfl))) (mvT hZ (hW 206 _ rfl)) (mvT hZ (hW 205 _ rfl)) (by decide) (backOf (W := 0) (rmEd l Z a0 hw [] la ea ke xs mc j yv h0 n0 XO0 E_l F_e F_z F_m g_e n_le O_e V_e E_e hi hx9 hy h_v) hZ (hW 207 _ rfl) (hW 47 _ rfl) (by decide) (by decide)) q3a q3c (g := (mkF m 11 #[vr la, vn j] [(.int (Int32.ofNat j)), (.ref la)])) rfl (by rw [hml]; rfl) (Steps.refl _) (argsL := [(.int (Int32.ofNat j))]) (rest := []) (lenOf pd_26 rfl) rfl (Nat.le_of_eq rfl) (hb hby d33_11) (fun _ _ => ⟨rfl, eh2, (by decide : 0 + 0 ≤ _), (by decide : 0 + 0 ≤ _)⟩)
 obtain ⟨rfl, Nq3, eh3⟩ := hQ3
 have N3 := Fr.app N2 Nq3
 refine oo (fun tt_ kk_ => st3.trans kk_) ?_
 refine so (A := (T3.setTop (mkF m 14 #[vr la, vn j] [yv]))) ?_
 refine own_ret X3 hx hlk hret (own_nref h_v) (Or.inr (Or.inr (Or.inr (Or.inr ⟨rfl, rfl, h_v⟩)))) (hb hby d33_14) (by decide) (by decide) ?_
 rw [eh3]
 exact ⟨rfl, N3, rfl⟩
theorem rmGe (l : Launch) (Z : State) (a0 : Array Value) (hw : own_H Z a0) (ws : List Jvm.Cond) (dq : Nat) (la : Nat) (ea : Nat) (ke : ClassId) (xs : List Value) (mc : Int32) (j : Nat) (yv : Value) (h0 : Heap) (n0 : Nat) (XO0 : Old Z n0 h0) (AL : own_al Z h0 dq n0 la ea ke xs mc) (hi : j < xs.length) (hx9 : xs.length ≤ 9) (hy : xs[j]? = some yv) (h_v : yv.isRef = true) :
  own_M l Z ym33 cD33 ws 2 (some (.object "java/lang/Object")) (own_R 2 0 0 27) #[(.ref la), (.int (Int32.ofNat j))] h0 (Q_Ge yv h0 n0) := by
 obtain ⟨E_l, F_e, F_z, F_m, E_e, AL⟩ := AL
 rcases AL with ⟨e1, e2, V_e⟩ | ⟨g_e, n_le, O_e, V_e⟩
 ·subst e1
  simp at hi
 ·exact rmGe_2 l Z a0 hw ws la ea ke xs mc j yv h0 n0 XO0 E_l F_e F_z F_m g_e n_le O_e V_e E_e hi hx9 hy h_v
theorem ef_rmTo (m : MethodId) (x0 : Nat) : entryFrame m #[(.ref x0)] 1 = mkF m 0 #[vr x0] [] := by first | (simp [entryFrame, mkF, argsToLocals, Value.category]; done) | rfl
theorem d30_0 : dk cD30 0 (.aload_n 0) 1 := by decide +kernel
theorem d30_1 : dk cD30 1 (.getfield 22) 3 := by decide +kernel
theorem d30_4 : dk cD30 4 .areturn 1 := by decide +kernel
def Q_rmTo (Z : State) (o : Nat) (x : Nat) (lL : Nat) (lK : Nat) (lF : Nat) (h0 : Heap) (n0 : Nat) (v : Option Value) (h : Heap) (L : List Loc) : Prop := v = some (.ref x) ∧ Fr n0 L ∧ h = h0
theorem rmTo (l : Launch) (Z : State) (a0 : Array Value) (hw : own_H Z a0) (ws : List Jvm.Cond) (o : Nat) (x : Nat) (lL : Nat) (lK : Nat) (lF : Nat) (h0 : Heap) (n0 : Nat) (XO0 : Old Z n0 h0) (M_o : own_set Z h0 o x lL lK lF) :
  own_M l Z ym30 cD30 ws 1 (some (.object "java/lang/String")) (own_R 0 0 0 0) #[(.ref o)] h0 (Q_rmTo Z o x lL lK lF h0 n0) := by
 refine own_open (plainFor_of_name pn_8) ?_
 intro p e s m below meth c s₁ hx hby hlk hret hml hown hnm hZ X0 e0
 have hW := own_hW hw
 have N0 := Fr.nil n0
 refine oo (fun tt_ kk_ => castTop (ef_rmTo m o) kk_) ?_
 refine so (A := (s₁.setTop (mkF m 0 #[vr o] []))) ?_
 refine oi (XS.aloadN X0.here hx rfl (hb hby d30_0) rfl rfl) ?_
 obtain ⟨T1, X1, e1, st1⟩ := getF X0 hx hZ hown (host := "") (Or.inl (hW 75 _ rfl)) Via.refl e0 M_o.2.1 (g := (mkF m 1 #[vr o] [(.ref o)])) rfl rfl (hb hby d30_1)
 refine oo st1 ?_
 refine so (A := (T1.setTop (mkF m 4 #[vr o] [(.ref x)]))) ?_
 refine own_ret X1 hx hlk hret rfl (Or.inr (Or.inr (Or.inr (Or.inr ⟨rfl, rfl, rfl⟩)))) (hb hby d30_4) (by decide) (by decide) ?_
 rw [e1]
 exact ⟨rfl, N0, rfl⟩
theorem ef_rmPh (m : MethodId) (x0 : Nat) : entryFrame m #[(.ref x0)] 1 = mkF m 0 #[vr x0] [] := by first | (simp [entryFrame, mkF, argsToLocals, Value.category]; done) | rfl
theorem d28_0 : dk cD28 0 (.aload_n 0) 1 := by decide +kernel
theorem d28_1 : dk cD28 1 (.getfield 16) 3 := by decide +kernel
theorem d28_4 : dk cD28 4 (.invokeinterface 84 1) 5 := by decide +kernel
theorem d28_9 : dk cD28 9 .ireturn 1 := by decide +kernel
def Q_rmPh (Z : State) (o : Nat) (x : Nat) (lL : Nat) (lK : Nat) (lF : Nat) (dq : Nat) (ea : Nat) (ke : ClassId) (xs : List Value) (mc : Int32) (h0 : Heap) (n0 : Nat) (v : Option Value) (h : Heap) (L : List Loc) : Prop := v = some (.int (Int32.ofNat xs.length)) ∧ Fr n0 L ∧ h = h0
theorem rmPh (l : Launch) (Z : State) (a0 : Array Value) (hw : own_H Z a0) (ws : List Jvm.Cond) (o : Nat) (x : Nat) (lL : Nat) (lK : Nat) (lF : Nat) (dq : Nat) (ea : Nat) (ke : ClassId) (xs : List Value) (mc : Int32) (h0 : Heap) (n0 : Nat) (XO0 : Old Z n0 h0) (M_o : own_set Z h0 o x lL lK lF) (A_K : own_al Z h0 dq n0 lK ea ke xs mc) :
  own_M l Z ym28 cD28 ws 1 (some .int) (own_R 1 0 0 12) #[(.ref o)] h0 (Q_rmPh Z o x lL lK lF dq ea ke xs mc h0 n0) := by
 refine own_open (plainFor_of_name pn_8) ?_
 intro p e s m below meth c s₁ hx hby hlk hret hml hown hnm hZ X0 e0
 have hW := own_hW hw
 have N0 := Fr.nil n0
 refine oo (fun tt_ kk_ => castTop (ef_rmPh m o) kk_) ?_
 refine so (A := (s₁.setTop (mkF m 0 #[vr o] []))) ?_
 refine oi (XS.aloadN X0.here hx rfl (hb hby d28_0) rfl rfl) ?_
 obtain ⟨T1, X1, e1, st1⟩ := getF X0 hx hZ hown (host := "") (Or.inl (hW 71 _ rfl)) Via.refl e0 M_o.2.2.2.1 (g := (mkF m 1 #[vr o] [(.ref o)])) rfl rfl (hb hby d28_1)
 refine oo st1 ?_
 refine so (A := (T1.setTop (mkF m 4 #[vr o] [(.ref lK)]))) ?_
 obtain ⟨cq2, kq2, q2a, q2b, q2c⟩ := isOf hZ e1 A_K.1
 obtain ⟨_, T2, Lc2, X2, hQ2, st2⟩ := own_c1 X1 <| X1.interfaceBack hx (xi := (⟨"java/util/List", "size", "()I"⟩ : MethodName)) (y := ym29) hown (mvT hZ (hW 165 _ rfl)) (mvT hZ (hW 166 _ rfl)) (mvT hZ (hW 167 _ rfl)) (mvT hZ (hW 168 _ rfl)) (mvT hZ (hW 169 _ rfl)) (mvT hZ (hW 170 _ rfl)) (mvT hZ (hW 171 _ rfl)) (mvT hZ (hW 132 _ rfl)) (by decide) (backOf (W := 0) (rmSz l Z a0 hw [] lK (Int32.ofNat xs.length) h0 n0 XO0 A_K.2.2.1) hZ (hW 172 _ rfl) (hW 47 _ rfl) (by decide) (by decide)) q2a q2b q2c (g := (mkF m 4 #[vr o] [(.ref lK)])) rfl (by rw [hml]; rfl) (Steps.refl _) (argsL := []) (rest := []) (lenOf pd_8 rfl) rfl (Nat.le_of_eq rfl) (hb hby d28_4) (fun _ _ => ⟨rfl, e1, (by decide : 0 + 0 ≤ _), (by decide : 0 + 0 ≤ _)⟩)
 obtain ⟨rfl, Nq2, eh2⟩ := hQ2
 have N2 := Fr.app N0 Nq2
 refine oo (fun tt_ kk_ => st2.trans kk_) ?_
 refine so (A := (T2.setTop (mkF m 9 #[vr o] [(.int (Int32.ofNat xs.length))]))) ?_
 refine own_ret X2 hx hlk hret rfl (Or.inl ⟨rfl, by simp, _, rfl⟩) (hb hby d28_9) (by decide) (by decide) ?_
 rw [eh2]
 exact ⟨rfl, N2, rfl⟩
def Q_Gt (w : Value) (h0 : Heap) (n0 : Nat) (v : Option Value) (h : Heap) (L : List Loc) : Prop := v = some w ∧ Fr n0 L ∧ h = h0
theorem ef_rmG_literal (m : MethodId) (x0 : Nat) (x1 : Int32) : entryFrame m #[(.ref x0), (.int x1)] 2 = mkF m 0 #[vr x0, vi x1] [] := by first | (simp [entryFrame, mkF, argsToLocals, Value.category]; done) | rfl
theorem d32_0 : dk cD32 0 (.aload_n 0) 1 := by decide +kernel
theorem d32_1 : dk cD32 1 (.getfield 10) 3 := by decide +kernel
theorem d32_4 : dk cD32 4 (.iload_n 1) 1 := by decide +kernel
theorem d32_5 : dk cD32 5 (.invokeinterface 88 2) 5 := by decide +kernel
theorem d32_10 : dk cD32 10 (.checkcast 32) 3 := by decide +kernel
theorem d32_13 : dk cD32 13 .areturn 1 := by decide +kernel
theorem rmG_literal (l : Launch) (Z : State) (a0 : Array Value) (hw : own_H Z a0) (ws : List Jvm.Cond) (o : Nat) (x : Nat) (lL : Nat) (lK : Nat) (lF : Nat) (dq : Nat) (ea : Nat) (ke : ClassId) (xs : List Value) (mc : Int32) (j : Nat) (y : Nat) (h0 : Heap) (n0 : Nat) (XO0 : Old Z n0 h0) (M_o : own_set Z h0 o x lL lK lF) (A_l : own_al Z h0 dq n0 lL ea ke xs mc) (hi : j < xs.length) (hx9 : xs.length ≤ 9) (hy : xs[j]? = some (.ref y)) (E_y : Exa Z h0 y "java/lang/String") :
  own_M l Z ym32 cD32 ws 2 (some (.object "java/lang/String")) (own_R 3 0 0 40) #[(.ref o), (.int (Int32.ofNat j))] h0 (Q_Gt (.ref y) h0 n0) := by
 refine own_open (plainFor_of_name pn_8) ?_
 intro p e s m below meth c s₁ hx hby hlk hret hml hown hnm hZ X0 e0
 have hW := own_hW hw
 have N0 := Fr.nil n0
 refine oo (fun tt_ kk_ => castTop (ef_rmG_literal m o (Int32.ofNat j)) kk_) ?_
 refine so (A := (s₁.setTop (mkF m 0 #[vr o, vn j] []))) ?_
 refine oi (XS.aloadN X0.here hx rfl (hb hby d32_0) rfl rfl) ?_
 obtain ⟨T1, X1, e1, st1⟩ := getF X0 hx hZ hown (host := "") (Or.inl (hW 69 _ rfl)) Via.refl e0 M_o.2.2.1 (g := (mkF m 1 #[vr o, vn j] [(.ref o)])) rfl rfl (hb hby d32_1)
 refine oo st1 ?_
 refine oi (XS.iloadN X1.here hx rfl (hb hby d32_4) rfl) ?_
 refine so (A := (T1.setTop (mkF m 5 #[vr o, vn j] [(.int (Int32.ofNat j)), (.ref lL)]))) ?_
 obtain ⟨cq2, kq2, q2a, q2b, q2c⟩ := isOf hZ e1 A_l.1
 obtain ⟨_, T2, Lc2, X2, hQ2, st2⟩ := own_c1 X1 <| X1.interfaceBack hx (xi := ym8494) (y := ym33) hown (mvT hZ (hW 188 _ rfl)) (mvT hZ (hW 189 _ rfl)) (mvT hZ (hW 190 _ rfl)) (mvT hZ (hW 191 _ rfl)) (mvT hZ (hW 192 _ rfl)) (mvT hZ (hW 193 _ rfl)) (mvT hZ (hW 194 _ rfl)) (mvT hZ (hW 132 _ rfl)) (by decide) (backOf (W := 0) (rmGe l Z a0 hw [] dq lL ea ke xs mc j (.ref y) h0 n0 XO0 A_l hi hx9 hy rfl) hZ (hW 195 _ rfl) (hW 47 _ rfl) (by decide) (by decide)) q2a q2b q2c (g := (mkF m 5 #[vr o, vn j] [(.int (Int32.ofNat j)), (.ref lL)])) rfl (by rw [hml]; rfl) (Steps.refl _) (argsL := [(.int (Int32.ofNat j))]) (rest := []) (lenOf pd_26 rfl) rfl (Nat.le_of_eq rfl) (hb hby d32_5) (fun _ _ => ⟨rfl, e1, (by decide : 0 + 0 ≤ _), (by decide : 0 + 0 ≤ _)⟩)
 obtain ⟨rfl, Nq2, eh2⟩ := hQ2
 have N2 := Fr.app N0 Nq2
 refine oo (fun tt_ kk_ => st2.trans kk_) ?_
 obtain ⟨T3, X3, e3, st3⟩ := castY X2 hx hZ hown (hW 208 _ rfl) eh2 (Ins.self E_y) (g := (mkF m 10 #[vr o, vn j] [(.ref y)])) rfl rfl (hb hby d32_10)
 refine oo st3 ?_
 refine so (A := (T3.setTop (mkF m 13 #[vr o, vn j] [(.ref y)]))) ?_
 refine own_ret X3 hx hlk hret rfl (Or.inr (Or.inr (Or.inr (Or.inr ⟨rfl, rfl, rfl⟩)))) (hb hby d32_13) (by decide) (by decide) ?_
 rw [e3]
 exact ⟨rfl, N2, rfl⟩
theorem ef_rmG_key (m : MethodId) (x0 : Nat) (x1 : Int32) : entryFrame m #[(.ref x0), (.int x1)] 2 = mkF m 0 #[vr x0, vi x1] [] := by first | (simp [entryFrame, mkF, argsToLocals, Value.category]; done) | rfl
theorem d61_0 : dk cD61 0 (.aload_n 0) 1 := by decide +kernel
theorem d61_1 : dk cD61 1 (.getfield 16) 3 := by decide +kernel
theorem d61_4 : dk cD61 4 (.iload_n 1) 1 := by decide +kernel
theorem d61_5 : dk cD61 5 (.invokeinterface 88 2) 5 := by decide +kernel
theorem d61_10 : dk cD61 10 (.checkcast 32) 3 := by decide +kernel
theorem d61_13 : dk cD61 13 .areturn 1 := by decide +kernel
theorem rmG_key (l : Launch) (Z : State) (a0 : Array Value) (hw : own_H Z a0) (ws : List Jvm.Cond) (o : Nat) (x : Nat) (lL : Nat) (lK : Nat) (lF : Nat) (dq : Nat) (ea : Nat) (ke : ClassId) (xs : List Value) (mc : Int32) (j : Nat) (y : Nat) (h0 : Heap) (n0 : Nat) (XO0 : Old Z n0 h0) (M_o : own_set Z h0 o x lL lK lF) (A_l : own_al Z h0 dq n0 lK ea ke xs mc) (hi : j < xs.length) (hx9 : xs.length ≤ 9) (hy : xs[j]? = some (.ref y)) (E_y : Exa Z h0 y "java/lang/String") :
  own_M l Z ym61 cD61 ws 2 (some (.object "java/lang/String")) (own_R 3 0 0 40) #[(.ref o), (.int (Int32.ofNat j))] h0 (Q_Gt (.ref y) h0 n0) := by
 refine own_open (plainFor_of_name pn_8) ?_
 intro p e s m below meth c s₁ hx hby hlk hret hml hown hnm hZ X0 e0
 have hW := own_hW hw
 have N0 := Fr.nil n0
 refine oo (fun tt_ kk_ => castTop (ef_rmG_key m o (Int32.ofNat j)) kk_) ?_
 refine so (A := (s₁.setTop (mkF m 0 #[vr o, vn j] []))) ?_
 refine oi (XS.aloadN X0.here hx rfl (hb hby d61_0) rfl rfl) ?_
 obtain ⟨T1, X1, e1, st1⟩ := getF X0 hx hZ hown (host := "") (Or.inl (hW 71 _ rfl)) Via.refl e0 M_o.2.2.2.1 (g := (mkF m 1 #[vr o, vn j] [(.ref o)])) rfl rfl (hb hby d61_1)
 refine oo st1 ?_
 refine oi (XS.iloadN X1.here hx rfl (hb hby d61_4) rfl) ?_
 refine so (A := (T1.setTop (mkF m 5 #[vr o, vn j] [(.int (Int32.ofNat j)), (.ref lK)]))) ?_
 obtain ⟨cq2, kq2, q2a, q2b, q2c⟩ := isOf hZ e1 A_l.1
 obtain ⟨_, T2, Lc2, X2, hQ2, st2⟩ := own_c1 X1 <| X1.interfaceBack hx (xi := ym8494) (y := ym33) hown (mvT hZ (hW 188 _ rfl)) (mvT hZ (hW 189 _ rfl)) (mvT hZ (hW 190 _ rfl)) (mvT hZ (hW 191 _ rfl)) (mvT hZ (hW 192 _ rfl)) (mvT hZ (hW 193 _ rfl)) (mvT hZ (hW 194 _ rfl)) (mvT hZ (hW 132 _ rfl)) (by decide) (backOf (W := 0) (rmGe l Z a0 hw [] dq lK ea ke xs mc j (.ref y) h0 n0 XO0 A_l hi hx9 hy rfl) hZ (hW 195 _ rfl) (hW 47 _ rfl) (by decide) (by decide)) q2a q2b q2c (g := (mkF m 5 #[vr o, vn j] [(.int (Int32.ofNat j)), (.ref lK)])) rfl (by rw [hml]; rfl) (Steps.refl _) (argsL := [(.int (Int32.ofNat j))]) (rest := []) (lenOf pd_26 rfl) rfl (Nat.le_of_eq rfl) (hb hby d61_5) (fun _ _ => ⟨rfl, e1, (by decide : 0 + 0 ≤ _), (by decide : 0 + 0 ≤ _)⟩)
 obtain ⟨rfl, Nq2, eh2⟩ := hQ2
 have N2 := Fr.app N0 Nq2
 refine oo (fun tt_ kk_ => st2.trans kk_) ?_
 obtain ⟨T3, X3, e3, st3⟩ := castY X2 hx hZ hown (hW 208 _ rfl) eh2 (Ins.self E_y) (g := (mkF m 10 #[vr o, vn j] [(.ref y)])) rfl rfl (hb hby d61_10)
 refine oo st3 ?_
 refine so (A := (T3.setTop (mkF m 13 #[vr o, vn j] [(.ref y)]))) ?_
 refine own_ret X3 hx hlk hret rfl (Or.inr (Or.inr (Or.inr (Or.inr ⟨rfl, rfl, rfl⟩)))) (hb hby d61_13) (by decide) (by decide) ?_
 rw [e3]
 exact ⟨rfl, N2, rfl⟩
theorem ef_rmG_fallback (m : MethodId) (x0 : Nat) (x1 : Int32) : entryFrame m #[(.ref x0), (.int x1)] 2 = mkF m 0 #[vr x0, vi x1] [] := by first | (simp [entryFrame, mkF, argsToLocals, Value.category]; done) | rfl
theorem d62_0 : dk cD62 0 (.aload_n 0) 1 := by decide +kernel
theorem d62_1 : dk cD62 1 (.getfield 19) 3 := by decide +kernel
theorem d62_4 : dk cD62 4 (.iload_n 1) 1 := by decide +kernel
theorem d62_5 : dk cD62 5 (.invokeinterface 88 2) 5 := by decide +kernel
theorem d62_10 : dk cD62 10 (.checkcast 32) 3 := by decide +kernel
theorem d62_13 : dk cD62 13 .areturn 1 := by decide +kernel
theorem rmG_fallback (l : Launch) (Z : State) (a0 : Array Value) (hw : own_H Z a0) (ws : List Jvm.Cond) (o : Nat) (x : Nat) (lL : Nat) (lK : Nat) (lF : Nat) (dq : Nat) (ea : Nat) (ke : ClassId) (xs : List Value) (mc : Int32) (j : Nat) (y : Nat) (h0 : Heap) (n0 : Nat) (XO0 : Old Z n0 h0) (M_o : own_set Z h0 o x lL lK lF) (A_l : own_al Z h0 dq n0 lF ea ke xs mc) (hi : j < xs.length) (hx9 : xs.length ≤ 9) (hy : xs[j]? = some (.ref y)) (E_y : Exa Z h0 y "java/lang/String") :
  own_M l Z ym62 cD62 ws 2 (some (.object "java/lang/String")) (own_R 3 0 0 40) #[(.ref o), (.int (Int32.ofNat j))] h0 (Q_Gt (.ref y) h0 n0) := by
 refine own_open (plainFor_of_name pn_8) ?_
 intro p e s m below meth c s₁ hx hby hlk hret hml hown hnm hZ X0 e0
 have hW := own_hW hw
 have N0 := Fr.nil n0
 refine oo (fun tt_ kk_ => castTop (ef_rmG_fallback m o (Int32.ofNat j)) kk_) ?_
 refine so (A := (s₁.setTop (mkF m 0 #[vr o, vn j] []))) ?_
 refine oi (XS.aloadN X0.here hx rfl (hb hby d62_0) rfl rfl) ?_
 obtain ⟨T1, X1, e1, st1⟩ := getF X0 hx hZ hown (host := "") (Or.inl (hW 73 _ rfl)) Via.refl e0 M_o.2.2.2.2 (g := (mkF m 1 #[vr o, vn j] [(.ref o)])) rfl rfl (hb hby d62_1)
 refine oo st1 ?_
 refine oi (XS.iloadN X1.here hx rfl (hb hby d62_4) rfl) ?_
 refine so (A := (T1.setTop (mkF m 5 #[vr o, vn j] [(.int (Int32.ofNat j)), (.ref lF)]))) ?_
 obtain ⟨cq2, kq2, q2a, q2b, q2c⟩ := isOf hZ e1 A_l.1
 obtain ⟨_, T2, Lc2, X2, hQ2, st2⟩ := own_c1 X1 <| X1.interfaceBack hx (xi := ym8494) (y := ym33) hown (mvT hZ (hW 188 _ rfl)) (mvT hZ (hW 189 _ rfl)) (mvT hZ (hW 190 _ rfl)) (mvT hZ (hW 191 _ rfl)) (mvT hZ (hW 192 _ rfl)) (mvT hZ (hW 193 _ rfl)) (mvT hZ (hW 194 _ rfl)) (mvT hZ (hW 132 _ rfl)) (by decide) (backOf (W := 0) (rmGe l Z a0 hw [] dq lF ea ke xs mc j (.ref y) h0 n0 XO0 A_l hi hx9 hy rfl) hZ (hW 195 _ rfl) (hW 47 _ rfl) (by decide) (by decide)) q2a q2b q2c (g := (mkF m 5 #[vr o, vn j] [(.int (Int32.ofNat j)), (.ref lF)])) rfl (by rw [hml]; rfl) (Steps.refl _) (argsL := [(.int (Int32.ofNat j))]) (rest := []) (lenOf pd_26 rfl) rfl (Nat.le_of_eq rfl) (hb hby d62_5) (fun _ _ => ⟨rfl, e1, (by decide : 0 + 0 ≤ _), (by decide : 0 + 0 ≤ _)⟩)
 obtain ⟨rfl, Nq2, eh2⟩ := hQ2
 have N2 := Fr.app N0 Nq2
 refine oo (fun tt_ kk_ => st2.trans kk_) ?_
 obtain ⟨T3, X3, e3, st3⟩ := castY X2 hx hZ hown (hW 208 _ rfl) eh2 (Ins.self E_y) (g := (mkF m 10 #[vr o, vn j] [(.ref y)])) rfl rfl (hb hby d62_10)
 refine oo st3 ?_
 refine so (A := (T3.setTop (mkF m 13 #[vr o, vn j] [(.ref y)]))) ?_
 refine own_ret X3 hx hlk hret rfl (Or.inr (Or.inr (Or.inr (Or.inr ⟨rfl, rfl, rfl⟩)))) (hb hby d62_13) (by decide) (by decide) ?_
 rw [e3]
 exact ⟨rfl, N2, rfl⟩
theorem ef_rmG_fallback0 (m : MethodId) (x0 : Nat) (x1 : Int32) : entryFrame m #[(.ref x0), (.int x1)] 2 = mkF m 0 #[vr x0, vi x1] [] := by first | (simp [entryFrame, mkF, argsToLocals, Value.category]; done) | rfl
theorem rmG_fallback0 (l : Launch) (Z : State) (a0 : Array Value) (hw : own_H Z a0) (ws : List Jvm.Cond) (o : Nat) (x : Nat) (lL : Nat) (lK : Nat) (lF : Nat) (dq : Nat) (ea : Nat) (ke : ClassId) (xs : List Value) (mc : Int32) (j : Nat) (h0 : Heap) (n0 : Nat) (XO0 : Old Z n0 h0) (M_o : own_set Z h0 o x lL lK lF) (A_l : own_al Z h0 dq n0 lF ea ke xs mc) (hi : j < xs.length) (hx9 : xs.length ≤ 9) (hy : xs[j]? = some .null) :
  own_M l Z ym62 cD62 ws 2 (some (.object "java/lang/String")) (own_R 3 0 0 40) #[(.ref o), (.int (Int32.ofNat j))] h0 (Q_Gt .null h0 n0) := by
 refine own_open (plainFor_of_name pn_8) ?_
 intro p e s m below meth c s₁ hx hby hlk hret hml hown hnm hZ X0 e0
 have hW := own_hW hw
 have N0 := Fr.nil n0
 refine oo (fun tt_ kk_ => castTop (ef_rmG_fallback0 m o (Int32.ofNat j)) kk_) ?_
 refine so (A := (s₁.setTop (mkF m 0 #[vr o, vn j] []))) ?_
 refine oi (XS.aloadN X0.here hx rfl (hb hby d62_0) rfl rfl) ?_
 obtain ⟨T1, X1, e1, st1⟩ := getF X0 hx hZ hown (host := "") (Or.inl (hW 73 _ rfl)) Via.refl e0 M_o.2.2.2.2 (g := (mkF m 1 #[vr o, vn j] [(.ref o)])) rfl rfl (hb hby d62_1)
 refine oo st1 ?_
 refine oi (XS.iloadN X1.here hx rfl (hb hby d62_4) rfl) ?_
 refine so (A := (T1.setTop (mkF m 5 #[vr o, vn j] [(.int (Int32.ofNat j)), (.ref lF)]))) ?_
 obtain ⟨cq2, kq2, q2a, q2b, q2c⟩ := isOf hZ e1 A_l.1
 obtain ⟨_, T2, Lc2, X2, hQ2, st2⟩ := own_c1 X1 <| X1.interfaceBack hx (xi := ym8494) (y := ym33) hown (mvT hZ (hW 188 _ rfl)) (mvT hZ (hW 189 _ rfl)) (mvT hZ (hW 190 _ rfl)) (mvT hZ (hW 191 _ rfl)) (mvT hZ (hW 192 _ rfl)) (mvT hZ (hW 193 _ rfl)) (mvT hZ (hW 194 _ rfl)) (mvT hZ (hW 132 _ rfl)) (by decide) (backOf (W := 0) (rmGe l Z a0 hw [] dq lF ea ke xs mc j .null h0 n0 XO0 A_l hi hx9 hy rfl) hZ (hW 195 _ rfl) (hW 47 _ rfl) (by decide) (by decide)) q2a q2b q2c (g := (mkF m 5 #[vr o, vn j] [(.int (Int32.ofNat j)), (.ref lF)])) rfl (by rw [hml]; rfl) (Steps.refl _) (argsL := [(.int (Int32.ofNat j))]) (rest := []) (lenOf pd_26 rfl) rfl (Nat.le_of_eq rfl) (hb hby d62_5) (fun _ _ => ⟨rfl, e1, (by decide : 0 + 0 ≤ _), (by decide : 0 + 0 ≤ _)⟩)
 obtain ⟨rfl, Nq2, eh2⟩ := hQ2
 have N2 := Fr.app N0 Nq2
 refine oo (fun tt_ kk_ => st2.trans kk_) ?_
 refine oo (fun _ => X2.checkcastNull hx (g := (mkF m 10 #[vr o, vn j] [.null])) rfl rfl (hb hby d62_10) _) ?_
 refine so (A := (T2.setTop (mkF m 13 #[vr o, vn j] [.null]))) ?_
 refine own_ret X2 hx hlk hret rfl (Or.inr (Or.inr (Or.inr (Or.inr ⟨rfl, rfl, rfl⟩)))) (hb hby d62_13) (by decide) (by decide) ?_
 rw [eh2]
 exact ⟨rfl, N2, rfl⟩
theorem ef_rmPa (m : MethodId) (x0 : Nat) : entryFrame m #[(.ref x0)] 8 = mkF m 0 #[vr x0, uu, uu, uu, uu, uu, uu, uu] [] := by first | (simp [entryFrame, mkF, argsToLocals, Value.category]; done) | rfl
theorem d8_0 : dk cD8 0 (.new 11) 3 := by decide +kernel
theorem d8_3 : dk cD8 3 .dup 1 := by decide +kernel
theorem d8_4 : dk cD8 4 (.aload_n 0) 1 := by decide +kernel
theorem d8_5 : dk cD8 5 (.invokespecial 26) 3 := by decide +kernel
theorem pd_27 : parseMethodDescriptor "(Ljava/lang/String;)V" = some ⟨[(.object "java/lang/String")], none⟩ := by decide +kernel
theorem d8_8 : dk cD8 8 (.astore_n 1) 1 := by decide +kernel
theorem d8_9 : dk cD8 9 (.iconst 0) 1 := by decide +kernel
theorem d8_10 : dk cD8 10 (.istore_n 2) 1 := by decide +kernel
theorem d8_11 : dk cD8 11 (.aload_n 0) 1 := by decide +kernel
theorem d8_12 : dk cD8 12 (.ldc 29) 2 := by decide +kernel
theorem d8_14 : dk cD8 14 (.invokevirtual 31) 3 := by decide +kernel
theorem d8_17 : dk cD8 17 (.istore_n 3) 1 := by decide +kernel
theorem d8_18 : dk cD8 18 (.iload_n 3) 1 := by decide +kernel
theorem d8_19 : dk cD8 19 (.ifCond .lt 168) 3 := by decide +kernel
theorem d8_187 : dk cD8 187 (.aload_n 1) 1 := by decide +kernel
theorem d8_188 : dk cD8 188 (.getfield 10) 3 := by decide +kernel
theorem d8_191 : dk cD8 191 (.aload_n 0) 1 := by decide +kernel
theorem d8_192 : dk cD8 192 (.iload_n 2) 1 := by decide +kernel
theorem d8_193 : dk cD8 193 (.invokevirtual 71) 3 := by decide +kernel
theorem pd_28 : parseMethodDescriptor "(I)Ljava/lang/String;" = some ⟨[.int], some (.object "java/lang/String")⟩ := by decide +kernel
theorem d8_196 : dk cD8 196 (.invokeinterface 65 2) 5 := by decide +kernel
theorem pd_29 : parseMethodDescriptor "(Ljava/lang/Object;)Z" = some ⟨[(.object "java/lang/Object")], some .boolean⟩ := by decide +kernel
theorem d8_201 : dk cD8 201 .pop 1 := by decide +kernel
theorem d8_202 : dk cD8 202 (.aload_n 1) 1 := by decide +kernel
theorem d8_203 : dk cD8 203 .areturn 1 := by decide +kernel
theorem d8_22 : dk cD8 22 (.aload_n 0) 1 := by decide +kernel
theorem d8_23 : dk cD8 23 (.bipush 125) 2 := by decide +kernel
theorem d8_25 : dk cD8 25 (.iload_n 3) 1 := by decide +kernel
theorem d8_26 : dk cD8 26 (.invokevirtual 37) 3 := by decide +kernel
theorem d8_29 : dk cD8 29 (.istore 4) 2 := by decide +kernel
theorem d8_31 : dk cD8 31 (.iload 4) 2 := by decide +kernel
theorem d8_33 : dk cD8 33 (.ifCond .ge 10) 3 := by decide +kernel
theorem d8_43 : dk cD8 43 (.aload_n 0) 1 := by decide +kernel
theorem d8_44 : dk cD8 44 (.iload_n 3) 1 := by decide +kernel
theorem d8_45 : dk cD8 45 (.iconst 2) 1 := by decide +kernel
theorem d8_46 : dk cD8 46 .iadd 1 := by decide +kernel
theorem d8_47 : dk cD8 47 (.iload 4) 2 := by decide +kernel
theorem d8_49 : dk cD8 49 (.invokevirtual 46) 3 := by decide +kernel
theorem d8_52 : dk cD8 52 (.astore 5) 2 := by decide +kernel
theorem d8_54 : dk cD8 54 (.aload 5) 2 := by decide +kernel
theorem d8_56 : dk cD8 56 (.ldc 29) 2 := by decide +kernel
theorem d8_58 : dk cD8 58 (.invokevirtual 50) 3 := by decide +kernel
theorem pd_30 : parseMethodDescriptor "(Ljava/lang/CharSequence;)Z" = some ⟨[(.object "java/lang/CharSequence")], some .boolean⟩ := by decide +kernel
theorem d8_61 : dk cD8 61 (.ifCond .eq 10) 3 := by decide +kernel
theorem d8_71 : dk cD8 71 (.aload 5) 2 := by decide +kernel
theorem d8_73 : dk cD8 73 (.bipush 58) 2 := by decide +kernel
theorem d8_75 : dk cD8 75 (.invokevirtual 56) 3 := by decide +kernel
theorem pd_31 : parseMethodDescriptor "(I)I" = some ⟨[.int], some .int⟩ := by decide +kernel
theorem d8_78 : dk cD8 78 (.istore 6) 2 := by decide +kernel
theorem d8_80 : dk cD8 80 (.iload 6) 2 := by decide +kernel
theorem d8_82 : dk cD8 82 (.ifCond .ge 8) 3 := by decide +kernel
theorem d8_85 : dk cD8 85 (.aload 5) 2 := by decide +kernel
theorem d8_87 : dk cD8 87 (.goto 11) 3 := by decide +kernel
theorem d8_98 : dk cD8 98 (.astore 7) 2 := by decide +kernel
theorem d8_100 : dk cD8 100 (.aload 7) 2 := by decide +kernel
theorem d8_102 : dk cD8 102 (.invokevirtual 59) 3 := by decide +kernel
theorem d8_105 : dk cD8 105 (.ifCond .eq 10) 3 := by decide +kernel
theorem d8_115 : dk cD8 115 (.aload_n 1) 1 := by decide +kernel
theorem d8_116 : dk cD8 116 (.getfield 10) 3 := by decide +kernel
theorem d8_119 : dk cD8 119 (.aload_n 0) 1 := by decide +kernel
theorem d8_120 : dk cD8 120 (.iload_n 2) 1 := by decide +kernel
theorem d8_121 : dk cD8 121 (.iload_n 3) 1 := by decide +kernel
theorem d8_122 : dk cD8 122 (.invokevirtual 46) 3 := by decide +kernel
theorem d8_125 : dk cD8 125 (.invokeinterface 65 2) 5 := by decide +kernel
theorem d8_130 : dk cD8 130 .pop 1 := by decide +kernel
theorem d8_131 : dk cD8 131 (.aload_n 1) 1 := by decide +kernel
theorem d8_132 : dk cD8 132 (.getfield 16) 3 := by decide +kernel
theorem d8_135 : dk cD8 135 (.aload 7) 2 := by decide +kernel
theorem d8_137 : dk cD8 137 (.invokeinterface 65 2) 5 := by decide +kernel
theorem d8_142 : dk cD8 142 .pop 1 := by decide +kernel
theorem d8_143 : dk cD8 143 (.aload_n 1) 1 := by decide +kernel
theorem d8_144 : dk cD8 144 (.getfield 19) 3 := by decide +kernel
theorem d8_147 : dk cD8 147 (.iload 6) 2 := by decide +kernel
theorem d8_149 : dk cD8 149 (.ifCond .ge 7) 3 := by decide +kernel
theorem d8_152 : dk cD8 152 .aconst_null 1 := by decide +kernel
theorem d8_153 : dk cD8 153 (.goto 12) 3 := by decide +kernel
theorem d8_165 : dk cD8 165 (.invokeinterface 65 2) 5 := by decide +kernel
theorem d8_170 : dk cD8 170 .pop 1 := by decide +kernel
theorem d8_171 : dk cD8 171 (.iload 4) 2 := by decide +kernel
theorem d8_173 : dk cD8 173 (.iconst 1) 1 := by decide +kernel
theorem d8_174 : dk cD8 174 .iadd 1 := by decide +kernel
theorem d8_175 : dk cD8 175 (.istore_n 2) 1 := by decide +kernel
theorem d8_176 : dk cD8 176 (.aload_n 0) 1 := by decide +kernel
theorem d8_177 : dk cD8 177 (.ldc 29) 2 := by decide +kernel
theorem d8_179 : dk cD8 179 (.iload_n 2) 1 := by decide +kernel
theorem d8_180 : dk cD8 180 (.invokevirtual 74) 3 := by decide +kernel
theorem pd_32 : parseMethodDescriptor "(Ljava/lang/String;I)I" = some ⟨[(.object "java/lang/String"), .int], some .int⟩ := by decide +kernel
theorem d8_183 : dk cD8 183 (.istore_n 3) 1 := by decide +kernel
theorem d8_184 : dk cD8 184 (.goto (-166)) 3 := by decide +kernel
theorem d8_90 : dk cD8 90 (.aload 5) 2 := by decide +kernel
theorem d8_92 : dk cD8 92 (.iconst 0) 1 := by decide +kernel
theorem d8_93 : dk cD8 93 (.iload 6) 2 := by decide +kernel
theorem d8_95 : dk cD8 95 (.invokevirtual 46) 3 := by decide +kernel
theorem d8_156 : dk cD8 156 (.aload 5) 2 := by decide +kernel
theorem d8_158 : dk cD8 158 (.iload 6) 2 := by decide +kernel
theorem d8_160 : dk cD8 160 (.iconst 1) 1 := by decide +kernel
theorem d8_161 : dk cD8 161 .iadd 1 := by decide +kernel
theorem d8_162 : dk cD8 162 (.invokevirtual 71) 3 := by decide +kernel
def Q_rmPa (Z : State) (x : Nat) (cs : List Int32) (pls : List own_Pl) (dq : Nat) (kd : ClassId) (Gc : Int32) (fm : Value) (h0 : Heap) (n0 : Nat) (v : Option Value) (h : Heap) (L : List Loc) : Prop := ∃ (o lL lK lF eL eK eF : Nat) (kL kK kF : ClassId) (xL xK xF : List Value) (mL mK mF : Int32), v = some (.ref o) ∧ Fr n0 L ∧ Keep h0 h [] ∧ own_set Z h o x lL lK lF ∧ own_al Z h dq n0 lL eL kL xL mL ∧ own_al Z h dq n0 lK eK kK xK mK ∧ own_al Z h dq n0 lF eF kF xF mF ∧ own_cont Z h xL (own_lits cs 0 pls) ∧ own_cont Z h xK (own_keys cs pls) ∧ own_cont Z h xF (own_fbs cs pls)
theorem rmPa (l : Launch) (Z : State) (a0 : Array Value) (hw : ∀ d ∈ tables_1, d.before a0 Z = true) (ws : List Jvm.Cond) (x : Nat) (cs : List Int32) (pls : List own_Pl) (dq : Nat) (kd : ClassId) (Gc : Int32) (fm : Value) (h0 : Heap) (n0 : Nat) (hEL : EW Z a0 own_EL) (XO0 : Old Z n0 h0) (Oc : Sta Z Z.heap "java/lang/String" "COMPACT_STRINGS" "Z" (.int Gc)) (Pc : ¬ (Gc = (0 : Int32))) (Of : Sta Z Z.heap "jdk/internal/util/Preconditions" "SIOOBE_FORMATTER" "Ljava/util/function/BiFunction;" fm) (hfm : fm.isRef = true) (S_d : Sta Z Z.heap "java/util/ArrayList" "DEFAULTCAPACITY_EMPTY_ELEMENTDATA" "[Ljava/lang/Object;" (.ref dq)) (V_d : Arv Z Z.heap dq kd (.object "java/lang/Object") (0 : Int32) [] .null) (E_d : Exa Z Z.heap dq "[Ljava/lang/Object;") (l_d : dq < n0) (S_x : own_sr Z h0 x cs) (hl : cs.length = 22) (hps : own_ps cs 0 pls) (hpl : pls.length ≤ 2) :
  MetFree l ym8 (head1 (Jvm.Cond.code ym8 cD8 8 (some (.object "com/example/assemble/assemble/SettingText")) :: ws) (own_R 6 41 406 116)) (fun zz_ U => zz_ = #[(.ref x)] ∧ Z.Warmed39 U.vm ∧ U.heap = h0 ∧ CHv Z own_EL U.vm h0) (fun _ _ _ _ _ => True) (fun _ U o U' => ∃ v L, o = .returned v ∧ Q_rmPa Z x cs pls dq kd Gc fm h0 n0 v U'.heap L ∧ CHr Z own_EL U.vm U.heap U'.vm U'.heap ∧ ReturnedEndW U o U' L (own_R 6 41 406 116).cells (own_R 6 41 406 116).slots) := by
 refine MetFree.of_bodySF (plainFor_of_name pn_8) hisR ?_
 intro p e s m args below meth c s₁ Bd hml0 hP hK
 obtain ⟨rfl, hZ, hh, hCH⟩ := hP
 have hx := Bd.exec
 have hby := Bd.bytes
 have hlk := Bd.notSynchronized
 have hW : ∀ (i : Nat) (d : Jvm.Cond), tables_1[i]? = some d → d.before a0 Z = true := fun i d h => hw d (List.mem_of_getElem? h)
 have hml : c.maxLocals = 8 := hml0
 have hown : s.vm.findClass "com/example/assemble/assemble/SettingText" = some m.cls := findClass_of_methodNamed Bd.named
 have hnm := (name_of_methodNamed Bd.named Bd.method).1
 have X0 : Stand p l e (own_R 6 41 406 116) (s.setVm s.vm) m #[(.ref x)] below meth c s₁ [] 0 0 := Stand.of_body Bd
 have e0 : s₁.heap = h0 := by rw [← hh, Bd.state]; rfl
 have N0 := Fr.nil n0
 have hS0 : s.Since s.vm 0 := (State.WarmedH.refl s).since 0
 have CH0 : CHr Z own_EL s.vm s.heap s.vm h0 := by rw [hh]; exact CHr.refl hCH
 refine own_inc ?_
 refine oc (fun tt_ kk_ => castTop (ef_rmPa m x) kk_) ?_
 refine sc (A := (s₁.setTop (mkF m 0 #[vr x, uu, uu, uu, uu, uu, uu, uu] []))) ?_
 have K0_ : Keep h0 h0 [] := Keep.refl h0 []
 have wS : ∀ a ∈ Bundle.stringAtoms, a.before a0 Z = true := fun d hd => hw d ((by decide +kernel : ∀ d ∈ Bundle.stringAtoms, d ∈ tables_1) d hd)
 have Ex_x := S_x.exa
 obtain ⟨T1, h1, X1, e1, E1, A1, D1, -, st1⟩ := newO X0 hx hZ hown (hW 39 _ rfl) (hW 40 _ rfl) (hW 37 _ rfl) e0 (g := (mkF m 0 #[vr x, uu, uu, uu, uu, uu, uu, uu] [])) rfl (hb hby d8_0) (by decide) (by decide)
 obtain ⟨b1, g1⟩ : ∃ z, z = h0.size := ⟨_, rfl⟩
 rw [← g1] at A1 D1 st1
 refine oc st1 ?_
 have lt1 := olt A1.lt
 have sz1 : h0.size ≤ h1.size := E1.1
 have O1 : Old Z n0 h1 := XO0.ext E1
 have z1 : n0 ≤ b1 := by have := XO0.1 ▸ XO0.2.1; omega
 have CHs1 := CHr.ext E1 CH0.1
 have Sf1 := Safe.ext E1 CH0.1 (Safe.new (Nat.le_of_eq g1.symm))
 have CH1 := CH0.trans CHs1
 have K1 : Keep h0 h1 [] := K0_.ext E1
 have F1_literals : Fld Z h1 b1 "com/example/assemble/assemble/SettingText" "literals" "Ljava/util/List;" .null := D1 (Or.inr (hW 70 _ rfl)) (ty := (.object "java/util/List")) pf_4
 have F1_keys : Fld Z h1 b1 "com/example/assemble/assemble/SettingText" "keys" "Ljava/util/List;" .null := D1 (Or.inr (hW 72 _ rfl)) (ty := (.object "java/util/List")) pf_4
 have F1_fallbacks : Fld Z h1 b1 "com/example/assemble/assemble/SettingText" "fallbacks" "Ljava/util/List;" .null := D1 (Or.inr (hW 74 _ rfl)) (ty := (.object "java/util/List")) pf_4
 have F1_text : Fld Z h1 b1 "com/example/assemble/assemble/SettingText" "text" "Ljava/lang/String;" .null := D1 (Or.inr (hW 76 _ rfl)) (ty := (.object "java/lang/String")) pf_5
 refine ci (XS.dup X1.here hx rfl (hb hby d8_3) rfl rfl) ?_
 refine ci (XS.aloadN X1.here hx rfl (hb hby d8_4) rfl rfl) ?_
 refine sc (A := (T1.setTop (mkF m 5 #[vr x, uu, uu, uu, uu, uu, uu, uu] [(.ref x), (.ref b1), (.ref b1)]))) ?_
 obtain ⟨_, T2, Lc2, X2, hQ2, st2⟩ := own_c1 X1 <| X1.specialBack hx (y := ym9) rfl hown (mvT hZ (hW 41 _ rfl)) (mvT hZ (hW 42 _ rfl)) (mvT hZ (hW 43 _ rfl)) (by decide) (backOf (W := 1) (rmSI l Z a0 hw [] b1 x dq kd h1 n0 O1 (by omega) S_d V_d E_d l_d A1 F1_text F1_literals F1_keys F1_fallbacks) hZ (hW 43 _ rfl) (hW 37 _ rfl) (by decide) (by decide)) (g := (mkF m 5 #[vr x, uu, uu, uu, uu, uu, uu, uu] [(.ref x), (.ref b1), (.ref b1)])) rfl (by rw [hml]; rfl) (Steps.refl _) (a := b1) (argsL := [(.ref x)]) (rest := [(.ref b1)]) (lenOf pd_27 rfl) rfl (Nat.le_of_eq rfl) (hb hby d8_5) (fun _ _ => ⟨rfl, e1, (by decide : 1 + 3 ≤ _), (by decide : 4 + 9 ≤ _)⟩)
 obtain ⟨lL2, lK2, lF2, rfl, Nq2, Kp2, g12, g22, g32, g42, Ms2, AL2, AK2, AF2⟩ := hQ2
 have N2 := Fr.app N0 Nq2
 refine oc (fun tt_ kk_ => st2.trans kk_) ?_
 have CHs2 := CHr.keep Kp2 (allS Sf1 all0) CH1.1
 have CH2 := CH1.trans CHs2
 have sz2 : h1.size ≤ T2.heap.size := Kp2.1
 have O2 : Old Z n0 T2.heap := O1.keep Kp2 (allS (by omega) all0)
 have K2 : Keep h0 T2.heap [] := K1.trans Kp2 (allS (Or.inr (by omega)) all0)
 refine ci (XS.astoreN X2.here hx rfl (hb hby d8_8) rfl rfl (l' := #[vr x, vr b1, uu, uu, uu, uu, uu, uu]) rfl) ?_
 refine ci (XS.iconst X2.here hx rfl (hb hby d8_9)) ?_
 refine ci (XS.istoreN X2.here hx rfl (hb hby d8_10) rfl (l' := #[vr x, vr b1, vz, uu, uu, uu, uu, uu]) rfl) ?_
 refine ci (XS.aloadN X2.here hx rfl (hb hby d8_11) rfl rfl) ?_
 obtain ⟨b3, T3, h3, k3, t3, kb3, X3, e3, E3, hS3, hk3, hZ3, hown3, Ex3, Cx3, Vx3, Kx3, la3, lb3, CHs3, -, hne3, st3⟩ := ldcCH X2 hx hZ hown (hW 77 _ rfl) wS rfl hS0 (by omega : 0 ≤ T2.heap.size) hEL (by decide +kernel) CH2.1 (vs := [.int 36, .int 123]) (z := 2) ⟨by decide +kernel, by decide +kernel⟩ (by decide +kernel) (by decide +kernel) (g := (mkF m 12 #[vr x, vr b1, vz, uu, uu, uu, uu, uu] [(.ref x)])) rfl (hb hby d8_12) (n := 8) (by decide +kernel) (by decide) (by decide) (by decide)
 have CH3 := CH2.trans CHs3
 have Ss3 : own_sr Z h3 b3 ([36, 123] : List Int32) := ⟨by decide, by decide, t3, kb3, Ex3, Vx3, Cx3, Kx3⟩
 refine oc st3 ?_
 have sz3 : T2.heap.size ≤ h3.size := E3.1
 have O3 : Old Z n0 h3 := O2.ext E3
 have K3 : Keep h0 h3 [] := K2.ext E3
 have lla3 := olt la3
 have llb3 := olt lb3
 refine sc (A := (T3.setTop (mkF m 14 #[vr x, vr b1, vz, uu, uu, uu, uu, uu] [(.ref b3), (.ref x)]))) ?_
 have f4 : own_sr Z h3 x cs := S_x.keep K3 nin0
 have f6 : Exa Z h3 x "java/lang/String" := Ex_x.keep K3
 obtain ⟨cq5, kq5, q5a, q5b, q5c⟩ := isOf hZ3 e3 f6
 obtain ⟨_, T5, Lc5, X5, hQ5, st5⟩ := own_c1 X3 <| X3.virtualBack hx (y := ym13) (z := ym13) hown3 (mvT hZ3 (hW 80 _ rfl)) (mvT hZ3 (hW 81 _ rfl)) (notFace_of_selects (args := #[]) (mvT hZ3 (hW 83 _ rfl))) (mvT hZ3 (hW 83 _ rfl)) (mvT hZ3 (hW 82 _ rfl)) (by decide) (backOf (W := 0) (rmS1 l Z a0 hw [] x cs b3 Gc h3 n0 O3 Oc Pc f4 Ss3 (by omega)) hZ3 (hW 84 _ rfl) (hW 8 _ rfl) (by decide) (by decide)) q5a q5c (g := (mkF m 14 #[vr x, vr b1, vz, uu, uu, uu, uu, uu] [(.ref b3), (.ref x)])) rfl (by rw [hml]; rfl) (Steps.refl _) (argsL := [(.ref b3)]) (rest := []) (lenOf pd_12 rfl) rfl (Nat.le_of_eq rfl) (hb hby d8_14) (fun _ _ => ⟨rfl, e3, (by decide : 6 + 0 ≤ _), (by decide : 25 + 0 ≤ _)⟩)
 obtain ⟨r5, rfl, hr5, Nq5, eh5⟩ := hQ5
 have N5 := Fr.app N2 Nq5
 refine oc (fun tt_ kk_ => st5.trans kk_) ?_
 refine ci (XS.istoreN X5.here hx rfl (hb hby d8_17) rfl (l' := #[vr x, vr b1, vz, vi r5, uu, uu, uu, uu]) rfl) ?_
 refine sc (A := (T5.setTop (mkF m 18 #[vr x, vr b1, vz, vi r5, uu, uu, uu, uu] []))) ?_
 have J18_2 : ∀ (H : Heap) (T' : State) (vm' : Vm) (k' : Nat) (ls : List Loc) (f : Nat) (r : Int32) (eL eK eF : Nat) (kL kK kF : ClassId) (xL xK xF : List Value) (mL mK mF : Int32) (cL cK cF : List (Option (List Int32))) (rs : List own_Pl) (l4 l5 l6 l7 : Slot), (Stand p l e (own_R 6 41 406 116) (s.setVm vm') m #[.ref x] below meth c T' ls 38 370) → (T'.heap = H) → (Fr n0 ls) → (Old Z n0 H) → (Keep h0 H []) → (s.Since vm' k') → (k' ≤ H.size) → (Z.Warmed39 (s.setVm vm').vm) → ((s.setVm vm').vm.findClass "com/example/assemble/assemble/SettingText" = some m.cls) → (CHr Z own_EL s.vm s.heap vm' H) → (own_set Z H b1 x lL2 lK2 lF2) → (own_al Z H dq n0 lL2 eL kL xL mL) → (own_al Z H dq n0 lK2 eK kK xK mK) → (own_al Z H dq n0 lF2 eF kF xF mF) → (own_cont Z H xL cL) → (own_cont Z H xK cK) → (own_cont Z H xF cF) → (cL ++ own_lits cs f rs = own_lits cs 0 pls) → (cK ++ own_keys cs rs = own_keys cs pls) → (cF ++ own_fbs cs rs = own_fbs cs pls) → (own_ps cs f rs) → (own_ixs cs f r) → (rs.length + 2 ≤ 2) → (xL.length = 2) → (xK.length = 2) → (xF.length = 2) → (lF2 < eL) → (eL < eK) → (eK < eF) → ((l4 = .unset ∨ ∃ z, l4 = vi z)) → ((l5 = .unset ∨ ∃ z : Nat, l5 = vr z)) → ((l6 = .unset ∨ ∃ z, l6 = vi z)) → ((l7 = .unset ∨ ∃ z : Nat, l7 = vr z)) → own_gc p e below s Z own_EL (Q_rmPa Z x cs pls dq kd Gc fm h0 n0) ((own_R 6 41 406 116)).cells ((own_R 6 41 406 116)).slots (T'.setTop (mkF m 18 #[vr x, vr b1, vn f, vi r, l4, l5, l6, l7] [])) := by
  intro H T' vm' k' ls f r eL eK eF kL kK kF xL xK xF mL mK mF cL cK cF rs l4 l5 l6 l7 X' e' N' O' K' hS' hk' hZj hownj CH' M_o A_L A_K A_F c_L c_K c_F u_L u_K u_F hP hr hn n_L n_K n_F or0 or1 or2 o4 o5 o6 o7
  have lA := A_L.lt2
  have lB := A_K.lt2
  have lC := A_F.lt2
  have lM := olt M_o.1.lt
  obtain rfl : rs = [] := List.eq_nil_of_length_eq_zero (by omega)
  obtain rfl : r = -1 := own_ix_nil hl hP hr
  refine sc (A := (T'.setTop (mkF m 18 #[vr x, vr b1, vn f, vi (-1), l4, l5, l6, l7] []))) ?_
  refine ci (XS.iloadN X'.here hx rfl (hb hby d8_18) rfl) ?_
  have hb19_7 : (-1 : Int32) < (0 : Int32) := (by decide)
  refine ci (XS.ifYes X'.here hx rfl (pc0 := 19) (pc' := 187) rfl (hb hby d8_19) rfl ((if0 _ _).trans (tlt hb19_7).1) (by decide) (by decide)) ?_
  refine sc (A := (T'.setTop (mkF m 187 #[vr x, vr b1, vn f, vi (-1), l4, l5, l6, l7] []))) ?_
  refine ci (XS.aloadN X'.here hx rfl (hb hby d8_187) rfl rfl) ?_
  refine sc (A := (T'.setTop (mkF m 188 #[vr x, vr b1, vn f, vi (-1), l4, l5, l6, l7] [(.ref b1)]))) ?_
  obtain ⟨T8, X8, e8, st8⟩ := getF X' hx hZj hownj (host := "") (Or.inl (hW 69 _ rfl)) Via.refl e' M_o.2.2.1 (g := (mkF m 188 #[vr x, vr b1, vn f, vi (-1), l4, l5, l6, l7] [(.ref b1)])) rfl rfl (hb hby d8_188)
  refine oc st8 ?_
  refine ci (XS.aloadN X8.here hx rfl (hb hby d8_191) rfl rfl) ?_
  refine ci (XS.iloadN X8.here hx rfl (hb hby d8_192) rfl) ?_
  refine sc (A := (T8.setTop (mkF m 193 #[vr x, vr b1, vn f, vi (-1), l4, l5, l6, l7] [(.int (Int32.ofNat f)), (.ref x), (.ref lL2)]))) ?_
  have hf22 := hP.1
  have f9 : own_sr Z H x cs := S_x.keep K' nin0
  have f11 : Exa Z H x "java/lang/String" := Ex_x.keep K'
  obtain ⟨cq10, kq10, q10a, q10b, q10c⟩ := isOf hZj e8 f11
  obtain ⟨_, _, ⟨T10, L10, k10, n10⟩, -, Xr10, hSr10, hgr10, ⟨Lc10, hQ10, l10, y10, z10, CHs10⟩, st10⟩ := X8.virtualBackS hx (y := ym18) (z := ym18) hownj (mvT hZj (hW 102 _ rfl)) (mvT hZj (hW 103 _ rfl)) (notFace_of_selects (args := #[]) (mvT hZj (hW 105 _ rfl))) (mvT hZj (hW 105 _ rfl)) (mvT hZj (hW 104 _ rfl)) (by decide) (backOfSH (W := 1) (rmS1s l Z a0 hw [] x cs f Gc fm H n0 hEL O' Oc Pc Of hfm f9 (by omega)) hZj (hW 106 _ rfl) (hW 8 _ rfl) (by decide) (by decide) hEL CH'.1) q10a q10c (g := (mkF m 193 #[vr x, vr b1, vn f, vi (-1), l4, l5, l6, l7] [(.int (Int32.ofNat f)), (.ref x), (.ref lL2)])) rfl (by rw [hml]; rfl) (Steps.refl _) (argsL := [(.int (Int32.ofNat f))]) (rest := [(.ref lL2)]) (lenOf pd_28 rfl) rfl (Nat.le_of_eq rfl) (hb hby d8_193) (fun _ _ => ⟨rfl, e8, (by decide : 38 + 2 ≤ _), (by decide : 370 + 26 ≤ _)⟩)
  dsimp only [Pt.U, Pt.locs, Pt.cells, Pt.slots] at Xr10 l10 y10 z10 st10 hQ10 hSr10 hgr10 CHs10
  obtain ⟨X10, hS10, hZ10, hown10⟩ := rebS hS' (by rw [e8]; omega : k' ≤ T8.heap.size) Xr10 hSr10 hgr10 hZj hownj
  subst l10 y10 z10
  obtain ⟨y10, rfl, Nq10, Kp10, Sy10⟩ := hQ10
  have N10 := Fr.app N' Nq10
  refine oc (fun tt_ kk_ => st10.trans kk_) ?_
  have CH10 := CH'.trans CHs10
  have sz10 : H.size ≤ T10.heap.size := Kp10.1
  have O10 : Old Z n0 T10.heap := O'.keep Kp10 all0
  have K10 : Keep h0 T10.heap [] := K'.trans Kp10 all0
  have Ex_y10 := Sy10.exa
  have R12 : own_sr Z T10.heap y10 (own_sl cs f 22) := by have q := Sy10; rw [hl] at q; exact q
  refine sc (A := (T10.setTop (mkF m 196 #[vr x, vr b1, vn f, vi (-1), l4, l5, l6, l7] [(.ref y10), (.ref lL2)]))) ?_
  have f13 : own_al Z T10.heap dq n0 lL2 eL kL xL mL := (A_L.keep Kp10 nin0 nin0)
  have f15 : Exa Z T10.heap lL2 "java/util/ArrayList" := (A_L.1.keep Kp10)
  obtain ⟨cq14, kq14, q14a, q14b, q14c⟩ := isOf hZ10 rfl f15
  obtain ⟨_, T14, Lc14, X14, hQ14, st14⟩ := own_c1 X10 <| X10.interfaceBack hx (xi := ym8488) (y := ym23) hown10 (mvT hZ10 (hW 125 _ rfl)) (mvT hZ10 (hW 126 _ rfl)) (mvT hZ10 (hW 127 _ rfl)) (mvT hZ10 (hW 128 _ rfl)) (mvT hZ10 (hW 129 _ rfl)) (mvT hZ10 (hW 130 _ rfl)) (mvT hZ10 (hW 131 _ rfl)) (mvT hZ10 (hW 132 _ rfl)) (by decide) (backOf (W := 0) (rmAd l Z a0 hw [] lL2 dq kd eL kL xL (.ref y10) mL T10.heap n0 O10 (by omega) S_d V_d E_d l_d f13 (by omega) (Or.inr ⟨_, rfl, Ex_y10⟩)) hZ10 (hW 133 _ rfl) (hW 47 _ rfl) (by decide) (by decide)) q14a q14b q14c (g := (mkF m 196 #[vr x, vr b1, vn f, vi (-1), l4, l5, l6, l7] [(.ref y10), (.ref lL2)])) rfl (by rw [hml]; rfl) (Steps.refl _) (argsL := [(.ref y10)]) (rest := []) (lenOf pd_29 rfl) rfl (Nat.le_of_eq rfl) (hb hby d8_196) (fun _ _ => ⟨rfl, rfl, (by decide : 40 + 1 ≤ _), (by decide : 396 + 10 ≤ _)⟩)
  obtain ⟨e14, k14, z14, rfl, Nq14, gz14, hz14, Kp14, AL14⟩ := hQ14
  have N14 := Fr.app N10 Nq14
  refine oc (fun tt_ kk_ => st14.trans kk_) ?_
  have CHs14 := CHr.keep Kp14 (allS (Safe.exa hZ10.alike f15 (by decide) (by decide)) (allS (own_al.safe (EL := own_EL) hZ10.alike f13 (by omega)) all0)) CH10.1
  have CH14 := CH10.trans CHs14
  have sz14 : T10.heap.size ≤ T14.heap.size := Kp14.1
  have O14 : Old Z n0 T14.heap := O10.keep Kp14 (allS (by omega) (allS (by omega) all0))
  have K14 : Keep h0 T14.heap [] := K10.trans Kp14 (allS (Or.inr (by omega)) (allS (Or.inr (by omega)) all0))
  have aw14 : own_aw Z T10.heap T14.heap := own_al.aw f13 Kp14 (by omega) (hW 46 _ rfl)
  obtain ⟨hz114, he14⟩ : eL = z14 ∧ eL = e14 := by omega
  clear hz14
  subst hz114 he14
  have la14 := AL14.lt2
  refine ci (XS.pop X14.here hx rfl (hb hby d8_201) rfl rfl) ?_
  refine ci (XS.aloadN X14.here hx rfl (hb hby d8_202) rfl rfl) ?_
  refine sc (A := (T14.setTop (mkF m 203 #[vr x, vr b1, vn f, vi (-1), l4, l5, l6, l7] [(.ref b1)]))) ?_
  refine own_retc X14 hx hlk hS10 (by omega : T10.heap.size ≤ T14.heap.size) hZ10 hEL CH14 Bd.returns rfl (Or.inr (Or.inr (Or.inr (Or.inr ⟨rfl, rfl, rfl⟩)))) (hb hby d8_203) (by decide) (by decide) ?_
  skip
  have f16 : own_set Z T14.heap b1 x lL2 lK2 lF2 := ((M_o.keep Kp10 nin0).keep Kp14 (ninS (one (by omega)) (ninS (one (by omega)) nin0)))
  have f17 : own_al Z T14.heap dq n0 lK2 eK kK xK mK := ((A_K.keep Kp10 nin0 nin0).keep Kp14 (ninS (one (by omega)) (ninS (one (by omega)) nin0)) (ninS (one (by omega)) (ninS (one (by omega)) nin0)))
  have f18 : own_al Z T14.heap dq n0 lF2 eF kF xF mF := ((A_F.keep Kp10 nin0 nin0).keep Kp14 (ninS (one (by omega)) (ninS (one (by omega)) nin0)) (ninS (one (by omega)) (ninS (one (by omega)) nin0)))
  have f19 : own_cont Z T14.heap xL cL := ((c_L.keep Kp10 nin0).aw aw14)
  have f20 : own_sr Z T14.heap y10 (own_sl cs f 22) := (R12.aw aw14)
  have f21 : own_cont Z T14.heap xK cK := ((c_K.keep Kp10 nin0).aw aw14)
  have f22 : own_cont Z T14.heap xF cF := ((c_F.keep Kp10 nin0).aw aw14)
  exact ⟨b1, lL2, lK2, lF2, eL, eK, eF, k14, kK, kF, (xL ++ [(.ref y10)]), xK, xF, (mL + (1 : Int32)), mK, mF, rfl, N14, K14, f16, AL14, f17, f18, u_L ▸ own_cont.snoc f19 ⟨y10, rfl, f20⟩, (by have q := u_K; rw [own_keys, List.append_nil] at q; rw [← q]; exact f21), (by have q := u_F; rw [own_fbs, List.append_nil] at q; rw [← q]; exact f22)⟩
 have J18_1 : ∀ (H : Heap) (T' : State) (vm' : Vm) (k' : Nat) (ls : List Loc) (f : Nat) (r : Int32) (eL eK eF : Nat) (kL kK kF : ClassId) (xL xK xF : List Value) (mL mK mF : Int32) (cL cK cF : List (Option (List Int32))) (rs : List own_Pl) (l4 l5 l6 l7 : Slot), (Stand p l e (own_R 6 41 406 116) (s.setVm vm') m #[.ref x] below meth c T' ls 22 200) → (T'.heap = H) → (Fr n0 ls) → (Old Z n0 H) → (Keep h0 H []) → (s.Since vm' k') → (k' ≤ H.size) → (Z.Warmed39 (s.setVm vm').vm) → ((s.setVm vm').vm.findClass "com/example/assemble/assemble/SettingText" = some m.cls) → (CHr Z own_EL s.vm s.heap vm' H) → (own_set Z H b1 x lL2 lK2 lF2) → (own_al Z H dq n0 lL2 eL kL xL mL) → (own_al Z H dq n0 lK2 eK kK xK mK) → (own_al Z H dq n0 lF2 eF kF xF mF) → (own_cont Z H xL cL) → (own_cont Z H xK cK) → (own_cont Z H xF cF) → (cL ++ own_lits cs f rs = own_lits cs 0 pls) → (cK ++ own_keys cs rs = own_keys cs pls) → (cF ++ own_fbs cs rs = own_fbs cs pls) → (own_ps cs f rs) → (own_ixs cs f r) → (rs.length + 1 ≤ 2) → (xL.length = 1) → (xK.length = 1) → (xF.length = 1) → (lF2 < eL) → (eL < eK) → (eK < eF) → ((l4 = .unset ∨ ∃ z, l4 = vi z)) → ((l5 = .unset ∨ ∃ z : Nat, l5 = vr z)) → ((l6 = .unset ∨ ∃ z, l6 = vi z)) → ((l7 = .unset ∨ ∃ z : Nat, l7 = vr z)) → own_gc p e below s Z own_EL (Q_rmPa Z x cs pls dq kd Gc fm h0 n0) ((own_R 6 41 406 116)).cells ((own_R 6 41 406 116)).slots (T'.setTop (mkF m 18 #[vr x, vr b1, vn f, vi r, l4, l5, l6, l7] [])) := by
  intro H T' vm' k' ls f r eL eK eF kL kK kF xL xK xF mL mK mF cL cK cF rs l4 l5 l6 l7 X' e' N' O' K' hS' hk' hZj hownj CH' M_o A_L A_K A_F c_L c_K c_F u_L u_K u_F hP hr hn n_L n_K n_F or0 or1 or2 o4 o5 o6 o7
  have lA := A_L.lt2
  have lB := A_K.lt2
  have lC := A_F.lt2
  have lM := olt M_o.1.lt
  rcases rs with _ | ⟨⟨op, kt, hcx, cl⟩, rs'⟩
  ·obtain rfl : r = -1 := own_ix_nil hl hP hr
   refine sc (A := (T'.setTop (mkF m 18 #[vr x, vr b1, vn f, vi (-1), l4, l5, l6, l7] []))) ?_
   refine ci (XS.iloadN X'.here hx rfl (hb hby d8_18) rfl) ?_
   have hb19_23 : (-1 : Int32) < (0 : Int32) := (by decide)
   refine ci (XS.ifYes X'.here hx rfl (pc0 := 19) (pc' := 187) rfl (hb hby d8_19) rfl ((if0 _ _).trans (tlt hb19_23).1) (by decide) (by decide)) ?_
   refine sc (A := (T'.setTop (mkF m 187 #[vr x, vr b1, vn f, vi (-1), l4, l5, l6, l7] []))) ?_
   refine ci (XS.aloadN X'.here hx rfl (hb hby d8_187) rfl rfl) ?_
   refine sc (A := (T'.setTop (mkF m 188 #[vr x, vr b1, vn f, vi (-1), l4, l5, l6, l7] [(.ref b1)]))) ?_
   obtain ⟨T24, X24, e24, st24⟩ := getF X' hx hZj hownj (host := "") (Or.inl (hW 69 _ rfl)) Via.refl e' M_o.2.2.1 (g := (mkF m 188 #[vr x, vr b1, vn f, vi (-1), l4, l5, l6, l7] [(.ref b1)])) rfl rfl (hb hby d8_188)
   refine oc st24 ?_
   refine ci (XS.aloadN X24.here hx rfl (hb hby d8_191) rfl rfl) ?_
   refine ci (XS.iloadN X24.here hx rfl (hb hby d8_192) rfl) ?_
   refine sc (A := (T24.setTop (mkF m 193 #[vr x, vr b1, vn f, vi (-1), l4, l5, l6, l7] [(.int (Int32.ofNat f)), (.ref x), (.ref lL2)]))) ?_
   have hf22 := hP.1
   have f25 : own_sr Z H x cs := S_x.keep K' nin0
   have f27 : Exa Z H x "java/lang/String" := Ex_x.keep K'
   obtain ⟨cq26, kq26, q26a, q26b, q26c⟩ := isOf hZj e24 f27
   obtain ⟨_, _, ⟨T26, L26, k26, n26⟩, -, Xr26, hSr26, hgr26, ⟨Lc26, hQ26, l26, y26, z26, CHs26⟩, st26⟩ := X24.virtualBackS hx (y := ym18) (z := ym18) hownj (mvT hZj (hW 102 _ rfl)) (mvT hZj (hW 103 _ rfl)) (notFace_of_selects (args := #[]) (mvT hZj (hW 105 _ rfl))) (mvT hZj (hW 105 _ rfl)) (mvT hZj (hW 104 _ rfl)) (by decide) (backOfSH (W := 1) (rmS1s l Z a0 hw [] x cs f Gc fm H n0 hEL O' Oc Pc Of hfm f25 (by omega)) hZj (hW 106 _ rfl) (hW 8 _ rfl) (by decide) (by decide) hEL CH'.1) q26a q26c (g := (mkF m 193 #[vr x, vr b1, vn f, vi (-1), l4, l5, l6, l7] [(.int (Int32.ofNat f)), (.ref x), (.ref lL2)])) rfl (by rw [hml]; rfl) (Steps.refl _) (argsL := [(.int (Int32.ofNat f))]) (rest := [(.ref lL2)]) (lenOf pd_28 rfl) rfl (Nat.le_of_eq rfl) (hb hby d8_193) (fun _ _ => ⟨rfl, e24, (by decide : 22 + 2 ≤ _), (by decide : 200 + 26 ≤ _)⟩)
   dsimp only [Pt.U, Pt.locs, Pt.cells, Pt.slots] at Xr26 l26 y26 z26 st26 hQ26 hSr26 hgr26 CHs26
   obtain ⟨X26, hS26, hZ26, hown26⟩ := rebS hS' (by rw [e24]; omega : k' ≤ T24.heap.size) Xr26 hSr26 hgr26 hZj hownj
   subst l26 y26 z26
   obtain ⟨y26, rfl, Nq26, Kp26, Sy26⟩ := hQ26
   have N26 := Fr.app N' Nq26
   refine oc (fun tt_ kk_ => st26.trans kk_) ?_
   have CH26 := CH'.trans CHs26
   have sz26 : H.size ≤ T26.heap.size := Kp26.1
   have O26 : Old Z n0 T26.heap := O'.keep Kp26 all0
   have K26 : Keep h0 T26.heap [] := K'.trans Kp26 all0
   have Ex_y26 := Sy26.exa
   have R28 : own_sr Z T26.heap y26 (own_sl cs f 22) := by have q := Sy26; rw [hl] at q; exact q
   refine sc (A := (T26.setTop (mkF m 196 #[vr x, vr b1, vn f, vi (-1), l4, l5, l6, l7] [(.ref y26), (.ref lL2)]))) ?_
   have f29 : own_al Z T26.heap dq n0 lL2 eL kL xL mL := (A_L.keep Kp26 nin0 nin0)
   have f31 : Exa Z T26.heap lL2 "java/util/ArrayList" := (A_L.1.keep Kp26)
   obtain ⟨cq30, kq30, q30a, q30b, q30c⟩ := isOf hZ26 rfl f31
   obtain ⟨_, T30, Lc30, X30, hQ30, st30⟩ := own_c1 X26 <| X26.interfaceBack hx (xi := ym8488) (y := ym23) hown26 (mvT hZ26 (hW 125 _ rfl)) (mvT hZ26 (hW 126 _ rfl)) (mvT hZ26 (hW 127 _ rfl)) (mvT hZ26 (hW 128 _ rfl)) (mvT hZ26 (hW 129 _ rfl)) (mvT hZ26 (hW 130 _ rfl)) (mvT hZ26 (hW 131 _ rfl)) (mvT hZ26 (hW 132 _ rfl)) (by decide) (backOf (W := 0) (rmAd l Z a0 hw [] lL2 dq kd eL kL xL (.ref y26) mL T26.heap n0 O26 (by omega) S_d V_d E_d l_d f29 (by omega) (Or.inr ⟨_, rfl, Ex_y26⟩)) hZ26 (hW 133 _ rfl) (hW 47 _ rfl) (by decide) (by decide)) q30a q30b q30c (g := (mkF m 196 #[vr x, vr b1, vn f, vi (-1), l4, l5, l6, l7] [(.ref y26), (.ref lL2)])) rfl (by rw [hml]; rfl) (Steps.refl _) (argsL := [(.ref y26)]) (rest := []) (lenOf pd_29 rfl) rfl (Nat.le_of_eq rfl) (hb hby d8_196) (fun _ _ => ⟨rfl, rfl, (by decide : 24 + 1 ≤ _), (by decide : 226 + 10 ≤ _)⟩)
   obtain ⟨e30, k30, z30, rfl, Nq30, gz30, hz30, Kp30, AL30⟩ := hQ30
   have N30 := Fr.app N26 Nq30
   refine oc (fun tt_ kk_ => st30.trans kk_) ?_
   have CHs30 := CHr.keep Kp30 (allS (Safe.exa hZ26.alike f31 (by decide) (by decide)) (allS (own_al.safe (EL := own_EL) hZ26.alike f29 (by omega)) all0)) CH26.1
   have CH30 := CH26.trans CHs30
   have sz30 : T26.heap.size ≤ T30.heap.size := Kp30.1
   have O30 : Old Z n0 T30.heap := O26.keep Kp30 (allS (by omega) (allS (by omega) all0))
   have K30 : Keep h0 T30.heap [] := K26.trans Kp30 (allS (Or.inr (by omega)) (allS (Or.inr (by omega)) all0))
   have aw30 : own_aw Z T26.heap T30.heap := own_al.aw f29 Kp30 (by omega) (hW 46 _ rfl)
   obtain ⟨hz130, he30⟩ : eL = z30 ∧ eL = e30 := by omega
   clear hz30
   subst hz130 he30
   have la30 := AL30.lt2
   refine ci (XS.pop X30.here hx rfl (hb hby d8_201) rfl rfl) ?_
   refine ci (XS.aloadN X30.here hx rfl (hb hby d8_202) rfl rfl) ?_
   refine sc (A := (T30.setTop (mkF m 203 #[vr x, vr b1, vn f, vi (-1), l4, l5, l6, l7] [(.ref b1)]))) ?_
   refine own_retc X30 hx hlk hS26 (by omega : T26.heap.size ≤ T30.heap.size) hZ26 hEL CH30 Bd.returns rfl (Or.inr (Or.inr (Or.inr (Or.inr ⟨rfl, rfl, rfl⟩)))) (hb hby d8_203) (by decide) (by decide) ?_
   skip
   have f32 : own_set Z T30.heap b1 x lL2 lK2 lF2 := ((M_o.keep Kp26 nin0).keep Kp30 (ninS (one (by omega)) (ninS (one (by omega)) nin0)))
   have f33 : own_al Z T30.heap dq n0 lK2 eK kK xK mK := ((A_K.keep Kp26 nin0 nin0).keep Kp30 (ninS (one (by omega)) (ninS (one (by omega)) nin0)) (ninS (one (by omega)) (ninS (one (by omega)) nin0)))
   have f34 : own_al Z T30.heap dq n0 lF2 eF kF xF mF := ((A_F.keep Kp26 nin0 nin0).keep Kp30 (ninS (one (by omega)) (ninS (one (by omega)) nin0)) (ninS (one (by omega)) (ninS (one (by omega)) nin0)))
   have f35 : own_cont Z T30.heap xL cL := ((c_L.keep Kp26 nin0).aw aw30)
   have f36 : own_sr Z T30.heap y26 (own_sl cs f 22) := (R28.aw aw30)
   have f37 : own_cont Z T30.heap xK cK := ((c_K.keep Kp26 nin0).aw aw30)
   have f38 : own_cont Z T30.heap xF cF := ((c_F.keep Kp26 nin0).aw aw30)
   exact ⟨b1, lL2, lK2, lF2, eL, eK, eF, k30, kK, kF, (xL ++ [(.ref y26)]), xK, xF, (mL + (1 : Int32)), mK, mF, rfl, N30, K30, f32, AL30, f33, f34, u_L ▸ own_cont.snoc f35 ⟨y26, rfl, f36⟩, (by have q := u_K; rw [own_keys, List.append_nil] at q; rw [← q]; exact f37), (by have q := u_F; rw [own_fbs, List.append_nil] at q; rw [← q]; exact f38)⟩
  ·obtain rfl : r = Int32.ofNat op := own_ix_cons hP hr
   obtain ⟨hfo, hnb, hq, hP'⟩ := hP
   have b1_ := hq.1
   have b2_ := hq.2.1
   have b3_ := hq.2.2.1
   simp only [List.length_cons] at hn
   refine sc (A := (T'.setTop (mkF m 18 #[vr x, vr b1, vn f, vn op, l4, l5, l6, l7] []))) ?_
   refine ci (XS.iloadN X'.here hx rfl (hb hby d8_18) rfl) ?_
   have hb19_39 : ¬ ((Int32.ofNat op) < (0 : Int32)) := (own_nn (by omega))
   refine ci (XS.ifNo X'.here hx rfl (hb hby d8_19) rfl ((if0 _ _).trans (flt hb19_39).1)) ?_
   refine sc (A := (T'.setTop (mkF m 22 #[vr x, vr b1, vn f, vn op, l4, l5, l6, l7] []))) ?_
   refine ci (XS.aloadN X'.here hx rfl (hb hby d8_22) rfl rfl) ?_
   refine ci (XS.bipush X'.here hx rfl (hb hby d8_23)) ?_
   refine ci (XS.iloadN X'.here hx rfl (hb hby d8_25) rfl) ?_
   refine sc (A := (T'.setTop (mkF m 26 #[vr x, vr b1, vn f, vn op, l4, l5, l6, l7] [(.int (Int32.ofNat op)), (.int 125), (.ref x)]))) ?_
   have f40 : own_sr Z H x cs := S_x.keep K' nin0
   have f42 : Exa Z H x "java/lang/String" := Ex_x.keep K'
   obtain ⟨cq41, kq41, q41a, q41b, q41c⟩ := isOf hZj e' f42
   obtain ⟨_, T41, Lc41, X41, hQ41, st41⟩ := own_c1 X' <| X'.virtualBack hx (y := ym42) (z := ym42) hownj (mvT hZj (hW 228 _ rfl)) (mvT hZj (hW 229 _ rfl)) (notFace_of_selects (args := #[]) (mvT hZj (hW 231 _ rfl))) (mvT hZj (hW 231 _ rfl)) (mvT hZj (hW 230 _ rfl)) (by decide) (backOf (W := 0) (rmI2 l Z a0 hw [] x cs (125 : Int32) op Gc H n0 O' Oc Pc f40 (by omega) (by decide)) hZj (hW 232 _ rfl) (hW 8 _ rfl) (by decide) (by decide)) q41a q41c (g := (mkF m 26 #[vr x, vr b1, vn f, vn op, l4, l5, l6, l7] [(.int (Int32.ofNat op)), (.int 125), (.ref x)])) rfl (by rw [hml]; rfl) (Steps.refl _) (argsL := [(.int 125), (.int (Int32.ofNat op))]) (rest := []) (lenOf pd_6 rfl) rfl (Nat.le_of_eq rfl) (hb hby d8_26) (fun _ _ => ⟨rfl, e', (by decide : 22 + 0 ≤ _), (by decide : 200 + 0 ≤ _)⟩)
   obtain ⟨r41, rfl, hr41, Nq41, eh41⟩ := hQ41
   have N41 := Fr.app N' Nq41
   refine oc (fun tt_ kk_ => st41.trans kk_) ?_
   obtain rfl : r41 = Int32.ofNat cl := own_ix_close hq hr41
   refine ci (XS.istore X41.here hx rfl (hb hby d8_29) rfl (l' := #[vr x, vr b1, vn f, vn op, vn cl, l5, l6, l7]) (by rcases o4 with rfl | ⟨z, rfl⟩ <;> rfl)) ?_
   refine ci (XS.iload X41.here hx rfl (hb hby d8_31) rfl) ?_
   have hb33_43 : ¬ ((Int32.ofNat cl) < (0 : Int32)) := (own_nn (by omega))
   refine ci (XS.ifYes X41.here hx rfl (pc0 := 33) (pc' := 43) rfl (hb hby d8_33) rfl ((if0 _ _).trans (flt hb33_43).2.1) (by decide) (by decide)) ?_
   refine sc (A := (T41.setTop (mkF m 43 #[vr x, vr b1, vn f, vn op, vn cl, l5, l6, l7] []))) ?_
   refine ci (XS.aloadN X41.here hx rfl (hb hby d8_43) rfl rfl) ?_
   refine ci (XS.iloadN X41.here hx rfl (hb hby d8_44) rfl) ?_
   refine ci (XS.iconst X41.here hx rfl (hb hby d8_45)) ?_
   refine ci (XS.iadd X41.here hx rfl (hb hby d8_46) rfl) ?_
   refine sc (A := (T41.setTop (mkF m 47 #[vr x, vr b1, vn f, vn op, vn cl, l5, l6, l7] [(.int ((Int32.ofNat op) + (2 : Int32))), (.ref x)]))) ?_
   rw [own_p2]
   refine sc (A := (T41.setTop (mkF m 47 #[vr x, vr b1, vn f, vn op, vn cl, l5, l6, l7] [(.int (Int32.ofNat (op + 2))), (.ref x)]))) ?_
   refine ci (XS.iload X41.here hx rfl (hb hby d8_47) rfl) ?_
   refine sc (A := (T41.setTop (mkF m 49 #[vr x, vr b1, vn f, vn op, vn cl, l5, l6, l7] [(.int (Int32.ofNat cl)), (.int (Int32.ofNat (op + 2))), (.ref x)]))) ?_
   obtain ⟨cq44, kq44, q44a, q44b, q44c⟩ := isOf hZj eh41 f42
   obtain ⟨_, _, ⟨T44, L44, k44, n44⟩, -, Xr44, hSr44, hgr44, ⟨Lc44, hQ44, l44, y44, z44, CHs44⟩, st44⟩ := X41.virtualBackS hx (y := ym20) (z := ym20) hownj (mvT hZj (hW 246 _ rfl)) (mvT hZj (hW 113 _ rfl)) (notFace_of_selects (args := #[]) (mvT hZj (hW 115 _ rfl))) (mvT hZj (hW 115 _ rfl)) (mvT hZj (hW 114 _ rfl)) (by decide) (backOfSH (W := 0) (rmSu l Z a0 hw [] x cs (op + 2) cl Gc fm H n0 hEL O' Oc Pc Of hfm f40 (by omega) (by omega)) hZj (hW 116 _ rfl) (hW 8 _ rfl) (by decide) (by decide) hEL CH'.1) q44a q44c (g := (mkF m 49 #[vr x, vr b1, vn f, vn op, vn cl, l5, l6, l7] [(.int (Int32.ofNat cl)), (.int (Int32.ofNat (op + 2))), (.ref x)])) rfl (by rw [hml]; rfl) (Steps.refl _) (argsL := [(.int (Int32.ofNat (op + 2))), (.int (Int32.ofNat cl))]) (rest := []) (lenOf pd_21 rfl) rfl (Nat.le_of_eq rfl) (hb hby d8_49) (fun _ _ => ⟨rfl, eh41, (by decide : 22 + 2 ≤ _), (by decide : 200 + 26 ≤ _)⟩)
   dsimp only [Pt.U, Pt.locs, Pt.cells, Pt.slots] at Xr44 l44 y44 z44 st44 hQ44 hSr44 hgr44 CHs44
   obtain ⟨X44, hS44, hZ44, hown44⟩ := rebS hS' (by rw [eh41]; omega : k' ≤ T41.heap.size) Xr44 hSr44 hgr44 hZj hownj
   subst l44 y44 z44
   obtain ⟨y44, rfl, Nq44, Kp44, Sy44⟩ := hQ44
   have N44 := Fr.app N41 Nq44
   refine oc (fun tt_ kk_ => st44.trans kk_) ?_
   have CH44 := CH'.trans CHs44
   have sz44 : H.size ≤ T44.heap.size := Kp44.1
   have O44 : Old Z n0 T44.heap := O'.keep Kp44 all0
   have K44 : Keep h0 T44.heap [] := K'.trans Kp44 all0
   have Ex_y44 := Sy44.exa
   refine ci (XS.astore X44.here hx rfl (hb hby d8_52) rfl rfl (l' := #[vr x, vr b1, vn f, vn op, vn cl, vr y44, l6, l7]) (by rcases o5 with rfl | ⟨z, rfl⟩ <;> rfl)) ?_
   refine ci (XS.aload X44.here hx rfl (hb hby d8_54) rfl rfl) ?_
   obtain ⟨b45, T45, h45, k45, t45, kb45, X45, e45, E45, hS45, hk45, hZ45, hown45, Ex45, Cx45, Vx45, Kx45, la45, lb45, CHs45, -, hne45, st45⟩ := ldcCH X44 hx hZ44 hown44 (hW 77 _ rfl) wS rfl hS44 (by omega : T44.heap.size ≤ T44.heap.size) hEL (by decide +kernel) CH44.1 (vs := [.int 36, .int 123]) (z := 2) ⟨by decide +kernel, by decide +kernel⟩ (by decide +kernel) (by decide +kernel) (g := (mkF m 56 #[vr x, vr b1, vn f, vn op, vn cl, vr y44, l6, l7] [(.ref y44)])) rfl (hb hby d8_56) (n := 8) (by decide +kernel) (by decide) (by decide) (by decide)
   have CH45 := CH44.trans CHs45
   have Ss45 : own_sr Z h45 b45 ([36, 123] : List Int32) := ⟨by decide, by decide, t45, kb45, Ex45, Vx45, Cx45, Kx45⟩
   refine oc st45 ?_
   have sz45 : T44.heap.size ≤ h45.size := E45.1
   have O45 : Old Z n0 h45 := O44.ext E45
   have K45 : Keep h0 h45 [] := K44.ext E45
   have lla45 := olt la45
   have llb45 := olt lb45
   refine sc (A := (T45.setTop (mkF m 58 #[vr x, vr b1, vn f, vn op, vn cl, vr y44, l6, l7] [(.ref b45), (.ref y44)]))) ?_
   have f46 : own_sr Z h45 y44 (own_sl cs (op + 2) cl) := (Sy44.ext E45)
   have f48 : Exa Z h45 y44 "java/lang/String" := (Ex_y44.ext E45)
   obtain ⟨cq47, kq47, q47a, q47b, q47c⟩ := isOf hZ45 e45 f48
   obtain ⟨_, T47, Lc47, X47, hQ47, st47⟩ := own_c1 X45 <| X45.virtualBack hx (y := ym52) (z := ym52) hown45 (mvT hZ45 (hW 269 _ rfl)) (mvT hZ45 (hW 270 _ rfl)) (notFace_of_selects (args := #[]) (mvT hZ45 (hW 272 _ rfl))) (mvT hZ45 (hW 272 _ rfl)) (mvT hZ45 (hW 271 _ rfl)) (by decide) (backOf (W := 0) (rmCt l Z a0 hw [] y44 (own_sl cs (op + 2) cl) b45 Gc h45 n0 O45 Oc Pc f46 Ss45 (by rw [own_sl_len (by omega)]; omega) (own_no_hit hq)) hZ45 (hW 273 _ rfl) (hW 8 _ rfl) (by decide) (by decide)) q47a q47c (g := (mkF m 58 #[vr x, vr b1, vn f, vn op, vn cl, vr y44, l6, l7] [(.ref b45), (.ref y44)])) rfl (by rw [hml]; rfl) (Steps.refl _) (argsL := [(.ref b45)]) (rest := []) (lenOf pd_30 rfl) rfl (Nat.le_of_eq rfl) (hb hby d8_58) (fun _ _ => ⟨rfl, e45, (by decide : 26 + 0 ≤ _), (by decide : 238 + 0 ≤ _)⟩)
   obtain ⟨rfl, Nq47, eh47⟩ := hQ47
   have N47 := Fr.app N44 Nq47
   refine oc (fun tt_ kk_ => st47.trans kk_) ?_
   have hb61_49 : (0 : Int32) = (0 : Int32) := by decide
   refine ci (XS.ifYes X47.here hx rfl (pc0 := 61) (pc' := 71) rfl (hb hby d8_61) rfl ((if0 _ _).trans (teq hb61_49).1) (by decide) (by decide)) ?_
   refine ci (XS.aload X47.here hx rfl (hb hby d8_71) rfl rfl) ?_
   refine ci (XS.bipush X47.here hx rfl (hb hby d8_73)) ?_
   refine sc (A := (T47.setTop (mkF m 75 #[vr x, vr b1, vn f, vn op, vn cl, vr y44, l6, l7] [(.int 58), (.ref y44)]))) ?_
   obtain ⟨cq50, kq50, q50a, q50b, q50c⟩ := isOf hZ45 eh47 f48
   obtain ⟨_, T50, Lc50, X50, hQ50, st50⟩ := own_c1 X47 <| X47.virtualBack hx (y := ym54) (z := ym54) hown45 (mvT hZ45 (hW 284 _ rfl)) (mvT hZ45 (hW 285 _ rfl)) (notFace_of_selects (args := #[]) (mvT hZ45 (hW 287 _ rfl))) (mvT hZ45 (hW 287 _ rfl)) (mvT hZ45 (hW 286 _ rfl)) (by decide) (backOf (W := 0) (rmI1 l Z a0 hw [] y44 (own_sl cs (op + 2) cl) (58 : Int32) Gc h45 n0 O45 Oc Pc f46 (by decide)) hZ45 (hW 288 _ rfl) (hW 8 _ rfl) (by decide) (by decide)) q50a q50c (g := (mkF m 75 #[vr x, vr b1, vn f, vn op, vn cl, vr y44, l6, l7] [(.int 58), (.ref y44)])) rfl (by rw [hml]; rfl) (Steps.refl _) (argsL := [(.int 58)]) (rest := []) (lenOf pd_31 rfl) rfl (Nat.le_of_eq rfl) (hb hby d8_75) (fun _ _ => ⟨rfl, eh47, (by decide : 26 + 0 ≤ _), (by decide : 238 + 0 ≤ _)⟩)
   obtain ⟨r50, rfl, hr50, Nq50, eh50⟩ := hQ50
   have N50 := Fr.app N47 Nq50
   refine oc (fun tt_ kk_ => st50.trans kk_) ?_
   rcases hcx with _ | _
   ·obtain rfl : r50 = -1 := own_ix_nocol hq hr50
    have b4_ : kt = cl := hq.2.2.2.2.2.2.2.2.elim (fun q => by cases q.1) (fun q => q.2)
    refine sc (A := (T50.setTop (mkF m 78 #[vr x, vr b1, vn f, vn op, vn cl, vr y44, l6, l7] [(.int (-1))]))) ?_
    refine ci (XS.istore X50.here hx rfl (hb hby d8_78) rfl (l' := #[vr x, vr b1, vn f, vn op, vn cl, vr y44, vi (-1), l7]) (by rcases o6 with rfl | ⟨z, rfl⟩ <;> rfl)) ?_
    refine ci (XS.iload X50.here hx rfl (hb hby d8_80) rfl) ?_
    have hb82_51 : (-1 : Int32) < (0 : Int32) := (by decide)
    refine ci (XS.ifNo X50.here hx rfl (hb hby d8_82) rfl ((if0 _ _).trans (tlt hb82_51).2.1)) ?_
    refine sc (A := (T50.setTop (mkF m 85 #[vr x, vr b1, vn f, vn op, vn cl, vr y44, vi (-1), l7] []))) ?_
    have R52 : own_sr Z h45 y44 (own_sl cs (op + 2) kt) := by rw [b4_]; exact f46
    refine ci (XS.aload X50.here hx rfl (hb hby d8_85) rfl rfl) ?_
    refine ci (XS.goto X50.here hx rfl (pc0 := 87) (pc' := 98) rfl (hb hby d8_87) (by decide) (by decide)) ?_
    refine ci (XS.astore X50.here hx rfl (hb hby d8_98) rfl rfl (l' := #[vr x, vr b1, vn f, vn op, vn cl, vr y44, vi (-1), vr y44]) (by rcases o7 with rfl | ⟨z, rfl⟩ <;> rfl)) ?_
    refine ci (XS.aload X50.here hx rfl (hb hby d8_100) rfl rfl) ?_
    refine sc (A := (T50.setTop (mkF m 102 #[vr x, vr b1, vn f, vn op, vn cl, vr y44, vi (-1), vr y44] [(.ref y44)]))) ?_
    obtain ⟨cq53, kq53, q53a, q53b, q53c⟩ := isOf hZ45 eh50 f48
    obtain ⟨_, T53, Lc53, X53, hQ53, st53⟩ := own_c1 X50 <| X50.virtualBack hx (y := ym55) (z := ym55) hown45 (mvT hZ45 (hW 290 _ rfl)) (mvT hZ45 (hW 291 _ rfl)) (notFace_of_selects (args := #[]) (mvT hZ45 (hW 293 _ rfl))) (mvT hZ45 (hW 293 _ rfl)) (mvT hZ45 (hW 292 _ rfl)) (by decide) (backOf (W := 0) (rmEm l Z a0 hw [] y44 (own_sl cs (op + 2) kt) h45 n0 O45 R52 (by rw [own_sl_len (by omega)]; omega)) hZ45 (hW 294 _ rfl) (hW 8 _ rfl) (by decide) (by decide)) q53a q53c (g := (mkF m 102 #[vr x, vr b1, vn f, vn op, vn cl, vr y44, vi (-1), vr y44] [(.ref y44)])) rfl (by rw [hml]; rfl) (Steps.refl _) (argsL := []) (rest := []) (lenOf pd_3 rfl) rfl (Nat.le_of_eq rfl) (hb hby d8_102) (fun _ _ => ⟨rfl, eh50, (by decide : 26 + 0 ≤ _), (by decide : 238 + 0 ≤ _)⟩)
    obtain ⟨rfl, Nq53, eh53⟩ := hQ53
    have N53 := Fr.app N50 Nq53
    refine oc (fun tt_ kk_ => st53.trans kk_) ?_
    have hb105_54 : (0 : Int32) = (0 : Int32) := by decide
    refine ci (XS.ifYes X53.here hx rfl (pc0 := 105) (pc' := 115) rfl (hb hby d8_105) rfl ((if0 _ _).trans (teq hb105_54).1) (by decide) (by decide)) ?_
    refine ci (XS.aloadN X53.here hx rfl (hb hby d8_115) rfl rfl) ?_
    refine sc (A := (T53.setTop (mkF m 116 #[vr x, vr b1, vn f, vn op, vn cl, vr y44, vi (-1), vr y44] [(.ref b1)]))) ?_
    have f55 : own_set Z h45 b1 x lL2 lK2 lF2 := ((M_o.keep Kp44 nin0).ext E45)
    obtain ⟨T56, X56, e56, st56⟩ := getF X53 hx hZ45 hown45 (host := "") (Or.inl (hW 69 _ rfl)) Via.refl eh53 f55.2.2.1 (g := (mkF m 116 #[vr x, vr b1, vn f, vn op, vn cl, vr y44, vi (-1), vr y44] [(.ref b1)])) rfl rfl (hb hby d8_116)
    refine oc st56 ?_
    refine ci (XS.aloadN X56.here hx rfl (hb hby d8_119) rfl rfl) ?_
    refine ci (XS.iloadN X56.here hx rfl (hb hby d8_120) rfl) ?_
    refine ci (XS.iloadN X56.here hx rfl (hb hby d8_121) rfl) ?_
    refine sc (A := (T56.setTop (mkF m 122 #[vr x, vr b1, vn f, vn op, vn cl, vr y44, vi (-1), vr y44] [(.int (Int32.ofNat op)), (.int (Int32.ofNat f)), (.ref x), (.ref lL2)]))) ?_
    have f57 : own_sr Z h45 x cs := ((f40.keep Kp44 nin0).ext E45)
    have f59 : Exa Z h45 x "java/lang/String" := ((f42.keep Kp44).ext E45)
    obtain ⟨cq58, kq58, q58a, q58b, q58c⟩ := isOf hZ45 e56 f59
    obtain ⟨_, _, ⟨T58, L58, k58, n58⟩, -, Xr58, hSr58, hgr58, ⟨Lc58, hQ58, l58, y58, z58, CHs58⟩, st58⟩ := X56.virtualBackS hx (y := ym20) (z := ym20) hown45 (mvT hZ45 (hW 246 _ rfl)) (mvT hZ45 (hW 113 _ rfl)) (notFace_of_selects (args := #[]) (mvT hZ45 (hW 115 _ rfl))) (mvT hZ45 (hW 115 _ rfl)) (mvT hZ45 (hW 114 _ rfl)) (by decide) (backOfSH (W := 1) (rmSu l Z a0 hw [] x cs f op Gc fm h45 n0 hEL O45 Oc Pc Of hfm f57 hfo (by omega)) hZ45 (hW 116 _ rfl) (hW 8 _ rfl) (by decide) (by decide) hEL CH45.1) q58a q58c (g := (mkF m 122 #[vr x, vr b1, vn f, vn op, vn cl, vr y44, vi (-1), vr y44] [(.int (Int32.ofNat op)), (.int (Int32.ofNat f)), (.ref x), (.ref lL2)])) rfl (by rw [hml]; rfl) (Steps.refl _) (argsL := [(.int (Int32.ofNat f)), (.int (Int32.ofNat op))]) (rest := [(.ref lL2)]) (lenOf pd_21 rfl) rfl (Nat.le_of_eq rfl) (hb hby d8_122) (fun _ _ => ⟨rfl, e56, (by decide : 26 + 2 ≤ _), (by decide : 238 + 26 ≤ _)⟩)
    dsimp only [Pt.U, Pt.locs, Pt.cells, Pt.slots] at Xr58 l58 y58 z58 st58 hQ58 hSr58 hgr58 CHs58
    obtain ⟨X58, hS58, hZ58, hown58⟩ := rebS hS45 (by rw [e56]; omega : k45 ≤ T56.heap.size) Xr58 hSr58 hgr58 hZ45 hown45
    subst l58 y58 z58
    obtain ⟨y58, rfl, Nq58, Kp58, Sy58⟩ := hQ58
    have N58 := Fr.app N53 Nq58
    refine oc (fun tt_ kk_ => st58.trans kk_) ?_
    have CH58 := CH45.trans CHs58
    have sz58 : h45.size ≤ T58.heap.size := Kp58.1
    have O58 : Old Z n0 T58.heap := O45.keep Kp58 all0
    have K58 : Keep h0 T58.heap [] := K45.trans Kp58 all0
    have Ex_y58 := Sy58.exa
    refine sc (A := (T58.setTop (mkF m 125 #[vr x, vr b1, vn f, vn op, vn cl, vr y44, vi (-1), vr y44] [(.ref y58), (.ref lL2)]))) ?_
    have f60 : own_al Z T58.heap dq n0 lL2 eL kL xL mL := (((A_L.keep Kp44 nin0 nin0).ext E45).keep Kp58 nin0 nin0)
    have f62 : Exa Z T58.heap lL2 "java/util/ArrayList" := (((A_L.1.keep Kp44).ext E45).keep Kp58)
    obtain ⟨cq61, kq61, q61a, q61b, q61c⟩ := isOf hZ58 rfl f62
    obtain ⟨_, T61, Lc61, X61, hQ61, st61⟩ := own_c1 X58 <| X58.interfaceBack hx (xi := ym8488) (y := ym23) hown58 (mvT hZ58 (hW 125 _ rfl)) (mvT hZ58 (hW 126 _ rfl)) (mvT hZ58 (hW 127 _ rfl)) (mvT hZ58 (hW 128 _ rfl)) (mvT hZ58 (hW 129 _ rfl)) (mvT hZ58 (hW 130 _ rfl)) (mvT hZ58 (hW 131 _ rfl)) (mvT hZ58 (hW 132 _ rfl)) (by decide) (backOf (W := 0) (rmAd l Z a0 hw [] lL2 dq kd eL kL xL (.ref y58) mL T58.heap n0 O58 (by omega) S_d V_d E_d l_d f60 (by omega) (Or.inr ⟨_, rfl, Ex_y58⟩)) hZ58 (hW 133 _ rfl) (hW 47 _ rfl) (by decide) (by decide)) q61a q61b q61c (g := (mkF m 125 #[vr x, vr b1, vn f, vn op, vn cl, vr y44, vi (-1), vr y44] [(.ref y58), (.ref lL2)])) rfl (by rw [hml]; rfl) (Steps.refl _) (argsL := [(.ref y58)]) (rest := []) (lenOf pd_29 rfl) rfl (Nat.le_of_eq rfl) (hb hby d8_125) (fun _ _ => ⟨rfl, rfl, (by decide : 28 + 1 ≤ _), (by decide : 264 + 10 ≤ _)⟩)
    obtain ⟨e61, k61, z61, rfl, Nq61, gz61, hz61, Kp61, AL61⟩ := hQ61
    have N61 := Fr.app N58 Nq61
    refine oc (fun tt_ kk_ => st61.trans kk_) ?_
    have CHs61 := CHr.keep Kp61 (allS (Safe.exa hZ58.alike f62 (by decide) (by decide)) (allS (own_al.safe (EL := own_EL) hZ58.alike f60 (by omega)) all0)) CH58.1
    have CH61 := CH58.trans CHs61
    have sz61 : T58.heap.size ≤ T61.heap.size := Kp61.1
    have O61 : Old Z n0 T61.heap := O58.keep Kp61 (allS (by omega) (allS (by omega) all0))
    have K61 : Keep h0 T61.heap [] := K58.trans Kp61 (allS (Or.inr (by omega)) (allS (Or.inr (by omega)) all0))
    have aw61 : own_aw Z T58.heap T61.heap := own_al.aw f60 Kp61 (by omega) (hW 46 _ rfl)
    obtain ⟨hz161, he61⟩ : eL = z61 ∧ eL = e61 := by omega
    clear hz61
    subst hz161 he61
    have la61 := AL61.lt2
    refine ci (XS.pop X61.here hx rfl (hb hby d8_130) rfl rfl) ?_
    refine ci (XS.aloadN X61.here hx rfl (hb hby d8_131) rfl rfl) ?_
    refine sc (A := (T61.setTop (mkF m 132 #[vr x, vr b1, vn f, vn op, vn cl, vr y44, vi (-1), vr y44] [(.ref b1)]))) ?_
    have f63 : own_set Z T61.heap b1 x lL2 lK2 lF2 := ((f55.keep Kp58 nin0).keep Kp61 (ninS (one (by omega)) (ninS (one (by omega)) nin0)))
    obtain ⟨T64, X64, e64, st64⟩ := getF X61 hx hZ58 hown58 (host := "") (Or.inl (hW 71 _ rfl)) Via.refl rfl f63.2.2.2.1 (g := (mkF m 132 #[vr x, vr b1, vn f, vn op, vn cl, vr y44, vi (-1), vr y44] [(.ref b1)])) rfl rfl (hb hby d8_132)
    refine oc st64 ?_
    refine ci (XS.aload X64.here hx rfl (hb hby d8_135) rfl rfl) ?_
    refine sc (A := (T64.setTop (mkF m 137 #[vr x, vr b1, vn f, vn op, vn cl, vr y44, vi (-1), vr y44] [(.ref y44), (.ref lK2)]))) ?_
    have f65 : own_al Z T61.heap dq n0 lK2 eK kK xK mK := ((((A_K.keep Kp44 nin0 nin0).ext E45).keep Kp58 nin0 nin0).keep Kp61 (ninS (one (by omega)) (ninS (one (by omega)) nin0)) (ninS (one (by omega)) (ninS (one (by omega)) nin0)))
    have f66 : Exa Z T61.heap y44 "java/lang/String" := ((f48.keep Kp58).keep Kp61)
    have f68 : Exa Z T61.heap lK2 "java/util/ArrayList" := ((((A_K.1.keep Kp44).ext E45).keep Kp58).keep Kp61)
    obtain ⟨cq67, kq67, q67a, q67b, q67c⟩ := isOf hZ58 e64 f68
    obtain ⟨_, T67, Lc67, X67, hQ67, st67⟩ := own_c1 X64 <| X64.interfaceBack hx (xi := ym8488) (y := ym23) hown58 (mvT hZ58 (hW 125 _ rfl)) (mvT hZ58 (hW 126 _ rfl)) (mvT hZ58 (hW 127 _ rfl)) (mvT hZ58 (hW 128 _ rfl)) (mvT hZ58 (hW 129 _ rfl)) (mvT hZ58 (hW 130 _ rfl)) (mvT hZ58 (hW 131 _ rfl)) (mvT hZ58 (hW 132 _ rfl)) (by decide) (backOf (W := 0) (rmAd l Z a0 hw [] lK2 dq kd eK kK xK (.ref y44) mK T61.heap n0 O61 (by omega) S_d V_d E_d l_d f65 (by omega) (Or.inr ⟨_, rfl, f66⟩)) hZ58 (hW 133 _ rfl) (hW 47 _ rfl) (by decide) (by decide)) q67a q67b q67c (g := (mkF m 137 #[vr x, vr b1, vn f, vn op, vn cl, vr y44, vi (-1), vr y44] [(.ref y44), (.ref lK2)])) rfl (by rw [hml]; rfl) (Steps.refl _) (argsL := [(.ref y44)]) (rest := []) (lenOf pd_29 rfl) rfl (Nat.le_of_eq rfl) (hb hby d8_137) (fun _ _ => ⟨rfl, e64, (by decide : 29 + 1 ≤ _), (by decide : 274 + 10 ≤ _)⟩)
    obtain ⟨e67, k67, z67, rfl, Nq67, gz67, hz67, Kp67, AL67⟩ := hQ67
    have N67 := Fr.app N61 Nq67
    refine oc (fun tt_ kk_ => st67.trans kk_) ?_
    have CHs67 := CHr.keep Kp67 (allS (Safe.exa hZ58.alike f68 (by decide) (by decide)) (allS (own_al.safe (EL := own_EL) hZ58.alike f65 (by omega)) all0)) CH61.1
    have CH67 := CH61.trans CHs67
    have sz67 : T61.heap.size ≤ T67.heap.size := Kp67.1
    have O67 : Old Z n0 T67.heap := O61.keep Kp67 (allS (by omega) (allS (by omega) all0))
    have K67 : Keep h0 T67.heap [] := K61.trans Kp67 (allS (Or.inr (by omega)) (allS (Or.inr (by omega)) all0))
    have aw67 : own_aw Z T61.heap T67.heap := own_al.aw f65 Kp67 (by omega) (hW 46 _ rfl)
    obtain ⟨hz167, he67⟩ : eK = z67 ∧ eK = e67 := by omega
    clear hz67
    subst hz167 he67
    have la67 := AL67.lt2
    refine ci (XS.pop X67.here hx rfl (hb hby d8_142) rfl rfl) ?_
    refine ci (XS.aloadN X67.here hx rfl (hb hby d8_143) rfl rfl) ?_
    refine sc (A := (T67.setTop (mkF m 144 #[vr x, vr b1, vn f, vn op, vn cl, vr y44, vi (-1), vr y44] [(.ref b1)]))) ?_
    have f69 : own_set Z T67.heap b1 x lL2 lK2 lF2 := (f63.keep Kp67 (ninS (one (by omega)) (ninS (one (by omega)) nin0)))
    obtain ⟨T70, X70, e70, st70⟩ := getF X67 hx hZ58 hown58 (host := "") (Or.inl (hW 73 _ rfl)) Via.refl rfl f69.2.2.2.2 (g := (mkF m 144 #[vr x, vr b1, vn f, vn op, vn cl, vr y44, vi (-1), vr y44] [(.ref b1)])) rfl rfl (hb hby d8_144)
    refine oc st70 ?_
    refine ci (XS.iload X70.here hx rfl (hb hby d8_147) rfl) ?_
    have hb149_71 : (-1 : Int32) < (0 : Int32) := (by decide)
    refine ci (XS.ifNo X70.here hx rfl (hb hby d8_149) rfl ((if0 _ _).trans (tlt hb149_71).2.1)) ?_
    refine sc (A := (T70.setTop (mkF m 152 #[vr x, vr b1, vn f, vn op, vn cl, vr y44, vi (-1), vr y44] [(.ref lF2)]))) ?_
    refine ci (XS.aconstNull X70.here hx rfl (hb hby d8_152)) ?_
    refine ci (XS.goto X70.here hx rfl (pc0 := 153) (pc' := 165) rfl (hb hby d8_153) (by decide) (by decide)) ?_
    refine sc (A := (T70.setTop (mkF m 165 #[vr x, vr b1, vn f, vn op, vn cl, vr y44, vi (-1), vr y44] [.null, (.ref lF2)]))) ?_
    have f72 : own_al Z T67.heap dq n0 lF2 eF kF xF mF := (((((A_F.keep Kp44 nin0 nin0).ext E45).keep Kp58 nin0 nin0).keep Kp61 (ninS (one (by omega)) (ninS (one (by omega)) nin0)) (ninS (one (by omega)) (ninS (one (by omega)) nin0))).keep Kp67 (ninS (one (by omega)) (ninS (one (by omega)) nin0)) (ninS (one (by omega)) (ninS (one (by omega)) nin0)))
    have f74 : Exa Z T67.heap lF2 "java/util/ArrayList" := (((((A_F.1.keep Kp44).ext E45).keep Kp58).keep Kp61).keep Kp67)
    obtain ⟨cq73, kq73, q73a, q73b, q73c⟩ := isOf hZ58 e70 f74
    obtain ⟨_, T73, Lc73, X73, hQ73, st73⟩ := own_c1 X70 <| X70.interfaceBack hx (xi := ym8488) (y := ym23) hown58 (mvT hZ58 (hW 125 _ rfl)) (mvT hZ58 (hW 126 _ rfl)) (mvT hZ58 (hW 127 _ rfl)) (mvT hZ58 (hW 128 _ rfl)) (mvT hZ58 (hW 129 _ rfl)) (mvT hZ58 (hW 130 _ rfl)) (mvT hZ58 (hW 131 _ rfl)) (mvT hZ58 (hW 132 _ rfl)) (by decide) (backOf (W := 0) (rmAd l Z a0 hw [] lF2 dq kd eF kF xF .null mF T67.heap n0 O67 (by omega) S_d V_d E_d l_d f72 (by omega) (Or.inl rfl)) hZ58 (hW 133 _ rfl) (hW 47 _ rfl) (by decide) (by decide)) q73a q73b q73c (g := (mkF m 165 #[vr x, vr b1, vn f, vn op, vn cl, vr y44, vi (-1), vr y44] [.null, (.ref lF2)])) rfl (by rw [hml]; rfl) (Steps.refl _) (argsL := [.null]) (rest := []) (lenOf pd_29 rfl) rfl (Nat.le_of_eq rfl) (hb hby d8_165) (fun _ _ => ⟨rfl, e70, (by decide : 30 + 1 ≤ _), (by decide : 284 + 10 ≤ _)⟩)
    obtain ⟨e73, k73, z73, rfl, Nq73, gz73, hz73, Kp73, AL73⟩ := hQ73
    have N73 := Fr.app N67 Nq73
    refine oc (fun tt_ kk_ => st73.trans kk_) ?_
    have CHs73 := CHr.keep Kp73 (allS (Safe.exa hZ58.alike f74 (by decide) (by decide)) (allS (own_al.safe (EL := own_EL) hZ58.alike f72 (by omega)) all0)) CH67.1
    have CH73 := CH67.trans CHs73
    have sz73 : T67.heap.size ≤ T73.heap.size := Kp73.1
    have O73 : Old Z n0 T73.heap := O67.keep Kp73 (allS (by omega) (allS (by omega) all0))
    have K73 : Keep h0 T73.heap [] := K67.trans Kp73 (allS (Or.inr (by omega)) (allS (Or.inr (by omega)) all0))
    have aw73 : own_aw Z T67.heap T73.heap := own_al.aw f72 Kp73 (by omega) (hW 46 _ rfl)
    obtain ⟨hz173, he73⟩ : eF = z73 ∧ eF = e73 := by omega
    clear hz73
    subst hz173 he73
    have la73 := AL73.lt2
    refine ci (XS.pop X73.here hx rfl (hb hby d8_170) rfl rfl) ?_
    refine ci (XS.iload X73.here hx rfl (hb hby d8_171) rfl) ?_
    refine ci (XS.iconst X73.here hx rfl (hb hby d8_173)) ?_
    refine ci (XS.iadd X73.here hx rfl (hb hby d8_174) rfl) ?_
    refine sc (A := (T73.setTop (mkF m 175 #[vr x, vr b1, vn f, vn op, vn cl, vr y44, vi (-1), vr y44] [(.int ((Int32.ofNat cl) + (1 : Int32)))]))) ?_
    rw [own_p1]
    refine sc (A := (T73.setTop (mkF m 175 #[vr x, vr b1, vn f, vn op, vn cl, vr y44, vi (-1), vr y44] [(.int (Int32.ofNat (cl + 1)))]))) ?_
    refine ci (XS.istoreN X73.here hx rfl (hb hby d8_175) rfl (l' := #[vr x, vr b1, vn (cl + 1), vn op, vn cl, vr y44, vi (-1), vr y44]) rfl) ?_
    refine ci (XS.aloadN X73.here hx rfl (hb hby d8_176) rfl rfl) ?_
    obtain ⟨b75, T75, h75, k75, t75, kb75, X75, e75, E75, hS75, hk75, hZ75, hown75, Ex75, Cx75, Vx75, Kx75, la75, lb75, CHs75, -, hne75, st75⟩ := ldcCH X73 hx hZ58 hown58 (hW 77 _ rfl) wS rfl hS58 (by omega : T58.heap.size ≤ T73.heap.size) hEL (by decide +kernel) CH73.1 (vs := [.int 36, .int 123]) (z := 2) ⟨by decide +kernel, by decide +kernel⟩ (by decide +kernel) (by decide +kernel) (g := (mkF m 177 #[vr x, vr b1, vn (cl + 1), vn op, vn cl, vr y44, vi (-1), vr y44] [(.ref x)])) rfl (hb hby d8_177) (n := 8) (by decide +kernel) (by decide) (by decide) (by decide)
    have CH75 := CH73.trans CHs75
    have Ss75 : own_sr Z h75 b75 ([36, 123] : List Int32) := ⟨by decide, by decide, t75, kb75, Ex75, Vx75, Cx75, Kx75⟩
    refine oc st75 ?_
    have sz75 : T73.heap.size ≤ h75.size := E75.1
    have O75 : Old Z n0 h75 := O73.ext E75
    have K75 : Keep h0 h75 [] := K73.ext E75
    have lla75 := olt la75
    have llb75 := olt lb75
    refine ci (XS.iloadN X75.here hx rfl (hb hby d8_179) rfl) ?_
    refine sc (A := (T75.setTop (mkF m 180 #[vr x, vr b1, vn (cl + 1), vn op, vn cl, vr y44, vi (-1), vr y44] [(.int (Int32.ofNat (cl + 1))), (.ref b75), (.ref x)]))) ?_
    have f76 : own_sr Z h75 x cs := (((((f57.keep Kp58 nin0).aw aw61).aw aw67).aw aw73).ext E75)
    have f78 : Exa Z h75 x "java/lang/String" := (((((f59.keep Kp58).keep Kp61).keep Kp67).keep Kp73).ext E75)
    obtain ⟨cq77, kq77, q77a, q77b, q77c⟩ := isOf hZ75 e75 f78
    obtain ⟨_, T77, Lc77, X77, hQ77, st77⟩ := own_c1 X75 <| X75.virtualBack hx (y := ym56) (z := ym56) hown75 (mvT hZ75 (hW 296 _ rfl)) (mvT hZ75 (hW 297 _ rfl)) (notFace_of_selects (args := #[]) (mvT hZ75 (hW 299 _ rfl))) (mvT hZ75 (hW 299 _ rfl)) (mvT hZ75 (hW 298 _ rfl)) (by decide) (backOf (W := 0) (rmF l Z a0 hw [] x cs b75 (cl + 1) Gc h75 n0 O75 Oc Pc f76 Ss75 (by omega)) hZ75 (hW 300 _ rfl) (hW 8 _ rfl) (by decide) (by decide)) q77a q77c (g := (mkF m 180 #[vr x, vr b1, vn (cl + 1), vn op, vn cl, vr y44, vi (-1), vr y44] [(.int (Int32.ofNat (cl + 1))), (.ref b75), (.ref x)])) rfl (by rw [hml]; rfl) (Steps.refl _) (argsL := [(.ref b75), (.int (Int32.ofNat (cl + 1)))]) (rest := []) (lenOf pd_32 rfl) rfl (Nat.le_of_eq rfl) (hb hby d8_180) (fun _ _ => ⟨rfl, e75, (by decide : 33 + 0 ≤ _), (by decide : 306 + 0 ≤ _)⟩)
    obtain ⟨r77, rfl, hr77, Nq77, eh77⟩ := hQ77
    have N77 := Fr.app N73 Nq77
    refine oc (fun tt_ kk_ => st77.trans kk_) ?_
    refine ci (XS.istoreN X77.here hx rfl (hb hby d8_183) rfl (l' := #[vr x, vr b1, vn (cl + 1), vi r77, vn cl, vr y44, vi (-1), vr y44]) rfl) ?_
    refine ci (XS.goto X77.here hx rfl (pc0 := 184) (pc' := 18) rfl (hb hby d8_184) (by decide) (by decide)) ?_
    refine sc (A := (T77.setTop (mkF m 18 #[vr x, vr b1, vn (cl + 1), vi r77, vn cl, vr y44, vi (-1), vr y44] []))) ?_
    have f79 : own_cont Z h75 xL cL := (((((((c_L.keep Kp44 nin0).ext E45).keep Kp58 nin0).aw aw61).aw aw67).aw aw73).ext E75)
    have f80 : own_sr Z h75 y58 (own_sl cs f op) := ((((Sy58.aw aw61).aw aw67).aw aw73).ext E75)
    have f81 : own_cont Z h75 xK cK := (((((((c_K.keep Kp44 nin0).ext E45).keep Kp58 nin0).aw aw61).aw aw67).aw aw73).ext E75)
    have f82 : own_sr Z h75 y44 (own_sl cs (op + 2) kt) := (((((R52.keep Kp58 nin0).aw aw61).aw aw67).aw aw73).ext E75)
    have f83 : own_cont Z h75 xF cF := (((((((c_F.keep Kp44 nin0).ext E45).keep Kp58 nin0).aw aw61).aw aw67).aw aw73).ext E75)
    have f84 : own_set Z h75 b1 x lL2 lK2 lF2 := ((f69.keep Kp73 (ninS (one (by omega)) (ninS (one (by omega)) nin0))).ext E75)
    have f85 : own_al Z h75 dq n0 lL2 eL k61 (xL ++ [(.ref y58)]) (mL + (1 : Int32)) := (((AL61.keep Kp67 (ninS (one (by omega)) (ninS (one (by omega)) nin0)) (ninS (one (by omega)) (ninS (one (by omega)) nin0))).keep Kp73 (ninS (one (by omega)) (ninS (one (by omega)) nin0)) (ninS (one (by omega)) (ninS (one (by omega)) nin0))).ext E75)
    have f86 : own_al Z h75 dq n0 lK2 eK k67 (xK ++ [(.ref y44)]) (mK + (1 : Int32)) := ((AL67.keep Kp73 (ninS (one (by omega)) (ninS (one (by omega)) nin0)) (ninS (one (by omega)) (ninS (one (by omega)) nin0))).ext E75)
    have f87 : own_al Z h75 dq n0 lF2 eF k73 (xF ++ [.null]) (mF + (1 : Int32)) := (AL73.ext E75)
    exact J18_2 _ _ _ _ _ (cl + 1) _ eL eK eF k61 k67 k73 (xL ++ [(.ref y58)]) (xK ++ [(.ref y44)]) (xF ++ [.null]) (mL + (1 : Int32)) (mK + (1 : Int32)) (mF + (1 : Int32)) (cL ++ [some (own_sl cs f op)]) (cK ++ [some (own_sl cs (op + 2) kt)]) (cF ++ [own_fb cs kt cl false]) rs' _ _ _ _ (X77.more (by decide) (by decide)) eh77 N77 O75 K75 hS75 (by omega) hZ75 hown75 CH75 f84 f85 f86 f87 (own_cont.snoc f79 ⟨y58, rfl, f80⟩) (own_cont.snoc f81 ⟨y44, rfl, f82⟩) (own_cont.snoc f83 own_it0) (by rw [← u_L, List.append_assoc]; rfl) (by rw [← u_K, List.append_assoc]; rfl) (by rw [← u_F, List.append_assoc]; rfl) hP' hr77 (by omega) (by rw [List.length_append, n_L]; rfl) (by rw [List.length_append, n_K]; rfl) (by rw [List.length_append, n_F]; rfl) (by omega) (by omega) (by omega) (Or.inr ⟨_, rfl⟩) (Or.inr ⟨_, rfl⟩) (Or.inr ⟨_, rfl⟩) (Or.inr ⟨_, rfl⟩)
   ·obtain rfl : r50 = Int32.ofNat (kt - (op + 2)) := own_ix_col hq hr50
    have b4_ : kt < cl := hq.2.2.2.2.2.2.2.2.elim (fun q => q.2.1) (fun q => by cases q.1)
    refine sc (A := (T50.setTop (mkF m 78 #[vr x, vr b1, vn f, vn op, vn cl, vr y44, l6, l7] [(.int (Int32.ofNat (kt - (op + 2))))]))) ?_
    refine ci (XS.istore X50.here hx rfl (hb hby d8_78) rfl (l' := #[vr x, vr b1, vn f, vn op, vn cl, vr y44, .val (.int (Int32.ofNat (kt - (op + 2)))), l7]) (by rcases o6 with rfl | ⟨z, rfl⟩ <;> rfl)) ?_
    refine ci (XS.iload X50.here hx rfl (hb hby d8_80) rfl) ?_
    have hb82_88 : ¬ ((Int32.ofNat (kt - (op + 2))) < (0 : Int32)) := (own_nn (by omega))
    refine ci (XS.ifYes X50.here hx rfl (pc0 := 82) (pc' := 90) rfl (hb hby d8_82) rfl ((if0 _ _).trans (flt hb82_88).2.1) (by decide) (by decide)) ?_
    refine sc (A := (T50.setTop (mkF m 90 #[vr x, vr b1, vn f, vn op, vn cl, vr y44, .val (.int (Int32.ofNat (kt - (op + 2)))), l7] []))) ?_
    refine ci (XS.aload X50.here hx rfl (hb hby d8_90) rfl rfl) ?_
    refine ci (XS.iconst X50.here hx rfl (hb hby d8_92)) ?_
    refine ci (XS.iload X50.here hx rfl (hb hby d8_93) rfl) ?_
    refine sc (A := (T50.setTop (mkF m 95 #[vr x, vr b1, vn f, vn op, vn cl, vr y44, .val (.int (Int32.ofNat (kt - (op + 2)))), l7] [(.int (Int32.ofNat (kt - (op + 2)))), (.int 0), (.ref y44)]))) ?_
    obtain ⟨cq89, kq89, q89a, q89b, q89c⟩ := isOf hZ45 eh50 f48
    obtain ⟨_, _, ⟨T89, L89, k89, n89⟩, -, Xr89, hSr89, hgr89, ⟨Lc89, hQ89, l89, y89, z89, CHs89⟩, st89⟩ := X50.virtualBackS hx (y := ym20) (z := ym20) hown45 (mvT hZ45 (hW 246 _ rfl)) (mvT hZ45 (hW 113 _ rfl)) (notFace_of_selects (args := #[]) (mvT hZ45 (hW 115 _ rfl))) (mvT hZ45 (hW 115 _ rfl)) (mvT hZ45 (hW 114 _ rfl)) (by decide) (backOfSH (W := 0) (rmSu l Z a0 hw [] y44 (own_sl cs (op + 2) cl) 0 (kt - (op + 2)) Gc fm h45 n0 hEL O45 Oc Pc Of hfm f46 (by omega) (by rw [own_sl_len (by omega)]; omega)) hZ45 (hW 116 _ rfl) (hW 8 _ rfl) (by decide) (by decide) hEL CH45.1) q89a q89c (g := (mkF m 95 #[vr x, vr b1, vn f, vn op, vn cl, vr y44, .val (.int (Int32.ofNat (kt - (op + 2)))), l7] [(.int (Int32.ofNat (kt - (op + 2)))), (.int 0), (.ref y44)])) rfl (by rw [hml]; rfl) (Steps.refl _) (argsL := [(.int 0), (.int (Int32.ofNat (kt - (op + 2))))]) (rest := []) (lenOf pd_21 rfl) rfl (Nat.le_of_eq rfl) (hb hby d8_95) (fun _ _ => ⟨rfl, eh50, (by decide : 26 + 2 ≤ _), (by decide : 238 + 26 ≤ _)⟩)
    dsimp only [Pt.U, Pt.locs, Pt.cells, Pt.slots] at Xr89 l89 y89 z89 st89 hQ89 hSr89 hgr89 CHs89
    obtain ⟨X89, hS89, hZ89, hown89⟩ := rebS hS45 (by rw [eh50]; omega : k45 ≤ T50.heap.size) Xr89 hSr89 hgr89 hZ45 hown45
    subst l89 y89 z89
    obtain ⟨y89, rfl, Nq89, Kp89, Sy89⟩ := hQ89
    have N89 := Fr.app N50 Nq89
    refine oc (fun tt_ kk_ => st89.trans kk_) ?_
    have CH89 := CH45.trans CHs89
    have sz89 : h45.size ≤ T89.heap.size := Kp89.1
    have O89 : Old Z n0 T89.heap := O45.keep Kp89 all0
    have K89 : Keep h0 T89.heap [] := K45.trans Kp89 all0
    have Ex_y89 := Sy89.exa
    have R90 : own_sr Z T89.heap y89 (own_sl cs (op + 2) kt) := by have q := Sy89; rw [own_sl_sl (by omega), show op + 2 + (kt - (op + 2)) = kt by omega] at q; exact q
    refine ci (XS.astore X89.here hx rfl (hb hby d8_98) rfl rfl (l' := #[vr x, vr b1, vn f, vn op, vn cl, vr y44, .val (.int (Int32.ofNat (kt - (op + 2)))), vr y89]) (by rcases o7 with rfl | ⟨z, rfl⟩ <;> rfl)) ?_
    refine ci (XS.aload X89.here hx rfl (hb hby d8_100) rfl rfl) ?_
    refine sc (A := (T89.setTop (mkF m 102 #[vr x, vr b1, vn f, vn op, vn cl, vr y44, .val (.int (Int32.ofNat (kt - (op + 2)))), vr y89] [(.ref y89)]))) ?_
    obtain ⟨cq91, kq91, q91a, q91b, q91c⟩ := isOf hZ89 rfl Ex_y89
    obtain ⟨_, T91, Lc91, X91, hQ91, st91⟩ := own_c1 X89 <| X89.virtualBack hx (y := ym55) (z := ym55) hown89 (mvT hZ89 (hW 290 _ rfl)) (mvT hZ89 (hW 291 _ rfl)) (notFace_of_selects (args := #[]) (mvT hZ89 (hW 293 _ rfl))) (mvT hZ89 (hW 293 _ rfl)) (mvT hZ89 (hW 292 _ rfl)) (by decide) (backOf (W := 0) (rmEm l Z a0 hw [] y89 (own_sl cs (op + 2) kt) T89.heap n0 O89 R90 (by rw [own_sl_len (by omega)]; omega)) hZ89 (hW 294 _ rfl) (hW 8 _ rfl) (by decide) (by decide)) q91a q91c (g := (mkF m 102 #[vr x, vr b1, vn f, vn op, vn cl, vr y44, .val (.int (Int32.ofNat (kt - (op + 2)))), vr y89] [(.ref y89)])) rfl (by rw [hml]; rfl) (Steps.refl _) (argsL := []) (rest := []) (lenOf pd_3 rfl) rfl (Nat.le_of_eq rfl) (hb hby d8_102) (fun _ _ => ⟨rfl, rfl, (by decide : 28 + 0 ≤ _), (by decide : 264 + 0 ≤ _)⟩)
    obtain ⟨rfl, Nq91, eh91⟩ := hQ91
    have N91 := Fr.app N89 Nq91
    refine oc (fun tt_ kk_ => st91.trans kk_) ?_
    have hb105_92 : (0 : Int32) = (0 : Int32) := by decide
    refine ci (XS.ifYes X91.here hx rfl (pc0 := 105) (pc' := 115) rfl (hb hby d8_105) rfl ((if0 _ _).trans (teq hb105_92).1) (by decide) (by decide)) ?_
    refine ci (XS.aloadN X91.here hx rfl (hb hby d8_115) rfl rfl) ?_
    refine sc (A := (T91.setTop (mkF m 116 #[vr x, vr b1, vn f, vn op, vn cl, vr y44, .val (.int (Int32.ofNat (kt - (op + 2)))), vr y89] [(.ref b1)]))) ?_
    have f93 : own_set Z T89.heap b1 x lL2 lK2 lF2 := (((M_o.keep Kp44 nin0).ext E45).keep Kp89 nin0)
    obtain ⟨T94, X94, e94, st94⟩ := getF X91 hx hZ89 hown89 (host := "") (Or.inl (hW 69 _ rfl)) Via.refl eh91 f93.2.2.1 (g := (mkF m 116 #[vr x, vr b1, vn f, vn op, vn cl, vr y44, .val (.int (Int32.ofNat (kt - (op + 2)))), vr y89] [(.ref b1)])) rfl rfl (hb hby d8_116)
    refine oc st94 ?_
    refine ci (XS.aloadN X94.here hx rfl (hb hby d8_119) rfl rfl) ?_
    refine ci (XS.iloadN X94.here hx rfl (hb hby d8_120) rfl) ?_
    refine ci (XS.iloadN X94.here hx rfl (hb hby d8_121) rfl) ?_
    refine sc (A := (T94.setTop (mkF m 122 #[vr x, vr b1, vn f, vn op, vn cl, vr y44, .val (.int (Int32.ofNat (kt - (op + 2)))), vr y89] [(.int (Int32.ofNat op)), (.int (Int32.ofNat f)), (.ref x), (.ref lL2)]))) ?_
    have f95 : own_sr Z T89.heap x cs := (((f40.keep Kp44 nin0).ext E45).keep Kp89 nin0)
    have f97 : Exa Z T89.heap x "java/lang/String" := (((f42.keep Kp44).ext E45).keep Kp89)
    obtain ⟨cq96, kq96, q96a, q96b, q96c⟩ := isOf hZ89 e94 f97
    obtain ⟨_, _, ⟨T96, L96, k96, n96⟩, -, Xr96, hSr96, hgr96, ⟨Lc96, hQ96, l96, y96, z96, CHs96⟩, st96⟩ := X94.virtualBackS hx (y := ym20) (z := ym20) hown89 (mvT hZ89 (hW 246 _ rfl)) (mvT hZ89 (hW 113 _ rfl)) (notFace_of_selects (args := #[]) (mvT hZ89 (hW 115 _ rfl))) (mvT hZ89 (hW 115 _ rfl)) (mvT hZ89 (hW 114 _ rfl)) (by decide) (backOfSH (W := 1) (rmSu l Z a0 hw [] x cs f op Gc fm T89.heap n0 hEL O89 Oc Pc Of hfm f95 hfo (by omega)) hZ89 (hW 116 _ rfl) (hW 8 _ rfl) (by decide) (by decide) hEL CH89.1) q96a q96c (g := (mkF m 122 #[vr x, vr b1, vn f, vn op, vn cl, vr y44, .val (.int (Int32.ofNat (kt - (op + 2)))), vr y89] [(.int (Int32.ofNat op)), (.int (Int32.ofNat f)), (.ref x), (.ref lL2)])) rfl (by rw [hml]; rfl) (Steps.refl _) (argsL := [(.int (Int32.ofNat f)), (.int (Int32.ofNat op))]) (rest := [(.ref lL2)]) (lenOf pd_21 rfl) rfl (Nat.le_of_eq rfl) (hb hby d8_122) (fun _ _ => ⟨rfl, e94, (by decide : 28 + 2 ≤ _), (by decide : 264 + 26 ≤ _)⟩)
    dsimp only [Pt.U, Pt.locs, Pt.cells, Pt.slots] at Xr96 l96 y96 z96 st96 hQ96 hSr96 hgr96 CHs96
    obtain ⟨X96, hS96, hZ96, hown96⟩ := rebS hS89 (by rw [e94]; omega : T89.heap.size ≤ T94.heap.size) Xr96 hSr96 hgr96 hZ89 hown89
    subst l96 y96 z96
    obtain ⟨y96, rfl, Nq96, Kp96, Sy96⟩ := hQ96
    have N96 := Fr.app N91 Nq96
    refine oc (fun tt_ kk_ => st96.trans kk_) ?_
    have CH96 := CH89.trans CHs96
    have sz96 : T89.heap.size ≤ T96.heap.size := Kp96.1
    have O96 : Old Z n0 T96.heap := O89.keep Kp96 all0
    have K96 : Keep h0 T96.heap [] := K89.trans Kp96 all0
    have Ex_y96 := Sy96.exa
    refine sc (A := (T96.setTop (mkF m 125 #[vr x, vr b1, vn f, vn op, vn cl, vr y44, .val (.int (Int32.ofNat (kt - (op + 2)))), vr y89] [(.ref y96), (.ref lL2)]))) ?_
    have f98 : own_al Z T96.heap dq n0 lL2 eL kL xL mL := ((((A_L.keep Kp44 nin0 nin0).ext E45).keep Kp89 nin0 nin0).keep Kp96 nin0 nin0)
    have f100 : Exa Z T96.heap lL2 "java/util/ArrayList" := ((((A_L.1.keep Kp44).ext E45).keep Kp89).keep Kp96)
    obtain ⟨cq99, kq99, q99a, q99b, q99c⟩ := isOf hZ96 rfl f100
    obtain ⟨_, T99, Lc99, X99, hQ99, st99⟩ := own_c1 X96 <| X96.interfaceBack hx (xi := ym8488) (y := ym23) hown96 (mvT hZ96 (hW 125 _ rfl)) (mvT hZ96 (hW 126 _ rfl)) (mvT hZ96 (hW 127 _ rfl)) (mvT hZ96 (hW 128 _ rfl)) (mvT hZ96 (hW 129 _ rfl)) (mvT hZ96 (hW 130 _ rfl)) (mvT hZ96 (hW 131 _ rfl)) (mvT hZ96 (hW 132 _ rfl)) (by decide) (backOf (W := 0) (rmAd l Z a0 hw [] lL2 dq kd eL kL xL (.ref y96) mL T96.heap n0 O96 (by omega) S_d V_d E_d l_d f98 (by omega) (Or.inr ⟨_, rfl, Ex_y96⟩)) hZ96 (hW 133 _ rfl) (hW 47 _ rfl) (by decide) (by decide)) q99a q99b q99c (g := (mkF m 125 #[vr x, vr b1, vn f, vn op, vn cl, vr y44, .val (.int (Int32.ofNat (kt - (op + 2)))), vr y89] [(.ref y96), (.ref lL2)])) rfl (by rw [hml]; rfl) (Steps.refl _) (argsL := [(.ref y96)]) (rest := []) (lenOf pd_29 rfl) rfl (Nat.le_of_eq rfl) (hb hby d8_125) (fun _ _ => ⟨rfl, rfl, (by decide : 30 + 1 ≤ _), (by decide : 290 + 10 ≤ _)⟩)
    obtain ⟨e99, k99, z99, rfl, Nq99, gz99, hz99, Kp99, AL99⟩ := hQ99
    have N99 := Fr.app N96 Nq99
    refine oc (fun tt_ kk_ => st99.trans kk_) ?_
    have CHs99 := CHr.keep Kp99 (allS (Safe.exa hZ96.alike f100 (by decide) (by decide)) (allS (own_al.safe (EL := own_EL) hZ96.alike f98 (by omega)) all0)) CH96.1
    have CH99 := CH96.trans CHs99
    have sz99 : T96.heap.size ≤ T99.heap.size := Kp99.1
    have O99 : Old Z n0 T99.heap := O96.keep Kp99 (allS (by omega) (allS (by omega) all0))
    have K99 : Keep h0 T99.heap [] := K96.trans Kp99 (allS (Or.inr (by omega)) (allS (Or.inr (by omega)) all0))
    have aw99 : own_aw Z T96.heap T99.heap := own_al.aw f98 Kp99 (by omega) (hW 46 _ rfl)
    obtain ⟨hz199, he99⟩ : eL = z99 ∧ eL = e99 := by omega
    clear hz99
    subst hz199 he99
    have la99 := AL99.lt2
    refine ci (XS.pop X99.here hx rfl (hb hby d8_130) rfl rfl) ?_
    refine ci (XS.aloadN X99.here hx rfl (hb hby d8_131) rfl rfl) ?_
    refine sc (A := (T99.setTop (mkF m 132 #[vr x, vr b1, vn f, vn op, vn cl, vr y44, .val (.int (Int32.ofNat (kt - (op + 2)))), vr y89] [(.ref b1)]))) ?_
    have f101 : own_set Z T99.heap b1 x lL2 lK2 lF2 := ((f93.keep Kp96 nin0).keep Kp99 (ninS (one (by omega)) (ninS (one (by omega)) nin0)))
    obtain ⟨T102, X102, e102, st102⟩ := getF X99 hx hZ96 hown96 (host := "") (Or.inl (hW 71 _ rfl)) Via.refl rfl f101.2.2.2.1 (g := (mkF m 132 #[vr x, vr b1, vn f, vn op, vn cl, vr y44, .val (.int (Int32.ofNat (kt - (op + 2)))), vr y89] [(.ref b1)])) rfl rfl (hb hby d8_132)
    refine oc st102 ?_
    refine ci (XS.aload X102.here hx rfl (hb hby d8_135) rfl rfl) ?_
    refine sc (A := (T102.setTop (mkF m 137 #[vr x, vr b1, vn f, vn op, vn cl, vr y44, .val (.int (Int32.ofNat (kt - (op + 2)))), vr y89] [(.ref y89), (.ref lK2)]))) ?_
    have f103 : own_al Z T99.heap dq n0 lK2 eK kK xK mK := (((((A_K.keep Kp44 nin0 nin0).ext E45).keep Kp89 nin0 nin0).keep Kp96 nin0 nin0).keep Kp99 (ninS (one (by omega)) (ninS (one (by omega)) nin0)) (ninS (one (by omega)) (ninS (one (by omega)) nin0)))
    have f104 : Exa Z T99.heap y89 "java/lang/String" := ((Ex_y89.keep Kp96).keep Kp99)
    have f106 : Exa Z T99.heap lK2 "java/util/ArrayList" := (((((A_K.1.keep Kp44).ext E45).keep Kp89).keep Kp96).keep Kp99)
    obtain ⟨cq105, kq105, q105a, q105b, q105c⟩ := isOf hZ96 e102 f106
    obtain ⟨_, T105, Lc105, X105, hQ105, st105⟩ := own_c1 X102 <| X102.interfaceBack hx (xi := ym8488) (y := ym23) hown96 (mvT hZ96 (hW 125 _ rfl)) (mvT hZ96 (hW 126 _ rfl)) (mvT hZ96 (hW 127 _ rfl)) (mvT hZ96 (hW 128 _ rfl)) (mvT hZ96 (hW 129 _ rfl)) (mvT hZ96 (hW 130 _ rfl)) (mvT hZ96 (hW 131 _ rfl)) (mvT hZ96 (hW 132 _ rfl)) (by decide) (backOf (W := 0) (rmAd l Z a0 hw [] lK2 dq kd eK kK xK (.ref y89) mK T99.heap n0 O99 (by omega) S_d V_d E_d l_d f103 (by omega) (Or.inr ⟨_, rfl, f104⟩)) hZ96 (hW 133 _ rfl) (hW 47 _ rfl) (by decide) (by decide)) q105a q105b q105c (g := (mkF m 137 #[vr x, vr b1, vn f, vn op, vn cl, vr y44, .val (.int (Int32.ofNat (kt - (op + 2)))), vr y89] [(.ref y89), (.ref lK2)])) rfl (by rw [hml]; rfl) (Steps.refl _) (argsL := [(.ref y89)]) (rest := []) (lenOf pd_29 rfl) rfl (Nat.le_of_eq rfl) (hb hby d8_137) (fun _ _ => ⟨rfl, e102, (by decide : 31 + 1 ≤ _), (by decide : 300 + 10 ≤ _)⟩)
    obtain ⟨e105, k105, z105, rfl, Nq105, gz105, hz105, Kp105, AL105⟩ := hQ105
    have N105 := Fr.app N99 Nq105
    refine oc (fun tt_ kk_ => st105.trans kk_) ?_
    have CHs105 := CHr.keep Kp105 (allS (Safe.exa hZ96.alike f106 (by decide) (by decide)) (allS (own_al.safe (EL := own_EL) hZ96.alike f103 (by omega)) all0)) CH99.1
    have CH105 := CH99.trans CHs105
    have sz105 : T99.heap.size ≤ T105.heap.size := Kp105.1
    have O105 : Old Z n0 T105.heap := O99.keep Kp105 (allS (by omega) (allS (by omega) all0))
    have K105 : Keep h0 T105.heap [] := K99.trans Kp105 (allS (Or.inr (by omega)) (allS (Or.inr (by omega)) all0))
    have aw105 : own_aw Z T99.heap T105.heap := own_al.aw f103 Kp105 (by omega) (hW 46 _ rfl)
    obtain ⟨hz1105, he105⟩ : eK = z105 ∧ eK = e105 := by omega
    clear hz105
    subst hz1105 he105
    have la105 := AL105.lt2
    refine ci (XS.pop X105.here hx rfl (hb hby d8_142) rfl rfl) ?_
    refine ci (XS.aloadN X105.here hx rfl (hb hby d8_143) rfl rfl) ?_
    refine sc (A := (T105.setTop (mkF m 144 #[vr x, vr b1, vn f, vn op, vn cl, vr y44, .val (.int (Int32.ofNat (kt - (op + 2)))), vr y89] [(.ref b1)]))) ?_
    have f107 : own_set Z T105.heap b1 x lL2 lK2 lF2 := (f101.keep Kp105 (ninS (one (by omega)) (ninS (one (by omega)) nin0)))
    obtain ⟨T108, X108, e108, st108⟩ := getF X105 hx hZ96 hown96 (host := "") (Or.inl (hW 73 _ rfl)) Via.refl rfl f107.2.2.2.2 (g := (mkF m 144 #[vr x, vr b1, vn f, vn op, vn cl, vr y44, .val (.int (Int32.ofNat (kt - (op + 2)))), vr y89] [(.ref b1)])) rfl rfl (hb hby d8_144)
    refine oc st108 ?_
    refine ci (XS.iload X108.here hx rfl (hb hby d8_147) rfl) ?_
    have hb149_109 : ¬ ((Int32.ofNat (kt - (op + 2))) < (0 : Int32)) := (own_nn (by omega))
    refine ci (XS.ifYes X108.here hx rfl (pc0 := 149) (pc' := 156) rfl (hb hby d8_149) rfl ((if0 _ _).trans (flt hb149_109).2.1) (by decide) (by decide)) ?_
    refine sc (A := (T108.setTop (mkF m 156 #[vr x, vr b1, vn f, vn op, vn cl, vr y44, .val (.int (Int32.ofNat (kt - (op + 2)))), vr y89] [(.ref lF2)]))) ?_
    refine ci (XS.aload X108.here hx rfl (hb hby d8_156) rfl rfl) ?_
    refine ci (XS.iload X108.here hx rfl (hb hby d8_158) rfl) ?_
    refine ci (XS.iconst X108.here hx rfl (hb hby d8_160)) ?_
    refine ci (XS.iadd X108.here hx rfl (hb hby d8_161) rfl) ?_
    refine sc (A := (T108.setTop (mkF m 162 #[vr x, vr b1, vn f, vn op, vn cl, vr y44, .val (.int (Int32.ofNat (kt - (op + 2)))), vr y89] [(.int ((Int32.ofNat (kt - (op + 2))) + (1 : Int32))), (.ref y44), (.ref lF2)]))) ?_
    rw [own_p1]
    refine sc (A := (T108.setTop (mkF m 162 #[vr x, vr b1, vn f, vn op, vn cl, vr y44, .val (.int (Int32.ofNat (kt - (op + 2)))), vr y89] [(.int (Int32.ofNat (kt - (op + 2) + 1))), (.ref y44), (.ref lF2)]))) ?_
    have f110 : own_sr Z T105.heap y44 (own_sl cs (op + 2) cl) := ((((f46.keep Kp89 nin0).keep Kp96 nin0).aw aw99).aw aw105)
    have f112 : Exa Z T105.heap y44 "java/lang/String" := ((((f48.keep Kp89).keep Kp96).keep Kp99).keep Kp105)
    obtain ⟨cq111, kq111, q111a, q111b, q111c⟩ := isOf hZ96 e108 f112
    obtain ⟨_, _, ⟨T111, L111, k111, n111⟩, -, Xr111, hSr111, hgr111, ⟨Lc111, hQ111, l111, y111, z111, CHs111⟩, st111⟩ := X108.virtualBackS hx (y := ym18) (z := ym18) hown96 (mvT hZ96 (hW 102 _ rfl)) (mvT hZ96 (hW 103 _ rfl)) (notFace_of_selects (args := #[]) (mvT hZ96 (hW 105 _ rfl))) (mvT hZ96 (hW 105 _ rfl)) (mvT hZ96 (hW 104 _ rfl)) (by decide) (backOfSH (W := 1) (rmS1s l Z a0 hw [] y44 (own_sl cs (op + 2) cl) (kt - (op + 2) + 1) Gc fm T105.heap n0 hEL O105 Oc Pc Of hfm f110 (by rw [own_sl_len (by omega)]; omega)) hZ96 (hW 106 _ rfl) (hW 8 _ rfl) (by decide) (by decide) hEL CH105.1) q111a q111c (g := (mkF m 162 #[vr x, vr b1, vn f, vn op, vn cl, vr y44, .val (.int (Int32.ofNat (kt - (op + 2)))), vr y89] [(.int (Int32.ofNat (kt - (op + 2) + 1))), (.ref y44), (.ref lF2)])) rfl (by rw [hml]; rfl) (Steps.refl _) (argsL := [(.int (Int32.ofNat (kt - (op + 2) + 1)))]) (rest := [(.ref lF2)]) (lenOf pd_28 rfl) rfl (Nat.le_of_eq rfl) (hb hby d8_162) (fun _ _ => ⟨rfl, e108, (by decide : 32 + 2 ≤ _), (by decide : 310 + 26 ≤ _)⟩)
    dsimp only [Pt.U, Pt.locs, Pt.cells, Pt.slots] at Xr111 l111 y111 z111 st111 hQ111 hSr111 hgr111 CHs111
    obtain ⟨X111, hS111, hZ111, hown111⟩ := rebS hS96 (by rw [e108]; omega : T96.heap.size ≤ T108.heap.size) Xr111 hSr111 hgr111 hZ96 hown96
    subst l111 y111 z111
    obtain ⟨y111, rfl, Nq111, Kp111, Sy111⟩ := hQ111
    have N111 := Fr.app N105 Nq111
    refine oc (fun tt_ kk_ => st111.trans kk_) ?_
    have CH111 := CH105.trans CHs111
    have sz111 : T105.heap.size ≤ T111.heap.size := Kp111.1
    have O111 : Old Z n0 T111.heap := O105.keep Kp111 all0
    have K111 : Keep h0 T111.heap [] := K105.trans Kp111 all0
    have Ex_y111 := Sy111.exa
    have R113 : own_sr Z T111.heap y111 (own_sl cs (kt + 1) cl) := by have q := Sy111; rw [own_sl_len (by omega), own_sl_sl (by omega), show op + 2 + (kt - (op + 2) + 1) = kt + 1 by omega, show op + 2 + (cl - (op + 2)) = cl by omega] at q; exact q
    refine sc (A := (T111.setTop (mkF m 165 #[vr x, vr b1, vn f, vn op, vn cl, vr y44, .val (.int (Int32.ofNat (kt - (op + 2)))), vr y89] [(.ref y111), (.ref lF2)]))) ?_
    have f114 : own_al Z T111.heap dq n0 lF2 eF kF xF mF := (((((((A_F.keep Kp44 nin0 nin0).ext E45).keep Kp89 nin0 nin0).keep Kp96 nin0 nin0).keep Kp99 (ninS (one (by omega)) (ninS (one (by omega)) nin0)) (ninS (one (by omega)) (ninS (one (by omega)) nin0))).keep Kp105 (ninS (one (by omega)) (ninS (one (by omega)) nin0)) (ninS (one (by omega)) (ninS (one (by omega)) nin0))).keep Kp111 nin0 nin0)
    have f116 : Exa Z T111.heap lF2 "java/util/ArrayList" := (((((((A_F.1.keep Kp44).ext E45).keep Kp89).keep Kp96).keep Kp99).keep Kp105).keep Kp111)
    obtain ⟨cq115, kq115, q115a, q115b, q115c⟩ := isOf hZ111 rfl f116
    obtain ⟨_, T115, Lc115, X115, hQ115, st115⟩ := own_c1 X111 <| X111.interfaceBack hx (xi := ym8488) (y := ym23) hown111 (mvT hZ111 (hW 125 _ rfl)) (mvT hZ111 (hW 126 _ rfl)) (mvT hZ111 (hW 127 _ rfl)) (mvT hZ111 (hW 128 _ rfl)) (mvT hZ111 (hW 129 _ rfl)) (mvT hZ111 (hW 130 _ rfl)) (mvT hZ111 (hW 131 _ rfl)) (mvT hZ111 (hW 132 _ rfl)) (by decide) (backOf (W := 0) (rmAd l Z a0 hw [] lF2 dq kd eF kF xF (.ref y111) mF T111.heap n0 O111 (by omega) S_d V_d E_d l_d f114 (by omega) (Or.inr ⟨_, rfl, Ex_y111⟩)) hZ111 (hW 133 _ rfl) (hW 47 _ rfl) (by decide) (by decide)) q115a q115b q115c (g := (mkF m 165 #[vr x, vr b1, vn f, vn op, vn cl, vr y44, .val (.int (Int32.ofNat (kt - (op + 2)))), vr y89] [(.ref y111), (.ref lF2)])) rfl (by rw [hml]; rfl) (Steps.refl _) (argsL := [(.ref y111)]) (rest := []) (lenOf pd_29 rfl) rfl (Nat.le_of_eq rfl) (hb hby d8_165) (fun _ _ => ⟨rfl, rfl, (by decide : 34 + 1 ≤ _), (by decide : 336 + 10 ≤ _)⟩)
    obtain ⟨e115, k115, z115, rfl, Nq115, gz115, hz115, Kp115, AL115⟩ := hQ115
    have N115 := Fr.app N111 Nq115
    refine oc (fun tt_ kk_ => st115.trans kk_) ?_
    have CHs115 := CHr.keep Kp115 (allS (Safe.exa hZ111.alike f116 (by decide) (by decide)) (allS (own_al.safe (EL := own_EL) hZ111.alike f114 (by omega)) all0)) CH111.1
    have CH115 := CH111.trans CHs115
    have sz115 : T111.heap.size ≤ T115.heap.size := Kp115.1
    have O115 : Old Z n0 T115.heap := O111.keep Kp115 (allS (by omega) (allS (by omega) all0))
    have K115 : Keep h0 T115.heap [] := K111.trans Kp115 (allS (Or.inr (by omega)) (allS (Or.inr (by omega)) all0))
    have aw115 : own_aw Z T111.heap T115.heap := own_al.aw f114 Kp115 (by omega) (hW 46 _ rfl)
    obtain ⟨hz1115, he115⟩ : eF = z115 ∧ eF = e115 := by omega
    clear hz115
    subst hz1115 he115
    have la115 := AL115.lt2
    refine ci (XS.pop X115.here hx rfl (hb hby d8_170) rfl rfl) ?_
    refine ci (XS.iload X115.here hx rfl (hb hby d8_171) rfl) ?_
    refine ci (XS.iconst X115.here hx rfl (hb hby d8_173)) ?_
    refine ci (XS.iadd X115.here hx rfl (hb hby d8_174) rfl) ?_
    refine sc (A := (T115.setTop (mkF m 175 #[vr x, vr b1, vn f, vn op, vn cl, vr y44, .val (.int (Int32.ofNat (kt - (op + 2)))), vr y89] [(.int ((Int32.ofNat cl) + (1 : Int32)))]))) ?_
    rw [own_p1]
    refine sc (A := (T115.setTop (mkF m 175 #[vr x, vr b1, vn f, vn op, vn cl, vr y44, .val (.int (Int32.ofNat (kt - (op + 2)))), vr y89] [(.int (Int32.ofNat (cl + 1)))]))) ?_
    refine ci (XS.istoreN X115.here hx rfl (hb hby d8_175) rfl (l' := #[vr x, vr b1, vn (cl + 1), vn op, vn cl, vr y44, .val (.int (Int32.ofNat (kt - (op + 2)))), vr y89]) rfl) ?_
    refine ci (XS.aloadN X115.here hx rfl (hb hby d8_176) rfl rfl) ?_
    obtain ⟨b117, T117, h117, k117, t117, kb117, X117, e117, E117, hS117, hk117, hZ117, hown117, Ex117, Cx117, Vx117, Kx117, la117, lb117, CHs117, -, hne117, st117⟩ := ldcCH X115 hx hZ111 hown111 (hW 77 _ rfl) wS rfl hS111 (by omega : T111.heap.size ≤ T115.heap.size) hEL (by decide +kernel) CH115.1 (vs := [.int 36, .int 123]) (z := 2) ⟨by decide +kernel, by decide +kernel⟩ (by decide +kernel) (by decide +kernel) (g := (mkF m 177 #[vr x, vr b1, vn (cl + 1), vn op, vn cl, vr y44, .val (.int (Int32.ofNat (kt - (op + 2)))), vr y89] [(.ref x)])) rfl (hb hby d8_177) (n := 8) (by decide +kernel) (by decide) (by decide) (by decide)
    have CH117 := CH115.trans CHs117
    have Ss117 : own_sr Z h117 b117 ([36, 123] : List Int32) := ⟨by decide, by decide, t117, kb117, Ex117, Vx117, Cx117, Kx117⟩
    refine oc st117 ?_
    have sz117 : T115.heap.size ≤ h117.size := E117.1
    have O117 : Old Z n0 h117 := O115.ext E117
    have K117 : Keep h0 h117 [] := K115.ext E117
    have lla117 := olt la117
    have llb117 := olt lb117
    refine ci (XS.iloadN X117.here hx rfl (hb hby d8_179) rfl) ?_
    refine sc (A := (T117.setTop (mkF m 180 #[vr x, vr b1, vn (cl + 1), vn op, vn cl, vr y44, .val (.int (Int32.ofNat (kt - (op + 2)))), vr y89] [(.int (Int32.ofNat (cl + 1))), (.ref b117), (.ref x)]))) ?_
    have f118 : own_sr Z h117 x cs := ((((((f95.keep Kp96 nin0).aw aw99).aw aw105).keep Kp111 nin0).aw aw115).ext E117)
    have f120 : Exa Z h117 x "java/lang/String" := ((((((f97.keep Kp96).keep Kp99).keep Kp105).keep Kp111).keep Kp115).ext E117)
    obtain ⟨cq119, kq119, q119a, q119b, q119c⟩ := isOf hZ117 e117 f120
    obtain ⟨_, T119, Lc119, X119, hQ119, st119⟩ := own_c1 X117 <| X117.virtualBack hx (y := ym56) (z := ym56) hown117 (mvT hZ117 (hW 296 _ rfl)) (mvT hZ117 (hW 297 _ rfl)) (notFace_of_selects (args := #[]) (mvT hZ117 (hW 299 _ rfl))) (mvT hZ117 (hW 299 _ rfl)) (mvT hZ117 (hW 298 _ rfl)) (by decide) (backOf (W := 0) (rmF l Z a0 hw [] x cs b117 (cl + 1) Gc h117 n0 O117 Oc Pc f118 Ss117 (by omega)) hZ117 (hW 300 _ rfl) (hW 8 _ rfl) (by decide) (by decide)) q119a q119c (g := (mkF m 180 #[vr x, vr b1, vn (cl + 1), vn op, vn cl, vr y44, .val (.int (Int32.ofNat (kt - (op + 2)))), vr y89] [(.int (Int32.ofNat (cl + 1))), (.ref b117), (.ref x)])) rfl (by rw [hml]; rfl) (Steps.refl _) (argsL := [(.ref b117), (.int (Int32.ofNat (cl + 1)))]) (rest := []) (lenOf pd_32 rfl) rfl (Nat.le_of_eq rfl) (hb hby d8_180) (fun _ _ => ⟨rfl, e117, (by decide : 37 + 0 ≤ _), (by decide : 358 + 0 ≤ _)⟩)
    obtain ⟨r119, rfl, hr119, Nq119, eh119⟩ := hQ119
    have N119 := Fr.app N115 Nq119
    refine oc (fun tt_ kk_ => st119.trans kk_) ?_
    refine ci (XS.istoreN X119.here hx rfl (hb hby d8_183) rfl (l' := #[vr x, vr b1, vn (cl + 1), vi r119, vn cl, vr y44, .val (.int (Int32.ofNat (kt - (op + 2)))), vr y89]) rfl) ?_
    refine ci (XS.goto X119.here hx rfl (pc0 := 184) (pc' := 18) rfl (hb hby d8_184) (by decide) (by decide)) ?_
    refine sc (A := (T119.setTop (mkF m 18 #[vr x, vr b1, vn (cl + 1), vi r119, vn cl, vr y44, .val (.int (Int32.ofNat (kt - (op + 2)))), vr y89] []))) ?_
    have f121 : own_cont Z h117 xL cL := (((((((((c_L.keep Kp44 nin0).ext E45).keep Kp89 nin0).keep Kp96 nin0).aw aw99).aw aw105).keep Kp111 nin0).aw aw115).ext E117)
    have f122 : own_sr Z h117 y96 (own_sl cs f op) := (((((Sy96.aw aw99).aw aw105).keep Kp111 nin0).aw aw115).ext E117)
    have f123 : own_cont Z h117 xK cK := (((((((((c_K.keep Kp44 nin0).ext E45).keep Kp89 nin0).keep Kp96 nin0).aw aw99).aw aw105).keep Kp111 nin0).aw aw115).ext E117)
    have f124 : own_sr Z h117 y89 (own_sl cs (op + 2) kt) := ((((((R90.keep Kp96 nin0).aw aw99).aw aw105).keep Kp111 nin0).aw aw115).ext E117)
    have f125 : own_cont Z h117 xF cF := (((((((((c_F.keep Kp44 nin0).ext E45).keep Kp89 nin0).keep Kp96 nin0).aw aw99).aw aw105).keep Kp111 nin0).aw aw115).ext E117)
    have f126 : own_sr Z h117 y111 (own_sl cs (kt + 1) cl) := ((R113.aw aw115).ext E117)
    have f127 : own_set Z h117 b1 x lL2 lK2 lF2 := (((f107.keep Kp111 nin0).keep Kp115 (ninS (one (by omega)) (ninS (one (by omega)) nin0))).ext E117)
    have f128 : own_al Z h117 dq n0 lL2 eL k99 (xL ++ [(.ref y96)]) (mL + (1 : Int32)) := ((((AL99.keep Kp105 (ninS (one (by omega)) (ninS (one (by omega)) nin0)) (ninS (one (by omega)) (ninS (one (by omega)) nin0))).keep Kp111 nin0 nin0).keep Kp115 (ninS (one (by omega)) (ninS (one (by omega)) nin0)) (ninS (one (by omega)) (ninS (one (by omega)) nin0))).ext E117)
    have f129 : own_al Z h117 dq n0 lK2 eK k105 (xK ++ [(.ref y89)]) (mK + (1 : Int32)) := (((AL105.keep Kp111 nin0 nin0).keep Kp115 (ninS (one (by omega)) (ninS (one (by omega)) nin0)) (ninS (one (by omega)) (ninS (one (by omega)) nin0))).ext E117)
    have f130 : own_al Z h117 dq n0 lF2 eF k115 (xF ++ [(.ref y111)]) (mF + (1 : Int32)) := (AL115.ext E117)
    exact J18_2 _ _ _ _ _ (cl + 1) _ eL eK eF k99 k105 k115 (xL ++ [(.ref y96)]) (xK ++ [(.ref y89)]) (xF ++ [(.ref y111)]) (mL + (1 : Int32)) (mK + (1 : Int32)) (mF + (1 : Int32)) (cL ++ [some (own_sl cs f op)]) (cK ++ [some (own_sl cs (op + 2) kt)]) (cF ++ [own_fb cs kt cl true]) rs' _ _ _ _ (X119.more (by decide) (by decide)) eh119 N119 O117 K117 hS117 (by omega) hZ117 hown117 CH117 f127 f128 f129 f130 (own_cont.snoc f121 ⟨y96, rfl, f122⟩) (own_cont.snoc f123 ⟨y89, rfl, f124⟩) (own_cont.snoc f125 ⟨y111, rfl, f126⟩) (by rw [← u_L, List.append_assoc]; rfl) (by rw [← u_K, List.append_assoc]; rfl) (by rw [← u_F, List.append_assoc]; rfl) hP' hr119 (by omega) (by rw [List.length_append, n_L]; rfl) (by rw [List.length_append, n_K]; rfl) (by rw [List.length_append, n_F]; rfl) (by omega) (by omega) (by omega) (Or.inr ⟨_, rfl⟩) (Or.inr ⟨_, rfl⟩) (Or.inr ⟨_, rfl⟩) (Or.inr ⟨_, rfl⟩)
 have J18_0 : ∀ (H : Heap) (T' : State) (vm' : Vm) (k' : Nat) (ls : List Loc) (f : Nat) (r : Int32) (eL eK eF : Nat) (kL kK kF : ClassId) (xL xK xF : List Value) (mL mK mF : Int32) (cL cK cF : List (Option (List Int32))) (rs : List own_Pl) (l4 l5 l6 l7 : Slot), (Stand p l e (own_R 6 41 406 116) (s.setVm vm') m #[.ref x] below meth c T' ls 6 30) → (T'.heap = H) → (Fr n0 ls) → (Old Z n0 H) → (Keep h0 H []) → (s.Since vm' k') → (k' ≤ H.size) → (Z.Warmed39 (s.setVm vm').vm) → ((s.setVm vm').vm.findClass "com/example/assemble/assemble/SettingText" = some m.cls) → (CHr Z own_EL s.vm s.heap vm' H) → (own_set Z H b1 x lL2 lK2 lF2) → (own_al Z H dq n0 lL2 eL kL xL mL) → (own_al Z H dq n0 lK2 eK kK xK mK) → (own_al Z H dq n0 lF2 eF kF xF mF) → (own_cont Z H xL cL) → (own_cont Z H xK cK) → (own_cont Z H xF cF) → (cL ++ own_lits cs f rs = own_lits cs 0 pls) → (cK ++ own_keys cs rs = own_keys cs pls) → (cF ++ own_fbs cs rs = own_fbs cs pls) → (own_ps cs f rs) → (own_ixs cs f r) → (rs.length + 0 ≤ 2) → (xL.length = 0) → (xK.length = 0) → (xF.length = 0) → (eL = dq) → (eK = dq) → (eF = dq) → ((l4 = .unset ∨ ∃ z, l4 = vi z)) → ((l5 = .unset ∨ ∃ z : Nat, l5 = vr z)) → ((l6 = .unset ∨ ∃ z, l6 = vi z)) → ((l7 = .unset ∨ ∃ z : Nat, l7 = vr z)) → own_gc p e below s Z own_EL (Q_rmPa Z x cs pls dq kd Gc fm h0 n0) ((own_R 6 41 406 116)).cells ((own_R 6 41 406 116)).slots (T'.setTop (mkF m 18 #[vr x, vr b1, vn f, vi r, l4, l5, l6, l7] [])) := by
  intro H T' vm' k' ls f r eL eK eF kL kK kF xL xK xF mL mK mF cL cK cF rs l4 l5 l6 l7 X' e' N' O' K' hS' hk' hZj hownj CH' M_o A_L A_K A_F c_L c_K c_F u_L u_K u_F hP hr hn n_L n_K n_F or0 or1 or2 o4 o5 o6 o7
  have lA := A_L.lt2
  have lB := A_K.lt2
  have lC := A_F.lt2
  have lM := olt M_o.1.lt
  rcases rs with _ | ⟨⟨op, kt, hcx, cl⟩, rs'⟩
  ·obtain rfl : r = -1 := own_ix_nil hl hP hr
   refine sc (A := (T'.setTop (mkF m 18 #[vr x, vr b1, vn f, vi (-1), l4, l5, l6, l7] []))) ?_
   refine ci (XS.iloadN X'.here hx rfl (hb hby d8_18) rfl) ?_
   have hb19_131 : (-1 : Int32) < (0 : Int32) := (by decide)
   refine ci (XS.ifYes X'.here hx rfl (pc0 := 19) (pc' := 187) rfl (hb hby d8_19) rfl ((if0 _ _).trans (tlt hb19_131).1) (by decide) (by decide)) ?_
   refine sc (A := (T'.setTop (mkF m 187 #[vr x, vr b1, vn f, vi (-1), l4, l5, l6, l7] []))) ?_
   refine ci (XS.aloadN X'.here hx rfl (hb hby d8_187) rfl rfl) ?_
   refine sc (A := (T'.setTop (mkF m 188 #[vr x, vr b1, vn f, vi (-1), l4, l5, l6, l7] [(.ref b1)]))) ?_
   obtain ⟨T132, X132, e132, st132⟩ := getF X' hx hZj hownj (host := "") (Or.inl (hW 69 _ rfl)) Via.refl e' M_o.2.2.1 (g := (mkF m 188 #[vr x, vr b1, vn f, vi (-1), l4, l5, l6, l7] [(.ref b1)])) rfl rfl (hb hby d8_188)
   refine oc st132 ?_
   refine ci (XS.aloadN X132.here hx rfl (hb hby d8_191) rfl rfl) ?_
   refine ci (XS.iloadN X132.here hx rfl (hb hby d8_192) rfl) ?_
   refine sc (A := (T132.setTop (mkF m 193 #[vr x, vr b1, vn f, vi (-1), l4, l5, l6, l7] [(.int (Int32.ofNat f)), (.ref x), (.ref lL2)]))) ?_
   have hf22 := hP.1
   have f133 : own_sr Z H x cs := S_x.keep K' nin0
   have f135 : Exa Z H x "java/lang/String" := Ex_x.keep K'
   obtain ⟨cq134, kq134, q134a, q134b, q134c⟩ := isOf hZj e132 f135
   obtain ⟨_, _, ⟨T134, L134, k134, n134⟩, -, Xr134, hSr134, hgr134, ⟨Lc134, hQ134, l134, y134, z134, CHs134⟩, st134⟩ := X132.virtualBackS hx (y := ym18) (z := ym18) hownj (mvT hZj (hW 102 _ rfl)) (mvT hZj (hW 103 _ rfl)) (notFace_of_selects (args := #[]) (mvT hZj (hW 105 _ rfl))) (mvT hZj (hW 105 _ rfl)) (mvT hZj (hW 104 _ rfl)) (by decide) (backOfSH (W := 1) (rmS1s l Z a0 hw [] x cs f Gc fm H n0 hEL O' Oc Pc Of hfm f133 (by omega)) hZj (hW 106 _ rfl) (hW 8 _ rfl) (by decide) (by decide) hEL CH'.1) q134a q134c (g := (mkF m 193 #[vr x, vr b1, vn f, vi (-1), l4, l5, l6, l7] [(.int (Int32.ofNat f)), (.ref x), (.ref lL2)])) rfl (by rw [hml]; rfl) (Steps.refl _) (argsL := [(.int (Int32.ofNat f))]) (rest := [(.ref lL2)]) (lenOf pd_28 rfl) rfl (Nat.le_of_eq rfl) (hb hby d8_193) (fun _ _ => ⟨rfl, e132, (by decide : 6 + 2 ≤ _), (by decide : 30 + 26 ≤ _)⟩)
   dsimp only [Pt.U, Pt.locs, Pt.cells, Pt.slots] at Xr134 l134 y134 z134 st134 hQ134 hSr134 hgr134 CHs134
   obtain ⟨X134, hS134, hZ134, hown134⟩ := rebS hS' (by rw [e132]; omega : k' ≤ T132.heap.size) Xr134 hSr134 hgr134 hZj hownj
   subst l134 y134 z134
   obtain ⟨y134, rfl, Nq134, Kp134, Sy134⟩ := hQ134
   have N134 := Fr.app N' Nq134
   refine oc (fun tt_ kk_ => st134.trans kk_) ?_
   have CH134 := CH'.trans CHs134
   have sz134 : H.size ≤ T134.heap.size := Kp134.1
   have O134 : Old Z n0 T134.heap := O'.keep Kp134 all0
   have K134 : Keep h0 T134.heap [] := K'.trans Kp134 all0
   have Ex_y134 := Sy134.exa
   have R136 : own_sr Z T134.heap y134 (own_sl cs f 22) := by have q := Sy134; rw [hl] at q; exact q
   refine sc (A := (T134.setTop (mkF m 196 #[vr x, vr b1, vn f, vi (-1), l4, l5, l6, l7] [(.ref y134), (.ref lL2)]))) ?_
   have f137 : own_al Z T134.heap dq n0 lL2 eL kL xL mL := (A_L.keep Kp134 nin0 nin0)
   have f139 : Exa Z T134.heap lL2 "java/util/ArrayList" := (A_L.1.keep Kp134)
   obtain ⟨cq138, kq138, q138a, q138b, q138c⟩ := isOf hZ134 rfl f139
   obtain ⟨_, T138, Lc138, X138, hQ138, st138⟩ := own_c1 X134 <| X134.interfaceBack hx (xi := ym8488) (y := ym23) hown134 (mvT hZ134 (hW 125 _ rfl)) (mvT hZ134 (hW 126 _ rfl)) (mvT hZ134 (hW 127 _ rfl)) (mvT hZ134 (hW 128 _ rfl)) (mvT hZ134 (hW 129 _ rfl)) (mvT hZ134 (hW 130 _ rfl)) (mvT hZ134 (hW 131 _ rfl)) (mvT hZ134 (hW 132 _ rfl)) (by decide) (backOf (W := 0) (rmAd l Z a0 hw [] lL2 dq kd eL kL xL (.ref y134) mL T134.heap n0 O134 (by omega) S_d V_d E_d l_d f137 (by omega) (Or.inr ⟨_, rfl, Ex_y134⟩)) hZ134 (hW 133 _ rfl) (hW 47 _ rfl) (by decide) (by decide)) q138a q138b q138c (g := (mkF m 196 #[vr x, vr b1, vn f, vi (-1), l4, l5, l6, l7] [(.ref y134), (.ref lL2)])) rfl (by rw [hml]; rfl) (Steps.refl _) (argsL := [(.ref y134)]) (rest := []) (lenOf pd_29 rfl) rfl (Nat.le_of_eq rfl) (hb hby d8_196) (fun _ _ => ⟨rfl, rfl, (by decide : 8 + 1 ≤ _), (by decide : 56 + 10 ≤ _)⟩)
   obtain ⟨e138, k138, z138, rfl, Nq138, gz138, hz138, Kp138, AL138⟩ := hQ138
   have N138 := Fr.app N134 Nq138
   refine oc (fun tt_ kk_ => st138.trans kk_) ?_
   have CHs138 := CHr.keep Kp138 (allS (Safe.exa hZ134.alike f139 (by decide) (by decide)) (allS (own_al.safe (EL := own_EL) hZ134.alike f137 (by omega)) all0)) CH134.1
   have CH138 := CH134.trans CHs138
   have sz138 : T134.heap.size ≤ T138.heap.size := Kp138.1
   have O138 : Old Z n0 T138.heap := O134.keep Kp138 (allS (by omega) (allS (by omega) all0))
   have K138 : Keep h0 T138.heap [] := K134.trans Kp138 (allS (Or.inr (by omega)) (allS (Or.inr (by omega)) all0))
   have aw138 : own_aw Z T134.heap T138.heap := own_al.aw f137 Kp138 (by omega) (hW 46 _ rfl)
   obtain ⟨hz1138, he138⟩ : lL2 = z138 ∧ T134.heap.size ≤ e138 := by omega
   clear hz138
   subst hz1138
   have la138 := AL138.lt2
   have ga138 : n0 ≤ e138 := by omega
   refine ci (XS.pop X138.here hx rfl (hb hby d8_201) rfl rfl) ?_
   refine ci (XS.aloadN X138.here hx rfl (hb hby d8_202) rfl rfl) ?_
   refine sc (A := (T138.setTop (mkF m 203 #[vr x, vr b1, vn f, vi (-1), l4, l5, l6, l7] [(.ref b1)]))) ?_
   refine own_retc X138 hx hlk hS134 (by omega : T134.heap.size ≤ T138.heap.size) hZ134 hEL CH138 Bd.returns rfl (Or.inr (Or.inr (Or.inr (Or.inr ⟨rfl, rfl, rfl⟩)))) (hb hby d8_203) (by decide) (by decide) ?_
   skip
   have f140 : own_set Z T138.heap b1 x lL2 lK2 lF2 := ((M_o.keep Kp134 nin0).keep Kp138 (ninS (one (by omega)) (ninS (one (by omega)) nin0)))
   have f141 : own_al Z T138.heap dq n0 lK2 eK kK xK mK := ((A_K.keep Kp134 nin0 nin0).keep Kp138 (ninS (one (by omega)) (ninS (one (by omega)) nin0)) (ninS (one (by omega)) (ninS (one (by omega)) nin0)))
   have f142 : own_al Z T138.heap dq n0 lF2 eF kF xF mF := ((A_F.keep Kp134 nin0 nin0).keep Kp138 (ninS (one (by omega)) (ninS (one (by omega)) nin0)) (ninS (one (by omega)) (ninS (one (by omega)) nin0)))
   have f143 : own_cont Z T138.heap xL cL := ((c_L.keep Kp134 nin0).aw aw138)
   have f144 : own_sr Z T138.heap y134 (own_sl cs f 22) := (R136.aw aw138)
   have f145 : own_cont Z T138.heap xK cK := ((c_K.keep Kp134 nin0).aw aw138)
   have f146 : own_cont Z T138.heap xF cF := ((c_F.keep Kp134 nin0).aw aw138)
   exact ⟨b1, lL2, lK2, lF2, e138, eK, eF, k138, kK, kF, (xL ++ [(.ref y134)]), xK, xF, (mL + (1 : Int32)), mK, mF, rfl, N138, K138, f140, AL138, f141, f142, u_L ▸ own_cont.snoc f143 ⟨y134, rfl, f144⟩, (by have q := u_K; rw [own_keys, List.append_nil] at q; rw [← q]; exact f145), (by have q := u_F; rw [own_fbs, List.append_nil] at q; rw [← q]; exact f146)⟩
  ·obtain rfl : r = Int32.ofNat op := own_ix_cons hP hr
   obtain ⟨hfo, hnb, hq, hP'⟩ := hP
   have b1_ := hq.1
   have b2_ := hq.2.1
   have b3_ := hq.2.2.1
   simp only [List.length_cons] at hn
   refine sc (A := (T'.setTop (mkF m 18 #[vr x, vr b1, vn f, vn op, l4, l5, l6, l7] []))) ?_
   refine ci (XS.iloadN X'.here hx rfl (hb hby d8_18) rfl) ?_
   have hb19_147 : ¬ ((Int32.ofNat op) < (0 : Int32)) := (own_nn (by omega))
   refine ci (XS.ifNo X'.here hx rfl (hb hby d8_19) rfl ((if0 _ _).trans (flt hb19_147).1)) ?_
   refine sc (A := (T'.setTop (mkF m 22 #[vr x, vr b1, vn f, vn op, l4, l5, l6, l7] []))) ?_
   refine ci (XS.aloadN X'.here hx rfl (hb hby d8_22) rfl rfl) ?_
   refine ci (XS.bipush X'.here hx rfl (hb hby d8_23)) ?_
   refine ci (XS.iloadN X'.here hx rfl (hb hby d8_25) rfl) ?_
   refine sc (A := (T'.setTop (mkF m 26 #[vr x, vr b1, vn f, vn op, l4, l5, l6, l7] [(.int (Int32.ofNat op)), (.int 125), (.ref x)]))) ?_
   have f148 : own_sr Z H x cs := S_x.keep K' nin0
   have f150 : Exa Z H x "java/lang/String" := Ex_x.keep K'
   obtain ⟨cq149, kq149, q149a, q149b, q149c⟩ := isOf hZj e' f150
   obtain ⟨_, T149, Lc149, X149, hQ149, st149⟩ := own_c1 X' <| X'.virtualBack hx (y := ym42) (z := ym42) hownj (mvT hZj (hW 228 _ rfl)) (mvT hZj (hW 229 _ rfl)) (notFace_of_selects (args := #[]) (mvT hZj (hW 231 _ rfl))) (mvT hZj (hW 231 _ rfl)) (mvT hZj (hW 230 _ rfl)) (by decide) (backOf (W := 0) (rmI2 l Z a0 hw [] x cs (125 : Int32) op Gc H n0 O' Oc Pc f148 (by omega) (by decide)) hZj (hW 232 _ rfl) (hW 8 _ rfl) (by decide) (by decide)) q149a q149c (g := (mkF m 26 #[vr x, vr b1, vn f, vn op, l4, l5, l6, l7] [(.int (Int32.ofNat op)), (.int 125), (.ref x)])) rfl (by rw [hml]; rfl) (Steps.refl _) (argsL := [(.int 125), (.int (Int32.ofNat op))]) (rest := []) (lenOf pd_6 rfl) rfl (Nat.le_of_eq rfl) (hb hby d8_26) (fun _ _ => ⟨rfl, e', (by decide : 6 + 0 ≤ _), (by decide : 30 + 0 ≤ _)⟩)
   obtain ⟨r149, rfl, hr149, Nq149, eh149⟩ := hQ149
   have N149 := Fr.app N' Nq149
   refine oc (fun tt_ kk_ => st149.trans kk_) ?_
   obtain rfl : r149 = Int32.ofNat cl := own_ix_close hq hr149
   refine ci (XS.istore X149.here hx rfl (hb hby d8_29) rfl (l' := #[vr x, vr b1, vn f, vn op, vn cl, l5, l6, l7]) (by rcases o4 with rfl | ⟨z, rfl⟩ <;> rfl)) ?_
   refine ci (XS.iload X149.here hx rfl (hb hby d8_31) rfl) ?_
   have hb33_151 : ¬ ((Int32.ofNat cl) < (0 : Int32)) := (own_nn (by omega))
   refine ci (XS.ifYes X149.here hx rfl (pc0 := 33) (pc' := 43) rfl (hb hby d8_33) rfl ((if0 _ _).trans (flt hb33_151).2.1) (by decide) (by decide)) ?_
   refine sc (A := (T149.setTop (mkF m 43 #[vr x, vr b1, vn f, vn op, vn cl, l5, l6, l7] []))) ?_
   refine ci (XS.aloadN X149.here hx rfl (hb hby d8_43) rfl rfl) ?_
   refine ci (XS.iloadN X149.here hx rfl (hb hby d8_44) rfl) ?_
   refine ci (XS.iconst X149.here hx rfl (hb hby d8_45)) ?_
   refine ci (XS.iadd X149.here hx rfl (hb hby d8_46) rfl) ?_
   refine sc (A := (T149.setTop (mkF m 47 #[vr x, vr b1, vn f, vn op, vn cl, l5, l6, l7] [(.int ((Int32.ofNat op) + (2 : Int32))), (.ref x)]))) ?_
   rw [own_p2]
   refine sc (A := (T149.setTop (mkF m 47 #[vr x, vr b1, vn f, vn op, vn cl, l5, l6, l7] [(.int (Int32.ofNat (op + 2))), (.ref x)]))) ?_
   refine ci (XS.iload X149.here hx rfl (hb hby d8_47) rfl) ?_
   refine sc (A := (T149.setTop (mkF m 49 #[vr x, vr b1, vn f, vn op, vn cl, l5, l6, l7] [(.int (Int32.ofNat cl)), (.int (Int32.ofNat (op + 2))), (.ref x)]))) ?_
   obtain ⟨cq152, kq152, q152a, q152b, q152c⟩ := isOf hZj eh149 f150
   obtain ⟨_, _, ⟨T152, L152, k152, n152⟩, -, Xr152, hSr152, hgr152, ⟨Lc152, hQ152, l152, y152, z152, CHs152⟩, st152⟩ := X149.virtualBackS hx (y := ym20) (z := ym20) hownj (mvT hZj (hW 246 _ rfl)) (mvT hZj (hW 113 _ rfl)) (notFace_of_selects (args := #[]) (mvT hZj (hW 115 _ rfl))) (mvT hZj (hW 115 _ rfl)) (mvT hZj (hW 114 _ rfl)) (by decide) (backOfSH (W := 0) (rmSu l Z a0 hw [] x cs (op + 2) cl Gc fm H n0 hEL O' Oc Pc Of hfm f148 (by omega) (by omega)) hZj (hW 116 _ rfl) (hW 8 _ rfl) (by decide) (by decide) hEL CH'.1) q152a q152c (g := (mkF m 49 #[vr x, vr b1, vn f, vn op, vn cl, l5, l6, l7] [(.int (Int32.ofNat cl)), (.int (Int32.ofNat (op + 2))), (.ref x)])) rfl (by rw [hml]; rfl) (Steps.refl _) (argsL := [(.int (Int32.ofNat (op + 2))), (.int (Int32.ofNat cl))]) (rest := []) (lenOf pd_21 rfl) rfl (Nat.le_of_eq rfl) (hb hby d8_49) (fun _ _ => ⟨rfl, eh149, (by decide : 6 + 2 ≤ _), (by decide : 30 + 26 ≤ _)⟩)
   dsimp only [Pt.U, Pt.locs, Pt.cells, Pt.slots] at Xr152 l152 y152 z152 st152 hQ152 hSr152 hgr152 CHs152
   obtain ⟨X152, hS152, hZ152, hown152⟩ := rebS hS' (by rw [eh149]; omega : k' ≤ T149.heap.size) Xr152 hSr152 hgr152 hZj hownj
   subst l152 y152 z152
   obtain ⟨y152, rfl, Nq152, Kp152, Sy152⟩ := hQ152
   have N152 := Fr.app N149 Nq152
   refine oc (fun tt_ kk_ => st152.trans kk_) ?_
   have CH152 := CH'.trans CHs152
   have sz152 : H.size ≤ T152.heap.size := Kp152.1
   have O152 : Old Z n0 T152.heap := O'.keep Kp152 all0
   have K152 : Keep h0 T152.heap [] := K'.trans Kp152 all0
   have Ex_y152 := Sy152.exa
   refine ci (XS.astore X152.here hx rfl (hb hby d8_52) rfl rfl (l' := #[vr x, vr b1, vn f, vn op, vn cl, vr y152, l6, l7]) (by rcases o5 with rfl | ⟨z, rfl⟩ <;> rfl)) ?_
   refine ci (XS.aload X152.here hx rfl (hb hby d8_54) rfl rfl) ?_
   obtain ⟨b153, T153, h153, k153, t153, kb153, X153, e153, E153, hS153, hk153, hZ153, hown153, Ex153, Cx153, Vx153, Kx153, la153, lb153, CHs153, -, hne153, st153⟩ := ldcCH X152 hx hZ152 hown152 (hW 77 _ rfl) wS rfl hS152 (by omega : T152.heap.size ≤ T152.heap.size) hEL (by decide +kernel) CH152.1 (vs := [.int 36, .int 123]) (z := 2) ⟨by decide +kernel, by decide +kernel⟩ (by decide +kernel) (by decide +kernel) (g := (mkF m 56 #[vr x, vr b1, vn f, vn op, vn cl, vr y152, l6, l7] [(.ref y152)])) rfl (hb hby d8_56) (n := 8) (by decide +kernel) (by decide) (by decide) (by decide)
   have CH153 := CH152.trans CHs153
   have Ss153 : own_sr Z h153 b153 ([36, 123] : List Int32) := ⟨by decide, by decide, t153, kb153, Ex153, Vx153, Cx153, Kx153⟩
   refine oc st153 ?_
   have sz153 : T152.heap.size ≤ h153.size := E153.1
   have O153 : Old Z n0 h153 := O152.ext E153
   have K153 : Keep h0 h153 [] := K152.ext E153
   have lla153 := olt la153
   have llb153 := olt lb153
   refine sc (A := (T153.setTop (mkF m 58 #[vr x, vr b1, vn f, vn op, vn cl, vr y152, l6, l7] [(.ref b153), (.ref y152)]))) ?_
   have f154 : own_sr Z h153 y152 (own_sl cs (op + 2) cl) := (Sy152.ext E153)
   have f156 : Exa Z h153 y152 "java/lang/String" := (Ex_y152.ext E153)
   obtain ⟨cq155, kq155, q155a, q155b, q155c⟩ := isOf hZ153 e153 f156
   obtain ⟨_, T155, Lc155, X155, hQ155, st155⟩ := own_c1 X153 <| X153.virtualBack hx (y := ym52) (z := ym52) hown153 (mvT hZ153 (hW 269 _ rfl)) (mvT hZ153 (hW 270 _ rfl)) (notFace_of_selects (args := #[]) (mvT hZ153 (hW 272 _ rfl))) (mvT hZ153 (hW 272 _ rfl)) (mvT hZ153 (hW 271 _ rfl)) (by decide) (backOf (W := 0) (rmCt l Z a0 hw [] y152 (own_sl cs (op + 2) cl) b153 Gc h153 n0 O153 Oc Pc f154 Ss153 (by rw [own_sl_len (by omega)]; omega) (own_no_hit hq)) hZ153 (hW 273 _ rfl) (hW 8 _ rfl) (by decide) (by decide)) q155a q155c (g := (mkF m 58 #[vr x, vr b1, vn f, vn op, vn cl, vr y152, l6, l7] [(.ref b153), (.ref y152)])) rfl (by rw [hml]; rfl) (Steps.refl _) (argsL := [(.ref b153)]) (rest := []) (lenOf pd_30 rfl) rfl (Nat.le_of_eq rfl) (hb hby d8_58) (fun _ _ => ⟨rfl, e153, (by decide : 10 + 0 ≤ _), (by decide : 68 + 0 ≤ _)⟩)
   obtain ⟨rfl, Nq155, eh155⟩ := hQ155
   have N155 := Fr.app N152 Nq155
   refine oc (fun tt_ kk_ => st155.trans kk_) ?_
   have hb61_157 : (0 : Int32) = (0 : Int32) := by decide
   refine ci (XS.ifYes X155.here hx rfl (pc0 := 61) (pc' := 71) rfl (hb hby d8_61) rfl ((if0 _ _).trans (teq hb61_157).1) (by decide) (by decide)) ?_
   refine ci (XS.aload X155.here hx rfl (hb hby d8_71) rfl rfl) ?_
   refine ci (XS.bipush X155.here hx rfl (hb hby d8_73)) ?_
   refine sc (A := (T155.setTop (mkF m 75 #[vr x, vr b1, vn f, vn op, vn cl, vr y152, l6, l7] [(.int 58), (.ref y152)]))) ?_
   obtain ⟨cq158, kq158, q158a, q158b, q158c⟩ := isOf hZ153 eh155 f156
   obtain ⟨_, T158, Lc158, X158, hQ158, st158⟩ := own_c1 X155 <| X155.virtualBack hx (y := ym54) (z := ym54) hown153 (mvT hZ153 (hW 284 _ rfl)) (mvT hZ153 (hW 285 _ rfl)) (notFace_of_selects (args := #[]) (mvT hZ153 (hW 287 _ rfl))) (mvT hZ153 (hW 287 _ rfl)) (mvT hZ153 (hW 286 _ rfl)) (by decide) (backOf (W := 0) (rmI1 l Z a0 hw [] y152 (own_sl cs (op + 2) cl) (58 : Int32) Gc h153 n0 O153 Oc Pc f154 (by decide)) hZ153 (hW 288 _ rfl) (hW 8 _ rfl) (by decide) (by decide)) q158a q158c (g := (mkF m 75 #[vr x, vr b1, vn f, vn op, vn cl, vr y152, l6, l7] [(.int 58), (.ref y152)])) rfl (by rw [hml]; rfl) (Steps.refl _) (argsL := [(.int 58)]) (rest := []) (lenOf pd_31 rfl) rfl (Nat.le_of_eq rfl) (hb hby d8_75) (fun _ _ => ⟨rfl, eh155, (by decide : 10 + 0 ≤ _), (by decide : 68 + 0 ≤ _)⟩)
   obtain ⟨r158, rfl, hr158, Nq158, eh158⟩ := hQ158
   have N158 := Fr.app N155 Nq158
   refine oc (fun tt_ kk_ => st158.trans kk_) ?_
   rcases hcx with _ | _
   ·obtain rfl : r158 = -1 := own_ix_nocol hq hr158
    have b4_ : kt = cl := hq.2.2.2.2.2.2.2.2.elim (fun q => by cases q.1) (fun q => q.2)
    refine sc (A := (T158.setTop (mkF m 78 #[vr x, vr b1, vn f, vn op, vn cl, vr y152, l6, l7] [(.int (-1))]))) ?_
    refine ci (XS.istore X158.here hx rfl (hb hby d8_78) rfl (l' := #[vr x, vr b1, vn f, vn op, vn cl, vr y152, vi (-1), l7]) (by rcases o6 with rfl | ⟨z, rfl⟩ <;> rfl)) ?_
    refine ci (XS.iload X158.here hx rfl (hb hby d8_80) rfl) ?_
    have hb82_159 : (-1 : Int32) < (0 : Int32) := (by decide)
    refine ci (XS.ifNo X158.here hx rfl (hb hby d8_82) rfl ((if0 _ _).trans (tlt hb82_159).2.1)) ?_
    refine sc (A := (T158.setTop (mkF m 85 #[vr x, vr b1, vn f, vn op, vn cl, vr y152, vi (-1), l7] []))) ?_
    have R160 : own_sr Z h153 y152 (own_sl cs (op + 2) kt) := by rw [b4_]; exact f154
    refine ci (XS.aload X158.here hx rfl (hb hby d8_85) rfl rfl) ?_
    refine ci (XS.goto X158.here hx rfl (pc0 := 87) (pc' := 98) rfl (hb hby d8_87) (by decide) (by decide)) ?_
    refine ci (XS.astore X158.here hx rfl (hb hby d8_98) rfl rfl (l' := #[vr x, vr b1, vn f, vn op, vn cl, vr y152, vi (-1), vr y152]) (by rcases o7 with rfl | ⟨z, rfl⟩ <;> rfl)) ?_
    refine ci (XS.aload X158.here hx rfl (hb hby d8_100) rfl rfl) ?_
    refine sc (A := (T158.setTop (mkF m 102 #[vr x, vr b1, vn f, vn op, vn cl, vr y152, vi (-1), vr y152] [(.ref y152)]))) ?_
    obtain ⟨cq161, kq161, q161a, q161b, q161c⟩ := isOf hZ153 eh158 f156
    obtain ⟨_, T161, Lc161, X161, hQ161, st161⟩ := own_c1 X158 <| X158.virtualBack hx (y := ym55) (z := ym55) hown153 (mvT hZ153 (hW 290 _ rfl)) (mvT hZ153 (hW 291 _ rfl)) (notFace_of_selects (args := #[]) (mvT hZ153 (hW 293 _ rfl))) (mvT hZ153 (hW 293 _ rfl)) (mvT hZ153 (hW 292 _ rfl)) (by decide) (backOf (W := 0) (rmEm l Z a0 hw [] y152 (own_sl cs (op + 2) kt) h153 n0 O153 R160 (by rw [own_sl_len (by omega)]; omega)) hZ153 (hW 294 _ rfl) (hW 8 _ rfl) (by decide) (by decide)) q161a q161c (g := (mkF m 102 #[vr x, vr b1, vn f, vn op, vn cl, vr y152, vi (-1), vr y152] [(.ref y152)])) rfl (by rw [hml]; rfl) (Steps.refl _) (argsL := []) (rest := []) (lenOf pd_3 rfl) rfl (Nat.le_of_eq rfl) (hb hby d8_102) (fun _ _ => ⟨rfl, eh158, (by decide : 10 + 0 ≤ _), (by decide : 68 + 0 ≤ _)⟩)
    obtain ⟨rfl, Nq161, eh161⟩ := hQ161
    have N161 := Fr.app N158 Nq161
    refine oc (fun tt_ kk_ => st161.trans kk_) ?_
    have hb105_162 : (0 : Int32) = (0 : Int32) := by decide
    refine ci (XS.ifYes X161.here hx rfl (pc0 := 105) (pc' := 115) rfl (hb hby d8_105) rfl ((if0 _ _).trans (teq hb105_162).1) (by decide) (by decide)) ?_
    refine ci (XS.aloadN X161.here hx rfl (hb hby d8_115) rfl rfl) ?_
    refine sc (A := (T161.setTop (mkF m 116 #[vr x, vr b1, vn f, vn op, vn cl, vr y152, vi (-1), vr y152] [(.ref b1)]))) ?_
    have f163 : own_set Z h153 b1 x lL2 lK2 lF2 := ((M_o.keep Kp152 nin0).ext E153)
    obtain ⟨T164, X164, e164, st164⟩ := getF X161 hx hZ153 hown153 (host := "") (Or.inl (hW 69 _ rfl)) Via.refl eh161 f163.2.2.1 (g := (mkF m 116 #[vr x, vr b1, vn f, vn op, vn cl, vr y152, vi (-1), vr y152] [(.ref b1)])) rfl rfl (hb hby d8_116)
    refine oc st164 ?_
    refine ci (XS.aloadN X164.here hx rfl (hb hby d8_119) rfl rfl) ?_
    refine ci (XS.iloadN X164.here hx rfl (hb hby d8_120) rfl) ?_
    refine ci (XS.iloadN X164.here hx rfl (hb hby d8_121) rfl) ?_
    refine sc (A := (T164.setTop (mkF m 122 #[vr x, vr b1, vn f, vn op, vn cl, vr y152, vi (-1), vr y152] [(.int (Int32.ofNat op)), (.int (Int32.ofNat f)), (.ref x), (.ref lL2)]))) ?_
    have f165 : own_sr Z h153 x cs := ((f148.keep Kp152 nin0).ext E153)
    have f167 : Exa Z h153 x "java/lang/String" := ((f150.keep Kp152).ext E153)
    obtain ⟨cq166, kq166, q166a, q166b, q166c⟩ := isOf hZ153 e164 f167
    obtain ⟨_, _, ⟨T166, L166, k166, n166⟩, -, Xr166, hSr166, hgr166, ⟨Lc166, hQ166, l166, y166, z166, CHs166⟩, st166⟩ := X164.virtualBackS hx (y := ym20) (z := ym20) hown153 (mvT hZ153 (hW 246 _ rfl)) (mvT hZ153 (hW 113 _ rfl)) (notFace_of_selects (args := #[]) (mvT hZ153 (hW 115 _ rfl))) (mvT hZ153 (hW 115 _ rfl)) (mvT hZ153 (hW 114 _ rfl)) (by decide) (backOfSH (W := 1) (rmSu l Z a0 hw [] x cs f op Gc fm h153 n0 hEL O153 Oc Pc Of hfm f165 hfo (by omega)) hZ153 (hW 116 _ rfl) (hW 8 _ rfl) (by decide) (by decide) hEL CH153.1) q166a q166c (g := (mkF m 122 #[vr x, vr b1, vn f, vn op, vn cl, vr y152, vi (-1), vr y152] [(.int (Int32.ofNat op)), (.int (Int32.ofNat f)), (.ref x), (.ref lL2)])) rfl (by rw [hml]; rfl) (Steps.refl _) (argsL := [(.int (Int32.ofNat f)), (.int (Int32.ofNat op))]) (rest := [(.ref lL2)]) (lenOf pd_21 rfl) rfl (Nat.le_of_eq rfl) (hb hby d8_122) (fun _ _ => ⟨rfl, e164, (by decide : 10 + 2 ≤ _), (by decide : 68 + 26 ≤ _)⟩)
    dsimp only [Pt.U, Pt.locs, Pt.cells, Pt.slots] at Xr166 l166 y166 z166 st166 hQ166 hSr166 hgr166 CHs166
    obtain ⟨X166, hS166, hZ166, hown166⟩ := rebS hS153 (by rw [e164]; omega : k153 ≤ T164.heap.size) Xr166 hSr166 hgr166 hZ153 hown153
    subst l166 y166 z166
    obtain ⟨y166, rfl, Nq166, Kp166, Sy166⟩ := hQ166
    have N166 := Fr.app N161 Nq166
    refine oc (fun tt_ kk_ => st166.trans kk_) ?_
    have CH166 := CH153.trans CHs166
    have sz166 : h153.size ≤ T166.heap.size := Kp166.1
    have O166 : Old Z n0 T166.heap := O153.keep Kp166 all0
    have K166 : Keep h0 T166.heap [] := K153.trans Kp166 all0
    have Ex_y166 := Sy166.exa
    refine sc (A := (T166.setTop (mkF m 125 #[vr x, vr b1, vn f, vn op, vn cl, vr y152, vi (-1), vr y152] [(.ref y166), (.ref lL2)]))) ?_
    have f168 : own_al Z T166.heap dq n0 lL2 eL kL xL mL := (((A_L.keep Kp152 nin0 nin0).ext E153).keep Kp166 nin0 nin0)
    have f170 : Exa Z T166.heap lL2 "java/util/ArrayList" := (((A_L.1.keep Kp152).ext E153).keep Kp166)
    obtain ⟨cq169, kq169, q169a, q169b, q169c⟩ := isOf hZ166 rfl f170
    obtain ⟨_, T169, Lc169, X169, hQ169, st169⟩ := own_c1 X166 <| X166.interfaceBack hx (xi := ym8488) (y := ym23) hown166 (mvT hZ166 (hW 125 _ rfl)) (mvT hZ166 (hW 126 _ rfl)) (mvT hZ166 (hW 127 _ rfl)) (mvT hZ166 (hW 128 _ rfl)) (mvT hZ166 (hW 129 _ rfl)) (mvT hZ166 (hW 130 _ rfl)) (mvT hZ166 (hW 131 _ rfl)) (mvT hZ166 (hW 132 _ rfl)) (by decide) (backOf (W := 0) (rmAd l Z a0 hw [] lL2 dq kd eL kL xL (.ref y166) mL T166.heap n0 O166 (by omega) S_d V_d E_d l_d f168 (by omega) (Or.inr ⟨_, rfl, Ex_y166⟩)) hZ166 (hW 133 _ rfl) (hW 47 _ rfl) (by decide) (by decide)) q169a q169b q169c (g := (mkF m 125 #[vr x, vr b1, vn f, vn op, vn cl, vr y152, vi (-1), vr y152] [(.ref y166), (.ref lL2)])) rfl (by rw [hml]; rfl) (Steps.refl _) (argsL := [(.ref y166)]) (rest := []) (lenOf pd_29 rfl) rfl (Nat.le_of_eq rfl) (hb hby d8_125) (fun _ _ => ⟨rfl, rfl, (by decide : 12 + 1 ≤ _), (by decide : 94 + 10 ≤ _)⟩)
    obtain ⟨e169, k169, z169, rfl, Nq169, gz169, hz169, Kp169, AL169⟩ := hQ169
    have N169 := Fr.app N166 Nq169
    refine oc (fun tt_ kk_ => st169.trans kk_) ?_
    have CHs169 := CHr.keep Kp169 (allS (Safe.exa hZ166.alike f170 (by decide) (by decide)) (allS (own_al.safe (EL := own_EL) hZ166.alike f168 (by omega)) all0)) CH166.1
    have CH169 := CH166.trans CHs169
    have sz169 : T166.heap.size ≤ T169.heap.size := Kp169.1
    have O169 : Old Z n0 T169.heap := O166.keep Kp169 (allS (by omega) (allS (by omega) all0))
    have K169 : Keep h0 T169.heap [] := K166.trans Kp169 (allS (Or.inr (by omega)) (allS (Or.inr (by omega)) all0))
    have aw169 : own_aw Z T166.heap T169.heap := own_al.aw f168 Kp169 (by omega) (hW 46 _ rfl)
    obtain ⟨hz1169, he169⟩ : lL2 = z169 ∧ T166.heap.size ≤ e169 := by omega
    clear hz169
    subst hz1169
    have la169 := AL169.lt2
    have ga169 : n0 ≤ e169 := by omega
    refine ci (XS.pop X169.here hx rfl (hb hby d8_130) rfl rfl) ?_
    refine ci (XS.aloadN X169.here hx rfl (hb hby d8_131) rfl rfl) ?_
    refine sc (A := (T169.setTop (mkF m 132 #[vr x, vr b1, vn f, vn op, vn cl, vr y152, vi (-1), vr y152] [(.ref b1)]))) ?_
    have f171 : own_set Z T169.heap b1 x lL2 lK2 lF2 := ((f163.keep Kp166 nin0).keep Kp169 (ninS (one (by omega)) (ninS (one (by omega)) nin0)))
    obtain ⟨T172, X172, e172, st172⟩ := getF X169 hx hZ166 hown166 (host := "") (Or.inl (hW 71 _ rfl)) Via.refl rfl f171.2.2.2.1 (g := (mkF m 132 #[vr x, vr b1, vn f, vn op, vn cl, vr y152, vi (-1), vr y152] [(.ref b1)])) rfl rfl (hb hby d8_132)
    refine oc st172 ?_
    refine ci (XS.aload X172.here hx rfl (hb hby d8_135) rfl rfl) ?_
    refine sc (A := (T172.setTop (mkF m 137 #[vr x, vr b1, vn f, vn op, vn cl, vr y152, vi (-1), vr y152] [(.ref y152), (.ref lK2)]))) ?_
    have f173 : own_al Z T169.heap dq n0 lK2 eK kK xK mK := ((((A_K.keep Kp152 nin0 nin0).ext E153).keep Kp166 nin0 nin0).keep Kp169 (ninS (one (by omega)) (ninS (one (by omega)) nin0)) (ninS (one (by omega)) (ninS (one (by omega)) nin0)))
    have f174 : Exa Z T169.heap y152 "java/lang/String" := ((f156.keep Kp166).keep Kp169)
    have f176 : Exa Z T169.heap lK2 "java/util/ArrayList" := ((((A_K.1.keep Kp152).ext E153).keep Kp166).keep Kp169)
    obtain ⟨cq175, kq175, q175a, q175b, q175c⟩ := isOf hZ166 e172 f176
    obtain ⟨_, T175, Lc175, X175, hQ175, st175⟩ := own_c1 X172 <| X172.interfaceBack hx (xi := ym8488) (y := ym23) hown166 (mvT hZ166 (hW 125 _ rfl)) (mvT hZ166 (hW 126 _ rfl)) (mvT hZ166 (hW 127 _ rfl)) (mvT hZ166 (hW 128 _ rfl)) (mvT hZ166 (hW 129 _ rfl)) (mvT hZ166 (hW 130 _ rfl)) (mvT hZ166 (hW 131 _ rfl)) (mvT hZ166 (hW 132 _ rfl)) (by decide) (backOf (W := 0) (rmAd l Z a0 hw [] lK2 dq kd eK kK xK (.ref y152) mK T169.heap n0 O169 (by omega) S_d V_d E_d l_d f173 (by omega) (Or.inr ⟨_, rfl, f174⟩)) hZ166 (hW 133 _ rfl) (hW 47 _ rfl) (by decide) (by decide)) q175a q175b q175c (g := (mkF m 137 #[vr x, vr b1, vn f, vn op, vn cl, vr y152, vi (-1), vr y152] [(.ref y152), (.ref lK2)])) rfl (by rw [hml]; rfl) (Steps.refl _) (argsL := [(.ref y152)]) (rest := []) (lenOf pd_29 rfl) rfl (Nat.le_of_eq rfl) (hb hby d8_137) (fun _ _ => ⟨rfl, e172, (by decide : 13 + 1 ≤ _), (by decide : 104 + 10 ≤ _)⟩)
    obtain ⟨e175, k175, z175, rfl, Nq175, gz175, hz175, Kp175, AL175⟩ := hQ175
    have N175 := Fr.app N169 Nq175
    refine oc (fun tt_ kk_ => st175.trans kk_) ?_
    have CHs175 := CHr.keep Kp175 (allS (Safe.exa hZ166.alike f176 (by decide) (by decide)) (allS (own_al.safe (EL := own_EL) hZ166.alike f173 (by omega)) all0)) CH169.1
    have CH175 := CH169.trans CHs175
    have sz175 : T169.heap.size ≤ T175.heap.size := Kp175.1
    have O175 : Old Z n0 T175.heap := O169.keep Kp175 (allS (by omega) (allS (by omega) all0))
    have K175 : Keep h0 T175.heap [] := K169.trans Kp175 (allS (Or.inr (by omega)) (allS (Or.inr (by omega)) all0))
    have aw175 : own_aw Z T169.heap T175.heap := own_al.aw f173 Kp175 (by omega) (hW 46 _ rfl)
    obtain ⟨hz1175, he175⟩ : lK2 = z175 ∧ T169.heap.size ≤ e175 := by omega
    clear hz175
    subst hz1175
    have la175 := AL175.lt2
    have ga175 : n0 ≤ e175 := by omega
    refine ci (XS.pop X175.here hx rfl (hb hby d8_142) rfl rfl) ?_
    refine ci (XS.aloadN X175.here hx rfl (hb hby d8_143) rfl rfl) ?_
    refine sc (A := (T175.setTop (mkF m 144 #[vr x, vr b1, vn f, vn op, vn cl, vr y152, vi (-1), vr y152] [(.ref b1)]))) ?_
    have f177 : own_set Z T175.heap b1 x lL2 lK2 lF2 := (f171.keep Kp175 (ninS (one (by omega)) (ninS (one (by omega)) nin0)))
    obtain ⟨T178, X178, e178, st178⟩ := getF X175 hx hZ166 hown166 (host := "") (Or.inl (hW 73 _ rfl)) Via.refl rfl f177.2.2.2.2 (g := (mkF m 144 #[vr x, vr b1, vn f, vn op, vn cl, vr y152, vi (-1), vr y152] [(.ref b1)])) rfl rfl (hb hby d8_144)
    refine oc st178 ?_
    refine ci (XS.iload X178.here hx rfl (hb hby d8_147) rfl) ?_
    have hb149_179 : (-1 : Int32) < (0 : Int32) := (by decide)
    refine ci (XS.ifNo X178.here hx rfl (hb hby d8_149) rfl ((if0 _ _).trans (tlt hb149_179).2.1)) ?_
    refine sc (A := (T178.setTop (mkF m 152 #[vr x, vr b1, vn f, vn op, vn cl, vr y152, vi (-1), vr y152] [(.ref lF2)]))) ?_
    refine ci (XS.aconstNull X178.here hx rfl (hb hby d8_152)) ?_
    refine ci (XS.goto X178.here hx rfl (pc0 := 153) (pc' := 165) rfl (hb hby d8_153) (by decide) (by decide)) ?_
    refine sc (A := (T178.setTop (mkF m 165 #[vr x, vr b1, vn f, vn op, vn cl, vr y152, vi (-1), vr y152] [.null, (.ref lF2)]))) ?_
    have f180 : own_al Z T175.heap dq n0 lF2 eF kF xF mF := (((((A_F.keep Kp152 nin0 nin0).ext E153).keep Kp166 nin0 nin0).keep Kp169 (ninS (one (by omega)) (ninS (one (by omega)) nin0)) (ninS (one (by omega)) (ninS (one (by omega)) nin0))).keep Kp175 (ninS (one (by omega)) (ninS (one (by omega)) nin0)) (ninS (one (by omega)) (ninS (one (by omega)) nin0)))
    have f182 : Exa Z T175.heap lF2 "java/util/ArrayList" := (((((A_F.1.keep Kp152).ext E153).keep Kp166).keep Kp169).keep Kp175)
    obtain ⟨cq181, kq181, q181a, q181b, q181c⟩ := isOf hZ166 e178 f182
    obtain ⟨_, T181, Lc181, X181, hQ181, st181⟩ := own_c1 X178 <| X178.interfaceBack hx (xi := ym8488) (y := ym23) hown166 (mvT hZ166 (hW 125 _ rfl)) (mvT hZ166 (hW 126 _ rfl)) (mvT hZ166 (hW 127 _ rfl)) (mvT hZ166 (hW 128 _ rfl)) (mvT hZ166 (hW 129 _ rfl)) (mvT hZ166 (hW 130 _ rfl)) (mvT hZ166 (hW 131 _ rfl)) (mvT hZ166 (hW 132 _ rfl)) (by decide) (backOf (W := 0) (rmAd l Z a0 hw [] lF2 dq kd eF kF xF .null mF T175.heap n0 O175 (by omega) S_d V_d E_d l_d f180 (by omega) (Or.inl rfl)) hZ166 (hW 133 _ rfl) (hW 47 _ rfl) (by decide) (by decide)) q181a q181b q181c (g := (mkF m 165 #[vr x, vr b1, vn f, vn op, vn cl, vr y152, vi (-1), vr y152] [.null, (.ref lF2)])) rfl (by rw [hml]; rfl) (Steps.refl _) (argsL := [.null]) (rest := []) (lenOf pd_29 rfl) rfl (Nat.le_of_eq rfl) (hb hby d8_165) (fun _ _ => ⟨rfl, e178, (by decide : 14 + 1 ≤ _), (by decide : 114 + 10 ≤ _)⟩)
    obtain ⟨e181, k181, z181, rfl, Nq181, gz181, hz181, Kp181, AL181⟩ := hQ181
    have N181 := Fr.app N175 Nq181
    refine oc (fun tt_ kk_ => st181.trans kk_) ?_
    have CHs181 := CHr.keep Kp181 (allS (Safe.exa hZ166.alike f182 (by decide) (by decide)) (allS (own_al.safe (EL := own_EL) hZ166.alike f180 (by omega)) all0)) CH175.1
    have CH181 := CH175.trans CHs181
    have sz181 : T175.heap.size ≤ T181.heap.size := Kp181.1
    have O181 : Old Z n0 T181.heap := O175.keep Kp181 (allS (by omega) (allS (by omega) all0))
    have K181 : Keep h0 T181.heap [] := K175.trans Kp181 (allS (Or.inr (by omega)) (allS (Or.inr (by omega)) all0))
    have aw181 : own_aw Z T175.heap T181.heap := own_al.aw f180 Kp181 (by omega) (hW 46 _ rfl)
    obtain ⟨hz1181, he181⟩ : lF2 = z181 ∧ T175.heap.size ≤ e181 := by omega
    clear hz181
    subst hz1181
    have la181 := AL181.lt2
    have ga181 : n0 ≤ e181 := by omega
    refine ci (XS.pop X181.here hx rfl (hb hby d8_170) rfl rfl) ?_
    refine ci (XS.iload X181.here hx rfl (hb hby d8_171) rfl) ?_
    refine ci (XS.iconst X181.here hx rfl (hb hby d8_173)) ?_
    refine ci (XS.iadd X181.here hx rfl (hb hby d8_174) rfl) ?_
    refine sc (A := (T181.setTop (mkF m 175 #[vr x, vr b1, vn f, vn op, vn cl, vr y152, vi (-1), vr y152] [(.int ((Int32.ofNat cl) + (1 : Int32)))]))) ?_
    rw [own_p1]
    refine sc (A := (T181.setTop (mkF m 175 #[vr x, vr b1, vn f, vn op, vn cl, vr y152, vi (-1), vr y152] [(.int (Int32.ofNat (cl + 1)))]))) ?_
    refine ci (XS.istoreN X181.here hx rfl (hb hby d8_175) rfl (l' := #[vr x, vr b1, vn (cl + 1), vn op, vn cl, vr y152, vi (-1), vr y152]) rfl) ?_
    refine ci (XS.aloadN X181.here hx rfl (hb hby d8_176) rfl rfl) ?_
    obtain ⟨b183, T183, h183, k183, t183, kb183, X183, e183, E183, hS183, hk183, hZ183, hown183, Ex183, Cx183, Vx183, Kx183, la183, lb183, CHs183, -, hne183, st183⟩ := ldcCH X181 hx hZ166 hown166 (hW 77 _ rfl) wS rfl hS166 (by omega : T166.heap.size ≤ T181.heap.size) hEL (by decide +kernel) CH181.1 (vs := [.int 36, .int 123]) (z := 2) ⟨by decide +kernel, by decide +kernel⟩ (by decide +kernel) (by decide +kernel) (g := (mkF m 177 #[vr x, vr b1, vn (cl + 1), vn op, vn cl, vr y152, vi (-1), vr y152] [(.ref x)])) rfl (hb hby d8_177) (n := 8) (by decide +kernel) (by decide) (by decide) (by decide)
    have CH183 := CH181.trans CHs183
    have Ss183 : own_sr Z h183 b183 ([36, 123] : List Int32) := ⟨by decide, by decide, t183, kb183, Ex183, Vx183, Cx183, Kx183⟩
    refine oc st183 ?_
    have sz183 : T181.heap.size ≤ h183.size := E183.1
    have O183 : Old Z n0 h183 := O181.ext E183
    have K183 : Keep h0 h183 [] := K181.ext E183
    have lla183 := olt la183
    have llb183 := olt lb183
    refine ci (XS.iloadN X183.here hx rfl (hb hby d8_179) rfl) ?_
    refine sc (A := (T183.setTop (mkF m 180 #[vr x, vr b1, vn (cl + 1), vn op, vn cl, vr y152, vi (-1), vr y152] [(.int (Int32.ofNat (cl + 1))), (.ref b183), (.ref x)]))) ?_
    have f184 : own_sr Z h183 x cs := (((((f165.keep Kp166 nin0).aw aw169).aw aw175).aw aw181).ext E183)
    have f186 : Exa Z h183 x "java/lang/String" := (((((f167.keep Kp166).keep Kp169).keep Kp175).keep Kp181).ext E183)
    obtain ⟨cq185, kq185, q185a, q185b, q185c⟩ := isOf hZ183 e183 f186
    obtain ⟨_, T185, Lc185, X185, hQ185, st185⟩ := own_c1 X183 <| X183.virtualBack hx (y := ym56) (z := ym56) hown183 (mvT hZ183 (hW 296 _ rfl)) (mvT hZ183 (hW 297 _ rfl)) (notFace_of_selects (args := #[]) (mvT hZ183 (hW 299 _ rfl))) (mvT hZ183 (hW 299 _ rfl)) (mvT hZ183 (hW 298 _ rfl)) (by decide) (backOf (W := 0) (rmF l Z a0 hw [] x cs b183 (cl + 1) Gc h183 n0 O183 Oc Pc f184 Ss183 (by omega)) hZ183 (hW 300 _ rfl) (hW 8 _ rfl) (by decide) (by decide)) q185a q185c (g := (mkF m 180 #[vr x, vr b1, vn (cl + 1), vn op, vn cl, vr y152, vi (-1), vr y152] [(.int (Int32.ofNat (cl + 1))), (.ref b183), (.ref x)])) rfl (by rw [hml]; rfl) (Steps.refl _) (argsL := [(.ref b183), (.int (Int32.ofNat (cl + 1)))]) (rest := []) (lenOf pd_32 rfl) rfl (Nat.le_of_eq rfl) (hb hby d8_180) (fun _ _ => ⟨rfl, e183, (by decide : 17 + 0 ≤ _), (by decide : 136 + 0 ≤ _)⟩)
    obtain ⟨r185, rfl, hr185, Nq185, eh185⟩ := hQ185
    have N185 := Fr.app N181 Nq185
    refine oc (fun tt_ kk_ => st185.trans kk_) ?_
    refine ci (XS.istoreN X185.here hx rfl (hb hby d8_183) rfl (l' := #[vr x, vr b1, vn (cl + 1), vi r185, vn cl, vr y152, vi (-1), vr y152]) rfl) ?_
    refine ci (XS.goto X185.here hx rfl (pc0 := 184) (pc' := 18) rfl (hb hby d8_184) (by decide) (by decide)) ?_
    refine sc (A := (T185.setTop (mkF m 18 #[vr x, vr b1, vn (cl + 1), vi r185, vn cl, vr y152, vi (-1), vr y152] []))) ?_
    have f187 : own_cont Z h183 xL cL := (((((((c_L.keep Kp152 nin0).ext E153).keep Kp166 nin0).aw aw169).aw aw175).aw aw181).ext E183)
    have f188 : own_sr Z h183 y166 (own_sl cs f op) := ((((Sy166.aw aw169).aw aw175).aw aw181).ext E183)
    have f189 : own_cont Z h183 xK cK := (((((((c_K.keep Kp152 nin0).ext E153).keep Kp166 nin0).aw aw169).aw aw175).aw aw181).ext E183)
    have f190 : own_sr Z h183 y152 (own_sl cs (op + 2) kt) := (((((R160.keep Kp166 nin0).aw aw169).aw aw175).aw aw181).ext E183)
    have f191 : own_cont Z h183 xF cF := (((((((c_F.keep Kp152 nin0).ext E153).keep Kp166 nin0).aw aw169).aw aw175).aw aw181).ext E183)
    have f192 : own_set Z h183 b1 x lL2 lK2 lF2 := ((f177.keep Kp181 (ninS (one (by omega)) (ninS (one (by omega)) nin0))).ext E183)
    have f193 : own_al Z h183 dq n0 lL2 e169 k169 (xL ++ [(.ref y166)]) (mL + (1 : Int32)) := (((AL169.keep Kp175 (ninS (one (by omega)) (ninS (one (by omega)) nin0)) (ninS (one (by omega)) (ninS (one (by omega)) nin0))).keep Kp181 (ninS (one (by omega)) (ninS (one (by omega)) nin0)) (ninS (one (by omega)) (ninS (one (by omega)) nin0))).ext E183)
    have f194 : own_al Z h183 dq n0 lK2 e175 k175 (xK ++ [(.ref y152)]) (mK + (1 : Int32)) := ((AL175.keep Kp181 (ninS (one (by omega)) (ninS (one (by omega)) nin0)) (ninS (one (by omega)) (ninS (one (by omega)) nin0))).ext E183)
    have f195 : own_al Z h183 dq n0 lF2 e181 k181 (xF ++ [.null]) (mF + (1 : Int32)) := (AL181.ext E183)
    exact J18_1 _ _ _ _ _ (cl + 1) _ e169 e175 e181 k169 k175 k181 (xL ++ [(.ref y166)]) (xK ++ [(.ref y152)]) (xF ++ [.null]) (mL + (1 : Int32)) (mK + (1 : Int32)) (mF + (1 : Int32)) (cL ++ [some (own_sl cs f op)]) (cK ++ [some (own_sl cs (op + 2) kt)]) (cF ++ [own_fb cs kt cl false]) rs' _ _ _ _ (X185.more (by decide) (by decide)) eh185 N185 O183 K183 hS183 (by omega) hZ183 hown183 CH183 f192 f193 f194 f195 (own_cont.snoc f187 ⟨y166, rfl, f188⟩) (own_cont.snoc f189 ⟨y152, rfl, f190⟩) (own_cont.snoc f191 own_it0) (by rw [← u_L, List.append_assoc]; rfl) (by rw [← u_K, List.append_assoc]; rfl) (by rw [← u_F, List.append_assoc]; rfl) hP' hr185 (by omega) (by rw [List.length_append, n_L]; rfl) (by rw [List.length_append, n_K]; rfl) (by rw [List.length_append, n_F]; rfl) (by omega) (by omega) (by omega) (Or.inr ⟨_, rfl⟩) (Or.inr ⟨_, rfl⟩) (Or.inr ⟨_, rfl⟩) (Or.inr ⟨_, rfl⟩)
   ·obtain rfl : r158 = Int32.ofNat (kt - (op + 2)) := own_ix_col hq hr158
    have b4_ : kt < cl := hq.2.2.2.2.2.2.2.2.elim (fun q => q.2.1) (fun q => by cases q.1)
    refine sc (A := (T158.setTop (mkF m 78 #[vr x, vr b1, vn f, vn op, vn cl, vr y152, l6, l7] [(.int (Int32.ofNat (kt - (op + 2))))]))) ?_
    refine ci (XS.istore X158.here hx rfl (hb hby d8_78) rfl (l' := #[vr x, vr b1, vn f, vn op, vn cl, vr y152, .val (.int (Int32.ofNat (kt - (op + 2)))), l7]) (by rcases o6 with rfl | ⟨z, rfl⟩ <;> rfl)) ?_
    refine ci (XS.iload X158.here hx rfl (hb hby d8_80) rfl) ?_
    have hb82_196 : ¬ ((Int32.ofNat (kt - (op + 2))) < (0 : Int32)) := (own_nn (by omega))
    refine ci (XS.ifYes X158.here hx rfl (pc0 := 82) (pc' := 90) rfl (hb hby d8_82) rfl ((if0 _ _).trans (flt hb82_196).2.1) (by decide) (by decide)) ?_
    refine sc (A := (T158.setTop (mkF m 90 #[vr x, vr b1, vn f, vn op, vn cl, vr y152, .val (.int (Int32.ofNat (kt - (op + 2)))), l7] []))) ?_
    refine ci (XS.aload X158.here hx rfl (hb hby d8_90) rfl rfl) ?_
    refine ci (XS.iconst X158.here hx rfl (hb hby d8_92)) ?_
    refine ci (XS.iload X158.here hx rfl (hb hby d8_93) rfl) ?_
    refine sc (A := (T158.setTop (mkF m 95 #[vr x, vr b1, vn f, vn op, vn cl, vr y152, .val (.int (Int32.ofNat (kt - (op + 2)))), l7] [(.int (Int32.ofNat (kt - (op + 2)))), (.int 0), (.ref y152)]))) ?_
    obtain ⟨cq197, kq197, q197a, q197b, q197c⟩ := isOf hZ153 eh158 f156
    obtain ⟨_, _, ⟨T197, L197, k197, n197⟩, -, Xr197, hSr197, hgr197, ⟨Lc197, hQ197, l197, y197, z197, CHs197⟩, st197⟩ := X158.virtualBackS hx (y := ym20) (z := ym20) hown153 (mvT hZ153 (hW 246 _ rfl)) (mvT hZ153 (hW 113 _ rfl)) (notFace_of_selects (args := #[]) (mvT hZ153 (hW 115 _ rfl))) (mvT hZ153 (hW 115 _ rfl)) (mvT hZ153 (hW 114 _ rfl)) (by decide) (backOfSH (W := 0) (rmSu l Z a0 hw [] y152 (own_sl cs (op + 2) cl) 0 (kt - (op + 2)) Gc fm h153 n0 hEL O153 Oc Pc Of hfm f154 (by omega) (by rw [own_sl_len (by omega)]; omega)) hZ153 (hW 116 _ rfl) (hW 8 _ rfl) (by decide) (by decide) hEL CH153.1) q197a q197c (g := (mkF m 95 #[vr x, vr b1, vn f, vn op, vn cl, vr y152, .val (.int (Int32.ofNat (kt - (op + 2)))), l7] [(.int (Int32.ofNat (kt - (op + 2)))), (.int 0), (.ref y152)])) rfl (by rw [hml]; rfl) (Steps.refl _) (argsL := [(.int 0), (.int (Int32.ofNat (kt - (op + 2))))]) (rest := []) (lenOf pd_21 rfl) rfl (Nat.le_of_eq rfl) (hb hby d8_95) (fun _ _ => ⟨rfl, eh158, (by decide : 10 + 2 ≤ _), (by decide : 68 + 26 ≤ _)⟩)
    dsimp only [Pt.U, Pt.locs, Pt.cells, Pt.slots] at Xr197 l197 y197 z197 st197 hQ197 hSr197 hgr197 CHs197
    obtain ⟨X197, hS197, hZ197, hown197⟩ := rebS hS153 (by rw [eh158]; omega : k153 ≤ T158.heap.size) Xr197 hSr197 hgr197 hZ153 hown153
    subst l197 y197 z197
    obtain ⟨y197, rfl, Nq197, Kp197, Sy197⟩ := hQ197
    have N197 := Fr.app N158 Nq197
    refine oc (fun tt_ kk_ => st197.trans kk_) ?_
    have CH197 := CH153.trans CHs197
    have sz197 : h153.size ≤ T197.heap.size := Kp197.1
    have O197 : Old Z n0 T197.heap := O153.keep Kp197 all0
    have K197 : Keep h0 T197.heap [] := K153.trans Kp197 all0
    have Ex_y197 := Sy197.exa
    have R198 : own_sr Z T197.heap y197 (own_sl cs (op + 2) kt) := by have q := Sy197; rw [own_sl_sl (by omega), show op + 2 + (kt - (op + 2)) = kt by omega] at q; exact q
    refine ci (XS.astore X197.here hx rfl (hb hby d8_98) rfl rfl (l' := #[vr x, vr b1, vn f, vn op, vn cl, vr y152, .val (.int (Int32.ofNat (kt - (op + 2)))), vr y197]) (by rcases o7 with rfl | ⟨z, rfl⟩ <;> rfl)) ?_
    refine ci (XS.aload X197.here hx rfl (hb hby d8_100) rfl rfl) ?_
    refine sc (A := (T197.setTop (mkF m 102 #[vr x, vr b1, vn f, vn op, vn cl, vr y152, .val (.int (Int32.ofNat (kt - (op + 2)))), vr y197] [(.ref y197)]))) ?_
    obtain ⟨cq199, kq199, q199a, q199b, q199c⟩ := isOf hZ197 rfl Ex_y197
    obtain ⟨_, T199, Lc199, X199, hQ199, st199⟩ := own_c1 X197 <| X197.virtualBack hx (y := ym55) (z := ym55) hown197 (mvT hZ197 (hW 290 _ rfl)) (mvT hZ197 (hW 291 _ rfl)) (notFace_of_selects (args := #[]) (mvT hZ197 (hW 293 _ rfl))) (mvT hZ197 (hW 293 _ rfl)) (mvT hZ197 (hW 292 _ rfl)) (by decide) (backOf (W := 0) (rmEm l Z a0 hw [] y197 (own_sl cs (op + 2) kt) T197.heap n0 O197 R198 (by rw [own_sl_len (by omega)]; omega)) hZ197 (hW 294 _ rfl) (hW 8 _ rfl) (by decide) (by decide)) q199a q199c (g := (mkF m 102 #[vr x, vr b1, vn f, vn op, vn cl, vr y152, .val (.int (Int32.ofNat (kt - (op + 2)))), vr y197] [(.ref y197)])) rfl (by rw [hml]; rfl) (Steps.refl _) (argsL := []) (rest := []) (lenOf pd_3 rfl) rfl (Nat.le_of_eq rfl) (hb hby d8_102) (fun _ _ => ⟨rfl, rfl, (by decide : 12 + 0 ≤ _), (by decide : 94 + 0 ≤ _)⟩)
    obtain ⟨rfl, Nq199, eh199⟩ := hQ199
    have N199 := Fr.app N197 Nq199
    refine oc (fun tt_ kk_ => st199.trans kk_) ?_
    have hb105_200 : (0 : Int32) = (0 : Int32) := by decide
    refine ci (XS.ifYes X199.here hx rfl (pc0 := 105) (pc' := 115) rfl (hb hby d8_105) rfl ((if0 _ _).trans (teq hb105_200).1) (by decide) (by decide)) ?_
    refine ci (XS.aloadN X199.here hx rfl (hb hby d8_115) rfl rfl) ?_
    refine sc (A := (T199.setTop (mkF m 116 #[vr x, vr b1, vn f, vn op, vn cl, vr y152, .val (.int (Int32.ofNat (kt - (op + 2)))), vr y197] [(.ref b1)]))) ?_
    have f201 : own_set Z T197.heap b1 x lL2 lK2 lF2 := (((M_o.keep Kp152 nin0).ext E153).keep Kp197 nin0)
    obtain ⟨T202, X202, e202, st202⟩ := getF X199 hx hZ197 hown197 (host := "") (Or.inl (hW 69 _ rfl)) Via.refl eh199 f201.2.2.1 (g := (mkF m 116 #[vr x, vr b1, vn f, vn op, vn cl, vr y152, .val (.int (Int32.ofNat (kt - (op + 2)))), vr y197] [(.ref b1)])) rfl rfl (hb hby d8_116)
    refine oc st202 ?_
    refine ci (XS.aloadN X202.here hx rfl (hb hby d8_119) rfl rfl) ?_
    refine ci (XS.iloadN X202.here hx rfl (hb hby d8_120) rfl) ?_
    refine ci (XS.iloadN X202.here hx rfl (hb hby d8_121) rfl) ?_
    refine sc (A := (T202.setTop (mkF m 122 #[vr x, vr b1, vn f, vn op, vn cl, vr y152, .val (.int (Int32.ofNat (kt - (op + 2)))), vr y197] [(.int (Int32.ofNat op)), (.int (Int32.ofNat f)), (.ref x), (.ref lL2)]))) ?_
    have f203 : own_sr Z T197.heap x cs := (((f148.keep Kp152 nin0).ext E153).keep Kp197 nin0)
    have f205 : Exa Z T197.heap x "java/lang/String" := (((f150.keep Kp152).ext E153).keep Kp197)
    obtain ⟨cq204, kq204, q204a, q204b, q204c⟩ := isOf hZ197 e202 f205
    obtain ⟨_, _, ⟨T204, L204, k204, n204⟩, -, Xr204, hSr204, hgr204, ⟨Lc204, hQ204, l204, y204, z204, CHs204⟩, st204⟩ := X202.virtualBackS hx (y := ym20) (z := ym20) hown197 (mvT hZ197 (hW 246 _ rfl)) (mvT hZ197 (hW 113 _ rfl)) (notFace_of_selects (args := #[]) (mvT hZ197 (hW 115 _ rfl))) (mvT hZ197 (hW 115 _ rfl)) (mvT hZ197 (hW 114 _ rfl)) (by decide) (backOfSH (W := 1) (rmSu l Z a0 hw [] x cs f op Gc fm T197.heap n0 hEL O197 Oc Pc Of hfm f203 hfo (by omega)) hZ197 (hW 116 _ rfl) (hW 8 _ rfl) (by decide) (by decide) hEL CH197.1) q204a q204c (g := (mkF m 122 #[vr x, vr b1, vn f, vn op, vn cl, vr y152, .val (.int (Int32.ofNat (kt - (op + 2)))), vr y197] [(.int (Int32.ofNat op)), (.int (Int32.ofNat f)), (.ref x), (.ref lL2)])) rfl (by rw [hml]; rfl) (Steps.refl _) (argsL := [(.int (Int32.ofNat f)), (.int (Int32.ofNat op))]) (rest := [(.ref lL2)]) (lenOf pd_21 rfl) rfl (Nat.le_of_eq rfl) (hb hby d8_122) (fun _ _ => ⟨rfl, e202, (by decide : 12 + 2 ≤ _), (by decide : 94 + 26 ≤ _)⟩)
    dsimp only [Pt.U, Pt.locs, Pt.cells, Pt.slots] at Xr204 l204 y204 z204 st204 hQ204 hSr204 hgr204 CHs204
    obtain ⟨X204, hS204, hZ204, hown204⟩ := rebS hS197 (by rw [e202]; omega : T197.heap.size ≤ T202.heap.size) Xr204 hSr204 hgr204 hZ197 hown197
    subst l204 y204 z204
    obtain ⟨y204, rfl, Nq204, Kp204, Sy204⟩ := hQ204
    have N204 := Fr.app N199 Nq204
    refine oc (fun tt_ kk_ => st204.trans kk_) ?_
    have CH204 := CH197.trans CHs204
    have sz204 : T197.heap.size ≤ T204.heap.size := Kp204.1
    have O204 : Old Z n0 T204.heap := O197.keep Kp204 all0
    have K204 : Keep h0 T204.heap [] := K197.trans Kp204 all0
    have Ex_y204 := Sy204.exa
    refine sc (A := (T204.setTop (mkF m 125 #[vr x, vr b1, vn f, vn op, vn cl, vr y152, .val (.int (Int32.ofNat (kt - (op + 2)))), vr y197] [(.ref y204), (.ref lL2)]))) ?_
    have f206 : own_al Z T204.heap dq n0 lL2 eL kL xL mL := ((((A_L.keep Kp152 nin0 nin0).ext E153).keep Kp197 nin0 nin0).keep Kp204 nin0 nin0)
    have f208 : Exa Z T204.heap lL2 "java/util/ArrayList" := ((((A_L.1.keep Kp152).ext E153).keep Kp197).keep Kp204)
    obtain ⟨cq207, kq207, q207a, q207b, q207c⟩ := isOf hZ204 rfl f208
    obtain ⟨_, T207, Lc207, X207, hQ207, st207⟩ := own_c1 X204 <| X204.interfaceBack hx (xi := ym8488) (y := ym23) hown204 (mvT hZ204 (hW 125 _ rfl)) (mvT hZ204 (hW 126 _ rfl)) (mvT hZ204 (hW 127 _ rfl)) (mvT hZ204 (hW 128 _ rfl)) (mvT hZ204 (hW 129 _ rfl)) (mvT hZ204 (hW 130 _ rfl)) (mvT hZ204 (hW 131 _ rfl)) (mvT hZ204 (hW 132 _ rfl)) (by decide) (backOf (W := 0) (rmAd l Z a0 hw [] lL2 dq kd eL kL xL (.ref y204) mL T204.heap n0 O204 (by omega) S_d V_d E_d l_d f206 (by omega) (Or.inr ⟨_, rfl, Ex_y204⟩)) hZ204 (hW 133 _ rfl) (hW 47 _ rfl) (by decide) (by decide)) q207a q207b q207c (g := (mkF m 125 #[vr x, vr b1, vn f, vn op, vn cl, vr y152, .val (.int (Int32.ofNat (kt - (op + 2)))), vr y197] [(.ref y204), (.ref lL2)])) rfl (by rw [hml]; rfl) (Steps.refl _) (argsL := [(.ref y204)]) (rest := []) (lenOf pd_29 rfl) rfl (Nat.le_of_eq rfl) (hb hby d8_125) (fun _ _ => ⟨rfl, rfl, (by decide : 14 + 1 ≤ _), (by decide : 120 + 10 ≤ _)⟩)
    obtain ⟨e207, k207, z207, rfl, Nq207, gz207, hz207, Kp207, AL207⟩ := hQ207
    have N207 := Fr.app N204 Nq207
    refine oc (fun tt_ kk_ => st207.trans kk_) ?_
    have CHs207 := CHr.keep Kp207 (allS (Safe.exa hZ204.alike f208 (by decide) (by decide)) (allS (own_al.safe (EL := own_EL) hZ204.alike f206 (by omega)) all0)) CH204.1
    have CH207 := CH204.trans CHs207
    have sz207 : T204.heap.size ≤ T207.heap.size := Kp207.1
    have O207 : Old Z n0 T207.heap := O204.keep Kp207 (allS (by omega) (allS (by omega) all0))
    have K207 : Keep h0 T207.heap [] := K204.trans Kp207 (allS (Or.inr (by omega)) (allS (Or.inr (by omega)) all0))
    have aw207 : own_aw Z T204.heap T207.heap := own_al.aw f206 Kp207 (by omega) (hW 46 _ rfl)
    obtain ⟨hz1207, he207⟩ : lL2 = z207 ∧ T204.heap.size ≤ e207 := by omega
    clear hz207
    subst hz1207
    have la207 := AL207.lt2
    have ga207 : n0 ≤ e207 := by omega
    refine ci (XS.pop X207.here hx rfl (hb hby d8_130) rfl rfl) ?_
    refine ci (XS.aloadN X207.here hx rfl (hb hby d8_131) rfl rfl) ?_
    refine sc (A := (T207.setTop (mkF m 132 #[vr x, vr b1, vn f, vn op, vn cl, vr y152, .val (.int (Int32.ofNat (kt - (op + 2)))), vr y197] [(.ref b1)]))) ?_
    have f209 : own_set Z T207.heap b1 x lL2 lK2 lF2 := ((f201.keep Kp204 nin0).keep Kp207 (ninS (one (by omega)) (ninS (one (by omega)) nin0)))
    obtain ⟨T210, X210, e210, st210⟩ := getF X207 hx hZ204 hown204 (host := "") (Or.inl (hW 71 _ rfl)) Via.refl rfl f209.2.2.2.1 (g := (mkF m 132 #[vr x, vr b1, vn f, vn op, vn cl, vr y152, .val (.int (Int32.ofNat (kt - (op + 2)))), vr y197] [(.ref b1)])) rfl rfl (hb hby d8_132)
    refine oc st210 ?_
    refine ci (XS.aload X210.here hx rfl (hb hby d8_135) rfl rfl) ?_
    refine sc (A := (T210.setTop (mkF m 137 #[vr x, vr b1, vn f, vn op, vn cl, vr y152, .val (.int (Int32.ofNat (kt - (op + 2)))), vr y197] [(.ref y197), (.ref lK2)]))) ?_
    have f211 : own_al Z T207.heap dq n0 lK2 eK kK xK mK := (((((A_K.keep Kp152 nin0 nin0).ext E153).keep Kp197 nin0 nin0).keep Kp204 nin0 nin0).keep Kp207 (ninS (one (by omega)) (ninS (one (by omega)) nin0)) (ninS (one (by omega)) (ninS (one (by omega)) nin0)))
    have f212 : Exa Z T207.heap y197 "java/lang/String" := ((Ex_y197.keep Kp204).keep Kp207)
    have f214 : Exa Z T207.heap lK2 "java/util/ArrayList" := (((((A_K.1.keep Kp152).ext E153).keep Kp197).keep Kp204).keep Kp207)
    obtain ⟨cq213, kq213, q213a, q213b, q213c⟩ := isOf hZ204 e210 f214
    obtain ⟨_, T213, Lc213, X213, hQ213, st213⟩ := own_c1 X210 <| X210.interfaceBack hx (xi := ym8488) (y := ym23) hown204 (mvT hZ204 (hW 125 _ rfl)) (mvT hZ204 (hW 126 _ rfl)) (mvT hZ204 (hW 127 _ rfl)) (mvT hZ204 (hW 128 _ rfl)) (mvT hZ204 (hW 129 _ rfl)) (mvT hZ204 (hW 130 _ rfl)) (mvT hZ204 (hW 131 _ rfl)) (mvT hZ204 (hW 132 _ rfl)) (by decide) (backOf (W := 0) (rmAd l Z a0 hw [] lK2 dq kd eK kK xK (.ref y197) mK T207.heap n0 O207 (by omega) S_d V_d E_d l_d f211 (by omega) (Or.inr ⟨_, rfl, f212⟩)) hZ204 (hW 133 _ rfl) (hW 47 _ rfl) (by decide) (by decide)) q213a q213b q213c (g := (mkF m 137 #[vr x, vr b1, vn f, vn op, vn cl, vr y152, .val (.int (Int32.ofNat (kt - (op + 2)))), vr y197] [(.ref y197), (.ref lK2)])) rfl (by rw [hml]; rfl) (Steps.refl _) (argsL := [(.ref y197)]) (rest := []) (lenOf pd_29 rfl) rfl (Nat.le_of_eq rfl) (hb hby d8_137) (fun _ _ => ⟨rfl, e210, (by decide : 15 + 1 ≤ _), (by decide : 130 + 10 ≤ _)⟩)
    obtain ⟨e213, k213, z213, rfl, Nq213, gz213, hz213, Kp213, AL213⟩ := hQ213
    have N213 := Fr.app N207 Nq213
    refine oc (fun tt_ kk_ => st213.trans kk_) ?_
    have CHs213 := CHr.keep Kp213 (allS (Safe.exa hZ204.alike f214 (by decide) (by decide)) (allS (own_al.safe (EL := own_EL) hZ204.alike f211 (by omega)) all0)) CH207.1
    have CH213 := CH207.trans CHs213
    have sz213 : T207.heap.size ≤ T213.heap.size := Kp213.1
    have O213 : Old Z n0 T213.heap := O207.keep Kp213 (allS (by omega) (allS (by omega) all0))
    have K213 : Keep h0 T213.heap [] := K207.trans Kp213 (allS (Or.inr (by omega)) (allS (Or.inr (by omega)) all0))
    have aw213 : own_aw Z T207.heap T213.heap := own_al.aw f211 Kp213 (by omega) (hW 46 _ rfl)
    obtain ⟨hz1213, he213⟩ : lK2 = z213 ∧ T207.heap.size ≤ e213 := by omega
    clear hz213
    subst hz1213
    have la213 := AL213.lt2
    have ga213 : n0 ≤ e213 := by omega
    refine ci (XS.pop X213.here hx rfl (hb hby d8_142) rfl rfl) ?_
    refine ci (XS.aloadN X213.here hx rfl (hb hby d8_143) rfl rfl) ?_
    refine sc (A := (T213.setTop (mkF m 144 #[vr x, vr b1, vn f, vn op, vn cl, vr y152, .val (.int (Int32.ofNat (kt - (op + 2)))), vr y197] [(.ref b1)]))) ?_
    have f215 : own_set Z T213.heap b1 x lL2 lK2 lF2 := (f209.keep Kp213 (ninS (one (by omega)) (ninS (one (by omega)) nin0)))
    obtain ⟨T216, X216, e216, st216⟩ := getF X213 hx hZ204 hown204 (host := "") (Or.inl (hW 73 _ rfl)) Via.refl rfl f215.2.2.2.2 (g := (mkF m 144 #[vr x, vr b1, vn f, vn op, vn cl, vr y152, .val (.int (Int32.ofNat (kt - (op + 2)))), vr y197] [(.ref b1)])) rfl rfl (hb hby d8_144)
    refine oc st216 ?_
    refine ci (XS.iload X216.here hx rfl (hb hby d8_147) rfl) ?_
    have hb149_217 : ¬ ((Int32.ofNat (kt - (op + 2))) < (0 : Int32)) := (own_nn (by omega))
    refine ci (XS.ifYes X216.here hx rfl (pc0 := 149) (pc' := 156) rfl (hb hby d8_149) rfl ((if0 _ _).trans (flt hb149_217).2.1) (by decide) (by decide)) ?_
    refine sc (A := (T216.setTop (mkF m 156 #[vr x, vr b1, vn f, vn op, vn cl, vr y152, .val (.int (Int32.ofNat (kt - (op + 2)))), vr y197] [(.ref lF2)]))) ?_
    refine ci (XS.aload X216.here hx rfl (hb hby d8_156) rfl rfl) ?_
    refine ci (XS.iload X216.here hx rfl (hb hby d8_158) rfl) ?_
    refine ci (XS.iconst X216.here hx rfl (hb hby d8_160)) ?_
    refine ci (XS.iadd X216.here hx rfl (hb hby d8_161) rfl) ?_
    refine sc (A := (T216.setTop (mkF m 162 #[vr x, vr b1, vn f, vn op, vn cl, vr y152, .val (.int (Int32.ofNat (kt - (op + 2)))), vr y197] [(.int ((Int32.ofNat (kt - (op + 2))) + (1 : Int32))), (.ref y152), (.ref lF2)]))) ?_
    rw [own_p1]
    refine sc (A := (T216.setTop (mkF m 162 #[vr x, vr b1, vn f, vn op, vn cl, vr y152, .val (.int (Int32.ofNat (kt - (op + 2)))), vr y197] [(.int (Int32.ofNat (kt - (op + 2) + 1))), (.ref y152), (.ref lF2)]))) ?_
    have f218 : own_sr Z T213.heap y152 (own_sl cs (op + 2) cl) := ((((f154.keep Kp197 nin0).keep Kp204 nin0).aw aw207).aw aw213)
    have f220 : Exa Z T213.heap y152 "java/lang/String" := ((((f156.keep Kp197).keep Kp204).keep Kp207).keep Kp213)
    obtain ⟨cq219, kq219, q219a, q219b, q219c⟩ := isOf hZ204 e216 f220
    obtain ⟨_, _, ⟨T219, L219, k219, n219⟩, -, Xr219, hSr219, hgr219, ⟨Lc219, hQ219, l219, y219, z219, CHs219⟩, st219⟩ := X216.virtualBackS hx (y := ym18) (z := ym18) hown204 (mvT hZ204 (hW 102 _ rfl)) (mvT hZ204 (hW 103 _ rfl)) (notFace_of_selects (args := #[]) (mvT hZ204 (hW 105 _ rfl))) (mvT hZ204 (hW 105 _ rfl)) (mvT hZ204 (hW 104 _ rfl)) (by decide) (backOfSH (W := 1) (rmS1s l Z a0 hw [] y152 (own_sl cs (op + 2) cl) (kt - (op + 2) + 1) Gc fm T213.heap n0 hEL O213 Oc Pc Of hfm f218 (by rw [own_sl_len (by omega)]; omega)) hZ204 (hW 106 _ rfl) (hW 8 _ rfl) (by decide) (by decide) hEL CH213.1) q219a q219c (g := (mkF m 162 #[vr x, vr b1, vn f, vn op, vn cl, vr y152, .val (.int (Int32.ofNat (kt - (op + 2)))), vr y197] [(.int (Int32.ofNat (kt - (op + 2) + 1))), (.ref y152), (.ref lF2)])) rfl (by rw [hml]; rfl) (Steps.refl _) (argsL := [(.int (Int32.ofNat (kt - (op + 2) + 1)))]) (rest := [(.ref lF2)]) (lenOf pd_28 rfl) rfl (Nat.le_of_eq rfl) (hb hby d8_162) (fun _ _ => ⟨rfl, e216, (by decide : 16 + 2 ≤ _), (by decide : 140 + 26 ≤ _)⟩)
    dsimp only [Pt.U, Pt.locs, Pt.cells, Pt.slots] at Xr219 l219 y219 z219 st219 hQ219 hSr219 hgr219 CHs219
    obtain ⟨X219, hS219, hZ219, hown219⟩ := rebS hS204 (by rw [e216]; omega : T204.heap.size ≤ T216.heap.size) Xr219 hSr219 hgr219 hZ204 hown204
    subst l219 y219 z219
    obtain ⟨y219, rfl, Nq219, Kp219, Sy219⟩ := hQ219
    have N219 := Fr.app N213 Nq219
    refine oc (fun tt_ kk_ => st219.trans kk_) ?_
    have CH219 := CH213.trans CHs219
    have sz219 : T213.heap.size ≤ T219.heap.size := Kp219.1
    have O219 : Old Z n0 T219.heap := O213.keep Kp219 all0
    have K219 : Keep h0 T219.heap [] := K213.trans Kp219 all0
    have Ex_y219 := Sy219.exa
    have R221 : own_sr Z T219.heap y219 (own_sl cs (kt + 1) cl) := by have q := Sy219; rw [own_sl_len (by omega), own_sl_sl (by omega), show op + 2 + (kt - (op + 2) + 1) = kt + 1 by omega, show op + 2 + (cl - (op + 2)) = cl by omega] at q; exact q
    refine sc (A := (T219.setTop (mkF m 165 #[vr x, vr b1, vn f, vn op, vn cl, vr y152, .val (.int (Int32.ofNat (kt - (op + 2)))), vr y197] [(.ref y219), (.ref lF2)]))) ?_
    have f222 : own_al Z T219.heap dq n0 lF2 eF kF xF mF := (((((((A_F.keep Kp152 nin0 nin0).ext E153).keep Kp197 nin0 nin0).keep Kp204 nin0 nin0).keep Kp207 (ninS (one (by omega)) (ninS (one (by omega)) nin0)) (ninS (one (by omega)) (ninS (one (by omega)) nin0))).keep Kp213 (ninS (one (by omega)) (ninS (one (by omega)) nin0)) (ninS (one (by omega)) (ninS (one (by omega)) nin0))).keep Kp219 nin0 nin0)
    have f224 : Exa Z T219.heap lF2 "java/util/ArrayList" := (((((((A_F.1.keep Kp152).ext E153).keep Kp197).keep Kp204).keep Kp207).keep Kp213).keep Kp219)
    obtain ⟨cq223, kq223, q223a, q223b, q223c⟩ := isOf hZ219 rfl f224
    obtain ⟨_, T223, Lc223, X223, hQ223, st223⟩ := own_c1 X219 <| X219.interfaceBack hx (xi := ym8488) (y := ym23) hown219 (mvT hZ219 (hW 125 _ rfl)) (mvT hZ219 (hW 126 _ rfl)) (mvT hZ219 (hW 127 _ rfl)) (mvT hZ219 (hW 128 _ rfl)) (mvT hZ219 (hW 129 _ rfl)) (mvT hZ219 (hW 130 _ rfl)) (mvT hZ219 (hW 131 _ rfl)) (mvT hZ219 (hW 132 _ rfl)) (by decide) (backOf (W := 0) (rmAd l Z a0 hw [] lF2 dq kd eF kF xF (.ref y219) mF T219.heap n0 O219 (by omega) S_d V_d E_d l_d f222 (by omega) (Or.inr ⟨_, rfl, Ex_y219⟩)) hZ219 (hW 133 _ rfl) (hW 47 _ rfl) (by decide) (by decide)) q223a q223b q223c (g := (mkF m 165 #[vr x, vr b1, vn f, vn op, vn cl, vr y152, .val (.int (Int32.ofNat (kt - (op + 2)))), vr y197] [(.ref y219), (.ref lF2)])) rfl (by rw [hml]; rfl) (Steps.refl _) (argsL := [(.ref y219)]) (rest := []) (lenOf pd_29 rfl) rfl (Nat.le_of_eq rfl) (hb hby d8_165) (fun _ _ => ⟨rfl, rfl, (by decide : 18 + 1 ≤ _), (by decide : 166 + 10 ≤ _)⟩)
    obtain ⟨e223, k223, z223, rfl, Nq223, gz223, hz223, Kp223, AL223⟩ := hQ223
    have N223 := Fr.app N219 Nq223
    refine oc (fun tt_ kk_ => st223.trans kk_) ?_
    have CHs223 := CHr.keep Kp223 (allS (Safe.exa hZ219.alike f224 (by decide) (by decide)) (allS (own_al.safe (EL := own_EL) hZ219.alike f222 (by omega)) all0)) CH219.1
    have CH223 := CH219.trans CHs223
    have sz223 : T219.heap.size ≤ T223.heap.size := Kp223.1
    have O223 : Old Z n0 T223.heap := O219.keep Kp223 (allS (by omega) (allS (by omega) all0))
    have K223 : Keep h0 T223.heap [] := K219.trans Kp223 (allS (Or.inr (by omega)) (allS (Or.inr (by omega)) all0))
    have aw223 : own_aw Z T219.heap T223.heap := own_al.aw f222 Kp223 (by omega) (hW 46 _ rfl)
    obtain ⟨hz1223, he223⟩ : lF2 = z223 ∧ T219.heap.size ≤ e223 := by omega
    clear hz223
    subst hz1223
    have la223 := AL223.lt2
    have ga223 : n0 ≤ e223 := by omega
    refine ci (XS.pop X223.here hx rfl (hb hby d8_170) rfl rfl) ?_
    refine ci (XS.iload X223.here hx rfl (hb hby d8_171) rfl) ?_
    refine ci (XS.iconst X223.here hx rfl (hb hby d8_173)) ?_
    refine ci (XS.iadd X223.here hx rfl (hb hby d8_174) rfl) ?_
    refine sc (A := (T223.setTop (mkF m 175 #[vr x, vr b1, vn f, vn op, vn cl, vr y152, .val (.int (Int32.ofNat (kt - (op + 2)))), vr y197] [(.int ((Int32.ofNat cl) + (1 : Int32)))]))) ?_
    rw [own_p1]
    refine sc (A := (T223.setTop (mkF m 175 #[vr x, vr b1, vn f, vn op, vn cl, vr y152, .val (.int (Int32.ofNat (kt - (op + 2)))), vr y197] [(.int (Int32.ofNat (cl + 1)))]))) ?_
    refine ci (XS.istoreN X223.here hx rfl (hb hby d8_175) rfl (l' := #[vr x, vr b1, vn (cl + 1), vn op, vn cl, vr y152, .val (.int (Int32.ofNat (kt - (op + 2)))), vr y197]) rfl) ?_
    refine ci (XS.aloadN X223.here hx rfl (hb hby d8_176) rfl rfl) ?_
    obtain ⟨b225, T225, h225, k225, t225, kb225, X225, e225, E225, hS225, hk225, hZ225, hown225, Ex225, Cx225, Vx225, Kx225, la225, lb225, CHs225, -, hne225, st225⟩ := ldcCH X223 hx hZ219 hown219 (hW 77 _ rfl) wS rfl hS219 (by omega : T219.heap.size ≤ T223.heap.size) hEL (by decide +kernel) CH223.1 (vs := [.int 36, .int 123]) (z := 2) ⟨by decide +kernel, by decide +kernel⟩ (by decide +kernel) (by decide +kernel) (g := (mkF m 177 #[vr x, vr b1, vn (cl + 1), vn op, vn cl, vr y152, .val (.int (Int32.ofNat (kt - (op + 2)))), vr y197] [(.ref x)])) rfl (hb hby d8_177) (n := 8) (by decide +kernel) (by decide) (by decide) (by decide)
    have CH225 := CH223.trans CHs225
    have Ss225 : own_sr Z h225 b225 ([36, 123] : List Int32) := ⟨by decide, by decide, t225, kb225, Ex225, Vx225, Cx225, Kx225⟩
    refine oc st225 ?_
    have sz225 : T223.heap.size ≤ h225.size := E225.1
    have O225 : Old Z n0 h225 := O223.ext E225
    have K225 : Keep h0 h225 [] := K223.ext E225
    have lla225 := olt la225
    have llb225 := olt lb225
    refine ci (XS.iloadN X225.here hx rfl (hb hby d8_179) rfl) ?_
    refine sc (A := (T225.setTop (mkF m 180 #[vr x, vr b1, vn (cl + 1), vn op, vn cl, vr y152, .val (.int (Int32.ofNat (kt - (op + 2)))), vr y197] [(.int (Int32.ofNat (cl + 1))), (.ref b225), (.ref x)]))) ?_
    have f226 : own_sr Z h225 x cs := ((((((f203.keep Kp204 nin0).aw aw207).aw aw213).keep Kp219 nin0).aw aw223).ext E225)
    have f228 : Exa Z h225 x "java/lang/String" := ((((((f205.keep Kp204).keep Kp207).keep Kp213).keep Kp219).keep Kp223).ext E225)
    obtain ⟨cq227, kq227, q227a, q227b, q227c⟩ := isOf hZ225 e225 f228
    obtain ⟨_, T227, Lc227, X227, hQ227, st227⟩ := own_c1 X225 <| X225.virtualBack hx (y := ym56) (z := ym56) hown225 (mvT hZ225 (hW 296 _ rfl)) (mvT hZ225 (hW 297 _ rfl)) (notFace_of_selects (args := #[]) (mvT hZ225 (hW 299 _ rfl))) (mvT hZ225 (hW 299 _ rfl)) (mvT hZ225 (hW 298 _ rfl)) (by decide) (backOf (W := 0) (rmF l Z a0 hw [] x cs b225 (cl + 1) Gc h225 n0 O225 Oc Pc f226 Ss225 (by omega)) hZ225 (hW 300 _ rfl) (hW 8 _ rfl) (by decide) (by decide)) q227a q227c (g := (mkF m 180 #[vr x, vr b1, vn (cl + 1), vn op, vn cl, vr y152, .val (.int (Int32.ofNat (kt - (op + 2)))), vr y197] [(.int (Int32.ofNat (cl + 1))), (.ref b225), (.ref x)])) rfl (by rw [hml]; rfl) (Steps.refl _) (argsL := [(.ref b225), (.int (Int32.ofNat (cl + 1)))]) (rest := []) (lenOf pd_32 rfl) rfl (Nat.le_of_eq rfl) (hb hby d8_180) (fun _ _ => ⟨rfl, e225, (by decide : 21 + 0 ≤ _), (by decide : 188 + 0 ≤ _)⟩)
    obtain ⟨r227, rfl, hr227, Nq227, eh227⟩ := hQ227
    have N227 := Fr.app N223 Nq227
    refine oc (fun tt_ kk_ => st227.trans kk_) ?_
    refine ci (XS.istoreN X227.here hx rfl (hb hby d8_183) rfl (l' := #[vr x, vr b1, vn (cl + 1), vi r227, vn cl, vr y152, .val (.int (Int32.ofNat (kt - (op + 2)))), vr y197]) rfl) ?_
    refine ci (XS.goto X227.here hx rfl (pc0 := 184) (pc' := 18) rfl (hb hby d8_184) (by decide) (by decide)) ?_
    refine sc (A := (T227.setTop (mkF m 18 #[vr x, vr b1, vn (cl + 1), vi r227, vn cl, vr y152, .val (.int (Int32.ofNat (kt - (op + 2)))), vr y197] []))) ?_
    have f229 : own_cont Z h225 xL cL := (((((((((c_L.keep Kp152 nin0).ext E153).keep Kp197 nin0).keep Kp204 nin0).aw aw207).aw aw213).keep Kp219 nin0).aw aw223).ext E225)
    have f230 : own_sr Z h225 y204 (own_sl cs f op) := (((((Sy204.aw aw207).aw aw213).keep Kp219 nin0).aw aw223).ext E225)
    have f231 : own_cont Z h225 xK cK := (((((((((c_K.keep Kp152 nin0).ext E153).keep Kp197 nin0).keep Kp204 nin0).aw aw207).aw aw213).keep Kp219 nin0).aw aw223).ext E225)
    have f232 : own_sr Z h225 y197 (own_sl cs (op + 2) kt) := ((((((R198.keep Kp204 nin0).aw aw207).aw aw213).keep Kp219 nin0).aw aw223).ext E225)
    have f233 : own_cont Z h225 xF cF := (((((((((c_F.keep Kp152 nin0).ext E153).keep Kp197 nin0).keep Kp204 nin0).aw aw207).aw aw213).keep Kp219 nin0).aw aw223).ext E225)
    have f234 : own_sr Z h225 y219 (own_sl cs (kt + 1) cl) := ((R221.aw aw223).ext E225)
    have f235 : own_set Z h225 b1 x lL2 lK2 lF2 := (((f215.keep Kp219 nin0).keep Kp223 (ninS (one (by omega)) (ninS (one (by omega)) nin0))).ext E225)
    have f236 : own_al Z h225 dq n0 lL2 e207 k207 (xL ++ [(.ref y204)]) (mL + (1 : Int32)) := ((((AL207.keep Kp213 (ninS (one (by omega)) (ninS (one (by omega)) nin0)) (ninS (one (by omega)) (ninS (one (by omega)) nin0))).keep Kp219 nin0 nin0).keep Kp223 (ninS (one (by omega)) (ninS (one (by omega)) nin0)) (ninS (one (by omega)) (ninS (one (by omega)) nin0))).ext E225)
    have f237 : own_al Z h225 dq n0 lK2 e213 k213 (xK ++ [(.ref y197)]) (mK + (1 : Int32)) := (((AL213.keep Kp219 nin0 nin0).keep Kp223 (ninS (one (by omega)) (ninS (one (by omega)) nin0)) (ninS (one (by omega)) (ninS (one (by omega)) nin0))).ext E225)
    have f238 : own_al Z h225 dq n0 lF2 e223 k223 (xF ++ [(.ref y219)]) (mF + (1 : Int32)) := (AL223.ext E225)
    exact J18_1 _ _ _ _ _ (cl + 1) _ e207 e213 e223 k207 k213 k223 (xL ++ [(.ref y204)]) (xK ++ [(.ref y197)]) (xF ++ [(.ref y219)]) (mL + (1 : Int32)) (mK + (1 : Int32)) (mF + (1 : Int32)) (cL ++ [some (own_sl cs f op)]) (cK ++ [some (own_sl cs (op + 2) kt)]) (cF ++ [own_fb cs kt cl true]) rs' _ _ _ _ (X227.more (by decide) (by decide)) eh227 N227 O225 K225 hS225 (by omega) hZ225 hown225 CH225 f235 f236 f237 f238 (own_cont.snoc f229 ⟨y204, rfl, f230⟩) (own_cont.snoc f231 ⟨y197, rfl, f232⟩) (own_cont.snoc f233 ⟨y219, rfl, f234⟩) (by rw [← u_L, List.append_assoc]; rfl) (by rw [← u_K, List.append_assoc]; rfl) (by rw [← u_F, List.append_assoc]; rfl) hP' hr227 (by omega) (by rw [List.length_append, n_L]; rfl) (by rw [List.length_append, n_K]; rfl) (by rw [List.length_append, n_F]; rfl) (by omega) (by omega) (by omega) (Or.inr ⟨_, rfl⟩) (Or.inr ⟨_, rfl⟩) (Or.inr ⟨_, rfl⟩) (Or.inr ⟨_, rfl⟩)
 have f239 : own_set Z h3 b1 x lL2 lK2 lF2 := (Ms2.ext E3)
 have f240 : own_al Z h3 dq n0 lL2 dq kd [] (0 : Int32) := (AL2.ext E3)
 have f241 : own_al Z h3 dq n0 lK2 dq kd [] (0 : Int32) := (AK2.ext E3)
 have f242 : own_al Z h3 dq n0 lF2 dq kd [] (0 : Int32) := (AF2.ext E3)
 exact J18_0 _ _ _ _ _ 0 _ dq dq dq kd kd kd [] [] [] (0 : Int32) (0 : Int32) (0 : Int32) [] [] [] pls _ _ _ _ (X5.more (by decide) (by decide)) eh5 N5 O3 K3 hS3 (by omega) hZ3 hown3 CH3 f239 f240 f241 f242 trivial trivial trivial rfl rfl rfl hps hr5 (by omega) rfl rfl rfl rfl rfl rfl (Or.inl rfl) (Or.inl rfl) (Or.inl rfl) (Or.inl rfl)
theorem ef_rm_lit (m : MethodId) (x0 : Int64) : entryFrame m #[(.long x0)] 3 = mkF m 0 #[.val (.long x0), .second, uu] [] := by first | (simp [entryFrame, mkF, argsToLocals, Value.category]; done) | rfl
theorem pn_9 : plainName "com/example/assemble/assemble/SettingTextParsePinLaw" = true := by first | (simp [plainName, overriddenIn]; done) | decide +kernel
theorem d1_0 : dk cD1 0 (.lload_n 0) 1 := by decide +kernel
theorem d1_1 : dk cD1 1 (.ldc2_w 7) 3 := by decide +kernel
theorem d1_4 : dk cD1 4 .land 1 := by decide +kernel
theorem d1_5 : dk cD1 5 .l2i 1 := by decide +kernel
theorem d1_6 : dk cD1 6 .i2c 1 := by decide +kernel
theorem d1_7 : dk cD1 7 (.istore_n 2) 1 := by decide +kernel
theorem d1_8 : dk cD1 8 (.iload_n 2) 1 := by decide +kernel
theorem d1_9 : dk cD1 9 (.bipush 123) 2 := by decide +kernel
theorem d1_11 : dk cD1 11 (.if_icmp .ne 8) 3 := by decide +kernel
theorem d1_14 : dk cD1 14 (.bipush 36) 2 := by decide +kernel
theorem d1_16 : dk cD1 16 (.goto 4) 3 := by decide +kernel
theorem d1_20 : dk cD1 20 .ireturn 1 := by decide +kernel
theorem d1_19 : dk cD1 19 (.iload_n 2) 1 := by decide +kernel
def Q_rm_lit (Z : State) (aj : Int64) (h0 : Heap) (n0 : Nat) (v : Option Value) (h : Heap) (L : List Loc) : Prop := ∃ z : Int32, v = some (.int z) ∧ own_ch z ∧ z ≠ 123 ∧ Fr n0 L ∧ h = h0
theorem rm_lit (l : Launch) (Z : State) (a0 : Array Value) (hw : own_H Z a0) (ws : List Jvm.Cond) (aj : Int64) (h0 : Heap) (n0 : Nat) (XO0 : Old Z n0 h0) :
  own_M l Z ym1 cD1 ws 3 (some .char) (own_R 0 0 0 0) #[(.long aj)] h0 (Q_rm_lit Z aj h0 n0) := by
 refine own_open (plainFor_of_name pn_9) ?_
 intro p e s m below meth c s₁ hx hby hlk hret hml hown hnm hZ X0 e0
 have hW := own_hW hw
 have N0 := Fr.nil n0
 refine oo (fun tt_ kk_ => castTop (ef_rm_lit m aj) kk_) ?_
 refine so (A := (s₁.setTop (mkF m 0 #[.val (.long aj), .second, uu] []))) ?_
 refine oi (XS.lloadN X0.here hx rfl (hb hby d1_0) rfl) ?_
 refine oo (fun _ => X0.ldc2J hx hown (mvT hZ (hW 4 _ rfl)) rfl (hb hby d1_1)) ?_
 refine oi (XS.land X0.here hx rfl (hb hby d1_4) rfl) ?_
 refine oi (XS.l2i X0.here hx rfl (hb hby d1_5) rfl) ?_
 refine oi (XS.i2c X0.here hx rfl (hb hby d1_6) rfl) ?_
 refine oi (XS.istoreN X0.here hx rfl (hb hby d1_7) rfl (l' := #[.val (.long aj), .second, .val (.int (((aj &&& (255 : Int64)).toInt32).toUInt32.toUInt16.toUInt32.toInt32))]) rfl) ?_
 refine oi (XS.iloadN X0.here hx rfl (hb hby d1_8) rfl) ?_
 refine oi (XS.bipush X0.here hx rfl (hb hby d1_9)) ?_
 by_cases hb11_1 : (((aj &&& (255 : Int64)).toInt32).toUInt32.toUInt16.toUInt32.toInt32) = (123 : Int32)
 ·refine oi (XS.icmpNo X0.here hx rfl (hb hby d1_11) rfl (teq hb11_1).2) ?_
  refine so (A := (s₁.setTop (mkF m 14 #[.val (.long aj), .second, .val (.int (((aj &&& (255 : Int64)).toInt32).toUInt32.toUInt16.toUInt32.toInt32))] []))) ?_
  refine oi (XS.bipush X0.here hx rfl (hb hby d1_14)) ?_
  refine oi (XS.goto X0.here hx rfl (pc0 := 16) (pc' := 20) rfl (hb hby d1_16) (by decide) (by decide)) ?_
  refine so (A := (s₁.setTop (mkF m 20 #[.val (.long aj), .second, .val (.int (((aj &&& (255 : Int64)).toInt32).toUInt32.toUInt16.toUInt32.toInt32))] [(.int 36)]))) ?_
  refine own_ret X0 hx hlk hret rfl (Or.inl ⟨rfl, by simp, _, rfl⟩) (hb hby d1_20) (by decide) (by decide) ?_
  rw [e0]
  exact ⟨_, rfl, by decide, by decide, N0, rfl⟩
 ·refine oi (XS.icmpYes X0.here hx rfl (pc0 := 11) (pc' := 19) rfl (hb hby d1_11) rfl (feq hb11_1).2 (by decide) (by decide)) ?_
  refine so (A := (s₁.setTop (mkF m 19 #[.val (.long aj), .second, .val (.int (((aj &&& (255 : Int64)).toInt32).toUInt32.toUInt16.toUInt32.toInt32))] []))) ?_
  refine oi (XS.iloadN X0.here hx rfl (hb hby d1_19) rfl) ?_
  refine so (A := (s₁.setTop (mkF m 20 #[.val (.long aj), .second, .val (.int (((aj &&& (255 : Int64)).toInt32).toUInt32.toUInt16.toUInt32.toInt32))] [(.int (((aj &&& (255 : Int64)).toInt32).toUInt32.toUInt16.toUInt32.toInt32))]))) ?_
  refine own_ret X0 hx hlk hret (XT.narrow_c _) (Or.inl ⟨rfl, by simp, _, rfl⟩) (hb hby d1_20) (by decide) (by decide) ?_
  rw [e0]
  exact ⟨_, rfl, own_cl_ch aj, hb11_1, N0, rfl⟩
theorem ef_rm_keyc (m : MethodId) (x0 : Int64) : entryFrame m #[(.long x0)] 3 = mkF m 0 #[.val (.long x0), .second, uu] [] := by first | (simp [entryFrame, mkF, argsToLocals, Value.category]; done) | rfl
theorem d41_0 : dk cD41 0 (.lload_n 0) 1 := by decide +kernel
theorem d41_1 : dk cD41 1 (.ldc2_w 7) 3 := by decide +kernel
theorem d41_4 : dk cD41 4 .land 1 := by decide +kernel
theorem d41_5 : dk cD41 5 .l2i 1 := by decide +kernel
theorem d41_6 : dk cD41 6 .i2c 1 := by decide +kernel
theorem d41_7 : dk cD41 7 (.istore_n 2) 1 := by decide +kernel
theorem d41_8 : dk cD41 8 (.iload_n 2) 1 := by decide +kernel
theorem d41_9 : dk cD41 9 (.bipush 123) 2 := by decide +kernel
theorem d41_11 : dk cD41 11 (.if_icmp .eq 15) 3 := by decide +kernel
theorem d41_26 : dk cD41 26 (.bipush 36) 2 := by decide +kernel
theorem d41_28 : dk cD41 28 (.goto 4) 3 := by decide +kernel
theorem d41_32 : dk cD41 32 .ireturn 1 := by decide +kernel
theorem d41_14 : dk cD41 14 (.iload_n 2) 1 := by decide +kernel
theorem d41_15 : dk cD41 15 (.bipush 125) 2 := by decide +kernel
theorem d41_17 : dk cD41 17 (.if_icmp .eq 9) 3 := by decide +kernel
theorem d41_20 : dk cD41 20 (.iload_n 2) 1 := by decide +kernel
theorem d41_21 : dk cD41 21 (.bipush 58) 2 := by decide +kernel
theorem d41_23 : dk cD41 23 (.if_icmp .ne 8) 3 := by decide +kernel
theorem d41_31 : dk cD41 31 (.iload_n 2) 1 := by decide +kernel
def Q_rm_keyc (Z : State) (aj : Int64) (h0 : Heap) (n0 : Nat) (v : Option Value) (h : Heap) (L : List Loc) : Prop := ∃ z : Int32, v = some (.int z) ∧ own_ch z ∧ own_kc z ∧ Fr n0 L ∧ h = h0
theorem rm_keyc (l : Launch) (Z : State) (a0 : Array Value) (hw : own_H Z a0) (ws : List Jvm.Cond) (aj : Int64) (h0 : Heap) (n0 : Nat) (XO0 : Old Z n0 h0) :
  own_M l Z ym41 cD41 ws 3 (some .char) (own_R 0 0 0 0) #[(.long aj)] h0 (Q_rm_keyc Z aj h0 n0) := by
 refine own_open (plainFor_of_name pn_9) ?_
 intro p e s m below meth c s₁ hx hby hlk hret hml hown hnm hZ X0 e0
 have hW := own_hW hw
 have N0 := Fr.nil n0
 refine oo (fun tt_ kk_ => castTop (ef_rm_keyc m aj) kk_) ?_
 refine so (A := (s₁.setTop (mkF m 0 #[.val (.long aj), .second, uu] []))) ?_
 refine oi (XS.lloadN X0.here hx rfl (hb hby d41_0) rfl) ?_
 refine oo (fun _ => X0.ldc2J hx hown (mvT hZ (hW 4 _ rfl)) rfl (hb hby d41_1)) ?_
 refine oi (XS.land X0.here hx rfl (hb hby d41_4) rfl) ?_
 refine oi (XS.l2i X0.here hx rfl (hb hby d41_5) rfl) ?_
 refine oi (XS.i2c X0.here hx rfl (hb hby d41_6) rfl) ?_
 refine oi (XS.istoreN X0.here hx rfl (hb hby d41_7) rfl (l' := #[.val (.long aj), .second, .val (.int (((aj &&& (255 : Int64)).toInt32).toUInt32.toUInt16.toUInt32.toInt32))]) rfl) ?_
 refine oi (XS.iloadN X0.here hx rfl (hb hby d41_8) rfl) ?_
 refine oi (XS.bipush X0.here hx rfl (hb hby d41_9)) ?_
 by_cases hb11_1 : (((aj &&& (255 : Int64)).toInt32).toUInt32.toUInt16.toUInt32.toInt32) = (123 : Int32)
 ·refine oi (XS.icmpYes X0.here hx rfl (pc0 := 11) (pc' := 26) rfl (hb hby d41_11) rfl (teq hb11_1).1 (by decide) (by decide)) ?_
  refine so (A := (s₁.setTop (mkF m 26 #[.val (.long aj), .second, .val (.int (((aj &&& (255 : Int64)).toInt32).toUInt32.toUInt16.toUInt32.toInt32))] []))) ?_
  refine oi (XS.bipush X0.here hx rfl (hb hby d41_26)) ?_
  refine oi (XS.goto X0.here hx rfl (pc0 := 28) (pc' := 32) rfl (hb hby d41_28) (by decide) (by decide)) ?_
  refine so (A := (s₁.setTop (mkF m 32 #[.val (.long aj), .second, .val (.int (((aj &&& (255 : Int64)).toInt32).toUInt32.toUInt16.toUInt32.toInt32))] [(.int 36)]))) ?_
  refine own_ret X0 hx hlk hret rfl (Or.inl ⟨rfl, by simp, _, rfl⟩) (hb hby d41_32) (by decide) (by decide) ?_
  rw [e0]
  exact ⟨_, rfl, by decide, by decide, N0, rfl⟩
 ·refine oi (XS.icmpNo X0.here hx rfl (hb hby d41_11) rfl (feq hb11_1).1) ?_
  refine so (A := (s₁.setTop (mkF m 14 #[.val (.long aj), .second, .val (.int (((aj &&& (255 : Int64)).toInt32).toUInt32.toUInt16.toUInt32.toInt32))] []))) ?_
  refine oi (XS.iloadN X0.here hx rfl (hb hby d41_14) rfl) ?_
  refine oi (XS.bipush X0.here hx rfl (hb hby d41_15)) ?_
  by_cases hb17_2 : (((aj &&& (255 : Int64)).toInt32).toUInt32.toUInt16.toUInt32.toInt32) = (125 : Int32)
  ·refine oi (XS.icmpYes X0.here hx rfl (pc0 := 17) (pc' := 26) rfl (hb hby d41_17) rfl (teq hb17_2).1 (by decide) (by decide)) ?_
   refine so (A := (s₁.setTop (mkF m 26 #[.val (.long aj), .second, .val (.int (((aj &&& (255 : Int64)).toInt32).toUInt32.toUInt16.toUInt32.toInt32))] []))) ?_
   refine oi (XS.bipush X0.here hx rfl (hb hby d41_26)) ?_
   refine oi (XS.goto X0.here hx rfl (pc0 := 28) (pc' := 32) rfl (hb hby d41_28) (by decide) (by decide)) ?_
   refine so (A := (s₁.setTop (mkF m 32 #[.val (.long aj), .second, .val (.int (((aj &&& (255 : Int64)).toInt32).toUInt32.toUInt16.toUInt32.toInt32))] [(.int 36)]))) ?_
   refine own_ret X0 hx hlk hret rfl (Or.inl ⟨rfl, by simp, _, rfl⟩) (hb hby d41_32) (by decide) (by decide) ?_
   rw [e0]
   exact ⟨_, rfl, by decide, by decide, N0, rfl⟩
  ·refine oi (XS.icmpNo X0.here hx rfl (hb hby d41_17) rfl (feq hb17_2).1) ?_
   refine so (A := (s₁.setTop (mkF m 20 #[.val (.long aj), .second, .val (.int (((aj &&& (255 : Int64)).toInt32).toUInt32.toUInt16.toUInt32.toInt32))] []))) ?_
   refine oi (XS.iloadN X0.here hx rfl (hb hby d41_20) rfl) ?_
   refine oi (XS.bipush X0.here hx rfl (hb hby d41_21)) ?_
   by_cases hb23_3 : (((aj &&& (255 : Int64)).toInt32).toUInt32.toUInt16.toUInt32.toInt32) = (58 : Int32)
   ·refine oi (XS.icmpNo X0.here hx rfl (hb hby d41_23) rfl (teq hb23_3).2) ?_
    refine so (A := (s₁.setTop (mkF m 26 #[.val (.long aj), .second, .val (.int (((aj &&& (255 : Int64)).toInt32).toUInt32.toUInt16.toUInt32.toInt32))] []))) ?_
    refine oi (XS.bipush X0.here hx rfl (hb hby d41_26)) ?_
    refine oi (XS.goto X0.here hx rfl (pc0 := 28) (pc' := 32) rfl (hb hby d41_28) (by decide) (by decide)) ?_
    refine so (A := (s₁.setTop (mkF m 32 #[.val (.long aj), .second, .val (.int (((aj &&& (255 : Int64)).toInt32).toUInt32.toUInt16.toUInt32.toInt32))] [(.int 36)]))) ?_
    refine own_ret X0 hx hlk hret rfl (Or.inl ⟨rfl, by simp, _, rfl⟩) (hb hby d41_32) (by decide) (by decide) ?_
    rw [e0]
    exact ⟨_, rfl, by decide, by decide, N0, rfl⟩
   ·refine oi (XS.icmpYes X0.here hx rfl (pc0 := 23) (pc' := 31) rfl (hb hby d41_23) rfl (feq hb23_3).2 (by decide) (by decide)) ?_
    refine so (A := (s₁.setTop (mkF m 31 #[.val (.long aj), .second, .val (.int (((aj &&& (255 : Int64)).toInt32).toUInt32.toUInt16.toUInt32.toInt32))] []))) ?_
    refine oi (XS.iloadN X0.here hx rfl (hb hby d41_31) rfl) ?_
    refine so (A := (s₁.setTop (mkF m 32 #[.val (.long aj), .second, .val (.int (((aj &&& (255 : Int64)).toInt32).toUInt32.toUInt16.toUInt32.toInt32))] [(.int (((aj &&& (255 : Int64)).toInt32).toUInt32.toUInt16.toUInt32.toInt32))]))) ?_
    refine own_ret X0 hx hlk hret (XT.narrow_c _) (Or.inl ⟨rfl, by simp, _, rfl⟩) (hb hby d41_32) (by decide) (by decide) ?_
    rw [e0]
    exact ⟨_, rfl, own_cl_ch aj, ⟨hb11_1, hb17_2, hb23_3⟩, N0, rfl⟩
theorem ef_rm_defc (m : MethodId) (x0 : Int64) : entryFrame m #[(.long x0)] 3 = mkF m 0 #[.val (.long x0), .second, uu] [] := by first | (simp [entryFrame, mkF, argsToLocals, Value.category]; done) | rfl
theorem d64_0 : dk cD64 0 (.lload_n 0) 1 := by decide +kernel
theorem d64_1 : dk cD64 1 (.ldc2_w 7) 3 := by decide +kernel
theorem d64_4 : dk cD64 4 .land 1 := by decide +kernel
theorem d64_5 : dk cD64 5 .l2i 1 := by decide +kernel
theorem d64_6 : dk cD64 6 .i2c 1 := by decide +kernel
theorem d64_7 : dk cD64 7 (.istore_n 2) 1 := by decide +kernel
theorem d64_8 : dk cD64 8 (.iload_n 2) 1 := by decide +kernel
theorem d64_9 : dk cD64 9 (.bipush 123) 2 := by decide +kernel
theorem d64_11 : dk cD64 11 (.if_icmp .eq 9) 3 := by decide +kernel
theorem d64_20 : dk cD64 20 (.bipush 58) 2 := by decide +kernel
theorem d64_22 : dk cD64 22 (.goto 4) 3 := by decide +kernel
theorem d64_26 : dk cD64 26 .ireturn 1 := by decide +kernel
theorem d64_14 : dk cD64 14 (.iload_n 2) 1 := by decide +kernel
theorem d64_15 : dk cD64 15 (.bipush 125) 2 := by decide +kernel
theorem d64_17 : dk cD64 17 (.if_icmp .ne 8) 3 := by decide +kernel
theorem d64_25 : dk cD64 25 (.iload_n 2) 1 := by decide +kernel
def Q_rm_defc (Z : State) (aj : Int64) (h0 : Heap) (n0 : Nat) (v : Option Value) (h : Heap) (L : List Loc) : Prop := ∃ z : Int32, v = some (.int z) ∧ own_ch z ∧ own_dc z ∧ Fr n0 L ∧ h = h0
theorem rm_defc (l : Launch) (Z : State) (a0 : Array Value) (hw : own_H Z a0) (ws : List Jvm.Cond) (aj : Int64) (h0 : Heap) (n0 : Nat) (XO0 : Old Z n0 h0) :
  own_M l Z ym64 cD64 ws 3 (some .char) (own_R 0 0 0 0) #[(.long aj)] h0 (Q_rm_defc Z aj h0 n0) := by
 refine own_open (plainFor_of_name pn_9) ?_
 intro p e s m below meth c s₁ hx hby hlk hret hml hown hnm hZ X0 e0
 have hW := own_hW hw
 have N0 := Fr.nil n0
 refine oo (fun tt_ kk_ => castTop (ef_rm_defc m aj) kk_) ?_
 refine so (A := (s₁.setTop (mkF m 0 #[.val (.long aj), .second, uu] []))) ?_
 refine oi (XS.lloadN X0.here hx rfl (hb hby d64_0) rfl) ?_
 refine oo (fun _ => X0.ldc2J hx hown (mvT hZ (hW 4 _ rfl)) rfl (hb hby d64_1)) ?_
 refine oi (XS.land X0.here hx rfl (hb hby d64_4) rfl) ?_
 refine oi (XS.l2i X0.here hx rfl (hb hby d64_5) rfl) ?_
 refine oi (XS.i2c X0.here hx rfl (hb hby d64_6) rfl) ?_
 refine oi (XS.istoreN X0.here hx rfl (hb hby d64_7) rfl (l' := #[.val (.long aj), .second, .val (.int (((aj &&& (255 : Int64)).toInt32).toUInt32.toUInt16.toUInt32.toInt32))]) rfl) ?_
 refine oi (XS.iloadN X0.here hx rfl (hb hby d64_8) rfl) ?_
 refine oi (XS.bipush X0.here hx rfl (hb hby d64_9)) ?_
 by_cases hb11_1 : (((aj &&& (255 : Int64)).toInt32).toUInt32.toUInt16.toUInt32.toInt32) = (123 : Int32)
 ·refine oi (XS.icmpYes X0.here hx rfl (pc0 := 11) (pc' := 20) rfl (hb hby d64_11) rfl (teq hb11_1).1 (by decide) (by decide)) ?_
  refine so (A := (s₁.setTop (mkF m 20 #[.val (.long aj), .second, .val (.int (((aj &&& (255 : Int64)).toInt32).toUInt32.toUInt16.toUInt32.toInt32))] []))) ?_
  refine oi (XS.bipush X0.here hx rfl (hb hby d64_20)) ?_
  refine oi (XS.goto X0.here hx rfl (pc0 := 22) (pc' := 26) rfl (hb hby d64_22) (by decide) (by decide)) ?_
  refine so (A := (s₁.setTop (mkF m 26 #[.val (.long aj), .second, .val (.int (((aj &&& (255 : Int64)).toInt32).toUInt32.toUInt16.toUInt32.toInt32))] [(.int 58)]))) ?_
  refine own_ret X0 hx hlk hret rfl (Or.inl ⟨rfl, by simp, _, rfl⟩) (hb hby d64_26) (by decide) (by decide) ?_
  rw [e0]
  exact ⟨_, rfl, by decide, by decide, N0, rfl⟩
 ·refine oi (XS.icmpNo X0.here hx rfl (hb hby d64_11) rfl (feq hb11_1).1) ?_
  refine so (A := (s₁.setTop (mkF m 14 #[.val (.long aj), .second, .val (.int (((aj &&& (255 : Int64)).toInt32).toUInt32.toUInt16.toUInt32.toInt32))] []))) ?_
  refine oi (XS.iloadN X0.here hx rfl (hb hby d64_14) rfl) ?_
  refine oi (XS.bipush X0.here hx rfl (hb hby d64_15)) ?_
  by_cases hb17_2 : (((aj &&& (255 : Int64)).toInt32).toUInt32.toUInt16.toUInt32.toInt32) = (125 : Int32)
  ·refine oi (XS.icmpNo X0.here hx rfl (hb hby d64_17) rfl (teq hb17_2).2) ?_
   refine so (A := (s₁.setTop (mkF m 20 #[.val (.long aj), .second, .val (.int (((aj &&& (255 : Int64)).toInt32).toUInt32.toUInt16.toUInt32.toInt32))] []))) ?_
   refine oi (XS.bipush X0.here hx rfl (hb hby d64_20)) ?_
   refine oi (XS.goto X0.here hx rfl (pc0 := 22) (pc' := 26) rfl (hb hby d64_22) (by decide) (by decide)) ?_
   refine so (A := (s₁.setTop (mkF m 26 #[.val (.long aj), .second, .val (.int (((aj &&& (255 : Int64)).toInt32).toUInt32.toUInt16.toUInt32.toInt32))] [(.int 58)]))) ?_
   refine own_ret X0 hx hlk hret rfl (Or.inl ⟨rfl, by simp, _, rfl⟩) (hb hby d64_26) (by decide) (by decide) ?_
   rw [e0]
   exact ⟨_, rfl, by decide, by decide, N0, rfl⟩
  ·refine oi (XS.icmpYes X0.here hx rfl (pc0 := 17) (pc' := 25) rfl (hb hby d64_17) rfl (feq hb17_2).2 (by decide) (by decide)) ?_
   refine so (A := (s₁.setTop (mkF m 25 #[.val (.long aj), .second, .val (.int (((aj &&& (255 : Int64)).toInt32).toUInt32.toUInt16.toUInt32.toInt32))] []))) ?_
   refine oi (XS.iloadN X0.here hx rfl (hb hby d64_25) rfl) ?_
   refine so (A := (s₁.setTop (mkF m 26 #[.val (.long aj), .second, .val (.int (((aj &&& (255 : Int64)).toInt32).toUInt32.toUInt16.toUInt32.toInt32))] [(.int (((aj &&& (255 : Int64)).toInt32).toUInt32.toUInt16.toUInt32.toInt32))]))) ?_
   refine own_ret X0 hx hlk hret (XT.narrow_c _) (Or.inl ⟨rfl, by simp, _, rfl⟩) (hb hby d64_26) (by decide) (by decide) ?_
   rw [e0]
   exact ⟨_, rfl, own_cl_ch aj, ⟨hb11_1, hb17_2⟩, N0, rfl⟩
theorem own_m1 {a : Nat} (h : 1 ≤ a) : Int32.ofNat a - (1 : Int32) = Int32.ofNat (a - 1) := own_nsub (b := 1) h
theorem own_nb_mem {cs : List Int32} {a b : Nat} (h : ∀ c ∈ cs, c ≠ 123) : own_nb cs a b := fun j _ _ u => h _ (own_mem_of u) rfl
theorem own_f22 {g k : Int32} (hg : own_ch g) (hk : own_ch k) (ng : g ≠ 123) (nk : k ≠ 123) : own_ok [g, k, g, k, g, k, g, k, g, k, g, k, g, k, g, k, g, k, g, k, g, k] ∧ own_nb [g, k, g, k, g, k, g, k, g, k, g, k, g, k, g, k, g, k, g, k, g, k] 0 22 := by
 have t : ∀ c ∈ [g, k, g, k, g, k, g, k, g, k, g, k, g, k, g, k, g, k, g, k, g, k], c = g ∨ c = k := by
  intro c hc
  simp only [List.mem_cons, List.not_mem_nil, or_false] at hc
  rcases hc with h | h | h | h | h | h | h | h | h | h | h | h | h | h | h | h | h | h | h | h | h | h <;> simp [h]
 exact ⟨⟨rfl, fun c hc => (t c hc).elim (fun e => e ▸ hg) (fun e => e ▸ hk)⟩, own_nb_mem fun c hc => (t c hc).elim (fun e => e ▸ ng) (fun e => e ▸ nk)⟩
theorem ef_rmPt (m : MethodId) (x0 : Nat) (x1 : Nat) (x2 : Int32) (x3 : Int32) : entryFrame m #[(.ref x0), (.ref x1), (.int x2), (.int x3)] 5 = mkF m 0 #[vr x0, vr x1, vi x2, vi x3, uu] [] := by first | (simp [entryFrame, mkF, argsToLocals, Value.category]; done) | rfl
theorem d37_0 : dk cD37 0 (.aload_n 0) 1 := by decide +kernel
theorem d37_1 : dk cD37 1 (.ifnonnull 5) 3 := by decide +kernel
theorem d37_6 : dk cD37 6 (.iload_n 3) 1 := by decide +kernel
theorem d37_7 : dk cD37 7 (.iload_n 2) 1 := by decide +kernel
theorem d37_8 : dk cD37 8 .isub 1 := by decide +kernel
theorem d37_9 : dk cD37 9 (.istore 4) 2 := by decide +kernel
theorem d37_11 : dk cD37 11 (.aload_n 0) 1 := by decide +kernel
theorem d37_12 : dk cD37 12 (.invokevirtual 9) 3 := by decide +kernel
theorem d37_15 : dk cD37 15 (.iload 4) 2 := by decide +kernel
theorem d37_17 : dk cD37 17 (.if_icmp .eq 5) 3 := by decide +kernel
theorem d37_22 : dk cD37 22 (.iload 4) 2 := by decide +kernel
theorem d37_24 : dk cD37 24 (.iconst 1) 1 := by decide +kernel
theorem d37_25 : dk cD37 25 (.if_icmp .lt 32) 3 := by decide +kernel
theorem d37_57 : dk cD37 57 (.iload 4) 2 := by decide +kernel
theorem d37_59 : dk cD37 59 (.iconst 2) 1 := by decide +kernel
theorem d37_60 : dk cD37 60 (.if_icmp .lt 18) 3 := by decide +kernel
theorem d37_78 : dk cD37 78 (.iconst 1) 1 := by decide +kernel
theorem d37_79 : dk cD37 79 .ireturn 1 := by decide +kernel
theorem d37_28 : dk cD37 28 (.aload_n 0) 1 := by decide +kernel
theorem d37_29 : dk cD37 29 (.iconst 0) 1 := by decide +kernel
theorem d37_30 : dk cD37 30 (.invokevirtual 15) 3 := by decide +kernel
theorem pd_33 : parseMethodDescriptor "(I)C" = some ⟨[.int], some .char⟩ := by decide +kernel
theorem d37_33 : dk cD37 33 (.aload_n 1) 1 := by decide +kernel
theorem d37_34 : dk cD37 34 (.iload_n 2) 1 := by decide +kernel
theorem d37_35 : dk cD37 35 .caload 1 := by decide +kernel
theorem d37_36 : dk cD37 36 (.if_icmp .ne 19) 3 := by decide +kernel
theorem d37_39 : dk cD37 39 (.aload_n 0) 1 := by decide +kernel
theorem d37_40 : dk cD37 40 (.iload 4) 2 := by decide +kernel
theorem d37_42 : dk cD37 42 (.iconst 1) 1 := by decide +kernel
theorem d37_43 : dk cD37 43 .isub 1 := by decide +kernel
theorem d37_44 : dk cD37 44 (.invokevirtual 15) 3 := by decide +kernel
theorem d37_47 : dk cD37 47 (.aload_n 1) 1 := by decide +kernel
theorem d37_48 : dk cD37 48 (.iload_n 3) 1 := by decide +kernel
theorem d37_49 : dk cD37 49 (.iconst 1) 1 := by decide +kernel
theorem d37_50 : dk cD37 50 .isub 1 := by decide +kernel
theorem d37_51 : dk cD37 51 .caload 1 := by decide +kernel
theorem d37_52 : dk cD37 52 (.if_icmp .eq 5) 3 := by decide +kernel
theorem d37_63 : dk cD37 63 (.aload_n 0) 1 := by decide +kernel
theorem d37_64 : dk cD37 64 (.iconst 1) 1 := by decide +kernel
theorem d37_65 : dk cD37 65 (.invokevirtual 15) 3 := by decide +kernel
theorem d37_68 : dk cD37 68 (.aload_n 1) 1 := by decide +kernel
theorem d37_69 : dk cD37 69 (.iload_n 2) 1 := by decide +kernel
theorem d37_70 : dk cD37 70 (.iconst 1) 1 := by decide +kernel
theorem d37_71 : dk cD37 71 .iadd 1 := by decide +kernel
theorem d37_72 : dk cD37 72 .caload 1 := by decide +kernel
theorem d37_73 : dk cD37 73 (.if_icmp .eq 5) 3 := by decide +kernel
def Q_rmPt (Z : State) (x : Nat) (bu : Nat) (ku : ClassId) (cs : List Int32) (fa : Nat) (ta : Nat) (Gc : Int32) (fm : Value) (h0 : Heap) (n0 : Nat) (v : Option Value) (h : Heap) (L : List Loc) : Prop := v = some (.int 1) ∧ Fr n0 L ∧ h = h0
theorem rmPt (l : Launch) (Z : State) (a0 : Array Value) (hw : own_H Z a0) (ws : List Jvm.Cond) (x : Nat) (bu : Nat) (ku : ClassId) (cs : List Int32) (fa : Nat) (ta : Nat) (Gc : Int32) (fm : Value) (h0 : Heap) (n0 : Nat) (XO0 : Old Z n0 h0) (Oc : Sta Z Z.heap "java/lang/String" "COMPACT_STRINGS" "Z" (.int Gc)) (Pc : ¬ (Gc = (0 : Int32))) (Of : Sta Z Z.heap "jdk/internal/util/Preconditions" "SIOOBE_FORMATTER" "Ljava/util/function/BiFunction;" fm) (hfm : fm.isRef = true) (S_x : own_sr Z h0 x (own_sl cs fa ta)) (V_b : Arv Z h0 bu ku .char (22 : Int32) (cs.map Value.int) (.int 0)) (hok : own_ok cs) (hab : fa ≤ ta) (htb : ta ≤ 22) :
  own_M l Z ym37 cD37 ws 5 (some .boolean) (own_R 4 0 0 53) #[(.ref x), (.ref bu), (.int (Int32.ofNat fa)), (.int (Int32.ofNat ta))] h0 (Q_rmPt Z x bu ku cs fa ta Gc fm h0 n0) := by
 refine own_open (plainFor_of_name pn_9) ?_
 intro p e s m below meth c s₁ hx hby hlk hret hml hown hnm hZ X0 e0
 have hW := own_hW hw
 have N0 := Fr.nil n0
 refine oo (fun tt_ kk_ => castTop (ef_rmPt m x bu (Int32.ofNat fa) (Int32.ofNat ta)) kk_) ?_
 refine so (A := (s₁.setTop (mkF m 0 #[vr x, vr bu, vn fa, vn ta, uu] []))) ?_
 have Ex_x := S_x.exa
 have hl22 := hok.1
 refine oi (XS.aloadN X0.here hx rfl (hb hby d37_0) rfl rfl) ?_
 refine oi (XS.ifnonnullYes X0.here hx rfl (pc0 := 1) (pc' := 6) rfl (hb hby d37_1) rfl (by decide) (by decide)) ?_
 refine oi (XS.iloadN X0.here hx rfl (hb hby d37_6) rfl) ?_
 refine oi (XS.iloadN X0.here hx rfl (hb hby d37_7) rfl) ?_
 refine oi (XS.isub X0.here hx rfl (hb hby d37_8) rfl) ?_
 refine so (A := (s₁.setTop (mkF m 9 #[vr x, vr bu, vn fa, vn ta, uu] [(.int ((Int32.ofNat ta) - (Int32.ofNat fa)))]))) ?_
 rw [own_nsub hab]
 refine so (A := (s₁.setTop (mkF m 9 #[vr x, vr bu, vn fa, vn ta, uu] [(.int (Int32.ofNat (ta - fa)))]))) ?_
 refine oi (XS.istore X0.here hx rfl (hb hby d37_9) rfl (l' := #[vr x, vr bu, vn fa, vn ta, vn (ta - fa)]) rfl) ?_
 refine oi (XS.aloadN X0.here hx rfl (hb hby d37_11) rfl rfl) ?_
 refine so (A := (s₁.setTop (mkF m 12 #[vr x, vr bu, vn fa, vn ta, vn (ta - fa)] [(.ref x)]))) ?_
 obtain ⟨cq1, kq1, q1a, q1b, q1c⟩ := isOf hZ e0 Ex_x
 obtain ⟨_, T1, Lc1, X1, hQ1, st1⟩ := own_c1 X0 <| X0.virtualBack hx (y := ym19) (z := ym19) hown (mvT hZ (hW 212 _ rfl)) (mvT hZ (hW 108 _ rfl)) (notFace_of_selects (args := #[]) (mvT hZ (hW 110 _ rfl))) (mvT hZ (hW 110 _ rfl)) (mvT hZ (hW 109 _ rfl)) (by decide) (backOf (W := 0) (rmLen l Z a0 hw [] x (own_sl cs fa ta) Gc h0 n0 XO0 Oc Pc S_x) hZ (hW 111 _ rfl) (hW 8 _ rfl) (by decide) (by decide)) q1a q1c (g := (mkF m 12 #[vr x, vr bu, vn fa, vn ta, vn (ta - fa)] [(.ref x)])) rfl (by rw [hml]; rfl) (Steps.refl _) (argsL := []) (rest := []) (lenOf pd_8 rfl) rfl (Nat.le_of_eq rfl) (hb hby d37_12) (fun _ _ => ⟨rfl, e0, (by decide : 0 + 0 ≤ _), (by decide : 0 + 0 ≤ _)⟩)
 obtain ⟨rfl, Nq1, eh1⟩ := hQ1
 have N1 := Fr.app N0 Nq1
 refine oo (fun tt_ kk_ => st1.trans kk_) ?_
 refine so (A := (T1.setTop (mkF m 15 #[vr x, vr bu, vn fa, vn ta, vn (ta - fa)] [(.int (Int32.ofNat ((own_sl cs fa ta)).length))]))) ?_
 rw [own_sl_len (by omega)]
 refine so (A := (T1.setTop (mkF m 15 #[vr x, vr bu, vn fa, vn ta, vn (ta - fa)] [(.int (Int32.ofNat (ta - fa)))]))) ?_
 refine oi (XS.iload X1.here hx rfl (hb hby d37_15) rfl) ?_
 have hb17_2 : (Int32.ofNat (ta - fa)) = (Int32.ofNat (ta - fa)) := rfl
 refine oi (XS.icmpYes X1.here hx rfl (pc0 := 17) (pc' := 22) rfl (hb hby d37_17) rfl (teq hb17_2).1 (by decide) (by decide)) ?_
 refine oi (XS.iload X1.here hx rfl (hb hby d37_22) rfl) ?_
 refine oi (XS.iconst X1.here hx rfl (hb hby d37_24)) ?_
 by_cases hb25_3 : (Int32.ofNat (ta - fa)) < (1 : Int32)
 ·refine oi (XS.icmpYes X1.here hx rfl (pc0 := 25) (pc' := 57) rfl (hb hby d37_25) rfl (tlt hb25_3).1 (by decide) (by decide)) ?_
  refine so (A := (T1.setTop (mkF m 57 #[vr x, vr bu, vn fa, vn ta, vn (ta - fa)] []))) ?_
  refine oi (XS.iload X1.here hx rfl (hb hby d37_57) rfl) ?_
  refine oi (XS.iconst X1.here hx rfl (hb hby d37_59)) ?_
  have hb60_4 : (Int32.ofNat (ta - fa)) < (2 : Int32) := (own_nlt (b := 2) (by omega) (by omega)).mpr (by have := (own_nlt (b := 1) (by omega) (by omega)).mp hb25_3; omega)
  refine oi (XS.icmpYes X1.here hx rfl (pc0 := 60) (pc' := 78) rfl (hb hby d37_60) rfl (tlt hb60_4).1 (by decide) (by decide)) ?_
  refine so (A := (T1.setTop (mkF m 78 #[vr x, vr bu, vn fa, vn ta, vn (ta - fa)] []))) ?_
  refine oi (XS.iconst X1.here hx rfl (hb hby d37_78)) ?_
  refine so (A := (T1.setTop (mkF m 79 #[vr x, vr bu, vn fa, vn ta, vn (ta - fa)] [(.int 1)]))) ?_
  refine own_ret X1 hx hlk hret rfl (Or.inl ⟨rfl, by simp, _, rfl⟩) (hb hby d37_79) (by decide) (by decide) ?_
  rw [eh1]
  exact ⟨rfl, N1, rfl⟩
 ·refine oi (XS.icmpNo X1.here hx rfl (hb hby d37_25) rfl (flt hb25_3).1) ?_
  refine so (A := (T1.setTop (mkF m 28 #[vr x, vr bu, vn fa, vn ta, vn (ta - fa)] []))) ?_
  have hge : 1 ≤ ta - fa := Nat.le_of_not_lt (fun u => hb25_3 ((own_nlt (b := 1) (by omega) (by omega)).mpr u))
  obtain ⟨ca, hca⟩ : ∃ z, cs[fa]? = some z := ⟨_, List.getElem?_eq_getElem (by omega)⟩
  have hsa : (own_sl cs fa ta)[0]? = some ca := by rw [own_sl_get (by omega)]; exact hca
  obtain ⟨cb, hcb⟩ : ∃ z, cs[ta - 1]? = some z := ⟨_, List.getElem?_eq_getElem (by omega)⟩
  have hsb : (own_sl cs fa ta)[ta - fa - 1]? = some cb := by rw [own_sl_get (by omega), show fa + (ta - fa - 1) = ta - 1 by omega]; exact hcb
  refine oi (XS.aloadN X1.here hx rfl (hb hby d37_28) rfl rfl) ?_
  refine oi (XS.iconst X1.here hx rfl (hb hby d37_29)) ?_
  refine so (A := (T1.setTop (mkF m 30 #[vr x, vr bu, vn fa, vn ta, vn (ta - fa)] [(.int 0), (.ref x)]))) ?_
  obtain ⟨cq5, kq5, q5a, q5b, q5c⟩ := isOf hZ eh1 Ex_x
  obtain ⟨_, T5, Lc5, X5, hQ5, st5⟩ := own_c1 X1 <| X1.virtualBack hx (y := ym38) (z := ym38) hown (mvT hZ (hW 213 _ rfl)) (mvT hZ (hW 214 _ rfl)) (notFace_of_selects (args := #[]) (mvT hZ (hW 216 _ rfl))) (mvT hZ (hW 216 _ rfl)) (mvT hZ (hW 215 _ rfl)) (by decide) (backOf (W := 0) (rmCh l Z a0 hw [] x (own_sl cs fa ta) 0 ca Gc fm h0 n0 XO0 Oc Pc Of hfm S_x hsa) hZ (hW 217 _ rfl) (hW 8 _ rfl) (by decide) (by decide)) q5a q5c (g := (mkF m 30 #[vr x, vr bu, vn fa, vn ta, vn (ta - fa)] [(.int 0), (.ref x)])) rfl (by rw [hml]; rfl) (Steps.refl _) (argsL := [(.int 0)]) (rest := []) (lenOf pd_33 rfl) rfl (Nat.le_of_eq rfl) (hb hby d37_30) (fun _ _ => ⟨rfl, eh1, (by decide : 0 + 0 ≤ _), (by decide : 0 + 0 ≤ _)⟩)
  obtain ⟨rfl, Nq5, eh5⟩ := hQ5
  have N5 := Fr.app N1 Nq5
  refine oo (fun tt_ kk_ => st5.trans kk_) ?_
  refine so (A := (T5.setTop (mkF m 33 #[vr x, vr bu, vn fa, vn ta, vn (ta - fa)] [(.int ca)]))) ?_
  refine oi (XS.aloadN X5.here hx rfl (hb hby d37_33) rfl rfl) ?_
  refine oi (XS.iloadN X5.here hx rfl (hb hby d37_34) rfl) ?_
  refine so (A := (T5.setTop (mkF m 35 #[vr x, vr bu, vn fa, vn ta, vn (ta - fa)] [(.int (Int32.ofNat fa)), (.ref bu), (.int ca)]))) ?_
  obtain ⟨cl6, Ar6, q6, S6, Ng6, H6, G6⟩ := id V_b
  have hin6 : ¬ ((Int32.ofNat fa) < 0 ∨ cl6.slots.size ≤ ((Int32.ofNat fa)).toNatClampNeg) := inb_of S6 (own_inn (m := 22) (by omega) (by omega))
  have hat6 : cl6.slots[((Int32.ofNat fa)).toNatClampNeg]? = some (.int ca) := Has.at H6 hin6 (own_hget (by omega) hca)
  refine oo (fun _ => X5.caload hx (j := (Int32.ofNat fa)) (v := (.int ca)) (by rw [eh5]; exact Ar6.1) (State.isArrayOf_alike hZ.alike Ar6.2.1) Ar6.2.2 hin6 hat6 (g := (mkF m 35 #[vr x, vr bu, vn fa, vn ta, vn (ta - fa)] [(.int (Int32.ofNat fa)), (.ref bu), (.int ca)])) rfl rfl (hb hby d37_35) _) ?_
  have hb36_7 : ca = ca := rfl
  refine oi (XS.icmpNo X5.here hx rfl (hb hby d37_36) rfl (teq hb36_7).2) ?_
  refine oi (XS.aloadN X5.here hx rfl (hb hby d37_39) rfl rfl) ?_
  refine oi (XS.iload X5.here hx rfl (hb hby d37_40) rfl) ?_
  refine oi (XS.iconst X5.here hx rfl (hb hby d37_42)) ?_
  refine oi (XS.isub X5.here hx rfl (hb hby d37_43) rfl) ?_
  refine so (A := (T5.setTop (mkF m 44 #[vr x, vr bu, vn fa, vn ta, vn (ta - fa)] [(.int ((Int32.ofNat (ta - fa)) - (1 : Int32))), (.ref x)]))) ?_
  rw [own_m1 hge]
  refine so (A := (T5.setTop (mkF m 44 #[vr x, vr bu, vn fa, vn ta, vn (ta - fa)] [(.int (Int32.ofNat (ta - fa - 1))), (.ref x)]))) ?_
  obtain ⟨cq8, kq8, q8a, q8b, q8c⟩ := isOf hZ eh5 Ex_x
  obtain ⟨_, T8, Lc8, X8, hQ8, st8⟩ := own_c1 X5 <| X5.virtualBack hx (y := ym38) (z := ym38) hown (mvT hZ (hW 213 _ rfl)) (mvT hZ (hW 214 _ rfl)) (notFace_of_selects (args := #[]) (mvT hZ (hW 216 _ rfl))) (mvT hZ (hW 216 _ rfl)) (mvT hZ (hW 215 _ rfl)) (by decide) (backOf (W := 0) (rmCh l Z a0 hw [] x (own_sl cs fa ta) (ta - fa - 1) cb Gc fm h0 n0 XO0 Oc Pc Of hfm S_x hsb) hZ (hW 217 _ rfl) (hW 8 _ rfl) (by decide) (by decide)) q8a q8c (g := (mkF m 44 #[vr x, vr bu, vn fa, vn ta, vn (ta - fa)] [(.int (Int32.ofNat (ta - fa - 1))), (.ref x)])) rfl (by rw [hml]; rfl) (Steps.refl _) (argsL := [(.int (Int32.ofNat (ta - fa - 1)))]) (rest := []) (lenOf pd_33 rfl) rfl (Nat.le_of_eq rfl) (hb hby d37_44) (fun _ _ => ⟨rfl, eh5, (by decide : 0 + 0 ≤ _), (by decide : 0 + 0 ≤ _)⟩)
  obtain ⟨rfl, Nq8, eh8⟩ := hQ8
  have N8 := Fr.app N5 Nq8
  refine oo (fun tt_ kk_ => st8.trans kk_) ?_
  refine oi (XS.aloadN X8.here hx rfl (hb hby d37_47) rfl rfl) ?_
  refine oi (XS.iloadN X8.here hx rfl (hb hby d37_48) rfl) ?_
  refine oi (XS.iconst X8.here hx rfl (hb hby d37_49)) ?_
  refine oi (XS.isub X8.here hx rfl (hb hby d37_50) rfl) ?_
  refine so (A := (T8.setTop (mkF m 51 #[vr x, vr bu, vn fa, vn ta, vn (ta - fa)] [(.int ((Int32.ofNat ta) - (1 : Int32))), (.ref bu), (.int cb)]))) ?_
  rw [own_m1 (by omega : 1 ≤ ta)]
  refine so (A := (T8.setTop (mkF m 51 #[vr x, vr bu, vn fa, vn ta, vn (ta - fa)] [(.int (Int32.ofNat (ta - 1))), (.ref bu), (.int cb)]))) ?_
  obtain ⟨cl9, Ar9, q9, S9, Ng9, H9, G9⟩ := id V_b
  have hin9 : ¬ ((Int32.ofNat (ta - 1)) < 0 ∨ cl9.slots.size ≤ ((Int32.ofNat (ta - 1))).toNatClampNeg) := inb_of S9 (own_inn (m := 22) (by omega) (by omega))
  have hat9 : cl9.slots[((Int32.ofNat (ta - 1))).toNatClampNeg]? = some (.int cb) := Has.at H9 hin9 (own_hget (by omega) hcb)
  refine oo (fun _ => X8.caload hx (j := (Int32.ofNat (ta - 1))) (v := (.int cb)) (by rw [eh8]; exact Ar9.1) (State.isArrayOf_alike hZ.alike Ar9.2.1) Ar9.2.2 hin9 hat9 (g := (mkF m 51 #[vr x, vr bu, vn fa, vn ta, vn (ta - fa)] [(.int (Int32.ofNat (ta - 1))), (.ref bu), (.int cb)])) rfl rfl (hb hby d37_51) _) ?_
  have hb52_10 : cb = cb := rfl
  refine oi (XS.icmpYes X8.here hx rfl (pc0 := 52) (pc' := 57) rfl (hb hby d37_52) rfl (teq hb52_10).1 (by decide) (by decide)) ?_
  refine oi (XS.iload X8.here hx rfl (hb hby d37_57) rfl) ?_
  refine oi (XS.iconst X8.here hx rfl (hb hby d37_59)) ?_
  by_cases hb60_11 : (Int32.ofNat (ta - fa)) < (2 : Int32)
  ·refine oi (XS.icmpYes X8.here hx rfl (pc0 := 60) (pc' := 78) rfl (hb hby d37_60) rfl (tlt hb60_11).1 (by decide) (by decide)) ?_
   refine so (A := (T8.setTop (mkF m 78 #[vr x, vr bu, vn fa, vn ta, vn (ta - fa)] []))) ?_
   refine oi (XS.iconst X8.here hx rfl (hb hby d37_78)) ?_
   refine so (A := (T8.setTop (mkF m 79 #[vr x, vr bu, vn fa, vn ta, vn (ta - fa)] [(.int 1)]))) ?_
   refine own_ret X8 hx hlk hret rfl (Or.inl ⟨rfl, by simp, _, rfl⟩) (hb hby d37_79) (by decide) (by decide) ?_
   rw [eh8]
   exact ⟨rfl, N8, rfl⟩
  ·refine oi (XS.icmpNo X8.here hx rfl (hb hby d37_60) rfl (flt hb60_11).1) ?_
   refine so (A := (T8.setTop (mkF m 63 #[vr x, vr bu, vn fa, vn ta, vn (ta - fa)] []))) ?_
   have hge2 : 2 ≤ ta - fa := Nat.le_of_not_lt (fun u => hb60_11 ((own_nlt (b := 2) (by omega) (by omega)).mpr u))
   obtain ⟨cd, hcd⟩ : ∃ z, cs[fa + 1]? = some z := ⟨_, List.getElem?_eq_getElem (by omega)⟩
   have hsd : (own_sl cs fa ta)[1]? = some cd := by rw [own_sl_get (by omega)]; exact hcd
   refine oi (XS.aloadN X8.here hx rfl (hb hby d37_63) rfl rfl) ?_
   refine oi (XS.iconst X8.here hx rfl (hb hby d37_64)) ?_
   refine so (A := (T8.setTop (mkF m 65 #[vr x, vr bu, vn fa, vn ta, vn (ta - fa)] [(.int 1), (.ref x)]))) ?_
   obtain ⟨cq12, kq12, q12a, q12b, q12c⟩ := isOf hZ eh8 Ex_x
   obtain ⟨_, T12, Lc12, X12, hQ12, st12⟩ := own_c1 X8 <| X8.virtualBack hx (y := ym38) (z := ym38) hown (mvT hZ (hW 213 _ rfl)) (mvT hZ (hW 214 _ rfl)) (notFace_of_selects (args := #[]) (mvT hZ (hW 216 _ rfl))) (mvT hZ (hW 216 _ rfl)) (mvT hZ (hW 215 _ rfl)) (by decide) (backOf (W := 0) (rmCh l Z a0 hw [] x (own_sl cs fa ta) 1 cd Gc fm h0 n0 XO0 Oc Pc Of hfm S_x hsd) hZ (hW 217 _ rfl) (hW 8 _ rfl) (by decide) (by decide)) q12a q12c (g := (mkF m 65 #[vr x, vr bu, vn fa, vn ta, vn (ta - fa)] [(.int 1), (.ref x)])) rfl (by rw [hml]; rfl) (Steps.refl _) (argsL := [(.int 1)]) (rest := []) (lenOf pd_33 rfl) rfl (Nat.le_of_eq rfl) (hb hby d37_65) (fun _ _ => ⟨rfl, eh8, (by decide : 0 + 0 ≤ _), (by decide : 0 + 0 ≤ _)⟩)
   obtain ⟨rfl, Nq12, eh12⟩ := hQ12
   have N12 := Fr.app N8 Nq12
   refine oo (fun tt_ kk_ => st12.trans kk_) ?_
   refine oi (XS.aloadN X12.here hx rfl (hb hby d37_68) rfl rfl) ?_
   refine oi (XS.iloadN X12.here hx rfl (hb hby d37_69) rfl) ?_
   refine oi (XS.iconst X12.here hx rfl (hb hby d37_70)) ?_
   refine oi (XS.iadd X12.here hx rfl (hb hby d37_71) rfl) ?_
   refine so (A := (T12.setTop (mkF m 72 #[vr x, vr bu, vn fa, vn ta, vn (ta - fa)] [(.int ((Int32.ofNat fa) + (1 : Int32))), (.ref bu), (.int cd)]))) ?_
   rw [own_p1]
   refine so (A := (T12.setTop (mkF m 72 #[vr x, vr bu, vn fa, vn ta, vn (ta - fa)] [(.int (Int32.ofNat (fa + 1))), (.ref bu), (.int cd)]))) ?_
   obtain ⟨cl13, Ar13, q13, S13, Ng13, H13, G13⟩ := id V_b
   have hin13 : ¬ ((Int32.ofNat (fa + 1)) < 0 ∨ cl13.slots.size ≤ ((Int32.ofNat (fa + 1))).toNatClampNeg) := inb_of S13 (own_inn (m := 22) (by omega) (by omega))
   have hat13 : cl13.slots[((Int32.ofNat (fa + 1))).toNatClampNeg]? = some (.int cd) := Has.at H13 hin13 (own_hget (by omega) hcd)
   refine oo (fun _ => X12.caload hx (j := (Int32.ofNat (fa + 1))) (v := (.int cd)) (by rw [eh12]; exact Ar13.1) (State.isArrayOf_alike hZ.alike Ar13.2.1) Ar13.2.2 hin13 hat13 (g := (mkF m 72 #[vr x, vr bu, vn fa, vn ta, vn (ta - fa)] [(.int (Int32.ofNat (fa + 1))), (.ref bu), (.int cd)])) rfl rfl (hb hby d37_72) _) ?_
   have hb73_14 : cd = cd := rfl
   refine oi (XS.icmpYes X12.here hx rfl (pc0 := 73) (pc' := 78) rfl (hb hby d37_73) rfl (teq hb73_14).1 (by decide) (by decide)) ?_
   refine oi (XS.iconst X12.here hx rfl (hb hby d37_78)) ?_
   refine so (A := (T12.setTop (mkF m 79 #[vr x, vr bu, vn fa, vn ta, vn (ta - fa)] [(.int 1)]))) ?_
   refine own_ret X12 hx hlk hret rfl (Or.inl ⟨rfl, by simp, _, rfl⟩) (hb hby d37_79) (by decide) (by decide) ?_
   rw [eh12]
   exact ⟨rfl, N12, rfl⟩
theorem ef_rmFb (m : MethodId) (x0 : Nat) (x1 : Int32) (x2 : Nat) (x3 : Int32) (x4 : Int32) : entryFrame m #[(.ref x0), (.int x1), (.ref x2), (.int x3), (.int x4)] 5 = mkF m 0 #[vr x0, vi x1, vr x2, vi x3, vi x4] [] := by first | (simp [entryFrame, mkF, argsToLocals, Value.category]; done) | rfl
theorem d63_0 : dk cD63 0 (.iload_n 1) 1 := by decide +kernel
theorem d63_1 : dk cD63 1 (.ifCond .eq 12) 3 := by decide +kernel
theorem d63_4 : dk cD63 4 (.aload_n 0) 1 := by decide +kernel
theorem d63_5 : dk cD63 5 (.aload_n 2) 1 := by decide +kernel
theorem d63_6 : dk cD63 6 (.iload_n 3) 1 := by decide +kernel
theorem d63_7 : dk cD63 7 (.iload 4) 2 := by decide +kernel
theorem d63_9 : dk cD63 9 (.invokestatic 19) 3 := by decide +kernel
theorem pd_34 : parseMethodDescriptor "(Ljava/lang/String;[CII)Z" = some ⟨[(.object "java/lang/String"), (.array .char), .int, .int], some .boolean⟩ := by decide +kernel
theorem d63_12 : dk cD63 12 .ireturn 1 := by decide +kernel
def Q_rmFb (Z : State) (x : Nat) (bu : Nat) (ku : ClassId) (cs : List Int32) (fa : Nat) (ta : Nat) (Gc : Int32) (fm : Value) (hx_ : Int32) (h0 : Heap) (n0 : Nat) (v : Option Value) (h : Heap) (L : List Loc) : Prop := v = some (.int 1) ∧ Fr n0 L ∧ h = h0
theorem rmFb (l : Launch) (Z : State) (a0 : Array Value) (hw : own_H Z a0) (ws : List Jvm.Cond) (x : Nat) (bu : Nat) (ku : ClassId) (cs : List Int32) (fa : Nat) (ta : Nat) (Gc : Int32) (fm : Value) (hx_ : Int32) (h0 : Heap) (n0 : Nat) (XO0 : Old Z n0 h0) (Oc : Sta Z Z.heap "java/lang/String" "COMPACT_STRINGS" "Z" (.int Gc)) (Pc : ¬ (Gc = (0 : Int32))) (Of : Sta Z Z.heap "jdk/internal/util/Preconditions" "SIOOBE_FORMATTER" "Ljava/util/function/BiFunction;" fm) (hfm : fm.isRef = true) (S_x : own_sr Z h0 x (own_sl cs fa ta)) (V_b : Arv Z h0 bu ku .char (22 : Int32) (cs.map Value.int) (.int 0)) (hok : own_ok cs) (hab : fa ≤ ta) (htb : ta ≤ 22) (hh : ¬ hx_ = (0 : Int32)) :
  own_M l Z ym63 cD63 ws 5 (some .boolean) (own_R 5 0 0 69) #[(.ref x), (.int hx_), (.ref bu), (.int (Int32.ofNat fa)), (.int (Int32.ofNat ta))] h0 (Q_rmFb Z x bu ku cs fa ta Gc fm hx_ h0 n0) := by
 refine own_open (plainFor_of_name pn_9) ?_
 intro p e s m below meth c s₁ hx hby hlk hret hml hown hnm hZ X0 e0
 have hW := own_hW hw
 have N0 := Fr.nil n0
 refine oo (fun tt_ kk_ => castTop (ef_rmFb m x hx_ bu (Int32.ofNat fa) (Int32.ofNat ta)) kk_) ?_
 refine so (A := (s₁.setTop (mkF m 0 #[vr x, vi hx_, vr bu, vn fa, vn ta] []))) ?_
 refine oi (XS.iloadN X0.here hx rfl (hb hby d63_0) rfl) ?_
 have hb1_1 : ¬ (hx_ = (0 : Int32)) := hh
 refine oi (XS.ifNo X0.here hx rfl (hb hby d63_1) rfl ((if0 _ _).trans (feq hb1_1).1)) ?_
 refine so (A := (s₁.setTop (mkF m 4 #[vr x, vi hx_, vr bu, vn fa, vn ta] []))) ?_
 refine oi (XS.aloadN X0.here hx rfl (hb hby d63_4) rfl rfl) ?_
 refine oi (XS.aloadN X0.here hx rfl (hb hby d63_5) rfl rfl) ?_
 refine oi (XS.iloadN X0.here hx rfl (hb hby d63_6) rfl) ?_
 refine oi (XS.iload X0.here hx rfl (hb hby d63_7) rfl) ?_
 refine so (A := (s₁.setTop (mkF m 9 #[vr x, vi hx_, vr bu, vn fa, vn ta] [(.int (Int32.ofNat ta)), (.int (Int32.ofNat fa)), (.ref bu), (.ref x)]))) ?_
 obtain ⟨_, T2, Lc2, X2, hQ2, st2⟩ := own_c1 X0 <| Jvm.LawKit.callS X0 hx (y := ym37) hown (mvT hZ (hW 209 _ rfl)) (mvT hZ (hW 210 _ rfl)) (mvT hZ (hW 2 _ rfl)) (mvT hZ (hW 211 _ rfl)) (by decide) (backOf (W := 0) (rmPt l Z a0 hw [] x bu ku cs fa ta Gc fm h0 n0 XO0 Oc Pc Of hfm S_x V_b hok hab htb) hZ (hW 211 _ rfl) (hW 2 _ rfl) (by decide) (by decide)) (g := (mkF m 9 #[vr x, vi hx_, vr bu, vn fa, vn ta] [(.int (Int32.ofNat ta)), (.int (Int32.ofNat fa)), (.ref bu), (.ref x)])) rfl (by rw [hml]; rfl) (argsL := [(.ref x), (.ref bu), (.int (Int32.ofNat fa)), (.int (Int32.ofNat ta))]) (rest := []) (lenOf pd_34 rfl) rfl (Nat.le_of_eq rfl) (hb hby d63_9) (fun _ _ => ⟨rfl, e0, (by decide : 0 + 0 ≤ _), (by decide : 0 + 0 ≤ _)⟩)
 obtain ⟨rfl, Nq2, eh2⟩ := hQ2
 have N2 := Fr.app N0 Nq2
 refine oo st2 ?_
 refine so (A := (T2.setTop (mkF m 12 #[vr x, vi hx_, vr bu, vn fa, vn ta] [(.int 1)]))) ?_
 refine own_ret X2 hx hlk hret rfl (Or.inl ⟨rfl, by simp, _, rfl⟩) (hb hby d63_12) (by decide) (by decide) ?_
 rw [eh2]
 exact ⟨rfl, N2, rfl⟩
theorem ef_rmFn (m : MethodId) (x1 : Int32) (x2 : Nat) (x3 : Int32) (x4 : Int32) : entryFrame m #[.null, (.int x1), (.ref x2), (.int x3), (.int x4)] 5 = mkF m 0 #[.val .null, vi x1, vr x2, vi x3, vi x4] [] := by first | (simp [entryFrame, mkF, argsToLocals, Value.category]; done) | rfl
theorem d63_13 : dk cD63 13 (.aload_n 0) 1 := by decide +kernel
theorem d63_14 : dk cD63 14 (.ifnonnull 7) 3 := by decide +kernel
theorem d63_17 : dk cD63 17 (.iconst 1) 1 := by decide +kernel
theorem d63_18 : dk cD63 18 (.goto 4) 3 := by decide +kernel
theorem d63_22 : dk cD63 22 .ireturn 1 := by decide +kernel
def Q_rmFn (Z : State) (bu : Nat) (hx_ : Int32) (ia : Int32) (ib : Int32) (h0 : Heap) (n0 : Nat) (v : Option Value) (h : Heap) (L : List Loc) : Prop := v = some (.int 1) ∧ Fr n0 L ∧ h = h0
theorem rmFn (l : Launch) (Z : State) (a0 : Array Value) (hw : own_H Z a0) (ws : List Jvm.Cond) (bu : Nat) (hx_ : Int32) (ia : Int32) (ib : Int32) (h0 : Heap) (n0 : Nat) (XO0 : Old Z n0 h0) (hh : hx_ = (0 : Int32)) :
  own_M l Z ym63 cD63 ws 5 (some .boolean) (own_R 0 0 0 0) #[.null, (.int hx_), (.ref bu), (.int ia), (.int ib)] h0 (Q_rmFn Z bu hx_ ia ib h0 n0) := by
 refine own_open (plainFor_of_name pn_9) ?_
 intro p e s m below meth c s₁ hx hby hlk hret hml hown hnm hZ X0 e0
 have hW := own_hW hw
 have N0 := Fr.nil n0
 refine oo (fun tt_ kk_ => castTop (ef_rmFn m hx_ bu ia ib) kk_) ?_
 refine so (A := (s₁.setTop (mkF m 0 #[.val .null, vi hx_, vr bu, vi ia, vi ib] []))) ?_
 refine oi (XS.iloadN X0.here hx rfl (hb hby d63_0) rfl) ?_
 have hb1_1 : hx_ = (0 : Int32) := hh
 refine oi (XS.ifYes X0.here hx rfl (pc0 := 1) (pc' := 13) rfl (hb hby d63_1) rfl ((if0 _ _).trans (teq hb1_1).1) (by decide) (by decide)) ?_
 refine so (A := (s₁.setTop (mkF m 13 #[.val .null, vi hx_, vr bu, vi ia, vi ib] []))) ?_
 refine oi (XS.aloadN X0.here hx rfl (hb hby d63_13) rfl rfl) ?_
 refine oi (XS.ifnonnullNo X0.here hx rfl (hb hby d63_14) rfl) ?_
 refine oi (XS.iconst X0.here hx rfl (hb hby d63_17)) ?_
 refine oi (XS.goto X0.here hx rfl (pc0 := 18) (pc' := 22) rfl (hb hby d63_18) (by decide) (by decide)) ?_
 refine so (A := (s₁.setTop (mkF m 22 #[.val .null, vi hx_, vr bu, vi ia, vi ib] [(.int 1)]))) ?_
 refine own_ret X0 hx hlk hret rfl (Or.inl ⟨rfl, by simp, _, rfl⟩) (hb hby d63_22) (by decide) (by decide) ?_
 rw [e0]
 exact ⟨rfl, N0, rfl⟩
theorem ef_rm0 (m : MethodId) (x0 : Int64) (x1 : Int64) (x2 : Int32) : entryFrame m #[(.long x0), (.long x1), (.int x2)] maxLocals = mkF m 0 #[.val (.long x0), .second, .val (.long x1), .second, vi x2, uu, uu, uu, uu, uu, uu, uu, uu, uu, uu, uu, uu, uu, uu, uu, uu, uu, uu, uu, uu, uu, uu, uu, uu, uu, uu, uu] [] := by first | (simp [entryFrame, mkF, argsToLocals, Value.category, maxLocals]; done) | rfl
theorem pd_35 : parseMethodDescriptor "(J)C" = some ⟨[.long], some .char⟩ := by decide +kernel
theorem pd_36 : parseMethodDescriptor "([C)V" = some ⟨[(.array .char)], none⟩ := by decide +kernel
theorem pd_37 : parseMethodDescriptor "(Ljava/lang/String;)Lcom/example/assemble/assemble/SettingText;" = some ⟨[(.object "java/lang/String")], some (.object "com/example/assemble/assemble/SettingText")⟩ := by decide +kernel
theorem pd_38 : parseMethodDescriptor "(Ljava/lang/String;Z[CII)Z" = some ⟨[(.object "java/lang/String"), .boolean, (.array .char), .int, .int], some .boolean⟩ := by decide +kernel
def Q_rm0 (Z : State) (pa : Int64) (pb : Int64) (pi : Int32) (dq : Nat) (kd : ClassId) (Gc : Int32) (fm : Value) (h0 : Heap) (n0 : Nat) (v : Option Value) (h : Heap) (L : List Loc) : Prop := v = some (.int 1) ∧ Fr n0 L
theorem rm0 (l : Launch) (Z : State) (a0 : Array Value) (hw : ∀ d ∈ tables_1, d.before a0 Z = true) (ws : List Jvm.Cond) (pa : Int64) (pb : Int64) (pi : Int32) (dq : Nat) (kd : ClassId) (Gc : Int32) (fm : Value) (h0 : Heap) (n0 : Nat) (hEL : EW Z a0 own_EL) (XO0 : Old Z n0 h0) (Oc : Sta Z Z.heap "java/lang/String" "COMPACT_STRINGS" "Z" (.int Gc)) (Pc : ¬ (Gc = (0 : Int32))) (Of : Sta Z Z.heap "jdk/internal/util/Preconditions" "SIOOBE_FORMATTER" "Ljava/util/function/BiFunction;" fm) (hfm : fm.isRef = true) (S_d : Sta Z Z.heap "java/util/ArrayList" "DEFAULTCAPACITY_EMPTY_ELEMENTDATA" "[Ljava/lang/Object;" (.ref dq)) (V_d : Arv Z Z.heap dq kd (.object "java/lang/Object") (0 : Int32) [] .null) (E_d : Exa Z Z.heap dq "[Ljava/lang/Object;") (l_d : dq < n0) :
  MetFree l x (head1 (Jvm.Cond.code x code maxLocals ret :: ws) room_1) (fun zz_ U => zz_ = #[(.long pa), (.long pb), (.int pi)] ∧ Z.Warmed39 U.vm ∧ U.heap = h0 ∧ CHv Z own_EL U.vm h0) (fun _ _ _ _ _ => True) (fun _ U o U' => ∃ v L, o = .returned v ∧ Q_rm0 Z pa pb pi dq kd Gc fm h0 n0 v U'.heap L ∧ CHr Z own_EL U.vm U.heap U'.vm U'.heap ∧ ReturnedEndW U o U' L room_1.cells room_1.slots) := by
 refine MetFree.of_bodySF (plainFor_of_name pn_9) hisR ?_
 intro p e s m args below meth c s₁ Bd hml0 hP hK
 obtain ⟨rfl, hZ, hh, hCH⟩ := hP
 have hx := Bd.exec
 have hby := Bd.bytes
 have hlk := Bd.notSynchronized
 have hW : ∀ (i : Nat) (d : Jvm.Cond), tables_1[i]? = some d → d.before a0 Z = true := fun i d h => hw d (List.mem_of_getElem? h)
 have hml : c.maxLocals = 32 := hml0
 have hown : s.vm.findClass "com/example/assemble/assemble/SettingTextParsePinLaw" = some m.cls := findClass_of_methodNamed Bd.named
 have hnm := (name_of_methodNamed Bd.named Bd.method).1
 have X0 : Stand p l e room_1 (s.setVm s.vm) m #[(.long pa), (.long pb), (.int pi)] below meth c s₁ [] 0 0 := Stand.of_body Bd
 have e0 : s₁.heap = h0 := by rw [← hh, Bd.state]; rfl
 have N0 := Fr.nil n0
 have hS0 : s.Since s.vm 0 := (State.WarmedH.refl s).since 0
 have CH0 : CHr Z own_EL s.vm s.heap s.vm h0 := by rw [hh]; exact CHr.refl hCH
 refine own_inc ?_
 refine oc (fun tt_ kk_ => castTop (ef_rm0 m pa pb pi) kk_) ?_
 refine sc (A := (s₁.setTop (mkF m 0 #[.val (.long pa), .second, .val (.long pb), .second, vi pi, uu, uu, uu, uu, uu, uu, uu, uu, uu, uu, uu, uu, uu, uu, uu, uu, uu, uu, uu, uu, uu, uu, uu, uu, uu, uu, uu] []))) ?_
 have wS : ∀ a ∈ Bundle.stringAtoms, a.before a0 Z = true := fun d hd => hw d ((by decide +kernel : ∀ d ∈ Bundle.stringAtoms, d ∈ tables_1) d hd)
 have hws : ∀ d ∈ StrChars.Road.words, d.before a0 Z = true := fun d hd => hw d ((by decide +kernel : ∀ d ∈ StrChars.Road.words, d ∈ tables_1) d hd)
 refine ci (XS.lloadN X0.here hx rfl (hb hby at_0) rfl) ?_
 refine ci (XS.bipush X0.here hx rfl (hb hby at_1)) ?_
 refine ci (XS.lushr X0.here hx rfl (hb hby at_3) rfl) ?_
 refine sc (A := (s₁.setTop (mkF m 4 #[.val (.long pa), .second, .val (.long pb), .second, vi pi, uu, uu, uu, uu, uu, uu, uu, uu, uu, uu, uu, uu, uu, uu, uu, uu, uu, uu, uu, uu, uu, uu, uu, uu, uu, uu, uu] [(.long ((pa.toUInt64 >>> ((32 : Int32) &&& 0x3f).toInt64.toUInt64).toInt64))]))) ?_
 obtain ⟨_, T1, Lc1, X1, hQ1, st1⟩ := own_c1 X0 <| Jvm.LawKit.callS X0 hx (y := ym1) hown (mvT hZ (hW 0 _ rfl)) (mvT hZ (hW 1 _ rfl)) (mvT hZ (hW 2 _ rfl)) (mvT hZ (hW 3 _ rfl)) (by decide) (backOf (W := 0) (rm_lit l Z a0 hw [] ((pa.toUInt64 >>> ((32 : Int32) &&& 0x3f).toInt64.toUInt64).toInt64) h0 n0 XO0 ) hZ (hW 3 _ rfl) (hW 2 _ rfl) (by decide) (by decide)) (g := (mkF m 4 #[.val (.long pa), .second, .val (.long pb), .second, vi pi, uu, uu, uu, uu, uu, uu, uu, uu, uu, uu, uu, uu, uu, uu, uu, uu, uu, uu, uu, uu, uu, uu, uu, uu, uu, uu, uu] [(.long ((pa.toUInt64 >>> ((32 : Int32) &&& 0x3f).toInt64.toUInt64).toInt64))])) rfl (by rw [hml]; rfl) (argsL := [(.long ((pa.toUInt64 >>> ((32 : Int32) &&& 0x3f).toInt64.toUInt64).toInt64))]) (rest := []) (lenOf pd_35 rfl) rfl (Nat.le_of_eq rfl) (hb hby at_4) (fun _ _ => ⟨rfl, e0, (by decide : 0 + 0 ≤ _), (by decide : 0 + 0 ≤ _)⟩)
 obtain ⟨cv1, rfl, hv1, hn1, Nq1, eh1⟩ := hQ1
 have N1 := Fr.app N0 Nq1
 refine oc st1 ?_
 refine ci (XS.istore X1.here hx rfl (hb hby at_7) rfl (l' := #[.val (.long pa), .second, .val (.long pb), .second, vi pi, vi cv1, uu, uu, uu, uu, uu, uu, uu, uu, uu, uu, uu, uu, uu, uu, uu, uu, uu, uu, uu, uu, uu, uu, uu, uu, uu, uu]) rfl) ?_
 refine ci (XS.lloadN X1.here hx rfl (hb hby at_9) rfl) ?_
 refine ci (XS.bipush X1.here hx rfl (hb hby at_10)) ?_
 refine ci (XS.lushr X1.here hx rfl (hb hby at_12) rfl) ?_
 refine sc (A := (T1.setTop (mkF m 13 #[.val (.long pa), .second, .val (.long pb), .second, vi pi, vi cv1, uu, uu, uu, uu, uu, uu, uu, uu, uu, uu, uu, uu, uu, uu, uu, uu, uu, uu, uu, uu, uu, uu, uu, uu, uu, uu] [(.long ((pa.toUInt64 >>> ((40 : Int32) &&& 0x3f).toInt64.toUInt64).toInt64))]))) ?_
 obtain ⟨_, T2, Lc2, X2, hQ2, st2⟩ := own_c1 X1 <| Jvm.LawKit.callS X1 hx (y := ym1) hown (mvT hZ (hW 0 _ rfl)) (mvT hZ (hW 1 _ rfl)) (mvT hZ (hW 2 _ rfl)) (mvT hZ (hW 3 _ rfl)) (by decide) (backOf (W := 0) (rm_lit l Z a0 hw [] ((pa.toUInt64 >>> ((40 : Int32) &&& 0x3f).toInt64.toUInt64).toInt64) h0 n0 XO0 ) hZ (hW 3 _ rfl) (hW 2 _ rfl) (by decide) (by decide)) (g := (mkF m 13 #[.val (.long pa), .second, .val (.long pb), .second, vi pi, vi cv1, uu, uu, uu, uu, uu, uu, uu, uu, uu, uu, uu, uu, uu, uu, uu, uu, uu, uu, uu, uu, uu, uu, uu, uu, uu, uu] [(.long ((pa.toUInt64 >>> ((40 : Int32) &&& 0x3f).toInt64.toUInt64).toInt64))])) rfl (by rw [hml]; rfl) (argsL := [(.long ((pa.toUInt64 >>> ((40 : Int32) &&& 0x3f).toInt64.toUInt64).toInt64))]) (rest := []) (lenOf pd_35 rfl) rfl (Nat.le_of_eq rfl) (hb hby at_13) (fun _ _ => ⟨rfl, eh1, (by decide : 0 + 0 ≤ _), (by decide : 0 + 0 ≤ _)⟩)
 obtain ⟨cv2, rfl, hv2, hn2, Nq2, eh2⟩ := hQ2
 have N2 := Fr.app N1 Nq2
 refine oc st2 ?_
 refine ci (XS.istore X2.here hx rfl (hb hby at_16) rfl (l' := #[.val (.long pa), .second, .val (.long pb), .second, vi pi, vi cv1, vi cv2, uu, uu, uu, uu, uu, uu, uu, uu, uu, uu, uu, uu, uu, uu, uu, uu, uu, uu, uu, uu, uu, uu, uu, uu, uu]) rfl) ?_
 refine ci (XS.bipush X2.here hx rfl (hb hby at_18)) ?_
 obtain ⟨T3, h3, k3, X3, e3, E3, A3, st3⟩ := newP X2 hx hZ (hW 5 _ rfl) eh2 (g := (mkF m 20 #[.val (.long pa), .second, .val (.long pb), .second, vi pi, vi cv1, vi cv2, uu, uu, uu, uu, uu, uu, uu, uu, uu, uu, uu, uu, uu, uu, uu, uu, uu, uu, uu, uu, uu, uu, uu, uu, uu] [(.int 22)])) rfl (hb hby at_20) rfl (by decide) (cap := 22) (by decide) (by decide) (by decide) (by decide)
 obtain ⟨b3, g3⟩ : ∃ z, z = h0.size := ⟨_, rfl⟩
 rw [← g3] at A3 st3
 refine oc st3 ?_
 have lt3 := olt A3.lt
 have sz3 : h0.size ≤ h3.size := E3.1
 have O3 : Old Z n0 h3 := XO0.ext E3
 have z3 : n0 ≤ b3 := by have := XO0.1 ▸ XO0.2.1; omega
 have CHs3 := CHr.ext E3 CH0.1
 have Sf3 := Safe.ext E3 CH0.1 (Safe.new (Nat.le_of_eq g3.symm))
 have CH3 := CH0.trans CHs3
 have V3 : Arv Z h3 b3 k3 .char (22 : Int32) [(.int 0), (.int 0), (.int 0), (.int 0), (.int 0), (.int 0), (.int 0), (.int 0), (.int 0), (.int 0), (.int 0), (.int 0), (.int 0), (.int 0), (.int 0), (.int 0), (.int 0), (.int 0), (.int 0), (.int 0), (.int 0), (.int 0)] (.int 0) := (Arv.new A3 (by decide)).pad (pad_rep [] (.int 0) 22)
 refine ci (XS.dup X3.here hx rfl (hb hby at_22) rfl rfl) ?_
 refine ci (XS.iconst X3.here hx rfl (hb hby at_23)) ?_
 refine ci (XS.iload X3.here hx rfl (hb hby at_24) rfl) ?_
 obtain ⟨cl4, Ar4, q4, S4, Ng4, H4, G4⟩ := V3
 obtain ⟨T4, h4, X4, e4, W4, st4⟩ := stC X3 hx hZ e3 Ar4 (j := (0 : Int32)) (inb_of S4 ⟨by decide, by decide⟩) (g := (mkF m 26 #[.val (.long pa), .second, .val (.long pb), .second, vi pi, vi cv1, vi cv2, uu, uu, uu, uu, uu, uu, uu, uu, uu, uu, uu, uu, uu, uu, uu, uu, uu, uu, uu, uu, uu, uu, uu, uu, uu] [(.int cv1), (.int 0), (.ref b3), (.ref b3)])) rfl rfl (hb hby at_26)
 have V4 : Arv Z h4 b3 k3 .char (22 : Int32) [(.int (nar .char cv1)), (.int 0), (.int 0), (.int 0), (.int 0), (.int 0), (.int 0), (.int 0), (.int 0), (.int 0), (.int 0), (.int 0), (.int 0), (.int 0), (.int 0), (.int 0), (.int 0), (.int 0), (.int 0), (.int 0), (.int 0), (.int 0)] (.int 0) := Arv.set Ar4 q4 S4 Ng4 H4 G4 (fits_nar_char _) W4 0 rfl (Nat.le_of_ble_eq_true rfl)
 rw [own_nar hv1] at V4
 refine oc st4 ?_
 have CHs4 := CHr.wr W4 Sf3 CH3.1
 have CH4 := CH3.trans CHs4
 have N4 := Fr.snoc X4 N2 (by omega : n0 ≤ b3)
 have sz4 : h4.size = h3.size := W4.size
 have O4 : Old Z n0 h4 := O3.wr W4 (by omega)
 refine ci (XS.dup X4.here hx rfl (hb hby at_27) rfl rfl) ?_
 refine ci (XS.iconst X4.here hx rfl (hb hby at_28)) ?_
 refine ci (XS.iload X4.here hx rfl (hb hby at_29) rfl) ?_
 obtain ⟨cl5, Ar5, q5, S5, Ng5, H5, G5⟩ := V4
 obtain ⟨T5, h5, X5, e5, W5, st5⟩ := stC X4 hx hZ e4 Ar5 (j := (1 : Int32)) (inb_of S5 ⟨by decide, by decide⟩) (g := (mkF m 31 #[.val (.long pa), .second, .val (.long pb), .second, vi pi, vi cv1, vi cv2, uu, uu, uu, uu, uu, uu, uu, uu, uu, uu, uu, uu, uu, uu, uu, uu, uu, uu, uu, uu, uu, uu, uu, uu, uu] [(.int cv2), (.int 1), (.ref b3), (.ref b3)])) rfl rfl (hb hby at_31)
 have V5 : Arv Z h5 b3 k3 .char (22 : Int32) [(.int cv1), (.int (nar .char cv2)), (.int 0), (.int 0), (.int 0), (.int 0), (.int 0), (.int 0), (.int 0), (.int 0), (.int 0), (.int 0), (.int 0), (.int 0), (.int 0), (.int 0), (.int 0), (.int 0), (.int 0), (.int 0), (.int 0), (.int 0)] (.int 0) := Arv.set Ar5 q5 S5 Ng5 H5 G5 (fits_nar_char _) W5 1 rfl (Nat.le_of_ble_eq_true rfl)
 rw [own_nar hv2] at V5
 refine oc st5 ?_
 have f6 := (CHs4.safe (olt (by omega)) Sf3)
 have CHs5 := CHr.wr W5 f6 CH4.1
 have CH5 := CH4.trans CHs5
 have N5 := Fr.snoc X5 N4 (by omega : n0 ≤ b3)
 have sz5 : h5.size = h4.size := W5.size
 have O5 : Old Z n0 h5 := O4.wr W5 (by omega)
 refine ci (XS.dup X5.here hx rfl (hb hby at_32) rfl rfl) ?_
 refine ci (XS.iconst X5.here hx rfl (hb hby at_33)) ?_
 refine ci (XS.iload X5.here hx rfl (hb hby at_34) rfl) ?_
 obtain ⟨cl7, Ar7, q7, S7, Ng7, H7, G7⟩ := V5
 obtain ⟨T7, h7, X7, e7, W7, st7⟩ := stC X5 hx hZ e5 Ar7 (j := (2 : Int32)) (inb_of S7 ⟨by decide, by decide⟩) (g := (mkF m 36 #[.val (.long pa), .second, .val (.long pb), .second, vi pi, vi cv1, vi cv2, uu, uu, uu, uu, uu, uu, uu, uu, uu, uu, uu, uu, uu, uu, uu, uu, uu, uu, uu, uu, uu, uu, uu, uu, uu] [(.int cv1), (.int 2), (.ref b3), (.ref b3)])) rfl rfl (hb hby at_36)
 have V7 : Arv Z h7 b3 k3 .char (22 : Int32) [(.int cv1), (.int cv2), (.int (nar .char cv1)), (.int 0), (.int 0), (.int 0), (.int 0), (.int 0), (.int 0), (.int 0), (.int 0), (.int 0), (.int 0), (.int 0), (.int 0), (.int 0), (.int 0), (.int 0), (.int 0), (.int 0), (.int 0), (.int 0)] (.int 0) := Arv.set Ar7 q7 S7 Ng7 H7 G7 (fits_nar_char _) W7 2 rfl (Nat.le_of_ble_eq_true rfl)
 rw [own_nar hv1] at V7
 refine oc st7 ?_
 have f8 := (CHs5.safe (olt (by omega)) f6)
 have CHs7 := CHr.wr W7 f8 CH5.1
 have CH7 := CH5.trans CHs7
 have N7 := Fr.snoc X7 N5 (by omega : n0 ≤ b3)
 have sz7 : h7.size = h5.size := W7.size
 have O7 : Old Z n0 h7 := O5.wr W7 (by omega)
 refine sc (A := (T7.setTop (mkF m 37 #[.val (.long pa), .second, .val (.long pb), .second, vi pi, vi cv1, vi cv2, uu, uu, uu, uu, uu, uu, uu, uu, uu, uu, uu, uu, uu, uu, uu, uu, uu, uu, uu, uu, uu, uu, uu, uu, uu] [(.ref b3)]))) ?_
 refine ci (XS.dup X7.here hx rfl (hb hby at_37) rfl rfl) ?_
 refine ci (XS.iconst X7.here hx rfl (hb hby at_38)) ?_
 refine ci (XS.iload X7.here hx rfl (hb hby at_39) rfl) ?_
 obtain ⟨cl9, Ar9, q9, S9, Ng9, H9, G9⟩ := V7
 obtain ⟨T9, h9, X9, e9, W9, st9⟩ := stC X7 hx hZ e7 Ar9 (j := (3 : Int32)) (inb_of S9 ⟨by decide, by decide⟩) (g := (mkF m 41 #[.val (.long pa), .second, .val (.long pb), .second, vi pi, vi cv1, vi cv2, uu, uu, uu, uu, uu, uu, uu, uu, uu, uu, uu, uu, uu, uu, uu, uu, uu, uu, uu, uu, uu, uu, uu, uu, uu] [(.int cv2), (.int 3), (.ref b3), (.ref b3)])) rfl rfl (hb hby at_41)
 have V9 : Arv Z h9 b3 k3 .char (22 : Int32) [(.int cv1), (.int cv2), (.int cv1), (.int (nar .char cv2)), (.int 0), (.int 0), (.int 0), (.int 0), (.int 0), (.int 0), (.int 0), (.int 0), (.int 0), (.int 0), (.int 0), (.int 0), (.int 0), (.int 0), (.int 0), (.int 0), (.int 0), (.int 0)] (.int 0) := Arv.set Ar9 q9 S9 Ng9 H9 G9 (fits_nar_char _) W9 3 rfl (Nat.le_of_ble_eq_true rfl)
 rw [own_nar hv2] at V9
 refine oc st9 ?_
 have f10 := (CHs7.safe (olt (by omega)) f8)
 have CHs9 := CHr.wr W9 f10 CH7.1
 have CH9 := CH7.trans CHs9
 have N9 := Fr.snoc X9 N7 (by omega : n0 ≤ b3)
 have sz9 : h9.size = h7.size := W9.size
 have O9 : Old Z n0 h9 := O7.wr W9 (by omega)
 refine ci (XS.dup X9.here hx rfl (hb hby at_42) rfl rfl) ?_
 refine ci (XS.iconst X9.here hx rfl (hb hby at_43)) ?_
 refine ci (XS.iload X9.here hx rfl (hb hby at_44) rfl) ?_
 obtain ⟨cl11, Ar11, q11, S11, Ng11, H11, G11⟩ := V9
 obtain ⟨T11, h11, X11, e11, W11, st11⟩ := stC X9 hx hZ e9 Ar11 (j := (4 : Int32)) (inb_of S11 ⟨by decide, by decide⟩) (g := (mkF m 46 #[.val (.long pa), .second, .val (.long pb), .second, vi pi, vi cv1, vi cv2, uu, uu, uu, uu, uu, uu, uu, uu, uu, uu, uu, uu, uu, uu, uu, uu, uu, uu, uu, uu, uu, uu, uu, uu, uu] [(.int cv1), (.int 4), (.ref b3), (.ref b3)])) rfl rfl (hb hby at_46)
 have V11 : Arv Z h11 b3 k3 .char (22 : Int32) [(.int cv1), (.int cv2), (.int cv1), (.int cv2), (.int (nar .char cv1)), (.int 0), (.int 0), (.int 0), (.int 0), (.int 0), (.int 0), (.int 0), (.int 0), (.int 0), (.int 0), (.int 0), (.int 0), (.int 0), (.int 0), (.int 0), (.int 0), (.int 0)] (.int 0) := Arv.set Ar11 q11 S11 Ng11 H11 G11 (fits_nar_char _) W11 4 rfl (Nat.le_of_ble_eq_true rfl)
 rw [own_nar hv1] at V11
 refine oc st11 ?_
 have f12 := (CHs9.safe (olt (by omega)) f10)
 have CHs11 := CHr.wr W11 f12 CH9.1
 have CH11 := CH9.trans CHs11
 have N11 := Fr.snoc X11 N9 (by omega : n0 ≤ b3)
 have sz11 : h11.size = h9.size := W11.size
 have O11 : Old Z n0 h11 := O9.wr W11 (by omega)
 refine ci (XS.dup X11.here hx rfl (hb hby at_47) rfl rfl) ?_
 refine ci (XS.iconst X11.here hx rfl (hb hby at_48)) ?_
 refine ci (XS.iload X11.here hx rfl (hb hby at_49) rfl) ?_
 obtain ⟨cl13, Ar13, q13, S13, Ng13, H13, G13⟩ := V11
 obtain ⟨T13, h13, X13, e13, W13, st13⟩ := stC X11 hx hZ e11 Ar13 (j := (5 : Int32)) (inb_of S13 ⟨by decide, by decide⟩) (g := (mkF m 51 #[.val (.long pa), .second, .val (.long pb), .second, vi pi, vi cv1, vi cv2, uu, uu, uu, uu, uu, uu, uu, uu, uu, uu, uu, uu, uu, uu, uu, uu, uu, uu, uu, uu, uu, uu, uu, uu, uu] [(.int cv2), (.int 5), (.ref b3), (.ref b3)])) rfl rfl (hb hby at_51)
 have V13 : Arv Z h13 b3 k3 .char (22 : Int32) [(.int cv1), (.int cv2), (.int cv1), (.int cv2), (.int cv1), (.int (nar .char cv2)), (.int 0), (.int 0), (.int 0), (.int 0), (.int 0), (.int 0), (.int 0), (.int 0), (.int 0), (.int 0), (.int 0), (.int 0), (.int 0), (.int 0), (.int 0), (.int 0)] (.int 0) := Arv.set Ar13 q13 S13 Ng13 H13 G13 (fits_nar_char _) W13 5 rfl (Nat.le_of_ble_eq_true rfl)
 rw [own_nar hv2] at V13
 refine oc st13 ?_
 have f14 := (CHs11.safe (olt (by omega)) f12)
 have CHs13 := CHr.wr W13 f14 CH11.1
 have CH13 := CH11.trans CHs13
 have N13 := Fr.snoc X13 N11 (by omega : n0 ≤ b3)
 have sz13 : h13.size = h11.size := W13.size
 have O13 : Old Z n0 h13 := O11.wr W13 (by omega)
 refine ci (XS.dup X13.here hx rfl (hb hby at_52) rfl rfl) ?_
 refine ci (XS.bipush X13.here hx rfl (hb hby at_53)) ?_
 refine ci (XS.iload X13.here hx rfl (hb hby at_55) rfl) ?_
 obtain ⟨cl15, Ar15, q15, S15, Ng15, H15, G15⟩ := V13
 obtain ⟨T15, h15, X15, e15, W15, st15⟩ := stC X13 hx hZ e13 Ar15 (j := (6 : Int32)) (inb_of S15 ⟨by decide, by decide⟩) (g := (mkF m 57 #[.val (.long pa), .second, .val (.long pb), .second, vi pi, vi cv1, vi cv2, uu, uu, uu, uu, uu, uu, uu, uu, uu, uu, uu, uu, uu, uu, uu, uu, uu, uu, uu, uu, uu, uu, uu, uu, uu] [(.int cv1), (.int 6), (.ref b3), (.ref b3)])) rfl rfl (hb hby at_57)
 have V15 : Arv Z h15 b3 k3 .char (22 : Int32) [(.int cv1), (.int cv2), (.int cv1), (.int cv2), (.int cv1), (.int cv2), (.int (nar .char cv1)), (.int 0), (.int 0), (.int 0), (.int 0), (.int 0), (.int 0), (.int 0), (.int 0), (.int 0), (.int 0), (.int 0), (.int 0), (.int 0), (.int 0), (.int 0)] (.int 0) := Arv.set Ar15 q15 S15 Ng15 H15 G15 (fits_nar_char _) W15 6 rfl (Nat.le_of_ble_eq_true rfl)
 rw [own_nar hv1] at V15
 refine oc st15 ?_
 have f16 := (CHs13.safe (olt (by omega)) f14)
 have CHs15 := CHr.wr W15 f16 CH13.1
 have CH15 := CH13.trans CHs15
 have N15 := Fr.snoc X15 N13 (by omega : n0 ≤ b3)
 have sz15 : h15.size = h13.size := W15.size
 have O15 : Old Z n0 h15 := O13.wr W15 (by omega)
 refine sc (A := (T15.setTop (mkF m 58 #[.val (.long pa), .second, .val (.long pb), .second, vi pi, vi cv1, vi cv2, uu, uu, uu, uu, uu, uu, uu, uu, uu, uu, uu, uu, uu, uu, uu, uu, uu, uu, uu, uu, uu, uu, uu, uu, uu] [(.ref b3)]))) ?_
 refine ci (XS.dup X15.here hx rfl (hb hby at_58) rfl rfl) ?_
 refine ci (XS.bipush X15.here hx rfl (hb hby at_59)) ?_
 refine ci (XS.iload X15.here hx rfl (hb hby at_61) rfl) ?_
 obtain ⟨cl17, Ar17, q17, S17, Ng17, H17, G17⟩ := V15
 obtain ⟨T17, h17, X17, e17, W17, st17⟩ := stC X15 hx hZ e15 Ar17 (j := (7 : Int32)) (inb_of S17 ⟨by decide, by decide⟩) (g := (mkF m 63 #[.val (.long pa), .second, .val (.long pb), .second, vi pi, vi cv1, vi cv2, uu, uu, uu, uu, uu, uu, uu, uu, uu, uu, uu, uu, uu, uu, uu, uu, uu, uu, uu, uu, uu, uu, uu, uu, uu] [(.int cv2), (.int 7), (.ref b3), (.ref b3)])) rfl rfl (hb hby at_63)
 have V17 : Arv Z h17 b3 k3 .char (22 : Int32) [(.int cv1), (.int cv2), (.int cv1), (.int cv2), (.int cv1), (.int cv2), (.int cv1), (.int (nar .char cv2)), (.int 0), (.int 0), (.int 0), (.int 0), (.int 0), (.int 0), (.int 0), (.int 0), (.int 0), (.int 0), (.int 0), (.int 0), (.int 0), (.int 0)] (.int 0) := Arv.set Ar17 q17 S17 Ng17 H17 G17 (fits_nar_char _) W17 7 rfl (Nat.le_of_ble_eq_true rfl)
 rw [own_nar hv2] at V17
 refine oc st17 ?_
 have f18 := (CHs15.safe (olt (by omega)) f16)
 have CHs17 := CHr.wr W17 f18 CH15.1
 have CH17 := CH15.trans CHs17
 have N17 := Fr.snoc X17 N15 (by omega : n0 ≤ b3)
 have sz17 : h17.size = h15.size := W17.size
 have O17 : Old Z n0 h17 := O15.wr W17 (by omega)
 refine ci (XS.dup X17.here hx rfl (hb hby at_64) rfl rfl) ?_
 refine ci (XS.bipush X17.here hx rfl (hb hby at_65)) ?_
 refine ci (XS.iload X17.here hx rfl (hb hby at_67) rfl) ?_
 obtain ⟨cl19, Ar19, q19, S19, Ng19, H19, G19⟩ := V17
 obtain ⟨T19, h19, X19, e19, W19, st19⟩ := stC X17 hx hZ e17 Ar19 (j := (8 : Int32)) (inb_of S19 ⟨by decide, by decide⟩) (g := (mkF m 69 #[.val (.long pa), .second, .val (.long pb), .second, vi pi, vi cv1, vi cv2, uu, uu, uu, uu, uu, uu, uu, uu, uu, uu, uu, uu, uu, uu, uu, uu, uu, uu, uu, uu, uu, uu, uu, uu, uu] [(.int cv1), (.int 8), (.ref b3), (.ref b3)])) rfl rfl (hb hby at_69)
 have V19 : Arv Z h19 b3 k3 .char (22 : Int32) [(.int cv1), (.int cv2), (.int cv1), (.int cv2), (.int cv1), (.int cv2), (.int cv1), (.int cv2), (.int (nar .char cv1)), (.int 0), (.int 0), (.int 0), (.int 0), (.int 0), (.int 0), (.int 0), (.int 0), (.int 0), (.int 0), (.int 0), (.int 0), (.int 0)] (.int 0) := Arv.set Ar19 q19 S19 Ng19 H19 G19 (fits_nar_char _) W19 8 rfl (Nat.le_of_ble_eq_true rfl)
 rw [own_nar hv1] at V19
 refine oc st19 ?_
 have f20 := (CHs17.safe (olt (by omega)) f18)
 have CHs19 := CHr.wr W19 f20 CH17.1
 have CH19 := CH17.trans CHs19
 have N19 := Fr.snoc X19 N17 (by omega : n0 ≤ b3)
 have sz19 : h19.size = h17.size := W19.size
 have O19 : Old Z n0 h19 := O17.wr W19 (by omega)
 refine ci (XS.dup X19.here hx rfl (hb hby at_70) rfl rfl) ?_
 refine ci (XS.bipush X19.here hx rfl (hb hby at_71)) ?_
 refine ci (XS.iload X19.here hx rfl (hb hby at_73) rfl) ?_
 obtain ⟨cl21, Ar21, q21, S21, Ng21, H21, G21⟩ := V19
 obtain ⟨T21, h21, X21, e21, W21, st21⟩ := stC X19 hx hZ e19 Ar21 (j := (9 : Int32)) (inb_of S21 ⟨by decide, by decide⟩) (g := (mkF m 75 #[.val (.long pa), .second, .val (.long pb), .second, vi pi, vi cv1, vi cv2, uu, uu, uu, uu, uu, uu, uu, uu, uu, uu, uu, uu, uu, uu, uu, uu, uu, uu, uu, uu, uu, uu, uu, uu, uu] [(.int cv2), (.int 9), (.ref b3), (.ref b3)])) rfl rfl (hb hby at_75)
 have V21 : Arv Z h21 b3 k3 .char (22 : Int32) [(.int cv1), (.int cv2), (.int cv1), (.int cv2), (.int cv1), (.int cv2), (.int cv1), (.int cv2), (.int cv1), (.int (nar .char cv2)), (.int 0), (.int 0), (.int 0), (.int 0), (.int 0), (.int 0), (.int 0), (.int 0), (.int 0), (.int 0), (.int 0), (.int 0)] (.int 0) := Arv.set Ar21 q21 S21 Ng21 H21 G21 (fits_nar_char _) W21 9 rfl (Nat.le_of_ble_eq_true rfl)
 rw [own_nar hv2] at V21
 refine oc st21 ?_
 have f22 := (CHs19.safe (olt (by omega)) f20)
 have CHs21 := CHr.wr W21 f22 CH19.1
 have CH21 := CH19.trans CHs21
 have N21 := Fr.snoc X21 N19 (by omega : n0 ≤ b3)
 have sz21 : h21.size = h19.size := W21.size
 have O21 : Old Z n0 h21 := O19.wr W21 (by omega)
 refine ci (XS.dup X21.here hx rfl (hb hby at_76) rfl rfl) ?_
 refine ci (XS.bipush X21.here hx rfl (hb hby at_77)) ?_
 refine ci (XS.iload X21.here hx rfl (hb hby at_79) rfl) ?_
 obtain ⟨cl23, Ar23, q23, S23, Ng23, H23, G23⟩ := V21
 obtain ⟨T23, h23, X23, e23, W23, st23⟩ := stC X21 hx hZ e21 Ar23 (j := (10 : Int32)) (inb_of S23 ⟨by decide, by decide⟩) (g := (mkF m 81 #[.val (.long pa), .second, .val (.long pb), .second, vi pi, vi cv1, vi cv2, uu, uu, uu, uu, uu, uu, uu, uu, uu, uu, uu, uu, uu, uu, uu, uu, uu, uu, uu, uu, uu, uu, uu, uu, uu] [(.int cv1), (.int 10), (.ref b3), (.ref b3)])) rfl rfl (hb hby at_81)
 have V23 : Arv Z h23 b3 k3 .char (22 : Int32) [(.int cv1), (.int cv2), (.int cv1), (.int cv2), (.int cv1), (.int cv2), (.int cv1), (.int cv2), (.int cv1), (.int cv2), (.int (nar .char cv1)), (.int 0), (.int 0), (.int 0), (.int 0), (.int 0), (.int 0), (.int 0), (.int 0), (.int 0), (.int 0), (.int 0)] (.int 0) := Arv.set Ar23 q23 S23 Ng23 H23 G23 (fits_nar_char _) W23 10 rfl (Nat.le_of_ble_eq_true rfl)
 rw [own_nar hv1] at V23
 refine oc st23 ?_
 have f24 := (CHs21.safe (olt (by omega)) f22)
 have CHs23 := CHr.wr W23 f24 CH21.1
 have CH23 := CH21.trans CHs23
 have N23 := Fr.snoc X23 N21 (by omega : n0 ≤ b3)
 have sz23 : h23.size = h21.size := W23.size
 have O23 : Old Z n0 h23 := O21.wr W23 (by omega)
 refine sc (A := (T23.setTop (mkF m 82 #[.val (.long pa), .second, .val (.long pb), .second, vi pi, vi cv1, vi cv2, uu, uu, uu, uu, uu, uu, uu, uu, uu, uu, uu, uu, uu, uu, uu, uu, uu, uu, uu, uu, uu, uu, uu, uu, uu] [(.ref b3)]))) ?_
 refine ci (XS.dup X23.here hx rfl (hb hby at_82) rfl rfl) ?_
 refine ci (XS.bipush X23.here hx rfl (hb hby at_83)) ?_
 refine ci (XS.iload X23.here hx rfl (hb hby at_85) rfl) ?_
 obtain ⟨cl25, Ar25, q25, S25, Ng25, H25, G25⟩ := V23
 obtain ⟨T25, h25, X25, e25, W25, st25⟩ := stC X23 hx hZ e23 Ar25 (j := (11 : Int32)) (inb_of S25 ⟨by decide, by decide⟩) (g := (mkF m 87 #[.val (.long pa), .second, .val (.long pb), .second, vi pi, vi cv1, vi cv2, uu, uu, uu, uu, uu, uu, uu, uu, uu, uu, uu, uu, uu, uu, uu, uu, uu, uu, uu, uu, uu, uu, uu, uu, uu] [(.int cv2), (.int 11), (.ref b3), (.ref b3)])) rfl rfl (hb hby at_87)
 have V25 : Arv Z h25 b3 k3 .char (22 : Int32) [(.int cv1), (.int cv2), (.int cv1), (.int cv2), (.int cv1), (.int cv2), (.int cv1), (.int cv2), (.int cv1), (.int cv2), (.int cv1), (.int (nar .char cv2)), (.int 0), (.int 0), (.int 0), (.int 0), (.int 0), (.int 0), (.int 0), (.int 0), (.int 0), (.int 0)] (.int 0) := Arv.set Ar25 q25 S25 Ng25 H25 G25 (fits_nar_char _) W25 11 rfl (Nat.le_of_ble_eq_true rfl)
 rw [own_nar hv2] at V25
 refine oc st25 ?_
 have f26 := (CHs23.safe (olt (by omega)) f24)
 have CHs25 := CHr.wr W25 f26 CH23.1
 have CH25 := CH23.trans CHs25
 have N25 := Fr.snoc X25 N23 (by omega : n0 ≤ b3)
 have sz25 : h25.size = h23.size := W25.size
 have O25 : Old Z n0 h25 := O23.wr W25 (by omega)
 refine ci (XS.dup X25.here hx rfl (hb hby at_88) rfl rfl) ?_
 refine ci (XS.bipush X25.here hx rfl (hb hby at_89)) ?_
 refine ci (XS.iload X25.here hx rfl (hb hby at_91) rfl) ?_
 obtain ⟨cl27, Ar27, q27, S27, Ng27, H27, G27⟩ := V25
 obtain ⟨T27, h27, X27, e27, W27, st27⟩ := stC X25 hx hZ e25 Ar27 (j := (12 : Int32)) (inb_of S27 ⟨by decide, by decide⟩) (g := (mkF m 93 #[.val (.long pa), .second, .val (.long pb), .second, vi pi, vi cv1, vi cv2, uu, uu, uu, uu, uu, uu, uu, uu, uu, uu, uu, uu, uu, uu, uu, uu, uu, uu, uu, uu, uu, uu, uu, uu, uu] [(.int cv1), (.int 12), (.ref b3), (.ref b3)])) rfl rfl (hb hby at_93)
 have V27 : Arv Z h27 b3 k3 .char (22 : Int32) [(.int cv1), (.int cv2), (.int cv1), (.int cv2), (.int cv1), (.int cv2), (.int cv1), (.int cv2), (.int cv1), (.int cv2), (.int cv1), (.int cv2), (.int (nar .char cv1)), (.int 0), (.int 0), (.int 0), (.int 0), (.int 0), (.int 0), (.int 0), (.int 0), (.int 0)] (.int 0) := Arv.set Ar27 q27 S27 Ng27 H27 G27 (fits_nar_char _) W27 12 rfl (Nat.le_of_ble_eq_true rfl)
 rw [own_nar hv1] at V27
 refine oc st27 ?_
 have f28 := (CHs25.safe (olt (by omega)) f26)
 have CHs27 := CHr.wr W27 f28 CH25.1
 have CH27 := CH25.trans CHs27
 have N27 := Fr.snoc X27 N25 (by omega : n0 ≤ b3)
 have sz27 : h27.size = h25.size := W27.size
 have O27 : Old Z n0 h27 := O25.wr W27 (by omega)
 refine ci (XS.dup X27.here hx rfl (hb hby at_94) rfl rfl) ?_
 refine ci (XS.bipush X27.here hx rfl (hb hby at_95)) ?_
 refine ci (XS.iload X27.here hx rfl (hb hby at_97) rfl) ?_
 obtain ⟨cl29, Ar29, q29, S29, Ng29, H29, G29⟩ := V27
 obtain ⟨T29, h29, X29, e29, W29, st29⟩ := stC X27 hx hZ e27 Ar29 (j := (13 : Int32)) (inb_of S29 ⟨by decide, by decide⟩) (g := (mkF m 99 #[.val (.long pa), .second, .val (.long pb), .second, vi pi, vi cv1, vi cv2, uu, uu, uu, uu, uu, uu, uu, uu, uu, uu, uu, uu, uu, uu, uu, uu, uu, uu, uu, uu, uu, uu, uu, uu, uu] [(.int cv2), (.int 13), (.ref b3), (.ref b3)])) rfl rfl (hb hby at_99)
 have V29 : Arv Z h29 b3 k3 .char (22 : Int32) [(.int cv1), (.int cv2), (.int cv1), (.int cv2), (.int cv1), (.int cv2), (.int cv1), (.int cv2), (.int cv1), (.int cv2), (.int cv1), (.int cv2), (.int cv1), (.int (nar .char cv2)), (.int 0), (.int 0), (.int 0), (.int 0), (.int 0), (.int 0), (.int 0), (.int 0)] (.int 0) := Arv.set Ar29 q29 S29 Ng29 H29 G29 (fits_nar_char _) W29 13 rfl (Nat.le_of_ble_eq_true rfl)
 rw [own_nar hv2] at V29
 refine oc st29 ?_
 have f30 := (CHs27.safe (olt (by omega)) f28)
 have CHs29 := CHr.wr W29 f30 CH27.1
 have CH29 := CH27.trans CHs29
 have N29 := Fr.snoc X29 N27 (by omega : n0 ≤ b3)
 have sz29 : h29.size = h27.size := W29.size
 have O29 : Old Z n0 h29 := O27.wr W29 (by omega)
 refine ci (XS.dup X29.here hx rfl (hb hby at_100) rfl rfl) ?_
 refine ci (XS.bipush X29.here hx rfl (hb hby at_101)) ?_
 refine ci (XS.iload X29.here hx rfl (hb hby at_103) rfl) ?_
 obtain ⟨cl31, Ar31, q31, S31, Ng31, H31, G31⟩ := V29
 obtain ⟨T31, h31, X31, e31, W31, st31⟩ := stC X29 hx hZ e29 Ar31 (j := (14 : Int32)) (inb_of S31 ⟨by decide, by decide⟩) (g := (mkF m 105 #[.val (.long pa), .second, .val (.long pb), .second, vi pi, vi cv1, vi cv2, uu, uu, uu, uu, uu, uu, uu, uu, uu, uu, uu, uu, uu, uu, uu, uu, uu, uu, uu, uu, uu, uu, uu, uu, uu] [(.int cv1), (.int 14), (.ref b3), (.ref b3)])) rfl rfl (hb hby at_105)
 have V31 : Arv Z h31 b3 k3 .char (22 : Int32) [(.int cv1), (.int cv2), (.int cv1), (.int cv2), (.int cv1), (.int cv2), (.int cv1), (.int cv2), (.int cv1), (.int cv2), (.int cv1), (.int cv2), (.int cv1), (.int cv2), (.int (nar .char cv1)), (.int 0), (.int 0), (.int 0), (.int 0), (.int 0), (.int 0), (.int 0)] (.int 0) := Arv.set Ar31 q31 S31 Ng31 H31 G31 (fits_nar_char _) W31 14 rfl (Nat.le_of_ble_eq_true rfl)
 rw [own_nar hv1] at V31
 refine oc st31 ?_
 have f32 := (CHs29.safe (olt (by omega)) f30)
 have CHs31 := CHr.wr W31 f32 CH29.1
 have CH31 := CH29.trans CHs31
 have N31 := Fr.snoc X31 N29 (by omega : n0 ≤ b3)
 have sz31 : h31.size = h29.size := W31.size
 have O31 : Old Z n0 h31 := O29.wr W31 (by omega)
 refine sc (A := (T31.setTop (mkF m 106 #[.val (.long pa), .second, .val (.long pb), .second, vi pi, vi cv1, vi cv2, uu, uu, uu, uu, uu, uu, uu, uu, uu, uu, uu, uu, uu, uu, uu, uu, uu, uu, uu, uu, uu, uu, uu, uu, uu] [(.ref b3)]))) ?_
 refine ci (XS.dup X31.here hx rfl (hb hby at_106) rfl rfl) ?_
 refine ci (XS.bipush X31.here hx rfl (hb hby at_107)) ?_
 refine ci (XS.iload X31.here hx rfl (hb hby at_109) rfl) ?_
 obtain ⟨cl33, Ar33, q33, S33, Ng33, H33, G33⟩ := V31
 obtain ⟨T33, h33, X33, e33, W33, st33⟩ := stC X31 hx hZ e31 Ar33 (j := (15 : Int32)) (inb_of S33 ⟨by decide, by decide⟩) (g := (mkF m 111 #[.val (.long pa), .second, .val (.long pb), .second, vi pi, vi cv1, vi cv2, uu, uu, uu, uu, uu, uu, uu, uu, uu, uu, uu, uu, uu, uu, uu, uu, uu, uu, uu, uu, uu, uu, uu, uu, uu] [(.int cv2), (.int 15), (.ref b3), (.ref b3)])) rfl rfl (hb hby at_111)
 have V33 : Arv Z h33 b3 k3 .char (22 : Int32) [(.int cv1), (.int cv2), (.int cv1), (.int cv2), (.int cv1), (.int cv2), (.int cv1), (.int cv2), (.int cv1), (.int cv2), (.int cv1), (.int cv2), (.int cv1), (.int cv2), (.int cv1), (.int (nar .char cv2)), (.int 0), (.int 0), (.int 0), (.int 0), (.int 0), (.int 0)] (.int 0) := Arv.set Ar33 q33 S33 Ng33 H33 G33 (fits_nar_char _) W33 15 rfl (Nat.le_of_ble_eq_true rfl)
 rw [own_nar hv2] at V33
 refine oc st33 ?_
 have f34 := (CHs31.safe (olt (by omega)) f32)
 have CHs33 := CHr.wr W33 f34 CH31.1
 have CH33 := CH31.trans CHs33
 have N33 := Fr.snoc X33 N31 (by omega : n0 ≤ b3)
 have sz33 : h33.size = h31.size := W33.size
 have O33 : Old Z n0 h33 := O31.wr W33 (by omega)
 refine ci (XS.dup X33.here hx rfl (hb hby at_112) rfl rfl) ?_
 refine ci (XS.bipush X33.here hx rfl (hb hby at_113)) ?_
 refine ci (XS.iload X33.here hx rfl (hb hby at_115) rfl) ?_
 obtain ⟨cl35, Ar35, q35, S35, Ng35, H35, G35⟩ := V33
 obtain ⟨T35, h35, X35, e35, W35, st35⟩ := stC X33 hx hZ e33 Ar35 (j := (16 : Int32)) (inb_of S35 ⟨by decide, by decide⟩) (g := (mkF m 117 #[.val (.long pa), .second, .val (.long pb), .second, vi pi, vi cv1, vi cv2, uu, uu, uu, uu, uu, uu, uu, uu, uu, uu, uu, uu, uu, uu, uu, uu, uu, uu, uu, uu, uu, uu, uu, uu, uu] [(.int cv1), (.int 16), (.ref b3), (.ref b3)])) rfl rfl (hb hby at_117)
 have V35 : Arv Z h35 b3 k3 .char (22 : Int32) [(.int cv1), (.int cv2), (.int cv1), (.int cv2), (.int cv1), (.int cv2), (.int cv1), (.int cv2), (.int cv1), (.int cv2), (.int cv1), (.int cv2), (.int cv1), (.int cv2), (.int cv1), (.int cv2), (.int (nar .char cv1)), (.int 0), (.int 0), (.int 0), (.int 0), (.int 0)] (.int 0) := Arv.set Ar35 q35 S35 Ng35 H35 G35 (fits_nar_char _) W35 16 rfl (Nat.le_of_ble_eq_true rfl)
 rw [own_nar hv1] at V35
 refine oc st35 ?_
 have f36 := (CHs33.safe (olt (by omega)) f34)
 have CHs35 := CHr.wr W35 f36 CH33.1
 have CH35 := CH33.trans CHs35
 have N35 := Fr.snoc X35 N33 (by omega : n0 ≤ b3)
 have sz35 : h35.size = h33.size := W35.size
 have O35 : Old Z n0 h35 := O33.wr W35 (by omega)
 refine ci (XS.dup X35.here hx rfl (hb hby at_118) rfl rfl) ?_
 refine ci (XS.bipush X35.here hx rfl (hb hby at_119)) ?_
 refine ci (XS.iload X35.here hx rfl (hb hby at_121) rfl) ?_
 obtain ⟨cl37, Ar37, q37, S37, Ng37, H37, G37⟩ := V35
 obtain ⟨T37, h37, X37, e37, W37, st37⟩ := stC X35 hx hZ e35 Ar37 (j := (17 : Int32)) (inb_of S37 ⟨by decide, by decide⟩) (g := (mkF m 123 #[.val (.long pa), .second, .val (.long pb), .second, vi pi, vi cv1, vi cv2, uu, uu, uu, uu, uu, uu, uu, uu, uu, uu, uu, uu, uu, uu, uu, uu, uu, uu, uu, uu, uu, uu, uu, uu, uu] [(.int cv2), (.int 17), (.ref b3), (.ref b3)])) rfl rfl (hb hby at_123)
 have V37 : Arv Z h37 b3 k3 .char (22 : Int32) [(.int cv1), (.int cv2), (.int cv1), (.int cv2), (.int cv1), (.int cv2), (.int cv1), (.int cv2), (.int cv1), (.int cv2), (.int cv1), (.int cv2), (.int cv1), (.int cv2), (.int cv1), (.int cv2), (.int cv1), (.int (nar .char cv2)), (.int 0), (.int 0), (.int 0), (.int 0)] (.int 0) := Arv.set Ar37 q37 S37 Ng37 H37 G37 (fits_nar_char _) W37 17 rfl (Nat.le_of_ble_eq_true rfl)
 rw [own_nar hv2] at V37
 refine oc st37 ?_
 have f38 := (CHs35.safe (olt (by omega)) f36)
 have CHs37 := CHr.wr W37 f38 CH35.1
 have CH37 := CH35.trans CHs37
 have N37 := Fr.snoc X37 N35 (by omega : n0 ≤ b3)
 have sz37 : h37.size = h35.size := W37.size
 have O37 : Old Z n0 h37 := O35.wr W37 (by omega)
 refine ci (XS.dup X37.here hx rfl (hb hby at_124) rfl rfl) ?_
 refine ci (XS.bipush X37.here hx rfl (hb hby at_125)) ?_
 refine ci (XS.iload X37.here hx rfl (hb hby at_127) rfl) ?_
 obtain ⟨cl39, Ar39, q39, S39, Ng39, H39, G39⟩ := V37
 obtain ⟨T39, h39, X39, e39, W39, st39⟩ := stC X37 hx hZ e37 Ar39 (j := (18 : Int32)) (inb_of S39 ⟨by decide, by decide⟩) (g := (mkF m 129 #[.val (.long pa), .second, .val (.long pb), .second, vi pi, vi cv1, vi cv2, uu, uu, uu, uu, uu, uu, uu, uu, uu, uu, uu, uu, uu, uu, uu, uu, uu, uu, uu, uu, uu, uu, uu, uu, uu] [(.int cv1), (.int 18), (.ref b3), (.ref b3)])) rfl rfl (hb hby at_129)
 have V39 : Arv Z h39 b3 k3 .char (22 : Int32) [(.int cv1), (.int cv2), (.int cv1), (.int cv2), (.int cv1), (.int cv2), (.int cv1), (.int cv2), (.int cv1), (.int cv2), (.int cv1), (.int cv2), (.int cv1), (.int cv2), (.int cv1), (.int cv2), (.int cv1), (.int cv2), (.int (nar .char cv1)), (.int 0), (.int 0), (.int 0)] (.int 0) := Arv.set Ar39 q39 S39 Ng39 H39 G39 (fits_nar_char _) W39 18 rfl (Nat.le_of_ble_eq_true rfl)
 rw [own_nar hv1] at V39
 refine oc st39 ?_
 have f40 := (CHs37.safe (olt (by omega)) f38)
 have CHs39 := CHr.wr W39 f40 CH37.1
 have CH39 := CH37.trans CHs39
 have N39 := Fr.snoc X39 N37 (by omega : n0 ≤ b3)
 have sz39 : h39.size = h37.size := W39.size
 have O39 : Old Z n0 h39 := O37.wr W39 (by omega)
 refine sc (A := (T39.setTop (mkF m 130 #[.val (.long pa), .second, .val (.long pb), .second, vi pi, vi cv1, vi cv2, uu, uu, uu, uu, uu, uu, uu, uu, uu, uu, uu, uu, uu, uu, uu, uu, uu, uu, uu, uu, uu, uu, uu, uu, uu] [(.ref b3)]))) ?_
 refine ci (XS.dup X39.here hx rfl (hb hby at_130) rfl rfl) ?_
 refine ci (XS.bipush X39.here hx rfl (hb hby at_131)) ?_
 refine ci (XS.iload X39.here hx rfl (hb hby at_133) rfl) ?_
 obtain ⟨cl41, Ar41, q41, S41, Ng41, H41, G41⟩ := V39
 obtain ⟨T41, h41, X41, e41, W41, st41⟩ := stC X39 hx hZ e39 Ar41 (j := (19 : Int32)) (inb_of S41 ⟨by decide, by decide⟩) (g := (mkF m 135 #[.val (.long pa), .second, .val (.long pb), .second, vi pi, vi cv1, vi cv2, uu, uu, uu, uu, uu, uu, uu, uu, uu, uu, uu, uu, uu, uu, uu, uu, uu, uu, uu, uu, uu, uu, uu, uu, uu] [(.int cv2), (.int 19), (.ref b3), (.ref b3)])) rfl rfl (hb hby at_135)
 have V41 : Arv Z h41 b3 k3 .char (22 : Int32) [(.int cv1), (.int cv2), (.int cv1), (.int cv2), (.int cv1), (.int cv2), (.int cv1), (.int cv2), (.int cv1), (.int cv2), (.int cv1), (.int cv2), (.int cv1), (.int cv2), (.int cv1), (.int cv2), (.int cv1), (.int cv2), (.int cv1), (.int (nar .char cv2)), (.int 0), (.int 0)] (.int 0) := Arv.set Ar41 q41 S41 Ng41 H41 G41 (fits_nar_char _) W41 19 rfl (Nat.le_of_ble_eq_true rfl)
 rw [own_nar hv2] at V41
 refine oc st41 ?_
 have f42 := (CHs39.safe (olt (by omega)) f40)
 have CHs41 := CHr.wr W41 f42 CH39.1
 have CH41 := CH39.trans CHs41
 have N41 := Fr.snoc X41 N39 (by omega : n0 ≤ b3)
 have sz41 : h41.size = h39.size := W41.size
 have O41 : Old Z n0 h41 := O39.wr W41 (by omega)
 refine ci (XS.dup X41.here hx rfl (hb hby at_136) rfl rfl) ?_
 refine ci (XS.bipush X41.here hx rfl (hb hby at_137)) ?_
 refine ci (XS.iload X41.here hx rfl (hb hby at_139) rfl) ?_
 obtain ⟨cl43, Ar43, q43, S43, Ng43, H43, G43⟩ := V41
 obtain ⟨T43, h43, X43, e43, W43, st43⟩ := stC X41 hx hZ e41 Ar43 (j := (20 : Int32)) (inb_of S43 ⟨by decide, by decide⟩) (g := (mkF m 141 #[.val (.long pa), .second, .val (.long pb), .second, vi pi, vi cv1, vi cv2, uu, uu, uu, uu, uu, uu, uu, uu, uu, uu, uu, uu, uu, uu, uu, uu, uu, uu, uu, uu, uu, uu, uu, uu, uu] [(.int cv1), (.int 20), (.ref b3), (.ref b3)])) rfl rfl (hb hby at_141)
 have V43 : Arv Z h43 b3 k3 .char (22 : Int32) [(.int cv1), (.int cv2), (.int cv1), (.int cv2), (.int cv1), (.int cv2), (.int cv1), (.int cv2), (.int cv1), (.int cv2), (.int cv1), (.int cv2), (.int cv1), (.int cv2), (.int cv1), (.int cv2), (.int cv1), (.int cv2), (.int cv1), (.int cv2), (.int (nar .char cv1)), (.int 0)] (.int 0) := Arv.set Ar43 q43 S43 Ng43 H43 G43 (fits_nar_char _) W43 20 rfl (Nat.le_of_ble_eq_true rfl)
 rw [own_nar hv1] at V43
 refine oc st43 ?_
 have f44 := (CHs41.safe (olt (by omega)) f42)
 have CHs43 := CHr.wr W43 f44 CH41.1
 have CH43 := CH41.trans CHs43
 have N43 := Fr.snoc X43 N41 (by omega : n0 ≤ b3)
 have sz43 : h43.size = h41.size := W43.size
 have O43 : Old Z n0 h43 := O41.wr W43 (by omega)
 refine ci (XS.dup X43.here hx rfl (hb hby at_142) rfl rfl) ?_
 refine ci (XS.bipush X43.here hx rfl (hb hby at_143)) ?_
 refine ci (XS.iload X43.here hx rfl (hb hby at_145) rfl) ?_
 obtain ⟨cl45, Ar45, q45, S45, Ng45, H45, G45⟩ := V43
 obtain ⟨T45, h45, X45, e45, W45, st45⟩ := stC X43 hx hZ e43 Ar45 (j := (21 : Int32)) (inb_of S45 ⟨by decide, by decide⟩) (g := (mkF m 147 #[.val (.long pa), .second, .val (.long pb), .second, vi pi, vi cv1, vi cv2, uu, uu, uu, uu, uu, uu, uu, uu, uu, uu, uu, uu, uu, uu, uu, uu, uu, uu, uu, uu, uu, uu, uu, uu, uu] [(.int cv2), (.int 21), (.ref b3), (.ref b3)])) rfl rfl (hb hby at_147)
 have V45 : Arv Z h45 b3 k3 .char (22 : Int32) [(.int cv1), (.int cv2), (.int cv1), (.int cv2), (.int cv1), (.int cv2), (.int cv1), (.int cv2), (.int cv1), (.int cv2), (.int cv1), (.int cv2), (.int cv1), (.int cv2), (.int cv1), (.int cv2), (.int cv1), (.int cv2), (.int cv1), (.int cv2), (.int cv1), (.int (nar .char cv2))] (.int 0) := Arv.set Ar45 q45 S45 Ng45 H45 G45 (fits_nar_char _) W45 21 rfl (Nat.le_of_ble_eq_true rfl)
 rw [own_nar hv2] at V45
 refine oc st45 ?_
 have f46 := (CHs43.safe (olt (by omega)) f44)
 have CHs45 := CHr.wr W45 f46 CH43.1
 have CH45 := CH43.trans CHs45
 have N45 := Fr.snoc X45 N43 (by omega : n0 ≤ b3)
 have sz45 : h45.size = h43.size := W45.size
 have O45 : Old Z n0 h45 := O43.wr W45 (by omega)
 refine ci (XS.astore X45.here hx rfl (hb hby at_148) rfl rfl (l' := #[.val (.long pa), .second, .val (.long pb), .second, vi pi, vi cv1, vi cv2, vr b3, uu, uu, uu, uu, uu, uu, uu, uu, uu, uu, uu, uu, uu, uu, uu, uu, uu, uu, uu, uu, uu, uu, uu, uu]) rfl) ?_
 refine ci (XS.iload X45.here hx rfl (hb hby at_150) rfl) ?_
 refine ci (XS.iconst X45.here hx rfl (hb hby at_152)) ?_
 refine ci (XS.iand X45.here hx rfl (hb hby at_153) rfl) ?_
 refine sc (A := (T45.setTop (mkF m 154 #[.val (.long pa), .second, .val (.long pb), .second, vi pi, vi cv1, vi cv2, vr b3, uu, uu, uu, uu, uu, uu, uu, uu, uu, uu, uu, uu, uu, uu, uu, uu, uu, uu, uu, uu, uu, uu, uu, uu] [(.int (pi &&& (3 : Int32)))]))) ?_
 refine ci (XS.iconst X45.here hx rfl (hb hby at_154)) ?_
 refine oc (fun _ => iremM X45 hx rfl (hb hby at_155) rfl (by decide)) ?_
 refine sc (A := (T45.setTop (mkF m 156 #[.val (.long pa), .second, .val (.long pb), .second, vi pi, vi cv1, vi cv2, vr b3, uu, uu, uu, uu, uu, uu, uu, uu, uu, uu, uu, uu, uu, uu, uu, uu, uu, uu, uu, uu, uu, uu, uu, uu] [(.int ((pi &&& (3 : Int32)) % (3 : Int32)))]))) ?_
 obtain ⟨cnt, hcnt, ecnt⟩ := own_mod3 pi
 rw [ecnt]
 refine sc (A := (T45.setTop (mkF m 156 #[.val (.long pa), .second, .val (.long pb), .second, vi pi, vi cv1, vi cv2, vr b3, uu, uu, uu, uu, uu, uu, uu, uu, uu, uu, uu, uu, uu, uu, uu, uu, uu, uu, uu, uu, uu, uu, uu, uu] [(.int (Int32.ofNat cnt))]))) ?_
 refine ci (XS.istore X45.here hx rfl (hb hby at_156) rfl (l' := #[.val (.long pa), .second, .val (.long pb), .second, vi pi, vi cv1, vi cv2, vr b3, vn cnt, uu, uu, uu, uu, uu, uu, uu, uu, uu, uu, uu, uu, uu, uu, uu, uu, uu, uu, uu, uu, uu, uu, uu]) rfl) ?_
 refine ci (XS.iload X45.here hx rfl (hb hby at_158) rfl) ?_
 refine ci (XS.iconst X45.here hx rfl (hb hby at_160)) ?_
 refine ci (XS.iushr X45.here hx rfl (hb hby at_161) rfl) ?_
 refine ci (XS.iconst X45.here hx rfl (hb hby at_162)) ?_
 refine ci (XS.iand X45.here hx rfl (hb hby at_163) rfl) ?_
 refine ci (XS.iconst X45.here hx rfl (hb hby at_164)) ?_
 refine oc (fun _ => iremM X45 hx rfl (hb hby at_165) rfl (by decide)) ?_
 refine sc (A := (T45.setTop (mkF m 166 #[.val (.long pa), .second, .val (.long pb), .second, vi pi, vi cv1, vi cv2, vr b3, vn cnt, uu, uu, uu, uu, uu, uu, uu, uu, uu, uu, uu, uu, uu, uu, uu, uu, uu, uu, uu, uu, uu, uu, uu] [(.int ((((pi.toUInt32 >>> ((2 : Int32) &&& 31).toUInt32).toInt32) &&& (3 : Int32)) % (3 : Int32)))]))) ?_
 obtain ⟨ao, hao, eao⟩ := own_mod3 ((pi.toUInt32 >>> ((2 : Int32) &&& 31).toUInt32).toInt32)
 rw [eao]
 refine sc (A := (T45.setTop (mkF m 166 #[.val (.long pa), .second, .val (.long pb), .second, vi pi, vi cv1, vi cv2, vr b3, vn cnt, uu, uu, uu, uu, uu, uu, uu, uu, uu, uu, uu, uu, uu, uu, uu, uu, uu, uu, uu, uu, uu, uu, uu] [(.int (Int32.ofNat ao))]))) ?_
 refine ci (XS.istore X45.here hx rfl (hb hby at_166) rfl (l' := #[.val (.long pa), .second, .val (.long pb), .second, vi pi, vi cv1, vi cv2, vr b3, vn cnt, vn ao, uu, uu, uu, uu, uu, uu, uu, uu, uu, uu, uu, uu, uu, uu, uu, uu, uu, uu, uu, uu, uu, uu]) rfl) ?_
 refine ci (XS.iload X45.here hx rfl (hb hby at_168) rfl) ?_
 refine ci (XS.iconst X45.here hx rfl (hb hby at_170)) ?_
 refine ci (XS.iushr X45.here hx rfl (hb hby at_171) rfl) ?_
 refine ci (XS.iconst X45.here hx rfl (hb hby at_172)) ?_
 refine ci (XS.iand X45.here hx rfl (hb hby at_173) rfl) ?_
 refine ci (XS.iconst X45.here hx rfl (hb hby at_174)) ?_
 refine oc (fun _ => iremM X45 hx rfl (hb hby at_175) rfl (by decide)) ?_
 refine sc (A := (T45.setTop (mkF m 176 #[.val (.long pa), .second, .val (.long pb), .second, vi pi, vi cv1, vi cv2, vr b3, vn cnt, vn ao, uu, uu, uu, uu, uu, uu, uu, uu, uu, uu, uu, uu, uu, uu, uu, uu, uu, uu, uu, uu, uu, uu] [(.int ((((pi.toUInt32 >>> ((4 : Int32) &&& 31).toUInt32).toInt32) &&& (3 : Int32)) % (3 : Int32)))]))) ?_
 obtain ⟨lq1, elq1⟩ : ∃ z : Int32, ((((pi.toUInt32 >>> ((4 : Int32) &&& 31).toUInt32).toInt32) &&& (3 : Int32)) % (3 : Int32)) = z := ⟨_, rfl⟩
 rw [elq1]
 refine sc (A := (T45.setTop (mkF m 176 #[.val (.long pa), .second, .val (.long pb), .second, vi pi, vi cv1, vi cv2, vr b3, vn cnt, vn ao, uu, uu, uu, uu, uu, uu, uu, uu, uu, uu, uu, uu, uu, uu, uu, uu, uu, uu, uu, uu, uu, uu] [(.int lq1)]))) ?_
 refine ci (XS.istore X45.here hx rfl (hb hby at_176) rfl (l' := #[.val (.long pa), .second, .val (.long pb), .second, vi pi, vi cv1, vi cv2, vr b3, vn cnt, vn ao, vi lq1, uu, uu, uu, uu, uu, uu, uu, uu, uu, uu, uu, uu, uu, uu, uu, uu, uu, uu, uu, uu, uu]) rfl) ?_
 refine ci (XS.iconst X45.here hx rfl (hb hby at_178)) ?_
 refine ci (XS.iload X45.here hx rfl (hb hby at_179) rfl) ?_
 refine ci (XS.bipush X45.here hx rfl (hb hby at_181)) ?_
 refine ci (XS.iushr X45.here hx rfl (hb hby at_183) rfl) ?_
 refine ci (XS.iconst X45.here hx rfl (hb hby at_184)) ?_
 refine ci (XS.iand X45.here hx rfl (hb hby at_185) rfl) ?_
 refine ci (XS.iadd X45.here hx rfl (hb hby at_186) rfl) ?_
 refine sc (A := (T45.setTop (mkF m 187 #[.val (.long pa), .second, .val (.long pb), .second, vi pi, vi cv1, vi cv2, vr b3, vn cnt, vn ao, vi lq1, uu, uu, uu, uu, uu, uu, uu, uu, uu, uu, uu, uu, uu, uu, uu, uu, uu, uu, uu, uu, uu] [(.int ((1 : Int32) + (((pi.toUInt32 >>> ((6 : Int32) &&& 31).toUInt32).toInt32) &&& (1 : Int32))))]))) ?_
 obtain ⟨kq0, ekq0⟩ : ∃ z : Int32, ((1 : Int32) + (((pi.toUInt32 >>> ((6 : Int32) &&& 31).toUInt32).toInt32) &&& (1 : Int32))) = z := ⟨_, rfl⟩
 rw [ekq0]
 refine sc (A := (T45.setTop (mkF m 187 #[.val (.long pa), .second, .val (.long pb), .second, vi pi, vi cv1, vi cv2, vr b3, vn cnt, vn ao, vi lq1, uu, uu, uu, uu, uu, uu, uu, uu, uu, uu, uu, uu, uu, uu, uu, uu, uu, uu, uu, uu, uu] [(.int kq0)]))) ?_
 refine ci (XS.istore X45.here hx rfl (hb hby at_187) rfl (l' := #[.val (.long pa), .second, .val (.long pb), .second, vi pi, vi cv1, vi cv2, vr b3, vn cnt, vn ao, vi lq1, vi kq0, uu, uu, uu, uu, uu, uu, uu, uu, uu, uu, uu, uu, uu, uu, uu, uu, uu, uu, uu, uu]) rfl) ?_
 refine ci (XS.iconst X45.here hx rfl (hb hby at_189)) ?_
 refine ci (XS.iload X45.here hx rfl (hb hby at_190) rfl) ?_
 refine ci (XS.bipush X45.here hx rfl (hb hby at_192)) ?_
 refine ci (XS.iushr X45.here hx rfl (hb hby at_194) rfl) ?_
 refine ci (XS.iconst X45.here hx rfl (hb hby at_195)) ?_
 refine ci (XS.iand X45.here hx rfl (hb hby at_196) rfl) ?_
 refine ci (XS.iadd X45.here hx rfl (hb hby at_197) rfl) ?_
 refine sc (A := (T45.setTop (mkF m 198 #[.val (.long pa), .second, .val (.long pb), .second, vi pi, vi cv1, vi cv2, vr b3, vn cnt, vn ao, vi lq1, vi kq0, uu, uu, uu, uu, uu, uu, uu, uu, uu, uu, uu, uu, uu, uu, uu, uu, uu, uu, uu, uu] [(.int ((1 : Int32) + (((pi.toUInt32 >>> ((7 : Int32) &&& 31).toUInt32).toInt32) &&& (1 : Int32))))]))) ?_
 obtain ⟨kq1, ekq1⟩ : ∃ z : Int32, ((1 : Int32) + (((pi.toUInt32 >>> ((7 : Int32) &&& 31).toUInt32).toInt32) &&& (1 : Int32))) = z := ⟨_, rfl⟩
 rw [ekq1]
 refine sc (A := (T45.setTop (mkF m 198 #[.val (.long pa), .second, .val (.long pb), .second, vi pi, vi cv1, vi cv2, vr b3, vn cnt, vn ao, vi lq1, vi kq0, uu, uu, uu, uu, uu, uu, uu, uu, uu, uu, uu, uu, uu, uu, uu, uu, uu, uu, uu, uu] [(.int kq1)]))) ?_
 refine ci (XS.istore X45.here hx rfl (hb hby at_198) rfl (l' := #[.val (.long pa), .second, .val (.long pb), .second, vi pi, vi cv1, vi cv2, vr b3, vn cnt, vn ao, vi lq1, vi kq0, vi kq1, uu, uu, uu, uu, uu, uu, uu, uu, uu, uu, uu, uu, uu, uu, uu, uu, uu, uu, uu]) rfl) ?_
 refine ci (XS.iload X45.here hx rfl (hb hby at_200) rfl) ?_
 refine ci (XS.bipush X45.here hx rfl (hb hby at_202)) ?_
 refine ci (XS.iushr X45.here hx rfl (hb hby at_204) rfl) ?_
 refine ci (XS.iconst X45.here hx rfl (hb hby at_205)) ?_
 refine ci (XS.iand X45.here hx rfl (hb hby at_206) rfl) ?_
 refine sc (A := (T45.setTop (mkF m 207 #[.val (.long pa), .second, .val (.long pb), .second, vi pi, vi cv1, vi cv2, vr b3, vn cnt, vn ao, vi lq1, vi kq0, vi kq1, uu, uu, uu, uu, uu, uu, uu, uu, uu, uu, uu, uu, uu, uu, uu, uu, uu, uu, uu] [(.int (((pi.toUInt32 >>> ((8 : Int32) &&& 31).toUInt32).toInt32) &&& (1 : Int32)))]))) ?_
 refine own_use X45 (h := h45) (g := fun cz47 : Int32 => (mkF m 215 #[.val (.long pa), .second, .val (.long pb), .second, vi pi, vi cv1, vi cv2, vr b3, vn cnt, vn ao, vi lq1, vi kq0, vi kq1, uu, uu, uu, uu, uu, uu, uu, uu, uu, uu, uu, uu, uu, uu, uu, uu, uu, uu, uu] [(.int cz47)])) (G := own_gc p e below s _ _ _ _ _) ?_ ?_
 ·intro cz47 T47 X47 e47
  refine sc (A := (T47.setTop (mkF m 215 #[.val (.long pa), .second, .val (.long pb), .second, vi pi, vi cv1, vi cv2, vr b3, vn cnt, vn ao, vi lq1, vi kq0, vi kq1, uu, uu, uu, uu, uu, uu, uu, uu, uu, uu, uu, uu, uu, uu, uu, uu, uu, uu, uu] [(.int cz47)]))) ?_
  refine ci (XS.istore X47.here hx rfl (hb hby at_215) rfl (l' := #[.val (.long pa), .second, .val (.long pb), .second, vi pi, vi cv1, vi cv2, vr b3, vn cnt, vn ao, vi lq1, vi kq0, vi kq1, vi cz47, uu, uu, uu, uu, uu, uu, uu, uu, uu, uu, uu, uu, uu, uu, uu, uu, uu, uu]) rfl) ?_
  refine ci (XS.iload X47.here hx rfl (hb hby at_217) rfl) ?_
  refine ci (XS.bipush X47.here hx rfl (hb hby at_219)) ?_
  refine ci (XS.iushr X47.here hx rfl (hb hby at_221) rfl) ?_
  refine ci (XS.iconst X47.here hx rfl (hb hby at_222)) ?_
  refine ci (XS.iand X47.here hx rfl (hb hby at_223) rfl) ?_
  refine sc (A := (T47.setTop (mkF m 224 #[.val (.long pa), .second, .val (.long pb), .second, vi pi, vi cv1, vi cv2, vr b3, vn cnt, vn ao, vi lq1, vi kq0, vi kq1, vi cz47, uu, uu, uu, uu, uu, uu, uu, uu, uu, uu, uu, uu, uu, uu, uu, uu, uu, uu] [(.int (((pi.toUInt32 >>> ((9 : Int32) &&& 31).toUInt32).toInt32) &&& (1 : Int32)))]))) ?_
  refine own_use X47 (h := h45) (g := fun cz48 : Int32 => (mkF m 232 #[.val (.long pa), .second, .val (.long pb), .second, vi pi, vi cv1, vi cv2, vr b3, vn cnt, vn ao, vi lq1, vi kq0, vi kq1, vi cz47, uu, uu, uu, uu, uu, uu, uu, uu, uu, uu, uu, uu, uu, uu, uu, uu, uu, uu] [(.int cz48)])) (G := own_gc p e below s _ _ _ _ _) ?_ ?_
  ·intro cz48 T48 X48 e48
   refine sc (A := (T48.setTop (mkF m 232 #[.val (.long pa), .second, .val (.long pb), .second, vi pi, vi cv1, vi cv2, vr b3, vn cnt, vn ao, vi lq1, vi kq0, vi kq1, vi cz47, uu, uu, uu, uu, uu, uu, uu, uu, uu, uu, uu, uu, uu, uu, uu, uu, uu, uu] [(.int cz48)]))) ?_
   refine ci (XS.istore X48.here hx rfl (hb hby at_232) rfl (l' := #[.val (.long pa), .second, .val (.long pb), .second, vi pi, vi cv1, vi cv2, vr b3, vn cnt, vn ao, vi lq1, vi kq0, vi kq1, vi cz47, vi cz48, uu, uu, uu, uu, uu, uu, uu, uu, uu, uu, uu, uu, uu, uu, uu, uu, uu]) rfl) ?_
   refine ci (XS.iload X48.here hx rfl (hb hby at_234) rfl) ?_
   refine ci (XS.bipush X48.here hx rfl (hb hby at_236)) ?_
   refine ci (XS.iushr X48.here hx rfl (hb hby at_238) rfl) ?_
   refine ci (XS.iconst X48.here hx rfl (hb hby at_239)) ?_
   refine ci (XS.iand X48.here hx rfl (hb hby at_240) rfl) ?_
   refine ci (XS.iconst X48.here hx rfl (hb hby at_241)) ?_
   refine oc (fun _ => iremM X48 hx rfl (hb hby at_242) rfl (by decide)) ?_
   refine sc (A := (T48.setTop (mkF m 243 #[.val (.long pa), .second, .val (.long pb), .second, vi pi, vi cv1, vi cv2, vr b3, vn cnt, vn ao, vi lq1, vi kq0, vi kq1, vi cz47, vi cz48, uu, uu, uu, uu, uu, uu, uu, uu, uu, uu, uu, uu, uu, uu, uu, uu, uu] [(.int ((((pi.toUInt32 >>> ((10 : Int32) &&& 31).toUInt32).toInt32) &&& (3 : Int32)) % (3 : Int32)))]))) ?_
   obtain ⟨dq0, edq0⟩ : ∃ z : Int32, ((((pi.toUInt32 >>> ((10 : Int32) &&& 31).toUInt32).toInt32) &&& (3 : Int32)) % (3 : Int32)) = z := ⟨_, rfl⟩
   rw [edq0]
   refine sc (A := (T48.setTop (mkF m 243 #[.val (.long pa), .second, .val (.long pb), .second, vi pi, vi cv1, vi cv2, vr b3, vn cnt, vn ao, vi lq1, vi kq0, vi kq1, vi cz47, vi cz48, uu, uu, uu, uu, uu, uu, uu, uu, uu, uu, uu, uu, uu, uu, uu, uu, uu] [(.int dq0)]))) ?_
   refine ci (XS.istore X48.here hx rfl (hb hby at_243) rfl (l' := #[.val (.long pa), .second, .val (.long pb), .second, vi pi, vi cv1, vi cv2, vr b3, vn cnt, vn ao, vi lq1, vi kq0, vi kq1, vi cz47, vi cz48, vi dq0, uu, uu, uu, uu, uu, uu, uu, uu, uu, uu, uu, uu, uu, uu, uu, uu]) rfl) ?_
   refine ci (XS.iload X48.here hx rfl (hb hby at_245) rfl) ?_
   refine ci (XS.bipush X48.here hx rfl (hb hby at_247)) ?_
   refine ci (XS.iushr X48.here hx rfl (hb hby at_249) rfl) ?_
   refine ci (XS.iconst X48.here hx rfl (hb hby at_250)) ?_
   refine ci (XS.iand X48.here hx rfl (hb hby at_251) rfl) ?_
   refine ci (XS.iconst X48.here hx rfl (hb hby at_252)) ?_
   refine oc (fun _ => iremM X48 hx rfl (hb hby at_253) rfl (by decide)) ?_
   refine sc (A := (T48.setTop (mkF m 254 #[.val (.long pa), .second, .val (.long pb), .second, vi pi, vi cv1, vi cv2, vr b3, vn cnt, vn ao, vi lq1, vi kq0, vi kq1, vi cz47, vi cz48, vi dq0, uu, uu, uu, uu, uu, uu, uu, uu, uu, uu, uu, uu, uu, uu, uu, uu] [(.int ((((pi.toUInt32 >>> ((12 : Int32) &&& 31).toUInt32).toInt32) &&& (3 : Int32)) % (3 : Int32)))]))) ?_
   obtain ⟨dq1, edq1⟩ : ∃ z : Int32, ((((pi.toUInt32 >>> ((12 : Int32) &&& 31).toUInt32).toInt32) &&& (3 : Int32)) % (3 : Int32)) = z := ⟨_, rfl⟩
   rw [edq1]
   refine sc (A := (T48.setTop (mkF m 254 #[.val (.long pa), .second, .val (.long pb), .second, vi pi, vi cv1, vi cv2, vr b3, vn cnt, vn ao, vi lq1, vi kq0, vi kq1, vi cz47, vi cz48, vi dq0, uu, uu, uu, uu, uu, uu, uu, uu, uu, uu, uu, uu, uu, uu, uu, uu] [(.int dq1)]))) ?_
   refine ci (XS.istore X48.here hx rfl (hb hby at_254) rfl (l' := (own_F pa pb pi cv1 cv2 b3 (vn cnt) ao lq1 kq0 kq1 cz47 cz48 dq0 dq1 [uu, uu, uu, uu, uu, uu, uu, uu, uu, uu, uu, uu, uu, uu, uu])) rfl) ?_
   refine ci (XS.iconst X48.here hx rfl (hb hby at_256)) ?_
   refine ci (XS.istore X48.here hx rfl (hb hby at_257) rfl (l' := (own_F pa pb pi cv1 cv2 b3 (vn cnt) ao lq1 kq0 kq1 cz47 cz48 dq0 dq1 [vz, uu, uu, uu, uu, uu, uu, uu, uu, uu, uu, uu, uu, uu, uu])) rfl) ?_
   refine ci (XS.iconst X48.here hx rfl (hb hby at_259)) ?_
   refine ci (XS.istore X48.here hx rfl (hb hby at_260) rfl (l' := (own_F pa pb pi cv1 cv2 b3 (vn cnt) ao lq1 kq0 kq1 cz47 cz48 dq0 dq1 [vz, vz, uu, uu, uu, uu, uu, uu, uu, uu, uu, uu, uu, uu, uu])) rfl) ?_
   refine ci (XS.iconst X48.here hx rfl (hb hby at_262)) ?_
   refine ci (XS.istore X48.here hx rfl (hb hby at_263) rfl (l' := (own_F pa pb pi cv1 cv2 b3 (vn cnt) ao lq1 kq0 kq1 cz47 cz48 dq0 dq1 [vz, vz, vz, uu, uu, uu, uu, uu, uu, uu, uu, uu, uu, uu, uu])) rfl) ?_
   refine ci (XS.iconst X48.here hx rfl (hb hby at_265)) ?_
   refine ci (XS.istore X48.here hx rfl (hb hby at_266) rfl (l' := (own_F pa pb pi cv1 cv2 b3 (vn cnt) ao lq1 kq0 kq1 cz47 cz48 dq0 dq1 [vz, vz, vz, vz, uu, uu, uu, uu, uu, uu, uu, uu, uu, uu, uu])) rfl) ?_
   refine ci (XS.iconst X48.here hx rfl (hb hby at_268)) ?_
   refine ci (XS.istore X48.here hx rfl (hb hby at_269) rfl (l' := (own_F pa pb pi cv1 cv2 b3 (vn cnt) ao lq1 kq0 kq1 cz47 cz48 dq0 dq1 [vz, vz, vz, vz, vz, uu, uu, uu, uu, uu, uu, uu, uu, uu, uu])) rfl) ?_
   refine ci (XS.iconst X48.here hx rfl (hb hby at_271)) ?_
   refine ci (XS.istore X48.here hx rfl (hb hby at_272) rfl (l' := (own_F pa pb pi cv1 cv2 b3 (vn cnt) ao lq1 kq0 kq1 cz47 cz48 dq0 dq1 [vz, vz, vz, vz, vz, vz, uu, uu, uu, uu, uu, uu, uu, uu, uu])) rfl) ?_
   refine ci (XS.iconst X48.here hx rfl (hb hby at_274)) ?_
   refine ci (XS.istore X48.here hx rfl (hb hby at_275) rfl (l' := (own_F pa pb pi cv1 cv2 b3 (vn cnt) ao lq1 kq0 kq1 cz47 cz48 dq0 dq1 [vz, vz, vz, vz, vz, vz, vz, uu, uu, uu, uu, uu, uu, uu, uu])) rfl) ?_
   refine ci (XS.iconst X48.here hx rfl (hb hby at_277)) ?_
   refine sc (A := (T48.setTop (mkF m 278 (own_F pa pb pi cv1 cv2 b3 (vn cnt) ao lq1 kq0 kq1 cz47 cz48 dq0 dq1 [vz, vz, vz, vz, vz, vz, vz, uu, uu, uu, uu, uu, uu, uu, uu]) [(.int 0)]))) ?_
   refine ci (XS.istore X48.here hx rfl (hb hby at_278) rfl (l' := (own_F pa pb pi cv1 cv2 b3 (vn cnt) ao lq1 kq0 kq1 cz47 cz48 dq0 dq1 [vz, vz, vz, vz, vz, vz, vz, vz, uu, uu, uu, uu, uu, uu, uu])) rfl) ?_
   refine ci (XS.iconst X48.here hx rfl (hb hby at_280)) ?_
   refine ci (XS.istore X48.here hx rfl (hb hby at_281) rfl (l' := (own_F pa pb pi cv1 cv2 b3 (vn cnt) ao lq1 kq0 kq1 cz47 cz48 dq0 dq1 [vz, vz, vz, vz, vz, vz, vz, vz, vz, uu, uu, uu, uu, uu, uu])) rfl) ?_
   refine ci (XS.iconst X48.here hx rfl (hb hby at_283)) ?_
   refine ci (XS.istore X48.here hx rfl (hb hby at_284) rfl (l' := (own_F pa pb pi cv1 cv2 b3 (vn cnt) ao lq1 kq0 kq1 cz47 cz48 dq0 dq1 [vz, vz, vz, vz, vz, vz, vz, vz, vz, vz, uu, uu, uu, uu, uu])) rfl) ?_
   refine ci (XS.iconst X48.here hx rfl (hb hby at_286)) ?_
   refine ci (XS.istore X48.here hx rfl (hb hby at_287) rfl (l' := (own_F pa pb pi cv1 cv2 b3 (vn cnt) ao lq1 kq0 kq1 cz47 cz48 dq0 dq1 [vz, vz, vz, vz, vz, vz, vz, vz, vz, vz, vz, uu, uu, uu, uu])) rfl) ?_
   refine sc (A := (T48.setTop (mkF m 289 (own_F pa pb pi cv1 cv2 b3 (vn cnt) ao lq1 kq0 kq1 cz47 cz48 dq0 dq1 [vz, vz, vz, vz, vz, vz, vz, vz, vz, vz, vz, uu, uu, uu, uu]) []))) ?_
   have Vq : Arv Z h45 b3 k3 .char (22 : Int32) (([cv1, cv2, cv1, cv2, cv1, cv2, cv1, cv2, cv1, cv2, cv1, cv2, cv1, cv2, cv1, cv2, cv1, cv2, cv1, cv2, cv1, cv2] : List Int32).map Value.int) (.int 0) := V45
   obtain ⟨okq, nbq⟩ := own_f22 hv1 hv2 hn1 hn2
   obtain ⟨csq, eq_⟩ : ∃ z : List Int32, ([cv1, cv2, cv1, cv2, cv1, cv2, cv1, cv2, cv1, cv2, cv1, cv2, cv1, cv2, cv1, cv2, cv1, cv2, cv1, cv2, cv1, cv2] : List Int32) = z := ⟨_, rfl⟩
   rw [eq_] at Vq okq nbq
   have J663_2 : ∀ (H : Heap) (T' : State) (ls : List Loc) (cs : List Int32) (kt : Nat) (hcx : Bool) (cl df dt lt : Nat) (kw : Nat) (hcw : Bool) (cw dfw dtw : Nat), (Stand p l e room_1 (s.setVm s.vm) m #[(.long pa), (.long pb), (.int pi)] below meth c T' ls 1 22) → (T'.heap = H) → (Fr n0 ls) → (Old Z n0 H) → (CHr Z own_EL s.vm s.heap s.vm H) → (Arv Z H b3 k3 .char (22 : Int32) (cs.map Value.int) (.int 0)) → (own_ok cs) → (own_pse cs 0 [(ao, kt, hcx, cl), (lt, kw, hcw, cw)] (cw + 1)) → (own_hf cz47 hcx kt cl df dt) → (own_hf cz48 hcw kw cw dfw dtw) → (own_nb cs (cw + 1) 22) → (cnt = 2) → own_gc p e below s Z own_EL (Q_rm0 Z pa pb pi dq kd Gc fm h0 n0) room_1.cells room_1.slots (T'.setTop (mkF m 663 (own_F pa pb pi cv1 cv2 b3 (vn cnt) ao lq1 kq0 kq1 cz47 cz48 dq0 dq1 [vn (ao + 2), vn kt, vn df, vn dt, vn (cl + 1), vn lt, vn (lt + 2), vn kw, vn dfw, vn dtw, vn (cw + 1), vn (cw + 1), uu, uu, uu]) [])) := by
    intro H T' ls cs kt hcx cl df dt lt kw hcw cw dfw dtw X' e' N' O' CH' V' hok PS HF HG NB hcn
    have hl22 := hok.1
    have ltb := olt V'.lt
    subst hcn
    obtain ⟨-, -, PL1, PSr⟩ := id PS
    have b1_ := PL1.1
    have b2_ := PL1.2.1
    have b3_ := PL1.2.2.1
    obtain ⟨b4_, -, PL2, -⟩ := id PSr
    have b5_ := PL2.1
    have b6_ := PL2.2.1
    have b7_ := PL2.2.2.1
    have hps : own_ps cs 0 [(ao, kt, hcx, cl), (lt, kw, hcw, cw)] := own_pse.fin PS (by omega) NB
    refine sc (A := (T'.setTop (mkF m 663 (own_F pa pb pi cv1 cv2 b3 (vi 2) ao lq1 kq0 kq1 cz47 cz48 dq0 dq1 [vn (ao + 2), vn kt, vn df, vn dt, vn (cl + 1), vn lt, vn (lt + 2), vn kw, vn dfw, vn dtw, vn (cw + 1), vn (cw + 1), uu, uu, uu]) []))) ?_
    obtain ⟨T49, h49, X49, e49, E49, A49, D49, -, st49⟩ := newO X' hx hZ hown (hW 6 _ rfl) (hW 7 _ rfl) (hW 8 _ rfl) e' (g := (mkF m 663 (own_F pa pb pi cv1 cv2 b3 (vi 2) ao lq1 kq0 kq1 cz47 cz48 dq0 dq1 [vn (ao + 2), vn kt, vn df, vn dt, vn (cl + 1), vn lt, vn (lt + 2), vn kw, vn dfw, vn dtw, vn (cw + 1), vn (cw + 1), uu, uu, uu]) [])) rfl (hb hby at_663) (by decide) (by decide)
    obtain ⟨b49, g49⟩ : ∃ z, z = H.size := ⟨_, rfl⟩
    rw [← g49] at A49 D49 st49
    refine oc st49 ?_
    have lt49 := olt A49.lt
    have sz49 : H.size ≤ h49.size := E49.1
    have O49 : Old Z n0 h49 := O'.ext E49
    have z49 : n0 ≤ b49 := by have := O'.1 ▸ O'.2.1; omega
    have CHs49 := CHr.ext E49 CH'.1
    have Sf49 := Safe.ext E49 CH'.1 (Safe.new (Nat.le_of_eq g49.symm))
    have CH49 := CH'.trans CHs49
    have F49_coder : Fld Z h49 b49 "java/lang/String" "coder" "B" (.int 0) := D49 (Or.inr (hW 32 _ rfl)) (ty := .byte) pf_1
    have F49_value : Fld Z h49 b49 "java/lang/String" "value" "[B" .null := D49 (Or.inr (hW 34 _ rfl)) (ty := (.array .byte)) pf_0
    refine ci (XS.dup X49.here hx rfl (hb hby at_666) rfl rfl) ?_
    refine ci (XS.aload X49.here hx rfl (hb hby at_667) rfl rfl) ?_
    refine sc (A := (T49.setTop (mkF m 669 (own_F pa pb pi cv1 cv2 b3 (vi 2) ao lq1 kq0 kq1 cz47 cz48 dq0 dq1 [vn (ao + 2), vn kt, vn df, vn dt, vn (cl + 1), vn lt, vn (lt + 2), vn kw, vn dfw, vn dtw, vn (cw + 1), vn (cw + 1), uu, uu, uu]) [(.ref b3), (.ref b49), (.ref b49)]))) ?_
    have f50 : Arv Z h49 b3 k3 .char (22 : Int32) (cs.map Value.int) (.int 0) := (V'.ext E49)
    obtain ⟨_, T51, Lc51, X51, hQ51, st51⟩ := own_c1 X49 <| X49.specialBack hx (y := ym2) rfl hown (mvT hZ (hW 9 _ rfl)) (mvT hZ (hW 10 _ rfl)) (mvT hZ (hW 11 _ rfl)) (by decide) (StrChars.Road.backV (W := 1) hZ hws (kI := 4) (hW 7 _ rfl) (cs := cs) (bs := cs.map (fun c => c.toInt8.toInt32)) (n := 22) (by omega : n0 ≤ b49) (by omega : n0 ≤ h49.size) A49 F49_value F49_coder f50 (Oc.ext O49.2) Pc hl22 rfl (by decide) (by decide) hok.2 rfl (by decide) (by decide)) (g := (mkF m 669 (own_F pa pb pi cv1 cv2 b3 (vi 2) ao lq1 kq0 kq1 cz47 cz48 dq0 dq1 [vn (ao + 2), vn kt, vn df, vn dt, vn (cl + 1), vn lt, vn (lt + 2), vn kw, vn dfw, vn dtw, vn (cw + 1), vn (cw + 1), uu, uu, uu]) [(.ref b3), (.ref b49), (.ref b49)])) rfl (by rw [hml]; rfl) (Steps.refl _) (a := b49) (argsL := [(.ref b3)]) (rest := [(.ref b49)]) (lenOf pd_36 rfl) rfl (Nat.le_of_eq rfl) (hb hby at_669) (fun _ _ => ⟨rfl, e49, (by decide : 2 + 1 ≤ _), (by decide : 26 + 22 ≤ _)⟩)
    obtain ⟨rfl, Nq51, Kp51, g151, g251, t51, kb51, u151, u251, u351, g451, g551⟩ := hQ51
    have N51 := Fr.app N' Nq51
    refine oc (fun tt_ kk_ => st51.trans kk_) ?_
    have CHs51 := CHr.keep Kp51 (allS Sf49 all0) CH49.1
    have CH51 := CH49.trans CHs51
    have sz51 : h49.size ≤ T51.heap.size := Kp51.1
    have O51 : Old Z n0 T51.heap := O49.keep Kp51 (allS (by omega) all0)
    have Sx51 : own_sr Z T51.heap b49 cs := ⟨hok.2, Nat.le_of_eq hl22, t51, kb51, g151, g451, g251, by have q := g551; rw [List.map_map] at q; rw [hl22]; exact q⟩
    have Ex_b49 := Sx51.exa
    refine ci (XS.astore X51.here hx rfl (hb hby at_672) rfl rfl (l' := (own_F pa pb pi cv1 cv2 b3 (vi 2) ao lq1 kq0 kq1 cz47 cz48 dq0 dq1 [vn (ao + 2), vn kt, vn df, vn dt, vn (cl + 1), vn lt, vn (lt + 2), vn kw, vn dfw, vn dtw, vn (cw + 1), vn (cw + 1), vr b49, uu, uu])) rfl) ?_
    refine ci (XS.aload X51.here hx rfl (hb hby at_674) rfl rfl) ?_
    refine sc (A := (T51.setTop (mkF m 676 (own_F pa pb pi cv1 cv2 b3 (vi 2) ao lq1 kq0 kq1 cz47 cz48 dq0 dq1 [vn (ao + 2), vn kt, vn df, vn dt, vn (cl + 1), vn lt, vn (lt + 2), vn kw, vn dfw, vn dtw, vn (cw + 1), vn (cw + 1), vr b49, uu, uu]) [(.ref b49)]))) ?_
    obtain ⟨_, _, ⟨T52, L52, k52, n52⟩, -, Xr52, hSr52, hgr52, ⟨Lc52, hQ52, l52, y52, z52, CHs52⟩, st52⟩ := callSS X51 hx (y := ym8) hown (mvT hZ (hW 35 _ rfl)) (mvT hZ (hW 36 _ rfl)) (mvT hZ (hW 37 _ rfl)) (mvT hZ (hW 38 _ rfl)) (by decide) (backOfSH (W := 0) (rmPa l Z a0 hw [] b49 cs [(ao, kt, hcx, cl), (lt, kw, hcw, cw)] dq kd Gc fm T51.heap n0 hEL O51 Oc Pc Of hfm S_d V_d E_d l_d Sx51 hl22 hps (Nat.le_of_ble_eq_true rfl)) hZ (hW 38 _ rfl) (hW 37 _ rfl) (by decide) (by decide) hEL CH51.1) (g := (mkF m 676 (own_F pa pb pi cv1 cv2 b3 (vi 2) ao lq1 kq0 kq1 cz47 cz48 dq0 dq1 [vn (ao + 2), vn kt, vn df, vn dt, vn (cl + 1), vn lt, vn (lt + 2), vn kw, vn dfw, vn dtw, vn (cw + 1), vn (cw + 1), vr b49, uu, uu]) [(.ref b49)])) rfl (by rw [hml]; rfl) (argsL := [(.ref b49)]) (rest := []) (lenOf pd_37 rfl) rfl (Nat.le_of_eq rfl) (hb hby at_676) (fun _ _ => ⟨rfl, rfl, (by decide : 3 + 41 ≤ _), (by decide : 48 + 406 ≤ _)⟩)
    dsimp only [Pt.U, Pt.locs, Pt.cells, Pt.slots] at Xr52 l52 y52 z52 st52 hQ52 hSr52 hgr52 CHs52
    obtain ⟨X52, hS52, hZ52, hown52⟩ := rebS hS0 (by omega : 0 ≤ T51.heap.size) Xr52 hSr52 hgr52 hZ hown
    subst l52 y52 z52
    obtain ⟨o52, lL52, lK52, lF52, eL52, eK52, eF52, kL52, kK52, kF52, xL52, xK52, xF52, mL52, mK52, mF52, rfl, Nq52, Kp52, Ms52, AL52, AK52, AF52, cL52, cK52, cF52⟩ := hQ52
    have N52 := Fr.app N51 Nq52
    refine oc (fun tt_ kk_ => st52.trans kk_) ?_
    have CH52 := CH51.trans CHs52
    have sz52 : T51.heap.size ≤ T52.heap.size := Kp52.1
    have O52 : Old Z n0 T52.heap := O51.keep Kp52 all0
    have nL : xL52.length = 3 := own_cont.len cL52
    have nK : xK52.length = 2 := own_cont.len cK52
    have nF : xF52.length = 2 := own_cont.len cF52
    refine ci (XS.astore X52.here hx rfl (hb hby at_679) rfl rfl (l' := (own_F pa pb pi cv1 cv2 b3 (vi 2) ao lq1 kq0 kq1 cz47 cz48 dq0 dq1 [vn (ao + 2), vn kt, vn df, vn dt, vn (cl + 1), vn lt, vn (lt + 2), vn kw, vn dfw, vn dtw, vn (cw + 1), vn (cw + 1), vr b49, vr o52, uu])) rfl) ?_
    refine ci (XS.aload X52.here hx rfl (hb hby at_681) rfl rfl) ?_
    refine sc (A := (T52.setTop (mkF m 683 (own_F pa pb pi cv1 cv2 b3 (vi 2) ao lq1 kq0 kq1 cz47 cz48 dq0 dq1 [vn (ao + 2), vn kt, vn df, vn dt, vn (cl + 1), vn lt, vn (lt + 2), vn kw, vn dfw, vn dtw, vn (cw + 1), vn (cw + 1), vr b49, vr o52, uu]) [(.ref o52)]))) ?_
    obtain ⟨cq53, kq53, q53a, q53b, q53c⟩ := isOf hZ52 rfl Ms52.1
    obtain ⟨_, T53, Lc53, X53, hQ53, st53⟩ := own_c1 X52 <| X52.virtualBack hx (y := ym28) (z := ym28) hown52 (mvT hZ52 (hW 160 _ rfl)) (mvT hZ52 (hW 161 _ rfl)) (notFace_of_selects (args := #[]) (mvT hZ52 (hW 163 _ rfl))) (mvT hZ52 (hW 163 _ rfl)) (mvT hZ52 (hW 162 _ rfl)) (by decide) (backOf (W := 0) (rmPh l Z a0 hw [] o52 b49 lL52 lK52 lF52 dq eK52 kK52 xK52 mK52 T52.heap n0 O52 Ms52 AK52) hZ52 (hW 164 _ rfl) (hW 37 _ rfl) (by decide) (by decide)) q53a q53c (g := (mkF m 683 (own_F pa pb pi cv1 cv2 b3 (vi 2) ao lq1 kq0 kq1 cz47 cz48 dq0 dq1 [vn (ao + 2), vn kt, vn df, vn dt, vn (cl + 1), vn lt, vn (lt + 2), vn kw, vn dfw, vn dtw, vn (cw + 1), vn (cw + 1), vr b49, vr o52, uu]) [(.ref o52)])) rfl (by rw [hml]; rfl) (Steps.refl _) (argsL := []) (rest := []) (lenOf pd_8 rfl) rfl (Nat.le_of_eq rfl) (hb hby at_683) (fun _ _ => ⟨rfl, rfl, (by decide : 44 + 0 ≤ _), (by decide : 454 + 0 ≤ _)⟩)
    obtain ⟨rfl, Nq53, eh53⟩ := hQ53
    have N53 := Fr.app N52 Nq53
    refine oc (fun tt_ kk_ => st53.trans kk_) ?_
    rw [nK]
    refine ci (XS.iload X53.here hx rfl (hb hby at_686) rfl) ?_
    have hb688_54 : (2 : Int32) = (2 : Int32) := by decide
    refine ci (XS.icmpYes X53.here hx rfl (pc0 := 688) (pc' := 693) rfl (hb hby at_688) rfl (teq hb688_54).1 (by decide) (by decide)) ?_
    refine ci (XS.aload X53.here hx rfl (hb hby at_693) rfl rfl) ?_
    refine ci (XS.aload X53.here hx rfl (hb hby at_695) rfl rfl) ?_
    refine sc (A := (T53.setTop (mkF m 697 (own_F pa pb pi cv1 cv2 b3 (vi 2) ao lq1 kq0 kq1 cz47 cz48 dq0 dq1 [vn (ao + 2), vn kt, vn df, vn dt, vn (cl + 1), vn lt, vn (lt + 2), vn kw, vn dfw, vn dtw, vn (cw + 1), vn (cw + 1), vr b49, vr o52, uu]) [(.ref o52), (.ref b49)]))) ?_
    obtain ⟨cq55, kq55, q55a, q55b, q55c⟩ := isOf hZ52 eh53 Ms52.1
    obtain ⟨_, T55, Lc55, X55, hQ55, st55⟩ := own_c1 X53 <| X53.virtualBack hx (y := ym30) (z := ym30) hown52 (mvT hZ52 (hW 173 _ rfl)) (mvT hZ52 (hW 174 _ rfl)) (notFace_of_selects (args := #[]) (mvT hZ52 (hW 176 _ rfl))) (mvT hZ52 (hW 176 _ rfl)) (mvT hZ52 (hW 175 _ rfl)) (by decide) (backOf (W := 1) (rmTo l Z a0 hw [] o52 b49 lL52 lK52 lF52 T52.heap n0 O52 Ms52) hZ52 (hW 177 _ rfl) (hW 37 _ rfl) (by decide) (by decide)) q55a q55c (g := (mkF m 697 (own_F pa pb pi cv1 cv2 b3 (vi 2) ao lq1 kq0 kq1 cz47 cz48 dq0 dq1 [vn (ao + 2), vn kt, vn df, vn dt, vn (cl + 1), vn lt, vn (lt + 2), vn kw, vn dfw, vn dtw, vn (cw + 1), vn (cw + 1), vr b49, vr o52, uu]) [(.ref o52), (.ref b49)])) rfl (by rw [hml]; rfl) (Steps.refl _) (argsL := []) (rest := [(.ref b49)]) (lenOf pd_11 rfl) rfl (Nat.le_of_eq rfl) (hb hby at_697) (fun _ _ => ⟨rfl, eh53, (by decide : 44 + 0 ≤ _), (by decide : 454 + 0 ≤ _)⟩)
    obtain ⟨rfl, Nq55, eh55⟩ := hQ55
    have N55 := Fr.app N53 Nq55
    refine oc (fun tt_ kk_ => st55.trans kk_) ?_
    refine sc (A := (T55.setTop (mkF m 700 (own_F pa pb pi cv1 cv2 b3 (vi 2) ao lq1 kq0 kq1 cz47 cz48 dq0 dq1 [vn (ao + 2), vn kt, vn df, vn dt, vn (cl + 1), vn lt, vn (lt + 2), vn kw, vn dfw, vn dtw, vn (cw + 1), vn (cw + 1), vr b49, vr o52, uu]) [(.ref b49), (.ref b49)]))) ?_
    have f56 : Exa Z T52.heap b49 "java/lang/String" := (Ex_b49.keep Kp52)
    obtain ⟨cq57, kq57, q57a, q57b, q57c⟩ := isOf hZ52 eh55 f56
    obtain ⟨_, T57, Lc57, X57, hQ57, st57⟩ := own_c1 X55 <| X55.virtualBack hx (y := ym31) (z := ym31) hown52 (mvT hZ52 (hW 178 _ rfl)) (mvT hZ52 (hW 179 _ rfl)) (notFace_of_selects (args := #[]) (mvT hZ52 (hW 181 _ rfl))) (mvT hZ52 (hW 181 _ rfl)) (mvT hZ52 (hW 180 _ rfl)) (by decide) (backOf (W := 0) (rmES l Z a0 hw [] b49 T52.heap n0 O52 ) hZ52 (hW 182 _ rfl) (hW 8 _ rfl) (by decide) (by decide)) q57a q57c (g := (mkF m 700 (own_F pa pb pi cv1 cv2 b3 (vi 2) ao lq1 kq0 kq1 cz47 cz48 dq0 dq1 [vn (ao + 2), vn kt, vn df, vn dt, vn (cl + 1), vn lt, vn (lt + 2), vn kw, vn dfw, vn dtw, vn (cw + 1), vn (cw + 1), vr b49, vr o52, uu]) [(.ref b49), (.ref b49)])) rfl (by rw [hml]; rfl) (Steps.refl _) (argsL := [(.ref b49)]) (rest := []) (lenOf pd_29 rfl) rfl (Nat.le_of_eq rfl) (hb hby at_700) (fun _ _ => ⟨rfl, eh55, (by decide : 44 + 0 ≤ _), (by decide : 454 + 0 ≤ _)⟩)
    obtain ⟨rfl, Nq57, eh57⟩ := hQ57
    have N57 := Fr.app N55 Nq57
    refine oc (fun tt_ kk_ => st57.trans kk_) ?_
    have hb703_58 : ¬ ((1 : Int32) = (0 : Int32)) := by decide
    refine ci (XS.ifYes X57.here hx rfl (pc0 := 703) (pc' := 708) rfl (hb hby at_703) rfl ((if0 _ _).trans (feq hb703_58).2) (by decide) (by decide)) ?_
    refine ci (XS.iload X57.here hx rfl (hb hby at_708) rfl) ?_
    have hb710_59 : ¬ ((2 : Int32) = (0 : Int32)) := by decide
    refine ci (XS.ifYes X57.here hx rfl (pc0 := 710) (pc' := 728) rfl (hb hby at_710) rfl ((if0 _ _).trans (feq hb710_59).2) (by decide) (by decide)) ?_
    refine ci (XS.aload X57.here hx rfl (hb hby at_728) rfl rfl) ?_
    refine ci (XS.iconst X57.here hx rfl (hb hby at_730)) ?_
    refine sc (A := (T57.setTop (mkF m 731 (own_F pa pb pi cv1 cv2 b3 (vi 2) ao lq1 kq0 kq1 cz47 cz48 dq0 dq1 [vn (ao + 2), vn kt, vn df, vn dt, vn (cl + 1), vn lt, vn (lt + 2), vn kw, vn dfw, vn dtw, vn (cw + 1), vn (cw + 1), vr b49, vr o52, uu]) [(.int 0), (.ref o52)]))) ?_
    obtain ⟨w60, hy60, yy60, rfl, Sg60⟩ := own_cont.get (i := 0) (o := some (own_sl cs 0 ao)) cL52 rfl
    have Eg60 := Sg60.exa
    obtain ⟨cq61, kq61, q61a, q61b, q61c⟩ := isOf hZ52 eh57 Ms52.1
    obtain ⟨_, T61, Lc61, X61, hQ61, st61⟩ := own_c1 X57 <| X57.virtualBack hx (y := ym32) (z := ym32) hown52 (mvT hZ52 (hW 183 _ rfl)) (mvT hZ52 (hW 184 _ rfl)) (notFace_of_selects (args := #[]) (mvT hZ52 (hW 186 _ rfl))) (mvT hZ52 (hW 186 _ rfl)) (mvT hZ52 (hW 185 _ rfl)) (by decide) (backOf (W := 0) (rmG_literal l Z a0 hw [] o52 b49 lL52 lK52 lF52 dq eL52 kL52 xL52 mL52 0 yy60 T52.heap n0 O52 Ms52 AL52 (List.getElem?_eq_some_iff.mp hy60).1 (by omega) hy60 Eg60) hZ52 (hW 187 _ rfl) (hW 37 _ rfl) (by decide) (by decide)) q61a q61c (g := (mkF m 731 (own_F pa pb pi cv1 cv2 b3 (vi 2) ao lq1 kq0 kq1 cz47 cz48 dq0 dq1 [vn (ao + 2), vn kt, vn df, vn dt, vn (cl + 1), vn lt, vn (lt + 2), vn kw, vn dfw, vn dtw, vn (cw + 1), vn (cw + 1), vr b49, vr o52, uu]) [(.int 0), (.ref o52)])) rfl (by rw [hml]; rfl) (Steps.refl _) (argsL := [(.int 0)]) (rest := []) (lenOf pd_28 rfl) rfl (Nat.le_of_eq rfl) (hb hby at_731) (fun _ _ => ⟨rfl, eh57, (by decide : 44 + 0 ≤ _), (by decide : 454 + 0 ≤ _)⟩)
    obtain ⟨rfl, Nq61, eh61⟩ := hQ61
    have N61 := Fr.app N57 Nq61
    refine oc (fun tt_ kk_ => st61.trans kk_) ?_
    refine ci (XS.aload X61.here hx rfl (hb hby at_734) rfl rfl) ?_
    refine ci (XS.iconst X61.here hx rfl (hb hby at_736)) ?_
    refine ci (XS.iload X61.here hx rfl (hb hby at_737) rfl) ?_
    refine sc (A := (T61.setTop (mkF m 739 (own_F pa pb pi cv1 cv2 b3 (vi 2) ao lq1 kq0 kq1 cz47 cz48 dq0 dq1 [vn (ao + 2), vn kt, vn df, vn dt, vn (cl + 1), vn lt, vn (lt + 2), vn kw, vn dfw, vn dtw, vn (cw + 1), vn (cw + 1), vr b49, vr o52, uu]) [(.int (Int32.ofNat ao)), (.int 0), (.ref b3), (.ref yy60)]))) ?_
    have f62 : Arv Z T52.heap b3 k3 .char (22 : Int32) (cs.map Value.int) (.int 0) := ((f50.keep Kp51 (ninS (one (by omega)) nin0)).keep Kp52 nin0)
    obtain ⟨_, T63, Lc63, X63, hQ63, st63⟩ := own_c1 X61 <| Jvm.LawKit.callS X61 hx (y := ym37) hown52 (mvT hZ52 (hW 209 _ rfl)) (mvT hZ52 (hW 210 _ rfl)) (mvT hZ52 (hW 2 _ rfl)) (mvT hZ52 (hW 211 _ rfl)) (by decide) (backOf (W := 0) (rmPt l Z a0 hw [] yy60 b3 k3 cs 0 ao Gc fm T52.heap n0 O52 Oc Pc Of hfm Sg60 f62 hok (by omega) (by omega)) hZ52 (hW 211 _ rfl) (hW 2 _ rfl) (by decide) (by decide)) (g := (mkF m 739 (own_F pa pb pi cv1 cv2 b3 (vi 2) ao lq1 kq0 kq1 cz47 cz48 dq0 dq1 [vn (ao + 2), vn kt, vn df, vn dt, vn (cl + 1), vn lt, vn (lt + 2), vn kw, vn dfw, vn dtw, vn (cw + 1), vn (cw + 1), vr b49, vr o52, uu]) [(.int (Int32.ofNat ao)), (.int 0), (.ref b3), (.ref yy60)])) rfl (by rw [hml]; rfl) (argsL := [(.ref yy60), (.ref b3), (.int 0), (.int (Int32.ofNat ao))]) (rest := []) (lenOf pd_34 rfl) rfl (Nat.le_of_eq rfl) (hb hby at_739) (fun _ _ => ⟨rfl, eh61, (by decide : 44 + 0 ≤ _), (by decide : 454 + 0 ≤ _)⟩)
    obtain ⟨rfl, Nq63, eh63⟩ := hQ63
    have N63 := Fr.app N61 Nq63
    refine oc st63 ?_
    have hb742_64 : ¬ ((1 : Int32) = (0 : Int32)) := by decide
    refine ci (XS.ifNo X63.here hx rfl (hb hby at_742) rfl ((if0 _ _).trans (feq hb742_64).1)) ?_
    refine ci (XS.aload X63.here hx rfl (hb hby at_745) rfl rfl) ?_
    refine ci (XS.iconst X63.here hx rfl (hb hby at_747)) ?_
    refine sc (A := (T63.setTop (mkF m 748 (own_F pa pb pi cv1 cv2 b3 (vi 2) ao lq1 kq0 kq1 cz47 cz48 dq0 dq1 [vn (ao + 2), vn kt, vn df, vn dt, vn (cl + 1), vn lt, vn (lt + 2), vn kw, vn dfw, vn dtw, vn (cw + 1), vn (cw + 1), vr b49, vr o52, uu]) [(.int 0), (.ref o52)]))) ?_
    obtain ⟨w65, hy65, yy65, rfl, Sg65⟩ := own_cont.get (i := 0) (o := some (own_sl cs (ao + 2) kt)) cK52 rfl
    have Eg65 := Sg65.exa
    obtain ⟨cq66, kq66, q66a, q66b, q66c⟩ := isOf hZ52 eh63 Ms52.1
    obtain ⟨_, T66, Lc66, X66, hQ66, st66⟩ := own_c1 X63 <| X63.virtualBack hx (y := ym61) (z := ym61) hown52 (mvT hZ52 (hW 314 _ rfl)) (mvT hZ52 (hW 315 _ rfl)) (notFace_of_selects (args := #[]) (mvT hZ52 (hW 317 _ rfl))) (mvT hZ52 (hW 317 _ rfl)) (mvT hZ52 (hW 316 _ rfl)) (by decide) (backOf (W := 0) (rmG_key l Z a0 hw [] o52 b49 lL52 lK52 lF52 dq eK52 kK52 xK52 mK52 0 yy65 T52.heap n0 O52 Ms52 AK52 (List.getElem?_eq_some_iff.mp hy65).1 (by omega) hy65 Eg65) hZ52 (hW 318 _ rfl) (hW 37 _ rfl) (by decide) (by decide)) q66a q66c (g := (mkF m 748 (own_F pa pb pi cv1 cv2 b3 (vi 2) ao lq1 kq0 kq1 cz47 cz48 dq0 dq1 [vn (ao + 2), vn kt, vn df, vn dt, vn (cl + 1), vn lt, vn (lt + 2), vn kw, vn dfw, vn dtw, vn (cw + 1), vn (cw + 1), vr b49, vr o52, uu]) [(.int 0), (.ref o52)])) rfl (by rw [hml]; rfl) (Steps.refl _) (argsL := [(.int 0)]) (rest := []) (lenOf pd_28 rfl) rfl (Nat.le_of_eq rfl) (hb hby at_748) (fun _ _ => ⟨rfl, eh63, (by decide : 44 + 0 ≤ _), (by decide : 454 + 0 ≤ _)⟩)
    obtain ⟨rfl, Nq66, eh66⟩ := hQ66
    have N66 := Fr.app N63 Nq66
    refine oc (fun tt_ kk_ => st66.trans kk_) ?_
    refine ci (XS.aload X66.here hx rfl (hb hby at_751) rfl rfl) ?_
    refine ci (XS.iload X66.here hx rfl (hb hby at_753) rfl) ?_
    refine ci (XS.iload X66.here hx rfl (hb hby at_755) rfl) ?_
    refine sc (A := (T66.setTop (mkF m 757 (own_F pa pb pi cv1 cv2 b3 (vi 2) ao lq1 kq0 kq1 cz47 cz48 dq0 dq1 [vn (ao + 2), vn kt, vn df, vn dt, vn (cl + 1), vn lt, vn (lt + 2), vn kw, vn dfw, vn dtw, vn (cw + 1), vn (cw + 1), vr b49, vr o52, uu]) [(.int (Int32.ofNat kt)), (.int (Int32.ofNat (ao + 2))), (.ref b3), (.ref yy65)]))) ?_
    obtain ⟨_, T67, Lc67, X67, hQ67, st67⟩ := own_c1 X66 <| Jvm.LawKit.callS X66 hx (y := ym37) hown52 (mvT hZ52 (hW 209 _ rfl)) (mvT hZ52 (hW 210 _ rfl)) (mvT hZ52 (hW 2 _ rfl)) (mvT hZ52 (hW 211 _ rfl)) (by decide) (backOf (W := 0) (rmPt l Z a0 hw [] yy65 b3 k3 cs (ao + 2) kt Gc fm T52.heap n0 O52 Oc Pc Of hfm Sg65 f62 hok (by omega) (by omega)) hZ52 (hW 211 _ rfl) (hW 2 _ rfl) (by decide) (by decide)) (g := (mkF m 757 (own_F pa pb pi cv1 cv2 b3 (vi 2) ao lq1 kq0 kq1 cz47 cz48 dq0 dq1 [vn (ao + 2), vn kt, vn df, vn dt, vn (cl + 1), vn lt, vn (lt + 2), vn kw, vn dfw, vn dtw, vn (cw + 1), vn (cw + 1), vr b49, vr o52, uu]) [(.int (Int32.ofNat kt)), (.int (Int32.ofNat (ao + 2))), (.ref b3), (.ref yy65)])) rfl (by rw [hml]; rfl) (argsL := [(.ref yy65), (.ref b3), (.int (Int32.ofNat (ao + 2))), (.int (Int32.ofNat kt))]) (rest := []) (lenOf pd_34 rfl) rfl (Nat.le_of_eq rfl) (hb hby at_757) (fun _ _ => ⟨rfl, eh66, (by decide : 44 + 0 ≤ _), (by decide : 454 + 0 ≤ _)⟩)
    obtain ⟨rfl, Nq67, eh67⟩ := hQ67
    have N67 := Fr.app N66 Nq67
    refine oc st67 ?_
    have hb760_68 : ¬ ((1 : Int32) = (0 : Int32)) := by decide
    refine ci (XS.ifNo X67.here hx rfl (hb hby at_760) rfl ((if0 _ _).trans (feq hb760_68).1)) ?_
    refine sc (A := (T67.setTop (mkF m 763 (own_F pa pb pi cv1 cv2 b3 (vi 2) ao lq1 kq0 kq1 cz47 cz48 dq0 dq1 [vn (ao + 2), vn kt, vn df, vn dt, vn (cl + 1), vn lt, vn (lt + 2), vn kw, vn dfw, vn dtw, vn (cw + 1), vn (cw + 1), vr b49, vr o52, uu]) []))) ?_
    have Jq69 : ∀ (T' : State) (ls' : List Loc), Stand p l e room_1 (s.setVm T52.vm) m #[(.long pa), (.long pb), (.int pi)] below meth c T' ls' 44 454 → T'.heap = T52.heap → Fr n0 ls' → own_gc p e below s Z own_EL (Q_rm0 Z pa pb pi dq kd Gc fm h0 n0) room_1.cells room_1.slots (T'.setTop (mkF m 788 (own_F pa pb pi cv1 cv2 b3 (vi 2) ao lq1 kq0 kq1 cz47 cz48 dq0 dq1 [vn (ao + 2), vn kt, vn df, vn dt, vn (cl + 1), vn lt, vn (lt + 2), vn kw, vn dfw, vn dtw, vn (cw + 1), vn (cw + 1), vr b49, vr o52, uu]) [(.int 1)])) := by
     intro T69 l69 X69 e69 N69
     refine sc (A := (T69.setTop (mkF m 788 (own_F pa pb pi cv1 cv2 b3 (vi 2) ao lq1 kq0 kq1 cz47 cz48 dq0 dq1 [vn (ao + 2), vn kt, vn df, vn dt, vn (cl + 1), vn lt, vn (lt + 2), vn kw, vn dfw, vn dtw, vn (cw + 1), vn (cw + 1), vr b49, vr o52, uu]) [(.int 1)]))) ?_
     refine ci (XS.istore X69.here hx rfl (hb hby at_788) rfl (l' := (own_F pa pb pi cv1 cv2 b3 (vi 2) ao lq1 kq0 kq1 cz47 cz48 dq0 dq1 [vn (ao + 2), vn kt, vn df, vn dt, vn (cl + 1), vn lt, vn (lt + 2), vn kw, vn dfw, vn dtw, vn (cw + 1), vn (cw + 1), vr b49, vr o52, vi 1])) rfl) ?_
     refine ci (XS.iload X69.here hx rfl (hb hby at_790) rfl) ?_
     refine ci (XS.iconst X69.here hx rfl (hb hby at_792)) ?_
     have hb793_70 : ¬ ((2 : Int32) = (1 : Int32)) := by decide
     refine ci (XS.icmpYes X69.here hx rfl (pc0 := 793) (pc' := 825) rfl (hb hby at_793) rfl (feq hb793_70).2 (by decide) (by decide)) ?_
     refine ci (XS.iload X69.here hx rfl (hb hby at_825) rfl) ?_
     have hb827_71 : ¬ ((1 : Int32) = (0 : Int32)) := by decide
     refine ci (XS.ifNo X69.here hx rfl (hb hby at_827) rfl ((if0 _ _).trans (feq hb827_71).1)) ?_
     refine ci (XS.aload X69.here hx rfl (hb hby at_830) rfl rfl) ?_
     refine ci (XS.iconst X69.here hx rfl (hb hby at_832)) ?_
     refine sc (A := (T69.setTop (mkF m 833 (own_F pa pb pi cv1 cv2 b3 (vi 2) ao lq1 kq0 kq1 cz47 cz48 dq0 dq1 [vn (ao + 2), vn kt, vn df, vn dt, vn (cl + 1), vn lt, vn (lt + 2), vn kw, vn dfw, vn dtw, vn (cw + 1), vn (cw + 1), vr b49, vr o52, vi 1]) [(.int 1), (.ref o52)]))) ?_
     obtain ⟨w72, hy72, yy72, rfl, Sg72⟩ := own_cont.get (i := 1) (o := some (own_sl cs (cl + 1) lt)) cL52 rfl
     have Eg72 := Sg72.exa
     obtain ⟨cq73, kq73, q73a, q73b, q73c⟩ := isOf hZ52 e69 Ms52.1
     obtain ⟨_, T73, Lc73, X73, hQ73, st73⟩ := own_c1 X69 <| X69.virtualBack hx (y := ym32) (z := ym32) hown52 (mvT hZ52 (hW 183 _ rfl)) (mvT hZ52 (hW 184 _ rfl)) (notFace_of_selects (args := #[]) (mvT hZ52 (hW 186 _ rfl))) (mvT hZ52 (hW 186 _ rfl)) (mvT hZ52 (hW 185 _ rfl)) (by decide) (backOf (W := 0) (rmG_literal l Z a0 hw [] o52 b49 lL52 lK52 lF52 dq eL52 kL52 xL52 mL52 1 yy72 T52.heap n0 O52 Ms52 AL52 (List.getElem?_eq_some_iff.mp hy72).1 (by omega) hy72 Eg72) hZ52 (hW 187 _ rfl) (hW 37 _ rfl) (by decide) (by decide)) q73a q73c (g := (mkF m 833 (own_F pa pb pi cv1 cv2 b3 (vi 2) ao lq1 kq0 kq1 cz47 cz48 dq0 dq1 [vn (ao + 2), vn kt, vn df, vn dt, vn (cl + 1), vn lt, vn (lt + 2), vn kw, vn dfw, vn dtw, vn (cw + 1), vn (cw + 1), vr b49, vr o52, vi 1]) [(.int 1), (.ref o52)])) rfl (by rw [hml]; rfl) (Steps.refl _) (argsL := [(.int 1)]) (rest := []) (lenOf pd_28 rfl) rfl (Nat.le_of_eq rfl) (hb hby at_833) (fun _ _ => ⟨rfl, e69, (by decide : 44 + 0 ≤ _), (by decide : 454 + 0 ≤ _)⟩)
     obtain ⟨rfl, Nq73, eh73⟩ := hQ73
     have N73 := Fr.app N69 Nq73
     refine oc (fun tt_ kk_ => st73.trans kk_) ?_
     refine ci (XS.aload X73.here hx rfl (hb hby at_836) rfl rfl) ?_
     refine ci (XS.iload X73.here hx rfl (hb hby at_838) rfl) ?_
     refine ci (XS.iload X73.here hx rfl (hb hby at_840) rfl) ?_
     refine sc (A := (T73.setTop (mkF m 842 (own_F pa pb pi cv1 cv2 b3 (vi 2) ao lq1 kq0 kq1 cz47 cz48 dq0 dq1 [vn (ao + 2), vn kt, vn df, vn dt, vn (cl + 1), vn lt, vn (lt + 2), vn kw, vn dfw, vn dtw, vn (cw + 1), vn (cw + 1), vr b49, vr o52, vi 1]) [(.int (Int32.ofNat lt)), (.int (Int32.ofNat (cl + 1))), (.ref b3), (.ref yy72)]))) ?_
     obtain ⟨_, T74, Lc74, X74, hQ74, st74⟩ := own_c1 X73 <| Jvm.LawKit.callS X73 hx (y := ym37) hown52 (mvT hZ52 (hW 209 _ rfl)) (mvT hZ52 (hW 210 _ rfl)) (mvT hZ52 (hW 2 _ rfl)) (mvT hZ52 (hW 211 _ rfl)) (by decide) (backOf (W := 0) (rmPt l Z a0 hw [] yy72 b3 k3 cs (cl + 1) lt Gc fm T52.heap n0 O52 Oc Pc Of hfm Sg72 f62 hok (by omega) (by omega)) hZ52 (hW 211 _ rfl) (hW 2 _ rfl) (by decide) (by decide)) (g := (mkF m 842 (own_F pa pb pi cv1 cv2 b3 (vi 2) ao lq1 kq0 kq1 cz47 cz48 dq0 dq1 [vn (ao + 2), vn kt, vn df, vn dt, vn (cl + 1), vn lt, vn (lt + 2), vn kw, vn dfw, vn dtw, vn (cw + 1), vn (cw + 1), vr b49, vr o52, vi 1]) [(.int (Int32.ofNat lt)), (.int (Int32.ofNat (cl + 1))), (.ref b3), (.ref yy72)])) rfl (by rw [hml]; rfl) (argsL := [(.ref yy72), (.ref b3), (.int (Int32.ofNat (cl + 1))), (.int (Int32.ofNat lt))]) (rest := []) (lenOf pd_34 rfl) rfl (Nat.le_of_eq rfl) (hb hby at_842) (fun _ _ => ⟨rfl, eh73, (by decide : 44 + 0 ≤ _), (by decide : 454 + 0 ≤ _)⟩)
     obtain ⟨rfl, Nq74, eh74⟩ := hQ74
     have N74 := Fr.app N73 Nq74
     refine oc st74 ?_
     have hb845_75 : ¬ ((1 : Int32) = (0 : Int32)) := by decide
     refine ci (XS.ifNo X74.here hx rfl (hb hby at_845) rfl ((if0 _ _).trans (feq hb845_75).1)) ?_
     refine ci (XS.aload X74.here hx rfl (hb hby at_848) rfl rfl) ?_
     refine ci (XS.iconst X74.here hx rfl (hb hby at_850)) ?_
     refine sc (A := (T74.setTop (mkF m 851 (own_F pa pb pi cv1 cv2 b3 (vi 2) ao lq1 kq0 kq1 cz47 cz48 dq0 dq1 [vn (ao + 2), vn kt, vn df, vn dt, vn (cl + 1), vn lt, vn (lt + 2), vn kw, vn dfw, vn dtw, vn (cw + 1), vn (cw + 1), vr b49, vr o52, vi 1]) [(.int 1), (.ref o52)]))) ?_
     obtain ⟨w76, hy76, yy76, rfl, Sg76⟩ := own_cont.get (i := 1) (o := some (own_sl cs (lt + 2) kw)) cK52 rfl
     have Eg76 := Sg76.exa
     obtain ⟨cq77, kq77, q77a, q77b, q77c⟩ := isOf hZ52 eh74 Ms52.1
     obtain ⟨_, T77, Lc77, X77, hQ77, st77⟩ := own_c1 X74 <| X74.virtualBack hx (y := ym61) (z := ym61) hown52 (mvT hZ52 (hW 314 _ rfl)) (mvT hZ52 (hW 315 _ rfl)) (notFace_of_selects (args := #[]) (mvT hZ52 (hW 317 _ rfl))) (mvT hZ52 (hW 317 _ rfl)) (mvT hZ52 (hW 316 _ rfl)) (by decide) (backOf (W := 0) (rmG_key l Z a0 hw [] o52 b49 lL52 lK52 lF52 dq eK52 kK52 xK52 mK52 1 yy76 T52.heap n0 O52 Ms52 AK52 (List.getElem?_eq_some_iff.mp hy76).1 (by omega) hy76 Eg76) hZ52 (hW 318 _ rfl) (hW 37 _ rfl) (by decide) (by decide)) q77a q77c (g := (mkF m 851 (own_F pa pb pi cv1 cv2 b3 (vi 2) ao lq1 kq0 kq1 cz47 cz48 dq0 dq1 [vn (ao + 2), vn kt, vn df, vn dt, vn (cl + 1), vn lt, vn (lt + 2), vn kw, vn dfw, vn dtw, vn (cw + 1), vn (cw + 1), vr b49, vr o52, vi 1]) [(.int 1), (.ref o52)])) rfl (by rw [hml]; rfl) (Steps.refl _) (argsL := [(.int 1)]) (rest := []) (lenOf pd_28 rfl) rfl (Nat.le_of_eq rfl) (hb hby at_851) (fun _ _ => ⟨rfl, eh74, (by decide : 44 + 0 ≤ _), (by decide : 454 + 0 ≤ _)⟩)
     obtain ⟨rfl, Nq77, eh77⟩ := hQ77
     have N77 := Fr.app N74 Nq77
     refine oc (fun tt_ kk_ => st77.trans kk_) ?_
     refine ci (XS.aload X77.here hx rfl (hb hby at_854) rfl rfl) ?_
     refine ci (XS.iload X77.here hx rfl (hb hby at_856) rfl) ?_
     refine ci (XS.iload X77.here hx rfl (hb hby at_858) rfl) ?_
     refine sc (A := (T77.setTop (mkF m 860 (own_F pa pb pi cv1 cv2 b3 (vi 2) ao lq1 kq0 kq1 cz47 cz48 dq0 dq1 [vn (ao + 2), vn kt, vn df, vn dt, vn (cl + 1), vn lt, vn (lt + 2), vn kw, vn dfw, vn dtw, vn (cw + 1), vn (cw + 1), vr b49, vr o52, vi 1]) [(.int (Int32.ofNat kw)), (.int (Int32.ofNat (lt + 2))), (.ref b3), (.ref yy76)]))) ?_
     obtain ⟨_, T78, Lc78, X78, hQ78, st78⟩ := own_c1 X77 <| Jvm.LawKit.callS X77 hx (y := ym37) hown52 (mvT hZ52 (hW 209 _ rfl)) (mvT hZ52 (hW 210 _ rfl)) (mvT hZ52 (hW 2 _ rfl)) (mvT hZ52 (hW 211 _ rfl)) (by decide) (backOf (W := 0) (rmPt l Z a0 hw [] yy76 b3 k3 cs (lt + 2) kw Gc fm T52.heap n0 O52 Oc Pc Of hfm Sg76 f62 hok (by omega) (by omega)) hZ52 (hW 211 _ rfl) (hW 2 _ rfl) (by decide) (by decide)) (g := (mkF m 860 (own_F pa pb pi cv1 cv2 b3 (vi 2) ao lq1 kq0 kq1 cz47 cz48 dq0 dq1 [vn (ao + 2), vn kt, vn df, vn dt, vn (cl + 1), vn lt, vn (lt + 2), vn kw, vn dfw, vn dtw, vn (cw + 1), vn (cw + 1), vr b49, vr o52, vi 1]) [(.int (Int32.ofNat kw)), (.int (Int32.ofNat (lt + 2))), (.ref b3), (.ref yy76)])) rfl (by rw [hml]; rfl) (argsL := [(.ref yy76), (.ref b3), (.int (Int32.ofNat (lt + 2))), (.int (Int32.ofNat kw))]) (rest := []) (lenOf pd_34 rfl) rfl (Nat.le_of_eq rfl) (hb hby at_860) (fun _ _ => ⟨rfl, eh77, (by decide : 44 + 0 ≤ _), (by decide : 454 + 0 ≤ _)⟩)
     obtain ⟨rfl, Nq78, eh78⟩ := hQ78
     have N78 := Fr.app N77 Nq78
     refine oc st78 ?_
     have hb863_79 : ¬ ((1 : Int32) = (0 : Int32)) := by decide
     refine ci (XS.ifNo X78.here hx rfl (hb hby at_863) rfl ((if0 _ _).trans (feq hb863_79).1)) ?_
     refine sc (A := (T78.setTop (mkF m 866 (own_F pa pb pi cv1 cv2 b3 (vi 2) ao lq1 kq0 kq1 cz47 cz48 dq0 dq1 [vn (ao + 2), vn kt, vn df, vn dt, vn (cl + 1), vn lt, vn (lt + 2), vn kw, vn dfw, vn dtw, vn (cw + 1), vn (cw + 1), vr b49, vr o52, vi 1]) []))) ?_
     have Jq80 : ∀ (T' : State) (ls' : List Loc), Stand p l e room_1 (s.setVm T52.vm) m #[(.long pa), (.long pb), (.int pi)] below meth c T' ls' 44 454 → T'.heap = T52.heap → Fr n0 ls' → own_gc p e below s Z own_EL (Q_rm0 Z pa pb pi dq kd Gc fm h0 n0) room_1.cells room_1.slots (T'.setTop (mkF m 886 (own_F pa pb pi cv1 cv2 b3 (vi 2) ao lq1 kq0 kq1 cz47 cz48 dq0 dq1 [vn (ao + 2), vn kt, vn df, vn dt, vn (cl + 1), vn lt, vn (lt + 2), vn kw, vn dfw, vn dtw, vn (cw + 1), vn (cw + 1), vr b49, vr o52, vi 1]) [])) := by
      intro T80 l80 X80 e80 N80
      refine sc (A := (T80.setTop (mkF m 886 (own_F pa pb pi cv1 cv2 b3 (vi 2) ao lq1 kq0 kq1 cz47 cz48 dq0 dq1 [vn (ao + 2), vn kt, vn df, vn dt, vn (cl + 1), vn lt, vn (lt + 2), vn kw, vn dfw, vn dtw, vn (cw + 1), vn (cw + 1), vr b49, vr o52, vi 1]) []))) ?_
      refine ci (XS.aload X80.here hx rfl (hb hby at_886) rfl rfl) ?_
      refine ci (XS.iconst X80.here hx rfl (hb hby at_888)) ?_
      refine sc (A := (T80.setTop (mkF m 889 (own_F pa pb pi cv1 cv2 b3 (vi 2) ao lq1 kq0 kq1 cz47 cz48 dq0 dq1 [vn (ao + 2), vn kt, vn df, vn dt, vn (cl + 1), vn lt, vn (lt + 2), vn kw, vn dfw, vn dtw, vn (cw + 1), vn (cw + 1), vr b49, vr o52, vi 1]) [(.int 2), (.ref o52)]))) ?_
      obtain ⟨w81, hy81, yy81, rfl, Sg81⟩ := own_cont.get (i := 2) (o := some (own_sl cs (cw + 1) 22)) cL52 rfl
      have Eg81 := Sg81.exa
      obtain ⟨cq82, kq82, q82a, q82b, q82c⟩ := isOf hZ52 e80 Ms52.1
      obtain ⟨_, T82, Lc82, X82, hQ82, st82⟩ := own_c1 X80 <| X80.virtualBack hx (y := ym32) (z := ym32) hown52 (mvT hZ52 (hW 183 _ rfl)) (mvT hZ52 (hW 184 _ rfl)) (notFace_of_selects (args := #[]) (mvT hZ52 (hW 186 _ rfl))) (mvT hZ52 (hW 186 _ rfl)) (mvT hZ52 (hW 185 _ rfl)) (by decide) (backOf (W := 0) (rmG_literal l Z a0 hw [] o52 b49 lL52 lK52 lF52 dq eL52 kL52 xL52 mL52 2 yy81 T52.heap n0 O52 Ms52 AL52 (List.getElem?_eq_some_iff.mp hy81).1 (by omega) hy81 Eg81) hZ52 (hW 187 _ rfl) (hW 37 _ rfl) (by decide) (by decide)) q82a q82c (g := (mkF m 889 (own_F pa pb pi cv1 cv2 b3 (vi 2) ao lq1 kq0 kq1 cz47 cz48 dq0 dq1 [vn (ao + 2), vn kt, vn df, vn dt, vn (cl + 1), vn lt, vn (lt + 2), vn kw, vn dfw, vn dtw, vn (cw + 1), vn (cw + 1), vr b49, vr o52, vi 1]) [(.int 2), (.ref o52)])) rfl (by rw [hml]; rfl) (Steps.refl _) (argsL := [(.int 2)]) (rest := []) (lenOf pd_28 rfl) rfl (Nat.le_of_eq rfl) (hb hby at_889) (fun _ _ => ⟨rfl, e80, (by decide : 44 + 0 ≤ _), (by decide : 454 + 0 ≤ _)⟩)
      obtain ⟨rfl, Nq82, eh82⟩ := hQ82
      have N82 := Fr.app N80 Nq82
      refine oc (fun tt_ kk_ => st82.trans kk_) ?_
      refine ci (XS.aload X82.here hx rfl (hb hby at_892) rfl rfl) ?_
      refine ci (XS.iload X82.here hx rfl (hb hby at_894) rfl) ?_
      refine ci (XS.bipush X82.here hx rfl (hb hby at_896)) ?_
      refine sc (A := (T82.setTop (mkF m 898 (own_F pa pb pi cv1 cv2 b3 (vi 2) ao lq1 kq0 kq1 cz47 cz48 dq0 dq1 [vn (ao + 2), vn kt, vn df, vn dt, vn (cl + 1), vn lt, vn (lt + 2), vn kw, vn dfw, vn dtw, vn (cw + 1), vn (cw + 1), vr b49, vr o52, vi 1]) [(.int 22), (.int (Int32.ofNat (cw + 1))), (.ref b3), (.ref yy81)]))) ?_
      obtain ⟨_, T83, Lc83, X83, hQ83, st83⟩ := own_c1 X82 <| Jvm.LawKit.callS X82 hx (y := ym37) hown52 (mvT hZ52 (hW 209 _ rfl)) (mvT hZ52 (hW 210 _ rfl)) (mvT hZ52 (hW 2 _ rfl)) (mvT hZ52 (hW 211 _ rfl)) (by decide) (backOf (W := 0) (rmPt l Z a0 hw [] yy81 b3 k3 cs (cw + 1) 22 Gc fm T52.heap n0 O52 Oc Pc Of hfm Sg81 f62 hok (by omega) (by omega)) hZ52 (hW 211 _ rfl) (hW 2 _ rfl) (by decide) (by decide)) (g := (mkF m 898 (own_F pa pb pi cv1 cv2 b3 (vi 2) ao lq1 kq0 kq1 cz47 cz48 dq0 dq1 [vn (ao + 2), vn kt, vn df, vn dt, vn (cl + 1), vn lt, vn (lt + 2), vn kw, vn dfw, vn dtw, vn (cw + 1), vn (cw + 1), vr b49, vr o52, vi 1]) [(.int 22), (.int (Int32.ofNat (cw + 1))), (.ref b3), (.ref yy81)])) rfl (by rw [hml]; rfl) (argsL := [(.ref yy81), (.ref b3), (.int (Int32.ofNat (cw + 1))), (.int 22)]) (rest := []) (lenOf pd_34 rfl) rfl (Nat.le_of_eq rfl) (hb hby at_898) (fun _ _ => ⟨rfl, eh82, (by decide : 44 + 0 ≤ _), (by decide : 454 + 0 ≤ _)⟩)
      obtain ⟨rfl, Nq83, eh83⟩ := hQ83
      have N83 := Fr.app N82 Nq83
      refine oc st83 ?_
      have hb901_84 : ¬ ((1 : Int32) = (0 : Int32)) := by decide
      refine ci (XS.ifNo X83.here hx rfl (hb hby at_901) rfl ((if0 _ _).trans (feq hb901_84).1)) ?_
      refine ci (XS.iconst X83.here hx rfl (hb hby at_904)) ?_
      refine ci (XS.goto X83.here hx rfl (pc0 := 905) (pc' := 909) rfl (hb hby at_905) (by decide) (by decide)) ?_
      refine sc (A := (T83.setTop (mkF m 909 (own_F pa pb pi cv1 cv2 b3 (vi 2) ao lq1 kq0 kq1 cz47 cz48 dq0 dq1 [vn (ao + 2), vn kt, vn df, vn dt, vn (cl + 1), vn lt, vn (lt + 2), vn kw, vn dfw, vn dtw, vn (cw + 1), vn (cw + 1), vr b49, vr o52, vi 1]) [(.int 1)]))) ?_
      refine own_retc X83 hx hlk hS52 (by rw [eh83]; omega : T52.heap.size ≤ T83.heap.size) hZ52 hEL (by rw [eh83]; exact CH52) Bd.returns rfl (Or.inl ⟨rfl, by simp, _, rfl⟩) (hb hby at_909) (by decide) (by decide) ?_
      rw [eh83]
      exact ⟨rfl, N83⟩
     refine sc (A := (T78.setTop (mkF m 866 (own_F pa pb pi cv1 cv2 b3 (vi 2) ao lq1 kq0 kq1 cz47 cz48 dq0 dq1 [vn (ao + 2), vn kt, vn df, vn dt, vn (cl + 1), vn lt, vn (lt + 2), vn kw, vn dfw, vn dtw, vn (cw + 1), vn (cw + 1), vr b49, vr o52, vi 1]) []))) ?_
     refine ci (XS.aload X78.here hx rfl (hb hby at_866) rfl rfl) ?_
     refine ci (XS.iconst X78.here hx rfl (hb hby at_868)) ?_
     refine sc (A := (T78.setTop (mkF m 869 (own_F pa pb pi cv1 cv2 b3 (vi 2) ao lq1 kq0 kq1 cz47 cz48 dq0 dq1 [vn (ao + 2), vn kt, vn df, vn dt, vn (cl + 1), vn lt, vn (lt + 2), vn kw, vn dfw, vn dtw, vn (cw + 1), vn (cw + 1), vr b49, vr o52, vi 1]) [(.int 1), (.ref o52)]))) ?_
     rcases HG with ⟨rfl, hf1, hf2, hf3⟩ | ⟨rfl, hf1⟩
     ·have b9_ : kw < cw := PL2.2.2.2.2.2.2.2.2.elim (fun q => q.2.1) (fun q => by cases q.1)
      have hf4 := hf3.symm
      subst hf2 hf4
      refine sc (A := (T78.setTop (mkF m 869 (own_F pa pb pi cv1 cv2 b3 (vi 2) ao lq1 kq0 kq1 cz47 cz48 dq0 dq1 [vn (ao + 2), vn kt, vn df, vn dt, vn (cl + 1), vn lt, vn (lt + 2), vn kw, vn (kw + 1), vn cw, vn (cw + 1), vn (cw + 1), vr b49, vr o52, vi 1]) [(.int 1), (.ref o52)]))) ?_
      obtain ⟨w85, hy85, yy85, rfl, Sg85⟩ := own_cont.get (i := 1) (o := some (own_sl cs (kw + 1) cw)) cF52 rfl
      have Eg85 := Sg85.exa
      obtain ⟨cq86, kq86, q86a, q86b, q86c⟩ := isOf hZ52 eh78 Ms52.1
      obtain ⟨_, T86, Lc86, X86, hQ86, st86⟩ := own_c1 X78 <| X78.virtualBack hx (y := ym62) (z := ym62) hown52 (mvT hZ52 (hW 319 _ rfl)) (mvT hZ52 (hW 320 _ rfl)) (notFace_of_selects (args := #[]) (mvT hZ52 (hW 322 _ rfl))) (mvT hZ52 (hW 322 _ rfl)) (mvT hZ52 (hW 321 _ rfl)) (by decide) (backOf (W := 0) (rmG_fallback l Z a0 hw [] o52 b49 lL52 lK52 lF52 dq eF52 kF52 xF52 mF52 1 yy85 T52.heap n0 O52 Ms52 AF52 (List.getElem?_eq_some_iff.mp hy85).1 (by omega) hy85 Eg85) hZ52 (hW 323 _ rfl) (hW 37 _ rfl) (by decide) (by decide)) q86a q86c (g := (mkF m 869 (own_F pa pb pi cv1 cv2 b3 (vi 2) ao lq1 kq0 kq1 cz47 cz48 dq0 dq1 [vn (ao + 2), vn kt, vn df, vn dt, vn (cl + 1), vn lt, vn (lt + 2), vn kw, vn (kw + 1), vn cw, vn (cw + 1), vn (cw + 1), vr b49, vr o52, vi 1]) [(.int 1), (.ref o52)])) rfl (by rw [hml]; rfl) (Steps.refl _) (argsL := [(.int 1)]) (rest := []) (lenOf pd_28 rfl) rfl (Nat.le_of_eq rfl) (hb hby at_869) (fun _ _ => ⟨rfl, eh78, (by decide : 44 + 0 ≤ _), (by decide : 454 + 0 ≤ _)⟩)
      obtain ⟨rfl, Nq86, eh86⟩ := hQ86
      have N86 := Fr.app N78 Nq86
      refine oc (fun tt_ kk_ => st86.trans kk_) ?_
      refine sc (A := (T86.setTop (mkF m 872 (own_F pa pb pi cv1 cv2 b3 (vi 2) ao lq1 kq0 kq1 cz47 cz48 dq0 dq1 [vn (ao + 2), vn kt, vn df, vn dt, vn (cl + 1), vn lt, vn (lt + 2), vn kw, vn (kw + 1), vn cw, vn (cw + 1), vn (cw + 1), vr b49, vr o52, vi 1]) [(.ref yy85)]))) ?_
      refine ci (XS.iload X86.here hx rfl (hb hby at_872) rfl) ?_
      refine ci (XS.aload X86.here hx rfl (hb hby at_874) rfl rfl) ?_
      refine ci (XS.iload X86.here hx rfl (hb hby at_876) rfl) ?_
      refine ci (XS.iload X86.here hx rfl (hb hby at_878) rfl) ?_
      refine sc (A := (T86.setTop (mkF m 880 (own_F pa pb pi cv1 cv2 b3 (vi 2) ao lq1 kq0 kq1 cz47 cz48 dq0 dq1 [vn (ao + 2), vn kt, vn df, vn dt, vn (cl + 1), vn lt, vn (lt + 2), vn kw, vn (kw + 1), vn cw, vn (cw + 1), vn (cw + 1), vr b49, vr o52, vi 1]) [(.int (Int32.ofNat cw)), (.int (Int32.ofNat (kw + 1))), (.ref b3), (.int cz48), (.ref yy85)]))) ?_
      obtain ⟨_, T87, Lc87, X87, hQ87, st87⟩ := own_c1 X86 <| Jvm.LawKit.callS X86 hx (y := ym63) hown52 (mvT hZ52 (hW 324 _ rfl)) (mvT hZ52 (hW 325 _ rfl)) (mvT hZ52 (hW 2 _ rfl)) (mvT hZ52 (hW 326 _ rfl)) (by decide) (backOf (W := 0) (rmFb l Z a0 hw [] yy85 b3 k3 cs (kw + 1) cw Gc fm cz48 T52.heap n0 O52 Oc Pc Of hfm Sg85 f62 hok (by omega) (by omega) hf1) hZ52 (hW 326 _ rfl) (hW 2 _ rfl) (by decide) (by decide)) (g := (mkF m 880 (own_F pa pb pi cv1 cv2 b3 (vi 2) ao lq1 kq0 kq1 cz47 cz48 dq0 dq1 [vn (ao + 2), vn kt, vn df, vn dt, vn (cl + 1), vn lt, vn (lt + 2), vn kw, vn (kw + 1), vn cw, vn (cw + 1), vn (cw + 1), vr b49, vr o52, vi 1]) [(.int (Int32.ofNat cw)), (.int (Int32.ofNat (kw + 1))), (.ref b3), (.int cz48), (.ref yy85)])) rfl (by rw [hml]; rfl) (argsL := [(.ref yy85), (.int cz48), (.ref b3), (.int (Int32.ofNat (kw + 1))), (.int (Int32.ofNat cw))]) (rest := []) (lenOf pd_38 rfl) rfl (Nat.le_of_eq rfl) (hb hby at_880) (fun _ _ => ⟨rfl, eh86, (by decide : 44 + 0 ≤ _), (by decide : 454 + 0 ≤ _)⟩)
      obtain ⟨rfl, Nq87, eh87⟩ := hQ87
      have N87 := Fr.app N86 Nq87
      refine oc st87 ?_
      have hb883_88 : ¬ ((1 : Int32) = (0 : Int32)) := by decide
      refine ci (XS.ifNo X87.here hx rfl (hb hby at_883) rfl ((if0 _ _).trans (feq hb883_88).1)) ?_
      refine sc (A := (T87.setTop (mkF m 886 (own_F pa pb pi cv1 cv2 b3 (vi 2) ao lq1 kq0 kq1 cz47 cz48 dq0 dq1 [vn (ao + 2), vn kt, vn df, vn dt, vn (cl + 1), vn lt, vn (lt + 2), vn kw, vn (kw + 1), vn cw, vn (cw + 1), vn (cw + 1), vr b49, vr o52, vi 1]) []))) ?_
      exact Jq80 _ _ (X87.more (by decide) (by decide)) eh87 N87
     ·obtain ⟨w89, hy89, rfl⟩ := own_cont.get (i := 1) (o := none) cF52 rfl
      obtain ⟨cq90, kq90, q90a, q90b, q90c⟩ := isOf hZ52 eh78 Ms52.1
      obtain ⟨_, T90, Lc90, X90, hQ90, st90⟩ := own_c1 X78 <| X78.virtualBack hx (y := ym62) (z := ym62) hown52 (mvT hZ52 (hW 319 _ rfl)) (mvT hZ52 (hW 320 _ rfl)) (notFace_of_selects (args := #[]) (mvT hZ52 (hW 322 _ rfl))) (mvT hZ52 (hW 322 _ rfl)) (mvT hZ52 (hW 321 _ rfl)) (by decide) (backOf (W := 0) (rmG_fallback0 l Z a0 hw [] o52 b49 lL52 lK52 lF52 dq eF52 kF52 xF52 mF52 1 T52.heap n0 O52 Ms52 AF52 (List.getElem?_eq_some_iff.mp hy89).1 (by omega) hy89) hZ52 (hW 323 _ rfl) (hW 37 _ rfl) (by decide) (by decide)) q90a q90c (g := (mkF m 869 (own_F pa pb pi cv1 cv2 b3 (vi 2) ao lq1 kq0 kq1 cz47 cz48 dq0 dq1 [vn (ao + 2), vn kt, vn df, vn dt, vn (cl + 1), vn lt, vn (lt + 2), vn kw, vn dfw, vn dtw, vn (cw + 1), vn (cw + 1), vr b49, vr o52, vi 1]) [(.int 1), (.ref o52)])) rfl (by rw [hml]; rfl) (Steps.refl _) (argsL := [(.int 1)]) (rest := []) (lenOf pd_28 rfl) rfl (Nat.le_of_eq rfl) (hb hby at_869) (fun _ _ => ⟨rfl, eh78, (by decide : 44 + 0 ≤ _), (by decide : 454 + 0 ≤ _)⟩)
      obtain ⟨rfl, Nq90, eh90⟩ := hQ90
      have N90 := Fr.app N78 Nq90
      refine oc (fun tt_ kk_ => st90.trans kk_) ?_
      refine sc (A := (T90.setTop (mkF m 872 (own_F pa pb pi cv1 cv2 b3 (vi 2) ao lq1 kq0 kq1 cz47 cz48 dq0 dq1 [vn (ao + 2), vn kt, vn df, vn dt, vn (cl + 1), vn lt, vn (lt + 2), vn kw, vn dfw, vn dtw, vn (cw + 1), vn (cw + 1), vr b49, vr o52, vi 1]) [.null]))) ?_
      refine ci (XS.iload X90.here hx rfl (hb hby at_872) rfl) ?_
      refine ci (XS.aload X90.here hx rfl (hb hby at_874) rfl rfl) ?_
      refine ci (XS.iload X90.here hx rfl (hb hby at_876) rfl) ?_
      refine ci (XS.iload X90.here hx rfl (hb hby at_878) rfl) ?_
      refine sc (A := (T90.setTop (mkF m 880 (own_F pa pb pi cv1 cv2 b3 (vi 2) ao lq1 kq0 kq1 cz47 cz48 dq0 dq1 [vn (ao + 2), vn kt, vn df, vn dt, vn (cl + 1), vn lt, vn (lt + 2), vn kw, vn dfw, vn dtw, vn (cw + 1), vn (cw + 1), vr b49, vr o52, vi 1]) [(.int (Int32.ofNat dtw)), (.int (Int32.ofNat dfw)), (.ref b3), (.int cz48), .null]))) ?_
      obtain ⟨_, T91, Lc91, X91, hQ91, st91⟩ := own_c1 X90 <| Jvm.LawKit.callS X90 hx (y := ym63) hown52 (mvT hZ52 (hW 324 _ rfl)) (mvT hZ52 (hW 325 _ rfl)) (mvT hZ52 (hW 2 _ rfl)) (mvT hZ52 (hW 326 _ rfl)) (by decide) (backOf (W := 0) (rmFn l Z a0 hw [] b3 cz48 (Int32.ofNat dfw) (Int32.ofNat dtw) T52.heap n0 O52 hf1) hZ52 (hW 326 _ rfl) (hW 2 _ rfl) (by decide) (by decide)) (g := (mkF m 880 (own_F pa pb pi cv1 cv2 b3 (vi 2) ao lq1 kq0 kq1 cz47 cz48 dq0 dq1 [vn (ao + 2), vn kt, vn df, vn dt, vn (cl + 1), vn lt, vn (lt + 2), vn kw, vn dfw, vn dtw, vn (cw + 1), vn (cw + 1), vr b49, vr o52, vi 1]) [(.int (Int32.ofNat dtw)), (.int (Int32.ofNat dfw)), (.ref b3), (.int cz48), .null])) rfl (by rw [hml]; rfl) (argsL := [.null, (.int cz48), (.ref b3), (.int (Int32.ofNat dfw)), (.int (Int32.ofNat dtw))]) (rest := []) (lenOf pd_38 rfl) rfl (Nat.le_of_eq rfl) (hb hby at_880) (fun _ _ => ⟨rfl, eh90, (by decide : 44 + 0 ≤ _), (by decide : 454 + 0 ≤ _)⟩)
      obtain ⟨rfl, Nq91, eh91⟩ := hQ91
      have N91 := Fr.app N90 Nq91
      refine oc st91 ?_
      have hb883_92 : ¬ ((1 : Int32) = (0 : Int32)) := by decide
      refine ci (XS.ifNo X91.here hx rfl (hb hby at_883) rfl ((if0 _ _).trans (feq hb883_92).1)) ?_
      refine sc (A := (T91.setTop (mkF m 886 (own_F pa pb pi cv1 cv2 b3 (vi 2) ao lq1 kq0 kq1 cz47 cz48 dq0 dq1 [vn (ao + 2), vn kt, vn df, vn dt, vn (cl + 1), vn lt, vn (lt + 2), vn kw, vn dfw, vn dtw, vn (cw + 1), vn (cw + 1), vr b49, vr o52, vi 1]) []))) ?_
      exact Jq80 _ _ (X91.more (by decide) (by decide)) eh91 N91
    refine sc (A := (T67.setTop (mkF m 763 (own_F pa pb pi cv1 cv2 b3 (vi 2) ao lq1 kq0 kq1 cz47 cz48 dq0 dq1 [vn (ao + 2), vn kt, vn df, vn dt, vn (cl + 1), vn lt, vn (lt + 2), vn kw, vn dfw, vn dtw, vn (cw + 1), vn (cw + 1), vr b49, vr o52, uu]) []))) ?_
    refine ci (XS.aload X67.here hx rfl (hb hby at_763) rfl rfl) ?_
    refine ci (XS.iconst X67.here hx rfl (hb hby at_765)) ?_
    refine sc (A := (T67.setTop (mkF m 766 (own_F pa pb pi cv1 cv2 b3 (vi 2) ao lq1 kq0 kq1 cz47 cz48 dq0 dq1 [vn (ao + 2), vn kt, vn df, vn dt, vn (cl + 1), vn lt, vn (lt + 2), vn kw, vn dfw, vn dtw, vn (cw + 1), vn (cw + 1), vr b49, vr o52, uu]) [(.int 0), (.ref o52)]))) ?_
    rcases HF with ⟨rfl, hf1, hf2, hf3⟩ | ⟨rfl, hf1⟩
    ·have b9_ : kt < cl := PL1.2.2.2.2.2.2.2.2.elim (fun q => q.2.1) (fun q => by cases q.1)
     have hf4 := hf3.symm
     subst hf2 hf4
     refine sc (A := (T67.setTop (mkF m 766 (own_F pa pb pi cv1 cv2 b3 (vi 2) ao lq1 kq0 kq1 cz47 cz48 dq0 dq1 [vn (ao + 2), vn kt, vn (kt + 1), vn cl, vn (cl + 1), vn lt, vn (lt + 2), vn kw, vn dfw, vn dtw, vn (cw + 1), vn (cw + 1), vr b49, vr o52, uu]) [(.int 0), (.ref o52)]))) ?_
     obtain ⟨w93, hy93, yy93, rfl, Sg93⟩ := own_cont.get (i := 0) (o := some (own_sl cs (kt + 1) cl)) cF52 rfl
     have Eg93 := Sg93.exa
     obtain ⟨cq94, kq94, q94a, q94b, q94c⟩ := isOf hZ52 eh67 Ms52.1
     obtain ⟨_, T94, Lc94, X94, hQ94, st94⟩ := own_c1 X67 <| X67.virtualBack hx (y := ym62) (z := ym62) hown52 (mvT hZ52 (hW 319 _ rfl)) (mvT hZ52 (hW 320 _ rfl)) (notFace_of_selects (args := #[]) (mvT hZ52 (hW 322 _ rfl))) (mvT hZ52 (hW 322 _ rfl)) (mvT hZ52 (hW 321 _ rfl)) (by decide) (backOf (W := 0) (rmG_fallback l Z a0 hw [] o52 b49 lL52 lK52 lF52 dq eF52 kF52 xF52 mF52 0 yy93 T52.heap n0 O52 Ms52 AF52 (List.getElem?_eq_some_iff.mp hy93).1 (by omega) hy93 Eg93) hZ52 (hW 323 _ rfl) (hW 37 _ rfl) (by decide) (by decide)) q94a q94c (g := (mkF m 766 (own_F pa pb pi cv1 cv2 b3 (vi 2) ao lq1 kq0 kq1 cz47 cz48 dq0 dq1 [vn (ao + 2), vn kt, vn (kt + 1), vn cl, vn (cl + 1), vn lt, vn (lt + 2), vn kw, vn dfw, vn dtw, vn (cw + 1), vn (cw + 1), vr b49, vr o52, uu]) [(.int 0), (.ref o52)])) rfl (by rw [hml]; rfl) (Steps.refl _) (argsL := [(.int 0)]) (rest := []) (lenOf pd_28 rfl) rfl (Nat.le_of_eq rfl) (hb hby at_766) (fun _ _ => ⟨rfl, eh67, (by decide : 44 + 0 ≤ _), (by decide : 454 + 0 ≤ _)⟩)
     obtain ⟨rfl, Nq94, eh94⟩ := hQ94
     have N94 := Fr.app N67 Nq94
     refine oc (fun tt_ kk_ => st94.trans kk_) ?_
     refine sc (A := (T94.setTop (mkF m 769 (own_F pa pb pi cv1 cv2 b3 (vi 2) ao lq1 kq0 kq1 cz47 cz48 dq0 dq1 [vn (ao + 2), vn kt, vn (kt + 1), vn cl, vn (cl + 1), vn lt, vn (lt + 2), vn kw, vn dfw, vn dtw, vn (cw + 1), vn (cw + 1), vr b49, vr o52, uu]) [(.ref yy93)]))) ?_
     refine ci (XS.iload X94.here hx rfl (hb hby at_769) rfl) ?_
     refine ci (XS.aload X94.here hx rfl (hb hby at_771) rfl rfl) ?_
     refine ci (XS.iload X94.here hx rfl (hb hby at_773) rfl) ?_
     refine ci (XS.iload X94.here hx rfl (hb hby at_775) rfl) ?_
     refine sc (A := (T94.setTop (mkF m 777 (own_F pa pb pi cv1 cv2 b3 (vi 2) ao lq1 kq0 kq1 cz47 cz48 dq0 dq1 [vn (ao + 2), vn kt, vn (kt + 1), vn cl, vn (cl + 1), vn lt, vn (lt + 2), vn kw, vn dfw, vn dtw, vn (cw + 1), vn (cw + 1), vr b49, vr o52, uu]) [(.int (Int32.ofNat cl)), (.int (Int32.ofNat (kt + 1))), (.ref b3), (.int cz47), (.ref yy93)]))) ?_
     obtain ⟨_, T95, Lc95, X95, hQ95, st95⟩ := own_c1 X94 <| Jvm.LawKit.callS X94 hx (y := ym63) hown52 (mvT hZ52 (hW 324 _ rfl)) (mvT hZ52 (hW 325 _ rfl)) (mvT hZ52 (hW 2 _ rfl)) (mvT hZ52 (hW 326 _ rfl)) (by decide) (backOf (W := 0) (rmFb l Z a0 hw [] yy93 b3 k3 cs (kt + 1) cl Gc fm cz47 T52.heap n0 O52 Oc Pc Of hfm Sg93 f62 hok (by omega) (by omega) hf1) hZ52 (hW 326 _ rfl) (hW 2 _ rfl) (by decide) (by decide)) (g := (mkF m 777 (own_F pa pb pi cv1 cv2 b3 (vi 2) ao lq1 kq0 kq1 cz47 cz48 dq0 dq1 [vn (ao + 2), vn kt, vn (kt + 1), vn cl, vn (cl + 1), vn lt, vn (lt + 2), vn kw, vn dfw, vn dtw, vn (cw + 1), vn (cw + 1), vr b49, vr o52, uu]) [(.int (Int32.ofNat cl)), (.int (Int32.ofNat (kt + 1))), (.ref b3), (.int cz47), (.ref yy93)])) rfl (by rw [hml]; rfl) (argsL := [(.ref yy93), (.int cz47), (.ref b3), (.int (Int32.ofNat (kt + 1))), (.int (Int32.ofNat cl))]) (rest := []) (lenOf pd_38 rfl) rfl (Nat.le_of_eq rfl) (hb hby at_777) (fun _ _ => ⟨rfl, eh94, (by decide : 44 + 0 ≤ _), (by decide : 454 + 0 ≤ _)⟩)
     obtain ⟨rfl, Nq95, eh95⟩ := hQ95
     have N95 := Fr.app N94 Nq95
     refine oc st95 ?_
     have hb780_96 : ¬ ((1 : Int32) = (0 : Int32)) := by decide
     refine ci (XS.ifNo X95.here hx rfl (hb hby at_780) rfl ((if0 _ _).trans (feq hb780_96).1)) ?_
     refine ci (XS.iconst X95.here hx rfl (hb hby at_783)) ?_
     refine ci (XS.goto X95.here hx rfl (pc0 := 784) (pc' := 788) rfl (hb hby at_784) (by decide) (by decide)) ?_
     refine sc (A := (T95.setTop (mkF m 788 (own_F pa pb pi cv1 cv2 b3 (vi 2) ao lq1 kq0 kq1 cz47 cz48 dq0 dq1 [vn (ao + 2), vn kt, vn (kt + 1), vn cl, vn (cl + 1), vn lt, vn (lt + 2), vn kw, vn dfw, vn dtw, vn (cw + 1), vn (cw + 1), vr b49, vr o52, uu]) [(.int 1)]))) ?_
     exact Jq69 _ _ (X95.more (by decide) (by decide)) eh95 N95
    ·obtain ⟨w97, hy97, rfl⟩ := own_cont.get (i := 0) (o := none) cF52 rfl
     obtain ⟨cq98, kq98, q98a, q98b, q98c⟩ := isOf hZ52 eh67 Ms52.1
     obtain ⟨_, T98, Lc98, X98, hQ98, st98⟩ := own_c1 X67 <| X67.virtualBack hx (y := ym62) (z := ym62) hown52 (mvT hZ52 (hW 319 _ rfl)) (mvT hZ52 (hW 320 _ rfl)) (notFace_of_selects (args := #[]) (mvT hZ52 (hW 322 _ rfl))) (mvT hZ52 (hW 322 _ rfl)) (mvT hZ52 (hW 321 _ rfl)) (by decide) (backOf (W := 0) (rmG_fallback0 l Z a0 hw [] o52 b49 lL52 lK52 lF52 dq eF52 kF52 xF52 mF52 0 T52.heap n0 O52 Ms52 AF52 (List.getElem?_eq_some_iff.mp hy97).1 (by omega) hy97) hZ52 (hW 323 _ rfl) (hW 37 _ rfl) (by decide) (by decide)) q98a q98c (g := (mkF m 766 (own_F pa pb pi cv1 cv2 b3 (vi 2) ao lq1 kq0 kq1 cz47 cz48 dq0 dq1 [vn (ao + 2), vn kt, vn df, vn dt, vn (cl + 1), vn lt, vn (lt + 2), vn kw, vn dfw, vn dtw, vn (cw + 1), vn (cw + 1), vr b49, vr o52, uu]) [(.int 0), (.ref o52)])) rfl (by rw [hml]; rfl) (Steps.refl _) (argsL := [(.int 0)]) (rest := []) (lenOf pd_28 rfl) rfl (Nat.le_of_eq rfl) (hb hby at_766) (fun _ _ => ⟨rfl, eh67, (by decide : 44 + 0 ≤ _), (by decide : 454 + 0 ≤ _)⟩)
     obtain ⟨rfl, Nq98, eh98⟩ := hQ98
     have N98 := Fr.app N67 Nq98
     refine oc (fun tt_ kk_ => st98.trans kk_) ?_
     refine sc (A := (T98.setTop (mkF m 769 (own_F pa pb pi cv1 cv2 b3 (vi 2) ao lq1 kq0 kq1 cz47 cz48 dq0 dq1 [vn (ao + 2), vn kt, vn df, vn dt, vn (cl + 1), vn lt, vn (lt + 2), vn kw, vn dfw, vn dtw, vn (cw + 1), vn (cw + 1), vr b49, vr o52, uu]) [.null]))) ?_
     refine ci (XS.iload X98.here hx rfl (hb hby at_769) rfl) ?_
     refine ci (XS.aload X98.here hx rfl (hb hby at_771) rfl rfl) ?_
     refine ci (XS.iload X98.here hx rfl (hb hby at_773) rfl) ?_
     refine ci (XS.iload X98.here hx rfl (hb hby at_775) rfl) ?_
     refine sc (A := (T98.setTop (mkF m 777 (own_F pa pb pi cv1 cv2 b3 (vi 2) ao lq1 kq0 kq1 cz47 cz48 dq0 dq1 [vn (ao + 2), vn kt, vn df, vn dt, vn (cl + 1), vn lt, vn (lt + 2), vn kw, vn dfw, vn dtw, vn (cw + 1), vn (cw + 1), vr b49, vr o52, uu]) [(.int (Int32.ofNat dt)), (.int (Int32.ofNat df)), (.ref b3), (.int cz47), .null]))) ?_
     obtain ⟨_, T99, Lc99, X99, hQ99, st99⟩ := own_c1 X98 <| Jvm.LawKit.callS X98 hx (y := ym63) hown52 (mvT hZ52 (hW 324 _ rfl)) (mvT hZ52 (hW 325 _ rfl)) (mvT hZ52 (hW 2 _ rfl)) (mvT hZ52 (hW 326 _ rfl)) (by decide) (backOf (W := 0) (rmFn l Z a0 hw [] b3 cz47 (Int32.ofNat df) (Int32.ofNat dt) T52.heap n0 O52 hf1) hZ52 (hW 326 _ rfl) (hW 2 _ rfl) (by decide) (by decide)) (g := (mkF m 777 (own_F pa pb pi cv1 cv2 b3 (vi 2) ao lq1 kq0 kq1 cz47 cz48 dq0 dq1 [vn (ao + 2), vn kt, vn df, vn dt, vn (cl + 1), vn lt, vn (lt + 2), vn kw, vn dfw, vn dtw, vn (cw + 1), vn (cw + 1), vr b49, vr o52, uu]) [(.int (Int32.ofNat dt)), (.int (Int32.ofNat df)), (.ref b3), (.int cz47), .null])) rfl (by rw [hml]; rfl) (argsL := [.null, (.int cz47), (.ref b3), (.int (Int32.ofNat df)), (.int (Int32.ofNat dt))]) (rest := []) (lenOf pd_38 rfl) rfl (Nat.le_of_eq rfl) (hb hby at_777) (fun _ _ => ⟨rfl, eh98, (by decide : 44 + 0 ≤ _), (by decide : 454 + 0 ≤ _)⟩)
     obtain ⟨rfl, Nq99, eh99⟩ := hQ99
     have N99 := Fr.app N98 Nq99
     refine oc st99 ?_
     have hb780_100 : ¬ ((1 : Int32) = (0 : Int32)) := by decide
     refine ci (XS.ifNo X99.here hx rfl (hb hby at_780) rfl ((if0 _ _).trans (feq hb780_100).1)) ?_
     refine ci (XS.iconst X99.here hx rfl (hb hby at_783)) ?_
     refine ci (XS.goto X99.here hx rfl (pc0 := 784) (pc' := 788) rfl (hb hby at_784) (by decide) (by decide)) ?_
     refine sc (A := (T99.setTop (mkF m 788 (own_F pa pb pi cv1 cv2 b3 (vi 2) ao lq1 kq0 kq1 cz47 cz48 dq0 dq1 [vn (ao + 2), vn kt, vn df, vn dt, vn (cl + 1), vn lt, vn (lt + 2), vn kw, vn dfw, vn dtw, vn (cw + 1), vn (cw + 1), vr b49, vr o52, uu]) [(.int 1)]))) ?_
     exact Jq69 _ _ (X99.more (by decide) (by decide)) eh99 N99
   have J663_1 : ∀ (H : Heap) (T' : State) (ls : List Loc) (cs : List Int32) (kt : Nat) (hcx : Bool) (cl df dt lt : Nat), (Stand p l e room_1 (s.setVm s.vm) m #[(.long pa), (.long pb), (.int pi)] below meth c T' ls 1 22) → (T'.heap = H) → (Fr n0 ls) → (Old Z n0 H) → (CHr Z own_EL s.vm s.heap s.vm H) → (Arv Z H b3 k3 .char (22 : Int32) (cs.map Value.int) (.int 0)) → (own_ok cs) → (own_pse cs 0 [(ao, kt, hcx, cl)] (cl + 1)) → (own_hf cz47 hcx kt cl df dt) → (own_nb cs (cl + 1) 22) → (cnt = 1) → own_gc p e below s Z own_EL (Q_rm0 Z pa pb pi dq kd Gc fm h0 n0) room_1.cells room_1.slots (T'.setTop (mkF m 663 (own_F pa pb pi cv1 cv2 b3 (vn cnt) ao lq1 kq0 kq1 cz47 cz48 dq0 dq1 [vn (ao + 2), vn kt, vn df, vn dt, vn (cl + 1), vn lt, vz, vz, vz, vz, vz, vn lt, uu, uu, uu]) [])) := by
    intro H T' ls cs kt hcx cl df dt lt X' e' N' O' CH' V' hok PS HF NB hcn
    have hl22 := hok.1
    have ltb := olt V'.lt
    subst hcn
    obtain ⟨-, -, PL1, PSr⟩ := id PS
    have b1_ := PL1.1
    have b2_ := PL1.2.1
    have b3_ := PL1.2.2.1
    have hps : own_ps cs 0 [(ao, kt, hcx, cl)] := own_pse.fin PS (by omega) NB
    refine sc (A := (T'.setTop (mkF m 663 (own_F pa pb pi cv1 cv2 b3 (vi 1) ao lq1 kq0 kq1 cz47 cz48 dq0 dq1 [vn (ao + 2), vn kt, vn df, vn dt, vn (cl + 1), vn lt, vz, vz, vz, vz, vz, vn lt, uu, uu, uu]) []))) ?_
    obtain ⟨T101, h101, X101, e101, E101, A101, D101, -, st101⟩ := newO X' hx hZ hown (hW 6 _ rfl) (hW 7 _ rfl) (hW 8 _ rfl) e' (g := (mkF m 663 (own_F pa pb pi cv1 cv2 b3 (vi 1) ao lq1 kq0 kq1 cz47 cz48 dq0 dq1 [vn (ao + 2), vn kt, vn df, vn dt, vn (cl + 1), vn lt, vz, vz, vz, vz, vz, vn lt, uu, uu, uu]) [])) rfl (hb hby at_663) (by decide) (by decide)
    obtain ⟨b101, g101⟩ : ∃ z, z = H.size := ⟨_, rfl⟩
    rw [← g101] at A101 D101 st101
    refine oc st101 ?_
    have lt101 := olt A101.lt
    have sz101 : H.size ≤ h101.size := E101.1
    have O101 : Old Z n0 h101 := O'.ext E101
    have z101 : n0 ≤ b101 := by have := O'.1 ▸ O'.2.1; omega
    have CHs101 := CHr.ext E101 CH'.1
    have Sf101 := Safe.ext E101 CH'.1 (Safe.new (Nat.le_of_eq g101.symm))
    have CH101 := CH'.trans CHs101
    have F101_coder : Fld Z h101 b101 "java/lang/String" "coder" "B" (.int 0) := D101 (Or.inr (hW 32 _ rfl)) (ty := .byte) pf_1
    have F101_value : Fld Z h101 b101 "java/lang/String" "value" "[B" .null := D101 (Or.inr (hW 34 _ rfl)) (ty := (.array .byte)) pf_0
    refine ci (XS.dup X101.here hx rfl (hb hby at_666) rfl rfl) ?_
    refine ci (XS.aload X101.here hx rfl (hb hby at_667) rfl rfl) ?_
    refine sc (A := (T101.setTop (mkF m 669 (own_F pa pb pi cv1 cv2 b3 (vi 1) ao lq1 kq0 kq1 cz47 cz48 dq0 dq1 [vn (ao + 2), vn kt, vn df, vn dt, vn (cl + 1), vn lt, vz, vz, vz, vz, vz, vn lt, uu, uu, uu]) [(.ref b3), (.ref b101), (.ref b101)]))) ?_
    have f102 : Arv Z h101 b3 k3 .char (22 : Int32) (cs.map Value.int) (.int 0) := (V'.ext E101)
    obtain ⟨_, T103, Lc103, X103, hQ103, st103⟩ := own_c1 X101 <| X101.specialBack hx (y := ym2) rfl hown (mvT hZ (hW 9 _ rfl)) (mvT hZ (hW 10 _ rfl)) (mvT hZ (hW 11 _ rfl)) (by decide) (StrChars.Road.backV (W := 1) hZ hws (kI := 4) (hW 7 _ rfl) (cs := cs) (bs := cs.map (fun c => c.toInt8.toInt32)) (n := 22) (by omega : n0 ≤ b101) (by omega : n0 ≤ h101.size) A101 F101_value F101_coder f102 (Oc.ext O101.2) Pc hl22 rfl (by decide) (by decide) hok.2 rfl (by decide) (by decide)) (g := (mkF m 669 (own_F pa pb pi cv1 cv2 b3 (vi 1) ao lq1 kq0 kq1 cz47 cz48 dq0 dq1 [vn (ao + 2), vn kt, vn df, vn dt, vn (cl + 1), vn lt, vz, vz, vz, vz, vz, vn lt, uu, uu, uu]) [(.ref b3), (.ref b101), (.ref b101)])) rfl (by rw [hml]; rfl) (Steps.refl _) (a := b101) (argsL := [(.ref b3)]) (rest := [(.ref b101)]) (lenOf pd_36 rfl) rfl (Nat.le_of_eq rfl) (hb hby at_669) (fun _ _ => ⟨rfl, e101, (by decide : 2 + 1 ≤ _), (by decide : 26 + 22 ≤ _)⟩)
    obtain ⟨rfl, Nq103, Kp103, g1103, g2103, t103, kb103, u1103, u2103, u3103, g4103, g5103⟩ := hQ103
    have N103 := Fr.app N' Nq103
    refine oc (fun tt_ kk_ => st103.trans kk_) ?_
    have CHs103 := CHr.keep Kp103 (allS Sf101 all0) CH101.1
    have CH103 := CH101.trans CHs103
    have sz103 : h101.size ≤ T103.heap.size := Kp103.1
    have O103 : Old Z n0 T103.heap := O101.keep Kp103 (allS (by omega) all0)
    have Sx103 : own_sr Z T103.heap b101 cs := ⟨hok.2, Nat.le_of_eq hl22, t103, kb103, g1103, g4103, g2103, by have q := g5103; rw [List.map_map] at q; rw [hl22]; exact q⟩
    have Ex_b101 := Sx103.exa
    refine ci (XS.astore X103.here hx rfl (hb hby at_672) rfl rfl (l' := (own_F pa pb pi cv1 cv2 b3 (vi 1) ao lq1 kq0 kq1 cz47 cz48 dq0 dq1 [vn (ao + 2), vn kt, vn df, vn dt, vn (cl + 1), vn lt, vz, vz, vz, vz, vz, vn lt, vr b101, uu, uu])) rfl) ?_
    refine ci (XS.aload X103.here hx rfl (hb hby at_674) rfl rfl) ?_
    refine sc (A := (T103.setTop (mkF m 676 (own_F pa pb pi cv1 cv2 b3 (vi 1) ao lq1 kq0 kq1 cz47 cz48 dq0 dq1 [vn (ao + 2), vn kt, vn df, vn dt, vn (cl + 1), vn lt, vz, vz, vz, vz, vz, vn lt, vr b101, uu, uu]) [(.ref b101)]))) ?_
    obtain ⟨_, _, ⟨T104, L104, k104, n104⟩, -, Xr104, hSr104, hgr104, ⟨Lc104, hQ104, l104, y104, z104, CHs104⟩, st104⟩ := callSS X103 hx (y := ym8) hown (mvT hZ (hW 35 _ rfl)) (mvT hZ (hW 36 _ rfl)) (mvT hZ (hW 37 _ rfl)) (mvT hZ (hW 38 _ rfl)) (by decide) (backOfSH (W := 0) (rmPa l Z a0 hw [] b101 cs [(ao, kt, hcx, cl)] dq kd Gc fm T103.heap n0 hEL O103 Oc Pc Of hfm S_d V_d E_d l_d Sx103 hl22 hps (Nat.le_of_ble_eq_true rfl)) hZ (hW 38 _ rfl) (hW 37 _ rfl) (by decide) (by decide) hEL CH103.1) (g := (mkF m 676 (own_F pa pb pi cv1 cv2 b3 (vi 1) ao lq1 kq0 kq1 cz47 cz48 dq0 dq1 [vn (ao + 2), vn kt, vn df, vn dt, vn (cl + 1), vn lt, vz, vz, vz, vz, vz, vn lt, vr b101, uu, uu]) [(.ref b101)])) rfl (by rw [hml]; rfl) (argsL := [(.ref b101)]) (rest := []) (lenOf pd_37 rfl) rfl (Nat.le_of_eq rfl) (hb hby at_676) (fun _ _ => ⟨rfl, rfl, (by decide : 3 + 41 ≤ _), (by decide : 48 + 406 ≤ _)⟩)
    dsimp only [Pt.U, Pt.locs, Pt.cells, Pt.slots] at Xr104 l104 y104 z104 st104 hQ104 hSr104 hgr104 CHs104
    obtain ⟨X104, hS104, hZ104, hown104⟩ := rebS hS0 (by omega : 0 ≤ T103.heap.size) Xr104 hSr104 hgr104 hZ hown
    subst l104 y104 z104
    obtain ⟨o104, lL104, lK104, lF104, eL104, eK104, eF104, kL104, kK104, kF104, xL104, xK104, xF104, mL104, mK104, mF104, rfl, Nq104, Kp104, Ms104, AL104, AK104, AF104, cL104, cK104, cF104⟩ := hQ104
    have N104 := Fr.app N103 Nq104
    refine oc (fun tt_ kk_ => st104.trans kk_) ?_
    have CH104 := CH103.trans CHs104
    have sz104 : T103.heap.size ≤ T104.heap.size := Kp104.1
    have O104 : Old Z n0 T104.heap := O103.keep Kp104 all0
    have nL : xL104.length = 2 := own_cont.len cL104
    have nK : xK104.length = 1 := own_cont.len cK104
    have nF : xF104.length = 1 := own_cont.len cF104
    refine ci (XS.astore X104.here hx rfl (hb hby at_679) rfl rfl (l' := (own_F pa pb pi cv1 cv2 b3 (vi 1) ao lq1 kq0 kq1 cz47 cz48 dq0 dq1 [vn (ao + 2), vn kt, vn df, vn dt, vn (cl + 1), vn lt, vz, vz, vz, vz, vz, vn lt, vr b101, vr o104, uu])) rfl) ?_
    refine ci (XS.aload X104.here hx rfl (hb hby at_681) rfl rfl) ?_
    refine sc (A := (T104.setTop (mkF m 683 (own_F pa pb pi cv1 cv2 b3 (vi 1) ao lq1 kq0 kq1 cz47 cz48 dq0 dq1 [vn (ao + 2), vn kt, vn df, vn dt, vn (cl + 1), vn lt, vz, vz, vz, vz, vz, vn lt, vr b101, vr o104, uu]) [(.ref o104)]))) ?_
    obtain ⟨cq105, kq105, q105a, q105b, q105c⟩ := isOf hZ104 rfl Ms104.1
    obtain ⟨_, T105, Lc105, X105, hQ105, st105⟩ := own_c1 X104 <| X104.virtualBack hx (y := ym28) (z := ym28) hown104 (mvT hZ104 (hW 160 _ rfl)) (mvT hZ104 (hW 161 _ rfl)) (notFace_of_selects (args := #[]) (mvT hZ104 (hW 163 _ rfl))) (mvT hZ104 (hW 163 _ rfl)) (mvT hZ104 (hW 162 _ rfl)) (by decide) (backOf (W := 0) (rmPh l Z a0 hw [] o104 b101 lL104 lK104 lF104 dq eK104 kK104 xK104 mK104 T104.heap n0 O104 Ms104 AK104) hZ104 (hW 164 _ rfl) (hW 37 _ rfl) (by decide) (by decide)) q105a q105c (g := (mkF m 683 (own_F pa pb pi cv1 cv2 b3 (vi 1) ao lq1 kq0 kq1 cz47 cz48 dq0 dq1 [vn (ao + 2), vn kt, vn df, vn dt, vn (cl + 1), vn lt, vz, vz, vz, vz, vz, vn lt, vr b101, vr o104, uu]) [(.ref o104)])) rfl (by rw [hml]; rfl) (Steps.refl _) (argsL := []) (rest := []) (lenOf pd_8 rfl) rfl (Nat.le_of_eq rfl) (hb hby at_683) (fun _ _ => ⟨rfl, rfl, (by decide : 44 + 0 ≤ _), (by decide : 454 + 0 ≤ _)⟩)
    obtain ⟨rfl, Nq105, eh105⟩ := hQ105
    have N105 := Fr.app N104 Nq105
    refine oc (fun tt_ kk_ => st105.trans kk_) ?_
    rw [nK]
    refine ci (XS.iload X105.here hx rfl (hb hby at_686) rfl) ?_
    have hb688_106 : (1 : Int32) = (1 : Int32) := by decide
    refine ci (XS.icmpYes X105.here hx rfl (pc0 := 688) (pc' := 693) rfl (hb hby at_688) rfl (teq hb688_106).1 (by decide) (by decide)) ?_
    refine ci (XS.aload X105.here hx rfl (hb hby at_693) rfl rfl) ?_
    refine ci (XS.aload X105.here hx rfl (hb hby at_695) rfl rfl) ?_
    refine sc (A := (T105.setTop (mkF m 697 (own_F pa pb pi cv1 cv2 b3 (vi 1) ao lq1 kq0 kq1 cz47 cz48 dq0 dq1 [vn (ao + 2), vn kt, vn df, vn dt, vn (cl + 1), vn lt, vz, vz, vz, vz, vz, vn lt, vr b101, vr o104, uu]) [(.ref o104), (.ref b101)]))) ?_
    obtain ⟨cq107, kq107, q107a, q107b, q107c⟩ := isOf hZ104 eh105 Ms104.1
    obtain ⟨_, T107, Lc107, X107, hQ107, st107⟩ := own_c1 X105 <| X105.virtualBack hx (y := ym30) (z := ym30) hown104 (mvT hZ104 (hW 173 _ rfl)) (mvT hZ104 (hW 174 _ rfl)) (notFace_of_selects (args := #[]) (mvT hZ104 (hW 176 _ rfl))) (mvT hZ104 (hW 176 _ rfl)) (mvT hZ104 (hW 175 _ rfl)) (by decide) (backOf (W := 1) (rmTo l Z a0 hw [] o104 b101 lL104 lK104 lF104 T104.heap n0 O104 Ms104) hZ104 (hW 177 _ rfl) (hW 37 _ rfl) (by decide) (by decide)) q107a q107c (g := (mkF m 697 (own_F pa pb pi cv1 cv2 b3 (vi 1) ao lq1 kq0 kq1 cz47 cz48 dq0 dq1 [vn (ao + 2), vn kt, vn df, vn dt, vn (cl + 1), vn lt, vz, vz, vz, vz, vz, vn lt, vr b101, vr o104, uu]) [(.ref o104), (.ref b101)])) rfl (by rw [hml]; rfl) (Steps.refl _) (argsL := []) (rest := [(.ref b101)]) (lenOf pd_11 rfl) rfl (Nat.le_of_eq rfl) (hb hby at_697) (fun _ _ => ⟨rfl, eh105, (by decide : 44 + 0 ≤ _), (by decide : 454 + 0 ≤ _)⟩)
    obtain ⟨rfl, Nq107, eh107⟩ := hQ107
    have N107 := Fr.app N105 Nq107
    refine oc (fun tt_ kk_ => st107.trans kk_) ?_
    refine sc (A := (T107.setTop (mkF m 700 (own_F pa pb pi cv1 cv2 b3 (vi 1) ao lq1 kq0 kq1 cz47 cz48 dq0 dq1 [vn (ao + 2), vn kt, vn df, vn dt, vn (cl + 1), vn lt, vz, vz, vz, vz, vz, vn lt, vr b101, vr o104, uu]) [(.ref b101), (.ref b101)]))) ?_
    have f108 : Exa Z T104.heap b101 "java/lang/String" := (Ex_b101.keep Kp104)
    obtain ⟨cq109, kq109, q109a, q109b, q109c⟩ := isOf hZ104 eh107 f108
    obtain ⟨_, T109, Lc109, X109, hQ109, st109⟩ := own_c1 X107 <| X107.virtualBack hx (y := ym31) (z := ym31) hown104 (mvT hZ104 (hW 178 _ rfl)) (mvT hZ104 (hW 179 _ rfl)) (notFace_of_selects (args := #[]) (mvT hZ104 (hW 181 _ rfl))) (mvT hZ104 (hW 181 _ rfl)) (mvT hZ104 (hW 180 _ rfl)) (by decide) (backOf (W := 0) (rmES l Z a0 hw [] b101 T104.heap n0 O104 ) hZ104 (hW 182 _ rfl) (hW 8 _ rfl) (by decide) (by decide)) q109a q109c (g := (mkF m 700 (own_F pa pb pi cv1 cv2 b3 (vi 1) ao lq1 kq0 kq1 cz47 cz48 dq0 dq1 [vn (ao + 2), vn kt, vn df, vn dt, vn (cl + 1), vn lt, vz, vz, vz, vz, vz, vn lt, vr b101, vr o104, uu]) [(.ref b101), (.ref b101)])) rfl (by rw [hml]; rfl) (Steps.refl _) (argsL := [(.ref b101)]) (rest := []) (lenOf pd_29 rfl) rfl (Nat.le_of_eq rfl) (hb hby at_700) (fun _ _ => ⟨rfl, eh107, (by decide : 44 + 0 ≤ _), (by decide : 454 + 0 ≤ _)⟩)
    obtain ⟨rfl, Nq109, eh109⟩ := hQ109
    have N109 := Fr.app N107 Nq109
    refine oc (fun tt_ kk_ => st109.trans kk_) ?_
    have hb703_110 : ¬ ((1 : Int32) = (0 : Int32)) := by decide
    refine ci (XS.ifYes X109.here hx rfl (pc0 := 703) (pc' := 708) rfl (hb hby at_703) rfl ((if0 _ _).trans (feq hb703_110).2) (by decide) (by decide)) ?_
    refine ci (XS.iload X109.here hx rfl (hb hby at_708) rfl) ?_
    have hb710_111 : ¬ ((1 : Int32) = (0 : Int32)) := by decide
    refine ci (XS.ifYes X109.here hx rfl (pc0 := 710) (pc' := 728) rfl (hb hby at_710) rfl ((if0 _ _).trans (feq hb710_111).2) (by decide) (by decide)) ?_
    refine ci (XS.aload X109.here hx rfl (hb hby at_728) rfl rfl) ?_
    refine ci (XS.iconst X109.here hx rfl (hb hby at_730)) ?_
    refine sc (A := (T109.setTop (mkF m 731 (own_F pa pb pi cv1 cv2 b3 (vi 1) ao lq1 kq0 kq1 cz47 cz48 dq0 dq1 [vn (ao + 2), vn kt, vn df, vn dt, vn (cl + 1), vn lt, vz, vz, vz, vz, vz, vn lt, vr b101, vr o104, uu]) [(.int 0), (.ref o104)]))) ?_
    obtain ⟨w112, hy112, yy112, rfl, Sg112⟩ := own_cont.get (i := 0) (o := some (own_sl cs 0 ao)) cL104 rfl
    have Eg112 := Sg112.exa
    obtain ⟨cq113, kq113, q113a, q113b, q113c⟩ := isOf hZ104 eh109 Ms104.1
    obtain ⟨_, T113, Lc113, X113, hQ113, st113⟩ := own_c1 X109 <| X109.virtualBack hx (y := ym32) (z := ym32) hown104 (mvT hZ104 (hW 183 _ rfl)) (mvT hZ104 (hW 184 _ rfl)) (notFace_of_selects (args := #[]) (mvT hZ104 (hW 186 _ rfl))) (mvT hZ104 (hW 186 _ rfl)) (mvT hZ104 (hW 185 _ rfl)) (by decide) (backOf (W := 0) (rmG_literal l Z a0 hw [] o104 b101 lL104 lK104 lF104 dq eL104 kL104 xL104 mL104 0 yy112 T104.heap n0 O104 Ms104 AL104 (List.getElem?_eq_some_iff.mp hy112).1 (by omega) hy112 Eg112) hZ104 (hW 187 _ rfl) (hW 37 _ rfl) (by decide) (by decide)) q113a q113c (g := (mkF m 731 (own_F pa pb pi cv1 cv2 b3 (vi 1) ao lq1 kq0 kq1 cz47 cz48 dq0 dq1 [vn (ao + 2), vn kt, vn df, vn dt, vn (cl + 1), vn lt, vz, vz, vz, vz, vz, vn lt, vr b101, vr o104, uu]) [(.int 0), (.ref o104)])) rfl (by rw [hml]; rfl) (Steps.refl _) (argsL := [(.int 0)]) (rest := []) (lenOf pd_28 rfl) rfl (Nat.le_of_eq rfl) (hb hby at_731) (fun _ _ => ⟨rfl, eh109, (by decide : 44 + 0 ≤ _), (by decide : 454 + 0 ≤ _)⟩)
    obtain ⟨rfl, Nq113, eh113⟩ := hQ113
    have N113 := Fr.app N109 Nq113
    refine oc (fun tt_ kk_ => st113.trans kk_) ?_
    refine ci (XS.aload X113.here hx rfl (hb hby at_734) rfl rfl) ?_
    refine ci (XS.iconst X113.here hx rfl (hb hby at_736)) ?_
    refine ci (XS.iload X113.here hx rfl (hb hby at_737) rfl) ?_
    refine sc (A := (T113.setTop (mkF m 739 (own_F pa pb pi cv1 cv2 b3 (vi 1) ao lq1 kq0 kq1 cz47 cz48 dq0 dq1 [vn (ao + 2), vn kt, vn df, vn dt, vn (cl + 1), vn lt, vz, vz, vz, vz, vz, vn lt, vr b101, vr o104, uu]) [(.int (Int32.ofNat ao)), (.int 0), (.ref b3), (.ref yy112)]))) ?_
    have f114 : Arv Z T104.heap b3 k3 .char (22 : Int32) (cs.map Value.int) (.int 0) := ((f102.keep Kp103 (ninS (one (by omega)) nin0)).keep Kp104 nin0)
    obtain ⟨_, T115, Lc115, X115, hQ115, st115⟩ := own_c1 X113 <| Jvm.LawKit.callS X113 hx (y := ym37) hown104 (mvT hZ104 (hW 209 _ rfl)) (mvT hZ104 (hW 210 _ rfl)) (mvT hZ104 (hW 2 _ rfl)) (mvT hZ104 (hW 211 _ rfl)) (by decide) (backOf (W := 0) (rmPt l Z a0 hw [] yy112 b3 k3 cs 0 ao Gc fm T104.heap n0 O104 Oc Pc Of hfm Sg112 f114 hok (by omega) (by omega)) hZ104 (hW 211 _ rfl) (hW 2 _ rfl) (by decide) (by decide)) (g := (mkF m 739 (own_F pa pb pi cv1 cv2 b3 (vi 1) ao lq1 kq0 kq1 cz47 cz48 dq0 dq1 [vn (ao + 2), vn kt, vn df, vn dt, vn (cl + 1), vn lt, vz, vz, vz, vz, vz, vn lt, vr b101, vr o104, uu]) [(.int (Int32.ofNat ao)), (.int 0), (.ref b3), (.ref yy112)])) rfl (by rw [hml]; rfl) (argsL := [(.ref yy112), (.ref b3), (.int 0), (.int (Int32.ofNat ao))]) (rest := []) (lenOf pd_34 rfl) rfl (Nat.le_of_eq rfl) (hb hby at_739) (fun _ _ => ⟨rfl, eh113, (by decide : 44 + 0 ≤ _), (by decide : 454 + 0 ≤ _)⟩)
    obtain ⟨rfl, Nq115, eh115⟩ := hQ115
    have N115 := Fr.app N113 Nq115
    refine oc st115 ?_
    have hb742_116 : ¬ ((1 : Int32) = (0 : Int32)) := by decide
    refine ci (XS.ifNo X115.here hx rfl (hb hby at_742) rfl ((if0 _ _).trans (feq hb742_116).1)) ?_
    refine ci (XS.aload X115.here hx rfl (hb hby at_745) rfl rfl) ?_
    refine ci (XS.iconst X115.here hx rfl (hb hby at_747)) ?_
    refine sc (A := (T115.setTop (mkF m 748 (own_F pa pb pi cv1 cv2 b3 (vi 1) ao lq1 kq0 kq1 cz47 cz48 dq0 dq1 [vn (ao + 2), vn kt, vn df, vn dt, vn (cl + 1), vn lt, vz, vz, vz, vz, vz, vn lt, vr b101, vr o104, uu]) [(.int 0), (.ref o104)]))) ?_
    obtain ⟨w117, hy117, yy117, rfl, Sg117⟩ := own_cont.get (i := 0) (o := some (own_sl cs (ao + 2) kt)) cK104 rfl
    have Eg117 := Sg117.exa
    obtain ⟨cq118, kq118, q118a, q118b, q118c⟩ := isOf hZ104 eh115 Ms104.1
    obtain ⟨_, T118, Lc118, X118, hQ118, st118⟩ := own_c1 X115 <| X115.virtualBack hx (y := ym61) (z := ym61) hown104 (mvT hZ104 (hW 314 _ rfl)) (mvT hZ104 (hW 315 _ rfl)) (notFace_of_selects (args := #[]) (mvT hZ104 (hW 317 _ rfl))) (mvT hZ104 (hW 317 _ rfl)) (mvT hZ104 (hW 316 _ rfl)) (by decide) (backOf (W := 0) (rmG_key l Z a0 hw [] o104 b101 lL104 lK104 lF104 dq eK104 kK104 xK104 mK104 0 yy117 T104.heap n0 O104 Ms104 AK104 (List.getElem?_eq_some_iff.mp hy117).1 (by omega) hy117 Eg117) hZ104 (hW 318 _ rfl) (hW 37 _ rfl) (by decide) (by decide)) q118a q118c (g := (mkF m 748 (own_F pa pb pi cv1 cv2 b3 (vi 1) ao lq1 kq0 kq1 cz47 cz48 dq0 dq1 [vn (ao + 2), vn kt, vn df, vn dt, vn (cl + 1), vn lt, vz, vz, vz, vz, vz, vn lt, vr b101, vr o104, uu]) [(.int 0), (.ref o104)])) rfl (by rw [hml]; rfl) (Steps.refl _) (argsL := [(.int 0)]) (rest := []) (lenOf pd_28 rfl) rfl (Nat.le_of_eq rfl) (hb hby at_748) (fun _ _ => ⟨rfl, eh115, (by decide : 44 + 0 ≤ _), (by decide : 454 + 0 ≤ _)⟩)
    obtain ⟨rfl, Nq118, eh118⟩ := hQ118
    have N118 := Fr.app N115 Nq118
    refine oc (fun tt_ kk_ => st118.trans kk_) ?_
    refine ci (XS.aload X118.here hx rfl (hb hby at_751) rfl rfl) ?_
    refine ci (XS.iload X118.here hx rfl (hb hby at_753) rfl) ?_
    refine ci (XS.iload X118.here hx rfl (hb hby at_755) rfl) ?_
    refine sc (A := (T118.setTop (mkF m 757 (own_F pa pb pi cv1 cv2 b3 (vi 1) ao lq1 kq0 kq1 cz47 cz48 dq0 dq1 [vn (ao + 2), vn kt, vn df, vn dt, vn (cl + 1), vn lt, vz, vz, vz, vz, vz, vn lt, vr b101, vr o104, uu]) [(.int (Int32.ofNat kt)), (.int (Int32.ofNat (ao + 2))), (.ref b3), (.ref yy117)]))) ?_
    obtain ⟨_, T119, Lc119, X119, hQ119, st119⟩ := own_c1 X118 <| Jvm.LawKit.callS X118 hx (y := ym37) hown104 (mvT hZ104 (hW 209 _ rfl)) (mvT hZ104 (hW 210 _ rfl)) (mvT hZ104 (hW 2 _ rfl)) (mvT hZ104 (hW 211 _ rfl)) (by decide) (backOf (W := 0) (rmPt l Z a0 hw [] yy117 b3 k3 cs (ao + 2) kt Gc fm T104.heap n0 O104 Oc Pc Of hfm Sg117 f114 hok (by omega) (by omega)) hZ104 (hW 211 _ rfl) (hW 2 _ rfl) (by decide) (by decide)) (g := (mkF m 757 (own_F pa pb pi cv1 cv2 b3 (vi 1) ao lq1 kq0 kq1 cz47 cz48 dq0 dq1 [vn (ao + 2), vn kt, vn df, vn dt, vn (cl + 1), vn lt, vz, vz, vz, vz, vz, vn lt, vr b101, vr o104, uu]) [(.int (Int32.ofNat kt)), (.int (Int32.ofNat (ao + 2))), (.ref b3), (.ref yy117)])) rfl (by rw [hml]; rfl) (argsL := [(.ref yy117), (.ref b3), (.int (Int32.ofNat (ao + 2))), (.int (Int32.ofNat kt))]) (rest := []) (lenOf pd_34 rfl) rfl (Nat.le_of_eq rfl) (hb hby at_757) (fun _ _ => ⟨rfl, eh118, (by decide : 44 + 0 ≤ _), (by decide : 454 + 0 ≤ _)⟩)
    obtain ⟨rfl, Nq119, eh119⟩ := hQ119
    have N119 := Fr.app N118 Nq119
    refine oc st119 ?_
    have hb760_120 : ¬ ((1 : Int32) = (0 : Int32)) := by decide
    refine ci (XS.ifNo X119.here hx rfl (hb hby at_760) rfl ((if0 _ _).trans (feq hb760_120).1)) ?_
    refine sc (A := (T119.setTop (mkF m 763 (own_F pa pb pi cv1 cv2 b3 (vi 1) ao lq1 kq0 kq1 cz47 cz48 dq0 dq1 [vn (ao + 2), vn kt, vn df, vn dt, vn (cl + 1), vn lt, vz, vz, vz, vz, vz, vn lt, vr b101, vr o104, uu]) []))) ?_
    have Jq121 : ∀ (T' : State) (ls' : List Loc), Stand p l e room_1 (s.setVm T104.vm) m #[(.long pa), (.long pb), (.int pi)] below meth c T' ls' 44 454 → T'.heap = T104.heap → Fr n0 ls' → own_gc p e below s Z own_EL (Q_rm0 Z pa pb pi dq kd Gc fm h0 n0) room_1.cells room_1.slots (T'.setTop (mkF m 788 (own_F pa pb pi cv1 cv2 b3 (vi 1) ao lq1 kq0 kq1 cz47 cz48 dq0 dq1 [vn (ao + 2), vn kt, vn df, vn dt, vn (cl + 1), vn lt, vz, vz, vz, vz, vz, vn lt, vr b101, vr o104, uu]) [(.int 1)])) := by
     intro T121 l121 X121 e121 N121
     refine sc (A := (T121.setTop (mkF m 788 (own_F pa pb pi cv1 cv2 b3 (vi 1) ao lq1 kq0 kq1 cz47 cz48 dq0 dq1 [vn (ao + 2), vn kt, vn df, vn dt, vn (cl + 1), vn lt, vz, vz, vz, vz, vz, vn lt, vr b101, vr o104, uu]) [(.int 1)]))) ?_
     refine ci (XS.istore X121.here hx rfl (hb hby at_788) rfl (l' := (own_F pa pb pi cv1 cv2 b3 (vi 1) ao lq1 kq0 kq1 cz47 cz48 dq0 dq1 [vn (ao + 2), vn kt, vn df, vn dt, vn (cl + 1), vn lt, vz, vz, vz, vz, vz, vn lt, vr b101, vr o104, vi 1])) rfl) ?_
     refine ci (XS.iload X121.here hx rfl (hb hby at_790) rfl) ?_
     refine ci (XS.iconst X121.here hx rfl (hb hby at_792)) ?_
     have hb793_122 : (1 : Int32) = (1 : Int32) := by decide
     refine ci (XS.icmpNo X121.here hx rfl (hb hby at_793) rfl (teq hb793_122).2) ?_
     refine ci (XS.iload X121.here hx rfl (hb hby at_796) rfl) ?_
     have hb798_123 : ¬ ((1 : Int32) = (0 : Int32)) := by decide
     refine ci (XS.ifNo X121.here hx rfl (hb hby at_798) rfl ((if0 _ _).trans (feq hb798_123).1)) ?_
     refine ci (XS.aload X121.here hx rfl (hb hby at_801) rfl rfl) ?_
     refine ci (XS.iconst X121.here hx rfl (hb hby at_803)) ?_
     refine sc (A := (T121.setTop (mkF m 804 (own_F pa pb pi cv1 cv2 b3 (vi 1) ao lq1 kq0 kq1 cz47 cz48 dq0 dq1 [vn (ao + 2), vn kt, vn df, vn dt, vn (cl + 1), vn lt, vz, vz, vz, vz, vz, vn lt, vr b101, vr o104, vi 1]) [(.int 1), (.ref o104)]))) ?_
     obtain ⟨w124, hy124, yy124, rfl, Sg124⟩ := own_cont.get (i := 1) (o := some (own_sl cs (cl + 1) 22)) cL104 rfl
     have Eg124 := Sg124.exa
     obtain ⟨cq125, kq125, q125a, q125b, q125c⟩ := isOf hZ104 e121 Ms104.1
     obtain ⟨_, T125, Lc125, X125, hQ125, st125⟩ := own_c1 X121 <| X121.virtualBack hx (y := ym32) (z := ym32) hown104 (mvT hZ104 (hW 183 _ rfl)) (mvT hZ104 (hW 184 _ rfl)) (notFace_of_selects (args := #[]) (mvT hZ104 (hW 186 _ rfl))) (mvT hZ104 (hW 186 _ rfl)) (mvT hZ104 (hW 185 _ rfl)) (by decide) (backOf (W := 0) (rmG_literal l Z a0 hw [] o104 b101 lL104 lK104 lF104 dq eL104 kL104 xL104 mL104 1 yy124 T104.heap n0 O104 Ms104 AL104 (List.getElem?_eq_some_iff.mp hy124).1 (by omega) hy124 Eg124) hZ104 (hW 187 _ rfl) (hW 37 _ rfl) (by decide) (by decide)) q125a q125c (g := (mkF m 804 (own_F pa pb pi cv1 cv2 b3 (vi 1) ao lq1 kq0 kq1 cz47 cz48 dq0 dq1 [vn (ao + 2), vn kt, vn df, vn dt, vn (cl + 1), vn lt, vz, vz, vz, vz, vz, vn lt, vr b101, vr o104, vi 1]) [(.int 1), (.ref o104)])) rfl (by rw [hml]; rfl) (Steps.refl _) (argsL := [(.int 1)]) (rest := []) (lenOf pd_28 rfl) rfl (Nat.le_of_eq rfl) (hb hby at_804) (fun _ _ => ⟨rfl, e121, (by decide : 44 + 0 ≤ _), (by decide : 454 + 0 ≤ _)⟩)
     obtain ⟨rfl, Nq125, eh125⟩ := hQ125
     have N125 := Fr.app N121 Nq125
     refine oc (fun tt_ kk_ => st125.trans kk_) ?_
     refine ci (XS.aload X125.here hx rfl (hb hby at_807) rfl rfl) ?_
     refine ci (XS.iload X125.here hx rfl (hb hby at_809) rfl) ?_
     refine ci (XS.bipush X125.here hx rfl (hb hby at_811)) ?_
     refine sc (A := (T125.setTop (mkF m 813 (own_F pa pb pi cv1 cv2 b3 (vi 1) ao lq1 kq0 kq1 cz47 cz48 dq0 dq1 [vn (ao + 2), vn kt, vn df, vn dt, vn (cl + 1), vn lt, vz, vz, vz, vz, vz, vn lt, vr b101, vr o104, vi 1]) [(.int 22), (.int (Int32.ofNat (cl + 1))), (.ref b3), (.ref yy124)]))) ?_
     obtain ⟨_, T126, Lc126, X126, hQ126, st126⟩ := own_c1 X125 <| Jvm.LawKit.callS X125 hx (y := ym37) hown104 (mvT hZ104 (hW 209 _ rfl)) (mvT hZ104 (hW 210 _ rfl)) (mvT hZ104 (hW 2 _ rfl)) (mvT hZ104 (hW 211 _ rfl)) (by decide) (backOf (W := 0) (rmPt l Z a0 hw [] yy124 b3 k3 cs (cl + 1) 22 Gc fm T104.heap n0 O104 Oc Pc Of hfm Sg124 f114 hok (by omega) (by omega)) hZ104 (hW 211 _ rfl) (hW 2 _ rfl) (by decide) (by decide)) (g := (mkF m 813 (own_F pa pb pi cv1 cv2 b3 (vi 1) ao lq1 kq0 kq1 cz47 cz48 dq0 dq1 [vn (ao + 2), vn kt, vn df, vn dt, vn (cl + 1), vn lt, vz, vz, vz, vz, vz, vn lt, vr b101, vr o104, vi 1]) [(.int 22), (.int (Int32.ofNat (cl + 1))), (.ref b3), (.ref yy124)])) rfl (by rw [hml]; rfl) (argsL := [(.ref yy124), (.ref b3), (.int (Int32.ofNat (cl + 1))), (.int 22)]) (rest := []) (lenOf pd_34 rfl) rfl (Nat.le_of_eq rfl) (hb hby at_813) (fun _ _ => ⟨rfl, eh125, (by decide : 44 + 0 ≤ _), (by decide : 454 + 0 ≤ _)⟩)
     obtain ⟨rfl, Nq126, eh126⟩ := hQ126
     have N126 := Fr.app N125 Nq126
     refine oc st126 ?_
     have hb816_127 : ¬ ((1 : Int32) = (0 : Int32)) := by decide
     refine ci (XS.ifNo X126.here hx rfl (hb hby at_816) rfl ((if0 _ _).trans (feq hb816_127).1)) ?_
     refine ci (XS.iconst X126.here hx rfl (hb hby at_819)) ?_
     refine ci (XS.goto X126.here hx rfl (pc0 := 820) (pc' := 824) rfl (hb hby at_820) (by decide) (by decide)) ?_
     refine sc (A := (T126.setTop (mkF m 824 (own_F pa pb pi cv1 cv2 b3 (vi 1) ao lq1 kq0 kq1 cz47 cz48 dq0 dq1 [vn (ao + 2), vn kt, vn df, vn dt, vn (cl + 1), vn lt, vz, vz, vz, vz, vz, vn lt, vr b101, vr o104, vi 1]) [(.int 1)]))) ?_
     refine own_retc X126 hx hlk hS104 (by rw [eh126]; omega : T104.heap.size ≤ T126.heap.size) hZ104 hEL (by rw [eh126]; exact CH104) Bd.returns rfl (Or.inl ⟨rfl, by simp, _, rfl⟩) (hb hby at_824) (by decide) (by decide) ?_
     rw [eh126]
     exact ⟨rfl, N126⟩
    refine sc (A := (T119.setTop (mkF m 763 (own_F pa pb pi cv1 cv2 b3 (vi 1) ao lq1 kq0 kq1 cz47 cz48 dq0 dq1 [vn (ao + 2), vn kt, vn df, vn dt, vn (cl + 1), vn lt, vz, vz, vz, vz, vz, vn lt, vr b101, vr o104, uu]) []))) ?_
    refine ci (XS.aload X119.here hx rfl (hb hby at_763) rfl rfl) ?_
    refine ci (XS.iconst X119.here hx rfl (hb hby at_765)) ?_
    refine sc (A := (T119.setTop (mkF m 766 (own_F pa pb pi cv1 cv2 b3 (vi 1) ao lq1 kq0 kq1 cz47 cz48 dq0 dq1 [vn (ao + 2), vn kt, vn df, vn dt, vn (cl + 1), vn lt, vz, vz, vz, vz, vz, vn lt, vr b101, vr o104, uu]) [(.int 0), (.ref o104)]))) ?_
    rcases HF with ⟨rfl, hf1, hf2, hf3⟩ | ⟨rfl, hf1⟩
    ·have b9_ : kt < cl := PL1.2.2.2.2.2.2.2.2.elim (fun q => q.2.1) (fun q => by cases q.1)
     have hf4 := hf3.symm
     subst hf2 hf4
     refine sc (A := (T119.setTop (mkF m 766 (own_F pa pb pi cv1 cv2 b3 (vi 1) ao lq1 kq0 kq1 cz47 cz48 dq0 dq1 [vn (ao + 2), vn kt, vn (kt + 1), vn cl, vn (cl + 1), vn lt, vz, vz, vz, vz, vz, vn lt, vr b101, vr o104, uu]) [(.int 0), (.ref o104)]))) ?_
     obtain ⟨w128, hy128, yy128, rfl, Sg128⟩ := own_cont.get (i := 0) (o := some (own_sl cs (kt + 1) cl)) cF104 rfl
     have Eg128 := Sg128.exa
     obtain ⟨cq129, kq129, q129a, q129b, q129c⟩ := isOf hZ104 eh119 Ms104.1
     obtain ⟨_, T129, Lc129, X129, hQ129, st129⟩ := own_c1 X119 <| X119.virtualBack hx (y := ym62) (z := ym62) hown104 (mvT hZ104 (hW 319 _ rfl)) (mvT hZ104 (hW 320 _ rfl)) (notFace_of_selects (args := #[]) (mvT hZ104 (hW 322 _ rfl))) (mvT hZ104 (hW 322 _ rfl)) (mvT hZ104 (hW 321 _ rfl)) (by decide) (backOf (W := 0) (rmG_fallback l Z a0 hw [] o104 b101 lL104 lK104 lF104 dq eF104 kF104 xF104 mF104 0 yy128 T104.heap n0 O104 Ms104 AF104 (List.getElem?_eq_some_iff.mp hy128).1 (by omega) hy128 Eg128) hZ104 (hW 323 _ rfl) (hW 37 _ rfl) (by decide) (by decide)) q129a q129c (g := (mkF m 766 (own_F pa pb pi cv1 cv2 b3 (vi 1) ao lq1 kq0 kq1 cz47 cz48 dq0 dq1 [vn (ao + 2), vn kt, vn (kt + 1), vn cl, vn (cl + 1), vn lt, vz, vz, vz, vz, vz, vn lt, vr b101, vr o104, uu]) [(.int 0), (.ref o104)])) rfl (by rw [hml]; rfl) (Steps.refl _) (argsL := [(.int 0)]) (rest := []) (lenOf pd_28 rfl) rfl (Nat.le_of_eq rfl) (hb hby at_766) (fun _ _ => ⟨rfl, eh119, (by decide : 44 + 0 ≤ _), (by decide : 454 + 0 ≤ _)⟩)
     obtain ⟨rfl, Nq129, eh129⟩ := hQ129
     have N129 := Fr.app N119 Nq129
     refine oc (fun tt_ kk_ => st129.trans kk_) ?_
     refine sc (A := (T129.setTop (mkF m 769 (own_F pa pb pi cv1 cv2 b3 (vi 1) ao lq1 kq0 kq1 cz47 cz48 dq0 dq1 [vn (ao + 2), vn kt, vn (kt + 1), vn cl, vn (cl + 1), vn lt, vz, vz, vz, vz, vz, vn lt, vr b101, vr o104, uu]) [(.ref yy128)]))) ?_
     refine ci (XS.iload X129.here hx rfl (hb hby at_769) rfl) ?_
     refine ci (XS.aload X129.here hx rfl (hb hby at_771) rfl rfl) ?_
     refine ci (XS.iload X129.here hx rfl (hb hby at_773) rfl) ?_
     refine ci (XS.iload X129.here hx rfl (hb hby at_775) rfl) ?_
     refine sc (A := (T129.setTop (mkF m 777 (own_F pa pb pi cv1 cv2 b3 (vi 1) ao lq1 kq0 kq1 cz47 cz48 dq0 dq1 [vn (ao + 2), vn kt, vn (kt + 1), vn cl, vn (cl + 1), vn lt, vz, vz, vz, vz, vz, vn lt, vr b101, vr o104, uu]) [(.int (Int32.ofNat cl)), (.int (Int32.ofNat (kt + 1))), (.ref b3), (.int cz47), (.ref yy128)]))) ?_
     obtain ⟨_, T130, Lc130, X130, hQ130, st130⟩ := own_c1 X129 <| Jvm.LawKit.callS X129 hx (y := ym63) hown104 (mvT hZ104 (hW 324 _ rfl)) (mvT hZ104 (hW 325 _ rfl)) (mvT hZ104 (hW 2 _ rfl)) (mvT hZ104 (hW 326 _ rfl)) (by decide) (backOf (W := 0) (rmFb l Z a0 hw [] yy128 b3 k3 cs (kt + 1) cl Gc fm cz47 T104.heap n0 O104 Oc Pc Of hfm Sg128 f114 hok (by omega) (by omega) hf1) hZ104 (hW 326 _ rfl) (hW 2 _ rfl) (by decide) (by decide)) (g := (mkF m 777 (own_F pa pb pi cv1 cv2 b3 (vi 1) ao lq1 kq0 kq1 cz47 cz48 dq0 dq1 [vn (ao + 2), vn kt, vn (kt + 1), vn cl, vn (cl + 1), vn lt, vz, vz, vz, vz, vz, vn lt, vr b101, vr o104, uu]) [(.int (Int32.ofNat cl)), (.int (Int32.ofNat (kt + 1))), (.ref b3), (.int cz47), (.ref yy128)])) rfl (by rw [hml]; rfl) (argsL := [(.ref yy128), (.int cz47), (.ref b3), (.int (Int32.ofNat (kt + 1))), (.int (Int32.ofNat cl))]) (rest := []) (lenOf pd_38 rfl) rfl (Nat.le_of_eq rfl) (hb hby at_777) (fun _ _ => ⟨rfl, eh129, (by decide : 44 + 0 ≤ _), (by decide : 454 + 0 ≤ _)⟩)
     obtain ⟨rfl, Nq130, eh130⟩ := hQ130
     have N130 := Fr.app N129 Nq130
     refine oc st130 ?_
     have hb780_131 : ¬ ((1 : Int32) = (0 : Int32)) := by decide
     refine ci (XS.ifNo X130.here hx rfl (hb hby at_780) rfl ((if0 _ _).trans (feq hb780_131).1)) ?_
     refine ci (XS.iconst X130.here hx rfl (hb hby at_783)) ?_
     refine ci (XS.goto X130.here hx rfl (pc0 := 784) (pc' := 788) rfl (hb hby at_784) (by decide) (by decide)) ?_
     refine sc (A := (T130.setTop (mkF m 788 (own_F pa pb pi cv1 cv2 b3 (vi 1) ao lq1 kq0 kq1 cz47 cz48 dq0 dq1 [vn (ao + 2), vn kt, vn (kt + 1), vn cl, vn (cl + 1), vn lt, vz, vz, vz, vz, vz, vn lt, vr b101, vr o104, uu]) [(.int 1)]))) ?_
     exact Jq121 _ _ (X130.more (by decide) (by decide)) eh130 N130
    ·obtain ⟨w132, hy132, rfl⟩ := own_cont.get (i := 0) (o := none) cF104 rfl
     obtain ⟨cq133, kq133, q133a, q133b, q133c⟩ := isOf hZ104 eh119 Ms104.1
     obtain ⟨_, T133, Lc133, X133, hQ133, st133⟩ := own_c1 X119 <| X119.virtualBack hx (y := ym62) (z := ym62) hown104 (mvT hZ104 (hW 319 _ rfl)) (mvT hZ104 (hW 320 _ rfl)) (notFace_of_selects (args := #[]) (mvT hZ104 (hW 322 _ rfl))) (mvT hZ104 (hW 322 _ rfl)) (mvT hZ104 (hW 321 _ rfl)) (by decide) (backOf (W := 0) (rmG_fallback0 l Z a0 hw [] o104 b101 lL104 lK104 lF104 dq eF104 kF104 xF104 mF104 0 T104.heap n0 O104 Ms104 AF104 (List.getElem?_eq_some_iff.mp hy132).1 (by omega) hy132) hZ104 (hW 323 _ rfl) (hW 37 _ rfl) (by decide) (by decide)) q133a q133c (g := (mkF m 766 (own_F pa pb pi cv1 cv2 b3 (vi 1) ao lq1 kq0 kq1 cz47 cz48 dq0 dq1 [vn (ao + 2), vn kt, vn df, vn dt, vn (cl + 1), vn lt, vz, vz, vz, vz, vz, vn lt, vr b101, vr o104, uu]) [(.int 0), (.ref o104)])) rfl (by rw [hml]; rfl) (Steps.refl _) (argsL := [(.int 0)]) (rest := []) (lenOf pd_28 rfl) rfl (Nat.le_of_eq rfl) (hb hby at_766) (fun _ _ => ⟨rfl, eh119, (by decide : 44 + 0 ≤ _), (by decide : 454 + 0 ≤ _)⟩)
     obtain ⟨rfl, Nq133, eh133⟩ := hQ133
     have N133 := Fr.app N119 Nq133
     refine oc (fun tt_ kk_ => st133.trans kk_) ?_
     refine sc (A := (T133.setTop (mkF m 769 (own_F pa pb pi cv1 cv2 b3 (vi 1) ao lq1 kq0 kq1 cz47 cz48 dq0 dq1 [vn (ao + 2), vn kt, vn df, vn dt, vn (cl + 1), vn lt, vz, vz, vz, vz, vz, vn lt, vr b101, vr o104, uu]) [.null]))) ?_
     refine ci (XS.iload X133.here hx rfl (hb hby at_769) rfl) ?_
     refine ci (XS.aload X133.here hx rfl (hb hby at_771) rfl rfl) ?_
     refine ci (XS.iload X133.here hx rfl (hb hby at_773) rfl) ?_
     refine ci (XS.iload X133.here hx rfl (hb hby at_775) rfl) ?_
     refine sc (A := (T133.setTop (mkF m 777 (own_F pa pb pi cv1 cv2 b3 (vi 1) ao lq1 kq0 kq1 cz47 cz48 dq0 dq1 [vn (ao + 2), vn kt, vn df, vn dt, vn (cl + 1), vn lt, vz, vz, vz, vz, vz, vn lt, vr b101, vr o104, uu]) [(.int (Int32.ofNat dt)), (.int (Int32.ofNat df)), (.ref b3), (.int cz47), .null]))) ?_
     obtain ⟨_, T134, Lc134, X134, hQ134, st134⟩ := own_c1 X133 <| Jvm.LawKit.callS X133 hx (y := ym63) hown104 (mvT hZ104 (hW 324 _ rfl)) (mvT hZ104 (hW 325 _ rfl)) (mvT hZ104 (hW 2 _ rfl)) (mvT hZ104 (hW 326 _ rfl)) (by decide) (backOf (W := 0) (rmFn l Z a0 hw [] b3 cz47 (Int32.ofNat df) (Int32.ofNat dt) T104.heap n0 O104 hf1) hZ104 (hW 326 _ rfl) (hW 2 _ rfl) (by decide) (by decide)) (g := (mkF m 777 (own_F pa pb pi cv1 cv2 b3 (vi 1) ao lq1 kq0 kq1 cz47 cz48 dq0 dq1 [vn (ao + 2), vn kt, vn df, vn dt, vn (cl + 1), vn lt, vz, vz, vz, vz, vz, vn lt, vr b101, vr o104, uu]) [(.int (Int32.ofNat dt)), (.int (Int32.ofNat df)), (.ref b3), (.int cz47), .null])) rfl (by rw [hml]; rfl) (argsL := [.null, (.int cz47), (.ref b3), (.int (Int32.ofNat df)), (.int (Int32.ofNat dt))]) (rest := []) (lenOf pd_38 rfl) rfl (Nat.le_of_eq rfl) (hb hby at_777) (fun _ _ => ⟨rfl, eh133, (by decide : 44 + 0 ≤ _), (by decide : 454 + 0 ≤ _)⟩)
     obtain ⟨rfl, Nq134, eh134⟩ := hQ134
     have N134 := Fr.app N133 Nq134
     refine oc st134 ?_
     have hb780_135 : ¬ ((1 : Int32) = (0 : Int32)) := by decide
     refine ci (XS.ifNo X134.here hx rfl (hb hby at_780) rfl ((if0 _ _).trans (feq hb780_135).1)) ?_
     refine ci (XS.iconst X134.here hx rfl (hb hby at_783)) ?_
     refine ci (XS.goto X134.here hx rfl (pc0 := 784) (pc' := 788) rfl (hb hby at_784) (by decide) (by decide)) ?_
     refine sc (A := (T134.setTop (mkF m 788 (own_F pa pb pi cv1 cv2 b3 (vi 1) ao lq1 kq0 kq1 cz47 cz48 dq0 dq1 [vn (ao + 2), vn kt, vn df, vn dt, vn (cl + 1), vn lt, vz, vz, vz, vz, vz, vn lt, vr b101, vr o104, uu]) [(.int 1)]))) ?_
     exact Jq121 _ _ (X134.more (by decide) (by decide)) eh134 N134
   have J663_0 : ∀ (H : Heap) (T' : State) (ls : List Loc) (cs : List Int32), (Stand p l e room_1 (s.setVm s.vm) m #[(.long pa), (.long pb), (.int pi)] below meth c T' ls 1 22) → (T'.heap = H) → (Fr n0 ls) → (Old Z n0 H) → (CHr Z own_EL s.vm s.heap s.vm H) → (Arv Z H b3 k3 .char (22 : Int32) (cs.map Value.int) (.int 0)) → (own_ok cs) → (own_nb cs 0 22) → (cnt = 0) → own_gc p e below s Z own_EL (Q_rm0 Z pa pb pi dq kd Gc fm h0 n0) room_1.cells room_1.slots (T'.setTop (mkF m 663 (own_F pa pb pi cv1 cv2 b3 (vn cnt) ao lq1 kq0 kq1 cz47 cz48 dq0 dq1 [vz, vz, vz, vz, vz, vz, vz, vz, vz, vz, vz, vn ao, uu, uu, uu]) [])) := by
    intro H T' ls cs X' e' N' O' CH' V' hok NB hcn
    have hl22 := hok.1
    have ltb := olt V'.lt
    subst hcn
    have hps : own_ps cs 0 ([] : List own_Pl) := ⟨by decide, NB⟩
    refine sc (A := (T'.setTop (mkF m 663 (own_F pa pb pi cv1 cv2 b3 (vz) ao lq1 kq0 kq1 cz47 cz48 dq0 dq1 [vz, vz, vz, vz, vz, vz, vz, vz, vz, vz, vz, vn ao, uu, uu, uu]) []))) ?_
    obtain ⟨T136, h136, X136, e136, E136, A136, D136, -, st136⟩ := newO X' hx hZ hown (hW 6 _ rfl) (hW 7 _ rfl) (hW 8 _ rfl) e' (g := (mkF m 663 (own_F pa pb pi cv1 cv2 b3 (vz) ao lq1 kq0 kq1 cz47 cz48 dq0 dq1 [vz, vz, vz, vz, vz, vz, vz, vz, vz, vz, vz, vn ao, uu, uu, uu]) [])) rfl (hb hby at_663) (by decide) (by decide)
    obtain ⟨b136, g136⟩ : ∃ z, z = H.size := ⟨_, rfl⟩
    rw [← g136] at A136 D136 st136
    refine oc st136 ?_
    have lt136 := olt A136.lt
    have sz136 : H.size ≤ h136.size := E136.1
    have O136 : Old Z n0 h136 := O'.ext E136
    have z136 : n0 ≤ b136 := by have := O'.1 ▸ O'.2.1; omega
    have CHs136 := CHr.ext E136 CH'.1
    have Sf136 := Safe.ext E136 CH'.1 (Safe.new (Nat.le_of_eq g136.symm))
    have CH136 := CH'.trans CHs136
    have F136_coder : Fld Z h136 b136 "java/lang/String" "coder" "B" (.int 0) := D136 (Or.inr (hW 32 _ rfl)) (ty := .byte) pf_1
    have F136_value : Fld Z h136 b136 "java/lang/String" "value" "[B" .null := D136 (Or.inr (hW 34 _ rfl)) (ty := (.array .byte)) pf_0
    refine ci (XS.dup X136.here hx rfl (hb hby at_666) rfl rfl) ?_
    refine ci (XS.aload X136.here hx rfl (hb hby at_667) rfl rfl) ?_
    refine sc (A := (T136.setTop (mkF m 669 (own_F pa pb pi cv1 cv2 b3 (vz) ao lq1 kq0 kq1 cz47 cz48 dq0 dq1 [vz, vz, vz, vz, vz, vz, vz, vz, vz, vz, vz, vn ao, uu, uu, uu]) [(.ref b3), (.ref b136), (.ref b136)]))) ?_
    have f137 : Arv Z h136 b3 k3 .char (22 : Int32) (cs.map Value.int) (.int 0) := (V'.ext E136)
    obtain ⟨_, T138, Lc138, X138, hQ138, st138⟩ := own_c1 X136 <| X136.specialBack hx (y := ym2) rfl hown (mvT hZ (hW 9 _ rfl)) (mvT hZ (hW 10 _ rfl)) (mvT hZ (hW 11 _ rfl)) (by decide) (StrChars.Road.backV (W := 1) hZ hws (kI := 4) (hW 7 _ rfl) (cs := cs) (bs := cs.map (fun c => c.toInt8.toInt32)) (n := 22) (by omega : n0 ≤ b136) (by omega : n0 ≤ h136.size) A136 F136_value F136_coder f137 (Oc.ext O136.2) Pc hl22 rfl (by decide) (by decide) hok.2 rfl (by decide) (by decide)) (g := (mkF m 669 (own_F pa pb pi cv1 cv2 b3 (vz) ao lq1 kq0 kq1 cz47 cz48 dq0 dq1 [vz, vz, vz, vz, vz, vz, vz, vz, vz, vz, vz, vn ao, uu, uu, uu]) [(.ref b3), (.ref b136), (.ref b136)])) rfl (by rw [hml]; rfl) (Steps.refl _) (a := b136) (argsL := [(.ref b3)]) (rest := [(.ref b136)]) (lenOf pd_36 rfl) rfl (Nat.le_of_eq rfl) (hb hby at_669) (fun _ _ => ⟨rfl, e136, (by decide : 2 + 1 ≤ _), (by decide : 26 + 22 ≤ _)⟩)
    obtain ⟨rfl, Nq138, Kp138, g1138, g2138, t138, kb138, u1138, u2138, u3138, g4138, g5138⟩ := hQ138
    have N138 := Fr.app N' Nq138
    refine oc (fun tt_ kk_ => st138.trans kk_) ?_
    have CHs138 := CHr.keep Kp138 (allS Sf136 all0) CH136.1
    have CH138 := CH136.trans CHs138
    have sz138 : h136.size ≤ T138.heap.size := Kp138.1
    have O138 : Old Z n0 T138.heap := O136.keep Kp138 (allS (by omega) all0)
    have Sx138 : own_sr Z T138.heap b136 cs := ⟨hok.2, Nat.le_of_eq hl22, t138, kb138, g1138, g4138, g2138, by have q := g5138; rw [List.map_map] at q; rw [hl22]; exact q⟩
    have Ex_b136 := Sx138.exa
    refine ci (XS.astore X138.here hx rfl (hb hby at_672) rfl rfl (l' := (own_F pa pb pi cv1 cv2 b3 (vz) ao lq1 kq0 kq1 cz47 cz48 dq0 dq1 [vz, vz, vz, vz, vz, vz, vz, vz, vz, vz, vz, vn ao, vr b136, uu, uu])) rfl) ?_
    refine ci (XS.aload X138.here hx rfl (hb hby at_674) rfl rfl) ?_
    refine sc (A := (T138.setTop (mkF m 676 (own_F pa pb pi cv1 cv2 b3 (vz) ao lq1 kq0 kq1 cz47 cz48 dq0 dq1 [vz, vz, vz, vz, vz, vz, vz, vz, vz, vz, vz, vn ao, vr b136, uu, uu]) [(.ref b136)]))) ?_
    obtain ⟨_, _, ⟨T139, L139, k139, n139⟩, -, Xr139, hSr139, hgr139, ⟨Lc139, hQ139, l139, y139, z139, CHs139⟩, st139⟩ := callSS X138 hx (y := ym8) hown (mvT hZ (hW 35 _ rfl)) (mvT hZ (hW 36 _ rfl)) (mvT hZ (hW 37 _ rfl)) (mvT hZ (hW 38 _ rfl)) (by decide) (backOfSH (W := 0) (rmPa l Z a0 hw [] b136 cs ([] : List own_Pl) dq kd Gc fm T138.heap n0 hEL O138 Oc Pc Of hfm S_d V_d E_d l_d Sx138 hl22 hps (Nat.le_of_ble_eq_true rfl)) hZ (hW 38 _ rfl) (hW 37 _ rfl) (by decide) (by decide) hEL CH138.1) (g := (mkF m 676 (own_F pa pb pi cv1 cv2 b3 (vz) ao lq1 kq0 kq1 cz47 cz48 dq0 dq1 [vz, vz, vz, vz, vz, vz, vz, vz, vz, vz, vz, vn ao, vr b136, uu, uu]) [(.ref b136)])) rfl (by rw [hml]; rfl) (argsL := [(.ref b136)]) (rest := []) (lenOf pd_37 rfl) rfl (Nat.le_of_eq rfl) (hb hby at_676) (fun _ _ => ⟨rfl, rfl, (by decide : 3 + 41 ≤ _), (by decide : 48 + 406 ≤ _)⟩)
    dsimp only [Pt.U, Pt.locs, Pt.cells, Pt.slots] at Xr139 l139 y139 z139 st139 hQ139 hSr139 hgr139 CHs139
    obtain ⟨X139, hS139, hZ139, hown139⟩ := rebS hS0 (by omega : 0 ≤ T138.heap.size) Xr139 hSr139 hgr139 hZ hown
    subst l139 y139 z139
    obtain ⟨o139, lL139, lK139, lF139, eL139, eK139, eF139, kL139, kK139, kF139, xL139, xK139, xF139, mL139, mK139, mF139, rfl, Nq139, Kp139, Ms139, AL139, AK139, AF139, cL139, cK139, cF139⟩ := hQ139
    have N139 := Fr.app N138 Nq139
    refine oc (fun tt_ kk_ => st139.trans kk_) ?_
    have CH139 := CH138.trans CHs139
    have sz139 : T138.heap.size ≤ T139.heap.size := Kp139.1
    have O139 : Old Z n0 T139.heap := O138.keep Kp139 all0
    have nL : xL139.length = 1 := own_cont.len cL139
    have nK : xK139.length = 0 := own_cont.len cK139
    have nF : xF139.length = 0 := own_cont.len cF139
    refine ci (XS.astore X139.here hx rfl (hb hby at_679) rfl rfl (l' := (own_F pa pb pi cv1 cv2 b3 (vz) ao lq1 kq0 kq1 cz47 cz48 dq0 dq1 [vz, vz, vz, vz, vz, vz, vz, vz, vz, vz, vz, vn ao, vr b136, vr o139, uu])) rfl) ?_
    refine ci (XS.aload X139.here hx rfl (hb hby at_681) rfl rfl) ?_
    refine sc (A := (T139.setTop (mkF m 683 (own_F pa pb pi cv1 cv2 b3 (vz) ao lq1 kq0 kq1 cz47 cz48 dq0 dq1 [vz, vz, vz, vz, vz, vz, vz, vz, vz, vz, vz, vn ao, vr b136, vr o139, uu]) [(.ref o139)]))) ?_
    obtain ⟨cq140, kq140, q140a, q140b, q140c⟩ := isOf hZ139 rfl Ms139.1
    obtain ⟨_, T140, Lc140, X140, hQ140, st140⟩ := own_c1 X139 <| X139.virtualBack hx (y := ym28) (z := ym28) hown139 (mvT hZ139 (hW 160 _ rfl)) (mvT hZ139 (hW 161 _ rfl)) (notFace_of_selects (args := #[]) (mvT hZ139 (hW 163 _ rfl))) (mvT hZ139 (hW 163 _ rfl)) (mvT hZ139 (hW 162 _ rfl)) (by decide) (backOf (W := 0) (rmPh l Z a0 hw [] o139 b136 lL139 lK139 lF139 dq eK139 kK139 xK139 mK139 T139.heap n0 O139 Ms139 AK139) hZ139 (hW 164 _ rfl) (hW 37 _ rfl) (by decide) (by decide)) q140a q140c (g := (mkF m 683 (own_F pa pb pi cv1 cv2 b3 (vz) ao lq1 kq0 kq1 cz47 cz48 dq0 dq1 [vz, vz, vz, vz, vz, vz, vz, vz, vz, vz, vz, vn ao, vr b136, vr o139, uu]) [(.ref o139)])) rfl (by rw [hml]; rfl) (Steps.refl _) (argsL := []) (rest := []) (lenOf pd_8 rfl) rfl (Nat.le_of_eq rfl) (hb hby at_683) (fun _ _ => ⟨rfl, rfl, (by decide : 44 + 0 ≤ _), (by decide : 454 + 0 ≤ _)⟩)
    obtain ⟨rfl, Nq140, eh140⟩ := hQ140
    have N140 := Fr.app N139 Nq140
    refine oc (fun tt_ kk_ => st140.trans kk_) ?_
    rw [nK]
    refine ci (XS.iload X140.here hx rfl (hb hby at_686) rfl) ?_
    have hb688_141 : (0 : Int32) = (0 : Int32) := by decide
    refine ci (XS.icmpYes X140.here hx rfl (pc0 := 688) (pc' := 693) rfl (hb hby at_688) rfl (teq hb688_141).1 (by decide) (by decide)) ?_
    refine ci (XS.aload X140.here hx rfl (hb hby at_693) rfl rfl) ?_
    refine ci (XS.aload X140.here hx rfl (hb hby at_695) rfl rfl) ?_
    refine sc (A := (T140.setTop (mkF m 697 (own_F pa pb pi cv1 cv2 b3 (vz) ao lq1 kq0 kq1 cz47 cz48 dq0 dq1 [vz, vz, vz, vz, vz, vz, vz, vz, vz, vz, vz, vn ao, vr b136, vr o139, uu]) [(.ref o139), (.ref b136)]))) ?_
    obtain ⟨cq142, kq142, q142a, q142b, q142c⟩ := isOf hZ139 eh140 Ms139.1
    obtain ⟨_, T142, Lc142, X142, hQ142, st142⟩ := own_c1 X140 <| X140.virtualBack hx (y := ym30) (z := ym30) hown139 (mvT hZ139 (hW 173 _ rfl)) (mvT hZ139 (hW 174 _ rfl)) (notFace_of_selects (args := #[]) (mvT hZ139 (hW 176 _ rfl))) (mvT hZ139 (hW 176 _ rfl)) (mvT hZ139 (hW 175 _ rfl)) (by decide) (backOf (W := 1) (rmTo l Z a0 hw [] o139 b136 lL139 lK139 lF139 T139.heap n0 O139 Ms139) hZ139 (hW 177 _ rfl) (hW 37 _ rfl) (by decide) (by decide)) q142a q142c (g := (mkF m 697 (own_F pa pb pi cv1 cv2 b3 (vz) ao lq1 kq0 kq1 cz47 cz48 dq0 dq1 [vz, vz, vz, vz, vz, vz, vz, vz, vz, vz, vz, vn ao, vr b136, vr o139, uu]) [(.ref o139), (.ref b136)])) rfl (by rw [hml]; rfl) (Steps.refl _) (argsL := []) (rest := [(.ref b136)]) (lenOf pd_11 rfl) rfl (Nat.le_of_eq rfl) (hb hby at_697) (fun _ _ => ⟨rfl, eh140, (by decide : 44 + 0 ≤ _), (by decide : 454 + 0 ≤ _)⟩)
    obtain ⟨rfl, Nq142, eh142⟩ := hQ142
    have N142 := Fr.app N140 Nq142
    refine oc (fun tt_ kk_ => st142.trans kk_) ?_
    refine sc (A := (T142.setTop (mkF m 700 (own_F pa pb pi cv1 cv2 b3 (vz) ao lq1 kq0 kq1 cz47 cz48 dq0 dq1 [vz, vz, vz, vz, vz, vz, vz, vz, vz, vz, vz, vn ao, vr b136, vr o139, uu]) [(.ref b136), (.ref b136)]))) ?_
    have f143 : Exa Z T139.heap b136 "java/lang/String" := (Ex_b136.keep Kp139)
    obtain ⟨cq144, kq144, q144a, q144b, q144c⟩ := isOf hZ139 eh142 f143
    obtain ⟨_, T144, Lc144, X144, hQ144, st144⟩ := own_c1 X142 <| X142.virtualBack hx (y := ym31) (z := ym31) hown139 (mvT hZ139 (hW 178 _ rfl)) (mvT hZ139 (hW 179 _ rfl)) (notFace_of_selects (args := #[]) (mvT hZ139 (hW 181 _ rfl))) (mvT hZ139 (hW 181 _ rfl)) (mvT hZ139 (hW 180 _ rfl)) (by decide) (backOf (W := 0) (rmES l Z a0 hw [] b136 T139.heap n0 O139 ) hZ139 (hW 182 _ rfl) (hW 8 _ rfl) (by decide) (by decide)) q144a q144c (g := (mkF m 700 (own_F pa pb pi cv1 cv2 b3 (vz) ao lq1 kq0 kq1 cz47 cz48 dq0 dq1 [vz, vz, vz, vz, vz, vz, vz, vz, vz, vz, vz, vn ao, vr b136, vr o139, uu]) [(.ref b136), (.ref b136)])) rfl (by rw [hml]; rfl) (Steps.refl _) (argsL := [(.ref b136)]) (rest := []) (lenOf pd_29 rfl) rfl (Nat.le_of_eq rfl) (hb hby at_700) (fun _ _ => ⟨rfl, eh142, (by decide : 44 + 0 ≤ _), (by decide : 454 + 0 ≤ _)⟩)
    obtain ⟨rfl, Nq144, eh144⟩ := hQ144
    have N144 := Fr.app N142 Nq144
    refine oc (fun tt_ kk_ => st144.trans kk_) ?_
    have hb703_145 : ¬ ((1 : Int32) = (0 : Int32)) := by decide
    refine ci (XS.ifYes X144.here hx rfl (pc0 := 703) (pc' := 708) rfl (hb hby at_703) rfl ((if0 _ _).trans (feq hb703_145).2) (by decide) (by decide)) ?_
    refine ci (XS.iload X144.here hx rfl (hb hby at_708) rfl) ?_
    have hb710_146 : (0 : Int32) = (0 : Int32) := by decide
    refine ci (XS.ifNo X144.here hx rfl (hb hby at_710) rfl ((if0 _ _).trans (teq hb710_146).2)) ?_
    refine ci (XS.aload X144.here hx rfl (hb hby at_713) rfl rfl) ?_
    refine ci (XS.iconst X144.here hx rfl (hb hby at_715)) ?_
    refine sc (A := (T144.setTop (mkF m 716 (own_F pa pb pi cv1 cv2 b3 (vz) ao lq1 kq0 kq1 cz47 cz48 dq0 dq1 [vz, vz, vz, vz, vz, vz, vz, vz, vz, vz, vz, vn ao, vr b136, vr o139, uu]) [(.int 0), (.ref o139)]))) ?_
    obtain ⟨w147, hy147, yy147, rfl, Sg147⟩ := own_cont.get (i := 0) (o := some (own_sl cs 0 22)) cL139 rfl
    have Eg147 := Sg147.exa
    obtain ⟨cq148, kq148, q148a, q148b, q148c⟩ := isOf hZ139 eh144 Ms139.1
    obtain ⟨_, T148, Lc148, X148, hQ148, st148⟩ := own_c1 X144 <| X144.virtualBack hx (y := ym32) (z := ym32) hown139 (mvT hZ139 (hW 183 _ rfl)) (mvT hZ139 (hW 184 _ rfl)) (notFace_of_selects (args := #[]) (mvT hZ139 (hW 186 _ rfl))) (mvT hZ139 (hW 186 _ rfl)) (mvT hZ139 (hW 185 _ rfl)) (by decide) (backOf (W := 0) (rmG_literal l Z a0 hw [] o139 b136 lL139 lK139 lF139 dq eL139 kL139 xL139 mL139 0 yy147 T139.heap n0 O139 Ms139 AL139 (List.getElem?_eq_some_iff.mp hy147).1 (by omega) hy147 Eg147) hZ139 (hW 187 _ rfl) (hW 37 _ rfl) (by decide) (by decide)) q148a q148c (g := (mkF m 716 (own_F pa pb pi cv1 cv2 b3 (vz) ao lq1 kq0 kq1 cz47 cz48 dq0 dq1 [vz, vz, vz, vz, vz, vz, vz, vz, vz, vz, vz, vn ao, vr b136, vr o139, uu]) [(.int 0), (.ref o139)])) rfl (by rw [hml]; rfl) (Steps.refl _) (argsL := [(.int 0)]) (rest := []) (lenOf pd_28 rfl) rfl (Nat.le_of_eq rfl) (hb hby at_716) (fun _ _ => ⟨rfl, eh144, (by decide : 44 + 0 ≤ _), (by decide : 454 + 0 ≤ _)⟩)
    obtain ⟨rfl, Nq148, eh148⟩ := hQ148
    have N148 := Fr.app N144 Nq148
    refine oc (fun tt_ kk_ => st148.trans kk_) ?_
    refine ci (XS.aload X148.here hx rfl (hb hby at_719) rfl rfl) ?_
    refine ci (XS.iconst X148.here hx rfl (hb hby at_721)) ?_
    refine ci (XS.bipush X148.here hx rfl (hb hby at_722)) ?_
    refine sc (A := (T148.setTop (mkF m 724 (own_F pa pb pi cv1 cv2 b3 (vz) ao lq1 kq0 kq1 cz47 cz48 dq0 dq1 [vz, vz, vz, vz, vz, vz, vz, vz, vz, vz, vz, vn ao, vr b136, vr o139, uu]) [(.int 22), (.int 0), (.ref b3), (.ref yy147)]))) ?_
    have f149 : Arv Z T139.heap b3 k3 .char (22 : Int32) (cs.map Value.int) (.int 0) := ((f137.keep Kp138 (ninS (one (by omega)) nin0)).keep Kp139 nin0)
    obtain ⟨_, T150, Lc150, X150, hQ150, st150⟩ := own_c1 X148 <| Jvm.LawKit.callS X148 hx (y := ym37) hown139 (mvT hZ139 (hW 209 _ rfl)) (mvT hZ139 (hW 210 _ rfl)) (mvT hZ139 (hW 2 _ rfl)) (mvT hZ139 (hW 211 _ rfl)) (by decide) (backOf (W := 0) (rmPt l Z a0 hw [] yy147 b3 k3 cs 0 22 Gc fm T139.heap n0 O139 Oc Pc Of hfm Sg147 f149 hok (by omega) (by omega)) hZ139 (hW 211 _ rfl) (hW 2 _ rfl) (by decide) (by decide)) (g := (mkF m 724 (own_F pa pb pi cv1 cv2 b3 (vz) ao lq1 kq0 kq1 cz47 cz48 dq0 dq1 [vz, vz, vz, vz, vz, vz, vz, vz, vz, vz, vz, vn ao, vr b136, vr o139, uu]) [(.int 22), (.int 0), (.ref b3), (.ref yy147)])) rfl (by rw [hml]; rfl) (argsL := [(.ref yy147), (.ref b3), (.int 0), (.int 22)]) (rest := []) (lenOf pd_34 rfl) rfl (Nat.le_of_eq rfl) (hb hby at_724) (fun _ _ => ⟨rfl, eh148, (by decide : 44 + 0 ≤ _), (by decide : 454 + 0 ≤ _)⟩)
    obtain ⟨rfl, Nq150, eh150⟩ := hQ150
    have N150 := Fr.app N148 Nq150
    refine oc st150 ?_
    refine sc (A := (T150.setTop (mkF m 727 (own_F pa pb pi cv1 cv2 b3 (vz) ao lq1 kq0 kq1 cz47 cz48 dq0 dq1 [vz, vz, vz, vz, vz, vz, vz, vz, vz, vz, vz, vn ao, vr b136, vr o139, uu]) [(.int 1)]))) ?_
    refine own_retc X150 hx hlk hS139 (by rw [eh150]; omega : T139.heap.size ≤ T150.heap.size) hZ139 hEL (by rw [eh150]; exact CH139) Bd.returns rfl (Or.inl ⟨rfl, by simp, _, rfl⟩) (hb hby at_727) (by decide) (by decide) ?_
    rw [eh150]
    exact ⟨rfl, N150⟩
   have JC2 : ∀ (H : Heap) (T' : State) (ls : List Loc) (cs : List Int32) (kt : Nat) (hcx : Bool) (cl df dt lt : Nat) (kw : Nat) (hcw : Bool) (dfw dtw i : Nat), (Stand p l e room_1 (s.setVm s.vm) m #[(.long pa), (.long pb), (.int pi)] below meth c T' ls 1 22) → (T'.heap = H) → (Fr n0 ls) → (Old Z n0 H) → (CHr Z own_EL s.vm s.heap s.vm H) → (Arv Z H b3 k3 .char (22 : Int32) (cs.map Value.int) (.int 0)) → (own_ok cs) → (own_pse cs 0 [(ao, kt, hcx, cl)] (cl + 1)) → (own_hf cz47 hcx kt cl df dt) → (cl < lt) → (lt ≤ 12) → (cnt = 2) → (own_C cs (cl + 1) lt kw hcw i cz48 dfw dtw) → (i ≤ lt + 7) → (lt + 2 < i) → own_gc p e below s Z own_EL (Q_rm0 Z pa pb pi dq kd Gc fm h0 n0) room_1.cells room_1.slots (T'.setTop (mkF m 649 (own_F pa pb pi cv1 cv2 b3 (vn cnt) ao lq1 kq0 kq1 cz47 cz48 dq0 dq1 [vn (ao + 2), vn kt, vn df, vn dt, vn (cl + 1), vn lt, vn (lt + 2), vn kw, vn dfw, vn dtw, vz, vn i, uu, uu, uu]) [])) := by
    intro H T' ls cs kt hcx cl df dt lt kw hcw dfw dtw i X' e' N' O' CH' V' hok PS HF b5_ b6_ hn2 hC b7_ b9_
    have hl22 := hok.1
    have ltb := olt V'.lt
    obtain ⟨tc1, tc2, tc3, tc4, tc5, tc6⟩ := own_tC hok (by omega) hC
    refine sc (A := (T'.setTop (mkF m 649 (own_F pa pb pi cv1 cv2 b3 (vn cnt) ao lq1 kq0 kq1 cz47 cz48 dq0 dq1 [vn (ao + 2), vn kt, vn df, vn dt, vn (cl + 1), vn lt, vn (lt + 2), vn kw, vn dfw, vn dtw, vz, vn i, uu, uu, uu]) []))) ?_
    refine ci (XS.aload X'.here hx rfl (hb hby at_649) rfl rfl) ?_
    refine ci (XS.iload X'.here hx rfl (hb hby at_651) rfl) ?_
    refine ci (XS.bipush X'.here hx rfl (hb hby at_653)) ?_
    refine sc (A := (T'.setTop (mkF m 655 (own_F pa pb pi cv1 cv2 b3 (vn cnt) ao lq1 kq0 kq1 cz47 cz48 dq0 dq1 [vn (ao + 2), vn kt, vn df, vn dt, vn (cl + 1), vn lt, vn (lt + 2), vn kw, vn dfw, vn dtw, vz, vn i, uu, uu, uu]) [(.int 125), (.int (Int32.ofNat i)), (.ref b3)]))) ?_
    obtain ⟨cl151, Ar151, q151, S151, Ng151, H151, G151⟩ := id V'
    have hq151 := hok.1
    obtain ⟨T151, h151, X151, e151, W151, st151⟩ := stC X' hx hZ e' Ar151 (j := (Int32.ofNat i)) (inb_of S151 (own_inn (i := i) (m := 22) (by omega) (by omega))) (g := (mkF m 655 (own_F pa pb pi cv1 cv2 b3 (vn cnt) ao lq1 kq0 kq1 cz47 cz48 dq0 dq1 [vn (ao + 2), vn kt, vn df, vn dt, vn (cl + 1), vn lt, vn (lt + 2), vn kw, vn dfw, vn dtw, vz, vn i, uu, uu, uu]) [(.int 125), (.int (Int32.ofNat i)), (.ref b3)])) rfl rfl (hb hby at_655)
    have V151 : Arv Z h151 b3 k3 .char (22 : Int32) ((cs.set i (125 : Int32)).map Value.int) (.int 0) := by have q := Arv.set Ar151 q151 S151 Ng151 H151 G151 (fits_nar_char _) W151 i (own_ncl (by omega)) (by rw [List.length_map]; omega); rw [own_nar (by decide : own_ch (125 : Int32))] at q; rw [List.map_set]; exact q
    have ok151 : own_ok (cs.set i (125 : Int32)) := own_ok.set hok (by decide : own_ch (125 : Int32))
    refine oc st151 ?_
    obtain ⟨cl152, Ar152, q152, S152, Ng152, H152, G152⟩ := id V'
    have CHs151 := CHr.wr W151 (Safe.arr hZ.alike Ar152 (by decide)) CH'.1
    have CH151 := CH'.trans CHs151
    have N151 := Fr.snoc X151 N' (by omega : n0 ≤ b3)
    have sz151 : h151.size = H.size := W151.size
    have O151 : Old Z n0 h151 := O'.wr W151 (by omega)
    have ps153 : own_pse (cs.set i (125 : Int32)) 0 [(ao, kt, hcx, cl)] (cl + 1) := own_pse.set PS (by omega)
    refine ci (XS.iinc X151.here hx rfl (hb hby at_656) rfl (l' := (own_F pa pb pi cv1 cv2 b3 (vn cnt) ao lq1 kq0 kq1 cz47 cz48 dq0 dq1 [vn (ao + 2), vn kt, vn df, vn dt, vn (cl + 1), vn lt, vn (lt + 2), vn kw, vn dfw, vn dtw, vz, vi ((Int32.ofNat i) + (1 : Int32)), uu, uu, uu])) rfl) ?_
    refine sc (A := (T151.setTop (mkF m 659 (own_F pa pb pi cv1 cv2 b3 (vn cnt) ao lq1 kq0 kq1 cz47 cz48 dq0 dq1 [vn (ao + 2), vn kt, vn df, vn dt, vn (cl + 1), vn lt, vn (lt + 2), vn kw, vn dfw, vn dtw, vz, vi ((Int32.ofNat i) + (1 : Int32)), uu, uu, uu]) []))) ?_
    rw [own_p1]
    refine sc (A := (T151.setTop (mkF m 659 (own_F pa pb pi cv1 cv2 b3 (vn cnt) ao lq1 kq0 kq1 cz47 cz48 dq0 dq1 [vn (ao + 2), vn kt, vn df, vn dt, vn (cl + 1), vn lt, vn (lt + 2), vn kw, vn dfw, vn dtw, vz, vn (i + 1), uu, uu, uu]) []))) ?_
    refine ci (XS.iload X151.here hx rfl (hb hby at_659) rfl) ?_
    refine ci (XS.istore X151.here hx rfl (hb hby at_661) rfl (l' := (own_F pa pb pi cv1 cv2 b3 (vn cnt) ao lq1 kq0 kq1 cz47 cz48 dq0 dq1 [vn (ao + 2), vn kt, vn df, vn dt, vn (cl + 1), vn lt, vn (lt + 2), vn kw, vn dfw, vn dtw, vn (i + 1), vn (i + 1), uu, uu, uu])) rfl) ?_
    refine sc (A := (T151.setTop (mkF m 663 (own_F pa pb pi cv1 cv2 b3 (vn cnt) ao lq1 kq0 kq1 cz47 cz48 dq0 dq1 [vn (ao + 2), vn kt, vn df, vn dt, vn (cl + 1), vn lt, vn (lt + 2), vn kw, vn dfw, vn dtw, vn (i + 1), vn (i + 1), uu, uu, uu]) []))) ?_
    exact J663_2 _ _ _ (cs.set i (125 : Int32)) kt hcx cl df dt lt kw hcw i dfw dtw X151 e151 N151 O151 CH151 V151 ok151 (own_pse.snoc ps153 tc4 tc2 tc1) HF tc6 tc3 (by omega)
   have JD22 : ∀ (H : Heap) (T' : State) (ls : List Loc) (cs : List Int32) (kt : Nat) (hcx : Bool) (cl df dt lt : Nat) (kw i : Nat), (Stand p l e room_1 (s.setVm s.vm) m #[(.long pa), (.long pb), (.int pi)] below meth c T' ls 1 22) → (T'.heap = H) → (Fr n0 ls) → (Old Z n0 H) → (CHr Z own_EL s.vm s.heap s.vm H) → (Arv Z H b3 k3 .char (22 : Int32) (cs.map Value.int) (.int 0)) → (own_ok cs) → (own_pse cs 0 [(ao, kt, hcx, cl)] (cl + 1)) → (own_hf cz47 hcx kt cl df dt) → (cl < lt) → (lt ≤ 12) → (cnt = 2) → (own_D cs (cl + 1) lt kw i) → (¬ cz48 = 0) → (i ≤ lt + 7) → (lt + 2 < i) → own_gc p e below s Z own_EL (Q_rm0 Z pa pb pi dq kd Gc fm h0 n0) room_1.cells room_1.slots (T'.setTop (mkF m 645 (own_F pa pb pi cv1 cv2 b3 (vn cnt) ao lq1 kq0 kq1 cz47 cz48 dq0 dq1 [vn (ao + 2), vn kt, vn df, vn dt, vn (cl + 1), vn lt, vn (lt + 2), vn kw, vn (kw + 1), vz, vz, vn i, uu, uu, uu]) [])) := by
    intro H T' ls cs kt hcx cl df dt lt kw i X' e' N' O' CH' V' hok PS HF b5_ b6_ hn2 hD hc_ b7_ b9_
    have hl22 := hok.1
    have ltb := olt V'.lt
    refine sc (A := (T'.setTop (mkF m 645 (own_F pa pb pi cv1 cv2 b3 (vn cnt) ao lq1 kq0 kq1 cz47 cz48 dq0 dq1 [vn (ao + 2), vn kt, vn df, vn dt, vn (cl + 1), vn lt, vn (lt + 2), vn kw, vn (kw + 1), vz, vz, vn i, uu, uu, uu]) []))) ?_
    refine ci (XS.iload X'.here hx rfl (hb hby at_645) rfl) ?_
    refine ci (XS.istore X'.here hx rfl (hb hby at_647) rfl (l' := (own_F pa pb pi cv1 cv2 b3 (vn cnt) ao lq1 kq0 kq1 cz47 cz48 dq0 dq1 [vn (ao + 2), vn kt, vn df, vn dt, vn (cl + 1), vn lt, vn (lt + 2), vn kw, vn (kw + 1), vn i, vz, vn i, uu, uu, uu])) rfl) ?_
    refine sc (A := (T'.setTop (mkF m 649 (own_F pa pb pi cv1 cv2 b3 (vn cnt) ao lq1 kq0 kq1 cz47 cz48 dq0 dq1 [vn (ao + 2), vn kt, vn df, vn dt, vn (cl + 1), vn lt, vn (lt + 2), vn kw, vn (kw + 1), vn i, vz, vn i, uu, uu, uu]) []))) ?_
    exact JC2 _ _ _ cs kt hcx cl df dt lt kw true (kw + 1) i i X' e' N' O' CH' V' hok PS HF b5_ b6_ hn2 (Or.inl ⟨rfl, hc_, rfl, rfl, hD⟩) (by omega) (by omega)
   have JD12 : ∀ (H : Heap) (T' : State) (ls : List Loc) (cs : List Int32) (kt : Nat) (hcx : Bool) (cl df dt lt : Nat) (kw i : Nat), (Stand p l e room_1 (s.setVm s.vm) m #[(.long pa), (.long pb), (.int pi)] below meth c T' ls 1 22) → (T'.heap = H) → (Fr n0 ls) → (Old Z n0 H) → (CHr Z own_EL s.vm s.heap s.vm H) → (Arv Z H b3 k3 .char (22 : Int32) (cs.map Value.int) (.int 0)) → (own_ok cs) → (own_pse cs 0 [(ao, kt, hcx, cl)] (cl + 1)) → (own_hf cz47 hcx kt cl df dt) → (cl < lt) → (lt ≤ 12) → (cnt = 2) → (own_D cs (cl + 1) lt kw i) → (¬ cz48 = 0) → (i ≤ lt + 6) → (lt + 2 < i) → own_gc p e below s Z own_EL (Q_rm0 Z pa pb pi dq kd Gc fm h0 n0) room_1.cells room_1.slots (T'.setTop (mkF m 624 (own_F pa pb pi cv1 cv2 b3 (vn cnt) ao lq1 kq0 kq1 cz47 cz48 dq0 dq1 [vn (ao + 2), vn kt, vn df, vn dt, vn (cl + 1), vn lt, vn (lt + 2), vn kw, vn (kw + 1), vz, vz, vn i, uu, uu, uu]) [])) := by
    intro H T' ls cs kt hcx cl df dt lt kw i X' e' N' O' CH' V' hok PS HF b5_ b6_ hn2 hD hc_ b7_ b9_
    have hl22 := hok.1
    have ltb := olt V'.lt
    refine sc (A := (T'.setTop (mkF m 624 (own_F pa pb pi cv1 cv2 b3 (vn cnt) ao lq1 kq0 kq1 cz47 cz48 dq0 dq1 [vn (ao + 2), vn kt, vn df, vn dt, vn (cl + 1), vn lt, vn (lt + 2), vn kw, vn (kw + 1), vz, vz, vn i, uu, uu, uu]) []))) ?_
    refine ci (XS.iload X'.here hx rfl (hb hby at_624) rfl) ?_
    refine ci (XS.iconst X'.here hx rfl (hb hby at_626)) ?_
    by_cases hb627_154 : dq1 < (2 : Int32)
    ·refine ci (XS.icmpYes X'.here hx rfl (pc0 := 627) (pc' := 645) rfl (hb hby at_627) rfl (tlt hb627_154).1 (by decide) (by decide)) ?_
     refine sc (A := (T'.setTop (mkF m 645 (own_F pa pb pi cv1 cv2 b3 (vn cnt) ao lq1 kq0 kq1 cz47 cz48 dq0 dq1 [vn (ao + 2), vn kt, vn df, vn dt, vn (cl + 1), vn lt, vn (lt + 2), vn kw, vn (kw + 1), vz, vz, vn i, uu, uu, uu]) []))) ?_
     exact JD22 _ _ _ cs kt hcx cl df dt lt kw i X' e' N' O' CH' V' hok PS HF b5_ b6_ hn2 hD  hc_ (by omega) (by omega)
    ·refine ci (XS.icmpNo X'.here hx rfl (hb hby at_627) rfl (flt hb627_154).1) ?_
     refine sc (A := (T'.setTop (mkF m 630 (own_F pa pb pi cv1 cv2 b3 (vn cnt) ao lq1 kq0 kq1 cz47 cz48 dq0 dq1 [vn (ao + 2), vn kt, vn df, vn dt, vn (cl + 1), vn lt, vn (lt + 2), vn kw, vn (kw + 1), vz, vz, vn i, uu, uu, uu]) []))) ?_
     refine ci (XS.aload X'.here hx rfl (hb hby at_630) rfl rfl) ?_
     refine ci (XS.iload X'.here hx rfl (hb hby at_632) rfl) ?_
     refine ci (XS.lloadN X'.here hx rfl (hb hby at_634) rfl) ?_
     refine ci (XS.bipush X'.here hx rfl (hb hby at_635)) ?_
     refine ci (XS.lushr X'.here hx rfl (hb hby at_637) rfl) ?_
     refine sc (A := (T'.setTop (mkF m 638 (own_F pa pb pi cv1 cv2 b3 (vn cnt) ao lq1 kq0 kq1 cz47 cz48 dq0 dq1 [vn (ao + 2), vn kt, vn df, vn dt, vn (cl + 1), vn lt, vn (lt + 2), vn kw, vn (kw + 1), vz, vz, vn i, uu, uu, uu]) [(.long ((pb.toUInt64 >>> ((56 : Int32) &&& 0x3f).toInt64.toUInt64).toInt64)), (.int (Int32.ofNat i)), (.ref b3)]))) ?_
     obtain ⟨_, T155, Lc155, X155, hQ155, st155⟩ := own_c1 X' <| Jvm.LawKit.callS X' hx (y := ym64) hown (mvT hZ (hW 327 _ rfl)) (mvT hZ (hW 328 _ rfl)) (mvT hZ (hW 2 _ rfl)) (mvT hZ (hW 329 _ rfl)) (by decide) (backOf (W := 2) (rm_defc l Z a0 hw [] ((pb.toUInt64 >>> ((56 : Int32) &&& 0x3f).toInt64.toUInt64).toInt64) H n0 O' ) hZ (hW 329 _ rfl) (hW 2 _ rfl) (by decide) (by decide)) (g := (mkF m 638 (own_F pa pb pi cv1 cv2 b3 (vn cnt) ao lq1 kq0 kq1 cz47 cz48 dq0 dq1 [vn (ao + 2), vn kt, vn df, vn dt, vn (cl + 1), vn lt, vn (lt + 2), vn kw, vn (kw + 1), vz, vz, vn i, uu, uu, uu]) [(.long ((pb.toUInt64 >>> ((56 : Int32) &&& 0x3f).toInt64.toUInt64).toInt64)), (.int (Int32.ofNat i)), (.ref b3)])) rfl (by rw [hml]; rfl) (argsL := [(.long ((pb.toUInt64 >>> ((56 : Int32) &&& 0x3f).toInt64.toUInt64).toInt64))]) (rest := [(.int (Int32.ofNat i)), (.ref b3)]) (lenOf pd_35 rfl) rfl (Nat.le_of_eq rfl) (hb hby at_638) (fun _ _ => ⟨rfl, e', (by decide : 1 + 0 ≤ _), (by decide : 22 + 0 ≤ _)⟩)
     obtain ⟨cv155, rfl, hv155, hn155, Nq155, eh155⟩ := hQ155
     have N155 := Fr.app N' Nq155
     refine oc st155 ?_
     refine sc (A := (T155.setTop (mkF m 641 (own_F pa pb pi cv1 cv2 b3 (vn cnt) ao lq1 kq0 kq1 cz47 cz48 dq0 dq1 [vn (ao + 2), vn kt, vn df, vn dt, vn (cl + 1), vn lt, vn (lt + 2), vn kw, vn (kw + 1), vz, vz, vn i, uu, uu, uu]) [(.int cv155), (.int (Int32.ofNat i)), (.ref b3)]))) ?_
     obtain ⟨cl156, Ar156, q156, S156, Ng156, H156, G156⟩ := id V'
     have hq156 := hok.1
     obtain ⟨T156, h156, X156, e156, W156, st156⟩ := stC X155 hx hZ eh155 Ar156 (j := (Int32.ofNat i)) (inb_of S156 (own_inn (i := i) (m := 22) (by omega) (by omega))) (g := (mkF m 641 (own_F pa pb pi cv1 cv2 b3 (vn cnt) ao lq1 kq0 kq1 cz47 cz48 dq0 dq1 [vn (ao + 2), vn kt, vn df, vn dt, vn (cl + 1), vn lt, vn (lt + 2), vn kw, vn (kw + 1), vz, vz, vn i, uu, uu, uu]) [(.int cv155), (.int (Int32.ofNat i)), (.ref b3)])) rfl rfl (hb hby at_641)
     have V156 : Arv Z h156 b3 k3 .char (22 : Int32) ((cs.set i cv155).map Value.int) (.int 0) := by have q := Arv.set Ar156 q156 S156 Ng156 H156 G156 (fits_nar_char _) W156 i (own_ncl (by omega)) (by rw [List.length_map]; omega); rw [own_nar hv155] at q; rw [List.map_set]; exact q
     have ok156 : own_ok (cs.set i cv155) := own_ok.set hok hv155
     refine oc st156 ?_
     obtain ⟨cl157, Ar157, q157, S157, Ng157, H157, G157⟩ := id V'
     have CHs156 := CHr.wr W156 (Safe.arr hZ.alike Ar157 (by decide)) CH'.1
     have CH156 := CH'.trans CHs156
     have N156 := Fr.snoc X156 N155 (by omega : n0 ≤ b3)
     have sz156 : h156.size = H.size := W156.size
     have O156 : Old Z n0 h156 := O'.wr W156 (by omega)
     have ps158 : own_pse (cs.set i cv155) 0 [(ao, kt, hcx, cl)] (cl + 1) := own_pse.set PS (by omega)
     refine ci (XS.iinc X156.here hx rfl (hb hby at_642) rfl (l' := (own_F pa pb pi cv1 cv2 b3 (vn cnt) ao lq1 kq0 kq1 cz47 cz48 dq0 dq1 [vn (ao + 2), vn kt, vn df, vn dt, vn (cl + 1), vn lt, vn (lt + 2), vn kw, vn (kw + 1), vz, vz, vi ((Int32.ofNat i) + (1 : Int32)), uu, uu, uu])) rfl) ?_
     refine sc (A := (T156.setTop (mkF m 645 (own_F pa pb pi cv1 cv2 b3 (vn cnt) ao lq1 kq0 kq1 cz47 cz48 dq0 dq1 [vn (ao + 2), vn kt, vn df, vn dt, vn (cl + 1), vn lt, vn (lt + 2), vn kw, vn (kw + 1), vz, vz, vi ((Int32.ofNat i) + (1 : Int32)), uu, uu, uu]) []))) ?_
     rw [own_p1]
     refine sc (A := (T156.setTop (mkF m 645 (own_F pa pb pi cv1 cv2 b3 (vn cnt) ao lq1 kq0 kq1 cz47 cz48 dq0 dq1 [vn (ao + 2), vn kt, vn df, vn dt, vn (cl + 1), vn lt, vn (lt + 2), vn kw, vn (kw + 1), vz, vz, vn (i + 1), uu, uu, uu]) []))) ?_
     exact JD22 _ _ _ (cs.set i cv155) kt hcx cl df dt lt kw (i + 1) X156 e156 N156 O156 CH156 V156 ok156 ps158 HF b5_ b6_ hn2 (own_tD1 hok (by omega) hD hn155)  hc_ (by omega) (by omega)
   have JK2 : ∀ (H : Heap) (T' : State) (ls : List Loc) (cs : List Int32) (kt : Nat) (hcx : Bool) (cl df dt lt : Nat) (i : Nat), (Stand p l e room_1 (s.setVm s.vm) m #[(.long pa), (.long pb), (.int pi)] below meth c T' ls 1 22) → (T'.heap = H) → (Fr n0 ls) → (Old Z n0 H) → (CHr Z own_EL s.vm s.heap s.vm H) → (Arv Z H b3 k3 .char (22 : Int32) (cs.map Value.int) (.int 0)) → (own_ok cs) → (own_pse cs 0 [(ao, kt, hcx, cl)] (cl + 1)) → (own_hf cz47 hcx kt cl df dt) → (cl < lt) → (lt ≤ 12) → (cnt = 2) → (own_K cs (cl + 1) lt i) → (i ≤ lt + 4) → (lt + 2 < i) → own_gc p e below s Z own_EL (Q_rm0 Z pa pb pi dq kd Gc fm h0 n0) room_1.cells room_1.slots (T'.setTop (mkF m 580 (own_F pa pb pi cv1 cv2 b3 (vn cnt) ao lq1 kq0 kq1 cz47 cz48 dq0 dq1 [vn (ao + 2), vn kt, vn df, vn dt, vn (cl + 1), vn lt, vn (lt + 2), vz, vz, vz, vz, vn i, uu, uu, uu]) [])) := by
    intro H T' ls cs kt hcx cl df dt lt i X' e' N' O' CH' V' hok PS HF b5_ b6_ hn2 hK b7_ b9_
    have hl22 := hok.1
    have ltb := olt V'.lt
    refine sc (A := (T'.setTop (mkF m 580 (own_F pa pb pi cv1 cv2 b3 (vn cnt) ao lq1 kq0 kq1 cz47 cz48 dq0 dq1 [vn (ao + 2), vn kt, vn df, vn dt, vn (cl + 1), vn lt, vn (lt + 2), vz, vz, vz, vz, vn i, uu, uu, uu]) []))) ?_
    refine ci (XS.iload X'.here hx rfl (hb hby at_580) rfl) ?_
    refine ci (XS.istore X'.here hx rfl (hb hby at_582) rfl (l' := (own_F pa pb pi cv1 cv2 b3 (vn cnt) ao lq1 kq0 kq1 cz47 cz48 dq0 dq1 [vn (ao + 2), vn kt, vn df, vn dt, vn (cl + 1), vn lt, vn (lt + 2), vn i, vz, vz, vz, vn i, uu, uu, uu])) rfl) ?_
    refine ci (XS.iload X'.here hx rfl (hb hby at_584) rfl) ?_
    by_cases hb586_159 : cz48 = (0 : Int32)
    ·refine ci (XS.ifYes X'.here hx rfl (pc0 := 586) (pc' := 649) rfl (hb hby at_586) rfl ((if0 _ _).trans (teq hb586_159).1) (by decide) (by decide)) ?_
     refine sc (A := (T'.setTop (mkF m 649 (own_F pa pb pi cv1 cv2 b3 (vn cnt) ao lq1 kq0 kq1 cz47 cz48 dq0 dq1 [vn (ao + 2), vn kt, vn df, vn dt, vn (cl + 1), vn lt, vn (lt + 2), vn i, vz, vz, vz, vn i, uu, uu, uu]) []))) ?_
     exact JC2 _ _ _ cs kt hcx cl df dt lt i false 0 0 i X' e' N' O' CH' V' hok PS HF b5_ b6_ hn2 (Or.inr ⟨rfl, hb586_159, rfl, hK⟩) (by omega) (by omega)
    ·refine ci (XS.ifNo X'.here hx rfl (hb hby at_586) rfl ((if0 _ _).trans (feq hb586_159).1)) ?_
     refine sc (A := (T'.setTop (mkF m 589 (own_F pa pb pi cv1 cv2 b3 (vn cnt) ao lq1 kq0 kq1 cz47 cz48 dq0 dq1 [vn (ao + 2), vn kt, vn df, vn dt, vn (cl + 1), vn lt, vn (lt + 2), vn i, vz, vz, vz, vn i, uu, uu, uu]) []))) ?_
     refine ci (XS.aload X'.here hx rfl (hb hby at_589) rfl rfl) ?_
     refine ci (XS.iload X'.here hx rfl (hb hby at_591) rfl) ?_
     refine ci (XS.bipush X'.here hx rfl (hb hby at_593)) ?_
     refine sc (A := (T'.setTop (mkF m 595 (own_F pa pb pi cv1 cv2 b3 (vn cnt) ao lq1 kq0 kq1 cz47 cz48 dq0 dq1 [vn (ao + 2), vn kt, vn df, vn dt, vn (cl + 1), vn lt, vn (lt + 2), vn i, vz, vz, vz, vn i, uu, uu, uu]) [(.int 58), (.int (Int32.ofNat i)), (.ref b3)]))) ?_
     obtain ⟨cl160, Ar160, q160, S160, Ng160, H160, G160⟩ := id V'
     have hq160 := hok.1
     obtain ⟨T160, h160, X160, e160, W160, st160⟩ := stC X' hx hZ e' Ar160 (j := (Int32.ofNat i)) (inb_of S160 (own_inn (i := i) (m := 22) (by omega) (by omega))) (g := (mkF m 595 (own_F pa pb pi cv1 cv2 b3 (vn cnt) ao lq1 kq0 kq1 cz47 cz48 dq0 dq1 [vn (ao + 2), vn kt, vn df, vn dt, vn (cl + 1), vn lt, vn (lt + 2), vn i, vz, vz, vz, vn i, uu, uu, uu]) [(.int 58), (.int (Int32.ofNat i)), (.ref b3)])) rfl rfl (hb hby at_595)
     have V160 : Arv Z h160 b3 k3 .char (22 : Int32) ((cs.set i (58 : Int32)).map Value.int) (.int 0) := by have q := Arv.set Ar160 q160 S160 Ng160 H160 G160 (fits_nar_char _) W160 i (own_ncl (by omega)) (by rw [List.length_map]; omega); rw [own_nar (by decide : own_ch (58 : Int32))] at q; rw [List.map_set]; exact q
     have ok160 : own_ok (cs.set i (58 : Int32)) := own_ok.set hok (by decide : own_ch (58 : Int32))
     refine oc st160 ?_
     obtain ⟨cl161, Ar161, q161, S161, Ng161, H161, G161⟩ := id V'
     have CHs160 := CHr.wr W160 (Safe.arr hZ.alike Ar161 (by decide)) CH'.1
     have CH160 := CH'.trans CHs160
     have N160 := Fr.snoc X160 N' (by omega : n0 ≤ b3)
     have sz160 : h160.size = H.size := W160.size
     have O160 : Old Z n0 h160 := O'.wr W160 (by omega)
     have ps162 : own_pse (cs.set i (58 : Int32)) 0 [(ao, kt, hcx, cl)] (cl + 1) := own_pse.set PS (by omega)
     refine ci (XS.iinc X160.here hx rfl (hb hby at_596) rfl (l' := (own_F pa pb pi cv1 cv2 b3 (vn cnt) ao lq1 kq0 kq1 cz47 cz48 dq0 dq1 [vn (ao + 2), vn kt, vn df, vn dt, vn (cl + 1), vn lt, vn (lt + 2), vn i, vz, vz, vz, vi ((Int32.ofNat i) + (1 : Int32)), uu, uu, uu])) rfl) ?_
     refine sc (A := (T160.setTop (mkF m 599 (own_F pa pb pi cv1 cv2 b3 (vn cnt) ao lq1 kq0 kq1 cz47 cz48 dq0 dq1 [vn (ao + 2), vn kt, vn df, vn dt, vn (cl + 1), vn lt, vn (lt + 2), vn i, vz, vz, vz, vi ((Int32.ofNat i) + (1 : Int32)), uu, uu, uu]) []))) ?_
     rw [own_p1]
     refine sc (A := (T160.setTop (mkF m 599 (own_F pa pb pi cv1 cv2 b3 (vn cnt) ao lq1 kq0 kq1 cz47 cz48 dq0 dq1 [vn (ao + 2), vn kt, vn df, vn dt, vn (cl + 1), vn lt, vn (lt + 2), vn i, vz, vz, vz, vn (i + 1), uu, uu, uu]) []))) ?_
     refine ci (XS.iload X160.here hx rfl (hb hby at_599) rfl) ?_
     refine ci (XS.istore X160.here hx rfl (hb hby at_601) rfl (l' := (own_F pa pb pi cv1 cv2 b3 (vn cnt) ao lq1 kq0 kq1 cz47 cz48 dq0 dq1 [vn (ao + 2), vn kt, vn df, vn dt, vn (cl + 1), vn lt, vn (lt + 2), vn i, vn (i + 1), vz, vz, vn (i + 1), uu, uu, uu])) rfl) ?_
     refine ci (XS.iload X160.here hx rfl (hb hby at_603) rfl) ?_
     refine ci (XS.iconst X160.here hx rfl (hb hby at_605)) ?_
     by_cases hb606_163 : dq1 < (1 : Int32)
     ·refine ci (XS.icmpYes X160.here hx rfl (pc0 := 606) (pc' := 624) rfl (hb hby at_606) rfl (tlt hb606_163).1 (by decide) (by decide)) ?_
      refine sc (A := (T160.setTop (mkF m 624 (own_F pa pb pi cv1 cv2 b3 (vn cnt) ao lq1 kq0 kq1 cz47 cz48 dq0 dq1 [vn (ao + 2), vn kt, vn df, vn dt, vn (cl + 1), vn lt, vn (lt + 2), vn i, vn (i + 1), vz, vz, vn (i + 1), uu, uu, uu]) []))) ?_
      exact JD12 _ _ _ (cs.set i (58 : Int32)) kt hcx cl df dt lt i (i + 1) X160 e160 N160 O160 CH160 V160 ok160 ps162 HF b5_ b6_ hn2 (own_tD0 hok (by omega) hK) hb586_159 (by omega) (by omega)
     ·refine ci (XS.icmpNo X160.here hx rfl (hb hby at_606) rfl (flt hb606_163).1) ?_
      refine sc (A := (T160.setTop (mkF m 609 (own_F pa pb pi cv1 cv2 b3 (vn cnt) ao lq1 kq0 kq1 cz47 cz48 dq0 dq1 [vn (ao + 2), vn kt, vn df, vn dt, vn (cl + 1), vn lt, vn (lt + 2), vn i, vn (i + 1), vz, vz, vn (i + 1), uu, uu, uu]) []))) ?_
      refine ci (XS.aload X160.here hx rfl (hb hby at_609) rfl rfl) ?_
      refine ci (XS.iload X160.here hx rfl (hb hby at_611) rfl) ?_
      refine ci (XS.lloadN X160.here hx rfl (hb hby at_613) rfl) ?_
      refine ci (XS.bipush X160.here hx rfl (hb hby at_614)) ?_
      refine ci (XS.lushr X160.here hx rfl (hb hby at_616) rfl) ?_
      refine sc (A := (T160.setTop (mkF m 617 (own_F pa pb pi cv1 cv2 b3 (vn cnt) ao lq1 kq0 kq1 cz47 cz48 dq0 dq1 [vn (ao + 2), vn kt, vn df, vn dt, vn (cl + 1), vn lt, vn (lt + 2), vn i, vn (i + 1), vz, vz, vn (i + 1), uu, uu, uu]) [(.long ((pb.toUInt64 >>> ((48 : Int32) &&& 0x3f).toInt64.toUInt64).toInt64)), (.int (Int32.ofNat (i + 1))), (.ref b3)]))) ?_
      obtain ⟨_, T164, Lc164, X164, hQ164, st164⟩ := own_c1 X160 <| Jvm.LawKit.callS X160 hx (y := ym64) hown (mvT hZ (hW 327 _ rfl)) (mvT hZ (hW 328 _ rfl)) (mvT hZ (hW 2 _ rfl)) (mvT hZ (hW 329 _ rfl)) (by decide) (backOf (W := 2) (rm_defc l Z a0 hw [] ((pb.toUInt64 >>> ((48 : Int32) &&& 0x3f).toInt64.toUInt64).toInt64) h160 n0 O160 ) hZ (hW 329 _ rfl) (hW 2 _ rfl) (by decide) (by decide)) (g := (mkF m 617 (own_F pa pb pi cv1 cv2 b3 (vn cnt) ao lq1 kq0 kq1 cz47 cz48 dq0 dq1 [vn (ao + 2), vn kt, vn df, vn dt, vn (cl + 1), vn lt, vn (lt + 2), vn i, vn (i + 1), vz, vz, vn (i + 1), uu, uu, uu]) [(.long ((pb.toUInt64 >>> ((48 : Int32) &&& 0x3f).toInt64.toUInt64).toInt64)), (.int (Int32.ofNat (i + 1))), (.ref b3)])) rfl (by rw [hml]; rfl) (argsL := [(.long ((pb.toUInt64 >>> ((48 : Int32) &&& 0x3f).toInt64.toUInt64).toInt64))]) (rest := [(.int (Int32.ofNat (i + 1))), (.ref b3)]) (lenOf pd_35 rfl) rfl (Nat.le_of_eq rfl) (hb hby at_617) (fun _ _ => ⟨rfl, e160, (by decide : 1 + 0 ≤ _), (by decide : 22 + 0 ≤ _)⟩)
      obtain ⟨cv164, rfl, hv164, hn164, Nq164, eh164⟩ := hQ164
      have N164 := Fr.app N160 Nq164
      refine oc st164 ?_
      refine sc (A := (T164.setTop (mkF m 620 (own_F pa pb pi cv1 cv2 b3 (vn cnt) ao lq1 kq0 kq1 cz47 cz48 dq0 dq1 [vn (ao + 2), vn kt, vn df, vn dt, vn (cl + 1), vn lt, vn (lt + 2), vn i, vn (i + 1), vz, vz, vn (i + 1), uu, uu, uu]) [(.int cv164), (.int (Int32.ofNat (i + 1))), (.ref b3)]))) ?_
      obtain ⟨cl165, Ar165, q165, S165, Ng165, H165, G165⟩ := id V160
      have hq165 := ok160.1
      obtain ⟨T165, h165, X165, e165, W165, st165⟩ := stC X164 hx hZ eh164 Ar165 (j := (Int32.ofNat (i + 1))) (inb_of S165 (own_inn (i := (i + 1)) (m := 22) (by omega) (by omega))) (g := (mkF m 620 (own_F pa pb pi cv1 cv2 b3 (vn cnt) ao lq1 kq0 kq1 cz47 cz48 dq0 dq1 [vn (ao + 2), vn kt, vn df, vn dt, vn (cl + 1), vn lt, vn (lt + 2), vn i, vn (i + 1), vz, vz, vn (i + 1), uu, uu, uu]) [(.int cv164), (.int (Int32.ofNat (i + 1))), (.ref b3)])) rfl rfl (hb hby at_620)
      have V165 : Arv Z h165 b3 k3 .char (22 : Int32) (((cs.set i (58 : Int32)).set (i + 1) cv164).map Value.int) (.int 0) := by have q := Arv.set Ar165 q165 S165 Ng165 H165 G165 (fits_nar_char _) W165 (i + 1) (own_ncl (by omega)) (by rw [List.length_map]; omega); rw [own_nar hv164] at q; rw [List.map_set]; exact q
      have ok165 : own_ok ((cs.set i (58 : Int32)).set (i + 1) cv164) := own_ok.set ok160 hv164
      refine oc st165 ?_
      obtain ⟨cl166, Ar166, q166, S166, Ng166, H166, G166⟩ := id V160
      have CHs165 := CHr.wr W165 (Safe.arr hZ.alike Ar166 (by decide)) CH160.1
      have CH165 := CH160.trans CHs165
      have N165 := Fr.snoc X165 N164 (by omega : n0 ≤ b3)
      have sz165 : h165.size = h160.size := W165.size
      have O165 : Old Z n0 h165 := O160.wr W165 (by omega)
      have ps167 : own_pse ((cs.set i (58 : Int32)).set (i + 1) cv164) 0 [(ao, kt, hcx, cl)] (cl + 1) := own_pse.set ps162 (by omega)
      refine ci (XS.iinc X165.here hx rfl (hb hby at_621) rfl (l' := (own_F pa pb pi cv1 cv2 b3 (vn cnt) ao lq1 kq0 kq1 cz47 cz48 dq0 dq1 [vn (ao + 2), vn kt, vn df, vn dt, vn (cl + 1), vn lt, vn (lt + 2), vn i, vn (i + 1), vz, vz, .val (.int ((Int32.ofNat (i + 1)) + (1 : Int32))), uu, uu, uu])) rfl) ?_
      refine sc (A := (T165.setTop (mkF m 624 (own_F pa pb pi cv1 cv2 b3 (vn cnt) ao lq1 kq0 kq1 cz47 cz48 dq0 dq1 [vn (ao + 2), vn kt, vn df, vn dt, vn (cl + 1), vn lt, vn (lt + 2), vn i, vn (i + 1), vz, vz, .val (.int ((Int32.ofNat (i + 1)) + (1 : Int32))), uu, uu, uu]) []))) ?_
      rw [own_p1]
      refine sc (A := (T165.setTop (mkF m 624 (own_F pa pb pi cv1 cv2 b3 (vn cnt) ao lq1 kq0 kq1 cz47 cz48 dq0 dq1 [vn (ao + 2), vn kt, vn df, vn dt, vn (cl + 1), vn lt, vn (lt + 2), vn i, vn (i + 1), vz, vz, .val (.int (Int32.ofNat ((i + 1) + 1))), uu, uu, uu]) []))) ?_
      exact JD12 _ _ _ ((cs.set i (58 : Int32)).set (i + 1) cv164) kt hcx cl df dt lt i ((i + 1) + 1) X165 e165 N165 O165 CH165 V165 ok165 ps167 HF b5_ b6_ hn2 (own_tD1 (own_ok.set hok (by decide)) (by omega) (own_tD0 hok (by omega) hK) hn164) hb586_159 (by omega) (by omega)
   have J511 : ∀ (H : Heap) (T' : State) (ls : List Loc) (cs : List Int32) (kt : Nat) (hcx : Bool) (cl df dt lt : Nat), (Stand p l e room_1 (s.setVm s.vm) m #[(.long pa), (.long pb), (.int pi)] below meth c T' ls 1 22) → (T'.heap = H) → (Fr n0 ls) → (Old Z n0 H) → (CHr Z own_EL s.vm s.heap s.vm H) → (Arv Z H b3 k3 .char (22 : Int32) (cs.map Value.int) (.int 0)) → (own_ok cs) → (own_pse cs 0 [(ao, kt, hcx, cl)] (cl + 1)) → (own_hf cz47 hcx kt cl df dt) → (own_nb cs (cl + 1) 22) → (cl < lt) → (lt ≤ 12) → (cl ≤ 9) → (1 ≤ cnt) → own_gc p e below s Z own_EL (Q_rm0 Z pa pb pi dq kd Gc fm h0 n0) room_1.cells room_1.slots (T'.setTop (mkF m 511 (own_F pa pb pi cv1 cv2 b3 (vn cnt) ao lq1 kq0 kq1 cz47 cz48 dq0 dq1 [vn (ao + 2), vn kt, vn df, vn dt, vn (cl + 1), vz, vz, vz, vz, vz, vz, vn lt, uu, uu, uu]) [])) := by
    intro H T' ls cs kt hcx cl df dt lt X' e' N' O' CH' V' hok PS HF NB b5_ b6_ b8_ hn1
    have hl22 := hok.1
    have ltb := olt V'.lt
    refine sc (A := (T'.setTop (mkF m 511 (own_F pa pb pi cv1 cv2 b3 (vn cnt) ao lq1 kq0 kq1 cz47 cz48 dq0 dq1 [vn (ao + 2), vn kt, vn df, vn dt, vn (cl + 1), vz, vz, vz, vz, vz, vz, vn lt, uu, uu, uu]) []))) ?_
    refine ci (XS.iload X'.here hx rfl (hb hby at_511) rfl) ?_
    refine ci (XS.istore X'.here hx rfl (hb hby at_513) rfl (l' := (own_F pa pb pi cv1 cv2 b3 (vn cnt) ao lq1 kq0 kq1 cz47 cz48 dq0 dq1 [vn (ao + 2), vn kt, vn df, vn dt, vn (cl + 1), vn lt, vz, vz, vz, vz, vz, vn lt, uu, uu, uu])) rfl) ?_
    refine ci (XS.iload X'.here hx rfl (hb hby at_515) rfl) ?_
    refine ci (XS.iconst X'.here hx rfl (hb hby at_517)) ?_
    by_cases hb518_168 : (Int32.ofNat cnt) = (2 : Int32)
    ·refine ci (XS.icmpNo X'.here hx rfl (hb hby at_518) rfl (teq hb518_168).2) ?_
     refine sc (A := (T'.setTop (mkF m 521 (own_F pa pb pi cv1 cv2 b3 (vn cnt) ao lq1 kq0 kq1 cz47 cz48 dq0 dq1 [vn (ao + 2), vn kt, vn df, vn dt, vn (cl + 1), vn lt, vz, vz, vz, vz, vz, vn lt, uu, uu, uu]) []))) ?_
     have hn2 : cnt = 2 := (own_neq (b := 2) (by omega) (by omega)).mp hb518_168
     refine ci (XS.aload X'.here hx rfl (hb hby at_521) rfl rfl) ?_
     refine ci (XS.iload X'.here hx rfl (hb hby at_523) rfl) ?_
     refine ci (XS.bipush X'.here hx rfl (hb hby at_525)) ?_
     refine sc (A := (T'.setTop (mkF m 527 (own_F pa pb pi cv1 cv2 b3 (vn cnt) ao lq1 kq0 kq1 cz47 cz48 dq0 dq1 [vn (ao + 2), vn kt, vn df, vn dt, vn (cl + 1), vn lt, vz, vz, vz, vz, vz, vn lt, uu, uu, uu]) [(.int 36), (.int (Int32.ofNat lt)), (.ref b3)]))) ?_
     obtain ⟨cl169, Ar169, q169, S169, Ng169, H169, G169⟩ := id V'
     have hq169 := hok.1
     obtain ⟨T169, h169, X169, e169, W169, st169⟩ := stC X' hx hZ e' Ar169 (j := (Int32.ofNat lt)) (inb_of S169 (own_inn (i := lt) (m := 22) (by omega) (by omega))) (g := (mkF m 527 (own_F pa pb pi cv1 cv2 b3 (vn cnt) ao lq1 kq0 kq1 cz47 cz48 dq0 dq1 [vn (ao + 2), vn kt, vn df, vn dt, vn (cl + 1), vn lt, vz, vz, vz, vz, vz, vn lt, uu, uu, uu]) [(.int 36), (.int (Int32.ofNat lt)), (.ref b3)])) rfl rfl (hb hby at_527)
     have V169 : Arv Z h169 b3 k3 .char (22 : Int32) ((cs.set lt (36 : Int32)).map Value.int) (.int 0) := by have q := Arv.set Ar169 q169 S169 Ng169 H169 G169 (fits_nar_char _) W169 lt (own_ncl (by omega)) (by rw [List.length_map]; omega); rw [own_nar (by decide : own_ch (36 : Int32))] at q; rw [List.map_set]; exact q
     have ok169 : own_ok (cs.set lt (36 : Int32)) := own_ok.set hok (by decide : own_ch (36 : Int32))
     refine oc st169 ?_
     obtain ⟨cl170, Ar170, q170, S170, Ng170, H170, G170⟩ := id V'
     have CHs169 := CHr.wr W169 (Safe.arr hZ.alike Ar170 (by decide)) CH'.1
     have CH169 := CH'.trans CHs169
     have N169 := Fr.snoc X169 N' (by omega : n0 ≤ b3)
     have sz169 : h169.size = H.size := W169.size
     have O169 : Old Z n0 h169 := O'.wr W169 (by omega)
     have ps171 : own_pse (cs.set lt (36 : Int32)) 0 [(ao, kt, hcx, cl)] (cl + 1) := own_pse.set PS (by omega)
     refine ci (XS.aload X169.here hx rfl (hb hby at_528) rfl rfl) ?_
     refine ci (XS.iload X169.here hx rfl (hb hby at_530) rfl) ?_
     refine ci (XS.iconst X169.here hx rfl (hb hby at_532)) ?_
     refine ci (XS.iadd X169.here hx rfl (hb hby at_533) rfl) ?_
     refine sc (A := (T169.setTop (mkF m 534 (own_F pa pb pi cv1 cv2 b3 (vn cnt) ao lq1 kq0 kq1 cz47 cz48 dq0 dq1 [vn (ao + 2), vn kt, vn df, vn dt, vn (cl + 1), vn lt, vz, vz, vz, vz, vz, vn lt, uu, uu, uu]) [(.int ((Int32.ofNat lt) + (1 : Int32))), (.ref b3)]))) ?_
     rw [own_p1]
     refine sc (A := (T169.setTop (mkF m 534 (own_F pa pb pi cv1 cv2 b3 (vn cnt) ao lq1 kq0 kq1 cz47 cz48 dq0 dq1 [vn (ao + 2), vn kt, vn df, vn dt, vn (cl + 1), vn lt, vz, vz, vz, vz, vz, vn lt, uu, uu, uu]) [(.int (Int32.ofNat (lt + 1))), (.ref b3)]))) ?_
     refine ci (XS.bipush X169.here hx rfl (hb hby at_534)) ?_
     refine sc (A := (T169.setTop (mkF m 536 (own_F pa pb pi cv1 cv2 b3 (vn cnt) ao lq1 kq0 kq1 cz47 cz48 dq0 dq1 [vn (ao + 2), vn kt, vn df, vn dt, vn (cl + 1), vn lt, vz, vz, vz, vz, vz, vn lt, uu, uu, uu]) [(.int 123), (.int (Int32.ofNat (lt + 1))), (.ref b3)]))) ?_
     obtain ⟨cl172, Ar172, q172, S172, Ng172, H172, G172⟩ := id V169
     have hq172 := ok169.1
     obtain ⟨T172, h172, X172, e172, W172, st172⟩ := stC X169 hx hZ e169 Ar172 (j := (Int32.ofNat (lt + 1))) (inb_of S172 (own_inn (i := (lt + 1)) (m := 22) (by omega) (by omega))) (g := (mkF m 536 (own_F pa pb pi cv1 cv2 b3 (vn cnt) ao lq1 kq0 kq1 cz47 cz48 dq0 dq1 [vn (ao + 2), vn kt, vn df, vn dt, vn (cl + 1), vn lt, vz, vz, vz, vz, vz, vn lt, uu, uu, uu]) [(.int 123), (.int (Int32.ofNat (lt + 1))), (.ref b3)])) rfl rfl (hb hby at_536)
     have V172 : Arv Z h172 b3 k3 .char (22 : Int32) (((cs.set lt (36 : Int32)).set (lt + 1) (123 : Int32)).map Value.int) (.int 0) := by have q := Arv.set Ar172 q172 S172 Ng172 H172 G172 (fits_nar_char _) W172 (lt + 1) (own_ncl (by omega)) (by rw [List.length_map]; omega); rw [own_nar (by decide : own_ch (123 : Int32))] at q; rw [List.map_set]; exact q
     have ok172 : own_ok ((cs.set lt (36 : Int32)).set (lt + 1) (123 : Int32)) := own_ok.set ok169 (by decide : own_ch (123 : Int32))
     refine oc st172 ?_
     obtain ⟨cl173, Ar173, q173, S173, Ng173, H173, G173⟩ := id V169
     have CHs172 := CHr.wr W172 (Safe.arr hZ.alike Ar173 (by decide)) CH169.1
     have CH172 := CH169.trans CHs172
     have N172 := Fr.snoc X172 N169 (by omega : n0 ≤ b3)
     have sz172 : h172.size = h169.size := W172.size
     have O172 : Old Z n0 h172 := O169.wr W172 (by omega)
     have ps174 : own_pse ((cs.set lt (36 : Int32)).set (lt + 1) (123 : Int32)) 0 [(ao, kt, hcx, cl)] (cl + 1) := own_pse.set ps171 (by omega)
     refine ci (XS.iinc X172.here hx rfl (hb hby at_537) rfl (l' := (own_F pa pb pi cv1 cv2 b3 (vn cnt) ao lq1 kq0 kq1 cz47 cz48 dq0 dq1 [vn (ao + 2), vn kt, vn df, vn dt, vn (cl + 1), vn lt, vz, vz, vz, vz, vz, vi ((Int32.ofNat lt) + (2 : Int32)), uu, uu, uu])) rfl) ?_
     refine sc (A := (T172.setTop (mkF m 540 (own_F pa pb pi cv1 cv2 b3 (vn cnt) ao lq1 kq0 kq1 cz47 cz48 dq0 dq1 [vn (ao + 2), vn kt, vn df, vn dt, vn (cl + 1), vn lt, vz, vz, vz, vz, vz, vi ((Int32.ofNat lt) + (2 : Int32)), uu, uu, uu]) []))) ?_
     rw [own_p2]
     refine sc (A := (T172.setTop (mkF m 540 (own_F pa pb pi cv1 cv2 b3 (vn cnt) ao lq1 kq0 kq1 cz47 cz48 dq0 dq1 [vn (ao + 2), vn kt, vn df, vn dt, vn (cl + 1), vn lt, vz, vz, vz, vz, vz, vn (lt + 2), uu, uu, uu]) []))) ?_
     refine ci (XS.iload X172.here hx rfl (hb hby at_540) rfl) ?_
     refine ci (XS.istore X172.here hx rfl (hb hby at_542) rfl (l' := (own_F pa pb pi cv1 cv2 b3 (vn cnt) ao lq1 kq0 kq1 cz47 cz48 dq0 dq1 [vn (ao + 2), vn kt, vn df, vn dt, vn (cl + 1), vn lt, vn (lt + 2), vz, vz, vz, vz, vn (lt + 2), uu, uu, uu])) rfl) ?_
     refine ci (XS.aload X172.here hx rfl (hb hby at_544) rfl rfl) ?_
     refine ci (XS.iload X172.here hx rfl (hb hby at_546) rfl) ?_
     refine ci (XS.lloadN X172.here hx rfl (hb hby at_548) rfl) ?_
     refine ci (XS.bipush X172.here hx rfl (hb hby at_549)) ?_
     refine ci (XS.lushr X172.here hx rfl (hb hby at_551) rfl) ?_
     refine sc (A := (T172.setTop (mkF m 552 (own_F pa pb pi cv1 cv2 b3 (vn cnt) ao lq1 kq0 kq1 cz47 cz48 dq0 dq1 [vn (ao + 2), vn kt, vn df, vn dt, vn (cl + 1), vn lt, vn (lt + 2), vz, vz, vz, vz, vn (lt + 2), uu, uu, uu]) [(.long ((pb.toUInt64 >>> ((32 : Int32) &&& 0x3f).toInt64.toUInt64).toInt64)), (.int (Int32.ofNat (lt + 2))), (.ref b3)]))) ?_
     obtain ⟨_, T175, Lc175, X175, hQ175, st175⟩ := own_c1 X172 <| Jvm.LawKit.callS X172 hx (y := ym41) hown (mvT hZ (hW 225 _ rfl)) (mvT hZ (hW 226 _ rfl)) (mvT hZ (hW 2 _ rfl)) (mvT hZ (hW 227 _ rfl)) (by decide) (backOf (W := 2) (rm_keyc l Z a0 hw [] ((pb.toUInt64 >>> ((32 : Int32) &&& 0x3f).toInt64.toUInt64).toInt64) h172 n0 O172 ) hZ (hW 227 _ rfl) (hW 2 _ rfl) (by decide) (by decide)) (g := (mkF m 552 (own_F pa pb pi cv1 cv2 b3 (vn cnt) ao lq1 kq0 kq1 cz47 cz48 dq0 dq1 [vn (ao + 2), vn kt, vn df, vn dt, vn (cl + 1), vn lt, vn (lt + 2), vz, vz, vz, vz, vn (lt + 2), uu, uu, uu]) [(.long ((pb.toUInt64 >>> ((32 : Int32) &&& 0x3f).toInt64.toUInt64).toInt64)), (.int (Int32.ofNat (lt + 2))), (.ref b3)])) rfl (by rw [hml]; rfl) (argsL := [(.long ((pb.toUInt64 >>> ((32 : Int32) &&& 0x3f).toInt64.toUInt64).toInt64))]) (rest := [(.int (Int32.ofNat (lt + 2))), (.ref b3)]) (lenOf pd_35 rfl) rfl (Nat.le_of_eq rfl) (hb hby at_552) (fun _ _ => ⟨rfl, e172, (by decide : 1 + 0 ≤ _), (by decide : 22 + 0 ≤ _)⟩)
     obtain ⟨cv175, rfl, hv175, hn175, Nq175, eh175⟩ := hQ175
     have N175 := Fr.app N172 Nq175
     refine oc st175 ?_
     refine sc (A := (T175.setTop (mkF m 555 (own_F pa pb pi cv1 cv2 b3 (vn cnt) ao lq1 kq0 kq1 cz47 cz48 dq0 dq1 [vn (ao + 2), vn kt, vn df, vn dt, vn (cl + 1), vn lt, vn (lt + 2), vz, vz, vz, vz, vn (lt + 2), uu, uu, uu]) [(.int cv175), (.int (Int32.ofNat (lt + 2))), (.ref b3)]))) ?_
     obtain ⟨cl176, Ar176, q176, S176, Ng176, H176, G176⟩ := id V172
     have hq176 := ok172.1
     obtain ⟨T176, h176, X176, e176, W176, st176⟩ := stC X175 hx hZ eh175 Ar176 (j := (Int32.ofNat (lt + 2))) (inb_of S176 (own_inn (i := (lt + 2)) (m := 22) (by omega) (by omega))) (g := (mkF m 555 (own_F pa pb pi cv1 cv2 b3 (vn cnt) ao lq1 kq0 kq1 cz47 cz48 dq0 dq1 [vn (ao + 2), vn kt, vn df, vn dt, vn (cl + 1), vn lt, vn (lt + 2), vz, vz, vz, vz, vn (lt + 2), uu, uu, uu]) [(.int cv175), (.int (Int32.ofNat (lt + 2))), (.ref b3)])) rfl rfl (hb hby at_555)
     have V176 : Arv Z h176 b3 k3 .char (22 : Int32) ((((cs.set lt (36 : Int32)).set (lt + 1) (123 : Int32)).set (lt + 2) cv175).map Value.int) (.int 0) := by have q := Arv.set Ar176 q176 S176 Ng176 H176 G176 (fits_nar_char _) W176 (lt + 2) (own_ncl (by omega)) (by rw [List.length_map]; omega); rw [own_nar hv175] at q; rw [List.map_set]; exact q
     have ok176 : own_ok (((cs.set lt (36 : Int32)).set (lt + 1) (123 : Int32)).set (lt + 2) cv175) := own_ok.set ok172 hv175
     refine oc st176 ?_
     obtain ⟨cl177, Ar177, q177, S177, Ng177, H177, G177⟩ := id V172
     have CHs176 := CHr.wr W176 (Safe.arr hZ.alike Ar177 (by decide)) CH172.1
     have CH176 := CH172.trans CHs176
     have N176 := Fr.snoc X176 N175 (by omega : n0 ≤ b3)
     have sz176 : h176.size = h172.size := W176.size
     have O176 : Old Z n0 h176 := O172.wr W176 (by omega)
     have ps178 : own_pse (((cs.set lt (36 : Int32)).set (lt + 1) (123 : Int32)).set (lt + 2) cv175) 0 [(ao, kt, hcx, cl)] (cl + 1) := own_pse.set ps174 (by omega)
     refine ci (XS.iinc X176.here hx rfl (hb hby at_556) rfl (l' := (own_F pa pb pi cv1 cv2 b3 (vn cnt) ao lq1 kq0 kq1 cz47 cz48 dq0 dq1 [vn (ao + 2), vn kt, vn df, vn dt, vn (cl + 1), vn lt, vn (lt + 2), vz, vz, vz, vz, .val (.int ((Int32.ofNat (lt + 2)) + (1 : Int32))), uu, uu, uu])) rfl) ?_
     refine sc (A := (T176.setTop (mkF m 559 (own_F pa pb pi cv1 cv2 b3 (vn cnt) ao lq1 kq0 kq1 cz47 cz48 dq0 dq1 [vn (ao + 2), vn kt, vn df, vn dt, vn (cl + 1), vn lt, vn (lt + 2), vz, vz, vz, vz, .val (.int ((Int32.ofNat (lt + 2)) + (1 : Int32))), uu, uu, uu]) []))) ?_
     rw [own_p1]
     refine sc (A := (T176.setTop (mkF m 559 (own_F pa pb pi cv1 cv2 b3 (vn cnt) ao lq1 kq0 kq1 cz47 cz48 dq0 dq1 [vn (ao + 2), vn kt, vn df, vn dt, vn (cl + 1), vn lt, vn (lt + 2), vz, vz, vz, vz, .val (.int (Int32.ofNat ((lt + 2) + 1))), uu, uu, uu]) []))) ?_
     refine ci (XS.iload X176.here hx rfl (hb hby at_559) rfl) ?_
     refine ci (XS.iconst X176.here hx rfl (hb hby at_561)) ?_
     by_cases hb562_179 : kq1 = (2 : Int32)
     ·refine ci (XS.icmpNo X176.here hx rfl (hb hby at_562) rfl (teq hb562_179).2) ?_
      refine sc (A := (T176.setTop (mkF m 565 (own_F pa pb pi cv1 cv2 b3 (vn cnt) ao lq1 kq0 kq1 cz47 cz48 dq0 dq1 [vn (ao + 2), vn kt, vn df, vn dt, vn (cl + 1), vn lt, vn (lt + 2), vz, vz, vz, vz, .val (.int (Int32.ofNat ((lt + 2) + 1))), uu, uu, uu]) []))) ?_
      refine ci (XS.aload X176.here hx rfl (hb hby at_565) rfl rfl) ?_
      refine ci (XS.iload X176.here hx rfl (hb hby at_567) rfl) ?_
      refine ci (XS.lloadN X176.here hx rfl (hb hby at_569) rfl) ?_
      refine ci (XS.bipush X176.here hx rfl (hb hby at_570)) ?_
      refine ci (XS.lushr X176.here hx rfl (hb hby at_572) rfl) ?_
      refine sc (A := (T176.setTop (mkF m 573 (own_F pa pb pi cv1 cv2 b3 (vn cnt) ao lq1 kq0 kq1 cz47 cz48 dq0 dq1 [vn (ao + 2), vn kt, vn df, vn dt, vn (cl + 1), vn lt, vn (lt + 2), vz, vz, vz, vz, .val (.int (Int32.ofNat ((lt + 2) + 1))), uu, uu, uu]) [(.long ((pb.toUInt64 >>> ((40 : Int32) &&& 0x3f).toInt64.toUInt64).toInt64)), (.int (Int32.ofNat ((lt + 2) + 1))), (.ref b3)]))) ?_
      obtain ⟨_, T180, Lc180, X180, hQ180, st180⟩ := own_c1 X176 <| Jvm.LawKit.callS X176 hx (y := ym41) hown (mvT hZ (hW 225 _ rfl)) (mvT hZ (hW 226 _ rfl)) (mvT hZ (hW 2 _ rfl)) (mvT hZ (hW 227 _ rfl)) (by decide) (backOf (W := 2) (rm_keyc l Z a0 hw [] ((pb.toUInt64 >>> ((40 : Int32) &&& 0x3f).toInt64.toUInt64).toInt64) h176 n0 O176 ) hZ (hW 227 _ rfl) (hW 2 _ rfl) (by decide) (by decide)) (g := (mkF m 573 (own_F pa pb pi cv1 cv2 b3 (vn cnt) ao lq1 kq0 kq1 cz47 cz48 dq0 dq1 [vn (ao + 2), vn kt, vn df, vn dt, vn (cl + 1), vn lt, vn (lt + 2), vz, vz, vz, vz, .val (.int (Int32.ofNat ((lt + 2) + 1))), uu, uu, uu]) [(.long ((pb.toUInt64 >>> ((40 : Int32) &&& 0x3f).toInt64.toUInt64).toInt64)), (.int (Int32.ofNat ((lt + 2) + 1))), (.ref b3)])) rfl (by rw [hml]; rfl) (argsL := [(.long ((pb.toUInt64 >>> ((40 : Int32) &&& 0x3f).toInt64.toUInt64).toInt64))]) (rest := [(.int (Int32.ofNat ((lt + 2) + 1))), (.ref b3)]) (lenOf pd_35 rfl) rfl (Nat.le_of_eq rfl) (hb hby at_573) (fun _ _ => ⟨rfl, e176, (by decide : 1 + 0 ≤ _), (by decide : 22 + 0 ≤ _)⟩)
      obtain ⟨cv180, rfl, hv180, hn180, Nq180, eh180⟩ := hQ180
      have N180 := Fr.app N176 Nq180
      refine oc st180 ?_
      refine sc (A := (T180.setTop (mkF m 576 (own_F pa pb pi cv1 cv2 b3 (vn cnt) ao lq1 kq0 kq1 cz47 cz48 dq0 dq1 [vn (ao + 2), vn kt, vn df, vn dt, vn (cl + 1), vn lt, vn (lt + 2), vz, vz, vz, vz, .val (.int (Int32.ofNat ((lt + 2) + 1))), uu, uu, uu]) [(.int cv180), (.int (Int32.ofNat ((lt + 2) + 1))), (.ref b3)]))) ?_
      obtain ⟨cl181, Ar181, q181, S181, Ng181, H181, G181⟩ := id V176
      have hq181 := ok176.1
      obtain ⟨T181, h181, X181, e181, W181, st181⟩ := stC X180 hx hZ eh180 Ar181 (j := (Int32.ofNat ((lt + 2) + 1))) (inb_of S181 (own_inn (i := ((lt + 2) + 1)) (m := 22) (by omega) (by omega))) (g := (mkF m 576 (own_F pa pb pi cv1 cv2 b3 (vn cnt) ao lq1 kq0 kq1 cz47 cz48 dq0 dq1 [vn (ao + 2), vn kt, vn df, vn dt, vn (cl + 1), vn lt, vn (lt + 2), vz, vz, vz, vz, .val (.int (Int32.ofNat ((lt + 2) + 1))), uu, uu, uu]) [(.int cv180), (.int (Int32.ofNat ((lt + 2) + 1))), (.ref b3)])) rfl rfl (hb hby at_576)
      have V181 : Arv Z h181 b3 k3 .char (22 : Int32) (((((cs.set lt (36 : Int32)).set (lt + 1) (123 : Int32)).set (lt + 2) cv175).set ((lt + 2) + 1) cv180).map Value.int) (.int 0) := by have q := Arv.set Ar181 q181 S181 Ng181 H181 G181 (fits_nar_char _) W181 ((lt + 2) + 1) (own_ncl (by omega)) (by rw [List.length_map]; omega); rw [own_nar hv180] at q; rw [List.map_set]; exact q
      have ok181 : own_ok ((((cs.set lt (36 : Int32)).set (lt + 1) (123 : Int32)).set (lt + 2) cv175).set ((lt + 2) + 1) cv180) := own_ok.set ok176 hv180
      refine oc st181 ?_
      obtain ⟨cl182, Ar182, q182, S182, Ng182, H182, G182⟩ := id V176
      have CHs181 := CHr.wr W181 (Safe.arr hZ.alike Ar182 (by decide)) CH176.1
      have CH181 := CH176.trans CHs181
      have N181 := Fr.snoc X181 N180 (by omega : n0 ≤ b3)
      have sz181 : h181.size = h176.size := W181.size
      have O181 : Old Z n0 h181 := O176.wr W181 (by omega)
      have ps183 : own_pse ((((cs.set lt (36 : Int32)).set (lt + 1) (123 : Int32)).set (lt + 2) cv175).set ((lt + 2) + 1) cv180) 0 [(ao, kt, hcx, cl)] (cl + 1) := own_pse.set ps178 (by omega)
      refine ci (XS.iinc X181.here hx rfl (hb hby at_577) rfl (l' := (own_F pa pb pi cv1 cv2 b3 (vn cnt) ao lq1 kq0 kq1 cz47 cz48 dq0 dq1 [vn (ao + 2), vn kt, vn df, vn dt, vn (cl + 1), vn lt, vn (lt + 2), vz, vz, vz, vz, .val (.int ((Int32.ofNat ((lt + 2) + 1)) + (1 : Int32))), uu, uu, uu])) rfl) ?_
      refine sc (A := (T181.setTop (mkF m 580 (own_F pa pb pi cv1 cv2 b3 (vn cnt) ao lq1 kq0 kq1 cz47 cz48 dq0 dq1 [vn (ao + 2), vn kt, vn df, vn dt, vn (cl + 1), vn lt, vn (lt + 2), vz, vz, vz, vz, .val (.int ((Int32.ofNat ((lt + 2) + 1)) + (1 : Int32))), uu, uu, uu]) []))) ?_
      rw [own_p1]
      refine sc (A := (T181.setTop (mkF m 580 (own_F pa pb pi cv1 cv2 b3 (vn cnt) ao lq1 kq0 kq1 cz47 cz48 dq0 dq1 [vn (ao + 2), vn kt, vn df, vn dt, vn (cl + 1), vn lt, vn (lt + 2), vz, vz, vz, vz, .val (.int (Int32.ofNat (((lt + 2) + 1) + 1))), uu, uu, uu]) []))) ?_
      exact JK2 _ _ _ ((((cs.set lt (36 : Int32)).set (lt + 1) (123 : Int32)).set (lt + 2) cv175).set ((lt + 2) + 1) cv180) kt hcx cl df dt lt (((lt + 2) + 1) + 1) X181 e181 N181 O181 CH181 V181 ok181 ps183 HF b5_ b6_ hn2 (by exact (own_tK1 (own_ok.set (own_ok.set (own_ok.set hok (by decide)) (by decide)) hv175) (by omega) (own_tK0 hok NB (by omega) (by omega) hn175) hn180)) (by omega) (by omega)
     ·refine ci (XS.icmpYes X176.here hx rfl (pc0 := 562) (pc' := 580) rfl (hb hby at_562) rfl (feq hb562_179).2 (by decide) (by decide)) ?_
      refine sc (A := (T176.setTop (mkF m 580 (own_F pa pb pi cv1 cv2 b3 (vn cnt) ao lq1 kq0 kq1 cz47 cz48 dq0 dq1 [vn (ao + 2), vn kt, vn df, vn dt, vn (cl + 1), vn lt, vn (lt + 2), vz, vz, vz, vz, .val (.int (Int32.ofNat ((lt + 2) + 1))), uu, uu, uu]) []))) ?_
      exact JK2 _ _ _ (((cs.set lt (36 : Int32)).set (lt + 1) (123 : Int32)).set (lt + 2) cv175) kt hcx cl df dt lt ((lt + 2) + 1) X176 e176 N176 O176 CH176 V176 ok176 ps178 HF b5_ b6_ hn2 (by exact (own_tK0 hok NB (by omega) (by omega) hn175)) (by omega) (by omega)
    ·refine ci (XS.icmpYes X'.here hx rfl (pc0 := 518) (pc' := 663) rfl (hb hby at_518) rfl (feq hb518_168).2 (by decide) (by decide)) ?_
     refine sc (A := (T'.setTop (mkF m 663 (own_F pa pb pi cv1 cv2 b3 (vn cnt) ao lq1 kq0 kq1 cz47 cz48 dq0 dq1 [vn (ao + 2), vn kt, vn df, vn dt, vn (cl + 1), vn lt, vz, vz, vz, vz, vz, vn lt, uu, uu, uu]) []))) ?_
     exact J663_1 _ _ _ cs kt hcx cl df dt lt X' e' N' O' CH' V' hok PS HF NB (by have u := mt (own_neq (b := 2) (by omega) (by omega)).mpr hb518_168; omega)
   have J490 : ∀ (H : Heap) (T' : State) (ls : List Loc) (cs : List Int32) (kt : Nat) (hcx : Bool) (cl df dt lt : Nat), (Stand p l e room_1 (s.setVm s.vm) m #[(.long pa), (.long pb), (.int pi)] below meth c T' ls 1 22) → (T'.heap = H) → (Fr n0 ls) → (Old Z n0 H) → (CHr Z own_EL s.vm s.heap s.vm H) → (Arv Z H b3 k3 .char (22 : Int32) (cs.map Value.int) (.int 0)) → (own_ok cs) → (own_pse cs 0 [(ao, kt, hcx, cl)] (cl + 1)) → (own_hf cz47 hcx kt cl df dt) → (own_nb cs (cl + 1) 22) → (cl < lt) → (lt ≤ 11) → (cl ≤ 9) → (1 ≤ cnt) → own_gc p e below s Z own_EL (Q_rm0 Z pa pb pi dq kd Gc fm h0 n0) room_1.cells room_1.slots (T'.setTop (mkF m 490 (own_F pa pb pi cv1 cv2 b3 (vn cnt) ao lq1 kq0 kq1 cz47 cz48 dq0 dq1 [vn (ao + 2), vn kt, vn df, vn dt, vn (cl + 1), vz, vz, vz, vz, vz, vz, vn lt, uu, uu, uu]) [])) := by
    intro H T' ls cs kt hcx cl df dt lt X' e' N' O' CH' V' hok PS HF NB b5_ b6_ b8_ hn1
    have hl22 := hok.1
    have ltb := olt V'.lt
    refine sc (A := (T'.setTop (mkF m 490 (own_F pa pb pi cv1 cv2 b3 (vn cnt) ao lq1 kq0 kq1 cz47 cz48 dq0 dq1 [vn (ao + 2), vn kt, vn df, vn dt, vn (cl + 1), vz, vz, vz, vz, vz, vz, vn lt, uu, uu, uu]) []))) ?_
    refine ci (XS.iload X'.here hx rfl (hb hby at_490) rfl) ?_
    refine ci (XS.iconst X'.here hx rfl (hb hby at_492)) ?_
    by_cases hb493_184 : lq1 < (2 : Int32)
    ·refine ci (XS.icmpYes X'.here hx rfl (pc0 := 493) (pc' := 511) rfl (hb hby at_493) rfl (tlt hb493_184).1 (by decide) (by decide)) ?_
     refine sc (A := (T'.setTop (mkF m 511 (own_F pa pb pi cv1 cv2 b3 (vn cnt) ao lq1 kq0 kq1 cz47 cz48 dq0 dq1 [vn (ao + 2), vn kt, vn df, vn dt, vn (cl + 1), vz, vz, vz, vz, vz, vz, vn lt, uu, uu, uu]) []))) ?_
     exact J511 _ _ _ cs kt hcx cl df dt lt X' e' N' O' CH' V' hok PS HF NB (by omega) (by omega) b8_ hn1
    ·refine ci (XS.icmpNo X'.here hx rfl (hb hby at_493) rfl (flt hb493_184).1) ?_
     refine sc (A := (T'.setTop (mkF m 496 (own_F pa pb pi cv1 cv2 b3 (vn cnt) ao lq1 kq0 kq1 cz47 cz48 dq0 dq1 [vn (ao + 2), vn kt, vn df, vn dt, vn (cl + 1), vz, vz, vz, vz, vz, vz, vn lt, uu, uu, uu]) []))) ?_
     refine ci (XS.aload X'.here hx rfl (hb hby at_496) rfl rfl) ?_
     refine ci (XS.iload X'.here hx rfl (hb hby at_498) rfl) ?_
     refine ci (XS.lloadN X'.here hx rfl (hb hby at_500) rfl) ?_
     refine ci (XS.bipush X'.here hx rfl (hb hby at_501)) ?_
     refine ci (XS.lushr X'.here hx rfl (hb hby at_503) rfl) ?_
     refine sc (A := (T'.setTop (mkF m 504 (own_F pa pb pi cv1 cv2 b3 (vn cnt) ao lq1 kq0 kq1 cz47 cz48 dq0 dq1 [vn (ao + 2), vn kt, vn df, vn dt, vn (cl + 1), vz, vz, vz, vz, vz, vz, vn lt, uu, uu, uu]) [(.long ((pa.toUInt64 >>> ((24 : Int32) &&& 0x3f).toInt64.toUInt64).toInt64)), (.int (Int32.ofNat lt)), (.ref b3)]))) ?_
     obtain ⟨_, T185, Lc185, X185, hQ185, st185⟩ := own_c1 X' <| Jvm.LawKit.callS X' hx (y := ym1) hown (mvT hZ (hW 0 _ rfl)) (mvT hZ (hW 1 _ rfl)) (mvT hZ (hW 2 _ rfl)) (mvT hZ (hW 3 _ rfl)) (by decide) (backOf (W := 2) (rm_lit l Z a0 hw [] ((pa.toUInt64 >>> ((24 : Int32) &&& 0x3f).toInt64.toUInt64).toInt64) H n0 O' ) hZ (hW 3 _ rfl) (hW 2 _ rfl) (by decide) (by decide)) (g := (mkF m 504 (own_F pa pb pi cv1 cv2 b3 (vn cnt) ao lq1 kq0 kq1 cz47 cz48 dq0 dq1 [vn (ao + 2), vn kt, vn df, vn dt, vn (cl + 1), vz, vz, vz, vz, vz, vz, vn lt, uu, uu, uu]) [(.long ((pa.toUInt64 >>> ((24 : Int32) &&& 0x3f).toInt64.toUInt64).toInt64)), (.int (Int32.ofNat lt)), (.ref b3)])) rfl (by rw [hml]; rfl) (argsL := [(.long ((pa.toUInt64 >>> ((24 : Int32) &&& 0x3f).toInt64.toUInt64).toInt64))]) (rest := [(.int (Int32.ofNat lt)), (.ref b3)]) (lenOf pd_35 rfl) rfl (Nat.le_of_eq rfl) (hb hby at_504) (fun _ _ => ⟨rfl, e', (by decide : 1 + 0 ≤ _), (by decide : 22 + 0 ≤ _)⟩)
     obtain ⟨cv185, rfl, hv185, hn185, Nq185, eh185⟩ := hQ185
     have N185 := Fr.app N' Nq185
     refine oc st185 ?_
     refine sc (A := (T185.setTop (mkF m 507 (own_F pa pb pi cv1 cv2 b3 (vn cnt) ao lq1 kq0 kq1 cz47 cz48 dq0 dq1 [vn (ao + 2), vn kt, vn df, vn dt, vn (cl + 1), vz, vz, vz, vz, vz, vz, vn lt, uu, uu, uu]) [(.int cv185), (.int (Int32.ofNat lt)), (.ref b3)]))) ?_
     obtain ⟨cl186, Ar186, q186, S186, Ng186, H186, G186⟩ := id V'
     have hq186 := hok.1
     obtain ⟨T186, h186, X186, e186, W186, st186⟩ := stC X185 hx hZ eh185 Ar186 (j := (Int32.ofNat lt)) (inb_of S186 (own_inn (i := lt) (m := 22) (by omega) (by omega))) (g := (mkF m 507 (own_F pa pb pi cv1 cv2 b3 (vn cnt) ao lq1 kq0 kq1 cz47 cz48 dq0 dq1 [vn (ao + 2), vn kt, vn df, vn dt, vn (cl + 1), vz, vz, vz, vz, vz, vz, vn lt, uu, uu, uu]) [(.int cv185), (.int (Int32.ofNat lt)), (.ref b3)])) rfl rfl (hb hby at_507)
     have V186 : Arv Z h186 b3 k3 .char (22 : Int32) ((cs.set lt cv185).map Value.int) (.int 0) := by have q := Arv.set Ar186 q186 S186 Ng186 H186 G186 (fits_nar_char _) W186 lt (own_ncl (by omega)) (by rw [List.length_map]; omega); rw [own_nar hv185] at q; rw [List.map_set]; exact q
     have ok186 : own_ok (cs.set lt cv185) := own_ok.set hok hv185
     refine oc st186 ?_
     obtain ⟨cl187, Ar187, q187, S187, Ng187, H187, G187⟩ := id V'
     have CHs186 := CHr.wr W186 (Safe.arr hZ.alike Ar187 (by decide)) CH'.1
     have CH186 := CH'.trans CHs186
     have N186 := Fr.snoc X186 N185 (by omega : n0 ≤ b3)
     have sz186 : h186.size = H.size := W186.size
     have O186 : Old Z n0 h186 := O'.wr W186 (by omega)
     refine ci (XS.iinc X186.here hx rfl (hb hby at_508) rfl (l' := (own_F pa pb pi cv1 cv2 b3 (vn cnt) ao lq1 kq0 kq1 cz47 cz48 dq0 dq1 [vn (ao + 2), vn kt, vn df, vn dt, vn (cl + 1), vz, vz, vz, vz, vz, vz, vi ((Int32.ofNat lt) + (1 : Int32)), uu, uu, uu])) rfl) ?_
     refine sc (A := (T186.setTop (mkF m 511 (own_F pa pb pi cv1 cv2 b3 (vn cnt) ao lq1 kq0 kq1 cz47 cz48 dq0 dq1 [vn (ao + 2), vn kt, vn df, vn dt, vn (cl + 1), vz, vz, vz, vz, vz, vz, vi ((Int32.ofNat lt) + (1 : Int32)), uu, uu, uu]) []))) ?_
     rw [own_p1]
     refine sc (A := (T186.setTop (mkF m 511 (own_F pa pb pi cv1 cv2 b3 (vn cnt) ao lq1 kq0 kq1 cz47 cz48 dq0 dq1 [vn (ao + 2), vn kt, vn df, vn dt, vn (cl + 1), vz, vz, vz, vz, vz, vz, vn (lt + 1), uu, uu, uu]) []))) ?_
     exact J511 _ _ _ (cs.set lt cv185) kt hcx cl df dt (lt + 1) X186 e186 N186 O186 CH186 V186 ok186 (own_pse.set PS (by omega)) HF (own_nb.set NB hn185) (by omega) (by omega) b8_ hn1
   have JC1 : ∀ (H : Heap) (T' : State) (ls : List Loc) (cs : List Int32) (kt : Nat) (hcx : Bool) (df dt i : Nat), (Stand p l e room_1 (s.setVm s.vm) m #[(.long pa), (.long pb), (.int pi)] below meth c T' ls 1 22) → (T'.heap = H) → (Fr n0 ls) → (Old Z n0 H) → (CHr Z own_EL s.vm s.heap s.vm H) → (Arv Z H b3 k3 .char (22 : Int32) (cs.map Value.int) (.int 0)) → (own_ok cs) → (own_pse cs 0 ([] : List own_Pl) 0) → (1 ≤ cnt) → (own_C cs 0 ao kt hcx i cz47 df dt) → (i ≤ ao + 7) → (ao + 2 < i) → own_gc p e below s Z own_EL (Q_rm0 Z pa pb pi dq kd Gc fm h0 n0) room_1.cells room_1.slots (T'.setTop (mkF m 455 (own_F pa pb pi cv1 cv2 b3 (vn cnt) ao lq1 kq0 kq1 cz47 cz48 dq0 dq1 [vn (ao + 2), vn kt, vn df, vn dt, vz, vz, vz, vz, vz, vz, vz, vn i, uu, uu, uu]) [])) := by
    intro H T' ls cs kt hcx df dt i X' e' N' O' CH' V' hok PS hn1 hC b7_ b9_
    have hl22 := hok.1
    have ltb := olt V'.lt
    obtain ⟨tc1, tc2, tc3, tc4, tc5, tc6⟩ := own_tC hok (by omega) hC
    refine sc (A := (T'.setTop (mkF m 455 (own_F pa pb pi cv1 cv2 b3 (vn cnt) ao lq1 kq0 kq1 cz47 cz48 dq0 dq1 [vn (ao + 2), vn kt, vn df, vn dt, vz, vz, vz, vz, vz, vz, vz, vn i, uu, uu, uu]) []))) ?_
    refine ci (XS.aload X'.here hx rfl (hb hby at_455) rfl rfl) ?_
    refine ci (XS.iload X'.here hx rfl (hb hby at_457) rfl) ?_
    refine ci (XS.bipush X'.here hx rfl (hb hby at_459)) ?_
    refine sc (A := (T'.setTop (mkF m 461 (own_F pa pb pi cv1 cv2 b3 (vn cnt) ao lq1 kq0 kq1 cz47 cz48 dq0 dq1 [vn (ao + 2), vn kt, vn df, vn dt, vz, vz, vz, vz, vz, vz, vz, vn i, uu, uu, uu]) [(.int 125), (.int (Int32.ofNat i)), (.ref b3)]))) ?_
    obtain ⟨cl188, Ar188, q188, S188, Ng188, H188, G188⟩ := id V'
    have hq188 := hok.1
    obtain ⟨T188, h188, X188, e188, W188, st188⟩ := stC X' hx hZ e' Ar188 (j := (Int32.ofNat i)) (inb_of S188 (own_inn (i := i) (m := 22) (by omega) (by omega))) (g := (mkF m 461 (own_F pa pb pi cv1 cv2 b3 (vn cnt) ao lq1 kq0 kq1 cz47 cz48 dq0 dq1 [vn (ao + 2), vn kt, vn df, vn dt, vz, vz, vz, vz, vz, vz, vz, vn i, uu, uu, uu]) [(.int 125), (.int (Int32.ofNat i)), (.ref b3)])) rfl rfl (hb hby at_461)
    have V188 : Arv Z h188 b3 k3 .char (22 : Int32) ((cs.set i (125 : Int32)).map Value.int) (.int 0) := by have q := Arv.set Ar188 q188 S188 Ng188 H188 G188 (fits_nar_char _) W188 i (own_ncl (by omega)) (by rw [List.length_map]; omega); rw [own_nar (by decide : own_ch (125 : Int32))] at q; rw [List.map_set]; exact q
    have ok188 : own_ok (cs.set i (125 : Int32)) := own_ok.set hok (by decide : own_ch (125 : Int32))
    refine oc st188 ?_
    obtain ⟨cl189, Ar189, q189, S189, Ng189, H189, G189⟩ := id V'
    have CHs188 := CHr.wr W188 (Safe.arr hZ.alike Ar189 (by decide)) CH'.1
    have CH188 := CH'.trans CHs188
    have N188 := Fr.snoc X188 N' (by omega : n0 ≤ b3)
    have sz188 : h188.size = H.size := W188.size
    have O188 : Old Z n0 h188 := O'.wr W188 (by omega)
    have ps190 : own_pse (cs.set i (125 : Int32)) 0 ([] : List own_Pl) 0 := own_pse.set PS (by omega)
    refine ci (XS.iinc X188.here hx rfl (hb hby at_462) rfl (l' := (own_F pa pb pi cv1 cv2 b3 (vn cnt) ao lq1 kq0 kq1 cz47 cz48 dq0 dq1 [vn (ao + 2), vn kt, vn df, vn dt, vz, vz, vz, vz, vz, vz, vz, vi ((Int32.ofNat i) + (1 : Int32)), uu, uu, uu])) rfl) ?_
    refine sc (A := (T188.setTop (mkF m 465 (own_F pa pb pi cv1 cv2 b3 (vn cnt) ao lq1 kq0 kq1 cz47 cz48 dq0 dq1 [vn (ao + 2), vn kt, vn df, vn dt, vz, vz, vz, vz, vz, vz, vz, vi ((Int32.ofNat i) + (1 : Int32)), uu, uu, uu]) []))) ?_
    rw [own_p1]
    refine sc (A := (T188.setTop (mkF m 465 (own_F pa pb pi cv1 cv2 b3 (vn cnt) ao lq1 kq0 kq1 cz47 cz48 dq0 dq1 [vn (ao + 2), vn kt, vn df, vn dt, vz, vz, vz, vz, vz, vz, vz, vn (i + 1), uu, uu, uu]) []))) ?_
    refine ci (XS.iload X188.here hx rfl (hb hby at_465) rfl) ?_
    refine ci (XS.istore X188.here hx rfl (hb hby at_467) rfl (l' := (own_F pa pb pi cv1 cv2 b3 (vn cnt) ao lq1 kq0 kq1 cz47 cz48 dq0 dq1 [vn (ao + 2), vn kt, vn df, vn dt, vn (i + 1), vz, vz, vz, vz, vz, vz, vn (i + 1), uu, uu, uu])) rfl) ?_
    refine ci (XS.iload X188.here hx rfl (hb hby at_469) rfl) ?_
    refine ci (XS.iconst X188.here hx rfl (hb hby at_471)) ?_
    by_cases hb472_191 : lq1 < (1 : Int32)
    ·refine ci (XS.icmpYes X188.here hx rfl (pc0 := 472) (pc' := 490) rfl (hb hby at_472) rfl (tlt hb472_191).1 (by decide) (by decide)) ?_
     refine sc (A := (T188.setTop (mkF m 490 (own_F pa pb pi cv1 cv2 b3 (vn cnt) ao lq1 kq0 kq1 cz47 cz48 dq0 dq1 [vn (ao + 2), vn kt, vn df, vn dt, vn (i + 1), vz, vz, vz, vz, vz, vz, vn (i + 1), uu, uu, uu]) []))) ?_
     exact J490 _ _ _ (cs.set i (125 : Int32)) kt hcx i df dt (i + 1) X188 e188 N188 O188 CH188 V188 ok188 (own_pse.snoc ps190 tc4 tc2 tc1) tc6 tc3 (by omega) (by omega) (by omega) hn1
    ·refine ci (XS.icmpNo X188.here hx rfl (hb hby at_472) rfl (flt hb472_191).1) ?_
     refine sc (A := (T188.setTop (mkF m 475 (own_F pa pb pi cv1 cv2 b3 (vn cnt) ao lq1 kq0 kq1 cz47 cz48 dq0 dq1 [vn (ao + 2), vn kt, vn df, vn dt, vn (i + 1), vz, vz, vz, vz, vz, vz, vn (i + 1), uu, uu, uu]) []))) ?_
     refine ci (XS.aload X188.here hx rfl (hb hby at_475) rfl rfl) ?_
     refine ci (XS.iload X188.here hx rfl (hb hby at_477) rfl) ?_
     refine ci (XS.lloadN X188.here hx rfl (hb hby at_479) rfl) ?_
     refine ci (XS.bipush X188.here hx rfl (hb hby at_480)) ?_
     refine ci (XS.lushr X188.here hx rfl (hb hby at_482) rfl) ?_
     refine sc (A := (T188.setTop (mkF m 483 (own_F pa pb pi cv1 cv2 b3 (vn cnt) ao lq1 kq0 kq1 cz47 cz48 dq0 dq1 [vn (ao + 2), vn kt, vn df, vn dt, vn (i + 1), vz, vz, vz, vz, vz, vz, vn (i + 1), uu, uu, uu]) [(.long ((pa.toUInt64 >>> ((16 : Int32) &&& 0x3f).toInt64.toUInt64).toInt64)), (.int (Int32.ofNat (i + 1))), (.ref b3)]))) ?_
     obtain ⟨_, T192, Lc192, X192, hQ192, st192⟩ := own_c1 X188 <| Jvm.LawKit.callS X188 hx (y := ym1) hown (mvT hZ (hW 0 _ rfl)) (mvT hZ (hW 1 _ rfl)) (mvT hZ (hW 2 _ rfl)) (mvT hZ (hW 3 _ rfl)) (by decide) (backOf (W := 2) (rm_lit l Z a0 hw [] ((pa.toUInt64 >>> ((16 : Int32) &&& 0x3f).toInt64.toUInt64).toInt64) h188 n0 O188 ) hZ (hW 3 _ rfl) (hW 2 _ rfl) (by decide) (by decide)) (g := (mkF m 483 (own_F pa pb pi cv1 cv2 b3 (vn cnt) ao lq1 kq0 kq1 cz47 cz48 dq0 dq1 [vn (ao + 2), vn kt, vn df, vn dt, vn (i + 1), vz, vz, vz, vz, vz, vz, vn (i + 1), uu, uu, uu]) [(.long ((pa.toUInt64 >>> ((16 : Int32) &&& 0x3f).toInt64.toUInt64).toInt64)), (.int (Int32.ofNat (i + 1))), (.ref b3)])) rfl (by rw [hml]; rfl) (argsL := [(.long ((pa.toUInt64 >>> ((16 : Int32) &&& 0x3f).toInt64.toUInt64).toInt64))]) (rest := [(.int (Int32.ofNat (i + 1))), (.ref b3)]) (lenOf pd_35 rfl) rfl (Nat.le_of_eq rfl) (hb hby at_483) (fun _ _ => ⟨rfl, e188, (by decide : 1 + 0 ≤ _), (by decide : 22 + 0 ≤ _)⟩)
     obtain ⟨cv192, rfl, hv192, hn192, Nq192, eh192⟩ := hQ192
     have N192 := Fr.app N188 Nq192
     refine oc st192 ?_
     refine sc (A := (T192.setTop (mkF m 486 (own_F pa pb pi cv1 cv2 b3 (vn cnt) ao lq1 kq0 kq1 cz47 cz48 dq0 dq1 [vn (ao + 2), vn kt, vn df, vn dt, vn (i + 1), vz, vz, vz, vz, vz, vz, vn (i + 1), uu, uu, uu]) [(.int cv192), (.int (Int32.ofNat (i + 1))), (.ref b3)]))) ?_
     obtain ⟨cl193, Ar193, q193, S193, Ng193, H193, G193⟩ := id V188
     have hq193 := ok188.1
     obtain ⟨T193, h193, X193, e193, W193, st193⟩ := stC X192 hx hZ eh192 Ar193 (j := (Int32.ofNat (i + 1))) (inb_of S193 (own_inn (i := (i + 1)) (m := 22) (by omega) (by omega))) (g := (mkF m 486 (own_F pa pb pi cv1 cv2 b3 (vn cnt) ao lq1 kq0 kq1 cz47 cz48 dq0 dq1 [vn (ao + 2), vn kt, vn df, vn dt, vn (i + 1), vz, vz, vz, vz, vz, vz, vn (i + 1), uu, uu, uu]) [(.int cv192), (.int (Int32.ofNat (i + 1))), (.ref b3)])) rfl rfl (hb hby at_486)
     have V193 : Arv Z h193 b3 k3 .char (22 : Int32) (((cs.set i (125 : Int32)).set (i + 1) cv192).map Value.int) (.int 0) := by have q := Arv.set Ar193 q193 S193 Ng193 H193 G193 (fits_nar_char _) W193 (i + 1) (own_ncl (by omega)) (by rw [List.length_map]; omega); rw [own_nar hv192] at q; rw [List.map_set]; exact q
     have ok193 : own_ok ((cs.set i (125 : Int32)).set (i + 1) cv192) := own_ok.set ok188 hv192
     refine oc st193 ?_
     obtain ⟨cl194, Ar194, q194, S194, Ng194, H194, G194⟩ := id V188
     have CHs193 := CHr.wr W193 (Safe.arr hZ.alike Ar194 (by decide)) CH188.1
     have CH193 := CH188.trans CHs193
     have N193 := Fr.snoc X193 N192 (by omega : n0 ≤ b3)
     have sz193 : h193.size = h188.size := W193.size
     have O193 : Old Z n0 h193 := O188.wr W193 (by omega)
     refine ci (XS.iinc X193.here hx rfl (hb hby at_487) rfl (l' := (own_F pa pb pi cv1 cv2 b3 (vn cnt) ao lq1 kq0 kq1 cz47 cz48 dq0 dq1 [vn (ao + 2), vn kt, vn df, vn dt, vn (i + 1), vz, vz, vz, vz, vz, vz, .val (.int ((Int32.ofNat (i + 1)) + (1 : Int32))), uu, uu, uu])) rfl) ?_
     refine sc (A := (T193.setTop (mkF m 490 (own_F pa pb pi cv1 cv2 b3 (vn cnt) ao lq1 kq0 kq1 cz47 cz48 dq0 dq1 [vn (ao + 2), vn kt, vn df, vn dt, vn (i + 1), vz, vz, vz, vz, vz, vz, .val (.int ((Int32.ofNat (i + 1)) + (1 : Int32))), uu, uu, uu]) []))) ?_
     rw [own_p1]
     refine sc (A := (T193.setTop (mkF m 490 (own_F pa pb pi cv1 cv2 b3 (vn cnt) ao lq1 kq0 kq1 cz47 cz48 dq0 dq1 [vn (ao + 2), vn kt, vn df, vn dt, vn (i + 1), vz, vz, vz, vz, vz, vz, .val (.int (Int32.ofNat ((i + 1) + 1))), uu, uu, uu]) []))) ?_
     exact J490 _ _ _ ((cs.set i (125 : Int32)).set (i + 1) cv192) kt hcx i df dt ((i + 1) + 1) X193 e193 N193 O193 CH193 V193 ok193 (own_pse.set (own_pse.snoc ps190 tc4 tc2 tc1) (by omega)) tc6 (own_nb.set tc3 hn192) (by omega) (by omega) (by omega) hn1
   have JD21 : ∀ (H : Heap) (T' : State) (ls : List Loc) (cs : List Int32) (kt i : Nat), (Stand p l e room_1 (s.setVm s.vm) m #[(.long pa), (.long pb), (.int pi)] below meth c T' ls 1 22) → (T'.heap = H) → (Fr n0 ls) → (Old Z n0 H) → (CHr Z own_EL s.vm s.heap s.vm H) → (Arv Z H b3 k3 .char (22 : Int32) (cs.map Value.int) (.int 0)) → (own_ok cs) → (own_pse cs 0 ([] : List own_Pl) 0) → (1 ≤ cnt) → (own_D cs 0 ao kt i) → (¬ cz47 = 0) → (i ≤ ao + 7) → (ao + 2 < i) → own_gc p e below s Z own_EL (Q_rm0 Z pa pb pi dq kd Gc fm h0 n0) room_1.cells room_1.slots (T'.setTop (mkF m 451 (own_F pa pb pi cv1 cv2 b3 (vn cnt) ao lq1 kq0 kq1 cz47 cz48 dq0 dq1 [vn (ao + 2), vn kt, vn (kt + 1), vz, vz, vz, vz, vz, vz, vz, vz, vn i, uu, uu, uu]) [])) := by
    intro H T' ls cs kt i X' e' N' O' CH' V' hok PS hn1 hD hc_ b7_ b9_
    have hl22 := hok.1
    have ltb := olt V'.lt
    refine sc (A := (T'.setTop (mkF m 451 (own_F pa pb pi cv1 cv2 b3 (vn cnt) ao lq1 kq0 kq1 cz47 cz48 dq0 dq1 [vn (ao + 2), vn kt, vn (kt + 1), vz, vz, vz, vz, vz, vz, vz, vz, vn i, uu, uu, uu]) []))) ?_
    refine ci (XS.iload X'.here hx rfl (hb hby at_451) rfl) ?_
    refine ci (XS.istore X'.here hx rfl (hb hby at_453) rfl (l' := (own_F pa pb pi cv1 cv2 b3 (vn cnt) ao lq1 kq0 kq1 cz47 cz48 dq0 dq1 [vn (ao + 2), vn kt, vn (kt + 1), vn i, vz, vz, vz, vz, vz, vz, vz, vn i, uu, uu, uu])) rfl) ?_
    refine sc (A := (T'.setTop (mkF m 455 (own_F pa pb pi cv1 cv2 b3 (vn cnt) ao lq1 kq0 kq1 cz47 cz48 dq0 dq1 [vn (ao + 2), vn kt, vn (kt + 1), vn i, vz, vz, vz, vz, vz, vz, vz, vn i, uu, uu, uu]) []))) ?_
    exact JC1 _ _ _ cs  kt true (kt + 1) i i X' e' N' O' CH' V' hok PS hn1 (Or.inl ⟨rfl, hc_, rfl, rfl, hD⟩) (by omega) (by omega)
   have JD11 : ∀ (H : Heap) (T' : State) (ls : List Loc) (cs : List Int32) (kt i : Nat), (Stand p l e room_1 (s.setVm s.vm) m #[(.long pa), (.long pb), (.int pi)] below meth c T' ls 1 22) → (T'.heap = H) → (Fr n0 ls) → (Old Z n0 H) → (CHr Z own_EL s.vm s.heap s.vm H) → (Arv Z H b3 k3 .char (22 : Int32) (cs.map Value.int) (.int 0)) → (own_ok cs) → (own_pse cs 0 ([] : List own_Pl) 0) → (1 ≤ cnt) → (own_D cs 0 ao kt i) → (¬ cz47 = 0) → (i ≤ ao + 6) → (ao + 2 < i) → own_gc p e below s Z own_EL (Q_rm0 Z pa pb pi dq kd Gc fm h0 n0) room_1.cells room_1.slots (T'.setTop (mkF m 430 (own_F pa pb pi cv1 cv2 b3 (vn cnt) ao lq1 kq0 kq1 cz47 cz48 dq0 dq1 [vn (ao + 2), vn kt, vn (kt + 1), vz, vz, vz, vz, vz, vz, vz, vz, vn i, uu, uu, uu]) [])) := by
    intro H T' ls cs kt i X' e' N' O' CH' V' hok PS hn1 hD hc_ b7_ b9_
    have hl22 := hok.1
    have ltb := olt V'.lt
    refine sc (A := (T'.setTop (mkF m 430 (own_F pa pb pi cv1 cv2 b3 (vn cnt) ao lq1 kq0 kq1 cz47 cz48 dq0 dq1 [vn (ao + 2), vn kt, vn (kt + 1), vz, vz, vz, vz, vz, vz, vz, vz, vn i, uu, uu, uu]) []))) ?_
    refine ci (XS.iload X'.here hx rfl (hb hby at_430) rfl) ?_
    refine ci (XS.iconst X'.here hx rfl (hb hby at_432)) ?_
    by_cases hb433_195 : dq0 < (2 : Int32)
    ·refine ci (XS.icmpYes X'.here hx rfl (pc0 := 433) (pc' := 451) rfl (hb hby at_433) rfl (tlt hb433_195).1 (by decide) (by decide)) ?_
     refine sc (A := (T'.setTop (mkF m 451 (own_F pa pb pi cv1 cv2 b3 (vn cnt) ao lq1 kq0 kq1 cz47 cz48 dq0 dq1 [vn (ao + 2), vn kt, vn (kt + 1), vz, vz, vz, vz, vz, vz, vz, vz, vn i, uu, uu, uu]) []))) ?_
     exact JD21 _ _ _ cs  kt i X' e' N' O' CH' V' hok PS hn1 hD  hc_ (by omega) (by omega)
    ·refine ci (XS.icmpNo X'.here hx rfl (hb hby at_433) rfl (flt hb433_195).1) ?_
     refine sc (A := (T'.setTop (mkF m 436 (own_F pa pb pi cv1 cv2 b3 (vn cnt) ao lq1 kq0 kq1 cz47 cz48 dq0 dq1 [vn (ao + 2), vn kt, vn (kt + 1), vz, vz, vz, vz, vz, vz, vz, vz, vn i, uu, uu, uu]) []))) ?_
     refine ci (XS.aload X'.here hx rfl (hb hby at_436) rfl rfl) ?_
     refine ci (XS.iload X'.here hx rfl (hb hby at_438) rfl) ?_
     refine ci (XS.lloadN X'.here hx rfl (hb hby at_440) rfl) ?_
     refine ci (XS.bipush X'.here hx rfl (hb hby at_441)) ?_
     refine ci (XS.lushr X'.here hx rfl (hb hby at_443) rfl) ?_
     refine sc (A := (T'.setTop (mkF m 444 (own_F pa pb pi cv1 cv2 b3 (vn cnt) ao lq1 kq0 kq1 cz47 cz48 dq0 dq1 [vn (ao + 2), vn kt, vn (kt + 1), vz, vz, vz, vz, vz, vz, vz, vz, vn i, uu, uu, uu]) [(.long ((pb.toUInt64 >>> ((24 : Int32) &&& 0x3f).toInt64.toUInt64).toInt64)), (.int (Int32.ofNat i)), (.ref b3)]))) ?_
     obtain ⟨_, T196, Lc196, X196, hQ196, st196⟩ := own_c1 X' <| Jvm.LawKit.callS X' hx (y := ym64) hown (mvT hZ (hW 327 _ rfl)) (mvT hZ (hW 328 _ rfl)) (mvT hZ (hW 2 _ rfl)) (mvT hZ (hW 329 _ rfl)) (by decide) (backOf (W := 2) (rm_defc l Z a0 hw [] ((pb.toUInt64 >>> ((24 : Int32) &&& 0x3f).toInt64.toUInt64).toInt64) H n0 O' ) hZ (hW 329 _ rfl) (hW 2 _ rfl) (by decide) (by decide)) (g := (mkF m 444 (own_F pa pb pi cv1 cv2 b3 (vn cnt) ao lq1 kq0 kq1 cz47 cz48 dq0 dq1 [vn (ao + 2), vn kt, vn (kt + 1), vz, vz, vz, vz, vz, vz, vz, vz, vn i, uu, uu, uu]) [(.long ((pb.toUInt64 >>> ((24 : Int32) &&& 0x3f).toInt64.toUInt64).toInt64)), (.int (Int32.ofNat i)), (.ref b3)])) rfl (by rw [hml]; rfl) (argsL := [(.long ((pb.toUInt64 >>> ((24 : Int32) &&& 0x3f).toInt64.toUInt64).toInt64))]) (rest := [(.int (Int32.ofNat i)), (.ref b3)]) (lenOf pd_35 rfl) rfl (Nat.le_of_eq rfl) (hb hby at_444) (fun _ _ => ⟨rfl, e', (by decide : 1 + 0 ≤ _), (by decide : 22 + 0 ≤ _)⟩)
     obtain ⟨cv196, rfl, hv196, hn196, Nq196, eh196⟩ := hQ196
     have N196 := Fr.app N' Nq196
     refine oc st196 ?_
     refine sc (A := (T196.setTop (mkF m 447 (own_F pa pb pi cv1 cv2 b3 (vn cnt) ao lq1 kq0 kq1 cz47 cz48 dq0 dq1 [vn (ao + 2), vn kt, vn (kt + 1), vz, vz, vz, vz, vz, vz, vz, vz, vn i, uu, uu, uu]) [(.int cv196), (.int (Int32.ofNat i)), (.ref b3)]))) ?_
     obtain ⟨cl197, Ar197, q197, S197, Ng197, H197, G197⟩ := id V'
     have hq197 := hok.1
     obtain ⟨T197, h197, X197, e197, W197, st197⟩ := stC X196 hx hZ eh196 Ar197 (j := (Int32.ofNat i)) (inb_of S197 (own_inn (i := i) (m := 22) (by omega) (by omega))) (g := (mkF m 447 (own_F pa pb pi cv1 cv2 b3 (vn cnt) ao lq1 kq0 kq1 cz47 cz48 dq0 dq1 [vn (ao + 2), vn kt, vn (kt + 1), vz, vz, vz, vz, vz, vz, vz, vz, vn i, uu, uu, uu]) [(.int cv196), (.int (Int32.ofNat i)), (.ref b3)])) rfl rfl (hb hby at_447)
     have V197 : Arv Z h197 b3 k3 .char (22 : Int32) ((cs.set i cv196).map Value.int) (.int 0) := by have q := Arv.set Ar197 q197 S197 Ng197 H197 G197 (fits_nar_char _) W197 i (own_ncl (by omega)) (by rw [List.length_map]; omega); rw [own_nar hv196] at q; rw [List.map_set]; exact q
     have ok197 : own_ok (cs.set i cv196) := own_ok.set hok hv196
     refine oc st197 ?_
     obtain ⟨cl198, Ar198, q198, S198, Ng198, H198, G198⟩ := id V'
     have CHs197 := CHr.wr W197 (Safe.arr hZ.alike Ar198 (by decide)) CH'.1
     have CH197 := CH'.trans CHs197
     have N197 := Fr.snoc X197 N196 (by omega : n0 ≤ b3)
     have sz197 : h197.size = H.size := W197.size
     have O197 : Old Z n0 h197 := O'.wr W197 (by omega)
     have ps199 : own_pse (cs.set i cv196) 0 ([] : List own_Pl) 0 := own_pse.set PS (by omega)
     refine ci (XS.iinc X197.here hx rfl (hb hby at_448) rfl (l' := (own_F pa pb pi cv1 cv2 b3 (vn cnt) ao lq1 kq0 kq1 cz47 cz48 dq0 dq1 [vn (ao + 2), vn kt, vn (kt + 1), vz, vz, vz, vz, vz, vz, vz, vz, vi ((Int32.ofNat i) + (1 : Int32)), uu, uu, uu])) rfl) ?_
     refine sc (A := (T197.setTop (mkF m 451 (own_F pa pb pi cv1 cv2 b3 (vn cnt) ao lq1 kq0 kq1 cz47 cz48 dq0 dq1 [vn (ao + 2), vn kt, vn (kt + 1), vz, vz, vz, vz, vz, vz, vz, vz, vi ((Int32.ofNat i) + (1 : Int32)), uu, uu, uu]) []))) ?_
     rw [own_p1]
     refine sc (A := (T197.setTop (mkF m 451 (own_F pa pb pi cv1 cv2 b3 (vn cnt) ao lq1 kq0 kq1 cz47 cz48 dq0 dq1 [vn (ao + 2), vn kt, vn (kt + 1), vz, vz, vz, vz, vz, vz, vz, vz, vn (i + 1), uu, uu, uu]) []))) ?_
     exact JD21 _ _ _ (cs.set i cv196)  kt (i + 1) X197 e197 N197 O197 CH197 V197 ok197 ps199 hn1 (own_tD1 hok (by omega) hD hn196)  hc_ (by omega) (by omega)
   have JK1 : ∀ (H : Heap) (T' : State) (ls : List Loc) (cs : List Int32) (i : Nat), (Stand p l e room_1 (s.setVm s.vm) m #[(.long pa), (.long pb), (.int pi)] below meth c T' ls 1 22) → (T'.heap = H) → (Fr n0 ls) → (Old Z n0 H) → (CHr Z own_EL s.vm s.heap s.vm H) → (Arv Z H b3 k3 .char (22 : Int32) (cs.map Value.int) (.int 0)) → (own_ok cs) → (own_pse cs 0 ([] : List own_Pl) 0) → (1 ≤ cnt) → (own_K cs 0 ao i) → (i ≤ ao + 4) → (ao + 2 < i) → own_gc p e below s Z own_EL (Q_rm0 Z pa pb pi dq kd Gc fm h0 n0) room_1.cells room_1.slots (T'.setTop (mkF m 386 (own_F pa pb pi cv1 cv2 b3 (vn cnt) ao lq1 kq0 kq1 cz47 cz48 dq0 dq1 [vn (ao + 2), vz, vz, vz, vz, vz, vz, vz, vz, vz, vz, vn i, uu, uu, uu]) [])) := by
    intro H T' ls cs i X' e' N' O' CH' V' hok PS hn1 hK b7_ b9_
    have hl22 := hok.1
    have ltb := olt V'.lt
    refine sc (A := (T'.setTop (mkF m 386 (own_F pa pb pi cv1 cv2 b3 (vn cnt) ao lq1 kq0 kq1 cz47 cz48 dq0 dq1 [vn (ao + 2), vz, vz, vz, vz, vz, vz, vz, vz, vz, vz, vn i, uu, uu, uu]) []))) ?_
    refine ci (XS.iload X'.here hx rfl (hb hby at_386) rfl) ?_
    refine ci (XS.istore X'.here hx rfl (hb hby at_388) rfl (l' := (own_F pa pb pi cv1 cv2 b3 (vn cnt) ao lq1 kq0 kq1 cz47 cz48 dq0 dq1 [vn (ao + 2), vn i, vz, vz, vz, vz, vz, vz, vz, vz, vz, vn i, uu, uu, uu])) rfl) ?_
    refine ci (XS.iload X'.here hx rfl (hb hby at_390) rfl) ?_
    by_cases hb392_200 : cz47 = (0 : Int32)
    ·refine ci (XS.ifYes X'.here hx rfl (pc0 := 392) (pc' := 455) rfl (hb hby at_392) rfl ((if0 _ _).trans (teq hb392_200).1) (by decide) (by decide)) ?_
     refine sc (A := (T'.setTop (mkF m 455 (own_F pa pb pi cv1 cv2 b3 (vn cnt) ao lq1 kq0 kq1 cz47 cz48 dq0 dq1 [vn (ao + 2), vn i, vz, vz, vz, vz, vz, vz, vz, vz, vz, vn i, uu, uu, uu]) []))) ?_
     exact JC1 _ _ _ cs  i false 0 0 i X' e' N' O' CH' V' hok PS hn1 (Or.inr ⟨rfl, hb392_200, rfl, hK⟩) (by omega) (by omega)
    ·refine ci (XS.ifNo X'.here hx rfl (hb hby at_392) rfl ((if0 _ _).trans (feq hb392_200).1)) ?_
     refine sc (A := (T'.setTop (mkF m 395 (own_F pa pb pi cv1 cv2 b3 (vn cnt) ao lq1 kq0 kq1 cz47 cz48 dq0 dq1 [vn (ao + 2), vn i, vz, vz, vz, vz, vz, vz, vz, vz, vz, vn i, uu, uu, uu]) []))) ?_
     refine ci (XS.aload X'.here hx rfl (hb hby at_395) rfl rfl) ?_
     refine ci (XS.iload X'.here hx rfl (hb hby at_397) rfl) ?_
     refine ci (XS.bipush X'.here hx rfl (hb hby at_399)) ?_
     refine sc (A := (T'.setTop (mkF m 401 (own_F pa pb pi cv1 cv2 b3 (vn cnt) ao lq1 kq0 kq1 cz47 cz48 dq0 dq1 [vn (ao + 2), vn i, vz, vz, vz, vz, vz, vz, vz, vz, vz, vn i, uu, uu, uu]) [(.int 58), (.int (Int32.ofNat i)), (.ref b3)]))) ?_
     obtain ⟨cl201, Ar201, q201, S201, Ng201, H201, G201⟩ := id V'
     have hq201 := hok.1
     obtain ⟨T201, h201, X201, e201, W201, st201⟩ := stC X' hx hZ e' Ar201 (j := (Int32.ofNat i)) (inb_of S201 (own_inn (i := i) (m := 22) (by omega) (by omega))) (g := (mkF m 401 (own_F pa pb pi cv1 cv2 b3 (vn cnt) ao lq1 kq0 kq1 cz47 cz48 dq0 dq1 [vn (ao + 2), vn i, vz, vz, vz, vz, vz, vz, vz, vz, vz, vn i, uu, uu, uu]) [(.int 58), (.int (Int32.ofNat i)), (.ref b3)])) rfl rfl (hb hby at_401)
     have V201 : Arv Z h201 b3 k3 .char (22 : Int32) ((cs.set i (58 : Int32)).map Value.int) (.int 0) := by have q := Arv.set Ar201 q201 S201 Ng201 H201 G201 (fits_nar_char _) W201 i (own_ncl (by omega)) (by rw [List.length_map]; omega); rw [own_nar (by decide : own_ch (58 : Int32))] at q; rw [List.map_set]; exact q
     have ok201 : own_ok (cs.set i (58 : Int32)) := own_ok.set hok (by decide : own_ch (58 : Int32))
     refine oc st201 ?_
     obtain ⟨cl202, Ar202, q202, S202, Ng202, H202, G202⟩ := id V'
     have CHs201 := CHr.wr W201 (Safe.arr hZ.alike Ar202 (by decide)) CH'.1
     have CH201 := CH'.trans CHs201
     have N201 := Fr.snoc X201 N' (by omega : n0 ≤ b3)
     have sz201 : h201.size = H.size := W201.size
     have O201 : Old Z n0 h201 := O'.wr W201 (by omega)
     have ps203 : own_pse (cs.set i (58 : Int32)) 0 ([] : List own_Pl) 0 := own_pse.set PS (by omega)
     refine ci (XS.iinc X201.here hx rfl (hb hby at_402) rfl (l' := (own_F pa pb pi cv1 cv2 b3 (vn cnt) ao lq1 kq0 kq1 cz47 cz48 dq0 dq1 [vn (ao + 2), vn i, vz, vz, vz, vz, vz, vz, vz, vz, vz, vi ((Int32.ofNat i) + (1 : Int32)), uu, uu, uu])) rfl) ?_
     refine sc (A := (T201.setTop (mkF m 405 (own_F pa pb pi cv1 cv2 b3 (vn cnt) ao lq1 kq0 kq1 cz47 cz48 dq0 dq1 [vn (ao + 2), vn i, vz, vz, vz, vz, vz, vz, vz, vz, vz, vi ((Int32.ofNat i) + (1 : Int32)), uu, uu, uu]) []))) ?_
     rw [own_p1]
     refine sc (A := (T201.setTop (mkF m 405 (own_F pa pb pi cv1 cv2 b3 (vn cnt) ao lq1 kq0 kq1 cz47 cz48 dq0 dq1 [vn (ao + 2), vn i, vz, vz, vz, vz, vz, vz, vz, vz, vz, vn (i + 1), uu, uu, uu]) []))) ?_
     refine ci (XS.iload X201.here hx rfl (hb hby at_405) rfl) ?_
     refine ci (XS.istore X201.here hx rfl (hb hby at_407) rfl (l' := (own_F pa pb pi cv1 cv2 b3 (vn cnt) ao lq1 kq0 kq1 cz47 cz48 dq0 dq1 [vn (ao + 2), vn i, vn (i + 1), vz, vz, vz, vz, vz, vz, vz, vz, vn (i + 1), uu, uu, uu])) rfl) ?_
     refine ci (XS.iload X201.here hx rfl (hb hby at_409) rfl) ?_
     refine ci (XS.iconst X201.here hx rfl (hb hby at_411)) ?_
     by_cases hb412_204 : dq0 < (1 : Int32)
     ·refine ci (XS.icmpYes X201.here hx rfl (pc0 := 412) (pc' := 430) rfl (hb hby at_412) rfl (tlt hb412_204).1 (by decide) (by decide)) ?_
      refine sc (A := (T201.setTop (mkF m 430 (own_F pa pb pi cv1 cv2 b3 (vn cnt) ao lq1 kq0 kq1 cz47 cz48 dq0 dq1 [vn (ao + 2), vn i, vn (i + 1), vz, vz, vz, vz, vz, vz, vz, vz, vn (i + 1), uu, uu, uu]) []))) ?_
      exact JD11 _ _ _ (cs.set i (58 : Int32))  i (i + 1) X201 e201 N201 O201 CH201 V201 ok201 ps203 hn1 (own_tD0 hok (by omega) hK) hb392_200 (by omega) (by omega)
     ·refine ci (XS.icmpNo X201.here hx rfl (hb hby at_412) rfl (flt hb412_204).1) ?_
      refine sc (A := (T201.setTop (mkF m 415 (own_F pa pb pi cv1 cv2 b3 (vn cnt) ao lq1 kq0 kq1 cz47 cz48 dq0 dq1 [vn (ao + 2), vn i, vn (i + 1), vz, vz, vz, vz, vz, vz, vz, vz, vn (i + 1), uu, uu, uu]) []))) ?_
      refine ci (XS.aload X201.here hx rfl (hb hby at_415) rfl rfl) ?_
      refine ci (XS.iload X201.here hx rfl (hb hby at_417) rfl) ?_
      refine ci (XS.lloadN X201.here hx rfl (hb hby at_419) rfl) ?_
      refine ci (XS.bipush X201.here hx rfl (hb hby at_420)) ?_
      refine ci (XS.lushr X201.here hx rfl (hb hby at_422) rfl) ?_
      refine sc (A := (T201.setTop (mkF m 423 (own_F pa pb pi cv1 cv2 b3 (vn cnt) ao lq1 kq0 kq1 cz47 cz48 dq0 dq1 [vn (ao + 2), vn i, vn (i + 1), vz, vz, vz, vz, vz, vz, vz, vz, vn (i + 1), uu, uu, uu]) [(.long ((pb.toUInt64 >>> ((16 : Int32) &&& 0x3f).toInt64.toUInt64).toInt64)), (.int (Int32.ofNat (i + 1))), (.ref b3)]))) ?_
      obtain ⟨_, T205, Lc205, X205, hQ205, st205⟩ := own_c1 X201 <| Jvm.LawKit.callS X201 hx (y := ym64) hown (mvT hZ (hW 327 _ rfl)) (mvT hZ (hW 328 _ rfl)) (mvT hZ (hW 2 _ rfl)) (mvT hZ (hW 329 _ rfl)) (by decide) (backOf (W := 2) (rm_defc l Z a0 hw [] ((pb.toUInt64 >>> ((16 : Int32) &&& 0x3f).toInt64.toUInt64).toInt64) h201 n0 O201 ) hZ (hW 329 _ rfl) (hW 2 _ rfl) (by decide) (by decide)) (g := (mkF m 423 (own_F pa pb pi cv1 cv2 b3 (vn cnt) ao lq1 kq0 kq1 cz47 cz48 dq0 dq1 [vn (ao + 2), vn i, vn (i + 1), vz, vz, vz, vz, vz, vz, vz, vz, vn (i + 1), uu, uu, uu]) [(.long ((pb.toUInt64 >>> ((16 : Int32) &&& 0x3f).toInt64.toUInt64).toInt64)), (.int (Int32.ofNat (i + 1))), (.ref b3)])) rfl (by rw [hml]; rfl) (argsL := [(.long ((pb.toUInt64 >>> ((16 : Int32) &&& 0x3f).toInt64.toUInt64).toInt64))]) (rest := [(.int (Int32.ofNat (i + 1))), (.ref b3)]) (lenOf pd_35 rfl) rfl (Nat.le_of_eq rfl) (hb hby at_423) (fun _ _ => ⟨rfl, e201, (by decide : 1 + 0 ≤ _), (by decide : 22 + 0 ≤ _)⟩)
      obtain ⟨cv205, rfl, hv205, hn205, Nq205, eh205⟩ := hQ205
      have N205 := Fr.app N201 Nq205
      refine oc st205 ?_
      refine sc (A := (T205.setTop (mkF m 426 (own_F pa pb pi cv1 cv2 b3 (vn cnt) ao lq1 kq0 kq1 cz47 cz48 dq0 dq1 [vn (ao + 2), vn i, vn (i + 1), vz, vz, vz, vz, vz, vz, vz, vz, vn (i + 1), uu, uu, uu]) [(.int cv205), (.int (Int32.ofNat (i + 1))), (.ref b3)]))) ?_
      obtain ⟨cl206, Ar206, q206, S206, Ng206, H206, G206⟩ := id V201
      have hq206 := ok201.1
      obtain ⟨T206, h206, X206, e206, W206, st206⟩ := stC X205 hx hZ eh205 Ar206 (j := (Int32.ofNat (i + 1))) (inb_of S206 (own_inn (i := (i + 1)) (m := 22) (by omega) (by omega))) (g := (mkF m 426 (own_F pa pb pi cv1 cv2 b3 (vn cnt) ao lq1 kq0 kq1 cz47 cz48 dq0 dq1 [vn (ao + 2), vn i, vn (i + 1), vz, vz, vz, vz, vz, vz, vz, vz, vn (i + 1), uu, uu, uu]) [(.int cv205), (.int (Int32.ofNat (i + 1))), (.ref b3)])) rfl rfl (hb hby at_426)
      have V206 : Arv Z h206 b3 k3 .char (22 : Int32) (((cs.set i (58 : Int32)).set (i + 1) cv205).map Value.int) (.int 0) := by have q := Arv.set Ar206 q206 S206 Ng206 H206 G206 (fits_nar_char _) W206 (i + 1) (own_ncl (by omega)) (by rw [List.length_map]; omega); rw [own_nar hv205] at q; rw [List.map_set]; exact q
      have ok206 : own_ok ((cs.set i (58 : Int32)).set (i + 1) cv205) := own_ok.set ok201 hv205
      refine oc st206 ?_
      obtain ⟨cl207, Ar207, q207, S207, Ng207, H207, G207⟩ := id V201
      have CHs206 := CHr.wr W206 (Safe.arr hZ.alike Ar207 (by decide)) CH201.1
      have CH206 := CH201.trans CHs206
      have N206 := Fr.snoc X206 N205 (by omega : n0 ≤ b3)
      have sz206 : h206.size = h201.size := W206.size
      have O206 : Old Z n0 h206 := O201.wr W206 (by omega)
      have ps208 : own_pse ((cs.set i (58 : Int32)).set (i + 1) cv205) 0 ([] : List own_Pl) 0 := own_pse.set ps203 (by omega)
      refine ci (XS.iinc X206.here hx rfl (hb hby at_427) rfl (l' := (own_F pa pb pi cv1 cv2 b3 (vn cnt) ao lq1 kq0 kq1 cz47 cz48 dq0 dq1 [vn (ao + 2), vn i, vn (i + 1), vz, vz, vz, vz, vz, vz, vz, vz, .val (.int ((Int32.ofNat (i + 1)) + (1 : Int32))), uu, uu, uu])) rfl) ?_
      refine sc (A := (T206.setTop (mkF m 430 (own_F pa pb pi cv1 cv2 b3 (vn cnt) ao lq1 kq0 kq1 cz47 cz48 dq0 dq1 [vn (ao + 2), vn i, vn (i + 1), vz, vz, vz, vz, vz, vz, vz, vz, .val (.int ((Int32.ofNat (i + 1)) + (1 : Int32))), uu, uu, uu]) []))) ?_
      rw [own_p1]
      refine sc (A := (T206.setTop (mkF m 430 (own_F pa pb pi cv1 cv2 b3 (vn cnt) ao lq1 kq0 kq1 cz47 cz48 dq0 dq1 [vn (ao + 2), vn i, vn (i + 1), vz, vz, vz, vz, vz, vz, vz, vz, .val (.int (Int32.ofNat ((i + 1) + 1))), uu, uu, uu]) []))) ?_
      exact JD11 _ _ _ ((cs.set i (58 : Int32)).set (i + 1) cv205)  i ((i + 1) + 1) X206 e206 N206 O206 CH206 V206 ok206 ps208 hn1 (own_tD1 (own_ok.set hok (by decide)) (by omega) (own_tD0 hok (by omega) hK) hn205) hb392_200 (by omega) (by omega)
   have J320 : ∀ (H : Heap) (T' : State) (ls : List Loc) (cs : List Int32), (Stand p l e room_1 (s.setVm s.vm) m #[(.long pa), (.long pb), (.int pi)] below meth c T' ls 1 22) → (T'.heap = H) → (Fr n0 ls) → (Old Z n0 H) → (CHr Z own_EL s.vm s.heap s.vm H) → (Arv Z H b3 k3 .char (22 : Int32) (cs.map Value.int) (.int 0)) → (own_ok cs) → (own_nb cs 0 22) → own_gc p e below s Z own_EL (Q_rm0 Z pa pb pi dq kd Gc fm h0 n0) room_1.cells room_1.slots (T'.setTop (mkF m 320 (own_F pa pb pi cv1 cv2 b3 (vn cnt) ao lq1 kq0 kq1 cz47 cz48 dq0 dq1 [vz, vz, vz, vz, vz, vz, vz, vz, vz, vz, vz, uu, uu, uu, uu]) [])) := by
    intro H T' ls cs X' e' N' O' CH' V' hok NB
    have hl22 := hok.1
    have ltb := olt V'.lt
    refine sc (A := (T'.setTop (mkF m 320 (own_F pa pb pi cv1 cv2 b3 (vn cnt) ao lq1 kq0 kq1 cz47 cz48 dq0 dq1 [vz, vz, vz, vz, vz, vz, vz, vz, vz, vz, vz, uu, uu, uu, uu]) []))) ?_
    refine ci (XS.iload X'.here hx rfl (hb hby at_320) rfl) ?_
    refine ci (XS.istore X'.here hx rfl (hb hby at_322) rfl (l' := (own_F pa pb pi cv1 cv2 b3 (vn cnt) ao lq1 kq0 kq1 cz47 cz48 dq0 dq1 [vz, vz, vz, vz, vz, vz, vz, vz, vz, vz, vz, vn ao, uu, uu, uu])) rfl) ?_
    refine ci (XS.iload X'.here hx rfl (hb hby at_324) rfl) ?_
    refine ci (XS.iconst X'.here hx rfl (hb hby at_326)) ?_
    by_cases hb327_209 : (Int32.ofNat cnt) < (1 : Int32)
    ·refine ci (XS.icmpYes X'.here hx rfl (pc0 := 327) (pc' := 515) rfl (hb hby at_327) rfl (tlt hb327_209).1 (by decide) (by decide)) ?_
     refine sc (A := (T'.setTop (mkF m 515 (own_F pa pb pi cv1 cv2 b3 (vn cnt) ao lq1 kq0 kq1 cz47 cz48 dq0 dq1 [vz, vz, vz, vz, vz, vz, vz, vz, vz, vz, vz, vn ao, uu, uu, uu]) []))) ?_
     refine ci (XS.iload X'.here hx rfl (hb hby at_515) rfl) ?_
     refine ci (XS.iconst X'.here hx rfl (hb hby at_517)) ?_
     have hb518_210 : ¬ ((Int32.ofNat cnt) = (2 : Int32)) := (fun u => by have u1 := (own_neq (b := 2) (by omega) (by omega)).mp u; have u2 := (own_nlt (b := 1) (by omega) (by omega)).mp hb327_209; omega)
     refine ci (XS.icmpYes X'.here hx rfl (pc0 := 518) (pc' := 663) rfl (hb hby at_518) rfl (feq hb518_210).2 (by decide) (by decide)) ?_
     refine sc (A := (T'.setTop (mkF m 663 (own_F pa pb pi cv1 cv2 b3 (vn cnt) ao lq1 kq0 kq1 cz47 cz48 dq0 dq1 [vz, vz, vz, vz, vz, vz, vz, vz, vz, vz, vz, vn ao, uu, uu, uu]) []))) ?_
     exact J663_0 _ _ _ cs X' e' N' O' CH' V' hok NB (by have u := (own_nlt (b := 1) (by omega) (by omega)).mp hb327_209; omega)
    ·refine ci (XS.icmpNo X'.here hx rfl (hb hby at_327) rfl (flt hb327_209).1) ?_
     refine sc (A := (T'.setTop (mkF m 330 (own_F pa pb pi cv1 cv2 b3 (vn cnt) ao lq1 kq0 kq1 cz47 cz48 dq0 dq1 [vz, vz, vz, vz, vz, vz, vz, vz, vz, vz, vz, vn ao, uu, uu, uu]) []))) ?_
     have hn1 : 1 ≤ cnt := Nat.le_of_not_lt (fun u => hb327_209 ((own_nlt (b := 1) (by omega) (by omega)).mpr u))
     have PS0 : own_pse cs 0 ([] : List own_Pl) 0 := rfl
     refine ci (XS.aload X'.here hx rfl (hb hby at_330) rfl rfl) ?_
     refine ci (XS.iload X'.here hx rfl (hb hby at_332) rfl) ?_
     refine ci (XS.bipush X'.here hx rfl (hb hby at_334)) ?_
     refine sc (A := (T'.setTop (mkF m 336 (own_F pa pb pi cv1 cv2 b3 (vn cnt) ao lq1 kq0 kq1 cz47 cz48 dq0 dq1 [vz, vz, vz, vz, vz, vz, vz, vz, vz, vz, vz, vn ao, uu, uu, uu]) [(.int 36), (.int (Int32.ofNat ao)), (.ref b3)]))) ?_
     obtain ⟨cl211, Ar211, q211, S211, Ng211, H211, G211⟩ := id V'
     have hq211 := hok.1
     obtain ⟨T211, h211, X211, e211, W211, st211⟩ := stC X' hx hZ e' Ar211 (j := (Int32.ofNat ao)) (inb_of S211 (own_inn (i := ao) (m := 22) (by omega) (by omega))) (g := (mkF m 336 (own_F pa pb pi cv1 cv2 b3 (vn cnt) ao lq1 kq0 kq1 cz47 cz48 dq0 dq1 [vz, vz, vz, vz, vz, vz, vz, vz, vz, vz, vz, vn ao, uu, uu, uu]) [(.int 36), (.int (Int32.ofNat ao)), (.ref b3)])) rfl rfl (hb hby at_336)
     have V211 : Arv Z h211 b3 k3 .char (22 : Int32) ((cs.set ao (36 : Int32)).map Value.int) (.int 0) := by have q := Arv.set Ar211 q211 S211 Ng211 H211 G211 (fits_nar_char _) W211 ao (own_ncl (by omega)) (by rw [List.length_map]; omega); rw [own_nar (by decide : own_ch (36 : Int32))] at q; rw [List.map_set]; exact q
     have ok211 : own_ok (cs.set ao (36 : Int32)) := own_ok.set hok (by decide : own_ch (36 : Int32))
     refine oc st211 ?_
     obtain ⟨cl212, Ar212, q212, S212, Ng212, H212, G212⟩ := id V'
     have CHs211 := CHr.wr W211 (Safe.arr hZ.alike Ar212 (by decide)) CH'.1
     have CH211 := CH'.trans CHs211
     have N211 := Fr.snoc X211 N' (by omega : n0 ≤ b3)
     have sz211 : h211.size = H.size := W211.size
     have O211 : Old Z n0 h211 := O'.wr W211 (by omega)
     have ps213 : own_pse (cs.set ao (36 : Int32)) 0 ([] : List own_Pl) 0 := own_pse.set PS0 (by omega)
     refine ci (XS.aload X211.here hx rfl (hb hby at_337) rfl rfl) ?_
     refine ci (XS.iload X211.here hx rfl (hb hby at_339) rfl) ?_
     refine ci (XS.iconst X211.here hx rfl (hb hby at_341)) ?_
     refine ci (XS.iadd X211.here hx rfl (hb hby at_342) rfl) ?_
     refine sc (A := (T211.setTop (mkF m 343 (own_F pa pb pi cv1 cv2 b3 (vn cnt) ao lq1 kq0 kq1 cz47 cz48 dq0 dq1 [vz, vz, vz, vz, vz, vz, vz, vz, vz, vz, vz, vn ao, uu, uu, uu]) [(.int ((Int32.ofNat ao) + (1 : Int32))), (.ref b3)]))) ?_
     rw [own_p1]
     refine sc (A := (T211.setTop (mkF m 343 (own_F pa pb pi cv1 cv2 b3 (vn cnt) ao lq1 kq0 kq1 cz47 cz48 dq0 dq1 [vz, vz, vz, vz, vz, vz, vz, vz, vz, vz, vz, vn ao, uu, uu, uu]) [(.int (Int32.ofNat (ao + 1))), (.ref b3)]))) ?_
     refine ci (XS.bipush X211.here hx rfl (hb hby at_343)) ?_
     refine sc (A := (T211.setTop (mkF m 345 (own_F pa pb pi cv1 cv2 b3 (vn cnt) ao lq1 kq0 kq1 cz47 cz48 dq0 dq1 [vz, vz, vz, vz, vz, vz, vz, vz, vz, vz, vz, vn ao, uu, uu, uu]) [(.int 123), (.int (Int32.ofNat (ao + 1))), (.ref b3)]))) ?_
     obtain ⟨cl214, Ar214, q214, S214, Ng214, H214, G214⟩ := id V211
     have hq214 := ok211.1
     obtain ⟨T214, h214, X214, e214, W214, st214⟩ := stC X211 hx hZ e211 Ar214 (j := (Int32.ofNat (ao + 1))) (inb_of S214 (own_inn (i := (ao + 1)) (m := 22) (by omega) (by omega))) (g := (mkF m 345 (own_F pa pb pi cv1 cv2 b3 (vn cnt) ao lq1 kq0 kq1 cz47 cz48 dq0 dq1 [vz, vz, vz, vz, vz, vz, vz, vz, vz, vz, vz, vn ao, uu, uu, uu]) [(.int 123), (.int (Int32.ofNat (ao + 1))), (.ref b3)])) rfl rfl (hb hby at_345)
     have V214 : Arv Z h214 b3 k3 .char (22 : Int32) (((cs.set ao (36 : Int32)).set (ao + 1) (123 : Int32)).map Value.int) (.int 0) := by have q := Arv.set Ar214 q214 S214 Ng214 H214 G214 (fits_nar_char _) W214 (ao + 1) (own_ncl (by omega)) (by rw [List.length_map]; omega); rw [own_nar (by decide : own_ch (123 : Int32))] at q; rw [List.map_set]; exact q
     have ok214 : own_ok ((cs.set ao (36 : Int32)).set (ao + 1) (123 : Int32)) := own_ok.set ok211 (by decide : own_ch (123 : Int32))
     refine oc st214 ?_
     obtain ⟨cl215, Ar215, q215, S215, Ng215, H215, G215⟩ := id V211
     have CHs214 := CHr.wr W214 (Safe.arr hZ.alike Ar215 (by decide)) CH211.1
     have CH214 := CH211.trans CHs214
     have N214 := Fr.snoc X214 N211 (by omega : n0 ≤ b3)
     have sz214 : h214.size = h211.size := W214.size
     have O214 : Old Z n0 h214 := O211.wr W214 (by omega)
     have ps216 : own_pse ((cs.set ao (36 : Int32)).set (ao + 1) (123 : Int32)) 0 ([] : List own_Pl) 0 := own_pse.set ps213 (by omega)
     refine ci (XS.iinc X214.here hx rfl (hb hby at_346) rfl (l' := (own_F pa pb pi cv1 cv2 b3 (vn cnt) ao lq1 kq0 kq1 cz47 cz48 dq0 dq1 [vz, vz, vz, vz, vz, vz, vz, vz, vz, vz, vz, vi ((Int32.ofNat ao) + (2 : Int32)), uu, uu, uu])) rfl) ?_
     refine sc (A := (T214.setTop (mkF m 349 (own_F pa pb pi cv1 cv2 b3 (vn cnt) ao lq1 kq0 kq1 cz47 cz48 dq0 dq1 [vz, vz, vz, vz, vz, vz, vz, vz, vz, vz, vz, vi ((Int32.ofNat ao) + (2 : Int32)), uu, uu, uu]) []))) ?_
     rw [own_p2]
     refine sc (A := (T214.setTop (mkF m 349 (own_F pa pb pi cv1 cv2 b3 (vn cnt) ao lq1 kq0 kq1 cz47 cz48 dq0 dq1 [vz, vz, vz, vz, vz, vz, vz, vz, vz, vz, vz, vn (ao + 2), uu, uu, uu]) []))) ?_
     refine ci (XS.iload X214.here hx rfl (hb hby at_349) rfl) ?_
     refine ci (XS.istore X214.here hx rfl (hb hby at_351) rfl (l' := (own_F pa pb pi cv1 cv2 b3 (vn cnt) ao lq1 kq0 kq1 cz47 cz48 dq0 dq1 [vn (ao + 2), vz, vz, vz, vz, vz, vz, vz, vz, vz, vz, vn (ao + 2), uu, uu, uu])) rfl) ?_
     refine ci (XS.aload X214.here hx rfl (hb hby at_353) rfl rfl) ?_
     refine ci (XS.iload X214.here hx rfl (hb hby at_355) rfl) ?_
     refine ci (XS.lloadN X214.here hx rfl (hb hby at_357) rfl) ?_
     refine sc (A := (T214.setTop (mkF m 358 (own_F pa pb pi cv1 cv2 b3 (vn cnt) ao lq1 kq0 kq1 cz47 cz48 dq0 dq1 [vn (ao + 2), vz, vz, vz, vz, vz, vz, vz, vz, vz, vz, vn (ao + 2), uu, uu, uu]) [(.long pb), (.int (Int32.ofNat (ao + 2))), (.ref b3)]))) ?_
     obtain ⟨_, T217, Lc217, X217, hQ217, st217⟩ := own_c1 X214 <| Jvm.LawKit.callS X214 hx (y := ym41) hown (mvT hZ (hW 225 _ rfl)) (mvT hZ (hW 226 _ rfl)) (mvT hZ (hW 2 _ rfl)) (mvT hZ (hW 227 _ rfl)) (by decide) (backOf (W := 2) (rm_keyc l Z a0 hw [] pb h214 n0 O214 ) hZ (hW 227 _ rfl) (hW 2 _ rfl) (by decide) (by decide)) (g := (mkF m 358 (own_F pa pb pi cv1 cv2 b3 (vn cnt) ao lq1 kq0 kq1 cz47 cz48 dq0 dq1 [vn (ao + 2), vz, vz, vz, vz, vz, vz, vz, vz, vz, vz, vn (ao + 2), uu, uu, uu]) [(.long pb), (.int (Int32.ofNat (ao + 2))), (.ref b3)])) rfl (by rw [hml]; rfl) (argsL := [(.long pb)]) (rest := [(.int (Int32.ofNat (ao + 2))), (.ref b3)]) (lenOf pd_35 rfl) rfl (Nat.le_of_eq rfl) (hb hby at_358) (fun _ _ => ⟨rfl, e214, (by decide : 1 + 0 ≤ _), (by decide : 22 + 0 ≤ _)⟩)
     obtain ⟨cv217, rfl, hv217, hn217, Nq217, eh217⟩ := hQ217
     have N217 := Fr.app N214 Nq217
     refine oc st217 ?_
     refine sc (A := (T217.setTop (mkF m 361 (own_F pa pb pi cv1 cv2 b3 (vn cnt) ao lq1 kq0 kq1 cz47 cz48 dq0 dq1 [vn (ao + 2), vz, vz, vz, vz, vz, vz, vz, vz, vz, vz, vn (ao + 2), uu, uu, uu]) [(.int cv217), (.int (Int32.ofNat (ao + 2))), (.ref b3)]))) ?_
     obtain ⟨cl218, Ar218, q218, S218, Ng218, H218, G218⟩ := id V214
     have hq218 := ok214.1
     obtain ⟨T218, h218, X218, e218, W218, st218⟩ := stC X217 hx hZ eh217 Ar218 (j := (Int32.ofNat (ao + 2))) (inb_of S218 (own_inn (i := (ao + 2)) (m := 22) (by omega) (by omega))) (g := (mkF m 361 (own_F pa pb pi cv1 cv2 b3 (vn cnt) ao lq1 kq0 kq1 cz47 cz48 dq0 dq1 [vn (ao + 2), vz, vz, vz, vz, vz, vz, vz, vz, vz, vz, vn (ao + 2), uu, uu, uu]) [(.int cv217), (.int (Int32.ofNat (ao + 2))), (.ref b3)])) rfl rfl (hb hby at_361)
     have V218 : Arv Z h218 b3 k3 .char (22 : Int32) ((((cs.set ao (36 : Int32)).set (ao + 1) (123 : Int32)).set (ao + 2) cv217).map Value.int) (.int 0) := by have q := Arv.set Ar218 q218 S218 Ng218 H218 G218 (fits_nar_char _) W218 (ao + 2) (own_ncl (by omega)) (by rw [List.length_map]; omega); rw [own_nar hv217] at q; rw [List.map_set]; exact q
     have ok218 : own_ok (((cs.set ao (36 : Int32)).set (ao + 1) (123 : Int32)).set (ao + 2) cv217) := own_ok.set ok214 hv217
     refine oc st218 ?_
     obtain ⟨cl219, Ar219, q219, S219, Ng219, H219, G219⟩ := id V214
     have CHs218 := CHr.wr W218 (Safe.arr hZ.alike Ar219 (by decide)) CH214.1
     have CH218 := CH214.trans CHs218
     have N218 := Fr.snoc X218 N217 (by omega : n0 ≤ b3)
     have sz218 : h218.size = h214.size := W218.size
     have O218 : Old Z n0 h218 := O214.wr W218 (by omega)
     have ps220 : own_pse (((cs.set ao (36 : Int32)).set (ao + 1) (123 : Int32)).set (ao + 2) cv217) 0 ([] : List own_Pl) 0 := own_pse.set ps216 (by omega)
     refine ci (XS.iinc X218.here hx rfl (hb hby at_362) rfl (l' := (own_F pa pb pi cv1 cv2 b3 (vn cnt) ao lq1 kq0 kq1 cz47 cz48 dq0 dq1 [vn (ao + 2), vz, vz, vz, vz, vz, vz, vz, vz, vz, vz, .val (.int ((Int32.ofNat (ao + 2)) + (1 : Int32))), uu, uu, uu])) rfl) ?_
     refine sc (A := (T218.setTop (mkF m 365 (own_F pa pb pi cv1 cv2 b3 (vn cnt) ao lq1 kq0 kq1 cz47 cz48 dq0 dq1 [vn (ao + 2), vz, vz, vz, vz, vz, vz, vz, vz, vz, vz, .val (.int ((Int32.ofNat (ao + 2)) + (1 : Int32))), uu, uu, uu]) []))) ?_
     rw [own_p1]
     refine sc (A := (T218.setTop (mkF m 365 (own_F pa pb pi cv1 cv2 b3 (vn cnt) ao lq1 kq0 kq1 cz47 cz48 dq0 dq1 [vn (ao + 2), vz, vz, vz, vz, vz, vz, vz, vz, vz, vz, .val (.int (Int32.ofNat ((ao + 2) + 1))), uu, uu, uu]) []))) ?_
     refine ci (XS.iload X218.here hx rfl (hb hby at_365) rfl) ?_
     refine ci (XS.iconst X218.here hx rfl (hb hby at_367)) ?_
     by_cases hb368_221 : kq0 = (2 : Int32)
     ·refine ci (XS.icmpNo X218.here hx rfl (hb hby at_368) rfl (teq hb368_221).2) ?_
      refine sc (A := (T218.setTop (mkF m 371 (own_F pa pb pi cv1 cv2 b3 (vn cnt) ao lq1 kq0 kq1 cz47 cz48 dq0 dq1 [vn (ao + 2), vz, vz, vz, vz, vz, vz, vz, vz, vz, vz, .val (.int (Int32.ofNat ((ao + 2) + 1))), uu, uu, uu]) []))) ?_
      refine ci (XS.aload X218.here hx rfl (hb hby at_371) rfl rfl) ?_
      refine ci (XS.iload X218.here hx rfl (hb hby at_373) rfl) ?_
      refine ci (XS.lloadN X218.here hx rfl (hb hby at_375) rfl) ?_
      refine ci (XS.bipush X218.here hx rfl (hb hby at_376)) ?_
      refine ci (XS.lushr X218.here hx rfl (hb hby at_378) rfl) ?_
      refine sc (A := (T218.setTop (mkF m 379 (own_F pa pb pi cv1 cv2 b3 (vn cnt) ao lq1 kq0 kq1 cz47 cz48 dq0 dq1 [vn (ao + 2), vz, vz, vz, vz, vz, vz, vz, vz, vz, vz, .val (.int (Int32.ofNat ((ao + 2) + 1))), uu, uu, uu]) [(.long ((pb.toUInt64 >>> ((8 : Int32) &&& 0x3f).toInt64.toUInt64).toInt64)), (.int (Int32.ofNat ((ao + 2) + 1))), (.ref b3)]))) ?_
      obtain ⟨_, T222, Lc222, X222, hQ222, st222⟩ := own_c1 X218 <| Jvm.LawKit.callS X218 hx (y := ym41) hown (mvT hZ (hW 225 _ rfl)) (mvT hZ (hW 226 _ rfl)) (mvT hZ (hW 2 _ rfl)) (mvT hZ (hW 227 _ rfl)) (by decide) (backOf (W := 2) (rm_keyc l Z a0 hw [] ((pb.toUInt64 >>> ((8 : Int32) &&& 0x3f).toInt64.toUInt64).toInt64) h218 n0 O218 ) hZ (hW 227 _ rfl) (hW 2 _ rfl) (by decide) (by decide)) (g := (mkF m 379 (own_F pa pb pi cv1 cv2 b3 (vn cnt) ao lq1 kq0 kq1 cz47 cz48 dq0 dq1 [vn (ao + 2), vz, vz, vz, vz, vz, vz, vz, vz, vz, vz, .val (.int (Int32.ofNat ((ao + 2) + 1))), uu, uu, uu]) [(.long ((pb.toUInt64 >>> ((8 : Int32) &&& 0x3f).toInt64.toUInt64).toInt64)), (.int (Int32.ofNat ((ao + 2) + 1))), (.ref b3)])) rfl (by rw [hml]; rfl) (argsL := [(.long ((pb.toUInt64 >>> ((8 : Int32) &&& 0x3f).toInt64.toUInt64).toInt64))]) (rest := [(.int (Int32.ofNat ((ao + 2) + 1))), (.ref b3)]) (lenOf pd_35 rfl) rfl (Nat.le_of_eq rfl) (hb hby at_379) (fun _ _ => ⟨rfl, e218, (by decide : 1 + 0 ≤ _), (by decide : 22 + 0 ≤ _)⟩)
      obtain ⟨cv222, rfl, hv222, hn222, Nq222, eh222⟩ := hQ222
      have N222 := Fr.app N218 Nq222
      refine oc st222 ?_
      refine sc (A := (T222.setTop (mkF m 382 (own_F pa pb pi cv1 cv2 b3 (vn cnt) ao lq1 kq0 kq1 cz47 cz48 dq0 dq1 [vn (ao + 2), vz, vz, vz, vz, vz, vz, vz, vz, vz, vz, .val (.int (Int32.ofNat ((ao + 2) + 1))), uu, uu, uu]) [(.int cv222), (.int (Int32.ofNat ((ao + 2) + 1))), (.ref b3)]))) ?_
      obtain ⟨cl223, Ar223, q223, S223, Ng223, H223, G223⟩ := id V218
      have hq223 := ok218.1
      obtain ⟨T223, h223, X223, e223, W223, st223⟩ := stC X222 hx hZ eh222 Ar223 (j := (Int32.ofNat ((ao + 2) + 1))) (inb_of S223 (own_inn (i := ((ao + 2) + 1)) (m := 22) (by omega) (by omega))) (g := (mkF m 382 (own_F pa pb pi cv1 cv2 b3 (vn cnt) ao lq1 kq0 kq1 cz47 cz48 dq0 dq1 [vn (ao + 2), vz, vz, vz, vz, vz, vz, vz, vz, vz, vz, .val (.int (Int32.ofNat ((ao + 2) + 1))), uu, uu, uu]) [(.int cv222), (.int (Int32.ofNat ((ao + 2) + 1))), (.ref b3)])) rfl rfl (hb hby at_382)
      have V223 : Arv Z h223 b3 k3 .char (22 : Int32) (((((cs.set ao (36 : Int32)).set (ao + 1) (123 : Int32)).set (ao + 2) cv217).set ((ao + 2) + 1) cv222).map Value.int) (.int 0) := by have q := Arv.set Ar223 q223 S223 Ng223 H223 G223 (fits_nar_char _) W223 ((ao + 2) + 1) (own_ncl (by omega)) (by rw [List.length_map]; omega); rw [own_nar hv222] at q; rw [List.map_set]; exact q
      have ok223 : own_ok ((((cs.set ao (36 : Int32)).set (ao + 1) (123 : Int32)).set (ao + 2) cv217).set ((ao + 2) + 1) cv222) := own_ok.set ok218 hv222
      refine oc st223 ?_
      obtain ⟨cl224, Ar224, q224, S224, Ng224, H224, G224⟩ := id V218
      have CHs223 := CHr.wr W223 (Safe.arr hZ.alike Ar224 (by decide)) CH218.1
      have CH223 := CH218.trans CHs223
      have N223 := Fr.snoc X223 N222 (by omega : n0 ≤ b3)
      have sz223 : h223.size = h218.size := W223.size
      have O223 : Old Z n0 h223 := O218.wr W223 (by omega)
      have ps225 : own_pse ((((cs.set ao (36 : Int32)).set (ao + 1) (123 : Int32)).set (ao + 2) cv217).set ((ao + 2) + 1) cv222) 0 ([] : List own_Pl) 0 := own_pse.set ps220 (by omega)
      refine ci (XS.iinc X223.here hx rfl (hb hby at_383) rfl (l' := (own_F pa pb pi cv1 cv2 b3 (vn cnt) ao lq1 kq0 kq1 cz47 cz48 dq0 dq1 [vn (ao + 2), vz, vz, vz, vz, vz, vz, vz, vz, vz, vz, .val (.int ((Int32.ofNat ((ao + 2) + 1)) + (1 : Int32))), uu, uu, uu])) rfl) ?_
      refine sc (A := (T223.setTop (mkF m 386 (own_F pa pb pi cv1 cv2 b3 (vn cnt) ao lq1 kq0 kq1 cz47 cz48 dq0 dq1 [vn (ao + 2), vz, vz, vz, vz, vz, vz, vz, vz, vz, vz, .val (.int ((Int32.ofNat ((ao + 2) + 1)) + (1 : Int32))), uu, uu, uu]) []))) ?_
      rw [own_p1]
      refine sc (A := (T223.setTop (mkF m 386 (own_F pa pb pi cv1 cv2 b3 (vn cnt) ao lq1 kq0 kq1 cz47 cz48 dq0 dq1 [vn (ao + 2), vz, vz, vz, vz, vz, vz, vz, vz, vz, vz, .val (.int (Int32.ofNat (((ao + 2) + 1) + 1))), uu, uu, uu]) []))) ?_
      exact JK1 _ _ _ ((((cs.set ao (36 : Int32)).set (ao + 1) (123 : Int32)).set (ao + 2) cv217).set ((ao + 2) + 1) cv222)  (((ao + 2) + 1) + 1) X223 e223 N223 O223 CH223 V223 ok223 ps225 hn1 (by exact (own_tK1 (own_ok.set (own_ok.set (own_ok.set hok (by decide)) (by decide)) hv217) (by omega) (own_tK0 hok NB (by omega) (by omega) hn217) hn222)) (by omega) (by omega)
     ·refine ci (XS.icmpYes X218.here hx rfl (pc0 := 368) (pc' := 386) rfl (hb hby at_368) rfl (feq hb368_221).2 (by decide) (by decide)) ?_
      refine sc (A := (T218.setTop (mkF m 386 (own_F pa pb pi cv1 cv2 b3 (vn cnt) ao lq1 kq0 kq1 cz47 cz48 dq0 dq1 [vn (ao + 2), vz, vz, vz, vz, vz, vz, vz, vz, vz, vz, .val (.int (Int32.ofNat ((ao + 2) + 1))), uu, uu, uu]) []))) ?_
      exact JK1 _ _ _ (((cs.set ao (36 : Int32)).set (ao + 1) (123 : Int32)).set (ao + 2) cv217)  ((ao + 2) + 1) X218 e218 N218 O218 CH218 V218 ok218 ps220 hn1 (by exact (own_tK0 hok NB (by omega) (by omega) hn217)) (by omega) (by omega)
   have J303 : ∀ (H : Heap) (T' : State) (ls : List Loc) (cs : List Int32), (Stand p l e room_1 (s.setVm s.vm) m #[(.long pa), (.long pb), (.int pi)] below meth c T' ls 1 22) → (T'.heap = H) → (Fr n0 ls) → (Old Z n0 H) → (CHr Z own_EL s.vm s.heap s.vm H) → (Arv Z H b3 k3 .char (22 : Int32) (cs.map Value.int) (.int 0)) → (own_ok cs) → (own_nb cs 0 22) → own_gc p e below s Z own_EL (Q_rm0 Z pa pb pi dq kd Gc fm h0 n0) room_1.cells room_1.slots (T'.setTop (mkF m 303 (own_F pa pb pi cv1 cv2 b3 (vn cnt) ao lq1 kq0 kq1 cz47 cz48 dq0 dq1 [vz, vz, vz, vz, vz, vz, vz, vz, vz, vz, vz, uu, uu, uu, uu]) [])) := by
    intro H T' ls cs X' e' N' O' CH' V' hok NB
    have hl22 := hok.1
    have ltb := olt V'.lt
    refine sc (A := (T'.setTop (mkF m 303 (own_F pa pb pi cv1 cv2 b3 (vn cnt) ao lq1 kq0 kq1 cz47 cz48 dq0 dq1 [vz, vz, vz, vz, vz, vz, vz, vz, vz, vz, vz, uu, uu, uu, uu]) []))) ?_
    refine ci (XS.iload X'.here hx rfl (hb hby at_303) rfl) ?_
    refine ci (XS.iconst X'.here hx rfl (hb hby at_305)) ?_
    by_cases hb306_226 : (Int32.ofNat ao) < (2 : Int32)
    ·refine ci (XS.icmpYes X'.here hx rfl (pc0 := 306) (pc' := 320) rfl (hb hby at_306) rfl (tlt hb306_226).1 (by decide) (by decide)) ?_
     refine sc (A := (T'.setTop (mkF m 320 (own_F pa pb pi cv1 cv2 b3 (vn cnt) ao lq1 kq0 kq1 cz47 cz48 dq0 dq1 [vz, vz, vz, vz, vz, vz, vz, vz, vz, vz, vz, uu, uu, uu, uu]) []))) ?_
     exact J320 _ _ _ cs X' e' N' O' CH' V' hok NB
    ·refine ci (XS.icmpNo X'.here hx rfl (hb hby at_306) rfl (flt hb306_226).1) ?_
     refine sc (A := (T'.setTop (mkF m 309 (own_F pa pb pi cv1 cv2 b3 (vn cnt) ao lq1 kq0 kq1 cz47 cz48 dq0 dq1 [vz, vz, vz, vz, vz, vz, vz, vz, vz, vz, vz, uu, uu, uu, uu]) []))) ?_
     refine ci (XS.aload X'.here hx rfl (hb hby at_309) rfl rfl) ?_
     refine ci (XS.iconst X'.here hx rfl (hb hby at_311)) ?_
     refine ci (XS.lloadN X'.here hx rfl (hb hby at_312) rfl) ?_
     refine ci (XS.bipush X'.here hx rfl (hb hby at_313)) ?_
     refine ci (XS.lushr X'.here hx rfl (hb hby at_315) rfl) ?_
     refine sc (A := (T'.setTop (mkF m 316 (own_F pa pb pi cv1 cv2 b3 (vn cnt) ao lq1 kq0 kq1 cz47 cz48 dq0 dq1 [vz, vz, vz, vz, vz, vz, vz, vz, vz, vz, vz, uu, uu, uu, uu]) [(.long ((pa.toUInt64 >>> ((8 : Int32) &&& 0x3f).toInt64.toUInt64).toInt64)), (.int 1), (.ref b3)]))) ?_
     obtain ⟨_, T227, Lc227, X227, hQ227, st227⟩ := own_c1 X' <| Jvm.LawKit.callS X' hx (y := ym1) hown (mvT hZ (hW 0 _ rfl)) (mvT hZ (hW 1 _ rfl)) (mvT hZ (hW 2 _ rfl)) (mvT hZ (hW 3 _ rfl)) (by decide) (backOf (W := 2) (rm_lit l Z a0 hw [] ((pa.toUInt64 >>> ((8 : Int32) &&& 0x3f).toInt64.toUInt64).toInt64) H n0 O' ) hZ (hW 3 _ rfl) (hW 2 _ rfl) (by decide) (by decide)) (g := (mkF m 316 (own_F pa pb pi cv1 cv2 b3 (vn cnt) ao lq1 kq0 kq1 cz47 cz48 dq0 dq1 [vz, vz, vz, vz, vz, vz, vz, vz, vz, vz, vz, uu, uu, uu, uu]) [(.long ((pa.toUInt64 >>> ((8 : Int32) &&& 0x3f).toInt64.toUInt64).toInt64)), (.int 1), (.ref b3)])) rfl (by rw [hml]; rfl) (argsL := [(.long ((pa.toUInt64 >>> ((8 : Int32) &&& 0x3f).toInt64.toUInt64).toInt64))]) (rest := [(.int 1), (.ref b3)]) (lenOf pd_35 rfl) rfl (Nat.le_of_eq rfl) (hb hby at_316) (fun _ _ => ⟨rfl, e', (by decide : 1 + 0 ≤ _), (by decide : 22 + 0 ≤ _)⟩)
     obtain ⟨cv227, rfl, hv227, hn227, Nq227, eh227⟩ := hQ227
     have N227 := Fr.app N' Nq227
     refine oc st227 ?_
     refine sc (A := (T227.setTop (mkF m 319 (own_F pa pb pi cv1 cv2 b3 (vn cnt) ao lq1 kq0 kq1 cz47 cz48 dq0 dq1 [vz, vz, vz, vz, vz, vz, vz, vz, vz, vz, vz, uu, uu, uu, uu]) [(.int cv227), (.int 1), (.ref b3)]))) ?_
     obtain ⟨cl228, Ar228, q228, S228, Ng228, H228, G228⟩ := id V'
     have hq228 := hok.1
     obtain ⟨T228, h228, X228, e228, W228, st228⟩ := stC X227 hx hZ eh227 Ar228 (j := (1 : Int32)) (inb_of S228 (own_inn (i := 1) (m := 22) (by omega) (by omega))) (g := (mkF m 319 (own_F pa pb pi cv1 cv2 b3 (vn cnt) ao lq1 kq0 kq1 cz47 cz48 dq0 dq1 [vz, vz, vz, vz, vz, vz, vz, vz, vz, vz, vz, uu, uu, uu, uu]) [(.int cv227), (.int 1), (.ref b3)])) rfl rfl (hb hby at_319)
     have V228 : Arv Z h228 b3 k3 .char (22 : Int32) ((cs.set 1 cv227).map Value.int) (.int 0) := by have q := Arv.set Ar228 q228 S228 Ng228 H228 G228 (fits_nar_char _) W228 1 rfl (by rw [List.length_map]; omega); rw [own_nar hv227] at q; rw [List.map_set]; exact q
     have ok228 : own_ok (cs.set 1 cv227) := own_ok.set hok hv227
     refine oc st228 ?_
     obtain ⟨cl229, Ar229, q229, S229, Ng229, H229, G229⟩ := id V'
     have CHs228 := CHr.wr W228 (Safe.arr hZ.alike Ar229 (by decide)) CH'.1
     have CH228 := CH'.trans CHs228
     have N228 := Fr.snoc X228 N227 (by omega : n0 ≤ b3)
     have sz228 : h228.size = H.size := W228.size
     have O228 : Old Z n0 h228 := O'.wr W228 (by omega)
     refine sc (A := (T228.setTop (mkF m 320 (own_F pa pb pi cv1 cv2 b3 (vn cnt) ao lq1 kq0 kq1 cz47 cz48 dq0 dq1 [vz, vz, vz, vz, vz, vz, vz, vz, vz, vz, vz, uu, uu, uu, uu]) []))) ?_
     exact J320 _ _ _ (cs.set 1 cv227) X228 e228 N228 O228 CH228 V228 ok228 (own_nb.set NB hn227)
   refine sc (A := (T48.setTop (mkF m 289 (own_F pa pb pi cv1 cv2 b3 (vn cnt) ao lq1 kq0 kq1 cz47 cz48 dq0 dq1 [vz, vz, vz, vz, vz, vz, vz, vz, vz, vz, vz, uu, uu, uu, uu]) []))) ?_
   refine ci (XS.iload X48.here hx rfl (hb hby at_289) rfl) ?_
   refine ci (XS.iconst X48.here hx rfl (hb hby at_291)) ?_
   by_cases hb292_230 : (Int32.ofNat ao) < (1 : Int32)
   ·refine ci (XS.icmpYes X48.here hx rfl (pc0 := 292) (pc' := 303) rfl (hb hby at_292) rfl (tlt hb292_230).1 (by decide) (by decide)) ?_
    refine sc (A := (T48.setTop (mkF m 303 (own_F pa pb pi cv1 cv2 b3 (vn cnt) ao lq1 kq0 kq1 cz47 cz48 dq0 dq1 [vz, vz, vz, vz, vz, vz, vz, vz, vz, vz, vz, uu, uu, uu, uu]) []))) ?_
    exact J303 _ _ _ csq X48 e48 N45 O45 CH45 Vq okq nbq
   ·refine ci (XS.icmpNo X48.here hx rfl (hb hby at_292) rfl (flt hb292_230).1) ?_
    refine sc (A := (T48.setTop (mkF m 295 (own_F pa pb pi cv1 cv2 b3 (vn cnt) ao lq1 kq0 kq1 cz47 cz48 dq0 dq1 [vz, vz, vz, vz, vz, vz, vz, vz, vz, vz, vz, uu, uu, uu, uu]) []))) ?_
    refine ci (XS.aload X48.here hx rfl (hb hby at_295) rfl rfl) ?_
    refine ci (XS.iconst X48.here hx rfl (hb hby at_297)) ?_
    refine ci (XS.lloadN X48.here hx rfl (hb hby at_298) rfl) ?_
    refine sc (A := (T48.setTop (mkF m 299 (own_F pa pb pi cv1 cv2 b3 (vn cnt) ao lq1 kq0 kq1 cz47 cz48 dq0 dq1 [vz, vz, vz, vz, vz, vz, vz, vz, vz, vz, vz, uu, uu, uu, uu]) [(.long pa), (.int 0), (.ref b3)]))) ?_
    obtain ⟨_, T231, Lc231, X231, hQ231, st231⟩ := own_c1 X48 <| Jvm.LawKit.callS X48 hx (y := ym1) hown (mvT hZ (hW 0 _ rfl)) (mvT hZ (hW 1 _ rfl)) (mvT hZ (hW 2 _ rfl)) (mvT hZ (hW 3 _ rfl)) (by decide) (backOf (W := 2) (rm_lit l Z a0 hw [] pa h45 n0 O45 ) hZ (hW 3 _ rfl) (hW 2 _ rfl) (by decide) (by decide)) (g := (mkF m 299 (own_F pa pb pi cv1 cv2 b3 (vn cnt) ao lq1 kq0 kq1 cz47 cz48 dq0 dq1 [vz, vz, vz, vz, vz, vz, vz, vz, vz, vz, vz, uu, uu, uu, uu]) [(.long pa), (.int 0), (.ref b3)])) rfl (by rw [hml]; rfl) (argsL := [(.long pa)]) (rest := [(.int 0), (.ref b3)]) (lenOf pd_35 rfl) rfl (Nat.le_of_eq rfl) (hb hby at_299) (fun _ _ => ⟨rfl, e48, (by decide : 1 + 0 ≤ _), (by decide : 22 + 0 ≤ _)⟩)
    obtain ⟨cv231, rfl, hv231, hn231, Nq231, eh231⟩ := hQ231
    have N231 := Fr.app N45 Nq231
    refine oc st231 ?_
    refine sc (A := (T231.setTop (mkF m 302 (own_F pa pb pi cv1 cv2 b3 (vn cnt) ao lq1 kq0 kq1 cz47 cz48 dq0 dq1 [vz, vz, vz, vz, vz, vz, vz, vz, vz, vz, vz, uu, uu, uu, uu]) [(.int cv231), (.int 0), (.ref b3)]))) ?_
    obtain ⟨cl232, Ar232, q232, S232, Ng232, H232, G232⟩ := id Vq
    have hq232 := okq.1
    obtain ⟨T232, h232, X232, e232, W232, st232⟩ := stC X231 hx hZ eh231 Ar232 (j := (0 : Int32)) (inb_of S232 (own_inn (i := 0) (m := 22) (by omega) (by omega))) (g := (mkF m 302 (own_F pa pb pi cv1 cv2 b3 (vn cnt) ao lq1 kq0 kq1 cz47 cz48 dq0 dq1 [vz, vz, vz, vz, vz, vz, vz, vz, vz, vz, vz, uu, uu, uu, uu]) [(.int cv231), (.int 0), (.ref b3)])) rfl rfl (hb hby at_302)
    have V232 : Arv Z h232 b3 k3 .char (22 : Int32) ((csq.set 0 cv231).map Value.int) (.int 0) := by have q := Arv.set Ar232 q232 S232 Ng232 H232 G232 (fits_nar_char _) W232 0 rfl (by rw [List.length_map]; omega); rw [own_nar hv231] at q; rw [List.map_set]; exact q
    have ok232 : own_ok (csq.set 0 cv231) := own_ok.set okq hv231
    refine oc st232 ?_
    have f233 := (CHs45.safe (olt (by omega)) f46)
    have CHs232 := CHr.wr W232 f233 CH45.1
    have CH232 := CH45.trans CHs232
    have N232 := Fr.snoc X232 N231 (by omega : n0 ≤ b3)
    have sz232 : h232.size = h45.size := W232.size
    have O232 : Old Z n0 h232 := O45.wr W232 (by omega)
    refine sc (A := (T232.setTop (mkF m 303 (own_F pa pb pi cv1 cv2 b3 (vn cnt) ao lq1 kq0 kq1 cz47 cz48 dq0 dq1 [vz, vz, vz, vz, vz, vz, vz, vz, vz, vz, vz, uu, uu, uu, uu]) []))) ?_
    exact J303 _ _ _ (csq.set 0 cv231) X232 e232 N232 O232 CH232 V232 ok232 (own_nb.set nbq hn231)
  ·intro j48
   refine sc (A := (T47.setTop (mkF m 224 #[.val (.long pa), .second, .val (.long pb), .second, vi pi, vi cv1, vi cv2, vr b3, vn cnt, vn ao, vi lq1, vi kq0, vi kq1, vi cz47, uu, uu, uu, uu, uu, uu, uu, uu, uu, uu, uu, uu, uu, uu, uu, uu, uu, uu] [(.int (((pi.toUInt32 >>> ((9 : Int32) &&& 31).toUInt32).toInt32) &&& (1 : Int32)))]))) ?_
   by_cases hb224_234 : (((pi.toUInt32 >>> ((9 : Int32) &&& 31).toUInt32).toInt32) &&& (1 : Int32)) = (0 : Int32)
   ·refine ci (XS.ifYes X47.here hx rfl (pc0 := 224) (pc' := 231) rfl (hb hby at_224) rfl ((if0 _ _).trans (teq hb224_234).1) (by decide) (by decide)) ?_
    refine sc (A := (T47.setTop (mkF m 231 #[.val (.long pa), .second, .val (.long pb), .second, vi pi, vi cv1, vi cv2, vr b3, vn cnt, vn ao, vi lq1, vi kq0, vi kq1, vi cz47, uu, uu, uu, uu, uu, uu, uu, uu, uu, uu, uu, uu, uu, uu, uu, uu, uu, uu] []))) ?_
    refine ci (XS.iconst X47.here hx rfl (hb hby at_231)) ?_
    refine sc (A := (T47.setTop (mkF m 232 #[.val (.long pa), .second, .val (.long pb), .second, vi pi, vi cv1, vi cv2, vr b3, vn cnt, vn ao, vi lq1, vi kq0, vi kq1, vi cz47, uu, uu, uu, uu, uu, uu, uu, uu, uu, uu, uu, uu, uu, uu, uu, uu, uu, uu] [(.int 0)]))) ?_
    exact j48 _ _ X47 e47
   ·refine ci (XS.ifNo X47.here hx rfl (hb hby at_224) rfl ((if0 _ _).trans (feq hb224_234).1)) ?_
    refine sc (A := (T47.setTop (mkF m 227 #[.val (.long pa), .second, .val (.long pb), .second, vi pi, vi cv1, vi cv2, vr b3, vn cnt, vn ao, vi lq1, vi kq0, vi kq1, vi cz47, uu, uu, uu, uu, uu, uu, uu, uu, uu, uu, uu, uu, uu, uu, uu, uu, uu, uu] []))) ?_
    refine ci (XS.iconst X47.here hx rfl (hb hby at_227)) ?_
    refine ci (XS.goto X47.here hx rfl (pc0 := 228) (pc' := 232) rfl (hb hby at_228) (by decide) (by decide)) ?_
    refine sc (A := (T47.setTop (mkF m 232 #[.val (.long pa), .second, .val (.long pb), .second, vi pi, vi cv1, vi cv2, vr b3, vn cnt, vn ao, vi lq1, vi kq0, vi kq1, vi cz47, uu, uu, uu, uu, uu, uu, uu, uu, uu, uu, uu, uu, uu, uu, uu, uu, uu, uu] [(.int 1)]))) ?_
    exact j48 _ _ X47 e47
 ·intro j47
  refine sc (A := (T45.setTop (mkF m 207 #[.val (.long pa), .second, .val (.long pb), .second, vi pi, vi cv1, vi cv2, vr b3, vn cnt, vn ao, vi lq1, vi kq0, vi kq1, uu, uu, uu, uu, uu, uu, uu, uu, uu, uu, uu, uu, uu, uu, uu, uu, uu, uu, uu] [(.int (((pi.toUInt32 >>> ((8 : Int32) &&& 31).toUInt32).toInt32) &&& (1 : Int32)))]))) ?_
  by_cases hb207_235 : (((pi.toUInt32 >>> ((8 : Int32) &&& 31).toUInt32).toInt32) &&& (1 : Int32)) = (0 : Int32)
  ·refine ci (XS.ifYes X45.here hx rfl (pc0 := 207) (pc' := 214) rfl (hb hby at_207) rfl ((if0 _ _).trans (teq hb207_235).1) (by decide) (by decide)) ?_
   refine sc (A := (T45.setTop (mkF m 214 #[.val (.long pa), .second, .val (.long pb), .second, vi pi, vi cv1, vi cv2, vr b3, vn cnt, vn ao, vi lq1, vi kq0, vi kq1, uu, uu, uu, uu, uu, uu, uu, uu, uu, uu, uu, uu, uu, uu, uu, uu, uu, uu, uu] []))) ?_
   refine ci (XS.iconst X45.here hx rfl (hb hby at_214)) ?_
   refine sc (A := (T45.setTop (mkF m 215 #[.val (.long pa), .second, .val (.long pb), .second, vi pi, vi cv1, vi cv2, vr b3, vn cnt, vn ao, vi lq1, vi kq0, vi kq1, uu, uu, uu, uu, uu, uu, uu, uu, uu, uu, uu, uu, uu, uu, uu, uu, uu, uu, uu] [(.int 0)]))) ?_
   exact j47 _ _ X45 e45
  ·refine ci (XS.ifNo X45.here hx rfl (hb hby at_207) rfl ((if0 _ _).trans (feq hb207_235).1)) ?_
   refine sc (A := (T45.setTop (mkF m 210 #[.val (.long pa), .second, .val (.long pb), .second, vi pi, vi cv1, vi cv2, vr b3, vn cnt, vn ao, vi lq1, vi kq0, vi kq1, uu, uu, uu, uu, uu, uu, uu, uu, uu, uu, uu, uu, uu, uu, uu, uu, uu, uu, uu] []))) ?_
   refine ci (XS.iconst X45.here hx rfl (hb hby at_210)) ?_
   refine ci (XS.goto X45.here hx rfl (pc0 := 211) (pc' := 215) rfl (hb hby at_211) (by decide) (by decide)) ?_
   refine sc (A := (T45.setTop (mkF m 215 #[.val (.long pa), .second, .val (.long pb), .second, vi pi, vi cv1, vi cv2, vr b3, vn cnt, vn ao, vi lq1, vi kq0, vi kq1, uu, uu, uu, uu, uu, uu, uu, uu, uu, uu, uu, uu, uu, uu, uu, uu, uu, uu, uu] [(.int 1)]))) ?_
   exact j47 _ _ X45 e45
theorem comes_1 {Post : Tables → Env → Array Value → State → Outcome → State → Prop} (hpost : ∀ tb e args s v u, (limb_1_1.after args s (.returned v) u = true ∧ limb_1_2.after args s (.returned v) u = true ∧ True) → ReturnedEndW s (.returned v) u (Jvm.fieldLocs frame_1_writes args s ++ Jvm.arrayLocs frame_1_arrays args s ++ Jvm.staticLocs frame_1_statics s) 64 2432 → Post tb e args s (.returned v) u) :
  ArmFor flags0 classFile x code maxLocals ret World_1 tables_1 room_1 Calls_1 rest_1 Pre_1 Post := by
 intro l hfl _ _ p e ha hc hk s m args below hf hA hF happ hP
 obtain ⟨hcalls, hrest, hpre⟩ := hP
 obtain ⟨-, -, -, hnamed, -, -, -, hat⟩ := (Spec.applies_iff hf).mp happ
 obtain ⟨hg, hn⟩ := and_e (Cond.before_iff.mp (show (Jvm.Cond.and given_1 narrow_1).before args s = true from hpre))
 obtain ⟨g1, g2⟩ := and_e hg
 obtain ⟨g3, g4⟩ := and_e g2
 obtain ⟨g5, g6⟩ := and_e g4
 obtain ⟨w0, w1, w2, rfl⟩ : ∃ w0 w1 w2 : Value, args = #[w0, w1, w2] := by
  have hs : args.size = 3 := by simpa [Cond.value, given_1] using g1
  obtain ⟨L⟩ := args
  match L, hs with
  | [w0, w1, w2], _ => exact ⟨w0, w1, w2, rfl⟩
 have hw := fun d (hd : d ∈ tables_1) => atoms_spec (ws := Jvm.Cond.code x code maxLocals ret :: tables_1) hat d (List.mem_cons_of_mem _ hd)
 have hW : ∀ (i : Nat) (d : Jvm.Cond), tables_1[i]? = some d → d.before _ s = true := fun i d h => hw d (List.mem_of_getElem? h)
 have hfit : Fit s := fun {y c} hc i hi => by
  obtain ⟨ha, rfl⟩ := Array.getElem?_eq_some_iff.mp hc
  have q := List.all_eq_true.mp ((Array.all_eq_true_iff_forall_mem.mp hF) _ (Array.getElem_mem ha)) i (List.mem_range.mpr hi)
  simpa [Array.getElem?_eq_getElem hi] using q
 obtain ⟨hsets, hown0⟩ := atoms_of _ (rest_1_c_eq ▸ (show rest_1_c.before _ s = true from hrest))
 have hr0 := Cond.before_iff.mp hown0
 obtain ⟨i0, ei0⟩ := isL_v g3
 obtain rfl : w0 = (.long i0) := Option.some.inj ei0
 obtain ⟨i1, ei1⟩ := isL_v g5
 obtain rfl : w1 = (.long i1) := Option.some.inj ei1
 obtain ⟨i2, ei2⟩ := is_v g6
 obtain rfl : w2 = (.int i2) := Option.some.inj ei2
 have n3 := not_v (Cond.before_iff.mp (hsets _ (List.mem_of_getElem? (i := 2) rfl)))
 obtain ⟨i7, e6⟩ := is_v (Cond.before_iff.mp (hsets _ (List.mem_of_getElem? (i := 1) rfl)))
 have S8 : Sta s s.heap "java/lang/String" "COMPACT_STRINGS" "Z" (.int i7) := Sta.start e6 (Or.inl (hsets _ (List.mem_of_getElem? (i := 0) rfl)))
 have c13 : ¬ (i7 = (0 : Int32)) := gotF (Cond.eq_ints e6 (Term.int_eval (0))) n3
 obtain ⟨fm, ef, hfm⟩ := isR_v (Cond.before_iff.mp (hsets _ (List.mem_of_getElem? (i := 8) rfl)))
 have S9 : Sta s s.heap "jdk/internal/util/Preconditions" "SIOOBE_FORMATTER" "Ljava/util/function/BiFunction;" fm := Sta.start ef (Or.inl (hsets _ (List.mem_of_getElem? (i := 7) rfl)))
 obtain ⟨dq, ed, Ed⟩ := own_ex (Cond.before_iff.mp (hsets _ (List.mem_of_getElem? (i := 16) rfl)))
 have S_d : Sta s s.heap "java/util/ArrayList" "DEFAULTCAPACITY_EMPTY_ELEMENTDATA" "[Ljava/lang/Object;" (.ref dq) := Sta.start ed (Or.inr ⟨(hW 47 _ rfl), (hsets _ (List.mem_of_getElem? (i := 11) rfl))⟩)
 obtain ⟨cld, Ad⟩ := Arr.start ed (Cond.before_iff.mp (hsets _ (List.mem_of_getElem? (i := 15) rfl)))
 have Ld := own_len ed Ad (Cond.before_iff.mp (hsets _ (List.mem_of_getElem? (i := 17) rfl)))
 have V_d : Arv s s.heap dq cld.cls (.object "java/lang/Object") (0 : Int32) [] .null := Arv.start hfit Ad Ld.2 Ld.1 (by decide) rfl trivial
 have hEL : EW s _ own_EL := (EW.cons (own := "com/example/assemble/assemble/SettingText") (index := 29) (hW 77 _ rfl) (by decide) (EW.cons (own := "java/lang/StringLatin1") (index := 151) (hW 295 _ rfl) (by decide) EW.nil))
 have hCH : CHv s own_EL s.vm s.heap := CHv.start hEL (fun p hp => hcalls.1 p ((by decide : ∀ p ∈ own_EL, p ∈ consts_1) p hp)) (Cond.before_iff.mpr (not_i (nay (Cond.eq_ints e6 (Term.int_eval (0))) c13))) (hW 24 _ rfl) (hW 7 _ rfl)
 obtain ⟨n, o, h1, h2, h3, _, L, rfl, ⟨rfl, N⟩, -, hq⟩ := rm0 l s _ hw tables_1 i0 i1 i2 dq cld.cls i7 fm s.heap s.heap.size hEL (Old.start s) S8 c13 S9 hfm S_d V_d Ed V_d.lt p e ha hc hk s m _ below hf ((Spec.applies_iff_loose hf).mp happ).1 ⟨rfl, State.Warmed39.refl s, rfl, hCH⟩ trivial
 refine ⟨n, _, h1, h2, h3, hpost _ _ _ _ _ _ ⟨Cond.after_iff.mpr rfl, Cond.after_iff.mpr (eq_i res_at (Term.int_eval (1)) rfl), trivial⟩ ⟨hq.1, hq.2.1, hq.2.2.1, (hq.2.2.2.sift fun y hy => Or.inr (N y hy)).mono (by decide) (by decide)⟩⟩
theorem main_1_1 : Claimed_1_1 := comes_1 fun _ _ _ _ _ _ h hF => ⟨h.1, hF⟩
theorem main_1_2 : Claimed_1_2 := comes_1 fun _ _ _ _ _ _ h hF => ⟨h.2.1, hF⟩
end Jvm.Pilot.@@N@@
namespace Jvm.Pilot.@@N@@
open Jvm Jvm.ClassFile Sem Op Lib Jvm.Free Jvm.Stand Jvm.Pilot.@@N@@.Jvm.D
/-! MADE BY PROGRAM (witnessworld.py) out of the Statement's table words and the real class files: 33 classes; the members and pool entries that the words name. The judged class is class 1, her method 6. -/
namespace start1
open Jvm.ClassFile
def u (s : String) : CpInfo := .utf8 (stringToUtf16 s)
/-- a pool by its gaps: so many unusable entries, then the entry; so many at the end -/
def gap : Nat → List CpInfo → List CpInfo
  | 0, r => r
  | n + 1, r => .unusable :: gap n r
def poolList (es : List (Nat × CpInfo)) (last : Nat) : List CpInfo := es.foldr (fun e r => gap e.1 (e.2 :: r)) (gap last [])
def pool (es : List (Nat × CpInfo)) (last : Nat) : Array CpInfo := ⟨poolList es last⟩
def fileOf (pool : Array CpInfo) (this : Nat) (attrs : Array Attribute := #[]) (ms : Array MethodInfo := #[]) (fl : Nat := 33) (sup : Nat := 0) (ifs : Array Nat := #[]) (fds : Array FieldInfo := #[]) : ClassFile where
  minorVersion := 0
  majorVersion := 65
  constantPool := pool
  accessFlags := fl
  thisClass := this
  superClass := sup
  interfaces := ifs
  fields := fds
  methods := ms
  attributes := attrs
def plain (name : String) (sup : Option ClassId) : Class where
  name := name
  kind := .ordinary
  loader := none
  accessFlags := 33
  super := sup
  interfaces := #[]
  cf := none
  fields := #[]
  methods := #[]
  instanceTypes := #[]
  staticTypes := #[]
  resolved := #[]
  callSites := []
  init := .initialized
  statics := none
  mirror := none

def pool0 : Array CpInfo := pool [(5, u "<init>"), (0, u "()V"), (1, .class_ 10), (1, u "java/lang/Object")] 113

def k0c0 : Code := { maxStack := 0, maxLocals := 1, code := object_method_1_code, exceptionTable := #[], attributes := #[] }
def k0m0 : Method := { name := "<init>", desc := "()V", sig := { parameters := [], returnType := none }, accessFlags := 1, code := some k0c0 }
/-- java/lang/Object -/
def k0 : Class := { plain "java/lang/Object" none with
  accessFlags := 33
  interfaces := #[]
  cf := some (fileOf pool0 8 #[] #[{ accessFlags := 1, nameIndex := 5, descriptorIndex := 6, attributes := #[] }] 33 0 #[] #[])
  fields := #[]
  methods := #[k0m0]
  instanceTypes := #[]
  staticTypes := #[]
  resolved := Array.replicate 124 none
  statics := none }

def pool1 : Array CpInfo := pool [(2, .class_ 4), (1, u "java/lang/Object"), (0, u "<init>"), (0, u "()V"), (0, .long 255), (1, .methodref 10 11), (0, .class_ 12), (0, .nameAndType 13 14), (0, u "java/lang/String"), (0, u "length"), (0, u "()I"), (0, .methodref 10 16), (0, .nameAndType 17 18), (0, u "charAt"), (0, u "(I)C"), (0, .methodref 20 21), (0, .class_ 22), (0, .nameAndType 23 24), (0, u "com/example/assemble/assemble/SettingTextParsePinLaw"), (0, u "part"), (0, u "(Ljava/lang/String;[CII)Z"), (0, .methodref 20 26), (0, .nameAndType 27 28), (0, u "lit"), (0, u "(J)C"), (0, .methodref 20 30), (0, .nameAndType 31 28), (0, u "keyc"), (0, .methodref 20 33), (0, .nameAndType 34 28), (0, u "defc"), (0, .methodref 10 36), (0, .nameAndType 5 37), (0, u "([C)V"), (0, .methodref 39 40), (0, .class_ 41), (0, .nameAndType 42 43), (0, u "com/example/assemble/assemble/SettingText"), (0, u "parse"), (0, u "(Ljava/lang/String;)Lcom/example/assemble/assemble/SettingText;"), (0, .methodref 39 45), (0, .nameAndType 46 14), (0, u "placeholders"), (0, .methodref 39 48), (0, .nameAndType 49 50), (0, u "toString"), (0, u "()Ljava/lang/String;"), (0, .methodref 10 52), (0, .nameAndType 53 54), (0, u "equals"), (0, u "(Ljava/lang/Object;)Z"), (0, .methodref 39 56), (0, .nameAndType 57 58), (0, u "literal"), (0, u "(I)Ljava/lang/String;"), (0, .methodref 39 60), (0, .nameAndType 61 58), (0, u "key"), (0, .methodref 39 63), (0, .nameAndType 64 58), (0, u "fallback"), (0, .methodref 20 66), (0, .nameAndType 67 68), (0, u "fb"), (0, u "(Ljava/lang/String;Z[CII)Z"), (3, u "law"), (0, u "(JJI)Z")] 4

def k1m0 : Method := { name := "<init>", desc := "()V", sig := { parameters := [], returnType := none }, accessFlags := 1, code := none }
def k1c1 : Code := { maxStack := 4, maxLocals := 3, code := cD1, exceptionTable := #[], attributes := #[] }
def k1m1 : Method := { name := "lit", desc := "(J)C", sig := { parameters := [.long], returnType := some .char }, accessFlags := 10, code := some k1c1 }
def k1c2 : Code := { maxStack := 4, maxLocals := 3, code := cD41, exceptionTable := #[], attributes := #[] }
def k1m2 : Method := { name := "keyc", desc := "(J)C", sig := { parameters := [.long], returnType := some .char }, accessFlags := 10, code := some k1c2 }
def k1c3 : Code := { maxStack := 4, maxLocals := 3, code := cD64, exceptionTable := #[], attributes := #[] }
def k1m3 : Method := { name := "defc", desc := "(J)C", sig := { parameters := [.long], returnType := some .char }, accessFlags := 10, code := some k1c3 }
def k1c4 : Code := { maxStack := 4, maxLocals := 5, code := cD37, exceptionTable := #[], attributes := #[] }
def k1m4 : Method := { name := "part", desc := "(Ljava/lang/String;[CII)Z", sig := { parameters := [(.object "java/lang/String"), (.array .char), .int, .int], returnType := some .boolean }, accessFlags := 10, code := some k1c4 }
def k1c5 : Code := { maxStack := 4, maxLocals := 5, code := cD63, exceptionTable := #[], attributes := #[] }
def k1m5 : Method := { name := "fb", desc := "(Ljava/lang/String;Z[CII)Z", sig := { parameters := [(.object "java/lang/String"), .boolean, (.array .char), .int, .int], returnType := some .boolean }, accessFlags := 10, code := some k1c5 }
def k1c6 : Code := { maxStack := 5, maxLocals := 32, code := code, exceptionTable := #[], attributes := #[] }
def k1m6 : Method := { name := "law", desc := "(JJI)Z", sig := { parameters := [.long, .long, .int], returnType := some .boolean }, accessFlags := 9, code := some k1c6 }
/-- com/example/assemble/assemble/SettingTextParsePinLaw -/
def k1 : Class := { plain "com/example/assemble/assemble/SettingTextParsePinLaw" (some 0) with
  accessFlags := 49
  interfaces := #[]
  cf := some (fileOf pool1 20 #[] #[{ accessFlags := 1, nameIndex := 5, descriptorIndex := 6, attributes := #[] }, { accessFlags := 10, nameIndex := 27, descriptorIndex := 28, attributes := #[] }, { accessFlags := 10, nameIndex := 31, descriptorIndex := 28, attributes := #[] }, { accessFlags := 10, nameIndex := 34, descriptorIndex := 28, attributes := #[] }, { accessFlags := 10, nameIndex := 23, descriptorIndex := 24, attributes := #[] }, { accessFlags := 10, nameIndex := 67, descriptorIndex := 68, attributes := #[] }, { accessFlags := 9, nameIndex := 72, descriptorIndex := 73, attributes := #[] }] 49 2 #[] #[])
  fields := #[]
  methods := #[k1m0, k1m1, k1m2, k1m3, k1m4, k1m5, k1m6]
  instanceTypes := #[]
  staticTypes := #[]
  resolved := Array.replicate 78 none
  statics := none }

def pool2 : Array CpInfo := pool [(1, .class_ 2), (0, u "java/io/Serializable"), (0, .class_ 4), (0, u "java/lang/Object")] 2

/-- java/io/Serializable -/
def k2 : Class := { plain "java/io/Serializable" (some 0) with
  accessFlags := 1537
  interfaces := #[]
  cf := some (fileOf pool2 1 #[] #[] 1537 3 #[] #[])
  fields := #[]
  methods := #[]
  instanceTypes := #[]
  staticTypes := #[]
  resolved := Array.replicate 7 none
  statics := none }

def pool3 : Array CpInfo := pool [(1, .class_ 2), (0, u "java/lang/Comparable"), (0, .class_ 4), (0, u "java/lang/Object")] 7

/-- java/lang/Comparable -/
def k3 : Class := { plain "java/lang/Comparable" (some 0) with
  accessFlags := 1537
  interfaces := #[]
  cf := some (fileOf pool3 1 #[] #[] 1537 3 #[] #[])
  fields := #[]
  methods := #[]
  instanceTypes := #[]
  staticTypes := #[]
  resolved := Array.replicate 12 none
  statics := none }

def pool4 : Array CpInfo := pool [(2, .class_ 4), (1, u "java/lang/CharSequence"), (42, .class_ 48), (0, u "java/lang/CharSequence$1CodePointIterator"), (10, .class_ 60), (0, u "java/lang/CharSequence$1CharIterator"), (5, .class_ 67), (0, u "java/lang/Object"), (10, u "toString"), (0, u "()Ljava/lang/String;")] 51

def k4m0 : Method := { name := "toString", desc := "()Ljava/lang/String;", sig := { parameters := [], returnType := some (.object "java/lang/String") }, accessFlags := 1025, code := none }
/-- java/lang/CharSequence -/
def k4 : Class := { plain "java/lang/CharSequence" (some 0) with
  accessFlags := 1537
  interfaces := #[]
  cf := some (fileOf pool4 2 #[.nestMembers #[47, 59]] #[{ accessFlags := 1025, nameIndex := 78, descriptorIndex := 79, attributes := #[] }] 1537 66 #[] #[])
  fields := #[]
  methods := #[k4m0]
  instanceTypes := #[]
  staticTypes := #[]
  resolved := Array.replicate 131 none
  statics := none }

def pool5 : Array CpInfo := pool [(1, .class_ 2), (0, u "java/lang/constant/Constable"), (0, .class_ 4), (0, u "java/lang/Object")] 6

/-- java/lang/constant/Constable -/
def k5 : Class := { plain "java/lang/constant/Constable" (some 0) with
  accessFlags := 1537
  interfaces := #[]
  cf := some (fileOf pool5 1 #[] #[] 1537 3 #[] #[])
  fields := #[]
  methods := #[]
  instanceTypes := #[]
  staticTypes := #[]
  resolved := Array.replicate 11 none
  statics := none }

def pool6 : Array CpInfo := pool [(1, .class_ 2), (0, u "java/lang/constant/ConstantDesc"), (0, .class_ 4), (0, u "java/lang/Object")] 32

/-- java/lang/constant/ConstantDesc -/
def k6 : Class := { plain "java/lang/constant/ConstantDesc" (some 0) with
  accessFlags := 1537
  interfaces := #[]
  cf := some (fileOf pool6 1 #[] #[] 1537 3 #[] #[])
  fields := #[]
  methods := #[]
  instanceTypes := #[]
  staticTypes := #[]
  resolved := Array.replicate 37 none
  statics := none }

def pool7 : Array CpInfo := pool [(1, .methodref 2 3), (0, .class_ 4), (0, .nameAndType 5 6), (0, u "java/lang/Object"), (0, u "<init>"), (0, u "()V"), (2, .fieldref 10 11), (0, .class_ 12), (0, .nameAndType 13 14), (0, u "java/lang/String"), (0, u "value"), (0, u "[B"), (0, .fieldref 10 16), (0, .nameAndType 17 18), (0, u "coder"), (0, u "B"), (2, u "hash"), (0, u "I"), (2, u "hashIsZero"), (0, u "Z"), (0, .methodref 10 28), (0, .nameAndType 5 29), (0, u "([CIILjava/lang/Void;)V"), (8, .fieldref 10 39), (0, .nameAndType 40 26), (0, u "COMPACT_STRINGS"), (1, .class_ 44), (1, u "java/lang/StringUTF16"), (0, u "compress"), (1, .methodref 42 48), (0, .nameAndType 49 50), (0, u "coderFromArrayLen"), (0, u "([BI)B"), (56, .class_ 109), (1, u "java/lang/StringLatin1"), (32, u "()Z"), (34, .methodref 42 178), (0, .nameAndType 45 179), (0, u "([CII)[B"), (31, u "([BB)V"), (122, u "()I"), (0, .methodref 10 336), (0, .nameAndType 17 337), (0, u "()B"), (25, u "([BI)C"), (12, u "([BI[BII)I"), (14, u "(II)V"), (35, u "(I)C"), (34, .nameAndType 463 464), (0, u "toString"), (0, u "()Ljava/lang/String;"), (27, .methodref 10 493), (0, .nameAndType 494 142), (0, u "isLatin1"), (0, .methodref 107 496), (0, .nameAndType 497 363), (0, u "charAt"), (3, u "checkIndex"), (3, .methodref 10 506), (0, .nameAndType 507 334), (0, u "length"), (5, u "checkFromToIndex"), (7, .methodref 10 522), (0, .nameAndType 523 524), (0, u "checkBoundsBeginEnd"), (0, u "(III)V"), (18, u "equals"), (4, u "(Ljava/lang/CharSequence;)Z"), (24, u "(Ljava/lang/Object;)Z"), (1, .class_ 576), (0, u "java/lang/CharSequence"), (12, u "([B[B)I"), (9, u "CASE_INSENSITIVE_ORDER"), (0, u "Ljava/util/Comparator;"), (32, .methodref 10 634), (0, .nameAndType 635 636), (0, u "indexOf"), (0, u "(II)I"), (0, .methodref 107 638), (0, .nameAndType 635 639), (0, u "([BIII)I"), (7, .methodref 107 648), (0, .nameAndType 635 589), (4, .methodref 10 654), (0, .nameAndType 635 655), (0, u "([BBILjava/lang/String;I)I"), (3, .methodref 660 661), (0, .class_ 662), (0, .nameAndType 663 664), (0, u "java/lang/Math"), (0, u "clamp"), (0, u "(JII)I"), (0, .methodref 107 666), (0, .nameAndType 635 376), (5, u "(Ljava/lang/String;I)I"), (8, .methodref 10 682), (0, .nameAndType 683 684), (0, u "substring"), (0, u "(II)Ljava/lang/String;"), (0, .methodref 107 686), (0, .nameAndType 687 688), (0, u "newString"), (0, u "([BII)Ljava/lang/String;"), (3, u "isEmpty"), (17, .interfaceMethodref 575 462), (0, .methodref 10 712), (0, .nameAndType 635 713), (0, u "(Ljava/lang/String;)I"), (51, u "(I)I"), (126, u "(I)Ljava/lang/String;"), (117, u "([C)V"), (42, .fieldref 1054 1055), (0, .class_ 1056), (0, .nameAndType 1057 1058), (0, u "jdk/internal/util/Preconditions"), (0, u "SIOOBE_FORMATTER"), (0, u "Ljava/util/function/BiFunction;"), (0, .methodref 1054 1060), (0, .nameAndType 501 1061), (0, u "(IILjava/util/function/BiFunction;)I"), (0, .methodref 1054 1063), (0, .nameAndType 513 1064), (0, u "(IIILjava/util/function/BiFunction;)I"), (36, u "serialPersistentFields"), (0, u "[Ljava/io/ObjectStreamField;"), (0, .class_ 1104), (0, u "java/lang/String$CaseInsensitiveComparator"), (1, .class_ 1107), (0, u "java/io/Serializable"), (0, .class_ 1109), (0, u "java/lang/Comparable"), (0, .class_ 1111), (0, u "java/lang/constant/Constable"), (0, .class_ 1113), (0, u "java/lang/constant/ConstantDesc"), (2, u "serialVersionUID"), (0, u "J"), (3, u "REPL"), (0, u "C"), (2, u "LATIN1"), (1, u "UTF16"), (163, u "contains")] 159

def k7m0 : Method := { name := "<init>", desc := "()V", sig := { parameters := [], returnType := none }, accessFlags := 1, code := none }
def k7c1 : Code := { maxStack := 5, maxLocals := 2, code := jdk_42_method_3_code, exceptionTable := #[], attributes := #[] }
def k7m1 : Method := { name := "<init>", desc := "([C)V", sig := { parameters := [(.array .char)], returnType := none }, accessFlags := 1, code := some k7c1 }
def k7c2 : Code := { maxStack := 2, maxLocals := 1, code := cD19, exceptionTable := #[], attributes := #[] }
def k7m2 : Method := { name := "length", desc := "()I", sig := { parameters := [], returnType := some .int }, accessFlags := 1, code := some k7c2 }
def k7c3 : Code := { maxStack := 1, maxLocals := 1, code := cD55, exceptionTable := #[], attributes := #[] }
def k7m3 : Method := { name := "isEmpty", desc := "()Z", sig := { parameters := [], returnType := some .boolean }, accessFlags := 1, code := some k7c3 }
def k7c4 : Code := { maxStack := 2, maxLocals := 2, code := cD38, exceptionTable := #[], attributes := #[] }
def k7m4 : Method := { name := "charAt", desc := "(I)C", sig := { parameters := [.int], returnType := some .char }, accessFlags := 1, code := some k7c4 }
def k7c5 : Code := { maxStack := 2, maxLocals := 3, code := cD31, exceptionTable := #[], attributes := #[] }
def k7m5 : Method := { name := "equals", desc := "(Ljava/lang/Object;)Z", sig := { parameters := [(.object "java/lang/Object")], returnType := some .boolean }, accessFlags := 1, code := some k7c5 }
def k7c6 : Code := { maxStack := 3, maxLocals := 2, code := cD54, exceptionTable := #[], attributes := #[] }
def k7m6 : Method := { name := "indexOf", desc := "(I)I", sig := { parameters := [.int], returnType := some .int }, accessFlags := 1, code := some k7c6 }
def k7c7 : Code := { maxStack := 4, maxLocals := 3, code := cD42, exceptionTable := #[], attributes := #[] }
def k7m7 : Method := { name := "indexOf", desc := "(II)I", sig := { parameters := [.int, .int], returnType := some .int }, accessFlags := 1, code := some k7c7 }
def k7c8 : Code := { maxStack := 2, maxLocals := 3, code := cD13, exceptionTable := #[], attributes := #[] }
def k7m8 : Method := { name := "indexOf", desc := "(Ljava/lang/String;)I", sig := { parameters := [(.object "java/lang/String")], returnType := some .int }, accessFlags := 1, code := some k7c8 }
def k7c9 : Code := { maxStack := 5, maxLocals := 3, code := cD56, exceptionTable := #[], attributes := #[] }
def k7m9 : Method := { name := "indexOf", desc := "(Ljava/lang/String;I)I", sig := { parameters := [(.object "java/lang/String"), .int], returnType := some .int }, accessFlags := 1, code := some k7c9 }
def k7c10 : Code := { maxStack := 5, maxLocals := 8, code := cD57, exceptionTable := #[], attributes := #[] }
def k7m10 : Method := { name := "indexOf", desc := "([BBILjava/lang/String;I)I", sig := { parameters := [(.array .byte), .byte, .int, (.object "java/lang/String"), .int], returnType := some .int }, accessFlags := 8, code := some k7c10 }
def k7c11 : Code := { maxStack := 3, maxLocals := 2, code := cD18, exceptionTable := #[], attributes := #[] }
def k7m11 : Method := { name := "substring", desc := "(I)Ljava/lang/String;", sig := { parameters := [.int], returnType := some (.object "java/lang/String") }, accessFlags := 1, code := some k7c11 }
def k7c12 : Code := { maxStack := 3, maxLocals := 5, code := cD20, exceptionTable := #[], attributes := #[] }
def k7m12 : Method := { name := "substring", desc := "(II)Ljava/lang/String;", sig := { parameters := [.int, .int], returnType := some (.object "java/lang/String") }, accessFlags := 1, code := some k7c12 }
def k7c13 : Code := { maxStack := 2, maxLocals := 2, code := cD52, exceptionTable := #[], attributes := #[] }
def k7m13 : Method := { name := "contains", desc := "(Ljava/lang/CharSequence;)Z", sig := { parameters := [(.object "java/lang/CharSequence")], returnType := some .boolean }, accessFlags := 1, code := some k7c13 }
def k7c14 : Code := { maxStack := 1, maxLocals := 1, code := jdk_42_method_126_code, exceptionTable := #[], attributes := #[] }
def k7m14 : Method := { name := "toString", desc := "()Ljava/lang/String;", sig := { parameters := [], returnType := some (.object "java/lang/String") }, accessFlags := 1, code := some k7c14 }
def k7c15 : Code := { maxStack := 4, maxLocals := 6, code := jdk_42_method_149_code, exceptionTable := #[], attributes := #[] }
def k7m15 : Method := { name := "<init>", desc := "([CIILjava/lang/Void;)V", sig := { parameters := [(.array .char), .int, .int, (.object "java/lang/Void")], returnType := none }, accessFlags := 2, code := some k7c15 }
def k7c16 : Code := { maxStack := 2, maxLocals := 3, code := cD51, exceptionTable := #[], attributes := #[] }
def k7m16 : Method := { name := "<init>", desc := "([BB)V", sig := { parameters := [(.array .byte), .byte], returnType := none }, accessFlags := 0, code := some k7c16 }
def k7c17 : Code := { maxStack := 1, maxLocals := 1, code := cD14, exceptionTable := #[], attributes := #[] }
def k7m17 : Method := { name := "coder", desc := "()B", sig := { parameters := [], returnType := some .byte }, accessFlags := 0, code := some k7c17 }
def k7c18 : Code := { maxStack := 1, maxLocals := 1, code := cD15, exceptionTable := #[], attributes := #[] }
def k7m18 : Method := { name := "isLatin1", desc := "()Z", sig := { parameters := [], returnType := some .boolean }, accessFlags := 0, code := some k7c18 }
def k7c19 : Code := { maxStack := 3, maxLocals := 2, code := cD40, exceptionTable := #[], attributes := #[] }
def k7m19 : Method := { name := "checkIndex", desc := "(II)V", sig := { parameters := [.int, .int], returnType := none }, accessFlags := 8, code := some k7c19 }
def k7c20 : Code := { maxStack := 4, maxLocals := 3, code := cD21, exceptionTable := #[], attributes := #[] }
def k7m20 : Method := { name := "checkBoundsBeginEnd", desc := "(III)V", sig := { parameters := [.int, .int, .int], returnType := none }, accessFlags := 8, code := some k7c20 }
/-- java/lang/String -/
def k7 : Class := { plain "java/lang/String" (some 0) with
  accessFlags := 49
  interfaces := #[2, 3, 4, 5, 6]
  cf := some (fileOf pool7 10 #[.nestMembers #[1103]] #[{ accessFlags := 1, nameIndex := 5, descriptorIndex := 6, attributes := #[] }, { accessFlags := 1, nameIndex := 5, descriptorIndex := 1010, attributes := #[] }, { accessFlags := 1, nameIndex := 507, descriptorIndex := 334, attributes := #[] }, { accessFlags := 1, nameIndex := 692, descriptorIndex := 142, attributes := #[] }, { accessFlags := 1, nameIndex := 497, descriptorIndex := 427, attributes := #[] }, { accessFlags := 1, nameIndex := 543, descriptorIndex := 573, attributes := #[] }, { accessFlags := 1, nameIndex := 635, descriptorIndex := 765, attributes := #[] }, { accessFlags := 1, nameIndex := 635, descriptorIndex := 636, attributes := #[] }, { accessFlags := 1, nameIndex := 635, descriptorIndex := 713, attributes := #[] }, { accessFlags := 1, nameIndex := 635, descriptorIndex := 672, attributes := #[] }, { accessFlags := 8, nameIndex := 635, descriptorIndex := 655, attributes := #[] }, { accessFlags := 1, nameIndex := 683, descriptorIndex := 892, attributes := #[] }, { accessFlags := 1, nameIndex := 683, descriptorIndex := 684, attributes := #[] }, { accessFlags := 1, nameIndex := 1291, descriptorIndex := 548, attributes := #[] }, { accessFlags := 1, nameIndex := 463, descriptorIndex := 464, attributes := #[] }, { accessFlags := 2, nameIndex := 5, descriptorIndex := 29, attributes := #[] }, { accessFlags := 0, nameIndex := 5, descriptorIndex := 211, attributes := #[] }, { accessFlags := 0, nameIndex := 17, descriptorIndex := 337, attributes := #[] }, { accessFlags := 0, nameIndex := 494, descriptorIndex := 142, attributes := #[] }, { accessFlags := 8, nameIndex := 501, descriptorIndex := 391, attributes := #[] }, { accessFlags := 8, nameIndex := 523, descriptorIndex := 524, attributes := #[] }] 49 2 #[1106, 1108, 575, 1110, 1112] #[{ accessFlags := 18, nameIndex := 13, descriptorIndex := 14, attributes := #[] }, { accessFlags := 18, nameIndex := 17, descriptorIndex := 18, attributes := #[] }, { accessFlags := 2, nameIndex := 21, descriptorIndex := 22, attributes := #[] }, { accessFlags := 2, nameIndex := 25, descriptorIndex := 26, attributes := #[] }, { accessFlags := 26, nameIndex := 1116, descriptorIndex := 1117, attributes := #[] }, { accessFlags := 24, nameIndex := 40, descriptorIndex := 26, attributes := #[] }, { accessFlags := 26, nameIndex := 1101, descriptorIndex := 1102, attributes := #[] }, { accessFlags := 26, nameIndex := 1121, descriptorIndex := 1122, attributes := #[] }, { accessFlags := 25, nameIndex := 599, descriptorIndex := 600, attributes := #[] }, { accessFlags := 24, nameIndex := 1125, descriptorIndex := 18, attributes := #[] }, { accessFlags := 24, nameIndex := 1127, descriptorIndex := 18, attributes := #[] }])
  fields := #[{ name := "value", type := (.array .byte), accessFlags := 18, slot := 0, constantValue := 0 }, { name := "coder", type := .byte, accessFlags := 18, slot := 1, constantValue := 0 }, { name := "hash", type := .int, accessFlags := 2, slot := 2, constantValue := 0 }, { name := "hashIsZero", type := .boolean, accessFlags := 2, slot := 3, constantValue := 0 }, { name := "serialVersionUID", type := .long, accessFlags := 26, slot := 0, constantValue := 0 }, { name := "COMPACT_STRINGS", type := .boolean, accessFlags := 24, slot := 1, constantValue := 0 }, { name := "serialPersistentFields", type := (.array (.object "java/io/ObjectStreamField")), accessFlags := 26, slot := 2, constantValue := 0 }, { name := "REPL", type := .char, accessFlags := 26, slot := 3, constantValue := 0 }, { name := "CASE_INSENSITIVE_ORDER", type := (.object "java/util/Comparator"), accessFlags := 25, slot := 4, constantValue := 0 }, { name := "LATIN1", type := .byte, accessFlags := 24, slot := 5, constantValue := 0 }, { name := "UTF16", type := .byte, accessFlags := 24, slot := 6, constantValue := 0 }]
  methods := #[k7m0, k7m1, k7m2, k7m3, k7m4, k7m5, k7m6, k7m7, k7m8, k7m9, k7m10, k7m11, k7m12, k7m13, k7m14, k7m15, k7m16, k7m17, k7m18, k7m19, k7m20]
  instanceTypes := #[(.array .byte), .byte, .int, .boolean]
  staticTypes := #[.long, .boolean, (.array (.object "java/io/ObjectStreamField")), .char, (.object "java/util/Comparator"), .byte, .byte]
  resolved := Array.replicate 1451 none
  statics := some 0 }

def pool8 : Array CpInfo := pool [(6, .class_ 8), (1, u "java/lang/Object"), (0, u "<init>"), (0, u "()V"), (1, .class_ 14), (1, u "java/lang/StringUTF16"), (31, u "$assertionsDisabled"), (0, u "Z"), (13, u "HI_BYTE_SHIFT"), (0, u "I"), (2, u "LO_BYTE_SHIFT"), (49, .methodref 12 116), (0, .nameAndType 117 118), (0, u "compress"), (0, u "([CI[BII)I"), (3, u "([CII)[B"), (138, u "coderFromArrayLen"), (0, u "([BI)B"), (106, .class_ 371), (1, u "java/lang/StringUTF16$LinesSpliterator"), (58, u "MAX_LENGTH"), (196, .class_ 628), (0, u "java/lang/StringUTF16$CodePointsSpliterator"), (0, .class_ 630), (0, u "java/lang/StringUTF16$CharsSpliterator")] 4

def k8m0 : Method := { name := "<init>", desc := "()V", sig := { parameters := [], returnType := none }, accessFlags := 0, code := none }
def k8c1 : Code := { maxStack := 2, maxLocals := 2, code := jdk_52_method_15_code, exceptionTable := #[], attributes := #[] }
def k8m1 : Method := { name := "coderFromArrayLen", desc := "([BI)B", sig := { parameters := [(.array .byte), .int], returnType := some .byte }, accessFlags := 8, code := some k8c1 }
def k8c2 : Code := { maxStack := 5, maxLocals := 6, code := jdk_52_method_16_code, exceptionTable := #[], attributes := #[] }
def k8m2 : Method := { name := "compress", desc := "([CII)[B", sig := { parameters := [(.array .char), .int, .int], returnType := some (.array .byte) }, accessFlags := 9, code := some k8c2 }
def k8c3 : Code := { maxStack := 3, maxLocals := 7, code := jdk_52_method_21_code, exceptionTable := #[], attributes := #[] }
def k8m3 : Method := { name := "compress", desc := "([CI[BII)I", sig := { parameters := [(.array .char), .int, (.array .byte), .int, .int], returnType := some .int }, accessFlags := 9, code := some k8c3 }
/-- java/lang/StringUTF16 -/
def k8 : Class := { plain "java/lang/StringUTF16" (some 0) with
  accessFlags := 48
  interfaces := #[]
  cf := some (fileOf pool8 12 #[.nestMembers #[627, 629, 369]] #[{ accessFlags := 0, nameIndex := 9, descriptorIndex := 10, attributes := #[] }, { accessFlags := 8, nameIndex := 261, descriptorIndex := 262, attributes := #[] }, { accessFlags := 9, nameIndex := 117, descriptorIndex := 122, attributes := #[] }, { accessFlags := 9, nameIndex := 117, descriptorIndex := 118, attributes := #[] }] 48 6 #[] #[{ accessFlags := 26, nameIndex := 61, descriptorIndex := 62, attributes := #[] }, { accessFlags := 26, nameIndex := 65, descriptorIndex := 62, attributes := #[] }, { accessFlags := 24, nameIndex := 430, descriptorIndex := 62, attributes := #[] }, { accessFlags := 4120, nameIndex := 46, descriptorIndex := 47, attributes := #[] }])
  fields := #[{ name := "HI_BYTE_SHIFT", type := .int, accessFlags := 26, slot := 0, constantValue := 0 }, { name := "LO_BYTE_SHIFT", type := .int, accessFlags := 26, slot := 1, constantValue := 0 }, { name := "MAX_LENGTH", type := .int, accessFlags := 24, slot := 2, constantValue := 0 }, { name := "$assertionsDisabled", type := .boolean, accessFlags := 4120, slot := 3, constantValue := 0 }]
  methods := #[k8m0, k8m1, k8m2, k8m3]
  instanceTypes := #[]
  staticTypes := #[.int, .int, .int, .boolean]
  resolved := Array.replicate 635 none
  statics := none }

def pool9 : Array CpInfo := pool [(1, .methodref 2 3), (0, .class_ 4), (0, .nameAndType 5 6), (0, u "java/lang/Object"), (0, u "<init>"), (0, u "()V"), (0, .class_ 8), (0, u "java/util/ArrayList"), (0, .methodref 7 3), (0, .fieldref 11 12), (0, .class_ 13), (0, .nameAndType 14 15), (0, u "com/example/assemble/assemble/SettingText"), (0, u "literals"), (0, u "Ljava/util/List;"), (0, .fieldref 11 17), (0, .nameAndType 18 15), (0, u "keys"), (0, .fieldref 11 20), (0, .nameAndType 21 15), (0, u "fallbacks"), (0, .fieldref 11 23), (0, .nameAndType 24 25), (0, u "text"), (0, u "Ljava/lang/String;"), (0, .methodref 11 27), (0, .nameAndType 5 28), (0, u "(Ljava/lang/String;)V"), (0, .string 30), (0, u "${"), (0, .methodref 32 33), (0, .class_ 34), (0, .nameAndType 35 36), (0, u "java/lang/String"), (0, u "indexOf"), (0, u "(Ljava/lang/String;)I"), (0, .methodref 32 38), (0, .nameAndType 35 39), (0, u "(II)I"), (6, .methodref 32 47), (0, .nameAndType 48 49), (0, u "substring"), (0, u "(II)Ljava/lang/String;"), (0, .methodref 32 51), (0, .nameAndType 52 53), (0, u "contains"), (0, u "(Ljava/lang/CharSequence;)Z"), (2, .methodref 32 57), (0, .nameAndType 35 58), (0, u "(I)I"), (0, .methodref 32 60), (0, .nameAndType 61 62), (0, u "isEmpty"), (0, u "()Z"), (2, .interfaceMethodref 66 67), (0, .class_ 68), (0, .nameAndType 69 70), (0, u "java/util/List"), (0, u "add"), (0, u "(Ljava/lang/Object;)Z"), (0, .methodref 32 72), (0, .nameAndType 48 73), (0, u "(I)Ljava/lang/String;"), (0, .methodref 32 75), (0, .nameAndType 35 76), (0, u "(Ljava/lang/String;I)I"), (7, .interfaceMethodref 66 85), (0, .nameAndType 86 87), (0, u "size"), (0, u "()I"), (0, .interfaceMethodref 66 89), (0, .nameAndType 90 91), (0, u "get"), (0, u "(I)Ljava/lang/Object;"), (4, u "parse"), (0, u "(Ljava/lang/String;)Lcom/example/assemble/assemble/SettingText;"), (1, u "placeholders"), (0, u "literal"), (0, u "key"), (0, u "fallback"), (0, u "toString"), (0, u "()Ljava/lang/String;")] 17

def k9c0 : Code := { maxStack := 3, maxLocals := 2, code := cD9, exceptionTable := #[], attributes := #[] }
def k9m0 : Method := { name := "<init>", desc := "(Ljava/lang/String;)V", sig := { parameters := [(.object "java/lang/String")], returnType := none }, accessFlags := 2, code := some k9c0 }
def k9c1 : Code := { maxStack := 4, maxLocals := 8, code := cD8, exceptionTable := #[], attributes := #[] }
def k9m1 : Method := { name := "parse", desc := "(Ljava/lang/String;)Lcom/example/assemble/assemble/SettingText;", sig := { parameters := [(.object "java/lang/String")], returnType := some (.object "com/example/assemble/assemble/SettingText") }, accessFlags := 9, code := some k9c1 }
def k9c2 : Code := { maxStack := 1, maxLocals := 1, code := cD28, exceptionTable := #[], attributes := #[] }
def k9m2 : Method := { name := "placeholders", desc := "()I", sig := { parameters := [], returnType := some .int }, accessFlags := 0, code := some k9c2 }
def k9c3 : Code := { maxStack := 2, maxLocals := 2, code := cD32, exceptionTable := #[], attributes := #[] }
def k9m3 : Method := { name := "literal", desc := "(I)Ljava/lang/String;", sig := { parameters := [.int], returnType := some (.object "java/lang/String") }, accessFlags := 0, code := some k9c3 }
def k9c4 : Code := { maxStack := 2, maxLocals := 2, code := cD61, exceptionTable := #[], attributes := #[] }
def k9m4 : Method := { name := "key", desc := "(I)Ljava/lang/String;", sig := { parameters := [.int], returnType := some (.object "java/lang/String") }, accessFlags := 0, code := some k9c4 }
def k9c5 : Code := { maxStack := 2, maxLocals := 2, code := cD62, exceptionTable := #[], attributes := #[] }
def k9m5 : Method := { name := "fallback", desc := "(I)Ljava/lang/String;", sig := { parameters := [.int], returnType := some (.object "java/lang/String") }, accessFlags := 0, code := some k9c5 }
def k9c6 : Code := { maxStack := 1, maxLocals := 1, code := cD30, exceptionTable := #[], attributes := #[] }
def k9m6 : Method := { name := "toString", desc := "()Ljava/lang/String;", sig := { parameters := [], returnType := some (.object "java/lang/String") }, accessFlags := 1, code := some k9c6 }
/-- com/example/assemble/assemble/SettingText -/
def k9 : Class := { plain "com/example/assemble/assemble/SettingText" (some 0) with
  accessFlags := 33
  interfaces := #[]
  cf := some (fileOf pool9 11 #[] #[{ accessFlags := 2, nameIndex := 5, descriptorIndex := 28, attributes := #[] }, { accessFlags := 9, nameIndex := 96, descriptorIndex := 97, attributes := #[] }, { accessFlags := 0, nameIndex := 99, descriptorIndex := 87, attributes := #[] }, { accessFlags := 0, nameIndex := 100, descriptorIndex := 73, attributes := #[] }, { accessFlags := 0, nameIndex := 101, descriptorIndex := 73, attributes := #[] }, { accessFlags := 0, nameIndex := 102, descriptorIndex := 73, attributes := #[] }, { accessFlags := 1, nameIndex := 103, descriptorIndex := 104, attributes := #[] }] 33 2 #[] #[{ accessFlags := 18, nameIndex := 24, descriptorIndex := 25, attributes := #[] }, { accessFlags := 18, nameIndex := 14, descriptorIndex := 15, attributes := #[] }, { accessFlags := 18, nameIndex := 18, descriptorIndex := 15, attributes := #[] }, { accessFlags := 18, nameIndex := 21, descriptorIndex := 15, attributes := #[] }])
  fields := #[{ name := "text", type := (.object "java/lang/String"), accessFlags := 18, slot := 0, constantValue := 0 }, { name := "literals", type := (.object "java/util/List"), accessFlags := 18, slot := 1, constantValue := 0 }, { name := "keys", type := (.object "java/util/List"), accessFlags := 18, slot := 2, constantValue := 0 }, { name := "fallbacks", type := (.object "java/util/List"), accessFlags := 18, slot := 3, constantValue := 0 }]
  methods := #[k9m0, k9m1, k9m2, k9m3, k9m4, k9m5, k9m6]
  instanceTypes := #[(.object "java/lang/String"), (.object "java/util/List"), (.object "java/util/List"), (.object "java/util/List")]
  staticTypes := #[]
  resolved := Array.replicate 122 none
  statics := none }

def pool10 : Array CpInfo := pool [(8, .class_ 10), (1, u "java/lang/Iterable"), (24, .class_ 36), (0, u "java/lang/Object")] 25

/-- java/lang/Iterable -/
def k10 : Class := { plain "java/lang/Iterable" (some 0) with
  accessFlags := 1537
  interfaces := #[]
  cf := some (fileOf pool10 8 #[] #[] 1537 35 #[] #[])
  fields := #[]
  methods := #[]
  instanceTypes := #[]
  staticTypes := #[]
  resolved := Array.replicate 62 none
  statics := none }

def pool11 : Array CpInfo := pool [(10, .class_ 12), (1, u "java/util/Collection"), (47, .class_ 61), (0, u "java/lang/Object"), (0, .class_ 63), (0, u "java/lang/Iterable")] 51

/-- java/util/Collection -/
def k11 : Class := { plain "java/util/Collection" (some 0) with
  accessFlags := 1537
  interfaces := #[10]
  cf := some (fileOf pool11 10 #[] #[] 1537 60 #[62] #[])
  fields := #[]
  methods := #[]
  instanceTypes := #[]
  staticTypes := #[]
  resolved := Array.replicate 115 none
  statics := none }

def pool12 : Array CpInfo := pool [(1, .methodref 2 3), (0, .class_ 4), (0, .nameAndType 5 6), (0, u "java/lang/Object"), (0, u "<init>"), (0, u "()V"), (1, .class_ 10), (1, u "java/util/AbstractCollection"), (66, .class_ 78), (0, u "java/util/Collection")] 81

def k12c0 : Code := { maxStack := 1, maxLocals := 1, code := cD12, exceptionTable := #[], attributes := #[] }
def k12m0 : Method := { name := "<init>", desc := "()V", sig := { parameters := [], returnType := none }, accessFlags := 4, code := some k12c0 }
/-- java/util/AbstractCollection -/
def k12 : Class := { plain "java/util/AbstractCollection" (some 0) with
  accessFlags := 1057
  interfaces := #[11]
  cf := some (fileOf pool12 8 #[] #[{ accessFlags := 4, nameIndex := 5, descriptorIndex := 6, attributes := #[] }] 1057 2 #[77] #[])
  fields := #[]
  methods := #[k12m0]
  instanceTypes := #[]
  staticTypes := #[]
  resolved := Array.replicate 160 none
  statics := none }

def pool13 : Array CpInfo := pool [(8, .class_ 10), (1, u "java/util/SequencedCollection"), (15, .class_ 27), (0, u "java/lang/Object"), (0, .class_ 29), (0, u "java/util/Collection")] 27

/-- java/util/SequencedCollection -/
def k13 : Class := { plain "java/util/SequencedCollection" (some 0) with
  accessFlags := 1537
  interfaces := #[11]
  cf := some (fileOf pool13 8 #[] #[] 1537 26 #[28] #[])
  fields := #[]
  methods := #[]
  instanceTypes := #[]
  staticTypes := #[]
  resolved := Array.replicate 57 none
  statics := none }

def pool14 : Array CpInfo := pool [(8, .class_ 10), (1, u "java/util/List"), (49, u "add"), (3, u "(Ljava/lang/Object;)Z"), (10, u "get"), (0, u "(I)Ljava/lang/Object;"), (2, u "size"), (0, u "()I"), (22, .class_ 104), (0, u "java/lang/Object"), (15, .class_ 121), (0, u "java/util/SequencedCollection")] 129

def k14m0 : Method := { name := "size", desc := "()I", sig := { parameters := [], returnType := some .int }, accessFlags := 1025, code := none }
def k14m1 : Method := { name := "add", desc := "(Ljava/lang/Object;)Z", sig := { parameters := [(.object "java/lang/Object")], returnType := some .boolean }, accessFlags := 1025, code := none }
def k14m2 : Method := { name := "get", desc := "(I)Ljava/lang/Object;", sig := { parameters := [.int], returnType := some (.object "java/lang/Object") }, accessFlags := 1025, code := none }
/-- java/util/List -/
def k14 : Class := { plain "java/util/List" (some 0) with
  accessFlags := 1537
  interfaces := #[13]
  cf := some (fileOf pool14 8 #[] #[{ accessFlags := 1025, nameIndex := 79, descriptorIndex := 80, attributes := #[] }, { accessFlags := 1025, nameIndex := 60, descriptorIndex := 64, attributes := #[] }, { accessFlags := 1025, nameIndex := 75, descriptorIndex := 76, attributes := #[] }] 1537 103 #[120] #[])
  fields := #[]
  methods := #[k14m0, k14m1, k14m2]
  instanceTypes := #[]
  staticTypes := #[]
  resolved := Array.replicate 251 none
  statics := none }

def pool15 : Array CpInfo := pool [(1, .methodref 2 3), (0, .class_ 4), (0, .nameAndType 5 6), (0, u "java/util/AbstractCollection"), (0, u "<init>"), (0, u "()V"), (0, .fieldref 8 9), (0, .class_ 10), (0, .nameAndType 11 12), (0, u "java/util/AbstractList"), (0, u "modCount"), (0, u "I"), (64, .class_ 78), (0, u "java/util/AbstractList$Itr"), (3, .class_ 83), (0, u "java/util/AbstractList$ListItr"), (9, .class_ 94), (0, u "java/util/AbstractList$RandomAccessSubList"), (3, .class_ 99), (0, u "java/util/AbstractList$SubList"), (33, .class_ 134), (0, u "java/util/List"), (73, .class_ 209), (0, u "java/util/AbstractList$SubList$1"), (0, .class_ 211), (0, u "java/util/AbstractList$RandomAccessSpliterator")] 6

def k15c0 : Code := { maxStack := 2, maxLocals := 1, code := cD11, exceptionTable := #[], attributes := #[] }
def k15m0 : Method := { name := "<init>", desc := "()V", sig := { parameters := [], returnType := none }, accessFlags := 4, code := some k15c0 }
/-- java/util/AbstractList -/
def k15 : Class := { plain "java/util/AbstractList" (some 12) with
  accessFlags := 1057
  interfaces := #[14]
  cf := some (fileOf pool15 8 #[.nestMembers #[93, 98, 208, 210, 82, 77]] #[{ accessFlags := 4, nameIndex := 5, descriptorIndex := 6, attributes := #[] }] 1057 2 #[133] #[{ accessFlags := 132, nameIndex := 11, descriptorIndex := 12, attributes := #[] }])
  fields := #[{ name := "modCount", type := .int, accessFlags := 132, slot := 0, constantValue := 0 }]
  methods := #[k15m0]
  instanceTypes := #[.int]
  staticTypes := #[]
  resolved := Array.replicate 218 none
  statics := none }

def pool16 : Array CpInfo := pool [(1, .class_ 2), (0, u "java/util/RandomAccess"), (0, .class_ 4), (0, u "java/lang/Object")] 2

/-- java/util/RandomAccess -/
def k16 : Class := { plain "java/util/RandomAccess" (some 0) with
  accessFlags := 1537
  interfaces := #[]
  cf := some (fileOf pool16 1 #[] #[] 1537 3 #[] #[])
  fields := #[]
  methods := #[]
  instanceTypes := #[]
  staticTypes := #[]
  resolved := Array.replicate 7 none
  statics := none }

def pool17 : Array CpInfo := pool [(1, .class_ 2), (0, u "java/lang/Cloneable"), (0, .class_ 4), (0, u "java/lang/Object")] 2

/-- java/lang/Cloneable -/
def k17 : Class := { plain "java/lang/Cloneable" (some 0) with
  accessFlags := 1537
  interfaces := #[]
  cf := some (fileOf pool17 1 #[] #[] 1537 3 #[] #[])
  fields := #[]
  methods := #[]
  instanceTypes := #[]
  staticTypes := #[]
  resolved := Array.replicate 7 none
  statics := none }

def pool18 : Array CpInfo := pool [(1, .methodref 2 3), (0, .class_ 4), (0, .nameAndType 5 6), (0, u "java/util/AbstractList"), (0, u "<init>"), (0, u "()V"), (0, .class_ 8), (0, u "java/lang/Object"), (0, .fieldref 10 11), (0, .class_ 12), (0, .nameAndType 13 14), (0, u "java/util/ArrayList"), (0, u "elementData"), (0, u "[Ljava/lang/Object;"), (2, u "EMPTY_ELEMENTDATA"), (21, .fieldref 10 40), (0, .nameAndType 41 14), (0, u "DEFAULTCAPACITY_EMPTY_ELEMENTDATA"), (5, u "()[Ljava/lang/Object;"), (0, .fieldref 10 49), (0, .nameAndType 50 51), (0, u "size"), (0, u "I"), (11, .fieldref 10 64), (0, .nameAndType 65 51), (0, u "modCount"), (3, .methodref 10 70), (0, .nameAndType 71 72), (0, u "grow"), (0, u "(I)[Ljava/lang/Object;"), (6, .methodref 80 81), (0, .class_ 82), (0, .nameAndType 83 84), (0, u "java/lang/Math"), (0, u "max"), (0, u "(II)I"), (11, u "(Ljava/lang/Object;)Z"), (21, .methodref 119 120), (0, .class_ 121), (0, .nameAndType 122 84), (0, u "java/util/Objects"), (0, u "checkIndex"), (0, .methodref 10 124), (0, .nameAndType 13 125), (0, u "(I)Ljava/lang/Object;"), (3, .methodref 10 130), (0, .nameAndType 71 47), (0, .methodref 10 132), (0, .nameAndType 133 134), (0, u "add"), (0, u "(Ljava/lang/Object;[Ljava/lang/Object;I)V"), (13, .class_ 149), (0, u "java/util/List"), (36, u "()I"), (75, .class_ 263), (0, u "java/util/ArrayList$ListItr"), (3, .class_ 268), (0, u "java/util/ArrayList$Itr"), (7, .class_ 277), (0, u "java/util/ArrayList$SubList"), (12, .class_ 291), (0, u "java/util/ArrayList$ArrayListSpliterator"), (37, .class_ 330), (0, u "java/util/RandomAccess"), (0, .class_ 332), (0, u "java/lang/Cloneable"), (0, .class_ 334), (0, u "java/io/Serializable"), (0, u "serialVersionUID"), (0, u "J"), (3, u "DEFAULT_CAPACITY"), (40, u "get"), (118, .class_ 501), (0, u "java/util/ArrayList$SubList$2"), (0, .class_ 503), (0, u "java/util/ArrayList$SubList$1")] 5

def k18c0 : Code := { maxStack := 2, maxLocals := 1, code := cD10, exceptionTable := #[], attributes := #[] }
def k18m0 : Method := { name := "<init>", desc := "()V", sig := { parameters := [], returnType := none }, accessFlags := 1, code := some k18c0 }
def k18c1 : Code := { maxStack := 4, maxLocals := 4, code := cD26, exceptionTable := #[], attributes := #[] }
def k18m1 : Method := { name := "grow", desc := "(I)[Ljava/lang/Object;", sig := { parameters := [.int], returnType := some (.array (.object "java/lang/Object")) }, accessFlags := 2, code := some k18c1 }
def k18c2 : Code := { maxStack := 3, maxLocals := 1, code := cD25, exceptionTable := #[], attributes := #[] }
def k18m2 : Method := { name := "grow", desc := "()[Ljava/lang/Object;", sig := { parameters := [], returnType := some (.array (.object "java/lang/Object")) }, accessFlags := 2, code := some k18c2 }
def k18c3 : Code := { maxStack := 1, maxLocals := 1, code := cD29, exceptionTable := #[], attributes := #[] }
def k18m3 : Method := { name := "size", desc := "()I", sig := { parameters := [], returnType := some .int }, accessFlags := 1, code := some k18c3 }
def k18c4 : Code := { maxStack := 2, maxLocals := 2, code := cD36, exceptionTable := #[], attributes := #[] }
def k18m4 : Method := { name := "elementData", desc := "(I)Ljava/lang/Object;", sig := { parameters := [.int], returnType := some (.object "java/lang/Object") }, accessFlags := 0, code := some k18c4 }
def k18c5 : Code := { maxStack := 2, maxLocals := 2, code := cD33, exceptionTable := #[], attributes := #[] }
def k18m5 : Method := { name := "get", desc := "(I)Ljava/lang/Object;", sig := { parameters := [.int], returnType := some (.object "java/lang/Object") }, accessFlags := 1, code := some k18c5 }
def k18c6 : Code := { maxStack := 3, maxLocals := 4, code := cD24, exceptionTable := #[], attributes := #[] }
def k18m6 : Method := { name := "add", desc := "(Ljava/lang/Object;[Ljava/lang/Object;I)V", sig := { parameters := [(.object "java/lang/Object"), (.array (.object "java/lang/Object")), .int], returnType := none }, accessFlags := 2, code := some k18c6 }
def k18c7 : Code := { maxStack := 4, maxLocals := 2, code := cD23, exceptionTable := #[], attributes := #[] }
def k18m7 : Method := { name := "add", desc := "(Ljava/lang/Object;)Z", sig := { parameters := [(.object "java/lang/Object")], returnType := some .boolean }, accessFlags := 1, code := some k18c7 }
/-- java/util/ArrayList -/
def k18 : Class := { plain "java/util/ArrayList" (some 15) with
  accessFlags := 33
  interfaces := #[14, 16, 17, 2]
  cf := some (fileOf pool18 10 #[.nestMembers #[290, 276, 500, 502, 262, 267]] #[{ accessFlags := 1, nameIndex := 5, descriptorIndex := 6, attributes := #[] }, { accessFlags := 2, nameIndex := 71, descriptorIndex := 72, attributes := #[] }, { accessFlags := 2, nameIndex := 71, descriptorIndex := 47, attributes := #[] }, { accessFlags := 1, nameIndex := 50, descriptorIndex := 186, attributes := #[] }, { accessFlags := 0, nameIndex := 13, descriptorIndex := 125, attributes := #[] }, { accessFlags := 1, nameIndex := 381, descriptorIndex := 125, attributes := #[] }, { accessFlags := 2, nameIndex := 133, descriptorIndex := 134, attributes := #[] }, { accessFlags := 1, nameIndex := 133, descriptorIndex := 96, attributes := #[] }] 33 2 #[148, 329, 331, 333] #[{ accessFlags := 26, nameIndex := 335, descriptorIndex := 336, attributes := #[] }, { accessFlags := 26, nameIndex := 340, descriptorIndex := 51, attributes := #[] }, { accessFlags := 26, nameIndex := 17, descriptorIndex := 14, attributes := #[] }, { accessFlags := 26, nameIndex := 41, descriptorIndex := 14, attributes := #[] }, { accessFlags := 128, nameIndex := 13, descriptorIndex := 14, attributes := #[] }, { accessFlags := 2, nameIndex := 50, descriptorIndex := 51, attributes := #[] }])
  fields := #[{ name := "serialVersionUID", type := .long, accessFlags := 26, slot := 0, constantValue := 0 }, { name := "DEFAULT_CAPACITY", type := .int, accessFlags := 26, slot := 1, constantValue := 0 }, { name := "EMPTY_ELEMENTDATA", type := (.array (.object "java/lang/Object")), accessFlags := 26, slot := 2, constantValue := 0 }, { name := "DEFAULTCAPACITY_EMPTY_ELEMENTDATA", type := (.array (.object "java/lang/Object")), accessFlags := 26, slot := 3, constantValue := 0 }, { name := "elementData", type := (.array (.object "java/lang/Object")), accessFlags := 128, slot := 1, constantValue := 0 }, { name := "size", type := .int, accessFlags := 2, slot := 2, constantValue := 0 }]
  methods := #[k18m0, k18m1, k18m2, k18m3, k18m4, k18m5, k18m6, k18m7]
  instanceTypes := #[.int, (.array (.object "java/lang/Object")), .int]
  staticTypes := #[.long, .int, (.array (.object "java/lang/Object")), (.array (.object "java/lang/Object"))]
  resolved := Array.replicate 509 none
  statics := some 1 }

def pool19 : Array CpInfo := pool [(1, .class_ 2), (0, u "java/lang/String"), (1, .class_ 6), (1, u "java/lang/Object"), (0, u "<init>"), (0, u "()V"), (0, .methodref 1 10), (0, .nameAndType 11 12), (0, u "checkIndex"), (0, u "(II)V"), (1, .class_ 16), (1, u "java/lang/StringLatin1"), (21, .methodref 39 40), (0, .class_ 41), (0, .nameAndType 42 43), (0, u "java/lang/Math"), (0, u "min"), (0, u "(II)I"), (9, u "([BI)C"), (34, .methodref 14 89), (0, .nameAndType 90 91), (0, u "canEncode"), (0, u "(I)Z"), (0, .methodref 39 93), (0, .nameAndType 94 43), (0, u "max"), (0, .methodref 14 96), (0, .nameAndType 97 98), (0, u "indexOfChar"), (0, u "([BIII)I"), (0, .methodref 14 100), (0, .nameAndType 101 102), (0, u "indexOf"), (0, u "([BI[BII)I"), (9, .methodref 1 113), (0, .nameAndType 7 114), (0, u "([BB)V"), (6, u "$assertionsDisabled"), (0, u "Z"), (8, .class_ 133), (1, u "java/util/Arrays"), (17, .string 152), (0, u ""), (43, u "newString"), (0, u "([BII)Ljava/lang/String;"), (23, .class_ 223), (1, u "java/lang/StringLatin1$LinesSpliterator"), (8, .methodref 131 233), (0, .nameAndType 234 235), (0, u "copyOfRange"), (0, u "([BII)[B"), (16, u "charAt"), (34, u "([B[B)I"), (102, .class_ 391), (0, u "java/lang/StringLatin1$CharsSpliterator")] 3

def k19m0 : Method := { name := "<init>", desc := "()V", sig := { parameters := [], returnType := none }, accessFlags := 0, code := none }
def k19c1 : Code := { maxStack := 2, maxLocals := 2, code := cD39, exceptionTable := #[], attributes := #[] }
def k19m1 : Method := { name := "charAt", desc := "([BI)C", sig := { parameters := [(.array .byte), .int], returnType := some .char }, accessFlags := 9, code := some k19c1 }
def k19c2 : Code := { maxStack := 2, maxLocals := 1, code := cD44, exceptionTable := #[], attributes := #[] }
def k19m2 : Method := { name := "canEncode", desc := "(I)Z", sig := { parameters := [.int], returnType := some .boolean }, accessFlags := 9, code := some k19c2 }
def k19c3 : Code := { maxStack := 4, maxLocals := 4, code := cD43, exceptionTable := #[], attributes := #[] }
def k19m3 : Method := { name := "indexOf", desc := "([BIII)I", sig := { parameters := [(.array .byte), .int, .int, .int], returnType := some .int }, accessFlags := 9, code := some k19c3 }
def k19c4 : Code := { maxStack := 2, maxLocals := 6, code := cD46, exceptionTable := #[], attributes := #[] }
def k19m4 : Method := { name := "indexOfChar", desc := "([BIII)I", sig := { parameters := [(.array .byte), .int, .int, .int], returnType := some .int }, accessFlags := 10, code := some k19c4 }
def k19c5 : Code := { maxStack := 5, maxLocals := 2, code := cD16, exceptionTable := #[], attributes := #[] }
def k19m5 : Method := { name := "indexOf", desc := "([B[B)I", sig := { parameters := [(.array .byte), (.array .byte)], returnType := some .int }, accessFlags := 9, code := some k19c5 }
def k19c6 : Code := { maxStack := 3, maxLocals := 11, code := cD17, exceptionTable := #[], attributes := #[] }
def k19m6 : Method := { name := "indexOf", desc := "([BI[BII)I", sig := { parameters := [(.array .byte), .int, (.array .byte), .int, .int], returnType := some .int }, accessFlags := 9, code := some k19c6 }
def k19c7 : Code := { maxStack := 6, maxLocals := 3, code := cD47, exceptionTable := #[], attributes := #[] }
def k19m7 : Method := { name := "newString", desc := "([BII)Ljava/lang/String;", sig := { parameters := [(.array .byte), .int, .int], returnType := some (.object "java/lang/String") }, accessFlags := 9, code := some k19c7 }
/-- java/lang/StringLatin1 -/
def k19 : Class := { plain "java/lang/StringLatin1" (some 0) with
  accessFlags := 48
  interfaces := #[]
  cf := some (fileOf pool19 14 #[.nestMembers #[390, 221]] #[{ accessFlags := 0, nameIndex := 7, descriptorIndex := 8, attributes := #[] }, { accessFlags := 9, nameIndex := 252, descriptorIndex := 53, attributes := #[] }, { accessFlags := 9, nameIndex := 90, descriptorIndex := 91, attributes := #[] }, { accessFlags := 9, nameIndex := 101, descriptorIndex := 98, attributes := #[] }, { accessFlags := 10, nameIndex := 97, descriptorIndex := 98, attributes := #[] }, { accessFlags := 9, nameIndex := 101, descriptorIndex := 287, attributes := #[] }, { accessFlags := 9, nameIndex := 101, descriptorIndex := 102, attributes := #[] }, { accessFlags := 9, nameIndex := 196, descriptorIndex := 197, attributes := #[] }] 48 4 #[] #[{ accessFlags := 4120, nameIndex := 121, descriptorIndex := 122, attributes := #[] }])
  fields := #[{ name := "$assertionsDisabled", type := .boolean, accessFlags := 4120, slot := 0, constantValue := 0 }]
  methods := #[k19m0, k19m1, k19m2, k19m3, k19m4, k19m5, k19m6, k19m7]
  instanceTypes := #[]
  staticTypes := #[.boolean]
  resolved := Array.replicate 395 none
  statics := none }

def pool20 : Array CpInfo := pool [(2, .class_ 4), (1, u "java/lang/Object"), (0, u "<init>"), (0, u "()V"), (17, .class_ 26), (1, u "jdk/internal/util/Preconditions"), (6, u "checkIndex"), (13, u "checkFromToIndex"), (7, .class_ 56), (0, u "jdk/internal/util/Preconditions$4"), (57, .class_ 115), (0, u "jdk/internal/util/Preconditions$1"), (7, u "SIOOBE_FORMATTER"), (0, u "Ljava/util/function/BiFunction;"), (0, .class_ 126), (0, u "jdk/internal/util/Preconditions$2"), (3, u "AIOOBE_FORMATTER"), (0, .class_ 132), (0, u "jdk/internal/util/Preconditions$3"), (3, u "IOOBE_FORMATTER"), (41, u "(IILjava/util/function/BiFunction;)I"), (4, u "(IIILjava/util/function/BiFunction;)I")] 10

def k20m0 : Method := { name := "<init>", desc := "()V", sig := { parameters := [], returnType := none }, accessFlags := 1, code := none }
def k20c1 : Code := { maxStack := 3, maxLocals := 3, code := cD35, exceptionTable := #[], attributes := #[] }
def k20m1 : Method := { name := "checkIndex", desc := "(IILjava/util/function/BiFunction;)I", sig := { parameters := [.int, .int, (.object "java/util/function/BiFunction")], returnType := some .int }, accessFlags := 9, code := some k20c1 }
def k20c2 : Code := { maxStack := 4, maxLocals := 4, code := cD22, exceptionTable := #[], attributes := #[] }
def k20m2 : Method := { name := "checkFromToIndex", desc := "(IIILjava/util/function/BiFunction;)I", sig := { parameters := [.int, .int, .int, (.object "java/util/function/BiFunction")], returnType := some .int }, accessFlags := 9, code := some k20c2 }
/-- jdk/internal/util/Preconditions -/
def k20 : Class := { plain "jdk/internal/util/Preconditions" (some 0) with
  accessFlags := 33
  interfaces := #[]
  cf := some (fileOf pool20 24 #[.nestMembers #[55, 131, 125, 114]] #[{ accessFlags := 1, nameIndex := 5, descriptorIndex := 6, attributes := #[] }, { accessFlags := 9, nameIndex := 33, descriptorIndex := 178, attributes := #[] }, { accessFlags := 9, nameIndex := 47, descriptorIndex := 183, attributes := #[] }] 33 2 #[] #[{ accessFlags := 25, nameIndex := 123, descriptorIndex := 124, attributes := #[] }, { accessFlags := 25, nameIndex := 130, descriptorIndex := 124, attributes := #[] }, { accessFlags := 25, nameIndex := 136, descriptorIndex := 124, attributes := #[] }])
  fields := #[{ name := "SIOOBE_FORMATTER", type := (.object "java/util/function/BiFunction"), accessFlags := 25, slot := 0, constantValue := 0 }, { name := "AIOOBE_FORMATTER", type := (.object "java/util/function/BiFunction"), accessFlags := 25, slot := 1, constantValue := 0 }, { name := "IOOBE_FORMATTER", type := (.object "java/util/function/BiFunction"), accessFlags := 25, slot := 2, constantValue := 0 }]
  methods := #[k20m0, k20m1, k20m2]
  instanceTypes := #[]
  staticTypes := #[(.object "java/util/function/BiFunction"), (.object "java/util/function/BiFunction"), (.object "java/util/function/BiFunction")]
  resolved := Array.replicate 194 none
  statics := some 2 }

def pool21 : Array CpInfo := pool [(1, .class_ 2), (0, u "java/lang/Math"), (1, .class_ 6), (1, u "java/lang/Object"), (0, u "<init>"), (0, u "()V"), (89, .class_ 100), (1, u "java/lang/Math$RandomNumberGeneratorHolder"), (20, u "(JJ)J"), (50, u "negativeZeroFloatBits"), (0, u "J"), (2, u "negativeZeroDoubleBits"), (19, .methodref 1 197), (0, .nameAndType 198 121), (0, u "max"), (0, .methodref 1 200), (0, .nameAndType 201 121), (0, u "min"), (43, u "$assertionsDisabled"), (0, u "Z"), (88, u "(II)I"), (2, u "twoToTheDoubleScaleDown"), (0, u "D"), (4, u "twoToTheDoubleScaleUp"), (9, u "E"), (3, u "PI"), (2, u "TAU"), (2, u "DEGREES_TO_RADIANS"), (0, u "RADIANS_TO_DEGREES"), (56, u "clamp"), (0, u "(JII)I")] 36

def k21m0 : Method := { name := "<init>", desc := "()V", sig := { parameters := [], returnType := none }, accessFlags := 2, code := none }
def k21c1 : Code := { maxStack := 2, maxLocals := 2, code := cD27, exceptionTable := #[], attributes := #[] }
def k21m1 : Method := { name := "max", desc := "(II)I", sig := { parameters := [.int, .int], returnType := some .int }, accessFlags := 9, code := some k21c1 }
def k21c2 : Code := { maxStack := 4, maxLocals := 4, code := cD59, exceptionTable := #[], attributes := #[] }
def k21m2 : Method := { name := "max", desc := "(JJ)J", sig := { parameters := [.long, .long], returnType := some .long }, accessFlags := 9, code := some k21c2 }
def k21c3 : Code := { maxStack := 2, maxLocals := 2, code := cD45, exceptionTable := #[], attributes := #[] }
def k21m3 : Method := { name := "min", desc := "(II)I", sig := { parameters := [.int, .int], returnType := some .int }, accessFlags := 9, code := some k21c3 }
def k21c4 : Code := { maxStack := 4, maxLocals := 4, code := cD60, exceptionTable := #[], attributes := #[] }
def k21m4 : Method := { name := "min", desc := "(JJ)J", sig := { parameters := [.long, .long], returnType := some .long }, accessFlags := 9, code := some k21c4 }
def k21c5 : Code := { maxStack := 6, maxLocals := 4, code := cD58, exceptionTable := #[], attributes := #[] }
def k21m5 : Method := { name := "clamp", desc := "(JII)I", sig := { parameters := [.long, .int, .int], returnType := some .int }, accessFlags := 9, code := some k21c5 }
/-- java/lang/Math -/
def k21 : Class := { plain "java/lang/Math" (some 0) with
  accessFlags := 49
  interfaces := #[]
  cf := some (fileOf pool21 1 #[.nestMembers #[98]] #[{ accessFlags := 2, nameIndex := 7, descriptorIndex := 8, attributes := #[] }, { accessFlags := 9, nameIndex := 198, descriptorIndex := 335, attributes := #[] }, { accessFlags := 9, nameIndex := 198, descriptorIndex := 121, attributes := #[] }, { accessFlags := 9, nameIndex := 201, descriptorIndex := 335, attributes := #[] }, { accessFlags := 9, nameIndex := 201, descriptorIndex := 121, attributes := #[] }, { accessFlags := 9, nameIndex := 422, descriptorIndex := 423, attributes := #[] }] 49 4 #[] #[{ accessFlags := 25, nameIndex := 354, descriptorIndex := 339, attributes := #[] }, { accessFlags := 25, nameIndex := 358, descriptorIndex := 339, attributes := #[] }, { accessFlags := 25, nameIndex := 361, descriptorIndex := 339, attributes := #[] }, { accessFlags := 26, nameIndex := 364, descriptorIndex := 339, attributes := #[] }, { accessFlags := 26, nameIndex := 365, descriptorIndex := 339, attributes := #[] }, { accessFlags := 26, nameIndex := 172, descriptorIndex := 173, attributes := #[] }, { accessFlags := 26, nameIndex := 176, descriptorIndex := 173, attributes := #[] }, { accessFlags := 8, nameIndex := 344, descriptorIndex := 339, attributes := #[] }, { accessFlags := 8, nameIndex := 338, descriptorIndex := 339, attributes := #[] }, { accessFlags := 4120, nameIndex := 245, descriptorIndex := 246, attributes := #[] }])
  fields := #[{ name := "E", type := .double, accessFlags := 25, slot := 0, constantValue := 0 }, { name := "PI", type := .double, accessFlags := 25, slot := 1, constantValue := 0 }, { name := "TAU", type := .double, accessFlags := 25, slot := 2, constantValue := 0 }, { name := "DEGREES_TO_RADIANS", type := .double, accessFlags := 26, slot := 3, constantValue := 0 }, { name := "RADIANS_TO_DEGREES", type := .double, accessFlags := 26, slot := 4, constantValue := 0 }, { name := "negativeZeroFloatBits", type := .long, accessFlags := 26, slot := 5, constantValue := 0 }, { name := "negativeZeroDoubleBits", type := .long, accessFlags := 26, slot := 6, constantValue := 0 }, { name := "twoToTheDoubleScaleUp", type := .double, accessFlags := 8, slot := 7, constantValue := 0 }, { name := "twoToTheDoubleScaleDown", type := .double, accessFlags := 8, slot := 8, constantValue := 0 }, { name := "$assertionsDisabled", type := .boolean, accessFlags := 4120, slot := 9, constantValue := 0 }]
  methods := #[k21m0, k21m1, k21m2, k21m3, k21m4, k21m5]
  instanceTypes := #[]
  staticTypes := #[.double, .double, .double, .double, .double, .long, .long, .double, .double, .boolean]
  resolved := Array.replicate 460 none
  statics := none }

def pool22 : Array CpInfo := pool [(2, .class_ 4), (1, u "java/lang/Object"), (0, u "<init>"), (0, u "()V"), (35, .class_ 44), (1, u "java/util/Objects"), (60, .methodref 106 107), (0, .class_ 108), (0, .nameAndType 109 110), (0, u "jdk/internal/util/Preconditions"), (0, u "checkIndex"), (0, u "(IILjava/util/function/BiFunction;)I"), (60, u "(II)I")] 12

def k22m0 : Method := { name := "<init>", desc := "()V", sig := { parameters := [], returnType := none }, accessFlags := 2, code := none }
def k22c1 : Code := { maxStack := 3, maxLocals := 2, code := cD34, exceptionTable := #[], attributes := #[] }
def k22m1 : Method := { name := "checkIndex", desc := "(II)I", sig := { parameters := [.int, .int], returnType := some .int }, accessFlags := 9, code := some k22c1 }
/-- java/util/Objects -/
def k22 : Class := { plain "java/util/Objects" (some 0) with
  accessFlags := 49
  interfaces := #[]
  cf := some (fileOf pool22 42 #[] #[{ accessFlags := 2, nameIndex := 5, descriptorIndex := 6, attributes := #[] }, { accessFlags := 9, nameIndex := 109, descriptorIndex := 171, attributes := #[] }] 49 2 #[] #[])
  fields := #[]
  methods := #[k22m0, k22m1]
  instanceTypes := #[]
  staticTypes := #[]
  resolved := Array.replicate 184 none
  statics := none }

def pool23 : Array CpInfo := pool [(2, .class_ 4), (1, u "java/lang/Object"), (0, u "<init>"), (0, u "()V"), (7, .class_ 16), (1, u "java/util/Arrays"), (57, .class_ 76), (1, u "java/util/Arrays$NaturalOrder"), (36, .class_ 115), (1, u "java/util/Arrays$LegacyMergeSort"), (1, u "Z"), (21, u "copyOfRange"), (10, .methodref 151 152), (0, .class_ 153), (0, .nameAndType 154 155), (0, u "java/lang/System"), (0, u "arraycopy"), (0, u "(Ljava/lang/Object;ILjava/lang/Object;II)V"), (148, .methodref 305 306), (0, .class_ 307), (0, .nameAndType 308 309), (0, u "java/lang/Math"), (0, u "min"), (0, u "(II)I"), (29, .methodref 14 340), (0, .nameAndType 341 342), (0, u "copyOfRangeByte"), (0, u "([BII)[B"), (0, .methodref 14 344), (0, .nameAndType 345 346), (0, u "checkLength"), (0, u "(II)V"), (28, .class_ 376), (0, u "java/util/Arrays$ArrayList"), (68, u "$assertionsDisabled"), (269, u "MIN_ARRAY_SORT_GRAN"), (0, u "I"), (2, u "INSERTIONSORT_THRESHOLD"), (255, .class_ 976), (0, u "java/util/Arrays$ArrayItr")] 52

def k23m0 : Method := { name := "<init>", desc := "()V", sig := { parameters := [], returnType := none }, accessFlags := 2, code := none }
def k23c1 : Code := { maxStack := 4, maxLocals := 2, code := cD50, exceptionTable := #[], attributes := #[] }
def k23m1 : Method := { name := "checkLength", desc := "(II)V", sig := { parameters := [.int, .int], returnType := none }, accessFlags := 10, code := some k23c1 }
def k23c2 : Code := { maxStack := 3, maxLocals := 3, code := cD48, exceptionTable := #[], attributes := #[] }
def k23m2 : Method := { name := "copyOfRange", desc := "([BII)[B", sig := { parameters := [(.array .byte), .int, .int], returnType := some (.array .byte) }, accessFlags := 9, code := some k23c2 }
def k23c3 : Code := { maxStack := 6, maxLocals := 5, code := cD49, exceptionTable := #[], attributes := #[] }
def k23m3 : Method := { name := "copyOfRangeByte", desc := "([BII)[B", sig := { parameters := [(.array .byte), .int, .int], returnType := some (.array .byte) }, accessFlags := 10, code := some k23c3 }
/-- java/util/Arrays -/
def k23 : Class := { plain "java/util/Arrays" (some 0) with
  accessFlags := 49
  interfaces := #[]
  cf := some (fileOf pool23 14 #[.nestMembers #[975, 375, 113, 74]] #[{ accessFlags := 2, nameIndex := 5, descriptorIndex := 6, attributes := #[] }, { accessFlags := 10, nameIndex := 345, descriptorIndex := 346, attributes := #[] }, { accessFlags := 9, nameIndex := 139, descriptorIndex := 342, attributes := #[] }, { accessFlags := 10, nameIndex := 341, descriptorIndex := 342, attributes := #[] }] 49 2 #[] #[{ accessFlags := 26, nameIndex := 715, descriptorIndex := 716, attributes := #[] }, { accessFlags := 26, nameIndex := 719, descriptorIndex := 716, attributes := #[] }, { accessFlags := 4120, nameIndex := 445, descriptorIndex := 117, attributes := #[] }])
  fields := #[{ name := "MIN_ARRAY_SORT_GRAN", type := .int, accessFlags := 26, slot := 0, constantValue := 0 }, { name := "INSERTIONSORT_THRESHOLD", type := .int, accessFlags := 26, slot := 1, constantValue := 0 }, { name := "$assertionsDisabled", type := .boolean, accessFlags := 4120, slot := 2, constantValue := 0 }]
  methods := #[k23m0, k23m1, k23m2, k23m3]
  instanceTypes := #[]
  staticTypes := #[.int, .int, .boolean]
  resolved := Array.replicate 1029 none
  statics := none }

def pool24 : Array CpInfo := pool [(2, .class_ 4), (1, u "java/lang/Object"), (0, u "<init>"), (0, u "()V"), (1, .class_ 10), (1, u "java/lang/System"), (0, u "allowSecurityManager"), (0, u "I"), (16, u "cons"), (0, u "Ljava/io/Console;"), (77, .class_ 110), (1, u "java/lang/System$CallersHolder"), (43, u "initialErrStream"), (0, u "Ljava/io/PrintStream;"), (19, u "security"), (0, u "Ljava/lang/SecurityManager;"), (31, .class_ 209), (0, u "java/lang/System$1"), (7, u "props"), (0, u "Ljava/util/Properties;"), (2, u "lineSeparator"), (0, u "Ljava/lang/String;"), (96, .class_ 321), (1, u "java/lang/System$LoggerFinder"), (5, .class_ 328), (0, u "java/lang/System$Logger"), (67, u "err"), (2, u "out"), (91, u "notSupportedJnuEncoding"), (15, u "in"), (17, u "initialIn"), (0, u "Ljava/io/InputStream;"), (35, u "bootLayer"), (0, u "Ljava/lang/ModuleLayer;"), (99, .class_ 664), (0, u "java/lang/System$2"), (9, u "NEVER"), (2, u "MAYBE"), (49, u "arraycopy"), (0, u "(Ljava/lang/Object;ILjava/lang/Object;II)V"), (72, .class_ 802), (0, u "java/lang/System$Logger$Level")] 31

def k24m0 : Method := { name := "<init>", desc := "()V", sig := { parameters := [], returnType := none }, accessFlags := 2, code := none }
def k24m1 : Method := { name := "arraycopy", desc := "(Ljava/lang/Object;ILjava/lang/Object;II)V", sig := { parameters := [(.object "java/lang/Object"), .int, (.object "java/lang/Object"), .int, .int], returnType := none }, accessFlags := 265, code := none }
/-- java/lang/System -/
def k24 : Class := { plain "java/lang/System" (some 0) with
  accessFlags := 49
  interfaces := #[]
  cf := some (fileOf pool24 8 #[.nestMembers #[319, 327, 801, 108, 663, 208]] #[{ accessFlags := 2, nameIndex := 5, descriptorIndex := 6, attributes := #[] }, { accessFlags := 265, nameIndex := 727, descriptorIndex := 728, attributes := #[] }] 49 2 #[] #[{ accessFlags := 25, nameIndex := 507, descriptorIndex := 526, attributes := #[] }, { accessFlags := 25, nameIndex := 399, descriptorIndex := 155, attributes := #[] }, { accessFlags := 25, nameIndex := 396, descriptorIndex := 155, attributes := #[] }, { accessFlags := 10, nameIndex := 525, descriptorIndex := 526, attributes := #[] }, { accessFlags := 26, nameIndex := 674, descriptorIndex := 12, attributes := #[] }, { accessFlags := 26, nameIndex := 677, descriptorIndex := 12, attributes := #[] }, { accessFlags := 10, nameIndex := 11, descriptorIndex := 12, attributes := #[] }, { accessFlags := 74, nameIndex := 175, descriptorIndex := 176, attributes := #[] }, { accessFlags := 10, nameIndex := 491, descriptorIndex := 222, attributes := #[] }, { accessFlags := 74, nameIndex := 29, descriptorIndex := 30, attributes := #[] }, { accessFlags := 74, nameIndex := 154, descriptorIndex := 155, attributes := #[] }, { accessFlags := 10, nameIndex := 217, descriptorIndex := 218, attributes := #[] }, { accessFlags := 10, nameIndex := 221, descriptorIndex := 222, attributes := #[] }, { accessFlags := 8, nameIndex := 562, descriptorIndex := 563, attributes := #[] }])
  fields := #[{ name := "in", type := (.object "java/io/InputStream"), accessFlags := 25, slot := 0, constantValue := 0 }, { name := "out", type := (.object "java/io/PrintStream"), accessFlags := 25, slot := 1, constantValue := 0 }, { name := "err", type := (.object "java/io/PrintStream"), accessFlags := 25, slot := 2, constantValue := 0 }, { name := "initialIn", type := (.object "java/io/InputStream"), accessFlags := 10, slot := 3, constantValue := 0 }, { name := "NEVER", type := .int, accessFlags := 26, slot := 4, constantValue := 0 }, { name := "MAYBE", type := .int, accessFlags := 26, slot := 5, constantValue := 0 }, { name := "allowSecurityManager", type := .int, accessFlags := 10, slot := 6, constantValue := 0 }, { name := "security", type := (.object "java/lang/SecurityManager"), accessFlags := 74, slot := 7, constantValue := 0 }, { name := "notSupportedJnuEncoding", type := (.object "java/lang/String"), accessFlags := 10, slot := 8, constantValue := 0 }, { name := "cons", type := (.object "java/io/Console"), accessFlags := 74, slot := 9, constantValue := 0 }, { name := "initialErrStream", type := (.object "java/io/PrintStream"), accessFlags := 74, slot := 10, constantValue := 0 }, { name := "props", type := (.object "java/util/Properties"), accessFlags := 10, slot := 11, constantValue := 0 }, { name := "lineSeparator", type := (.object "java/lang/String"), accessFlags := 10, slot := 12, constantValue := 0 }, { name := "bootLayer", type := (.object "java/lang/ModuleLayer"), accessFlags := 8, slot := 13, constantValue := 0 }]
  methods := #[k24m0, k24m1]
  instanceTypes := #[]
  staticTypes := #[(.object "java/io/InputStream"), (.object "java/io/PrintStream"), (.object "java/io/PrintStream"), (.object "java/io/InputStream"), .int, .int, .int, (.object "java/lang/SecurityManager"), (.object "java/lang/String"), (.object "java/io/Console"), (.object "java/io/PrintStream"), (.object "java/util/Properties"), (.object "java/lang/String"), (.object "java/lang/ModuleLayer")]
  resolved := Array.replicate 834 none
  statics := none }

def pool25 : Array CpInfo := pool [(9, u "<init>"), (6, .class_ 18), (1, u "java/lang/Object"), (0, u "()V"), (1, .class_ 23), (1, u "jdk/internal/util/ArraysSupport"), (0, u "LOG2_ARRAY_LONG_INDEX_SCALE"), (0, u "I"), (2, u "U"), (0, u "Ljdk/internal/misc/Unsafe;"), (8, u "BIG_ENDIAN"), (0, u "Z"), (8, u "LOG2_BYTE_BIT_SIZE"), (4, u "LOG2_ARRAY_INT_INDEX_SCALE"), (54, u "JLA"), (0, u "Ljdk/internal/access/JavaLangAccess;"), (11, u "LOG2_ARRAY_BOOLEAN_INDEX_SCALE"), (9, u "LOG2_ARRAY_BYTE_INDEX_SCALE"), (5, u "LOG2_ARRAY_CHAR_INDEX_SCALE"), (5, u "LOG2_ARRAY_SHORT_INDEX_SCALE"), (18, u "LOG2_ARRAY_FLOAT_INDEX_SCALE"), (24, u "LOG2_ARRAY_DOUBLE_INDEX_SCALE"), (89, u "T_BOOLEAN"), (2, u "T_CHAR"), (1, u "T_FLOAT"), (1, u "T_DOUBLE"), (1, u "T_BYTE"), (1, u "T_SHORT"), (1, u "T_INT"), (1, u "T_LONG"), (1, u "SOFT_MAX_ARRAY_LENGTH")] 83

def k25m0 : Method := { name := "<init>", desc := "()V", sig := { parameters := [], returnType := none }, accessFlags := 2, code := none }
/-- jdk/internal/util/ArraysSupport -/
def k25 : Class := { plain "jdk/internal/util/ArraysSupport" (some 0) with
  accessFlags := 33
  interfaces := #[]
  cf := some (fileOf pool25 21 #[] #[{ accessFlags := 2, nameIndex := 9, descriptorIndex := 19, attributes := #[] }] 33 16 #[] #[{ accessFlags := 24, nameIndex := 28, descriptorIndex := 29, attributes := #[] }, { accessFlags := 26, nameIndex := 38, descriptorIndex := 39, attributes := #[] }, { accessFlags := 25, nameIndex := 121, descriptorIndex := 25, attributes := #[] }, { accessFlags := 25, nameIndex := 131, descriptorIndex := 25, attributes := #[] }, { accessFlags := 25, nameIndex := 137, descriptorIndex := 25, attributes := #[] }, { accessFlags := 25, nameIndex := 143, descriptorIndex := 25, attributes := #[] }, { accessFlags := 25, nameIndex := 53, descriptorIndex := 25, attributes := #[] }, { accessFlags := 25, nameIndex := 24, descriptorIndex := 25, attributes := #[] }, { accessFlags := 25, nameIndex := 162, descriptorIndex := 25, attributes := #[] }, { accessFlags := 25, nameIndex := 187, descriptorIndex := 25, attributes := #[] }, { accessFlags := 26, nameIndex := 48, descriptorIndex := 25, attributes := #[] }, { accessFlags := 25, nameIndex := 277, descriptorIndex := 25, attributes := #[] }, { accessFlags := 25, nameIndex := 280, descriptorIndex := 25, attributes := #[] }, { accessFlags := 25, nameIndex := 282, descriptorIndex := 25, attributes := #[] }, { accessFlags := 25, nameIndex := 284, descriptorIndex := 25, attributes := #[] }, { accessFlags := 25, nameIndex := 286, descriptorIndex := 25, attributes := #[] }, { accessFlags := 25, nameIndex := 288, descriptorIndex := 25, attributes := #[] }, { accessFlags := 25, nameIndex := 290, descriptorIndex := 25, attributes := #[] }, { accessFlags := 25, nameIndex := 292, descriptorIndex := 25, attributes := #[] }, { accessFlags := 26, nameIndex := 108, descriptorIndex := 109, attributes := #[] }, { accessFlags := 25, nameIndex := 294, descriptorIndex := 25, attributes := #[] }])
  fields := #[{ name := "U", type := (.object "jdk/internal/misc/Unsafe"), accessFlags := 24, slot := 0, constantValue := 0 }, { name := "BIG_ENDIAN", type := .boolean, accessFlags := 26, slot := 1, constantValue := 0 }, { name := "LOG2_ARRAY_BOOLEAN_INDEX_SCALE", type := .int, accessFlags := 25, slot := 2, constantValue := 0 }, { name := "LOG2_ARRAY_BYTE_INDEX_SCALE", type := .int, accessFlags := 25, slot := 3, constantValue := 0 }, { name := "LOG2_ARRAY_CHAR_INDEX_SCALE", type := .int, accessFlags := 25, slot := 4, constantValue := 0 }, { name := "LOG2_ARRAY_SHORT_INDEX_SCALE", type := .int, accessFlags := 25, slot := 5, constantValue := 0 }, { name := "LOG2_ARRAY_INT_INDEX_SCALE", type := .int, accessFlags := 25, slot := 6, constantValue := 0 }, { name := "LOG2_ARRAY_LONG_INDEX_SCALE", type := .int, accessFlags := 25, slot := 7, constantValue := 0 }, { name := "LOG2_ARRAY_FLOAT_INDEX_SCALE", type := .int, accessFlags := 25, slot := 8, constantValue := 0 }, { name := "LOG2_ARRAY_DOUBLE_INDEX_SCALE", type := .int, accessFlags := 25, slot := 9, constantValue := 0 }, { name := "LOG2_BYTE_BIT_SIZE", type := .int, accessFlags := 26, slot := 10, constantValue := 0 }, { name := "T_BOOLEAN", type := .int, accessFlags := 25, slot := 11, constantValue := 0 }, { name := "T_CHAR", type := .int, accessFlags := 25, slot := 12, constantValue := 0 }, { name := "T_FLOAT", type := .int, accessFlags := 25, slot := 13, constantValue := 0 }, { name := "T_DOUBLE", type := .int, accessFlags := 25, slot := 14, constantValue := 0 }, { name := "T_BYTE", type := .int, accessFlags := 25, slot := 15, constantValue := 0 }, { name := "T_SHORT", type := .int, accessFlags := 25, slot := 16, constantValue := 0 }, { name := "T_INT", type := .int, accessFlags := 25, slot := 17, constantValue := 0 }, { name := "T_LONG", type := .int, accessFlags := 25, slot := 18, constantValue := 0 }, { name := "JLA", type := (.object "jdk/internal/access/JavaLangAccess"), accessFlags := 26, slot := 19, constantValue := 0 }, { name := "SOFT_MAX_ARRAY_LENGTH", type := .int, accessFlags := 25, slot := 20, constantValue := 0 }]
  methods := #[k25m0]
  instanceTypes := #[]
  staticTypes := #[(.object "jdk/internal/misc/Unsafe"), .boolean, .int, .int, .int, .int, .int, .int, .int, .int, .int, .int, .int, .int, .int, .int, .int, .int, .int, (.object "jdk/internal/access/JavaLangAccess"), .int]
  resolved := Array.replicate 378 none
  statics := none }

/-- the primitive byte -/
def k26 : Class := { plain "byte" none with kind := .primitive 'B', accessFlags := 0x411 }
/-- [B -/
def k27 : Class := { plain "[B" (some 0) with kind := .array 26 .byte, interfaces := #[17, 2], accessFlags := 1041 }

/-- the primitive char -/
def k28 : Class := { plain "char" none with kind := .primitive 'C', accessFlags := 0x411 }
/-- [C -/
def k29 : Class := { plain "[C" (some 0) with kind := .array 28 .char, interfaces := #[17, 2], accessFlags := 1041 }

/-- the primitive int -/
def k30 : Class := { plain "int" none with kind := .primitive 'I', accessFlags := 0x411 }
/-- [I -/
def k31 : Class := { plain "[I" (some 0) with kind := .array 30 .int, interfaces := #[17, 2], accessFlags := 1041 }

/-- [Ljava/lang/Object; -/
def k32 : Class := { plain "[Ljava/lang/Object;" (some 0) with kind := .array 0 (.object "java/lang/Object"), interfaces := #[17, 2], accessFlags := 1041 }

def heap : Heap := #[{ cls := 7, slots := #[.long 0, .int 1, .null, .int 0, .null, .int 0, .int 0], vm := .statics 7 },
  { cls := 18, slots := #[.long 0, .int 0, .ref 3, .ref 4], vm := .statics 18 },
  { cls := 20, slots := #[.null, .null, .null], vm := .statics 20 },
  { cls := 32, slots := #[], vm := .none },
  { cls := 32, slots := #[], vm := .none }]
def classes : Array Class := #[k0, k1, k2, k3, k4, k5, k6, k7, k8, k9, k10, k11, k12, k13, k14, k15, k16, k17, k18, k19, k20, k21, k22, k23, k24, k25, k26, k27, k28, k29, k30, k31, k32]
def interned : List (Array UInt16 × Addr) := []
def slotsUsed : Nat := 14
def theMethod : MethodId := ⟨1, 6⟩
def args0 : Array Value := #[.long 1, .long 2, .int 5]
def aboutOver (below : List Frame) : State where
  vm := { classes := classes, interned := interned.toArray }
  heap := heap
  slotsUsed := slotsUsed
  threads := #[{ frames := .invoking theMethod args0 :: below }]
def below0 : List Frame := [.native { method := ⟨0, 0⟩, args := #[] }]
def about1 : State := aboutOver below0
def p0 : Program := .bare "" "" ""
def e0 : Env := launch0.env 0 0 0
theorem w_frames : about1.frames = Frame.invoking theMethod args0 :: below0 := rfl
theorem w_args : argsFit about1.vm theMethod args0 = true := by decide +kernel
theorem w_heap : heapFits about1 = true := by decide +kernel
theorem w_runnable : about1.curStatus? = some .runnable := by decide +kernel
theorem w_alone : about1.alone = true := by decide +kernel
theorem w_named : about1.methodNamed? x = some theMethod := by decide +kernel
theorem w_hears : about1.hears theMethod below0 = true := by decide +kernel
theorem w_ripe : about1.ripe theMethod args0 below0 = true := by decide +kernel
theorem w_running : about1.status = .running := rfl
theorem w_room : about1.hasRoom e0.platform room_1 = true :=
  launch0.hasRoom_least _ room_1 (by decide +kernel) (by decide +kernel) (by decide +kernel) (by decide +kernel) (by decide +kernel) (by decide +kernel)
theorem allAtoms_all (ts : List Jvm.Cond) (a : Array Jvm.Value) (st : Jvm.State) : (allAtoms ts).before a st = ts.all (fun c => c.before a st) := by
  induction ts with
  | nil => rfl
  | cons c t ih =>
    show (Jvm.Cond.and c (allAtoms t)).before a st = _
    rw [Jvm.Cond.before_and, ih, List.all_cons]
def words1 : List Jvm.Cond := Jvm.Cond.code x code maxLocals ret :: tables_1
/-- a 'code' word, met by the world's own term for the bytes: nothing is compared byte by byte -/
theorem code_word {y : MethodName} {bytes : ByteArray} {mx : Nat} {rt : Option FieldType} {a : Array Value} {s : State} {m : MethodId} {meth : Method} {c : Code} (h1 : s.methodNamed? y = some m) (h2 : s.vm.method? m = some meth) (h3 : meth.code = some c) (h4 : c.code = bytes)
    (h5 : (c.maxLocals == mx && c.exceptionTable.isEmpty && decide (c.maxStack ≤ mostOperands) && decide (meth.sig.returnType = rt) && !meth.locks && decide (parseMethodDescriptor y.desc = some meth.sig)) = true) : (Jvm.Cond.code y bytes mx rt).before a s = true := by
  simp only [Bool.and_eq_true, beq_iff_eq, Bool.not_eq_true', decide_eq_true_eq] at h5
  obtain ⟨⟨⟨⟨⟨g1, g2⟩, g3⟩, g4⟩, g5⟩, g6⟩ := h5
  simp [Cond.before, Cond.holds, Cond.value, h1, h2, h3, h4, g1, g2, g3, g4, g5, g6]
def isCode : Jvm.Cond → Bool
  | .code _ _ _ _ => true
  | _ => false
theorem all_split {L : List Jvm.Cond} {P : Jvm.Cond → Bool} (h1 : L.all (fun c => isCode c || P c) = true) (h2 : ∀ c ∈ L.filter isCode, P c = true) : L.all P = true := by
  refine List.all_eq_true.mpr fun c hc => ?_
  have h := List.all_eq_true.mp h1 c hc
  rcases Bool.eq_false_or_eq_true (isCode c) with hi | hi
  · exact h2 c (List.mem_filter.mpr ⟨hc, hi⟩)
  · simpa [hi] using h
theorem w_c0 : (Jvm.Cond.code x code maxLocals ret).before args0 about1 = true := code_word (m := ⟨1, 6⟩) (meth := k1m6) (c := k1c6) (by decide +kernel) rfl rfl rfl (by decide +kernel)
theorem w_c1 : (Jvm.Cond.code ym1 cD1 (3 : Nat) (Option.some FieldType.char)).before args0 about1 = true := code_word (m := ⟨1, 1⟩) (meth := k1m1) (c := k1c1) (by decide +kernel) rfl rfl rfl (by decide +kernel)
theorem w_c2 : (Jvm.Cond.code ym2 jdk_42_method_3_code (2 : Nat) (Option.none : Option Jvm.ClassFile.FieldType)).before args0 about1 = true := code_word (m := ⟨7, 1⟩) (meth := k7m1) (c := k7c1) (by decide +kernel) rfl rfl rfl (by decide +kernel)
theorem w_c3 : (Jvm.Cond.code ({ cls := "java/lang/String", name := "<init>", desc := "([CIILjava/lang/Void;)V" } : Jvm.MethodName) jdk_42_method_149_code (6 : Nat) (Option.none : Option Jvm.ClassFile.FieldType)).before args0 about1 = true := code_word (m := ⟨7, 15⟩) (meth := k7m15) (c := k7c15) (by decide +kernel) rfl rfl rfl (by decide +kernel)
theorem w_c4 : (Jvm.Cond.code ({ cls := "java/lang/Object", name := "<init>", desc := "()V" } : Jvm.MethodName) object_method_1_code (1 : Nat) (Option.none : Option Jvm.ClassFile.FieldType)).before args0 about1 = true := code_word (m := ⟨0, 0⟩) (meth := k0m0) (c := k0c0) (by decide +kernel) rfl rfl rfl (by decide +kernel)
theorem w_c5 : (Jvm.Cond.code ({ cls := "java/lang/StringUTF16", name := "compress", desc := "([CII)[B" } : Jvm.MethodName) jdk_52_method_16_code (6 : Nat) (Option.some (FieldType.array FieldType.byte))).before args0 about1 = true := code_word (m := ⟨8, 2⟩) (meth := k8m2) (c := k8c2) (by decide +kernel) rfl rfl rfl (by decide +kernel)
theorem w_c6 : (Jvm.Cond.code ({ cls := "java/lang/StringUTF16", name := "compress", desc := "([CI[BII)I" } : Jvm.MethodName) jdk_52_method_21_code (7 : Nat) (Option.some FieldType.int)).before args0 about1 = true := code_word (m := ⟨8, 3⟩) (meth := k8m3) (c := k8c3) (by decide +kernel) rfl rfl rfl (by decide +kernel)
theorem w_c7 : (Jvm.Cond.code ({ cls := "java/lang/StringUTF16", name := "coderFromArrayLen", desc := "([BI)B" } : Jvm.MethodName) jdk_52_method_15_code (2 : Nat) (Option.some FieldType.byte)).before args0 about1 = true := code_word (m := ⟨8, 1⟩) (meth := k8m1) (c := k8c1) (by decide +kernel) rfl rfl rfl (by decide +kernel)
theorem w_c8 : (Jvm.Cond.code ym8 cD8 (8 : Nat) (Option.some (FieldType.object "com/example/assemble/assemble/SettingText"))).before args0 about1 = true := code_word (m := ⟨9, 1⟩) (meth := k9m1) (c := k9c1) (by decide +kernel) rfl rfl rfl (by decide +kernel)
theorem w_c9 : (Jvm.Cond.code ym9 cD9 (2 : Nat) (Option.none : Option Jvm.ClassFile.FieldType)).before args0 about1 = true := code_word (m := ⟨9, 0⟩) (meth := k9m0) (c := k9c0) (by decide +kernel) rfl rfl rfl (by decide +kernel)
theorem w_c10 : (Jvm.Cond.code ym10 cD10 (1 : Nat) (Option.none : Option Jvm.ClassFile.FieldType)).before args0 about1 = true := code_word (m := ⟨18, 0⟩) (meth := k18m0) (c := k18c0) (by decide +kernel) rfl rfl rfl (by decide +kernel)
theorem w_c11 : (Jvm.Cond.code ym11 cD11 (1 : Nat) (Option.none : Option Jvm.ClassFile.FieldType)).before args0 about1 = true := code_word (m := ⟨15, 0⟩) (meth := k15m0) (c := k15c0) (by decide +kernel) rfl rfl rfl (by decide +kernel)
theorem w_c12 : (Jvm.Cond.code ym12 cD12 (1 : Nat) (Option.none : Option Jvm.ClassFile.FieldType)).before args0 about1 = true := code_word (m := ⟨12, 0⟩) (meth := k12m0) (c := k12c0) (by decide +kernel) rfl rfl rfl (by decide +kernel)
theorem w_c13 : (Jvm.Cond.code ym13 cD13 (3 : Nat) (Option.some FieldType.int)).before args0 about1 = true := code_word (m := ⟨7, 8⟩) (meth := k7m8) (c := k7c8) (by decide +kernel) rfl rfl rfl (by decide +kernel)
theorem w_c14 : (Jvm.Cond.code ym14 cD14 (1 : Nat) (Option.some FieldType.byte)).before args0 about1 = true := code_word (m := ⟨7, 17⟩) (meth := k7m17) (c := k7c17) (by decide +kernel) rfl rfl rfl (by decide +kernel)
theorem w_c15 : (Jvm.Cond.code ym15 cD15 (1 : Nat) (Option.some FieldType.boolean)).before args0 about1 = true := code_word (m := ⟨7, 18⟩) (meth := k7m18) (c := k7c18) (by decide +kernel) rfl rfl rfl (by decide +kernel)
theorem w_c16 : (Jvm.Cond.code ym16 cD16 (2 : Nat) (Option.some FieldType.int)).before args0 about1 = true := code_word (m := ⟨19, 5⟩) (meth := k19m5) (c := k19c5) (by decide +kernel) rfl rfl rfl (by decide +kernel)
theorem w_c17 : (Jvm.Cond.code ym17 cD17 (11 : Nat) (Option.some FieldType.int)).before args0 about1 = true := code_word (m := ⟨19, 6⟩) (meth := k19m6) (c := k19c6) (by decide +kernel) rfl rfl rfl (by decide +kernel)
theorem w_c18 : (Jvm.Cond.code ym18 cD18 (2 : Nat) (Option.some (FieldType.object "java/lang/String"))).before args0 about1 = true := code_word (m := ⟨7, 11⟩) (meth := k7m11) (c := k7c11) (by decide +kernel) rfl rfl rfl (by decide +kernel)
theorem w_c19 : (Jvm.Cond.code ym19 cD19 (1 : Nat) (Option.some FieldType.int)).before args0 about1 = true := code_word (m := ⟨7, 2⟩) (meth := k7m2) (c := k7c2) (by decide +kernel) rfl rfl rfl (by decide +kernel)
theorem w_c20 : (Jvm.Cond.code ym20 cD20 (5 : Nat) (Option.some (FieldType.object "java/lang/String"))).before args0 about1 = true := code_word (m := ⟨7, 12⟩) (meth := k7m12) (c := k7c12) (by decide +kernel) rfl rfl rfl (by decide +kernel)
theorem w_c21 : (Jvm.Cond.code ym21 cD21 (3 : Nat) (Option.none : Option Jvm.ClassFile.FieldType)).before args0 about1 = true := code_word (m := ⟨7, 20⟩) (meth := k7m20) (c := k7c20) (by decide +kernel) rfl rfl rfl (by decide +kernel)
theorem w_c22 : (Jvm.Cond.code ym22 cD22 (4 : Nat) (Option.some FieldType.int)).before args0 about1 = true := code_word (m := ⟨20, 2⟩) (meth := k20m2) (c := k20c2) (by decide +kernel) rfl rfl rfl (by decide +kernel)
theorem w_c23 : (Jvm.Cond.code ym23 cD23 (2 : Nat) (Option.some FieldType.boolean)).before args0 about1 = true := code_word (m := ⟨18, 7⟩) (meth := k18m7) (c := k18c7) (by decide +kernel) rfl rfl rfl (by decide +kernel)
theorem w_c24 : (Jvm.Cond.code ym24 cD24 (4 : Nat) (Option.none : Option Jvm.ClassFile.FieldType)).before args0 about1 = true := code_word (m := ⟨18, 6⟩) (meth := k18m6) (c := k18c6) (by decide +kernel) rfl rfl rfl (by decide +kernel)
theorem w_c25 : (Jvm.Cond.code ym25 cD25 (1 : Nat) (Option.some (FieldType.array (FieldType.object "java/lang/Object")))).before args0 about1 = true := code_word (m := ⟨18, 2⟩) (meth := k18m2) (c := k18c2) (by decide +kernel) rfl rfl rfl (by decide +kernel)
theorem w_c26 : (Jvm.Cond.code ym26 cD26 (4 : Nat) (Option.some (FieldType.array (FieldType.object "java/lang/Object")))).before args0 about1 = true := code_word (m := ⟨18, 1⟩) (meth := k18m1) (c := k18c1) (by decide +kernel) rfl rfl rfl (by decide +kernel)
theorem w_c27 : (Jvm.Cond.code ym27 cD27 (2 : Nat) (Option.some FieldType.int)).before args0 about1 = true := code_word (m := ⟨21, 1⟩) (meth := k21m1) (c := k21c1) (by decide +kernel) rfl rfl rfl (by decide +kernel)
theorem w_c28 : (Jvm.Cond.code ym28 cD28 (1 : Nat) (Option.some FieldType.int)).before args0 about1 = true := code_word (m := ⟨9, 2⟩) (meth := k9m2) (c := k9c2) (by decide +kernel) rfl rfl rfl (by decide +kernel)
theorem w_c29 : (Jvm.Cond.code ym29 cD29 (1 : Nat) (Option.some FieldType.int)).before args0 about1 = true := code_word (m := ⟨18, 3⟩) (meth := k18m3) (c := k18c3) (by decide +kernel) rfl rfl rfl (by decide +kernel)
theorem w_c30 : (Jvm.Cond.code ym30 cD30 (1 : Nat) (Option.some (FieldType.object "java/lang/String"))).before args0 about1 = true := code_word (m := ⟨9, 6⟩) (meth := k9m6) (c := k9c6) (by decide +kernel) rfl rfl rfl (by decide +kernel)
theorem w_c31 : (Jvm.Cond.code ym31 cD31 (3 : Nat) (Option.some FieldType.boolean)).before args0 about1 = true := code_word (m := ⟨7, 5⟩) (meth := k7m5) (c := k7c5) (by decide +kernel) rfl rfl rfl (by decide +kernel)
theorem w_c32 : (Jvm.Cond.code ym32 cD32 (2 : Nat) (Option.some (FieldType.object "java/lang/String"))).before args0 about1 = true := code_word (m := ⟨9, 3⟩) (meth := k9m3) (c := k9c3) (by decide +kernel) rfl rfl rfl (by decide +kernel)
theorem w_c33 : (Jvm.Cond.code ym33 cD33 (2 : Nat) (Option.some (FieldType.object "java/lang/Object"))).before args0 about1 = true := code_word (m := ⟨18, 5⟩) (meth := k18m5) (c := k18c5) (by decide +kernel) rfl rfl rfl (by decide +kernel)
theorem w_c34 : (Jvm.Cond.code ym34 cD34 (2 : Nat) (Option.some FieldType.int)).before args0 about1 = true := code_word (m := ⟨22, 1⟩) (meth := k22m1) (c := k22c1) (by decide +kernel) rfl rfl rfl (by decide +kernel)
theorem w_c35 : (Jvm.Cond.code ym35 cD35 (3 : Nat) (Option.some FieldType.int)).before args0 about1 = true := code_word (m := ⟨20, 1⟩) (meth := k20m1) (c := k20c1) (by decide +kernel) rfl rfl rfl (by decide +kernel)
theorem w_c36 : (Jvm.Cond.code ym36 cD36 (2 : Nat) (Option.some (FieldType.object "java/lang/Object"))).before args0 about1 = true := code_word (m := ⟨18, 4⟩) (meth := k18m4) (c := k18c4) (by decide +kernel) rfl rfl rfl (by decide +kernel)
theorem w_c37 : (Jvm.Cond.code ym37 cD37 (5 : Nat) (Option.some FieldType.boolean)).before args0 about1 = true := code_word (m := ⟨1, 4⟩) (meth := k1m4) (c := k1c4) (by decide +kernel) rfl rfl rfl (by decide +kernel)
theorem w_c38 : (Jvm.Cond.code ym38 cD38 (2 : Nat) (Option.some FieldType.char)).before args0 about1 = true := code_word (m := ⟨7, 4⟩) (meth := k7m4) (c := k7c4) (by decide +kernel) rfl rfl rfl (by decide +kernel)
theorem w_c39 : (Jvm.Cond.code ym39 cD39 (2 : Nat) (Option.some FieldType.char)).before args0 about1 = true := code_word (m := ⟨19, 1⟩) (meth := k19m1) (c := k19c1) (by decide +kernel) rfl rfl rfl (by decide +kernel)
theorem w_c40 : (Jvm.Cond.code ym40 cD40 (2 : Nat) (Option.none : Option Jvm.ClassFile.FieldType)).before args0 about1 = true := code_word (m := ⟨7, 19⟩) (meth := k7m19) (c := k7c19) (by decide +kernel) rfl rfl rfl (by decide +kernel)
theorem w_c41 : (Jvm.Cond.code ym41 cD41 (3 : Nat) (Option.some FieldType.char)).before args0 about1 = true := code_word (m := ⟨1, 2⟩) (meth := k1m2) (c := k1c2) (by decide +kernel) rfl rfl rfl (by decide +kernel)
theorem w_c42 : (Jvm.Cond.code ym42 cD42 (3 : Nat) (Option.some FieldType.int)).before args0 about1 = true := code_word (m := ⟨7, 7⟩) (meth := k7m7) (c := k7c7) (by decide +kernel) rfl rfl rfl (by decide +kernel)
theorem w_c43 : (Jvm.Cond.code ym43 cD43 (4 : Nat) (Option.some FieldType.int)).before args0 about1 = true := code_word (m := ⟨19, 3⟩) (meth := k19m3) (c := k19c3) (by decide +kernel) rfl rfl rfl (by decide +kernel)
theorem w_c44 : (Jvm.Cond.code ym44 cD44 (1 : Nat) (Option.some FieldType.boolean)).before args0 about1 = true := code_word (m := ⟨19, 2⟩) (meth := k19m2) (c := k19c2) (by decide +kernel) rfl rfl rfl (by decide +kernel)
theorem w_c45 : (Jvm.Cond.code ym45 cD45 (2 : Nat) (Option.some FieldType.int)).before args0 about1 = true := code_word (m := ⟨21, 3⟩) (meth := k21m3) (c := k21c3) (by decide +kernel) rfl rfl rfl (by decide +kernel)
theorem w_c46 : (Jvm.Cond.code ym46 cD46 (6 : Nat) (Option.some FieldType.int)).before args0 about1 = true := code_word (m := ⟨19, 4⟩) (meth := k19m4) (c := k19c4) (by decide +kernel) rfl rfl rfl (by decide +kernel)
theorem w_c47 : (Jvm.Cond.code ym47 cD47 (3 : Nat) (Option.some (FieldType.object "java/lang/String"))).before args0 about1 = true := code_word (m := ⟨19, 7⟩) (meth := k19m7) (c := k19c7) (by decide +kernel) rfl rfl rfl (by decide +kernel)
theorem w_c48 : (Jvm.Cond.code ym48 cD48 (3 : Nat) (Option.some (FieldType.array FieldType.byte))).before args0 about1 = true := code_word (m := ⟨23, 2⟩) (meth := k23m2) (c := k23c2) (by decide +kernel) rfl rfl rfl (by decide +kernel)
theorem w_c49 : (Jvm.Cond.code ym49 cD49 (5 : Nat) (Option.some (FieldType.array FieldType.byte))).before args0 about1 = true := code_word (m := ⟨23, 3⟩) (meth := k23m3) (c := k23c3) (by decide +kernel) rfl rfl rfl (by decide +kernel)
theorem w_c50 : (Jvm.Cond.code ym50 cD50 (2 : Nat) (Option.none : Option Jvm.ClassFile.FieldType)).before args0 about1 = true := code_word (m := ⟨23, 1⟩) (meth := k23m1) (c := k23c1) (by decide +kernel) rfl rfl rfl (by decide +kernel)
theorem w_c51 : (Jvm.Cond.code ym51 cD51 (3 : Nat) (Option.none : Option Jvm.ClassFile.FieldType)).before args0 about1 = true := code_word (m := ⟨7, 16⟩) (meth := k7m16) (c := k7c16) (by decide +kernel) rfl rfl rfl (by decide +kernel)
theorem w_c52 : (Jvm.Cond.code ym52 cD52 (2 : Nat) (Option.some FieldType.boolean)).before args0 about1 = true := code_word (m := ⟨7, 13⟩) (meth := k7m13) (c := k7c13) (by decide +kernel) rfl rfl rfl (by decide +kernel)
theorem w_c53 : (Jvm.Cond.code ym53 jdk_42_method_126_code (1 : Nat) (Option.some (FieldType.object "java/lang/String"))).before args0 about1 = true := code_word (m := ⟨7, 14⟩) (meth := k7m14) (c := k7c14) (by decide +kernel) rfl rfl rfl (by decide +kernel)
theorem w_c54 : (Jvm.Cond.code ym54 cD54 (2 : Nat) (Option.some FieldType.int)).before args0 about1 = true := code_word (m := ⟨7, 6⟩) (meth := k7m6) (c := k7c6) (by decide +kernel) rfl rfl rfl (by decide +kernel)
theorem w_c55 : (Jvm.Cond.code ym55 cD55 (1 : Nat) (Option.some FieldType.boolean)).before args0 about1 = true := code_word (m := ⟨7, 3⟩) (meth := k7m3) (c := k7c3) (by decide +kernel) rfl rfl rfl (by decide +kernel)
theorem w_c56 : (Jvm.Cond.code ym56 cD56 (3 : Nat) (Option.some FieldType.int)).before args0 about1 = true := code_word (m := ⟨7, 9⟩) (meth := k7m9) (c := k7c9) (by decide +kernel) rfl rfl rfl (by decide +kernel)
theorem w_c57 : (Jvm.Cond.code ym57 cD57 (8 : Nat) (Option.some FieldType.int)).before args0 about1 = true := code_word (m := ⟨7, 10⟩) (meth := k7m10) (c := k7c10) (by decide +kernel) rfl rfl rfl (by decide +kernel)
theorem w_c58 : (Jvm.Cond.code ym58 cD58 (4 : Nat) (Option.some FieldType.int)).before args0 about1 = true := code_word (m := ⟨21, 5⟩) (meth := k21m5) (c := k21c5) (by decide +kernel) rfl rfl rfl (by decide +kernel)
theorem w_c59 : (Jvm.Cond.code ym59 cD59 (4 : Nat) (Option.some FieldType.long)).before args0 about1 = true := code_word (m := ⟨21, 2⟩) (meth := k21m2) (c := k21c2) (by decide +kernel) rfl rfl rfl (by decide +kernel)
theorem w_c60 : (Jvm.Cond.code ym60 cD60 (4 : Nat) (Option.some FieldType.long)).before args0 about1 = true := code_word (m := ⟨21, 4⟩) (meth := k21m4) (c := k21c4) (by decide +kernel) rfl rfl rfl (by decide +kernel)
theorem w_c61 : (Jvm.Cond.code ym61 cD61 (2 : Nat) (Option.some (FieldType.object "java/lang/String"))).before args0 about1 = true := code_word (m := ⟨9, 4⟩) (meth := k9m4) (c := k9c4) (by decide +kernel) rfl rfl rfl (by decide +kernel)
theorem w_c62 : (Jvm.Cond.code ym62 cD62 (2 : Nat) (Option.some (FieldType.object "java/lang/String"))).before args0 about1 = true := code_word (m := ⟨9, 5⟩) (meth := k9m5) (c := k9c5) (by decide +kernel) rfl rfl rfl (by decide +kernel)
theorem w_c63 : (Jvm.Cond.code ym63 cD63 (5 : Nat) (Option.some FieldType.boolean)).before args0 about1 = true := code_word (m := ⟨1, 5⟩) (meth := k1m5) (c := k1c5) (by decide +kernel) rfl rfl rfl (by decide +kernel)
theorem w_c64 : (Jvm.Cond.code ym64 cD64 (3 : Nat) (Option.some FieldType.char)).before args0 about1 = true := code_word (m := ⟨1, 3⟩) (meth := k1m3) (c := k1c3) (by decide +kernel) rfl rfl rfl (by decide +kernel)
def codes1 : List Jvm.Cond := [Jvm.Cond.code x code maxLocals ret, Jvm.Cond.code ym1 cD1 (3 : Nat) (Option.some FieldType.char), Jvm.Cond.code ym2 jdk_42_method_3_code (2 : Nat) (Option.none : Option Jvm.ClassFile.FieldType), Jvm.Cond.code ({ cls := "java/lang/String", name := "<init>", desc := "([CIILjava/lang/Void;)V" } : Jvm.MethodName) jdk_42_method_149_code (6 : Nat) (Option.none : Option Jvm.ClassFile.FieldType), Jvm.Cond.code ({ cls := "java/lang/Object", name := "<init>", desc := "()V" } : Jvm.MethodName) object_method_1_code (1 : Nat) (Option.none : Option Jvm.ClassFile.FieldType), Jvm.Cond.code ({ cls := "java/lang/StringUTF16", name := "compress", desc := "([CII)[B" } : Jvm.MethodName) jdk_52_method_16_code (6 : Nat) (Option.some (FieldType.array FieldType.byte)), Jvm.Cond.code ({ cls := "java/lang/StringUTF16", name := "compress", desc := "([CI[BII)I" } : Jvm.MethodName) jdk_52_method_21_code (7 : Nat) (Option.some FieldType.int), Jvm.Cond.code ({ cls := "java/lang/StringUTF16", name := "coderFromArrayLen", desc := "([BI)B" } : Jvm.MethodName) jdk_52_method_15_code (2 : Nat) (Option.some FieldType.byte), Jvm.Cond.code ym8 cD8 (8 : Nat) (Option.some (FieldType.object "com/example/assemble/assemble/SettingText")), Jvm.Cond.code ym9 cD9 (2 : Nat) (Option.none : Option Jvm.ClassFile.FieldType), Jvm.Cond.code ym10 cD10 (1 : Nat) (Option.none : Option Jvm.ClassFile.FieldType), Jvm.Cond.code ym11 cD11 (1 : Nat) (Option.none : Option Jvm.ClassFile.FieldType), Jvm.Cond.code ym12 cD12 (1 : Nat) (Option.none : Option Jvm.ClassFile.FieldType), Jvm.Cond.code ym13 cD13 (3 : Nat) (Option.some FieldType.int), Jvm.Cond.code ym14 cD14 (1 : Nat) (Option.some FieldType.byte), Jvm.Cond.code ym15 cD15 (1 : Nat) (Option.some FieldType.boolean), Jvm.Cond.code ym16 cD16 (2 : Nat) (Option.some FieldType.int), Jvm.Cond.code ym17 cD17 (11 : Nat) (Option.some FieldType.int), Jvm.Cond.code ym18 cD18 (2 : Nat) (Option.some (FieldType.object "java/lang/String")), Jvm.Cond.code ym19 cD19 (1 : Nat) (Option.some FieldType.int), Jvm.Cond.code ym20 cD20 (5 : Nat) (Option.some (FieldType.object "java/lang/String")), Jvm.Cond.code ym21 cD21 (3 : Nat) (Option.none : Option Jvm.ClassFile.FieldType), Jvm.Cond.code ym22 cD22 (4 : Nat) (Option.some FieldType.int), Jvm.Cond.code ym23 cD23 (2 : Nat) (Option.some FieldType.boolean), Jvm.Cond.code ym24 cD24 (4 : Nat) (Option.none : Option Jvm.ClassFile.FieldType), Jvm.Cond.code ym25 cD25 (1 : Nat) (Option.some (FieldType.array (FieldType.object "java/lang/Object"))), Jvm.Cond.code ym26 cD26 (4 : Nat) (Option.some (FieldType.array (FieldType.object "java/lang/Object"))), Jvm.Cond.code ym27 cD27 (2 : Nat) (Option.some FieldType.int), Jvm.Cond.code ym28 cD28 (1 : Nat) (Option.some FieldType.int), Jvm.Cond.code ym29 cD29 (1 : Nat) (Option.some FieldType.int), Jvm.Cond.code ym30 cD30 (1 : Nat) (Option.some (FieldType.object "java/lang/String")), Jvm.Cond.code ym31 cD31 (3 : Nat) (Option.some FieldType.boolean), Jvm.Cond.code ym32 cD32 (2 : Nat) (Option.some (FieldType.object "java/lang/String")), Jvm.Cond.code ym33 cD33 (2 : Nat) (Option.some (FieldType.object "java/lang/Object")), Jvm.Cond.code ym34 cD34 (2 : Nat) (Option.some FieldType.int), Jvm.Cond.code ym35 cD35 (3 : Nat) (Option.some FieldType.int), Jvm.Cond.code ym36 cD36 (2 : Nat) (Option.some (FieldType.object "java/lang/Object")), Jvm.Cond.code ym37 cD37 (5 : Nat) (Option.some FieldType.boolean), Jvm.Cond.code ym38 cD38 (2 : Nat) (Option.some FieldType.char), Jvm.Cond.code ym39 cD39 (2 : Nat) (Option.some FieldType.char), Jvm.Cond.code ym40 cD40 (2 : Nat) (Option.none : Option Jvm.ClassFile.FieldType), Jvm.Cond.code ym41 cD41 (3 : Nat) (Option.some FieldType.char), Jvm.Cond.code ym42 cD42 (3 : Nat) (Option.some FieldType.int), Jvm.Cond.code ym43 cD43 (4 : Nat) (Option.some FieldType.int), Jvm.Cond.code ym44 cD44 (1 : Nat) (Option.some FieldType.boolean), Jvm.Cond.code ym45 cD45 (2 : Nat) (Option.some FieldType.int), Jvm.Cond.code ym46 cD46 (6 : Nat) (Option.some FieldType.int), Jvm.Cond.code ym47 cD47 (3 : Nat) (Option.some (FieldType.object "java/lang/String")), Jvm.Cond.code ym48 cD48 (3 : Nat) (Option.some (FieldType.array FieldType.byte)), Jvm.Cond.code ym49 cD49 (5 : Nat) (Option.some (FieldType.array FieldType.byte)), Jvm.Cond.code ym50 cD50 (2 : Nat) (Option.none : Option Jvm.ClassFile.FieldType), Jvm.Cond.code ym51 cD51 (3 : Nat) (Option.none : Option Jvm.ClassFile.FieldType), Jvm.Cond.code ym52 cD52 (2 : Nat) (Option.some FieldType.boolean), Jvm.Cond.code ym53 jdk_42_method_126_code (1 : Nat) (Option.some (FieldType.object "java/lang/String")), Jvm.Cond.code ym54 cD54 (2 : Nat) (Option.some FieldType.int), Jvm.Cond.code ym55 cD55 (1 : Nat) (Option.some FieldType.boolean), Jvm.Cond.code ym56 cD56 (3 : Nat) (Option.some FieldType.int), Jvm.Cond.code ym57 cD57 (8 : Nat) (Option.some FieldType.int), Jvm.Cond.code ym58 cD58 (4 : Nat) (Option.some FieldType.int), Jvm.Cond.code ym59 cD59 (4 : Nat) (Option.some FieldType.long), Jvm.Cond.code ym60 cD60 (4 : Nat) (Option.some FieldType.long), Jvm.Cond.code ym61 cD61 (2 : Nat) (Option.some (FieldType.object "java/lang/String")), Jvm.Cond.code ym62 cD62 (2 : Nat) (Option.some (FieldType.object "java/lang/String")), Jvm.Cond.code ym63 cD63 (5 : Nat) (Option.some FieldType.boolean), Jvm.Cond.code ym64 cD64 (3 : Nat) (Option.some FieldType.char)]
theorem codes_eq : words1.filter isCode = codes1 := rfl
theorem w_codes : ∀ c ∈ words1.filter isCode, c.before args0 about1 = true := by
  rw [codes_eq]
  intro c hc
  simp only [codes1, List.mem_cons, List.not_mem_nil, or_false] at hc
  rcases hc with rfl | rfl | rfl | rfl | rfl | rfl | rfl | rfl | rfl | rfl | rfl | rfl | rfl | rfl | rfl | rfl | rfl | rfl | rfl | rfl | rfl | rfl | rfl | rfl | rfl | rfl | rfl | rfl | rfl | rfl | rfl | rfl | rfl | rfl | rfl | rfl | rfl | rfl | rfl | rfl | rfl | rfl | rfl | rfl | rfl | rfl | rfl | rfl | rfl | rfl | rfl | rfl | rfl | rfl | rfl | rfl | rfl | rfl | rfl | rfl | rfl | rfl | rfl | rfl | rfl
  · exact w_c0
  · exact w_c1
  · exact w_c2
  · exact w_c3
  · exact w_c4
  · exact w_c5
  · exact w_c6
  · exact w_c7
  · exact w_c8
  · exact w_c9
  · exact w_c10
  · exact w_c11
  · exact w_c12
  · exact w_c13
  · exact w_c14
  · exact w_c15
  · exact w_c16
  · exact w_c17
  · exact w_c18
  · exact w_c19
  · exact w_c20
  · exact w_c21
  · exact w_c22
  · exact w_c23
  · exact w_c24
  · exact w_c25
  · exact w_c26
  · exact w_c27
  · exact w_c28
  · exact w_c29
  · exact w_c30
  · exact w_c31
  · exact w_c32
  · exact w_c33
  · exact w_c34
  · exact w_c35
  · exact w_c36
  · exact w_c37
  · exact w_c38
  · exact w_c39
  · exact w_c40
  · exact w_c41
  · exact w_c42
  · exact w_c43
  · exact w_c44
  · exact w_c45
  · exact w_c46
  · exact w_c47
  · exact w_c48
  · exact w_c49
  · exact w_c50
  · exact w_c51
  · exact w_c52
  · exact w_c53
  · exact w_c54
  · exact w_c55
  · exact w_c56
  · exact w_c57
  · exact w_c58
  · exact w_c59
  · exact w_c60
  · exact w_c61
  · exact w_c62
  · exact w_c63
  · exact w_c64
theorem w_t1 : (words1.take 24).all (fun c => isCode c || c.before args0 about1) = true := by decide +kernel
theorem w_t2 : ((words1.drop 24).take 24).all (fun c => isCode c || c.before args0 about1) = true := by decide +kernel
theorem w_t3 : (((words1.drop 24).drop 24).take 24).all (fun c => isCode c || c.before args0 about1) = true := by decide +kernel
theorem w_t4 : ((((words1.drop 24).drop 24).drop 24).take 24).all (fun c => isCode c || c.before args0 about1) = true := by decide +kernel
theorem w_t5 : (((((words1.drop 24).drop 24).drop 24).drop 24).take 24).all (fun c => isCode c || c.before args0 about1) = true := by decide +kernel
theorem w_t6 : ((((((words1.drop 24).drop 24).drop 24).drop 24).drop 24).take 24).all (fun c => isCode c || c.before args0 about1) = true := by decide +kernel
theorem w_t7 : (((((((words1.drop 24).drop 24).drop 24).drop 24).drop 24).drop 24).take 24).all (fun c => isCode c || c.before args0 about1) = true := by decide +kernel
theorem w_t8 : ((((((((words1.drop 24).drop 24).drop 24).drop 24).drop 24).drop 24).drop 24).take 24).all (fun c => isCode c || c.before args0 about1) = true := by decide +kernel
theorem w_t9 : (((((((((words1.drop 24).drop 24).drop 24).drop 24).drop 24).drop 24).drop 24).drop 24).take 24).all (fun c => isCode c || c.before args0 about1) = true := by decide +kernel
theorem w_t10 : ((((((((((words1.drop 24).drop 24).drop 24).drop 24).drop 24).drop 24).drop 24).drop 24).drop 24).take 24).all (fun c => isCode c || c.before args0 about1) = true := by decide +kernel
theorem w_t11 : (((((((((((words1.drop 24).drop 24).drop 24).drop 24).drop 24).drop 24).drop 24).drop 24).drop 24).drop 24).take 24).all (fun c => isCode c || c.before args0 about1) = true := by decide +kernel
theorem w_t12 : ((((((((((((words1.drop 24).drop 24).drop 24).drop 24).drop 24).drop 24).drop 24).drop 24).drop 24).drop 24).drop 24).take 24).all (fun c => isCode c || c.before args0 about1) = true := by decide +kernel
theorem w_t13 : (((((((((((((words1.drop 24).drop 24).drop 24).drop 24).drop 24).drop 24).drop 24).drop 24).drop 24).drop 24).drop 24).drop 24).take 24).all (fun c => isCode c || c.before args0 about1) = true := by decide +kernel
theorem w_t14 : (((((((((((((words1.drop 24).drop 24).drop 24).drop 24).drop 24).drop 24).drop 24).drop 24).drop 24).drop 24).drop 24).drop 24).drop 24).all (fun c => isCode c || c.before args0 about1) = true := by decide +kernel
theorem w_tables : (allAtoms (Jvm.Cond.code x code maxLocals ret :: tables_1)).before args0 about1 = true := by
  rw [allAtoms_all]
  show words1.all (fun c => c.before args0 about1) = true
  refine all_split ?_ w_codes
  rw [← List.take_append_drop 24 words1, List.all_append, w_t1, ← List.take_append_drop 24 (words1.drop 24), List.all_append, w_t2, ← List.take_append_drop 24 ((words1.drop 24).drop 24), List.all_append, w_t3, ← List.take_append_drop 24 (((words1.drop 24).drop 24).drop 24), List.all_append, w_t4, ← List.take_append_drop 24 ((((words1.drop 24).drop 24).drop 24).drop 24), List.all_append, w_t5, ← List.take_append_drop 24 (((((words1.drop 24).drop 24).drop 24).drop 24).drop 24), List.all_append, w_t6, ← List.take_append_drop 24 ((((((words1.drop 24).drop 24).drop 24).drop 24).drop 24).drop 24), List.all_append, w_t7, ← List.take_append_drop 24 (((((((words1.drop 24).drop 24).drop 24).drop 24).drop 24).drop 24).drop 24), List.all_append, w_t8, ← List.take_append_drop 24 ((((((((words1.drop 24).drop 24).drop 24).drop 24).drop 24).drop 24).drop 24).drop 24), List.all_append, w_t9, ← List.take_append_drop 24 (((((((((words1.drop 24).drop 24).drop 24).drop 24).drop 24).drop 24).drop 24).drop 24).drop 24), List.all_append, w_t10, ← List.take_append_drop 24 ((((((((((words1.drop 24).drop 24).drop 24).drop 24).drop 24).drop 24).drop 24).drop 24).drop 24).drop 24), List.all_append, w_t11, ← List.take_append_drop 24 (((((((((((words1.drop 24).drop 24).drop 24).drop 24).drop 24).drop 24).drop 24).drop 24).drop 24).drop 24).drop 24), List.all_append, w_t12, ← List.take_append_drop 24 ((((((((((((words1.drop 24).drop 24).drop 24).drop 24).drop 24).drop 24).drop 24).drop 24).drop 24).drop 24).drop 24).drop 24), List.all_append, w_t13, w_t14]
  rfl
theorem w_rest : rest_1_c.before args0 about1 = true := by decide +kernel
theorem w_case : (Jvm.Cond.and given_1 narrow_1).before args0 about1 = true := by decide +kernel
theorem w_consts : constsHeld consts_1 about1 := Jvm.Lit.constsHeldB_iff.mp (by decide +kernel)
theorem w_applies : (headSpec (Jvm.Cond.code x code maxLocals ret :: tables_1) room_1).applies x e0.platform about1 = true :=
  (Spec.applies_iff w_frames).mpr ⟨w_running, w_runnable, w_alone, w_named, w_hears, w_ripe, w_room, w_tables⟩
theorem atStart : AtStart classFile x code maxLocals ret World_1 tables_1 room_1 Calls_1 rest_1 Pre_1 launch0 p0 e0 about1 theMethod args0 below0 :=
  ⟨lists_1, trivial, launch0.admits_env _ _ _, launch0.least_env, fairChoices_fair.cas, fairChoices_fair.clock, w_frames, w_args, w_heap, w_applies, ⟨w_consts, trivial⟩, w_rest, w_case⟩
end start1
theorem witness_1 : WitnessClaimed_1 := ⟨start1.p0, start1.e0, start1.about1, start1.theMethod, start1.args0, start1.below0, start1.atStart⟩
end Jvm.Pilot.@@N@@
