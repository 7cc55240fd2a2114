import JvmDerived
import JvmDerived.Pilot.@@N@@Statement
import JvmDerived.Pilot.@@N@@Code
set_option linter.unusedVariables false
set_option linter.unusedSimpArgs false
@@BLOCK:NumsL.lean.txt@@
/- laws to paste: Road.eqW, Road.empW (cut by pick.py; bodies as the Statement names them) -/
namespace Jvm.Pilot.@@N@@
namespace StrChars
open Jvm Sem ClassFile Op Lib Jvm.Stand Jvm.Free.XT Jvm.Free.ALB Jvm.Free.JM Jvm.Free
open Jvm.Lib.Cold (StaticIs)
/-- the byte that i2b leaves of a char -/
def lo8 (x : Int32) : Int32 := x.toInt8.toInt32
theorem fits_lo8 (y : Int32) : fits .byte (.int (lo8 y)) = true := by
  have h1 := y.toInt8.le_toInt
  have h2 := y.toInt8.toInt_lt
  simp only [lo8, fits, Bool.and_eq_true, decide_eq_true_eq, Int32.le_iff_toInt_le, Int8.toInt_toInt32, show (-128 : Int32).toInt = -128 from by decide, show (127 : Int32).toInt = 127 from by decide]
  omega
def U16 : String := "java/lang/StringUTF16"
/-- the byte, read back as charAt reads it, is the char -/
theorem lo8_mask {x : Int32} (h0 : ¬ x < 0) (h1 : ¬ 255 < x) : lo8 x &&& 255 = x := by
  have t : ∀ k : Fin 256, lo8 (Int32.ofNat k.val) &&& 255 = Int32.ofNat k.val := by decide +kernel
  rw [Int32.lt_iff_toInt_lt] at h0 h1
  have e0 : (0 : Int32).toInt = 0 := rfl
  have e1 : (255 : Int32).toInt = 255 := rfl
  obtain ⟨k, hk⟩ : ∃ k : Nat, x.toInt = k := ⟨x.toInt.toNat, by omega⟩
  have hx : x = Int32.ofNat k := Int32.toInt_inj.mp (by rw [hk, Int32.toInt_ofNat_small (by omega)])
  rw [hx]
  exact t ⟨k, by omega⟩
end StrChars
namespace StrChars.Road
open Jvm Sem ClassFile Op Lib Jvm.Stand Jvm.Free Jvm.Free.XT
open Jvm.Lib.Cold (StaticIs)
abbrev ST : String := "java/lang/String"

end StrChars.Road
namespace StrChars
open Jvm Sem ClassFile Op Lib Jvm.Stand Jvm.Free.XT Jvm.Free.ALB Jvm.Free.JM Jvm.Free
open Jvm.Lib.Cold (StaticIs)
def hi8 (x : Int32) : Int32 := lo8 (x >>> ((8 : Int32) &&& 31))
/-- what StringUTF16.getChar makes of two bytes -/
def pairCh (u v : Int32) : Int32 := (((u &&& 255) <<< ((0 : Int32) &&& 31)) ||| ((v &&& 255) <<< ((8 : Int32) &&& 31))).toUInt32.toUInt16.toUInt32.toInt32
theorem lo8_and (x : Int32) : (lo8 x &&& 255).toBitVec.toNat = x.toBitVec.toNat % 256 := by
  have h : (lo8 x).toBitVec = (x.toBitVec.signExtend 8).signExtend 32 := by rw [lo8, Int8.toBitVec_toInt32, Int32.toBitVec_toInt8]
  rw [Int32.toBitVec_and, BitVec.toNat_and, h]
  have e : ((x.toBitVec.signExtend 8).signExtend 32).toNat % 256 = x.toBitVec.toNat % 256 := by
    rw [BitVec.toNat_signExtend]
    have hlt := x.toBitVec.isLt
    simp only [BitVec.toNat_setWidth, BitVec.toNat_signExtend]
    split <;> split <;> omega
  rw [← e]
  exact Nat.and_two_pow_sub_one_eq_mod _ 8
theorem pair_says {c : Int32} (h0 : ¬ c < 0) (h1 : ¬ 65535 < c) : pairCh (lo8 c) (hi8 c) = c := by
  rw [Int32.lt_iff_toInt_lt] at h0 h1
  have e0 : (0 : Int32).toInt = 0 := rfl
  have e1 : (65535 : Int32).toInt = 65535 := rfl
  have hc : c.toInt = c.toBitVec.toNat := by
    have := c.toBitVec.isLt
    have e : c.toInt = c.toBitVec.toInt := rfl
    rw [e] at h0 h1
    rw [e]
    rw [BitVec.toInt_eq_toNat_cond] at h0 h1 ⊢
    split at h0 <;> split <;> omega
  have hn : c.toBitVec.toNat < 65536 := by omega
  have a1 := lo8_and c
  have a2 : (hi8 c &&& 255).toBitVec.toNat = c.toBitVec.toNat / 256 := by
    rw [hi8, lo8_and]
    have e : ((8 : Int32) &&& 31) = 8 := by decide
    rw [e, Int32.toBitVec_shiftRight]
    have e2 : ((8 : Int32).toBitVec.smod 32) = 8#32 := by decide
    rw [e2, BitVec.sshiftRight_eq', BitVec.toNat_sshiftRight_of_msb_false (by rw [BitVec.msb_eq_false_iff_two_mul_lt]; omega)]
    show c.toBitVec.toNat >>> 8 % 256 = _
    rw [Nat.shiftRight_eq_div_pow]
    omega
  unfold pairCh
  apply Int32.toBitVec_inj.mp
  apply BitVec.eq_of_toNat_eq
  have f0 : ((0 : Int32) &&& 31) = 0 := by decide
  have f8 : ((8 : Int32) &&& 31) = 8 := by decide
  rw [f0, f8]
  have g : (((lo8 c &&& 255) <<< (0 : Int32)) ||| ((hi8 c &&& 255) <<< (8 : Int32))).toBitVec.toNat = c.toBitVec.toNat := by
    rw [Int32.toBitVec_or, Int32.toBitVec_shiftLeft, Int32.toBitVec_shiftLeft]
    have s0 : ((0 : Int32).toBitVec.smod 32) = 0#32 := by decide
    have s8 : ((8 : Int32).toBitVec.smod 32) = 8#32 := by decide
    rw [s0, s8, BitVec.toNat_or]
    simp only [BitVec.shiftLeft_eq', BitVec.toNat_shiftLeft, a1, a2]
    show (c.toBitVec.toNat % 256) <<< 0 % 2 ^ 32 ||| (c.toBitVec.toNat / 256) <<< 8 % 2 ^ 32 = _
    rw [Nat.shiftLeft_zero, Nat.mod_eq_of_lt (show c.toBitVec.toNat % 256 < 2 ^ 32 by omega), Nat.mod_eq_of_lt (show (c.toBitVec.toNat / 256) <<< 8 < 2 ^ 32 by rw [Nat.shiftLeft_eq]; omega), Nat.or_comm, ← Nat.shiftLeft_add_eq_or_of_lt (by omega), Nat.shiftLeft_eq]
    omega
  show BitVec.toNat (((((lo8 c &&& 255) <<< (0 : Int32)) ||| ((hi8 c &&& 255) <<< (8 : Int32))).toBitVec.setWidth 16).setWidth 32) = _
  rw [BitVec.toNat_setWidth, BitVec.toNat_setWidth, g]
  omega
end StrChars
namespace StrChars
open Jvm Sem ClassFile Op Lib Jvm.Stand Jvm.Free.XT Jvm.Free.ALB Jvm.Free.JM Jvm.Free
open Jvm.Lib.Cold (StaticIs)
/-- the array's cell V codes the n chars f 0 .. f (n - 1) by the coder cd, as the JDK does: coder 1 just where some char is above 255 -/
def Cod (cd : Int32) (n : Nat) (f : Nat → Int32) (V : Cell) : Prop := (cd = 0 ∧ V.slots.size = n ∧ ∀ j, j < n → V.slots[j]? = some (.int (lo8 (f j))) ∧ ¬ 255 < f j) ∨ (cd = 1 ∧ V.slots.size = 2 * n ∧ (∀ j, j < n → V.slots[2 * j]? = some (.int (lo8 (f j))) ∧ V.slots[2 * j + 1]? = some (.int (hi8 (f j)))) ∧ ∃ j, j < n ∧ 255 < f j)
/-- **x is a String of the n chars f 0 .. f (n - 1)**, Latin-1 or UTF-16; its array at t has the cell V -/
def Txt (x t : Addr) (V : Cell) (cd : Int32) (n : Nat) (f : Nat → Int32) (U : State) : Prop := Exact "java/lang/String" x U ∧ Has x "java/lang/String" "value" "[B" (.ref t) U ∧ Has x "java/lang/String" "coder" "B" (.int cd) U ∧ XT.Arr .byte t V U ∧ Cod cd n f V ∧ ∀ j, j < n → ¬ f j < 0 ∧ ¬ 65535 < f j
theorem Txt.mv {x t : Addr} {V : Cell} {cd : Int32} {n : Nat} {f : Nat → Int32} {U U' : State} (h : Txt x t V cd n f U) (hal : U.vm.Alike U'.vm) (hh : U'.heap = U.heap) : Txt x t V cd n f U' := ⟨h.1.mv hal hh, h.2.1.mv hal hh, h.2.2.1.mv hal hh, h.2.2.2.1.mv hal hh, h.2.2.2.2⟩
end StrChars
namespace StrChars.Road
open Jvm Sem ClassFile Op Lib Jvm.Stand Jvm.Free Jvm.Free.XT
open Jvm.Lib.Cold (StaticIs)
theorem consq {a : Array Value} {s : State} {c : Jvm.Cond} {L : List Jvm.Cond} (h0 : c.before a s = true) (h : ∀ w ∈ L, w.before a s = true) : ∀ w ∈ c :: L, w.before a s = true := fun w hw => (List.mem_cons.mp hw).elim (fun e => e ▸ h0) (h w)
/-- the bytes of the chars cs, low before high -/
def wideBytes : List Int32 → List Value
  | [] => []
  | c :: cs => .int (lo8 c) :: .int (hi8 c) :: wideBytes cs
theorem wide_lo (d : Value) : ∀ (cs : List Int32) (j : Nat), j < cs.length → (wideBytes cs).getD (2 * j) d = .int (lo8 (cs.getD j 0))
  | [], j, h => absurd h (Nat.not_lt_zero j)
  | c :: cs, 0, _ => rfl
  | c :: cs, j + 1, h => by
    have q := wide_lo d cs j (by simpa using h)
    rw [show 2 * (j + 1) = 2 * j + 1 + 1 from by omega]
    simpa [wideBytes] using q
theorem wide_hi (d : Value) : ∀ (cs : List Int32) (j : Nat), j < cs.length → (wideBytes cs).getD (2 * j + 1) d = .int (hi8 (cs.getD j 0))
  | [], j, h => absurd h (Nat.not_lt_zero j)
  | c :: cs, 0, _ => rfl
  | c :: cs, j + 1, h => by
    have q := wide_hi d cs j (by simpa using h)
    rw [show 2 * (j + 1) + 1 = 2 * j + 1 + 1 + 1 from by omega]
    simpa [wideBytes] using q
theorem low_at (d : Value) (cs : List Int32) (j : Nat) (h : j < cs.length) : (cs.map fun c => Value.int (lo8 c)).getD j d = .int (lo8 (cs.getD j 0)) := by
  simp [List.getD_eq_getElem?_getD, h]
/-- an array of N2 bytes vs codes the chars cs by the coder cd -/
def CodA (cs : List Int32) (cd N2 : Int32) (vs : List Value) : Prop := (cd = 0 ∧ N2 = Int32.ofNat cs.length ∧ vs = (cs.map fun c => Value.int (lo8 c)) ∧ ∀ c ∈ cs, ¬ 255 < c) ∨ (cd = 1 ∧ N2 = Int32.ofNat (2 * cs.length) ∧ vs = wideBytes cs ∧ ∃ c ∈ cs, 255 < c)
theorem CodA.cod {cs : List Int32} {cd N2 : Int32} {vs : List Value} {V : Cell} (h : CodA cs cd N2 vs) (hn : 2 * cs.length < 2 ^ 31) (hs : V.slots.size = N2.toNatClampNeg) (hv : RoadKit.Has V vs (.int 0)) : Cod cd cs.length (fun j => cs.getD j 0) V := by
  rcases h with ⟨rfl, rfl, rfl, h⟩ | ⟨rfl, rfl, rfl, c, hc, hw⟩
  · rw [n32 (by omega)] at hs
    exact Or.inl ⟨rfl, hs, fun j hj => ⟨by rw [hv j (by omega), low_at _ _ _ hj], by
      have e : cs.getD j 0 = cs[j] := by simp [List.getD_eq_getElem?_getD, hj]
      show ¬ 255 < cs.getD j 0
      rw [e]; exact h _ (List.getElem_mem _)⟩⟩
  · rw [n32 (by omega)] at hs
    obtain ⟨j, hj, rfl⟩ := List.getElem_of_mem hc
    exact Or.inr ⟨rfl, hs, fun j hj => ⟨by rw [hv _ (by omega), wide_lo _ _ _ hj], by rw [hv _ (by omega), wide_hi _ _ _ hj]⟩, j, hj, by
      have e : cs.getD j 0 = cs[j] := by simp [List.getD_eq_getElem?_getD, hj]
      show 255 < cs.getD j 0
      rw [e]; exact hw⟩
/-- an object of exactly java/lang/String, its two fields found: as the laws ask it -/
theorem strObj {Z U : State} {a0 : Array Value} {kI : Nat} (wi : (Jvm.Cond.instantiable ST kI).before a0 Z = true) (al : Z.vm.Alike U.vm) {x : Addr} {v0 c0 : Value} (E : RoadKit.Exa Z U.heap x ST) (V : RoadKit.Fld Z U.heap x ST "value" "[B" v0) (C : RoadKit.Fld Z U.heap x ST "coder" "B" c0) :
    ∃ (D : Cell) (fV fC : Field), Blank ST x D U ∧ Found ST "value" "[B" fV U ∧ Found ST "coder" "B" fC U ∧ D.slots[fV.slot]? = some v0 ∧ D.slots[fC.slot]? = some c0 ∧ RoadKit.slotOf Z ST "value" "[B" = fV.slot ∧ RoadKit.slotOf Z ST "coder" "B" = fC.slot := by
  obtain ⟨D, cfV, kV, iV, fV, hD, gV, stV, knV, obV, asV, slV⟩ := V
  obtain ⟨D', cfC, kC, iC, fC, hD', gC, stC, -, -, asC, slC⟩ := C
  cases hD.symm.trans hD'
  obtain ⟨D2, kD, e1, e2, e3, e4, e5⟩ := E
  cases hD.symm.trans e1
  obtain ⟨c2, k2, i1, i2, i3, -⟩ := Cond.instantiable_spec wi
  cases e2.symm.trans i1
  cases e3.symm.trans i2
  obtain ⟨kU, u1, u2⟩ := al.2.2 _ _ e3
  exact ⟨D, fV, fC, ⟨hD, ⟨knV, fun q hq => by rw [hq] at obV; cases obV⟩, by rw [al.findClass]; exact e2, kU, u1, by rw [u2]; exact i3, by rw [u2]; exact e5 i3⟩, ⟨SBG.found_only al ⟨cfV, kV, iV, gV⟩, stV⟩, ⟨SBG.found_only al ⟨cfC, kC, iC, gC⟩, stC⟩, slV, slC, by simp [RoadKit.slotOf, gV], by simp [RoadKit.slotOf, gC]⟩
theorem sta_is {Z U : State} (al : Z.vm.Alike U.vm) {C n d : String} {v : Value} (S : RoadKit.Sta Z U.heap C n d v) : StaticIs U C n d v := by
  obtain ⟨cfS, iS, kS, fS, st, cS, t1, t2, t3, t4, t5, t6, t7⟩ := S
  exact StaticIs.there (s := { Z with heap := U.heap }) ⟨cfS, iS, kS, fS, st, cS, t1, t2, t3, t4, t5, (fun q => by rw [q] at t6; cases t6), t7⟩ al rfl
end StrChars.Road
namespace StrChars
open Jvm Sem ClassFile Op Lib Jvm.Stand Jvm.Free.XT Jvm.Free.ALB Jvm.Free.JM Jvm.Free
open Jvm.Lib.Cold (StaticIs)
namespace Emp
def yN : MethodName := ⟨"java/lang/String", "isEmpty", "()Z"⟩
abbrev yB : ByteArray := jdk_42_method_55_code
theorem d0 : decode yB 0 = .ok (.aload_n 0, 1) := by decide +kernel
theorem d1 : decode yB 1 = .ok (.getfield 9, 3) := by decide +kernel
theorem d4 : decode yB 4 = .ok (.arraylength, 1) := by decide +kernel
theorem d5 : decode yB 5 = .ok (.ifCond (.ne) 7, 3) := by decide +kernel
theorem d8 : decode yB 8 = .ok (.iconst 1, 1) := by decide +kernel
theorem d9 : decode yB 9 = .ok (.goto 4, 3) := by decide +kernel
theorem d12 : decode yB 12 = .ok (.iconst 0, 1) := by decide +kernel
theorem d13 : decode yB 13 = .ok (.ireturn, 1) := by decide +kernel
def site : List Cond := [.fieldLink "java/lang/String" 9 "java/lang/String" "value" "[B"]
def tab : Cond := tabOf yN yB 1 (some .boolean) site
def P (x t : Addr) (V : Cell) (cd : Int32) (n : Nat) (f : Nat → Int32) (args : Array Value) (s : State) : Prop := args = #[.ref x] ∧ Txt x t V cd n f s
def E (n : Nat) (r : Option Value) (s u : State) : Prop := XT.PureE (some (.int (if n = 0 then 1 else 0))) r s u
/-- isEmpty() of a String of n chars -/
theorem law (l : Launch) (x t : Addr) (V : Cell) (cd : Int32) (n : Nat) (f : Nat → Int32) : Law l yN 1 0 0 0 yB 1 (some .boolean) site (P x t V cd n f) (E n) [] 0 0 := by
  refine Law.of_walk (plainFor_of_name (by decide +kernel)) (by decide +kernel) (by decide +kernel) (by decide) (fun _ _ h => by rw [h.1]; rfl) (fun _ U U' hal hh h => ⟨h.1, h.2.mv hal hh⟩) (fun r U U' V V' h1 hal h2 h => XT.PureE.mv r U U' V V' h1 hal h2 h) ?_
  intro p e s m args below meth c s₁ X0 hexec hbytes hml hret hlk hnm hown hh0 W hP
  obtain ⟨rfl, hx⟩ := hP
  have v31 := hx.2.2.2.1.2.2.2
  have c1 : Steps p.tables e below (s₁.setTop (entryFrame m #[.ref x] 1)) (s₁.setTop (mkF m 1 #[.val (.ref x)] [.ref x])) := Steps.trans (entry rfl) (by
    show Steps p.tables e below (s₁.setTop (mkF m 0 #[.val (.ref x)] [])) _
    refine XS.aloadN X0.here hexec rfl (hb hbytes d0) rfl rfl ?_
    exact Steps.refl _)
  obtain ⟨T2, X2, q2, st2⟩ := X0.hget hexec hown (wk W (.fieldLink "java/lang/String" 9 "java/lang/String" "value" "[B")) (hx.mv X0.warmed.alike hh0).2.1 (g := (mkF m 1 #[.val (.ref x)] [.ref x])) rfl (rest := []) rfl (hb hbytes d1)
  have hh2 := q2.trans hh0
  have hx2 := hx.mv X2.warmed.alike hh2
  have c3 : Steps p.tables e below (s₁.setTop (entryFrame m #[.ref x] 1)) (T2.setTop (mkF m 5 #[.val (.ref x)] [.int (Int32.ofNat V.slots.size)])) := (c1.trans (st2 _ (Steps.refl _))).trans (by
    refine X2.alen hexec hx2.2.2.2.1 rfl rfl (hb hbytes d4) ?_
    exact Steps.refl _)
  have hz : V.slots.size = 0 ↔ n = 0 := by
    rcases hx.2.2.2.2.1 with ⟨-, q, -⟩ | ⟨-, q, -⟩ <;> omega
  by_cases h0 : n = 0
  · have c4 : Steps p.tables e below (s₁.setTop (entryFrame m #[.ref x] 1)) (T2.setTop (mkF m 13 #[.val (.ref x)] [.int 1])) := c3.trans (by
      refine XS.ifNo X2.here hexec rfl (hb hbytes d5) rfl (i0_ne_f (by rw [hz.mpr h0]; rfl)) ?_
      refine iconstV X2.here hexec rfl 1 (hb hbytes d8) (by decide) ?_
      refine XS.goto X2.here hexec rfl (pc0 := 9) rfl (hb hbytes d9) (by decide) rfl ?_
      exact Steps.refl _)
    exact ⟨T2, some (.int 1), _, _, _, X2, rfl, rfl, rfl, (fun h => by cases h), ⟨by rw [if_pos h0], hh2⟩, fun fs hl => c4.trans (X2.ireturnOut hexec hret rfl (Or.inr (Or.inl rfl)) (hb hbytes d13) hl)⟩
  · have c4 : Steps p.tables e below (s₁.setTop (entryFrame m #[.ref x] 1)) (T2.setTop (mkF m 13 #[.val (.ref x)] [.int 0])) := c3.trans (by
      refine XS.ifYes X2.here hexec rfl (pc0 := 5) rfl (hb hbytes d5) rfl (i0_ne_t (nz32 v31 (by omega))) (by decide) rfl ?_
      refine iconstV X2.here hexec rfl 0 (hb hbytes d12) (by decide) ?_
      exact Steps.refl _)
    exact ⟨T2, some (.int 0), _, _, _, X2, rfl, rfl, rfl, (fun h => by cases h), ⟨by rw [if_neg h0], hh2⟩, fun fs hl => c4.trans (X2.ireturnOut hexec hret rfl (Or.inr (Or.inl rfl)) (hb hbytes d13) hl)⟩
theorem pays {l : Launch} {R : Room} {p : Program} {e : Env} {below : List Frame} {s : State} {sargs : Array Value} {len W : Nat} (x t : Addr) (V : Cell) (cd : Int32) (n : Nat) (f : Nat → Int32) (htab : tab.before sargs s = true) (hfr : 1 ≤ R.frames) (hlo : W + 12 ≤ R.locals) :
    Back l R p e below s sargs yN len W (fun A₁ a₁ => A₁.cells + 0 ≤ R.cells ∧ A₁.slots + 0 ≤ R.slots ∧ P x t V cd n f a₁ A₁.U) (fun A₁ _ v₁ B₁ => E n v₁ A₁.U B₁.U ∧ B₁.locs = A₁.locs ++ [] ∧ B₁.cells = A₁.cells + 0 ∧ B₁.slots = A₁.slots + 0) :=
  (law l x t V cd n f).pays htab hfr (by omega)
end Emp
/-- what place i of a byte[]'s cell holds -/
def yv (A : Cell) (i : Nat) : Int32 := match A.slots[i]? with | some (.int x) => x | _ => 0
theorem yv_get {a : Addr} {A : Cell} {U : State} (h : XT.Arr .byte a A U) (ht : Typed .byte A) {i : Nat} (hi : i < A.slots.size) : A.slots[i]? = some (.int (yv A i)) := by
  have e := Array.getElem?_eq_getElem hi
  have f := ht i _ e
  unfold yv; rw [e]
  generalize A.slots[i] = v at f
  cases v <;> simp [fits] at f ⊢
/-- the two arrays are equal, place for place -/
def EqC (A B : Cell) : Prop := A.slots.size = B.slots.size ∧ ∀ i, i < A.slots.size → yv A i = yv B i
/-- a boolean that says whether p -/
def Says01 (q : Prop) (r : Option Value) (s u : State) : Prop := ∃ v : Int32, r = some (.int v) ∧ u.heap = s.heap ∧ ((v = 1 ∧ q) ∨ (v = 0 ∧ ¬ q))
theorem Says01.mv {q : Prop} : ∀ r (U U' V V' : State), U'.heap = U.heap → V.vm.Alike V'.vm → V'.heap = V.heap → Says01 q r U V → Says01 q r U' V' :=
  fun r U U' V V' h1 _ h2 ⟨v, a, b, c⟩ => ⟨v, a, by rw [h1, h2]; exact b, c⟩
namespace LEq
def yN : MethodName := ⟨"java/lang/StringLatin1", "equals", "([B[B)Z"⟩
abbrev yB : ByteArray := jdk_43_method_13_code
theorem d0 : decode yB 0 = .ok (.aload_n 0, 1) := by decide +kernel
theorem d1 : decode yB 1 = .ok (.arraylength, 1) := by decide +kernel
theorem d2 : decode yB 2 = .ok (.aload_n 1, 1) := by decide +kernel
theorem d3 : decode yB 3 = .ok (.arraylength, 1) := by decide +kernel
theorem d4 : decode yB 4 = .ok (.if_icmp (.ne) 30, 3) := by decide +kernel
theorem d7 : decode yB 7 = .ok (.iconst 0, 1) := by decide +kernel
theorem d8 : decode yB 8 = .ok (.istore_n 2, 1) := by decide +kernel
theorem d9 : decode yB 9 = .ok (.iload_n 2, 1) := by decide +kernel
theorem d10 : decode yB 10 = .ok (.aload_n 0, 1) := by decide +kernel
theorem d11 : decode yB 11 = .ok (.arraylength, 1) := by decide +kernel
theorem d12 : decode yB 12 = .ok (.if_icmp (.ge) 20, 3) := by decide +kernel
theorem d15 : decode yB 15 = .ok (.aload_n 0, 1) := by decide +kernel
theorem d16 : decode yB 16 = .ok (.iload_n 2, 1) := by decide +kernel
theorem d17 : decode yB 17 = .ok (.baload, 1) := by decide +kernel
theorem d18 : decode yB 18 = .ok (.aload_n 1, 1) := by decide +kernel
theorem d19 : decode yB 19 = .ok (.iload_n 2, 1) := by decide +kernel
theorem d20 : decode yB 20 = .ok (.baload, 1) := by decide +kernel
theorem d21 : decode yB 21 = .ok (.if_icmp (.eq) 5, 3) := by decide +kernel
theorem d24 : decode yB 24 = .ok (.iconst 0, 1) := by decide +kernel
theorem d25 : decode yB 25 = .ok (.ireturn, 1) := by decide +kernel
theorem d26 : decode yB 26 = .ok (.iinc 2 1, 3) := by decide +kernel
theorem d29 : decode yB 29 = .ok (.goto (-20), 3) := by decide +kernel
theorem d32 : decode yB 32 = .ok (.iconst 1, 1) := by decide +kernel
theorem d33 : decode yB 33 = .ok (.ireturn, 1) := by decide +kernel
theorem d34 : decode yB 34 = .ok (.iconst 0, 1) := by decide +kernel
theorem d35 : decode yB 35 = .ok (.ireturn, 1) := by decide +kernel
def site : List Cond := []
def tab : Cond := tabOf yN yB 3 (some .boolean) site
def P (a : Addr) (A : Cell) (b : Addr) (B : Cell) (args : Array Value) (s : State) : Prop := args = #[.ref a, .ref b] ∧ XT.Arr .byte a A s ∧ Typed .byte A ∧ XT.Arr .byte b B s ∧ Typed .byte B
/-- whether two byte[] are equal, place for place -/
theorem law (l : Launch) (a : Addr) (A : Cell) (b : Addr) (B : Cell) : Law l yN 2 2 0 0 yB 3 (some .boolean) site (P a A b B) (Says01 (EqC A B)) [] 0 0 := by
  refine Law.of_walk (plainFor_of_name (by decide +kernel)) (by decide +kernel) (by decide +kernel) (by decide) (fun _ _ h => by rw [h.1]; rfl) (fun _ U U' hal hh h => ⟨h.1, h.2.1.mv hal hh, h.2.2.1, h.2.2.2.1.mv hal hh, h.2.2.2.2⟩) (fun r U U' V V' h1 hal h2 h => Says01.mv r U U' V V' h1 hal h2 h) ?_
  intro p e s m args below meth c s₁ X0 hexec hbytes hml hret hlk hnm hown hh0 W hP
  obtain ⟨rfl, hA, tA, hB, tB⟩ := hP
  have a31 := hA.2.2.2
  have b31 := hB.2.2.2
  have hA0 := hA.mv X0.warmed.alike hh0
  have hB0 := hB.mv X0.warmed.alike hh0
  have c1 : Steps p.tables e below (s₁.setTop (entryFrame m #[.ref a, .ref b] 3)) (s₁.setTop (mkF m 0 #[.val (.ref a), .val (.ref b), .unset] [])) := entry rfl
  have c2 : Steps p.tables e below (s₁.setTop (entryFrame m #[.ref a, .ref b] 3)) (s₁.setTop (mkF m 4 #[.val (.ref a), .val (.ref b), .unset] [.int (Int32.ofNat B.slots.size), .int (Int32.ofNat A.slots.size)])) := c1.trans (by
    refine XS.aloadN X0.here hexec rfl (hb hbytes d0) rfl rfl ?_
    refine X0.alen hexec hA0 rfl rfl (hb hbytes d1) ?_
    refine XS.aloadN X0.here hexec rfl (hb hbytes d2) rfl rfl ?_
    refine X0.alen hexec hB0 rfl rfl (hb hbytes d3) ?_
    exact Steps.refl _)
  by_cases hs : A.slots.size = B.slots.size
  · have c3 : Steps p.tables e below (s₁.setTop (entryFrame m #[.ref a, .ref b] 3)) (s₁.setTop (mkF m 9 #[.val (.ref a), .val (.ref b), .val (.int 0)] [])) := c2.trans (by
      refine XS.icmpNo X0.here hexec rfl (hb hbytes d4) rfl (ii_ne_f (by rw [hs])) ?_
      refine iconstV X0.here hexec rfl 0 (hb hbytes d7) (by decide) ?_
      refine XS.istoreN X0.here hexec rfl (hb hbytes d8) rfl rfl ?_
      exact Steps.refl _)
    have loop : ∀ (r i : Nat), i + r = A.slots.size → (∀ j, j < i → yv A j = yv B j) → Steps p.tables e below (s₁.setTop (entryFrame m #[.ref a, .ref b] 3)) (s₁.setTop (mkF m 9 #[.val (.ref a), .val (.ref b), .val (.int (Int32.ofNat i))] [])) → ∃ (pc : Nat) (Ls : Array Slot) (v : Int32), (pc = 25 ∨ pc = 33) ∧ ((v = 1 ∧ EqC A B) ∨ (v = 0 ∧ ¬ EqC A B)) ∧ Steps p.tables e below (s₁.setTop (entryFrame m #[.ref a, .ref b] 3)) (s₁.setTop (mkF m pc Ls [.int v])) := by
      intro r
      induction r with
      | zero =>
        intro i hi he cl
        exact ⟨33, _, 1, Or.inr rfl, Or.inl ⟨rfl, hs, fun j hj => he j (by omega)⟩, cl.trans (by
          refine XS.iloadN X0.here hexec rfl (hb hbytes d9) rfl ?_
          refine XS.aloadN X0.here hexec rfl (hb hbytes d10) rfl rfl ?_
          refine X0.alen hexec hA0 rfl rfl (hb hbytes d11) ?_
          refine XS.icmpYes X0.here hexec rfl (pc0 := 12) rfl (hb hbytes d12) rfl (ii_ge_t (nlt32 (by omega) (by omega))) (by decide) rfl ?_
          refine iconstV X0.here hexec rfl 1 (hb hbytes d32) (by decide) ?_
          exact Steps.refl _)⟩
      | succ r ih =>
        intro i hi he cl
        have c4 : Steps p.tables e below (s₁.setTop (entryFrame m #[.ref a, .ref b] 3)) (s₁.setTop (mkF m 21 #[.val (.ref a), .val (.ref b), .val (.int (Int32.ofNat i))] [.int (yv B i), .int (yv A i)])) := cl.trans (by
          refine XS.iloadN X0.here hexec rfl (hb hbytes d9) rfl ?_
          refine XS.aloadN X0.here hexec rfl (hb hbytes d10) rfl rfl ?_
          refine X0.alen hexec hA0 rfl rfl (hb hbytes d11) ?_
          refine XS.icmpNo X0.here hexec rfl (hb hbytes d12) rfl (ii_ge_f (lt32 (by omega) (by omega))) ?_
          refine XS.aloadN X0.here hexec rfl (hb hbytes d15) rfl rfl ?_
          refine XS.iloadN X0.here hexec rfl (hb hbytes d16) rfl ?_
          refine X0.aget hexec hA0 rfl (yv_get hA tA (i := i) (by omega)) rfl rfl (hb hbytes d17) ?_
          refine XS.aloadN X0.here hexec rfl (hb hbytes d18) rfl rfl ?_
          refine XS.iloadN X0.here hexec rfl (hb hbytes d19) rfl ?_
          refine X0.aget hexec hB0 rfl (yv_get hB tB (i := i) (by omega)) rfl rfl (hb hbytes d20) ?_
          exact Steps.refl _)
        by_cases hv : yv A i = yv B i
        · have c5 : Steps p.tables e below (s₁.setTop (entryFrame m #[.ref a, .ref b] 3)) (s₁.setTop (mkF m 9 #[.val (.ref a), .val (.ref b), .val (.int (Int32.ofNat i + 1))] [])) := c4.trans (by
            refine XS.icmpYes X0.here hexec rfl (pc0 := 21) rfl (hb hbytes d21) rfl (ii_eq_t hv) (by decide) rfl ?_
            refine iincV X0.here hexec rfl 1 (hb hbytes d26) (by decide) rfl rfl ?_
            refine XS.goto X0.here hexec rfl (pc0 := 29) rfl (hb hbytes d29) (by decide) rfl ?_
            exact Steps.refl _)
          rw [succ32] at c5
          exact ih (i + 1) (by omega) (fun j hj => by
            by_cases e : j = i
            · rw [e]; exact hv
            · exact he j (by omega)) c5
        · exact ⟨25, _, 0, Or.inl rfl, Or.inr ⟨rfl, fun q => hv (q.2 i (by omega))⟩, c4.trans (by
            refine XS.icmpNo X0.here hexec rfl (hb hbytes d21) rfl (ii_eq_f hv) ?_
            refine iconstV X0.here hexec rfl 0 (hb hbytes d24) (by decide) ?_
            exact Steps.refl _)⟩
    obtain ⟨pc, Ls, v, hpc, hv, cz⟩ := loop A.slots.size 0 (by omega) (fun j hj => absurd hj (Nat.not_lt_zero j)) c3
    have nv : narrow .boolean (.int v) = .int v := by rcases hv with ⟨rfl, -⟩ | ⟨rfl, -⟩ <;> rfl
    rcases hpc with rfl | rfl
    · exact ⟨s₁, some (.int v), _, _, _, X0, rfl, rfl, rfl, (fun h => by cases h), ⟨v, rfl, hh0, hv⟩, fun fs hl => cz.trans (X0.ireturnOut hexec hret nv (Or.inr (Or.inl rfl)) (hb hbytes d25) hl)⟩
    · exact ⟨s₁, some (.int v), _, _, _, X0, rfl, rfl, rfl, (fun h => by cases h), ⟨v, rfl, hh0, hv⟩, fun fs hl => cz.trans (X0.ireturnOut hexec hret nv (Or.inr (Or.inl rfl)) (hb hbytes d33) hl)⟩
  · have c3 : Steps p.tables e below (s₁.setTop (entryFrame m #[.ref a, .ref b] 3)) (s₁.setTop (mkF m 35 #[.val (.ref a), .val (.ref b), .unset] [.int 0])) := c2.trans (by
      refine XS.icmpYes X0.here hexec rfl (pc0 := 4) rfl (hb hbytes d4) rfl (ii_ne_t (ne32 a31 b31 hs)) (by decide) rfl ?_
      refine iconstV X0.here hexec rfl 0 (hb hbytes d34) (by decide) ?_
      exact Steps.refl _)
    exact ⟨s₁, some (.int 0), _, _, _, X0, rfl, rfl, rfl, (fun h => by cases h), ⟨0, rfl, hh0, Or.inr ⟨rfl, fun q => hs q.1⟩⟩, fun fs hl => c3.trans (X0.ireturnOut hexec hret rfl (Or.inr (Or.inl rfl)) (hb hbytes d35) hl)⟩
end LEq
theorem Cod.ty {cd : Int32} {n : Nat} {f : Nat → Int32} {V : Cell} (h : Cod cd n f V) : Typed .byte V := fun i v hv => by
  have hi : i < V.slots.size := (Array.getElem?_eq_some_iff.mp hv).1
  rcases h with ⟨-, k1, k2⟩ | ⟨-, k1, k2, -⟩
  · rw [(k2 i (by omega)).1] at hv; cases hv; exact fits_lo8 _
  · rcases Nat.mod_two_eq_zero_or_one i with e | e
    · obtain ⟨j, rfl⟩ : ∃ j, i = 2 * j := ⟨i / 2, by omega⟩
      rw [(k2 j (by omega)).1] at hv; cases hv; exact fits_lo8 _
    · obtain ⟨j, rfl⟩ : ∃ j, i = 2 * j + 1 := ⟨i / 2, by omega⟩
      rw [(k2 j (by omega)).2] at hv; cases hv; exact fits_lo8 _
/-- the same text -/
def SameT (n : Nat) (f : Nat → Int32) (k : Nat) (g : Nat → Int32) : Prop := n = k ∧ ∀ j, j < n → f j = g j
theorem lo8_inj {x y : Int32} (h0 : ¬ x < 0) (h1 : ¬ 255 < x) (k0 : ¬ y < 0) (k1 : ¬ 255 < y) (h : lo8 x = lo8 y) : x = y := by
  rw [← lo8_mask h0 h1, ← lo8_mask k0 k1, h]
/-- arrays coded by one coder are equal just where the texts are -/
theorem Cod.eqv {cd : Int32} {n k : Nat} {f g : Nat → Int32} {V V' : Cell} (h : Cod cd n f V) (h' : Cod cd k g V') (hf : ∀ j, j < n → ¬ f j < 0 ∧ ¬ 65535 < f j) (hg : ∀ j, j < k → ¬ g j < 0 ∧ ¬ 65535 < g j) : EqC V V' ↔ SameT n f k g := by
  have yvv : ∀ {W : Cell} {i : Nat} {x : Int32}, W.slots[i]? = some (.int x) → yv W i = x := fun q => by unfold yv; rw [q]
  rcases h with ⟨rfl, k1, k2⟩ | ⟨rfl, k1, k2, -⟩
  · rcases h' with ⟨-, m1, m2⟩ | ⟨e, -⟩
    · constructor
      · rintro ⟨e1, e2⟩
        refine ⟨by omega, fun j hj => ?_⟩
        have q := e2 j (by omega)
        rw [yvv (k2 j hj).1, yvv (m2 j (by omega)).1] at q
        exact lo8_inj (hf j hj).1 (k2 j hj).2 (hg j (by omega)).1 (m2 j (by omega)).2 q
      · rintro ⟨rfl, e2⟩
        refine ⟨by omega, fun j hj => ?_⟩
        rw [yvv (k2 j (by omega)).1, yvv (m2 j (by omega)).1, e2 j (by omega)]
    · exact absurd e (by decide)
  · rcases h' with ⟨e, -⟩ | ⟨-, m1, m2, -⟩
    · exact absurd e (by decide)
    · constructor
      · rintro ⟨e1, e2⟩
        refine ⟨by omega, fun j hj => ?_⟩
        have q1 := e2 (2 * j) (by omega)
        have q2 := e2 (2 * j + 1) (by omega)
        rw [yvv (k2 j hj).1, yvv (m2 j (by omega)).1] at q1
        rw [yvv (k2 j hj).2, yvv (m2 j (by omega)).2] at q2
        rw [← pair_says (hf j hj).1 (hf j hj).2, ← pair_says (hg j (by omega)).1 (hg j (by omega)).2, q1, q2]
      · rintro ⟨rfl, e2⟩
        refine ⟨by omega, fun i hi => ?_⟩
        rcases Nat.mod_two_eq_zero_or_one i with e | e
        · obtain ⟨j, rfl⟩ : ∃ j, i = 2 * j := ⟨i / 2, by omega⟩
          rw [yvv (k2 j (by omega)).1, yvv (m2 j (by omega)).1, e2 j (by omega)]
        · obtain ⟨j, rfl⟩ : ∃ j, i = 2 * j + 1 := ⟨i / 2, by omega⟩
          rw [yvv (k2 j (by omega)).2, yvv (m2 j (by omega)).2, e2 j (by omega)]
/-- two codings differ: so do the texts -/
theorem Cod.dif {cd cd' : Int32} {n k : Nat} {f g : Nat → Int32} {V V' : Cell} (h : Cod cd n f V) (h' : Cod cd' k g V') (hne : ¬ cd = cd') : ¬ SameT n f k g := by
  rintro ⟨rfl, e⟩
  rcases h with ⟨rfl, -, k2⟩ | ⟨rfl, -, -, j, hj, hw⟩
  · rcases h' with ⟨rfl, -⟩ | ⟨-, -, -, j, hj, hw⟩
    · exact hne rfl
    · exact (k2 j hj).2 (by rw [e j hj]; exact hw)
  · rcases h' with ⟨-, -, m2⟩ | ⟨rfl, -⟩
    · exact (m2 j hj).2 (by rw [← e j hj]; exact hw)
    · exact hne rfl
/-- an object of exactly C is an instance of C -/
theorem cinst {p : Program} {l : Launch} {e : Env} {R : Room} {s : State} {m : MethodId} {args : Array Value} {below : List Frame} {meth : Method} {c : Code} {T : State} {locs : List Loc} {cells slots : Nat} (X : Stand p l e R s m args below meth c T locs cells slots) (hexec : p.tables.exec = Jvm.exec) {own C : String} {index : Nat} (hown : s.vm.findClass own = some m.cls) (hlink : (Cond.classLink own index C).before args s = true) {a : Addr} (hE : Exact C a T)
    {g : JFrame} (hg : g.method = m) {rest : List Value} (hstack : g.stack = .ref a :: rest) (hdg : decode c.code g.pc = .ok (.instanceof index, 3)) :
    ∃ T', Stand p l e R s m args below meth c T' locs cells slots ∧ T'.heap = T.heap ∧ ∀ target, Steps p.tables e below (T'.setTop { g with pc := g.pc + 3, stack := .int 1 :: rest }) target → Steps p.tables e below (T.setTop g) target := by
  obtain ⟨cB, h1, D, h2, h3, h4⟩ := hE
  have h1' : s.vm.findClass C = some cB := by rw [← X.warmed.alike.findClass]; exact h1
  obtain ⟨vm', X', st⟩ := X.instanceofYes hexec hown hlink h2 h4 h1' (by rw [h3]; exact Jvm.Free.SB.assignable_self _ _) hg hstack hdg
  exact ⟨_, X', rfl, st⟩
theorem cself {p : Program} {l : Launch} {e : Env} {R : Room} {s : State} {m : MethodId} {args : Array Value} {below : List Frame} {meth : Method} {c : Code} {T : State} {locs : List Loc} {cells slots : Nat} (X : Stand p l e R s m args below meth c T locs cells slots) (hexec : p.tables.exec = Jvm.exec) {own C : String} {index : Nat} (hown : s.vm.findClass own = some m.cls) (hlink : (Cond.classLink own index C).before args s = true) {a : Addr} (hE : Exact C a T)
    {g : JFrame} (hg : g.method = m) {rest : List Value} (hstack : g.stack = .ref a :: rest) (hdg : decode c.code g.pc = .ok (.checkcast index, 3)) :
    ∃ T', Stand p l e R s m args below meth c T' locs cells slots ∧ T'.heap = T.heap ∧ ∀ target, Steps p.tables e below (T'.setTop { g with pc := g.pc + 3, stack := .ref a :: rest }) target → Steps p.tables e below (T.setTop g) target := by
  obtain ⟨cB, h1, D, h2, h3, h4⟩ := hE
  have h1' : s.vm.findClass C = some cB := by rw [← X.warmed.alike.findClass]; exact h1
  obtain ⟨vm', X', st⟩ := X.checkcastYes hexec hown hlink h2 h4 h1' (by rw [h3]; exact Jvm.Free.SB.assignable_self _ _) hg hstack hdg
  exact ⟨_, X', rfl, fun t h => st t (by rw [← hstack] at h; exact h)⟩
namespace SEq
def yN : MethodName := ⟨"java/lang/String", "equals", "(Ljava/lang/Object;)Z"⟩
abbrev yB : ByteArray := jdk_42_method_66_code
theorem d0 : decode yB 0 = .ok (.aload_n 0, 1) := by decide +kernel
theorem d1 : decode yB 1 = .ok (.aload_n 1, 1) := by decide +kernel
theorem d2 : decode yB 2 = .ok (.if_acmp (.ne) 5, 3) := by decide +kernel
theorem d5 : decode yB 5 = .ok (.iconst 1, 1) := by decide +kernel
theorem d6 : decode yB 6 = .ok (.ireturn, 1) := by decide +kernel
theorem d7 : decode yB 7 = .ok (.aload_n 1, 1) := by decide +kernel
theorem d8 : decode yB 8 = .ok (.instanceof 10, 3) := by decide +kernel
theorem d11 : decode yB 11 = .ok (.ifCond (.eq) 43, 3) := by decide +kernel
theorem d14 : decode yB 14 = .ok (.aload_n 1, 1) := by decide +kernel
theorem d15 : decode yB 15 = .ok (.checkcast 10, 3) := by decide +kernel
theorem d18 : decode yB 18 = .ok (.astore_n 2, 1) := by decide +kernel
theorem d19 : decode yB 19 = .ok (.getstatic 38, 3) := by decide +kernel
theorem d22 : decode yB 22 = .ok (.ifCond (.eq) 14, 3) := by decide +kernel
theorem d25 : decode yB 25 = .ok (.aload_n 0, 1) := by decide +kernel
theorem d26 : decode yB 26 = .ok (.getfield 15, 3) := by decide +kernel
theorem d29 : decode yB 29 = .ok (.aload_n 2, 1) := by decide +kernel
theorem d30 : decode yB 30 = .ok (.getfield 15, 3) := by decide +kernel
theorem d33 : decode yB 33 = .ok (.if_icmp (.ne) 21, 3) := by decide +kernel
theorem d36 : decode yB 36 = .ok (.aload_n 0, 1) := by decide +kernel
theorem d37 : decode yB 37 = .ok (.getfield 9, 3) := by decide +kernel
theorem d40 : decode yB 40 = .ok (.aload_n 2, 1) := by decide +kernel
theorem d41 : decode yB 41 = .ok (.getfield 9, 3) := by decide +kernel
theorem d44 : decode yB 44 = .ok (.invokestatic 541, 3) := by decide +kernel
theorem d47 : decode yB 47 = .ok (.ifCond (.eq) 7, 3) := by decide +kernel
theorem d50 : decode yB 50 = .ok (.iconst 1, 1) := by decide +kernel
theorem d51 : decode yB 51 = .ok (.goto 4, 3) := by decide +kernel
theorem d54 : decode yB 54 = .ok (.iconst 0, 1) := by decide +kernel
theorem d55 : decode yB 55 = .ok (.ireturn, 1) := by decide +kernel
def site : List Cond := [.classLink "java/lang/String" 10 "java/lang/String", .fieldLink "java/lang/String" 38 "java/lang/String" "COMPACT_STRINGS" "Z", .fieldLink "java/lang/String" 15 "java/lang/String" "coder" "B", .fieldLink "java/lang/String" 9 "java/lang/String" "value" "[B", LEq.tab] ++ staticW "java/lang/String" 541 LEq.yN
def tab : Cond := tabOf yN yB 3 (some .boolean) site
def P (x t : Addr) (V : Cell) (cd : Int32) (n : Nat) (f : Nat → Int32) (y t' : Addr) (V' : Cell) (cd' : Int32) (k : Nat) (g : Nat → Int32) (z : Int32) (args : Array Value) (s : State) : Prop := args = #[.ref x, .ref y] ∧ Txt x t V cd n f s ∧ Txt y t' V' cd' k g s ∧ StaticIs s "java/lang/String" "COMPACT_STRINGS" "Z" (.int z) ∧ ¬ z = 0
/-- equals(Object) of two Strings: whether the texts are the same -/
theorem law (l : Launch) (x t : Addr) (V : Cell) (cd : Int32) (n : Nat) (f : Nat → Int32) (y t' : Addr) (V' : Cell) (cd' : Int32) (k : Nat) (g : Nat → Int32) (z : Int32) : Law l yN 2 1 1 14 yB 3 (some .boolean) site (P x t V cd n f y t' V' cd' k g z) (Says01 (SameT n f k g)) [] 0 0 := by
  refine Law.of_walk (plainFor_of_name (by decide +kernel)) (by decide +kernel) (by decide +kernel) (by decide) (fun _ _ h => by rw [h.1]; rfl) (fun _ U U' hal hh h => ⟨h.1, h.2.1.mv hal hh, h.2.2.1.mv hal hh, h.2.2.2.1.there hal hh, h.2.2.2.2⟩) (fun r U U' V V' h1 hal h2 h => Says01.mv r U U' V V' h1 hal h2 h) ?_
  intro p e s m args below meth c s₁ X0 hexec hbytes hml hret hlk hnm hown hh0 W hP
  obtain ⟨rfl, hx, hy, s1, hz⟩ := hP
  have c1 : Steps p.tables e below (s₁.setTop (entryFrame m #[.ref x, .ref y] 3)) (s₁.setTop (mkF m 2 #[.val (.ref x), .val (.ref y), .unset] [.ref y, .ref x])) := Steps.trans (entry rfl) (by
    show Steps p.tables e below (s₁.setTop (mkF m 0 #[.val (.ref x), .val (.ref y), .unset] [])) _
    refine XS.aloadN X0.here hexec rfl (hb hbytes d0) rfl rfl ?_
    refine XS.aloadN X0.here hexec rfl (hb hbytes d1) rfl rfl ?_
    exact Steps.refl _)
  by_cases hxy : x = y
  · have c2 : Steps p.tables e below (s₁.setTop (entryFrame m #[.ref x, .ref y] 3)) (s₁.setTop (mkF m 6 #[.val (.ref x), .val (.ref y), .unset] [.int 1])) := c1.trans (by
      refine acmpNo X0.here hexec rfl (hb hbytes d2) rfl rfl rfl (by simp [acmp, hxy]) ?_
      refine iconstV X0.here hexec rfl 1 (hb hbytes d5) (by decide) ?_
      exact Steps.refl _)
    subst hxy
    have ec : cd = cd' := by
      obtain ⟨D, fd, a1, a2, a3⟩ := hx.2.2.1
      obtain ⟨D', fd', b1, b2, b3⟩ := hy.2.2.1
      cases a1.symm.trans b1
      obtain ⟨q1, q2, q3, q4⟩ := a2.1
      obtain ⟨r1, r2, r3, r4⟩ := b2.1
      cases q4.symm.trans r4
      cases a3.symm.trans b3; rfl
    have et : t = t' := by
      obtain ⟨D, fd, a1, a2, a3⟩ := hx.2.1
      obtain ⟨D', fd', b1, b2, b3⟩ := hy.2.1
      cases a1.symm.trans b1
      obtain ⟨q1, q2, q3, q4⟩ := a2.1
      obtain ⟨r1, r2, r3, r4⟩ := b2.1
      cases q4.symm.trans r4
      cases a3.symm.trans b3; rfl
    subst ec et
    have ev : V = V' := by cases hx.2.2.2.1.1.symm.trans hy.2.2.2.1.1; rfl
    subst ev
    have hs : SameT n f k g := (Cod.eqv hx.2.2.2.2.1 hy.2.2.2.2.1 hx.2.2.2.2.2 hy.2.2.2.2.2).mp ⟨rfl, fun _ _ => rfl⟩
    exact ⟨s₁, some (.int 1), _, _, _, X0, rfl, rfl, rfl, (fun h => by cases h), ⟨1, rfl, hh0, Or.inl ⟨rfl, hs⟩⟩, fun fs hl => c2.trans (X0.ireturnOut hexec hret rfl (Or.inr (Or.inl rfl)) (hb hbytes d6) hl)⟩
  · have c2 : Steps p.tables e below (s₁.setTop (entryFrame m #[.ref x, .ref y] 3)) (s₁.setTop (mkF m 8 #[.val (.ref x), .val (.ref y), .unset] [.ref y])) := c1.trans (by
      refine acmpYes X0.here hexec rfl (pc0 := 2) rfl (hb hbytes d2) rfl rfl rfl (by simp [acmp, hxy]) (by decide) rfl ?_
      refine XS.aloadN X0.here hexec rfl (hb hbytes d7) rfl rfl ?_
      exact Steps.refl _)
    obtain ⟨T3, X3, q3, st3⟩ := cinst X0 hexec hown (wk W (.classLink "java/lang/String" 10 "java/lang/String")) (hy.mv X0.warmed.alike hh0).1 (g := (mkF m 8 #[.val (.ref x), .val (.ref y), .unset] [.ref y])) rfl (rest := []) rfl (hb hbytes d8)
    have hh3 := q3.trans hh0
    have c4 : Steps p.tables e below (s₁.setTop (entryFrame m #[.ref x, .ref y] 3)) (T3.setTop (mkF m 15 #[.val (.ref x), .val (.ref y), .unset] [.ref y])) := (c2.trans (st3 _ (Steps.refl _))).trans (by
      refine XS.ifNo X3.here hexec rfl (hb hbytes d11) rfl (i0_eq_f (by decide)) ?_
      refine XS.aloadN X3.here hexec rfl (hb hbytes d14) rfl rfl ?_
      exact Steps.refl _)
    obtain ⟨T5, X5, q5, st5⟩ := cself X3 hexec hown (wk W (.classLink "java/lang/String" 10 "java/lang/String")) (hy.mv X3.warmed.alike hh3).1 (g := (mkF m 15 #[.val (.ref x), .val (.ref y), .unset] [.ref y])) rfl (rest := []) rfl (hb hbytes d15)
    have hh5 := q5.trans hh3
    have c6 : Steps p.tables e below (s₁.setTop (entryFrame m #[.ref x, .ref y] 3)) (T5.setTop (mkF m 19 #[.val (.ref x), .val (.ref y), .val (.ref y)] [])) := (c4.trans (st5 _ (Steps.refl _))).trans (by
      refine XS.astoreN X5.here hexec rfl (hb hbytes d18) rfl rfl rfl ?_
      exact Steps.refl _)
    obtain ⟨T7, X7, q7, st7⟩ := X5.sget hexec hown (wk W (.fieldLink "java/lang/String" 38 "java/lang/String" "COMPACT_STRINGS" "Z")) s1 (fun _ _ h => by rw [hh5]; exact h) (g := (mkF m 19 #[.val (.ref x), .val (.ref y), .val (.ref y)] [])) rfl (hb hbytes d19)
    have hh7 := q7.trans hh5
    have c8 : Steps p.tables e below (s₁.setTop (entryFrame m #[.ref x, .ref y] 3)) (T7.setTop (mkF m 26 #[.val (.ref x), .val (.ref y), .val (.ref y)] [.ref x])) := (c6.trans (st7 _ (Steps.refl _))).trans (by
      refine XS.ifNo X7.here hexec rfl (hb hbytes d22) rfl (i0_eq_f hz) ?_
      refine XS.aloadN X7.here hexec rfl (hb hbytes d25) rfl rfl ?_
      exact Steps.refl _)
    obtain ⟨T9, X9, q9, st9⟩ := X7.hget hexec hown (wk W (.fieldLink "java/lang/String" 15 "java/lang/String" "coder" "B")) (hx.mv X7.warmed.alike hh7).2.2.1 (g := (mkF m 26 #[.val (.ref x), .val (.ref y), .val (.ref y)] [.ref x])) rfl (rest := []) rfl (hb hbytes d26)
    have hh9 := q9.trans hh7
    have c10 : Steps p.tables e below (s₁.setTop (entryFrame m #[.ref x, .ref y] 3)) (T9.setTop (mkF m 30 #[.val (.ref x), .val (.ref y), .val (.ref y)] [.ref y, .int cd])) := (c8.trans (st9 _ (Steps.refl _))).trans (by
      refine XS.aloadN X9.here hexec rfl (hb hbytes d29) rfl rfl ?_
      exact Steps.refl _)
    obtain ⟨T11, X11, q11, st11⟩ := X9.hget hexec hown (wk W (.fieldLink "java/lang/String" 15 "java/lang/String" "coder" "B")) (hy.mv X9.warmed.alike hh9).2.2.1 (g := (mkF m 30 #[.val (.ref x), .val (.ref y), .val (.ref y)] [.ref y, .int cd])) rfl (rest := [.int cd]) rfl (hb hbytes d30)
    have hh11 := q11.trans hh9
    have c12 : Steps p.tables e below (s₁.setTop (entryFrame m #[.ref x, .ref y] 3)) (T11.setTop (mkF m 33 #[.val (.ref x), .val (.ref y), .val (.ref y)] [.int cd', .int cd])) := c10.trans (st11 _ (Steps.refl _))
    by_cases hcd : cd = cd'
    · subst hcd
      have c13 : Steps p.tables e below (s₁.setTop (entryFrame m #[.ref x, .ref y] 3)) (T11.setTop (mkF m 37 #[.val (.ref x), .val (.ref y), .val (.ref y)] [.ref x])) := c12.trans (by
        refine XS.icmpNo X11.here hexec rfl (hb hbytes d33) rfl (ii_ne_f rfl) ?_
        refine XS.aloadN X11.here hexec rfl (hb hbytes d36) rfl rfl ?_
        exact Steps.refl _)
      obtain ⟨T14, X14, q14, st14⟩ := X11.hget hexec hown (wk W (.fieldLink "java/lang/String" 9 "java/lang/String" "value" "[B")) (hx.mv X11.warmed.alike hh11).2.1 (g := (mkF m 37 #[.val (.ref x), .val (.ref y), .val (.ref y)] [.ref x])) rfl (rest := []) rfl (hb hbytes d37)
      have hh14 := q14.trans hh11
      have c15 : Steps p.tables e below (s₁.setTop (entryFrame m #[.ref x, .ref y] 3)) (T14.setTop (mkF m 41 #[.val (.ref x), .val (.ref y), .val (.ref y)] [.ref y, .ref t])) := (c13.trans (st14 _ (Steps.refl _))).trans (by
        refine XS.aloadN X14.here hexec rfl (hb hbytes d40) rfl rfl ?_
        exact Steps.refl _)
      obtain ⟨T16, X16, q16, st16⟩ := X14.hget hexec hown (wk W (.fieldLink "java/lang/String" 9 "java/lang/String" "value" "[B")) (hy.mv X14.warmed.alike hh14).2.1 (g := (mkF m 41 #[.val (.ref x), .val (.ref y), .val (.ref y)] [.ref y, .ref t])) rfl (rest := [.ref t]) rfl (hb hbytes d41)
      have hh16 := q16.trans hh14
      have c17 : Steps p.tables e below (s₁.setTop (entryFrame m #[.ref x, .ref y] 3)) (T16.setTop (mkF m 44 #[.val (.ref x), .val (.ref y), .val (.ref y)] [.ref t', .ref t])) := c15.trans (st16 _ (Steps.refl _))
      obtain ⟨v18, T18, X18, E18, g18⟩ := X16.callS hexec (LEq.law l t V t' V') hown (wks W (staticW "java/lang/String" 541 LEq.yN)) (wk W LEq.tab) (W := 0) (Nat.le_of_ble_eq_true rfl) (Nat.le_of_ble_eq_true rfl) (Nat.le_refl _) (Nat.le_refl _) (g := (mkF m 44 #[.val (.ref x), .val (.ref y), .val (.ref y)] [.ref t', .ref t])) rfl (by rw [hml]; rfl) c17 (argsL := [.ref t, .ref t']) (rest := []) rfl rfl (by show 2 * 0 + 0 ≤ _; decide) (hb hbytes d44) (⟨rfl, hx.2.2.2.1.mv X16.warmed.alike hh16, hx.2.2.2.2.1.ty, hy.2.2.2.1.mv X16.warmed.alike hh16, hy.2.2.2.2.1.ty⟩)
      obtain ⟨v, rfl, q18, hv⟩ := E18
      have iff := Cod.eqv hx.2.2.2.2.1 hy.2.2.2.2.1 hx.2.2.2.2.2 hy.2.2.2.2.2
      rcases hv with ⟨rfl, he⟩ | ⟨rfl, he⟩
      · have c19 : Steps p.tables e below (s₁.setTop (entryFrame m #[.ref x, .ref y] 3)) (T18.setTop (mkF m 55 #[.val (.ref x), .val (.ref y), .val (.ref y)] [.int 1])) := Steps.trans g18 (by
          refine XS.ifNo X18.here hexec rfl (hb hbytes d47) rfl (i0_eq_f (by decide)) ?_
          refine iconstV X18.here hexec rfl 1 (hb hbytes d50) (by decide) ?_
          refine XS.goto X18.here hexec rfl (pc0 := 51) rfl (hb hbytes d51) (by decide) rfl ?_
          exact Steps.refl _)
        exact ⟨T18, some (.int 1), _, _, _, X18, rfl, rfl, rfl, (fun h => by cases h), ⟨1, rfl, q18.trans hh16, Or.inl ⟨rfl, iff.mp he⟩⟩, fun fs hl => c19.trans (X18.ireturnOut hexec hret rfl (Or.inr (Or.inl rfl)) (hb hbytes d55) hl)⟩
      · have c19 : Steps p.tables e below (s₁.setTop (entryFrame m #[.ref x, .ref y] 3)) (T18.setTop (mkF m 55 #[.val (.ref x), .val (.ref y), .val (.ref y)] [.int 0])) := Steps.trans g18 (by
          refine XS.ifYes X18.here hexec rfl (pc0 := 47) rfl (hb hbytes d47) rfl (i0_eq_t rfl) (by decide) rfl ?_
          refine iconstV X18.here hexec rfl 0 (hb hbytes d54) (by decide) ?_
          exact Steps.refl _)
        exact ⟨T18, some (.int 0), _, _, _, X18, rfl, rfl, rfl, (fun h => by cases h), ⟨0, rfl, q18.trans hh16, Or.inr ⟨rfl, fun q => he (iff.mpr q)⟩⟩, fun fs hl => c19.trans (X18.ireturnOut hexec hret rfl (Or.inr (Or.inl rfl)) (hb hbytes d55) hl)⟩
    · have c13 : Steps p.tables e below (s₁.setTop (entryFrame m #[.ref x, .ref y] 3)) (T11.setTop (mkF m 55 #[.val (.ref x), .val (.ref y), .val (.ref y)] [.int 0])) := c12.trans (by
        refine XS.icmpYes X11.here hexec rfl (pc0 := 33) rfl (hb hbytes d33) rfl (ii_ne_t hcd) (by decide) rfl ?_
        refine iconstV X11.here hexec rfl 0 (hb hbytes d54) (by decide) ?_
        exact Steps.refl _)
      exact ⟨T11, some (.int 0), _, _, _, X11, rfl, rfl, rfl, (fun h => by cases h), ⟨0, rfl, hh11, Or.inr ⟨rfl, Cod.dif hx.2.2.2.2.1 hy.2.2.2.2.1 hcd⟩⟩, fun fs hl => c13.trans (X11.ireturnOut hexec hret rfl (Or.inr (Or.inl rfl)) (hb hbytes d55) hl)⟩
theorem pays {l : Launch} {R : Room} {p : Program} {e : Env} {below : List Frame} {s : State} {sargs : Array Value} {len W : Nat} (x t : Addr) (V : Cell) (cd : Int32) (n : Nat) (f : Nat → Int32) (y t' : Addr) (V' : Cell) (cd' : Int32) (k : Nat) (g : Nat → Int32) (z : Int32) (htab : tab.before sargs s = true) (hfr : 2 ≤ R.frames) (hlo : W + 28 ≤ R.locals) :
    Back l R p e below s sargs yN len W (fun A₁ a₁ => A₁.cells + 0 ≤ R.cells ∧ A₁.slots + 0 ≤ R.slots ∧ P x t V cd n f y t' V' cd' k g z a₁ A₁.U) (fun A₁ _ v₁ B₁ => Says01 (SameT n f k g) v₁ A₁.U B₁.U ∧ B₁.locs = A₁.locs ++ [] ∧ B₁.cells = A₁.cells + 0 ∧ B₁.slots = A₁.slots + 0) :=
  (law l x t V cd n f y t' V' cd' k g z).pays htab hfr (by omega)
end SEq
end StrChars
namespace StrChars.Road
open Jvm Sem ClassFile Op Lib Jvm.Stand Jvm.Free Jvm.Free.XT
open Jvm.Lib.Cold (StaticIs)
/-- the words of String.isEmpty() -/
abbrev wordsEmp : List Jvm.Cond := [.code Emp.yN Emp.yB 1 (some .boolean), .initialized ST, .fieldLink ST 9 ST "value" "[B"]
theorem tabEmp_of {a : Array Value} {s : State} (h : ∀ w ∈ wordsEmp, w.before a s = true) : Emp.tab.before a s = true := unparts (wk h (.code Emp.yN Emp.yB 1 (some .boolean))) (wks h (.initialized Emp.yN.cls :: Emp.site))
theorem movedEmp {Z s : State} {a0 args : Array Value} (hZ : Z.Warmed39 s.vm) (hw : ∀ d ∈ wordsEmp, d.before a0 Z = true) : ∀ d ∈ wordsEmp, d.before args s = true := fun d hd => by
  have t : ∀ d ∈ wordsEmp, (d.onTables && d.keepsFace) = true := by decide +kernel
  exact RoadKit.mv hZ (hw d hd) (t d hd)
/-- the words of String.equals(Object) -/
abbrev wordsEq : List Jvm.Cond := [.code SEq.yN SEq.yB 3 (some .boolean), .initialized ST, .classLink ST 10 ST, .fieldLink ST 38 ST "COMPACT_STRINGS" "Z", .fieldLink ST 15 ST "coder" "B", .fieldLink ST 9 ST "value" "[B", .methodLink ST 541 LEq.yN, .static LEq.yN, .code LEq.yN LEq.yB 3 (some .boolean), .initialized "java/lang/StringLatin1"]
theorem tabEq_of {a : Array Value} {s : State} (h : ∀ w ∈ wordsEq, w.before a s = true) : SEq.tab.before a s = true := by
  have hl : LEq.tab.before a s = true := unparts (wk h (.code LEq.yN LEq.yB 3 (some .boolean))) (wks h (.initialized LEq.yN.cls :: LEq.site))
  have q := consq hl h
  exact unparts (wk q (.code SEq.yN SEq.yB 3 (some .boolean))) (wks q (.initialized SEq.yN.cls :: SEq.site))
theorem movedEq {Z s : State} {a0 args : Array Value} (hZ : Z.Warmed39 s.vm) (hw : ∀ d ∈ wordsEq, d.before a0 Z = true) : ∀ d ∈ wordsEq, d.before args s = true := fun d hd => by
  have t : ∀ d ∈ wordsEq, (d.onTables && d.keepsFace) = true := by decide +kernel
  exact RoadKit.mv hZ (hw d hd) (t d hd)
/-- the road's facts of a String, as the laws ask it -/
theorem txt_of {Z U : State} {a0 : Array Value} {kI : Nat} (wi : (Jvm.Cond.instantiable ST kI).before a0 Z = true) (al : Z.vm.Alike U.vm) {x t : Addr} {kb : ClassId} {cs : List Int32} {cd N2 : Int32} {vs : List Value} (E : RoadKit.Exa Z U.heap x ST) (V : RoadKit.Fld Z U.heap x ST "value" "[B" (.ref t)) (C : RoadKit.Fld Z U.heap x ST "coder" "B" (.int cd)) (K : RoadKit.Arv Z U.heap t kb .byte N2 vs (.int 0)) (hc : CodA cs cd N2 vs) (hb : ∀ c ∈ cs, ¬ c < 0 ∧ ¬ (65535 : Int32) < c) (l2 : cs.length ≤ 4000) :
    ∃ A, Txt x t A cd cs.length (fun j => cs.getD j 0) U := by
  obtain ⟨A, K1, K2, K3, K4, K5, K6⟩ := K
  have hcod := hc.cod (by omega) K3 K5
  obtain ⟨D, fV, fC, hB, F1, F2, g1, g2, -, -⟩ := strObj wi al E V C
  exact ⟨A, ⟨_, hB.2.2.1, D, hB.1, rfl, by cases q : D.vm <;> first | rfl | exact absurd q (hB.2.1.2 _)⟩, Has.of hB F1 g1, Has.of hB F2 g2, ⟨K1.1, State.isArrayOf_alike al K1.2.1, K1.2.2, by rcases hcod with ⟨-, q, -⟩ | ⟨-, q, -⟩ <;> omega⟩, hcod, fun j hj => by
    have e : cs.getD j 0 = cs[j] := by simp [List.getD_eq_getElem?_getD, hj]
    show ¬ cs.getD j 0 < 0 ∧ ¬ 65535 < cs.getD j 0
    rw [e]; exact hb _ (List.getElem_mem _)⟩
theorem same_list (cs ds : List Int32) : SameT cs.length (fun j => cs.getD j 0) ds.length (fun j => ds.getD j 0) ↔ cs = ds := by
  constructor
  · rintro ⟨e, q⟩
    refine List.ext_getElem e fun j h1 h2 => ?_
    have := q j h1
    simpa [List.getD_eq_getElem?_getD, h1, h2] using this
  · rintro rfl
    exact ⟨rfl, fun _ _ => rfl⟩
/-- **isEmpty() OF SUCH A STRING** -/
theorem empW {p : Program} {l : Launch} {e : Env} {R : Room} {s : State} {args : Array Value} {below : List Frame} {len W : Nat} {Z : State} {a0 : Array Value} {h : Heap} (hZ : Z.Warmed39 s.vm) (hw : ∀ d ∈ wordsEmp, d.before a0 Z = true) {kI : Nat} (wi : (Jvm.Cond.instantiable ST kI).before a0 Z = true)
    {x t : Addr} {kb : ClassId} {cs : List Int32} {cd N2 : Int32} {vs : List Value} (E : RoadKit.Exa Z h x ST) (V : RoadKit.Fld Z h x ST "value" "[B" (.ref t)) (C : RoadKit.Fld Z h x ST "coder" "B" (.int cd)) (K : RoadKit.Arv Z h t kb .byte N2 vs (.int 0)) (hc : CodA cs cd N2 vs) (hb : ∀ c ∈ cs, ¬ c < 0 ∧ ¬ (65535 : Int32) < c) (l2 : cs.length ≤ 4000) (hfr : 1 ≤ R.frames) (hlo : W + 12 ≤ R.locals) :
    Back l R p e below s args (⟨"java/lang/String", "isEmpty", "()Z"⟩ : MethodName) len W (fun P a => a = #[.ref x] ∧ P.U.heap = h ∧ P.cells + 0 ≤ R.cells ∧ P.slots + 0 ≤ R.slots)
      (fun P _ v B => ∃ L, (v = some (.int (if cs.length = 0 then 1 else 0)) ∧ L = [] ∧ B.U.heap = h) ∧ B.locs = P.locs ++ L ∧ B.cells = P.cells + 0 ∧ B.slots = P.slots + 0) := by
  intro m meth c P g ig mk a X hg hsize hdg hW hn hp'
  obtain ⟨rfl, rfl, r1, r2⟩ := hp'
  have al : Z.vm.Alike P.U.vm := hZ.alike.trans X.warmed.alike
  obtain ⟨A, hx⟩ := txt_of wi al E V C K hc hb l2
  obtain ⟨v, B, X', ⟨⟨hv, hh⟩, hl, hk, hs⟩, st⟩ := Emp.pays x t A cd cs.length (fun j => cs.getD j 0) (tabEmp_of (movedEmp hZ hw)) hfr hlo m meth c P g ig mk _ X hg hsize hdg hW hn ⟨r1, r2, rfl, hx⟩
  exact ⟨v, B, X', ⟨[], ⟨hv, rfl, hh⟩, hl, hk, hs⟩, st⟩
/-- **equals(Object) OF TWO SUCH STRINGS**: 1 just where the chars are the same -/
theorem eqW {p : Program} {l : Launch} {e : Env} {R : Room} {s : State} {args : Array Value} {below : List Frame} {len W : Nat} {Z : State} {a0 : Array Value} {h : Heap} (hZ : Z.Warmed39 s.vm) (hw : ∀ d ∈ wordsEq, d.before a0 Z = true) {kI : Nat} (wi : (Jvm.Cond.instantiable ST kI).before a0 Z = true)
    {x t : Addr} {kb : ClassId} {cs : List Int32} {cd N2 : Int32} {vs : List Value} (E : RoadKit.Exa Z h x ST) (V : RoadKit.Fld Z h x ST "value" "[B" (.ref t)) (C : RoadKit.Fld Z h x ST "coder" "B" (.int cd)) (K : RoadKit.Arv Z h t kb .byte N2 vs (.int 0)) (hc : CodA cs cd N2 vs) (hb : ∀ c ∈ cs, ¬ c < 0 ∧ ¬ (65535 : Int32) < c) (l2 : cs.length ≤ 4000)
    {y t' : Addr} {kb' : ClassId} {ds : List Int32} {cd' N2' : Int32} {vs' : List Value} (E' : RoadKit.Exa Z h y ST) (V' : RoadKit.Fld Z h y ST "value" "[B" (.ref t')) (C' : RoadKit.Fld Z h y ST "coder" "B" (.int cd')) (K' : RoadKit.Arv Z h t' kb' .byte N2' vs' (.int 0)) (hc' : CodA ds cd' N2' vs') (hb' : ∀ c ∈ ds, ¬ c < 0 ∧ ¬ (65535 : Int32) < c) (l2' : ds.length ≤ 4000)
    {z : Int32} (S : RoadKit.Sta Z h ST "COMPACT_STRINGS" "Z" (.int z)) (hz : ¬ z = 0) (hfr : 2 ≤ R.frames) (hlo : W + 28 ≤ R.locals) :
    Back l R p e below s args (⟨"java/lang/String", "equals", "(Ljava/lang/Object;)Z"⟩ : MethodName) len W (fun P a => a = #[.ref x, .ref y] ∧ P.U.heap = h ∧ P.cells + 0 ≤ R.cells ∧ P.slots + 0 ≤ R.slots)
      (fun P _ v B => ∃ L, (((v = some (.int 1) ∧ cs = ds) ∨ (v = some (.int 0) ∧ ¬ cs = ds)) ∧ L = [] ∧ B.U.heap = h) ∧ B.locs = P.locs ++ L ∧ B.cells = P.cells + 0 ∧ B.slots = P.slots + 0) := by
  intro m meth c P g ig mk a X hg hsize hdg hW hn hp'
  obtain ⟨rfl, rfl, r1, r2⟩ := hp'
  have al : Z.vm.Alike P.U.vm := hZ.alike.trans X.warmed.alike
  obtain ⟨A, hx⟩ := txt_of wi al E V C K hc hb l2
  obtain ⟨A', hy⟩ := txt_of wi al E' V' C' K' hc' hb' l2'
  obtain ⟨v, B, X', ⟨⟨w, hv, hh, hq⟩, hl, hk, hs⟩, st⟩ := SEq.pays x t A cd cs.length (fun j => cs.getD j 0) y t' A' cd' ds.length (fun j => ds.getD j 0) z (tabEq_of (movedEq hZ hw)) hfr hlo m meth c P g ig mk _ X hg hsize hdg hW hn ⟨r1, r2, rfl, hx, hy, sta_is al S, hz⟩
  refine ⟨v, B, X', ⟨[], ⟨?_, rfl, hh⟩, hl, hk, hs⟩, st⟩
  rcases hq with ⟨rfl, q⟩ | ⟨rfl, q⟩
  · exact Or.inl ⟨hv, (same_list cs ds).mp q⟩
  · exact Or.inr ⟨hv, fun e => q ((same_list cs ds).mpr e)⟩
end StrChars.Road
end Jvm.Pilot.@@N@@

namespace Jvm.Pilot.@@N@@
open Jvm Jvm.ClassFile Sem Op Lib Jvm.Free Jvm.Stand Jvm.LawKit Jvm.RoadKit Bundle Jvm.Pilot.@@N@@.Jvm.D
section Own
variable {p : Program} {l : Launch} {e : Env} {R : Room} {s : State} {m : MethodId} {args : Array Value} {below : List Frame} {meth : Method} {c : Code} {T : State} {locs : List Loc} {cells slots : Nat}
/-- from A the run ends, and what it leaves is as Q says -/
def own_go (p : Program) (e : Env) (below : List Frame) (s : State) (Q : Option Value → Heap → List Loc → Prop) (C S : Nat) (A : State) : Prop :=
  ∃ t o, Steps p.tables e below A t ∧ t.status = .running ∧ Ended t below o ∧ ∃ v L, o = .returned v ∧ Q v t.heap L ∧ FrameEnd s o t L C S
variable {Q : Option Value → Heap → List Loc → Prop} {C S : Nat} {A B : State}
theorem own_in (h : own_go p e below s Q C S A) : ∃ t o, Steps p.tables e below A t ∧ t.status = .running ∧ Ended t below o ∧ ∃ v L, o = .returned v ∧ Q v t.heap L ∧ FrameEnd s o t L C S := h
theorem own_of (k : ∀ t, Steps p.tables e below B t → Steps p.tables e below A t) (h : own_go p e below s Q C S B) : own_go p e below s Q C S A := by
  obtain ⟨t, o, h1, h2⟩ := h
  exact ⟨t, o, k t h1, h2⟩
theorem own_lt {a b : Nat} (h : a < b) : a < b := h
theorem own_ne {a b : Nat} (h : a ≠ b) : a ≠ b := h
theorem own_use {α : Type} (X : Stand p l e R s m args below meth c T locs cells slots) {h : Heap} {g : α → JFrame} {G : State → Prop} (k : ∀ (r : α) (T' : State), Stand p l e R s m args below meth c T' locs cells slots → T'.heap = h → G (T'.setTop (g r)))
    (b : (∀ (r : α) (T' : State), Stand p l e R s m args below meth c T' locs cells slots → T'.heap = h → G (T'.setTop (g r))) → G A) : G A := b k
theorem own_ret (X : Stand p l e R s m args below meth c T locs cells slots) (hx : p.tables.exec = Jvm.exec) (hlk : meth.locks = false) {pc : Nat} {Ls : Array Slot} {w : Value} {t : FieldType} {i : Instr} {rest : List Value} (hret : meth.sig.returnType = some t) (hn : narrow t w = w)
    (hi : (i = .ireturn ∧ (t = .int ∨ t = .boolean ∨ t = .byte ∨ t = .char ∨ t = .short) ∧ ∃ z, w = .int z) ∨ (i = .lreturn ∧ t = .long ∧ ∃ z, w = .long z) ∨ (i = .dreturn ∧ t = .double ∧ ∃ z, w = .double z) ∨ (i = .freturn ∧ t = .float ∧ ∃ z, w = .float z) ∨ (i = .areturn ∧ t.isReference = true ∧ w.isRef = true))
    (hd : decode c.code pc = .ok (i, 1)) (hc : cells ≤ C) (hs : slots ≤ S) (hQ : Q (some w) T.heap locs) : own_go p e below s Q C S (T.setTop (mkF m pc Ls (w :: rest))) := by
  obtain ⟨fs, hr, hrun, hended, hW, hsame⟩ := X.leave (v := some w) (fun h => by rw [hret] at h; cases h) hlk
  exact ⟨_, _, retOut X hx hret hn hi hd hr, hrun, hended, _, _, rfl, hQ, ⟨_, rfl⟩, hW, hsame.mono hc hs⟩
theorem own_retV (X : Stand p l e R s m args below meth c T locs cells slots) (hx : p.tables.exec = Jvm.exec) (hlk : meth.locks = false) {pc : Nat} {Ls : Array Slot} (hret : meth.sig.returnType = none)
    (hd : decode c.code pc = .ok (.return_, 1)) (hc : cells ≤ C) (hs : slots ≤ S) (hQ : Q none T.heap locs) : own_go p e below s Q C S (T.setTop (mkF m pc Ls [])) := by
  obtain ⟨fs, hr, hrun, hended, hW, hsame⟩ := X.leave (v := none) (fun _ => rfl) hlk
  exact ⟨_, _, X.returnOut hx hret hd hr, hrun, hended, _, _, rfl, hQ, ⟨_, rfl⟩, hW, hsame.mono hc hs⟩
/-- the same where String constants may have been loaded -/
def own_gw (p : Program) (e : Env) (below : List Frame) (s : State) (Q : Option Value → Heap → List Loc → Prop) (C S : Nat) (A : State) : Prop :=
  ∃ t o, Steps p.tables e below A t ∧ t.status = .running ∧ Ended t below o ∧ ∃ v L, o = .returned v ∧ Q v t.heap L ∧ ReturnedEndW s o t L C S
theorem own_inw (h : own_gw p e below s Q C S A) : ∃ t o, Steps p.tables e below A t ∧ t.status = .running ∧ Ended t below o ∧ ∃ v L, o = .returned v ∧ Q v t.heap L ∧ ReturnedEndW s o t L C S := h
theorem own_ofw (k : ∀ t, Steps p.tables e below B t → Steps p.tables e below A t) (h : own_gw p e below s Q C S B) : own_gw p e below s Q C S A := by
  obtain ⟨t, o, h1, h2⟩ := h
  exact ⟨t, o, k t h1, h2⟩
theorem own_retw {vm0 : Vm} {k0 : Nat} (X : Stand p l e R (s.setVm vm0) m args below meth c T locs cells slots) (hx : p.tables.exec = Jvm.exec) (hlk : meth.locks = false) (hS : s.Since vm0 k0) (hk : k0 ≤ T.heap.size) {pc : Nat} {Ls : Array Slot} {w : Value} {t : FieldType} {i : Instr} {rest : List Value} (hret : meth.sig.returnType = some t) (hn : narrow t w = w)
    (hi : (i = .ireturn ∧ (t = .int ∨ t = .boolean ∨ t = .byte ∨ t = .char ∨ t = .short) ∧ ∃ z, w = .int z) ∨ (i = .lreturn ∧ t = .long ∧ ∃ z, w = .long z) ∨ (i = .dreturn ∧ t = .double ∧ ∃ z, w = .double z) ∨ (i = .freturn ∧ t = .float ∧ ∃ z, w = .float z) ∨ (i = .areturn ∧ t.isReference = true ∧ w.isRef = true))
    (hd : decode c.code pc = .ok (i, 1)) (hc : cells ≤ C) (hs : slots ≤ S) (hQ : Q (some w) T.heap locs) : own_gw p e below s Q C S (T.setTop (mkF m pc Ls (w :: rest))) := by
  obtain ⟨fs, hr, hrun, hended, h1, h2, h3, h4⟩ := X.leaveW hS hk (v := some w) (fun h => by rw [hret] at h; cases h) hlk
  exact ⟨_, _, retOut X hx hret hn hi hd hr, hrun, hended, _, _, rfl, hQ, h1, h2, h3, h4.mono hc hs⟩
theorem own_retVw {vm0 : Vm} {k0 : Nat} (X : Stand p l e R (s.setVm vm0) m args below meth c T locs cells slots) (hx : p.tables.exec = Jvm.exec) (hlk : meth.locks = false) (hS : s.Since vm0 k0) (hk : k0 ≤ T.heap.size) {pc : Nat} {Ls : Array Slot} (hret : meth.sig.returnType = none)
    (hd : decode c.code pc = .ok (.return_, 1)) (hc : cells ≤ C) (hs : slots ≤ S) (hQ : Q none T.heap locs) : own_gw p e below s Q C S (T.setTop (mkF m pc Ls [])) := by
  obtain ⟨fs, hr, hrun, hended, h1, h2, h3, h4⟩ := X.leaveW hS hk (v := none) (fun _ => rfl) hlk
  exact ⟨_, _, X.returnOut hx hret hd hr, hrun, hended, _, _, rfl, hQ, h1, h2, h3, h4.mono hc hs⟩
/-- the same, with what the JVM holds for the constants of EL -/
def own_gc (p : Program) (e : Env) (below : List Frame) (s : State) (Z : State) (EL : List (String × Nat)) (Q : Option Value → Heap → List Loc → Prop) (C S : Nat) (A : State) : Prop :=
  ∃ t o, Steps p.tables e below A t ∧ t.status = .running ∧ Ended t below o ∧ ∃ v L, o = .returned v ∧ Q v t.heap L ∧ CHr Z EL s.vm s.heap t.vm t.heap ∧ ReturnedEndW s o t L C S
variable {Z : State} {EL : List (String × Nat)} {a0 : Array Value}
theorem own_inc (h : own_gc p e below s Z EL Q C S A) : ∃ t o, Steps p.tables e below A t ∧ t.status = .running ∧ Ended t below o ∧ ∃ v L, o = .returned v ∧ Q v t.heap L ∧ CHr Z EL s.vm s.heap t.vm t.heap ∧ ReturnedEndW s o t L C S := h
theorem own_ofc (k : ∀ t, Steps p.tables e below B t → Steps p.tables e below A t) (h : own_gc p e below s Z EL Q C S B) : own_gc p e below s Z EL Q C S A := by
  obtain ⟨t, o, h1, h2⟩ := h
  exact ⟨t, o, k t h1, h2⟩
theorem own_retc {vm0 : Vm} {k0 : Nat} (X : Stand p l e R (s.setVm vm0) m args below meth c T locs cells slots) (hx : p.tables.exec = Jvm.exec) (hlk : meth.locks = false) (hS : s.Since vm0 k0) (hk : k0 ≤ T.heap.size) (hZ : Z.Warmed39 vm0) (hEL : EW Z a0 EL) (H : CHr Z EL s.vm s.heap vm0 T.heap) {pc : Nat} {Ls : Array Slot} {w : Value} {t : FieldType} {i : Instr} {rest : List Value} (hret : meth.sig.returnType = some t) (hn : narrow t w = w)
    (hi : (i = .ireturn ∧ (t = .int ∨ t = .boolean ∨ t = .byte ∨ t = .char ∨ t = .short) ∧ ∃ z, w = .int z) ∨ (i = .lreturn ∧ t = .long ∧ ∃ z, w = .long z) ∨ (i = .dreturn ∧ t = .double ∧ ∃ z, w = .double z) ∨ (i = .freturn ∧ t = .float ∧ ∃ z, w = .float z) ∨ (i = .areturn ∧ t.isReference = true ∧ w.isRef = true))
    (hd : decode c.code pc = .ok (i, 1)) (hc : cells ≤ C) (hs : slots ≤ S) (hQ : Q (some w) T.heap locs) : own_gc p e below s Z EL Q C S (T.setTop (mkF m pc Ls (w :: rest))) := by
  obtain ⟨fs, hr, hrun, hended, h1, h2, h3, h4⟩ := X.leaveW hS hk (v := some w) (fun h => by rw [hret] at h; cases h) hlk
  have q : CHr Z EL s.vm s.heap T.vm T.heap := H.trans (CHv.at X hZ hEL H.1)
  exact ⟨_, _, retOut X hx hret hn hi hd hr, hrun, hended, _, _, rfl, hQ, q, h1, h2, h3, h4.mono hc hs⟩
theorem own_retVc {vm0 : Vm} {k0 : Nat} (X : Stand p l e R (s.setVm vm0) m args below meth c T locs cells slots) (hx : p.tables.exec = Jvm.exec) (hlk : meth.locks = false) (hS : s.Since vm0 k0) (hk : k0 ≤ T.heap.size) (hZ : Z.Warmed39 vm0) (hEL : EW Z a0 EL) (H : CHr Z EL s.vm s.heap vm0 T.heap) {pc : Nat} {Ls : Array Slot} (hret : meth.sig.returnType = none)
    (hd : decode c.code pc = .ok (.return_, 1)) (hc : cells ≤ C) (hs : slots ≤ S) (hQ : Q none T.heap locs) : own_gc p e below s Z EL Q C S (T.setTop (mkF m pc Ls [])) := by
  obtain ⟨fs, hr, hrun, hended, h1, h2, h3, h4⟩ := X.leaveW hS hk (v := none) (fun _ => rfl) hlk
  have q : CHr Z EL s.vm s.heap T.vm T.heap := H.trans (CHv.at X hZ hEL H.1)
  exact ⟨_, _, X.returnOut hx hret hd hr, hrun, hended, _, _, rfl, hQ, q, h1, h2, h3, h4.mono hc hs⟩
open Jvm.Free.SB Jvm.Free.SBG in
/-- a String that has no array yet is no constant's -/
theorem own_safe_null {vm : Vm} {h : Heap} {x : Addr} (hal : Z.vm.Alike vm) (E : Exa Z h x "java/lang/String") (F : Fld Z h x "java/lang/String" "value" "[B" .null) : Safe Z EL vm h x := fun B => by
  obtain ⟨p, -, u, a, -, q, -, F', rfl | rfl⟩ := B
  · obtain ⟨cS, ⟨⟨s1, s2, s3, ⟨cv, kv, iv, s4, s4'⟩, s5, s6, s7, s8, -⟩, -, -⟩, -⟩ := F'
    obtain ⟨cell, cf, k, i, f, h1, h2, h3, -, -, -, h7⟩ := F
    cases (show h[q.sa]? = some q.sC from s1).symm.trans h1
    obtain ⟨kv', z4⟩ := ff_back (U := Wst Z vm h) hal s4
    have e4 := z4.symm.trans h2
    simp only [Option.some.injEq, Prod.mk.injEq] at e4
    rw [e4.2.2.2] at s8
    have := s8.symm.trans h7
    simp at this
  · obtain ⟨cell, k, e1, e2, e3, -, -⟩ := E
    cases (show h[q.sd]? = some q.SA from F'.hd).symm.trans e1
    obtain ⟨cS, -, -, f, -⟩ := F'
    have f' : vm.findClass "[B" = some q.SA.cls := f
    rw [hal.findClass] at f'
    obtain ⟨k1, q1, q2⟩ := Vm.findClass_spec f'
    obtain ⟨k2, q3, q4⟩ := Vm.findClass_spec e2
    cases q1.symm.trans q3
    have := q2.symm.trans q4
    simp at this
theorem own_ex {t : Term} {K : String} (h : (Jvm.Cond.exactly t K).value args s none s [] = some true) : ∃ a, t.eval args s none [] s = some (.ref a) ∧ Exa s s.heap a K := by
  obtain ⟨a, ha⟩ := exa_v h
  exact ⟨a, ha, Exa.start ha h⟩
theorem own_fi {t : Term} {K n d : String} {a : Addr} {k : Int32} (ht : t.eval args s none [] s = some (.ref a)) (h : (Jvm.Cond.eq (Term.field t K n d) (Term.int k)).value args s none s [] = some true) : Fld s s.heap a K n d (.int k) := by
  obtain ⟨x, y, h1, h2, h3, h4⟩ := cmp_v (Or.inl h)
  have e2 := Option.some.inj ((Term.int_eval k).symm.trans h2)
  subst e2
  rw [fld_at ht] at h1
  obtain ⟨z, rfl⟩ := h4
  have hz : s.fieldOf? a K n d = some (.int z) := h1
  have : z = k := by
    have h5 : (Term.field t K n d).eval args s none [] s = some (.int z) := (fld_at ht).trans hz
    simpa [Cond.value, h5, Term.int_eval] using h
  subst this
  exact Fld.start hz
end Own
theorem own_len {s : State} {args : Array Value} {t : Term} {a : Addr} {cl : Cell} {ty : FieldType} {k : Int32} (ht : t.eval args s none [] s = some (.ref a)) (A : Arr s s.heap a cl ty) (h : (Jvm.Cond.eq (Term.length t) (Term.int k)).value args s none s [] = some true) : cl.slots.size.toInt32 = k ∧ cl.slots.size < 2 ^ 31 := by
  obtain ⟨x, y, h1, h2, h3, h4⟩ := cmp_v (Or.inl h)
  have e2 := Option.some.inj ((Term.int_eval k).symm.trans h2)
  subst e2
  obtain ⟨z, rfl⟩ := h4
  have hA : s.arrayAt? a = some cl := A.fin (Vm.Alike.refl _)
  by_cases hl : cl.slots.size < 2 ^ 31
  · have h5 := len_f ht hA hl
    have h6 : cl.slots.size.toInt32 = z := by have := h5.symm.trans h1; simpa using this
    refine ⟨?_, hl⟩
    rw [h6]
    simpa [Cond.value, h1, Term.int_eval] using h
  · simp [Term.eval, ht, hA, hl] at h1
theorem own_el {s : State} {args : Array Value} {t : Term} {a : Addr} {cl : Cell} {ty : FieldType} {k j : Int32} (ht : t.eval args s none [] s = some (.ref a)) (A : Arr s s.heap a cl ty) (h : (Jvm.Cond.eq (Term.elem t (Term.int j)) (Term.int k)).value args s none s [] = some true) : cl.slots[j.toNatClampNeg]? = some (.int k) := by
  obtain ⟨x, y, h1, h2, h3, h4⟩ := cmp_v (Or.inl h)
  have e2 := Option.some.inj ((Term.int_eval k).symm.trans h2)
  subst e2
  obtain ⟨z, rfl⟩ := h4
  have h5 := (elem_in h1 ht (Term.int_eval j) A.1).2
  have : z = k := by simpa [Cond.value, h1, Term.int_eval] using h
  rw [h5, this]
theorem own_er {s : State} {args : Array Value} {t u : Term} {a b : Addr} {cl : Cell} {ty : FieldType} {j : Int32} (ht : t.eval args s none [] s = some (.ref a)) (hu : u.eval args s none [] s = some (.ref b)) (A : Arr s s.heap a cl ty) (h : (Jvm.Cond.eq (Term.elem t (Term.int j)) u).value args s none s [] = some true) : cl.slots[j.toNatClampNeg]? = some (.ref b) := by
  obtain ⟨x, y, h1, h2, h3, h4⟩ := cmp_v (Or.inl h)
  have e2 := Option.some.inj (hu.symm.trans h2)
  subst e2
  have h5 := (elem_in h1 ht (Term.int_eval j) A.1).2
  rw [h5]
  cases x <;> simp [Cond.value, h1, hu] at h ⊢
  exact h
theorem own_fr {s : State} {args : Array Value} {t : Term} {a b : Addr} {K n d : String} (ht : t.eval args s none [] s = some (.ref a)) (hf : (Term.field t K n d).eval args s none [] s = some (.ref b)) : Fld s s.heap a K n d (.ref b) := Fld.start ((fld_at ht).symm.trans hf)
def own_EL : List (String × Nat) := [("com/example/assemble/assemble/AssemblyState", 72), ("com/example/assemble/assemble/AssemblyState", 74), ("com/example/assemble/assemble/AssemblyState", 76), ("com/example/assemble/assemble/AssemblyState", 78), ("com/example/assemble/assemble/AssemblyState", 80), ("com/example/assemble/assemble/AssemblyStateDescribePinLaw", 48)]
def own_str (Z : State) (h : Heap) (x : Addr) (cs : List Int32) : Prop := ∃ (t : Addr) (kb : ClassId) (N : Int32) (vs : List Value), Exa Z h x "java/lang/String" ∧ Fld Z h x "java/lang/String" "value" "[B" (.ref t) ∧ Fld Z h x "java/lang/String" "coder" "B" (.int 0) ∧ Arv Z h t kb .byte N vs (.int 0) ∧ StrChars.Road.CodA cs 0 N vs
theorem own_str.ext {Z : State} {h h' : Heap} {x : Addr} {cs : List Int32} (S : own_str Z h x cs) (E : Ext h h') : own_str Z h' x cs := by
  obtain ⟨t, kb, N, vs, a, b, c, d, e⟩ := S
  exact ⟨t, kb, N, vs, a.ext E, b.ext E, c.ext E, d.ext E, e⟩
theorem own_str.lt {Z : State} {h : Heap} {x : Addr} {cs : List Int32} (S : own_str Z h x cs) : x < h.size := by
  obtain ⟨_, _, _, _, a, -⟩ := S
  exact a.lt
theorem own_str.keep1 {Z : State} {h h' : Heap} {x y : Addr} {cs : List Int32} {C : String} {k : Nat} {a0 : Array Value} (S : own_str Z h x cs) (K : Keep h h' [y]) (hx : x ≠ y) (E : Exa Z h y C) (wi : (Jvm.Cond.instantiable C k).before a0 Z = true) : own_str Z h' x cs := by
  obtain ⟨t, kb, N, vs, a, b, c, ⟨cl, A, r⟩, e⟩ := S
  have ht : t ≠ y := (ne_arr E wi A).symm
  exact ⟨t, kb, N, vs, a.keep K, b.keep K (ninS hx nin0), c.keep K (ninS hx nin0), ⟨cl, ⟨K.2.1 t cl A.1 (ninS ht nin0), A.2⟩, r⟩, e⟩
theorem own_str.keep {Z : State} {h h' : Heap} {x : Addr} {cs : List Int32} (S : own_str Z h x cs) (K : Keep h h' []) (q : x ∉ ([] : List Addr)) : own_str Z h' x cs := by
  obtain ⟨t, kb, N, vs, a, b, c, d, e⟩ := S
  exact ⟨t, kb, N, vs, a.keep K, b.keep K nin0, c.keep K nin0, d.keep K nin0, e⟩
def own_w (w0 w1 w2 w3 w4 : Addr) : Nat → Addr
  | 0 => w0
  | 1 => w1
  | 2 => w2
  | 3 => w3
  | _ => w4
def own_txt : Nat → List Int32
  | 0 => ([104, 97, 115, 32, 110, 111, 116, 32, 98, 101, 101, 110, 32, 115, 116, 97, 114, 116, 101, 100] : List Int32)
  | 1 => ([105, 115, 32, 115, 116, 97, 114, 116, 105, 110, 103] : List Int32)
  | 2 => ([104, 97, 115, 32, 97, 108, 114, 101, 97, 100, 121, 32, 98, 101, 101, 110, 32, 115, 116, 97, 114, 116, 101, 100] : List Int32)
  | 3 => ([102, 97, 105, 108, 101, 100, 32, 116, 111, 32, 115, 116, 97, 114, 116] : List Int32)
  | _ => ([105, 115, 32, 99, 108, 111, 115, 101, 100] : List Int32)
theorem own_txt_ne : ∀ i j : Fin 5, i.val ≠ j.val → own_txt i.val ≠ own_txt j.val := by decide
theorem own_txt_ok : ∀ i : Fin 5, (∀ c ∈ own_txt i.val, ¬ c < 0 ∧ ¬ (65535 : Int32) < c) ∧ (own_txt i.val).length ≤ 4000 ∧ own_txt i.val ≠ [] := by decide
theorem own_mod5 (x : Int32) : (x &&& 2147483647) % 5 = 0 ∨ (x &&& 2147483647) % 5 = 1 ∨ (x &&& 2147483647) % 5 = 2 ∨ (x &&& 2147483647) % 5 = 3 ∨ (x &&& 2147483647) % 5 = 4 := by
  have e1 : (x &&& 2147483647).toInt = x.toInt % 2 ^ 31 := Jvm.Kit.i32_mask x 2147483647 (k := 31) (by decide) (by decide)
  have e2 : ((x &&& 2147483647) % 5).toInt = (x &&& 2147483647).toInt.tmod 5 := Int32.toInt_mod _ _
  rw [e1] at e2
  have e3 : (x.toInt % 2 ^ 31).tmod 5 = (x.toInt % 2 ^ 31) % 5 := Int.tmod_eq_emod_of_nonneg (by omega)
  rw [e3] at e2
  simp only [← Int32.toInt_inj, show (0 : Int32).toInt = 0 from rfl, show (1 : Int32).toInt = 1 from rfl, show (2 : Int32).toInt = 2 from rfl, show (3 : Int32).toInt = 3 from rfl, show (4 : Int32).toInt = 4 from rfl]
  omega
theorem ef_rmE (m : MethodId) (x0 : Nat) : entryFrame m #[(.ref x0)] 1 = mkF m 0 #[.val (.ref x0)] [] := by first | (simp [entryFrame, mkF, argsToLocals, Value.category]; done) | rfl
theorem pn_0 : plainName "java/lang/Enum" = true := by first | (simp [plainName, overriddenIn]; done) | decide +kernel
theorem d3_0 : decode jdk_37_method_2_code 0 = .ok (.aload_n 0, 1) := by decide +kernel
theorem d3_1 : decode jdk_37_method_2_code 1 = .ok (.getfield 7, 3) := by decide +kernel
theorem d3_4 : decode jdk_37_method_2_code 4 = .ok (.ireturn, 1) := by decide +kernel
def Q_rmE (Z : State) (a : Nat) (z : Int32) (h0 : Heap) (n0 : Nat) (v : Option Value) (h : Heap) (L : List Loc) : Prop := v = some (.int z) ∧ Fr n0 L ∧ h = h0
set_option maxRecDepth 65536 in
set_option maxHeartbeats 40000000 in
theorem rmE (l : Launch) (Z : State) (a0 : Array Value) (hw : ∀ d ∈ tables_1, d.before a0 Z = true) (ws : List Jvm.Cond) (a : Nat) (z : Int32) (h0 : Heap) (n0 : Nat) (XO0 : Old Z n0 h0) (Fo : Fld Z Z.heap a "java/lang/Enum" "ordinal" "I" (.int z)) :
    MetFree l (⟨"java/lang/Enum", "ordinal", "()I"⟩ : MethodName) (head1 (Jvm.Cond.code (⟨"java/lang/Enum", "ordinal", "()I"⟩ : MethodName) jdk_37_method_2_code 1 (some .int) :: ws) ({ frames := 0, cells := 0, slots := 0, locals := 0 } : Room)) (fun zz_ U => zz_ = #[(.ref a)] ∧ Z.Warmed39 U.vm ∧ U.heap = h0) (fun _ _ _ _ _ => True) (fun _ U o U' => ∃ v L, o = .returned v ∧ Q_rmE Z a z h0 n0 v U'.heap L ∧ FrameEnd U o U' L ({ frames := 0, cells := 0, slots := 0, locals := 0 } : Room).cells ({ frames := 0, cells := 0, slots := 0, locals := 0 } : Room).slots) := by
  refine MetFree.of_bodySF (plainFor_of_name pn_0) hisR ?_
  intro p e s m args below meth c s₁ Bd hml0 hP hK
  obtain ⟨rfl, hZ, hh⟩ := hP
  have hx := Bd.exec
  have hby := Bd.bytes
  have hlk := Bd.notSynchronized
  have hW : ∀ (i : Nat) (d : Jvm.Cond), tables_1[i]? = some d → d.before a0 Z = true := fun i d h => hw d (List.mem_of_getElem? h)
  have hml : c.maxLocals = 1 := hml0
  have hown : s.vm.findClass "java/lang/Enum" = some m.cls := findClass_of_methodNamed Bd.named
  have hnm := (name_of_methodNamed Bd.named Bd.method).1
  have X0 : Stand p l e ({ frames := 0, cells := 0, slots := 0, locals := 0 } : Room) s m #[(.ref a)] below meth c s₁ [] 0 0 := Stand.of_body Bd
  have e0 : s₁.heap = h0 := by rw [← hh, Bd.state]; rfl
  have N0 := Fr.nil n0
  refine own_in ?_
  refine own_of (fun tt_ kk_ => castTop (ef_rmE m a) kk_) ?_
  show own_go p e below s _ _ _ (s₁.setTop (mkF m 0 #[.val (.ref a)] []))
  refine own_of (fun tt_ => XS.aloadN X0.here hx rfl (hb hby d3_0) rfl rfl) ?_
  show own_go p e below s _ _ _ (s₁.setTop (mkF m 1 #[.val (.ref a)] [(.ref a)]))
  have f1 : Fld Z h0 a "java/lang/Enum" "ordinal" "I" (.int z) := Fo.ext XO0.2
  obtain ⟨T2, X2, e2, st2⟩ := getF X0 hx hZ hown (host := "") (Or.inl (hW 21 _ rfl)) Via.refl e0 f1 (g := (mkF m 1 #[.val (.ref a)] [(.ref a)])) rfl rfl (hb hby d3_1)
  refine own_of st2 ?_
  show own_go p e below s _ _ _ (T2.setTop (mkF m 4 #[.val (.ref a)] [(.int z)]))
  refine own_ret X2 hx hlk Bd.returns rfl (Or.inl ⟨rfl, by simp, _, rfl⟩) (hb hby d3_4) (by decide) (by decide) ?_
  rw [e2]
  exact ⟨rfl, N0, rfl⟩
theorem ef_rmS (m : MethodId) (x0 : Int32) : entryFrame m #[(.int x0)] 2 = mkF m 0 #[.val (.int x0), .unset] [] := by first | (simp [entryFrame, mkF, argsToLocals, Value.category]; done) | rfl
theorem pn_1 : plainName "com/example/assemble/assemble/AssemblyStateDescribePinLaw" = true := by first | (simp [plainName, overriddenIn]; done) | decide +kernel
theorem d1_0 : decode method_2_code 0 = .ok (.iload_n 0, 1) := by decide +kernel
theorem d1_1 : decode method_2_code 1 = .ok (.ldc 7, 2) := by decide +kernel
theorem d1_3 : decode method_2_code 3 = .ok (.iand, 1) := by decide +kernel
theorem d1_4 : decode method_2_code 4 = .ok (.iconst 5, 1) := by decide +kernel
theorem d1_5 : decode method_2_code 5 = .ok (.irem, 1) := by decide +kernel
theorem d1_6 : decode method_2_code 6 = .ok (.istore_n 1, 1) := by decide +kernel
theorem d1_7 : decode method_2_code 7 = .ok (.iload_n 1, 1) := by decide +kernel
theorem d1_8 : decode method_2_code 8 = .ok (.ifCond .ne 7, 3) := by decide +kernel
theorem d1_11 : decode method_2_code 11 = .ok (.getstatic 8, 3) := by decide +kernel
theorem d1_14 : decode method_2_code 14 = .ok (.areturn, 1) := by decide +kernel
theorem d1_15 : decode method_2_code 15 = .ok (.iload_n 1, 1) := by decide +kernel
theorem d1_16 : decode method_2_code 16 = .ok (.iconst 1, 1) := by decide +kernel
theorem d1_17 : decode method_2_code 17 = .ok (.if_icmp .ne 7, 3) := by decide +kernel
theorem d1_20 : decode method_2_code 20 = .ok (.getstatic 14, 3) := by decide +kernel
theorem d1_23 : decode method_2_code 23 = .ok (.areturn, 1) := by decide +kernel
theorem d1_24 : decode method_2_code 24 = .ok (.iload_n 1, 1) := by decide +kernel
theorem d1_25 : decode method_2_code 25 = .ok (.iconst 2, 1) := by decide +kernel
theorem d1_26 : decode method_2_code 26 = .ok (.if_icmp .ne 7, 3) := by decide +kernel
theorem d1_29 : decode method_2_code 29 = .ok (.getstatic 17, 3) := by decide +kernel
theorem d1_32 : decode method_2_code 32 = .ok (.areturn, 1) := by decide +kernel
theorem d1_33 : decode method_2_code 33 = .ok (.iload_n 1, 1) := by decide +kernel
theorem d1_34 : decode method_2_code 34 = .ok (.iconst 3, 1) := by decide +kernel
theorem d1_35 : decode method_2_code 35 = .ok (.if_icmp .ne 7, 3) := by decide +kernel
theorem d1_38 : decode method_2_code 38 = .ok (.getstatic 20, 3) := by decide +kernel
theorem d1_41 : decode method_2_code 41 = .ok (.areturn, 1) := by decide +kernel
theorem d1_42 : decode method_2_code 42 = .ok (.getstatic 23, 3) := by decide +kernel
theorem d1_45 : decode method_2_code 45 = .ok (.areturn, 1) := by decide +kernel
def Q_rmS (Z : State) (p1 : Int32) (w0 : Nat) (w1 : Nat) (w2 : Nat) (w3 : Nat) (w4 : Nat) (h0 : Heap) (n0 : Nat) (v : Option Value) (h : Heap) (L : List Loc) : Prop := ∃ k : Nat, k < 5 ∧ v = some (.ref (own_w w0 w1 w2 w3 w4 k)) ∧ Fr n0 L ∧ h = h0
set_option maxRecDepth 65536 in
set_option maxHeartbeats 40000000 in
theorem rmS (l : Launch) (Z : State) (a0 : Array Value) (hw : ∀ d ∈ tables_1, d.before a0 Z = true) (ws : List Jvm.Cond) (p1 : Int32) (w0 : Nat) (w1 : Nat) (w2 : Nat) (w3 : Nat) (w4 : Nat) (h0 : Heap) (n0 : Nat) (S_NEW : Sta Z Z.heap "com/example/assemble/assemble/AssemblyState$Stage" "NEW" "Lcom/example/assemble/assemble/AssemblyState$Stage;" (.ref w0)) (S_STARTING : Sta Z Z.heap "com/example/assemble/assemble/AssemblyState$Stage" "STARTING" "Lcom/example/assemble/assemble/AssemblyState$Stage;" (.ref w1)) (S_STARTED : Sta Z Z.heap "com/example/assemble/assemble/AssemblyState$Stage" "STARTED" "Lcom/example/assemble/assemble/AssemblyState$Stage;" (.ref w2)) (S_FAILED : Sta Z Z.heap "com/example/assemble/assemble/AssemblyState$Stage" "FAILED" "Lcom/example/assemble/assemble/AssemblyState$Stage;" (.ref w3)) (S_CLOSED : Sta Z Z.heap "com/example/assemble/assemble/AssemblyState$Stage" "CLOSED" "Lcom/example/assemble/assemble/AssemblyState$Stage;" (.ref w4)) (XO0 : Old Z n0 h0) :
    MetFree l (⟨"com/example/assemble/assemble/AssemblyStateDescribePinLaw", "stageOf", "(I)Lcom/example/assemble/assemble/AssemblyState$Stage;"⟩ : MethodName) (head1 (Jvm.Cond.code (⟨"com/example/assemble/assemble/AssemblyStateDescribePinLaw", "stageOf", "(I)Lcom/example/assemble/assemble/AssemblyState$Stage;"⟩ : MethodName) method_2_code 2 (some (.object "com/example/assemble/assemble/AssemblyState$Stage")) :: ws) ({ frames := 0, cells := 0, slots := 0, locals := 0 } : Room)) (fun zz_ U => zz_ = #[(.int p1)] ∧ Z.Warmed39 U.vm ∧ U.heap = h0) (fun _ _ _ _ _ => True) (fun _ U o U' => ∃ v L, o = .returned v ∧ Q_rmS Z p1 w0 w1 w2 w3 w4 h0 n0 v U'.heap L ∧ FrameEnd U o U' L ({ frames := 0, cells := 0, slots := 0, locals := 0 } : Room).cells ({ frames := 0, cells := 0, slots := 0, locals := 0 } : Room).slots) := by
  refine MetFree.of_bodySF (plainFor_of_name pn_1) hisR ?_
  intro p e s m args below meth c s₁ Bd hml0 hP hK
  obtain ⟨rfl, hZ, hh⟩ := hP
  have hx := Bd.exec
  have hby := Bd.bytes
  have hlk := Bd.notSynchronized
  have hW : ∀ (i : Nat) (d : Jvm.Cond), tables_1[i]? = some d → d.before a0 Z = true := fun i d h => hw d (List.mem_of_getElem? h)
  have hml : c.maxLocals = 2 := hml0
  have hown : s.vm.findClass "com/example/assemble/assemble/AssemblyStateDescribePinLaw" = some m.cls := findClass_of_methodNamed Bd.named
  have hnm := (name_of_methodNamed Bd.named Bd.method).1
  have X0 : Stand p l e ({ frames := 0, cells := 0, slots := 0, locals := 0 } : Room) s m #[(.int p1)] below meth c s₁ [] 0 0 := Stand.of_body Bd
  have e0 : s₁.heap = h0 := by rw [← hh, Bd.state]; rfl
  have N0 := Fr.nil n0
  refine own_in ?_
  refine own_of (fun tt_ kk_ => castTop (ef_rmS m p1) kk_) ?_
  show own_go p e below s _ _ _ (s₁.setTop (mkF m 0 #[.val (.int p1), .unset] []))
  refine own_of (fun tt_ => XS.iloadN X0.here hx rfl (hb hby d1_0) rfl) ?_
  show own_go p e below s _ _ _ (s₁.setTop (mkF m 1 #[.val (.int p1), .unset] [(.int p1)]))
  refine own_of (fun tt_ => X0.ldcI hx hown (mvT hZ (hW 4 _ rfl)) rfl (hb hby d1_1)) ?_
  show own_go p e below s _ _ _ (s₁.setTop (mkF m 3 #[.val (.int p1), .unset] [(.int (2147483647 : Int32)), (.int p1)]))
  refine own_of (fun tt_ => XS.iand X0.here hx rfl (hb hby d1_3) rfl) ?_
  show own_go p e below s _ _ _ (s₁.setTop (mkF m 4 #[.val (.int p1), .unset] [(.int (p1 &&& (2147483647 : Int32)))]))
  refine own_of (fun tt_ => XS.iconst X0.here hx rfl (hb hby d1_4)) ?_
  show own_go p e below s _ _ _ (s₁.setTop (mkF m 5 #[.val (.int p1), .unset] [(.int (5 : Int32)), (.int (p1 &&& (2147483647 : Int32)))]))
  refine own_of (fun tt_ => iremM X0 hx rfl (hb hby d1_5) rfl (by decide)) ?_
  show own_go p e below s _ _ _ (s₁.setTop (mkF m 6 #[.val (.int p1), .unset] [(.int ((p1 &&& (2147483647 : Int32)) % (5 : Int32)))]))
  rcases own_mod5 p1 with hi | hi | hi | hi | hi
  · rw [hi]
    show own_go p e below s _ _ _ (s₁.setTop (mkF m 6 #[.val (.int p1), .unset] [(.int (0 : Int32))]))
    refine own_of (fun tt_ => XS.istoreN X0.here hx rfl (hb hby d1_6) rfl (l' := #[.val (.int p1), .val (.int (0 : Int32))]) rfl) ?_
    show own_go p e below s _ _ _ (s₁.setTop (mkF m 7 #[.val (.int p1), .val (.int (0 : Int32))] []))
    refine own_of (fun tt_ => XS.iloadN X0.here hx rfl (hb hby d1_7) rfl) ?_
    show own_go p e below s _ _ _ (s₁.setTop (mkF m 8 #[.val (.int p1), .val (.int (0 : Int32))] [(.int (0 : Int32))]))
    have hb8_1 : (0 : Int32) = (0 : Int32) := by decide
    refine own_of (fun tt_ => XS.ifNo X0.here hx rfl (hb hby d1_8) rfl ((if0 _ _).trans (teq hb8_1).2)) ?_
    show own_go p e below s _ _ _ (s₁.setTop (mkF m 11 #[.val (.int p1), .val (.int (0 : Int32))] []))
    obtain ⟨T2, X2, e2, st2⟩ := getS2 X0 hx hZ hown (host := "") (Or.inl (hW 5 _ rfl)) Via.refl e0 (S_NEW.ext XO0.2) (g := (mkF m 11 #[.val (.int p1), .val (.int (0 : Int32))] [])) rfl (hb hby d1_11)
    refine own_of st2 ?_
    show own_go p e below s _ _ _ (T2.setTop (mkF m 14 #[.val (.int p1), .val (.int (0 : Int32))] [(.ref w0)]))
    refine own_ret X2 hx hlk Bd.returns rfl (Or.inr (Or.inr (Or.inr (Or.inr ⟨rfl, rfl, rfl⟩)))) (hb hby d1_14) (by decide) (by decide) ?_
    rw [e2]
    exact ⟨0, by decide, rfl, N0, rfl⟩
  · rw [hi]
    show own_go p e below s _ _ _ (s₁.setTop (mkF m 6 #[.val (.int p1), .unset] [(.int (1 : Int32))]))
    refine own_of (fun tt_ => XS.istoreN X0.here hx rfl (hb hby d1_6) rfl (l' := #[.val (.int p1), .val (.int (1 : Int32))]) rfl) ?_
    show own_go p e below s _ _ _ (s₁.setTop (mkF m 7 #[.val (.int p1), .val (.int (1 : Int32))] []))
    refine own_of (fun tt_ => XS.iloadN X0.here hx rfl (hb hby d1_7) rfl) ?_
    show own_go p e below s _ _ _ (s₁.setTop (mkF m 8 #[.val (.int p1), .val (.int (1 : Int32))] [(.int (1 : Int32))]))
    have hb8_3 : ¬ ((1 : Int32) = (0 : Int32)) := by decide
    refine own_of (fun tt_ => XS.ifYes X0.here hx rfl (pc0 := 8) (pc' := 15) rfl (hb hby d1_8) rfl ((if0 _ _).trans (feq hb8_3).2) (by decide) (by decide)) ?_
    show own_go p e below s _ _ _ (s₁.setTop (mkF m 15 #[.val (.int p1), .val (.int (1 : Int32))] []))
    refine own_of (fun tt_ => XS.iloadN X0.here hx rfl (hb hby d1_15) rfl) ?_
    show own_go p e below s _ _ _ (s₁.setTop (mkF m 16 #[.val (.int p1), .val (.int (1 : Int32))] [(.int (1 : Int32))]))
    refine own_of (fun tt_ => XS.iconst X0.here hx rfl (hb hby d1_16)) ?_
    show own_go p e below s _ _ _ (s₁.setTop (mkF m 17 #[.val (.int p1), .val (.int (1 : Int32))] [(.int (1 : Int32)), (.int (1 : Int32))]))
    have hb17_4 : (1 : Int32) = (1 : Int32) := by decide
    refine own_of (fun tt_ => XS.icmpNo X0.here hx rfl (hb hby d1_17) rfl (teq hb17_4).2) ?_
    show own_go p e below s _ _ _ (s₁.setTop (mkF m 20 #[.val (.int p1), .val (.int (1 : Int32))] []))
    obtain ⟨T5, X5, e5, st5⟩ := getS2 X0 hx hZ hown (host := "") (Or.inl (hW 55 _ rfl)) Via.refl e0 (S_STARTING.ext XO0.2) (g := (mkF m 20 #[.val (.int p1), .val (.int (1 : Int32))] [])) rfl (hb hby d1_20)
    refine own_of st5 ?_
    show own_go p e below s _ _ _ (T5.setTop (mkF m 23 #[.val (.int p1), .val (.int (1 : Int32))] [(.ref w1)]))
    refine own_ret X5 hx hlk Bd.returns rfl (Or.inr (Or.inr (Or.inr (Or.inr ⟨rfl, rfl, rfl⟩)))) (hb hby d1_23) (by decide) (by decide) ?_
    rw [e5]
    exact ⟨1, by decide, rfl, N0, rfl⟩
  · rw [hi]
    show own_go p e below s _ _ _ (s₁.setTop (mkF m 6 #[.val (.int p1), .unset] [(.int (2 : Int32))]))
    refine own_of (fun tt_ => XS.istoreN X0.here hx rfl (hb hby d1_6) rfl (l' := #[.val (.int p1), .val (.int (2 : Int32))]) rfl) ?_
    show own_go p e below s _ _ _ (s₁.setTop (mkF m 7 #[.val (.int p1), .val (.int (2 : Int32))] []))
    refine own_of (fun tt_ => XS.iloadN X0.here hx rfl (hb hby d1_7) rfl) ?_
    show own_go p e below s _ _ _ (s₁.setTop (mkF m 8 #[.val (.int p1), .val (.int (2 : Int32))] [(.int (2 : Int32))]))
    have hb8_6 : ¬ ((2 : Int32) = (0 : Int32)) := by decide
    refine own_of (fun tt_ => XS.ifYes X0.here hx rfl (pc0 := 8) (pc' := 15) rfl (hb hby d1_8) rfl ((if0 _ _).trans (feq hb8_6).2) (by decide) (by decide)) ?_
    show own_go p e below s _ _ _ (s₁.setTop (mkF m 15 #[.val (.int p1), .val (.int (2 : Int32))] []))
    refine own_of (fun tt_ => XS.iloadN X0.here hx rfl (hb hby d1_15) rfl) ?_
    show own_go p e below s _ _ _ (s₁.setTop (mkF m 16 #[.val (.int p1), .val (.int (2 : Int32))] [(.int (2 : Int32))]))
    refine own_of (fun tt_ => XS.iconst X0.here hx rfl (hb hby d1_16)) ?_
    show own_go p e below s _ _ _ (s₁.setTop (mkF m 17 #[.val (.int p1), .val (.int (2 : Int32))] [(.int (1 : Int32)), (.int (2 : Int32))]))
    have hb17_7 : ¬ ((2 : Int32) = (1 : Int32)) := by decide
    refine own_of (fun tt_ => XS.icmpYes X0.here hx rfl (pc0 := 17) (pc' := 24) rfl (hb hby d1_17) rfl (feq hb17_7).2 (by decide) (by decide)) ?_
    show own_go p e below s _ _ _ (s₁.setTop (mkF m 24 #[.val (.int p1), .val (.int (2 : Int32))] []))
    refine own_of (fun tt_ => XS.iloadN X0.here hx rfl (hb hby d1_24) rfl) ?_
    show own_go p e below s _ _ _ (s₁.setTop (mkF m 25 #[.val (.int p1), .val (.int (2 : Int32))] [(.int (2 : Int32))]))
    refine own_of (fun tt_ => XS.iconst X0.here hx rfl (hb hby d1_25)) ?_
    show own_go p e below s _ _ _ (s₁.setTop (mkF m 26 #[.val (.int p1), .val (.int (2 : Int32))] [(.int (2 : Int32)), (.int (2 : Int32))]))
    have hb26_8 : (2 : Int32) = (2 : Int32) := by decide
    refine own_of (fun tt_ => XS.icmpNo X0.here hx rfl (hb hby d1_26) rfl (teq hb26_8).2) ?_
    show own_go p e below s _ _ _ (s₁.setTop (mkF m 29 #[.val (.int p1), .val (.int (2 : Int32))] []))
    obtain ⟨T9, X9, e9, st9⟩ := getS2 X0 hx hZ hown (host := "") (Or.inl (hW 58 _ rfl)) Via.refl e0 (S_STARTED.ext XO0.2) (g := (mkF m 29 #[.val (.int p1), .val (.int (2 : Int32))] [])) rfl (hb hby d1_29)
    refine own_of st9 ?_
    show own_go p e below s _ _ _ (T9.setTop (mkF m 32 #[.val (.int p1), .val (.int (2 : Int32))] [(.ref w2)]))
    refine own_ret X9 hx hlk Bd.returns rfl (Or.inr (Or.inr (Or.inr (Or.inr ⟨rfl, rfl, rfl⟩)))) (hb hby d1_32) (by decide) (by decide) ?_
    rw [e9]
    exact ⟨2, by decide, rfl, N0, rfl⟩
  · rw [hi]
    show own_go p e below s _ _ _ (s₁.setTop (mkF m 6 #[.val (.int p1), .unset] [(.int (3 : Int32))]))
    refine own_of (fun tt_ => XS.istoreN X0.here hx rfl (hb hby d1_6) rfl (l' := #[.val (.int p1), .val (.int (3 : Int32))]) rfl) ?_
    show own_go p e below s _ _ _ (s₁.setTop (mkF m 7 #[.val (.int p1), .val (.int (3 : Int32))] []))
    refine own_of (fun tt_ => XS.iloadN X0.here hx rfl (hb hby d1_7) rfl) ?_
    show own_go p e below s _ _ _ (s₁.setTop (mkF m 8 #[.val (.int p1), .val (.int (3 : Int32))] [(.int (3 : Int32))]))
    have hb8_10 : ¬ ((3 : Int32) = (0 : Int32)) := by decide
    refine own_of (fun tt_ => XS.ifYes X0.here hx rfl (pc0 := 8) (pc' := 15) rfl (hb hby d1_8) rfl ((if0 _ _).trans (feq hb8_10).2) (by decide) (by decide)) ?_
    show own_go p e below s _ _ _ (s₁.setTop (mkF m 15 #[.val (.int p1), .val (.int (3 : Int32))] []))
    refine own_of (fun tt_ => XS.iloadN X0.here hx rfl (hb hby d1_15) rfl) ?_
    show own_go p e below s _ _ _ (s₁.setTop (mkF m 16 #[.val (.int p1), .val (.int (3 : Int32))] [(.int (3 : Int32))]))
    refine own_of (fun tt_ => XS.iconst X0.here hx rfl (hb hby d1_16)) ?_
    show own_go p e below s _ _ _ (s₁.setTop (mkF m 17 #[.val (.int p1), .val (.int (3 : Int32))] [(.int (1 : Int32)), (.int (3 : Int32))]))
    have hb17_11 : ¬ ((3 : Int32) = (1 : Int32)) := by decide
    refine own_of (fun tt_ => XS.icmpYes X0.here hx rfl (pc0 := 17) (pc' := 24) rfl (hb hby d1_17) rfl (feq hb17_11).2 (by decide) (by decide)) ?_
    show own_go p e below s _ _ _ (s₁.setTop (mkF m 24 #[.val (.int p1), .val (.int (3 : Int32))] []))
    refine own_of (fun tt_ => XS.iloadN X0.here hx rfl (hb hby d1_24) rfl) ?_
    show own_go p e below s _ _ _ (s₁.setTop (mkF m 25 #[.val (.int p1), .val (.int (3 : Int32))] [(.int (3 : Int32))]))
    refine own_of (fun tt_ => XS.iconst X0.here hx rfl (hb hby d1_25)) ?_
    show own_go p e below s _ _ _ (s₁.setTop (mkF m 26 #[.val (.int p1), .val (.int (3 : Int32))] [(.int (2 : Int32)), (.int (3 : Int32))]))
    have hb26_12 : ¬ ((3 : Int32) = (2 : Int32)) := by decide
    refine own_of (fun tt_ => XS.icmpYes X0.here hx rfl (pc0 := 26) (pc' := 33) rfl (hb hby d1_26) rfl (feq hb26_12).2 (by decide) (by decide)) ?_
    show own_go p e below s _ _ _ (s₁.setTop (mkF m 33 #[.val (.int p1), .val (.int (3 : Int32))] []))
    refine own_of (fun tt_ => XS.iloadN X0.here hx rfl (hb hby d1_33) rfl) ?_
    show own_go p e below s _ _ _ (s₁.setTop (mkF m 34 #[.val (.int p1), .val (.int (3 : Int32))] [(.int (3 : Int32))]))
    refine own_of (fun tt_ => XS.iconst X0.here hx rfl (hb hby d1_34)) ?_
    show own_go p e below s _ _ _ (s₁.setTop (mkF m 35 #[.val (.int p1), .val (.int (3 : Int32))] [(.int (3 : Int32)), (.int (3 : Int32))]))
    have hb35_13 : (3 : Int32) = (3 : Int32) := by decide
    refine own_of (fun tt_ => XS.icmpNo X0.here hx rfl (hb hby d1_35) rfl (teq hb35_13).2) ?_
    show own_go p e below s _ _ _ (s₁.setTop (mkF m 38 #[.val (.int p1), .val (.int (3 : Int32))] []))
    obtain ⟨T14, X14, e14, st14⟩ := getS2 X0 hx hZ hown (host := "") (Or.inl (hW 8 _ rfl)) Via.refl e0 (S_FAILED.ext XO0.2) (g := (mkF m 38 #[.val (.int p1), .val (.int (3 : Int32))] [])) rfl (hb hby d1_38)
    refine own_of st14 ?_
    show own_go p e below s _ _ _ (T14.setTop (mkF m 41 #[.val (.int p1), .val (.int (3 : Int32))] [(.ref w3)]))
    refine own_ret X14 hx hlk Bd.returns rfl (Or.inr (Or.inr (Or.inr (Or.inr ⟨rfl, rfl, rfl⟩)))) (hb hby d1_41) (by decide) (by decide) ?_
    rw [e14]
    exact ⟨3, by decide, rfl, N0, rfl⟩
  · rw [hi]
    show own_go p e below s _ _ _ (s₁.setTop (mkF m 6 #[.val (.int p1), .unset] [(.int (4 : Int32))]))
    refine own_of (fun tt_ => XS.istoreN X0.here hx rfl (hb hby d1_6) rfl (l' := #[.val (.int p1), .val (.int (4 : Int32))]) rfl) ?_
    show own_go p e below s _ _ _ (s₁.setTop (mkF m 7 #[.val (.int p1), .val (.int (4 : Int32))] []))
    refine own_of (fun tt_ => XS.iloadN X0.here hx rfl (hb hby d1_7) rfl) ?_
    show own_go p e below s _ _ _ (s₁.setTop (mkF m 8 #[.val (.int p1), .val (.int (4 : Int32))] [(.int (4 : Int32))]))
    have hb8_15 : ¬ ((4 : Int32) = (0 : Int32)) := by decide
    refine own_of (fun tt_ => XS.ifYes X0.here hx rfl (pc0 := 8) (pc' := 15) rfl (hb hby d1_8) rfl ((if0 _ _).trans (feq hb8_15).2) (by decide) (by decide)) ?_
    show own_go p e below s _ _ _ (s₁.setTop (mkF m 15 #[.val (.int p1), .val (.int (4 : Int32))] []))
    refine own_of (fun tt_ => XS.iloadN X0.here hx rfl (hb hby d1_15) rfl) ?_
    show own_go p e below s _ _ _ (s₁.setTop (mkF m 16 #[.val (.int p1), .val (.int (4 : Int32))] [(.int (4 : Int32))]))
    refine own_of (fun tt_ => XS.iconst X0.here hx rfl (hb hby d1_16)) ?_
    show own_go p e below s _ _ _ (s₁.setTop (mkF m 17 #[.val (.int p1), .val (.int (4 : Int32))] [(.int (1 : Int32)), (.int (4 : Int32))]))
    have hb17_16 : ¬ ((4 : Int32) = (1 : Int32)) := by decide
    refine own_of (fun tt_ => XS.icmpYes X0.here hx rfl (pc0 := 17) (pc' := 24) rfl (hb hby d1_17) rfl (feq hb17_16).2 (by decide) (by decide)) ?_
    show own_go p e below s _ _ _ (s₁.setTop (mkF m 24 #[.val (.int p1), .val (.int (4 : Int32))] []))
    refine own_of (fun tt_ => XS.iloadN X0.here hx rfl (hb hby d1_24) rfl) ?_
    show own_go p e below s _ _ _ (s₁.setTop (mkF m 25 #[.val (.int p1), .val (.int (4 : Int32))] [(.int (4 : Int32))]))
    refine own_of (fun tt_ => XS.iconst X0.here hx rfl (hb hby d1_25)) ?_
    show own_go p e below s _ _ _ (s₁.setTop (mkF m 26 #[.val (.int p1), .val (.int (4 : Int32))] [(.int (2 : Int32)), (.int (4 : Int32))]))
    have hb26_17 : ¬ ((4 : Int32) = (2 : Int32)) := by decide
    refine own_of (fun tt_ => XS.icmpYes X0.here hx rfl (pc0 := 26) (pc' := 33) rfl (hb hby d1_26) rfl (feq hb26_17).2 (by decide) (by decide)) ?_
    show own_go p e below s _ _ _ (s₁.setTop (mkF m 33 #[.val (.int p1), .val (.int (4 : Int32))] []))
    refine own_of (fun tt_ => XS.iloadN X0.here hx rfl (hb hby d1_33) rfl) ?_
    show own_go p e below s _ _ _ (s₁.setTop (mkF m 34 #[.val (.int p1), .val (.int (4 : Int32))] [(.int (4 : Int32))]))
    refine own_of (fun tt_ => XS.iconst X0.here hx rfl (hb hby d1_34)) ?_
    show own_go p e below s _ _ _ (s₁.setTop (mkF m 35 #[.val (.int p1), .val (.int (4 : Int32))] [(.int (3 : Int32)), (.int (4 : Int32))]))
    have hb35_18 : ¬ ((4 : Int32) = (3 : Int32)) := by decide
    refine own_of (fun tt_ => XS.icmpYes X0.here hx rfl (pc0 := 35) (pc' := 42) rfl (hb hby d1_35) rfl (feq hb35_18).2 (by decide) (by decide)) ?_
    show own_go p e below s _ _ _ (s₁.setTop (mkF m 42 #[.val (.int p1), .val (.int (4 : Int32))] []))
    obtain ⟨T19, X19, e19, st19⟩ := getS2 X0 hx hZ hown (host := "") (Or.inl (hW 51 _ rfl)) Via.refl e0 (S_CLOSED.ext XO0.2) (g := (mkF m 42 #[.val (.int p1), .val (.int (4 : Int32))] [])) rfl (hb hby d1_42)
    refine own_of st19 ?_
    show own_go p e below s _ _ _ (T19.setTop (mkF m 45 #[.val (.int p1), .val (.int (4 : Int32))] [(.ref w4)]))
    refine own_ret X19 hx hlk Bd.returns rfl (Or.inr (Or.inr (Or.inr (Or.inr ⟨rfl, rfl, rfl⟩)))) (hb hby d1_45) (by decide) (by decide) ?_
    rw [e19]
    exact ⟨4, by decide, rfl, N0, rfl⟩
def Q_rmD (Z : State) (r : Nat) (k : Nat) (h0 : Heap) (n0 : Nat) (v : Option Value) (h : Heap) (L : List Loc) : Prop := ∃ a : Nat, v = some (.ref a) ∧ Fr n0 L ∧ Keep h0 h [] ∧ own_str Z h a (own_txt k)
theorem ef_rmD_0 (m : MethodId) (x0 : Nat) : entryFrame m #[(.ref x0)] 1 = mkF m 0 #[.val (.ref x0)] [] := by first | (simp [entryFrame, mkF, argsToLocals, Value.category]; done) | rfl
theorem pn_2 : plainName "com/example/assemble/assemble/AssemblyState" = true := by first | (simp [plainName, overriddenIn]; done) | decide +kernel
theorem d2_0 : decode prog_2_method_10_code 0 = .ok (.aload_n 0, 1) := by decide +kernel
theorem d2_1 : decode prog_2_method_10_code 1 = .ok (.invokevirtual 63, 3) := by decide +kernel
theorem pd_0 : parseMethodDescriptor "()I" = some ⟨[], some .int⟩ := by decide +kernel
theorem d2_4 : decode prog_2_method_10_code 4 = .ok (.tableswitch 36 0 4 #[46, 51, 56, 61, 66], 36) := by decide +kernel
theorem d2_50 : decode prog_2_method_10_code 50 = .ok (.ldc 72, 2) := by decide +kernel
theorem d2_52 : decode prog_2_method_10_code 52 = .ok (.goto 20, 3) := by decide +kernel
theorem d2_72 : decode prog_2_method_10_code 72 = .ok (.areturn, 1) := by decide +kernel
set_option maxRecDepth 65536 in
set_option maxHeartbeats 40000000 in
theorem rmD_0 (l : Launch) (Z : State) (a0 : Array Value) (hw : ∀ d ∈ tables_1, d.before a0 Z = true) (ws : List Jvm.Cond) (r : Nat) (h0 : Heap) (n0 : Nat) (hEL : EW Z a0 own_EL) (XO0 : Old Z n0 h0) (Er : Exa Z Z.heap r "com/example/assemble/assemble/AssemblyState$Stage") (Fo : Fld Z Z.heap r "java/lang/Enum" "ordinal" "I" (.int (0 : Int32))) :
    MetFree l (⟨"com/example/assemble/assemble/AssemblyState", "describe", "(Lcom/example/assemble/assemble/AssemblyState$Stage;)Ljava/lang/String;"⟩ : MethodName) (head1 (Jvm.Cond.code (⟨"com/example/assemble/assemble/AssemblyState", "describe", "(Lcom/example/assemble/assemble/AssemblyState$Stage;)Ljava/lang/String;"⟩ : MethodName) prog_2_method_10_code 1 (some (.object "java/lang/String")) :: ws) ({ frames := 1, cells := 2, slots := 100, locals := 12 } : Room)) (fun zz_ U => zz_ = #[(.ref r)] ∧ Z.Warmed39 U.vm ∧ U.heap = h0 ∧ CHv Z own_EL U.vm h0) (fun _ _ _ _ _ => True) (fun _ U o U' => ∃ v L, o = .returned v ∧ Q_rmD Z r 0 h0 n0 v U'.heap L ∧ CHr Z own_EL U.vm U.heap U'.vm U'.heap ∧ ReturnedEndW U o U' L ({ frames := 1, cells := 2, slots := 100, locals := 12 } : Room).cells ({ frames := 1, cells := 2, slots := 100, locals := 12 } : Room).slots) := by
  refine MetFree.of_bodySF (plainFor_of_name pn_2) hisR ?_
  intro p e s m args below meth c s₁ Bd hml0 hP hK
  obtain ⟨rfl, hZ, hh, hCH⟩ := hP
  have hx := Bd.exec
  have hby := Bd.bytes
  have hlk := Bd.notSynchronized
  have hW : ∀ (i : Nat) (d : Jvm.Cond), tables_1[i]? = some d → d.before a0 Z = true := fun i d h => hw d (List.mem_of_getElem? h)
  have hml : c.maxLocals = 1 := hml0
  have hown : s.vm.findClass "com/example/assemble/assemble/AssemblyState" = some m.cls := findClass_of_methodNamed Bd.named
  have hnm := (name_of_methodNamed Bd.named Bd.method).1
  have X0 : Stand p l e ({ frames := 1, cells := 2, slots := 100, locals := 12 } : Room) (s.setVm s.vm) m #[(.ref r)] below meth c s₁ [] 0 0 := Stand.of_body Bd
  have e0 : s₁.heap = h0 := by rw [← hh, Bd.state]; rfl
  have N0 := Fr.nil n0
  have hS0 : s.Since s.vm 0 := (State.WarmedH.refl s).since 0
  have CH0 : CHr Z own_EL s.vm s.heap s.vm h0 := by rw [hh]; exact CHr.refl hCH
  refine own_inc ?_
  refine own_ofc (fun tt_ kk_ => castTop (ef_rmD_0 m r) kk_) ?_
  show own_gc p e below s _ _ _ _ _ (s₁.setTop (mkF m 0 #[.val (.ref r)] []))
  refine own_ofc (fun tt_ => XS.aloadN X0.here hx rfl (hb hby d2_0) rfl rfl) ?_
  show own_gc p e below s _ _ _ _ _ (s₁.setTop (mkF m 1 #[.val (.ref r)] [(.ref r)]))
  have wS : ∀ a ∈ Bundle.stringAtoms, a.before a0 Z = true := fun d hd => hw d ((by decide +kernel : ∀ d ∈ Bundle.stringAtoms, d ∈ tables_1) d hd)
  have K0 : Keep h0 h0 [] := Keep.refl h0 []
  have f2 : Exa Z h0 r "com/example/assemble/assemble/AssemblyState$Stage" := Er.ext XO0.2
  obtain ⟨cq1, kq1, q1a, q1b, q1c⟩ := isOf hZ e0 f2
  obtain ⟨_, _, ⟨T1, L1, k1, n1⟩, -, X1, ⟨Lc1, hQ1, l1, y1, z1⟩, st1⟩ := X0.virtualBackUp hx (x := (⟨"com/example/assemble/assemble/AssemblyState$Stage", "ordinal", "()I"⟩ : MethodName)) (y := (⟨"java/lang/Enum", "ordinal", "()I"⟩ : MethodName)) (owner := "java/lang/Enum") hown (mvT hZ (hW 14 _ rfl)) (mvT hZ (hW 15 _ rfl)) (mvT hZ (hW 16 _ rfl)) (by decide) (mvT hZ (hW 18 _ rfl)) (mvT hZ (hW 17 _ rfl)) (backOf (W := 0) (rmE l Z a0 hw [] r (0 : Int32) h0 n0 XO0 Fo) hZ (hW 20 _ rfl) (hW 19 _ rfl) (by decide) (by decide)) q1a q1c (g := (mkF m 1 #[.val (.ref r)] [(.ref r)])) rfl (by rw [hml]; rfl) (Steps.refl _) (argsL := []) (rest := []) (lenOf pd_0 rfl) rfl (by show 2 * 0 + _ ≤ _; exact Nat.le_of_eq rfl) (hb hby d2_1) (fun _ _ => ⟨rfl, e0, (by decide : 0 + 0 ≤ _), (by decide : 0 + 0 ≤ _)⟩)
  dsimp only [Pt.U, Pt.locs, Pt.cells, Pt.slots] at X1 l1 y1 z1 st1 hQ1
  subst l1 y1 z1
  obtain ⟨rfl, Nq1, eh1⟩ := hQ1
  have N1 := Fr.app N0 Nq1
  refine own_ofc (fun tt_ kk_ => st1.trans kk_) ?_
  show own_gc p e below s _ _ _ _ _ (T1.setTop (mkF m 4 #[.val (.ref r)] [(.int (0 : Int32))]))
  refine own_ofc (fun tt_ => XS.tswIn (g := (mkF m 4 #[.val (.ref r)] [(.int (0 : Int32))])) X1.here hx rfl (pc0 := 4) (pc' := 50) (o := 46) (i := (0 : Int32)) (rest := []) rfl (hb hby d2_4) rfl (by decide +kernel) (by decide +kernel) (by decide) (by decide)) ?_
  show own_gc p e below s _ _ _ _ _ (T1.setTop (mkF m 50 #[.val (.ref r)] []))
  obtain ⟨b3, T3, h3, k3, t3, kb3, X3, e3, E3, hS3, hk3, hZ3, hown3, Ex3, Cx3, Vx3, Kx3, la3, lb3, CHs3, -, hne3, st3⟩ := ldcCH X1 hx hZ hown (hW 23 _ rfl) wS eh1 hS0 (by omega : 0 ≤ h0.size) hEL (by decide +kernel) CH0.1 (vs := [.int 104, .int 97, .int 115, .int 32, .int 110, .int 111, .int 116, .int 32, .int 98, .int 101, .int 101, .int 110, .int 32, .int 115, .int 116, .int 97, .int 114, .int 116, .int 101, .int 100]) (z := 20) ⟨by decide +kernel, by decide +kernel⟩ (by decide +kernel) (by decide +kernel) (g := (mkF m 50 #[.val (.ref r)] [])) rfl (hb hby d2_50) (n := 96) (by decide +kernel) (by decide) (by decide) (by decide)
  have CH3 := CH0.trans CHs3
  have Ss3 : own_str Z h3 b3 ([104, 97, 115, 32, 110, 111, 116, 32, 98, 101, 101, 110, 32, 115, 116, 97, 114, 116, 101, 100] : List Int32) := ⟨t3, kb3, _, _, Ex3, Vx3, Cx3, Kx3, Or.inl ⟨rfl, rfl, rfl, by decide⟩⟩
  refine own_ofc st3 ?_
  have sz3 : h0.size ≤ h3.size := E3.1
  have O3 : Old Z n0 h3 := XO0.ext E3
  have K3 : Keep h0 h3 [] := K0.ext E3
  have lla3 := own_lt la3
  have llb3 := own_lt lb3
  show own_gc p e below s _ _ _ _ _ (T3.setTop (mkF m 52 #[.val (.ref r)] [(.ref b3)]))
  refine own_ofc (fun tt_ => XS.goto X3.here hx rfl (pc0 := 52) (pc' := 72) rfl (hb hby d2_52) (by decide) (by decide)) ?_
  show own_gc p e below s _ _ _ _ _ (T3.setTop (mkF m 72 #[.val (.ref r)] [(.ref b3)]))
  refine own_retc X3 hx hlk hS3 (by rw [e3]; omega : k3 ≤ T3.heap.size) hZ3 hEL (by rw [e3]; exact CH3) Bd.returns rfl (Or.inr (Or.inr (Or.inr (Or.inr ⟨rfl, rfl, rfl⟩)))) (hb hby d2_72) (by decide) (by decide) ?_
  rw [e3]
  exact ⟨b3, rfl, N1, K3, Ss3⟩
theorem ef_rmD_1 (m : MethodId) (x0 : Nat) : entryFrame m #[(.ref x0)] 1 = mkF m 0 #[.val (.ref x0)] [] := by first | (simp [entryFrame, mkF, argsToLocals, Value.category]; done) | rfl
theorem d2_55 : decode prog_2_method_10_code 55 = .ok (.ldc 74, 2) := by decide +kernel
theorem d2_57 : decode prog_2_method_10_code 57 = .ok (.goto 15, 3) := by decide +kernel
set_option maxRecDepth 65536 in
set_option maxHeartbeats 40000000 in
theorem rmD_1 (l : Launch) (Z : State) (a0 : Array Value) (hw : ∀ d ∈ tables_1, d.before a0 Z = true) (ws : List Jvm.Cond) (r : Nat) (h0 : Heap) (n0 : Nat) (hEL : EW Z a0 own_EL) (XO0 : Old Z n0 h0) (Er : Exa Z Z.heap r "com/example/assemble/assemble/AssemblyState$Stage") (Fo : Fld Z Z.heap r "java/lang/Enum" "ordinal" "I" (.int (1 : Int32))) :
    MetFree l (⟨"com/example/assemble/assemble/AssemblyState", "describe", "(Lcom/example/assemble/assemble/AssemblyState$Stage;)Ljava/lang/String;"⟩ : MethodName) (head1 (Jvm.Cond.code (⟨"com/example/assemble/assemble/AssemblyState", "describe", "(Lcom/example/assemble/assemble/AssemblyState$Stage;)Ljava/lang/String;"⟩ : MethodName) prog_2_method_10_code 1 (some (.object "java/lang/String")) :: ws) ({ frames := 1, cells := 2, slots := 100, locals := 12 } : Room)) (fun zz_ U => zz_ = #[(.ref r)] ∧ Z.Warmed39 U.vm ∧ U.heap = h0 ∧ CHv Z own_EL U.vm h0) (fun _ _ _ _ _ => True) (fun _ U o U' => ∃ v L, o = .returned v ∧ Q_rmD Z r 1 h0 n0 v U'.heap L ∧ CHr Z own_EL U.vm U.heap U'.vm U'.heap ∧ ReturnedEndW U o U' L ({ frames := 1, cells := 2, slots := 100, locals := 12 } : Room).cells ({ frames := 1, cells := 2, slots := 100, locals := 12 } : Room).slots) := by
  refine MetFree.of_bodySF (plainFor_of_name pn_2) hisR ?_
  intro p e s m args below meth c s₁ Bd hml0 hP hK
  obtain ⟨rfl, hZ, hh, hCH⟩ := hP
  have hx := Bd.exec
  have hby := Bd.bytes
  have hlk := Bd.notSynchronized
  have hW : ∀ (i : Nat) (d : Jvm.Cond), tables_1[i]? = some d → d.before a0 Z = true := fun i d h => hw d (List.mem_of_getElem? h)
  have hml : c.maxLocals = 1 := hml0
  have hown : s.vm.findClass "com/example/assemble/assemble/AssemblyState" = some m.cls := findClass_of_methodNamed Bd.named
  have hnm := (name_of_methodNamed Bd.named Bd.method).1
  have X0 : Stand p l e ({ frames := 1, cells := 2, slots := 100, locals := 12 } : Room) (s.setVm s.vm) m #[(.ref r)] below meth c s₁ [] 0 0 := Stand.of_body Bd
  have e0 : s₁.heap = h0 := by rw [← hh, Bd.state]; rfl
  have N0 := Fr.nil n0
  have hS0 : s.Since s.vm 0 := (State.WarmedH.refl s).since 0
  have CH0 : CHr Z own_EL s.vm s.heap s.vm h0 := by rw [hh]; exact CHr.refl hCH
  refine own_inc ?_
  refine own_ofc (fun tt_ kk_ => castTop (ef_rmD_1 m r) kk_) ?_
  show own_gc p e below s _ _ _ _ _ (s₁.setTop (mkF m 0 #[.val (.ref r)] []))
  refine own_ofc (fun tt_ => XS.aloadN X0.here hx rfl (hb hby d2_0) rfl rfl) ?_
  show own_gc p e below s _ _ _ _ _ (s₁.setTop (mkF m 1 #[.val (.ref r)] [(.ref r)]))
  have wS : ∀ a ∈ Bundle.stringAtoms, a.before a0 Z = true := fun d hd => hw d ((by decide +kernel : ∀ d ∈ Bundle.stringAtoms, d ∈ tables_1) d hd)
  have K0 : Keep h0 h0 [] := Keep.refl h0 []
  have f2 : Exa Z h0 r "com/example/assemble/assemble/AssemblyState$Stage" := Er.ext XO0.2
  obtain ⟨cq1, kq1, q1a, q1b, q1c⟩ := isOf hZ e0 f2
  obtain ⟨_, _, ⟨T1, L1, k1, n1⟩, -, X1, ⟨Lc1, hQ1, l1, y1, z1⟩, st1⟩ := X0.virtualBackUp hx (x := (⟨"com/example/assemble/assemble/AssemblyState$Stage", "ordinal", "()I"⟩ : MethodName)) (y := (⟨"java/lang/Enum", "ordinal", "()I"⟩ : MethodName)) (owner := "java/lang/Enum") hown (mvT hZ (hW 14 _ rfl)) (mvT hZ (hW 15 _ rfl)) (mvT hZ (hW 16 _ rfl)) (by decide) (mvT hZ (hW 18 _ rfl)) (mvT hZ (hW 17 _ rfl)) (backOf (W := 0) (rmE l Z a0 hw [] r (1 : Int32) h0 n0 XO0 Fo) hZ (hW 20 _ rfl) (hW 19 _ rfl) (by decide) (by decide)) q1a q1c (g := (mkF m 1 #[.val (.ref r)] [(.ref r)])) rfl (by rw [hml]; rfl) (Steps.refl _) (argsL := []) (rest := []) (lenOf pd_0 rfl) rfl (by show 2 * 0 + _ ≤ _; exact Nat.le_of_eq rfl) (hb hby d2_1) (fun _ _ => ⟨rfl, e0, (by decide : 0 + 0 ≤ _), (by decide : 0 + 0 ≤ _)⟩)
  dsimp only [Pt.U, Pt.locs, Pt.cells, Pt.slots] at X1 l1 y1 z1 st1 hQ1
  subst l1 y1 z1
  obtain ⟨rfl, Nq1, eh1⟩ := hQ1
  have N1 := Fr.app N0 Nq1
  refine own_ofc (fun tt_ kk_ => st1.trans kk_) ?_
  show own_gc p e below s _ _ _ _ _ (T1.setTop (mkF m 4 #[.val (.ref r)] [(.int (1 : Int32))]))
  refine own_ofc (fun tt_ => XS.tswIn (g := (mkF m 4 #[.val (.ref r)] [(.int (1 : Int32))])) X1.here hx rfl (pc0 := 4) (pc' := 55) (o := 51) (i := (1 : Int32)) (rest := []) rfl (hb hby d2_4) rfl (by decide +kernel) (by decide +kernel) (by decide) (by decide)) ?_
  show own_gc p e below s _ _ _ _ _ (T1.setTop (mkF m 55 #[.val (.ref r)] []))
  obtain ⟨b3, T3, h3, k3, t3, kb3, X3, e3, E3, hS3, hk3, hZ3, hown3, Ex3, Cx3, Vx3, Kx3, la3, lb3, CHs3, -, hne3, st3⟩ := ldcCH X1 hx hZ hown (hW 57 _ rfl) wS eh1 hS0 (by omega : 0 ≤ h0.size) hEL (by decide +kernel) CH0.1 (vs := [.int 105, .int 115, .int 32, .int 115, .int 116, .int 97, .int 114, .int 116, .int 105, .int 110, .int 103]) (z := 11) ⟨by decide +kernel, by decide +kernel⟩ (by decide +kernel) (by decide +kernel) (g := (mkF m 55 #[.val (.ref r)] [])) rfl (hb hby d2_55) (n := 96) (by decide +kernel) (by decide) (by decide) (by decide)
  have CH3 := CH0.trans CHs3
  have Ss3 : own_str Z h3 b3 ([105, 115, 32, 115, 116, 97, 114, 116, 105, 110, 103] : List Int32) := ⟨t3, kb3, _, _, Ex3, Vx3, Cx3, Kx3, Or.inl ⟨rfl, rfl, rfl, by decide⟩⟩
  refine own_ofc st3 ?_
  have sz3 : h0.size ≤ h3.size := E3.1
  have O3 : Old Z n0 h3 := XO0.ext E3
  have K3 : Keep h0 h3 [] := K0.ext E3
  have lla3 := own_lt la3
  have llb3 := own_lt lb3
  show own_gc p e below s _ _ _ _ _ (T3.setTop (mkF m 57 #[.val (.ref r)] [(.ref b3)]))
  refine own_ofc (fun tt_ => XS.goto X3.here hx rfl (pc0 := 57) (pc' := 72) rfl (hb hby d2_57) (by decide) (by decide)) ?_
  show own_gc p e below s _ _ _ _ _ (T3.setTop (mkF m 72 #[.val (.ref r)] [(.ref b3)]))
  refine own_retc X3 hx hlk hS3 (by rw [e3]; omega : k3 ≤ T3.heap.size) hZ3 hEL (by rw [e3]; exact CH3) Bd.returns rfl (Or.inr (Or.inr (Or.inr (Or.inr ⟨rfl, rfl, rfl⟩)))) (hb hby d2_72) (by decide) (by decide) ?_
  rw [e3]
  exact ⟨b3, rfl, N1, K3, Ss3⟩
theorem ef_rmD_2 (m : MethodId) (x0 : Nat) : entryFrame m #[(.ref x0)] 1 = mkF m 0 #[.val (.ref x0)] [] := by first | (simp [entryFrame, mkF, argsToLocals, Value.category]; done) | rfl
theorem d2_60 : decode prog_2_method_10_code 60 = .ok (.ldc 76, 2) := by decide +kernel
theorem d2_62 : decode prog_2_method_10_code 62 = .ok (.goto 10, 3) := by decide +kernel
set_option maxRecDepth 65536 in
set_option maxHeartbeats 40000000 in
theorem rmD_2 (l : Launch) (Z : State) (a0 : Array Value) (hw : ∀ d ∈ tables_1, d.before a0 Z = true) (ws : List Jvm.Cond) (r : Nat) (h0 : Heap) (n0 : Nat) (hEL : EW Z a0 own_EL) (XO0 : Old Z n0 h0) (Er : Exa Z Z.heap r "com/example/assemble/assemble/AssemblyState$Stage") (Fo : Fld Z Z.heap r "java/lang/Enum" "ordinal" "I" (.int (2 : Int32))) :
    MetFree l (⟨"com/example/assemble/assemble/AssemblyState", "describe", "(Lcom/example/assemble/assemble/AssemblyState$Stage;)Ljava/lang/String;"⟩ : MethodName) (head1 (Jvm.Cond.code (⟨"com/example/assemble/assemble/AssemblyState", "describe", "(Lcom/example/assemble/assemble/AssemblyState$Stage;)Ljava/lang/String;"⟩ : MethodName) prog_2_method_10_code 1 (some (.object "java/lang/String")) :: ws) ({ frames := 1, cells := 2, slots := 100, locals := 12 } : Room)) (fun zz_ U => zz_ = #[(.ref r)] ∧ Z.Warmed39 U.vm ∧ U.heap = h0 ∧ CHv Z own_EL U.vm h0) (fun _ _ _ _ _ => True) (fun _ U o U' => ∃ v L, o = .returned v ∧ Q_rmD Z r 2 h0 n0 v U'.heap L ∧ CHr Z own_EL U.vm U.heap U'.vm U'.heap ∧ ReturnedEndW U o U' L ({ frames := 1, cells := 2, slots := 100, locals := 12 } : Room).cells ({ frames := 1, cells := 2, slots := 100, locals := 12 } : Room).slots) := by
  refine MetFree.of_bodySF (plainFor_of_name pn_2) hisR ?_
  intro p e s m args below meth c s₁ Bd hml0 hP hK
  obtain ⟨rfl, hZ, hh, hCH⟩ := hP
  have hx := Bd.exec
  have hby := Bd.bytes
  have hlk := Bd.notSynchronized
  have hW : ∀ (i : Nat) (d : Jvm.Cond), tables_1[i]? = some d → d.before a0 Z = true := fun i d h => hw d (List.mem_of_getElem? h)
  have hml : c.maxLocals = 1 := hml0
  have hown : s.vm.findClass "com/example/assemble/assemble/AssemblyState" = some m.cls := findClass_of_methodNamed Bd.named
  have hnm := (name_of_methodNamed Bd.named Bd.method).1
  have X0 : Stand p l e ({ frames := 1, cells := 2, slots := 100, locals := 12 } : Room) (s.setVm s.vm) m #[(.ref r)] below meth c s₁ [] 0 0 := Stand.of_body Bd
  have e0 : s₁.heap = h0 := by rw [← hh, Bd.state]; rfl
  have N0 := Fr.nil n0
  have hS0 : s.Since s.vm 0 := (State.WarmedH.refl s).since 0
  have CH0 : CHr Z own_EL s.vm s.heap s.vm h0 := by rw [hh]; exact CHr.refl hCH
  refine own_inc ?_
  refine own_ofc (fun tt_ kk_ => castTop (ef_rmD_2 m r) kk_) ?_
  show own_gc p e below s _ _ _ _ _ (s₁.setTop (mkF m 0 #[.val (.ref r)] []))
  refine own_ofc (fun tt_ => XS.aloadN X0.here hx rfl (hb hby d2_0) rfl rfl) ?_
  show own_gc p e below s _ _ _ _ _ (s₁.setTop (mkF m 1 #[.val (.ref r)] [(.ref r)]))
  have wS : ∀ a ∈ Bundle.stringAtoms, a.before a0 Z = true := fun d hd => hw d ((by decide +kernel : ∀ d ∈ Bundle.stringAtoms, d ∈ tables_1) d hd)
  have K0 : Keep h0 h0 [] := Keep.refl h0 []
  have f2 : Exa Z h0 r "com/example/assemble/assemble/AssemblyState$Stage" := Er.ext XO0.2
  obtain ⟨cq1, kq1, q1a, q1b, q1c⟩ := isOf hZ e0 f2
  obtain ⟨_, _, ⟨T1, L1, k1, n1⟩, -, X1, ⟨Lc1, hQ1, l1, y1, z1⟩, st1⟩ := X0.virtualBackUp hx (x := (⟨"com/example/assemble/assemble/AssemblyState$Stage", "ordinal", "()I"⟩ : MethodName)) (y := (⟨"java/lang/Enum", "ordinal", "()I"⟩ : MethodName)) (owner := "java/lang/Enum") hown (mvT hZ (hW 14 _ rfl)) (mvT hZ (hW 15 _ rfl)) (mvT hZ (hW 16 _ rfl)) (by decide) (mvT hZ (hW 18 _ rfl)) (mvT hZ (hW 17 _ rfl)) (backOf (W := 0) (rmE l Z a0 hw [] r (2 : Int32) h0 n0 XO0 Fo) hZ (hW 20 _ rfl) (hW 19 _ rfl) (by decide) (by decide)) q1a q1c (g := (mkF m 1 #[.val (.ref r)] [(.ref r)])) rfl (by rw [hml]; rfl) (Steps.refl _) (argsL := []) (rest := []) (lenOf pd_0 rfl) rfl (by show 2 * 0 + _ ≤ _; exact Nat.le_of_eq rfl) (hb hby d2_1) (fun _ _ => ⟨rfl, e0, (by decide : 0 + 0 ≤ _), (by decide : 0 + 0 ≤ _)⟩)
  dsimp only [Pt.U, Pt.locs, Pt.cells, Pt.slots] at X1 l1 y1 z1 st1 hQ1
  subst l1 y1 z1
  obtain ⟨rfl, Nq1, eh1⟩ := hQ1
  have N1 := Fr.app N0 Nq1
  refine own_ofc (fun tt_ kk_ => st1.trans kk_) ?_
  show own_gc p e below s _ _ _ _ _ (T1.setTop (mkF m 4 #[.val (.ref r)] [(.int (2 : Int32))]))
  refine own_ofc (fun tt_ => XS.tswIn (g := (mkF m 4 #[.val (.ref r)] [(.int (2 : Int32))])) X1.here hx rfl (pc0 := 4) (pc' := 60) (o := 56) (i := (2 : Int32)) (rest := []) rfl (hb hby d2_4) rfl (by decide +kernel) (by decide +kernel) (by decide) (by decide)) ?_
  show own_gc p e below s _ _ _ _ _ (T1.setTop (mkF m 60 #[.val (.ref r)] []))
  obtain ⟨b3, T3, h3, k3, t3, kb3, X3, e3, E3, hS3, hk3, hZ3, hown3, Ex3, Cx3, Vx3, Kx3, la3, lb3, CHs3, -, hne3, st3⟩ := ldcCH X1 hx hZ hown (hW 60 _ rfl) wS eh1 hS0 (by omega : 0 ≤ h0.size) hEL (by decide +kernel) CH0.1 (vs := [.int 104, .int 97, .int 115, .int 32, .int 97, .int 108, .int 114, .int 101, .int 97, .int 100, .int 121, .int 32, .int 98, .int 101, .int 101, .int 110, .int 32, .int 115, .int 116, .int 97, .int 114, .int 116, .int 101, .int 100]) (z := 24) ⟨by decide +kernel, by decide +kernel⟩ (by decide +kernel) (by decide +kernel) (g := (mkF m 60 #[.val (.ref r)] [])) rfl (hb hby d2_60) (n := 96) (by decide +kernel) (by decide) (by decide) (by decide)
  have CH3 := CH0.trans CHs3
  have Ss3 : own_str Z h3 b3 ([104, 97, 115, 32, 97, 108, 114, 101, 97, 100, 121, 32, 98, 101, 101, 110, 32, 115, 116, 97, 114, 116, 101, 100] : List Int32) := ⟨t3, kb3, _, _, Ex3, Vx3, Cx3, Kx3, Or.inl ⟨rfl, rfl, rfl, by decide⟩⟩
  refine own_ofc st3 ?_
  have sz3 : h0.size ≤ h3.size := E3.1
  have O3 : Old Z n0 h3 := XO0.ext E3
  have K3 : Keep h0 h3 [] := K0.ext E3
  have lla3 := own_lt la3
  have llb3 := own_lt lb3
  show own_gc p e below s _ _ _ _ _ (T3.setTop (mkF m 62 #[.val (.ref r)] [(.ref b3)]))
  refine own_ofc (fun tt_ => XS.goto X3.here hx rfl (pc0 := 62) (pc' := 72) rfl (hb hby d2_62) (by decide) (by decide)) ?_
  show own_gc p e below s _ _ _ _ _ (T3.setTop (mkF m 72 #[.val (.ref r)] [(.ref b3)]))
  refine own_retc X3 hx hlk hS3 (by rw [e3]; omega : k3 ≤ T3.heap.size) hZ3 hEL (by rw [e3]; exact CH3) Bd.returns rfl (Or.inr (Or.inr (Or.inr (Or.inr ⟨rfl, rfl, rfl⟩)))) (hb hby d2_72) (by decide) (by decide) ?_
  rw [e3]
  exact ⟨b3, rfl, N1, K3, Ss3⟩
theorem ef_rmD_3 (m : MethodId) (x0 : Nat) : entryFrame m #[(.ref x0)] 1 = mkF m 0 #[.val (.ref x0)] [] := by first | (simp [entryFrame, mkF, argsToLocals, Value.category]; done) | rfl
theorem d2_65 : decode prog_2_method_10_code 65 = .ok (.ldc 78, 2) := by decide +kernel
theorem d2_67 : decode prog_2_method_10_code 67 = .ok (.goto 5, 3) := by decide +kernel
set_option maxRecDepth 65536 in
set_option maxHeartbeats 40000000 in
theorem rmD_3 (l : Launch) (Z : State) (a0 : Array Value) (hw : ∀ d ∈ tables_1, d.before a0 Z = true) (ws : List Jvm.Cond) (r : Nat) (h0 : Heap) (n0 : Nat) (hEL : EW Z a0 own_EL) (XO0 : Old Z n0 h0) (Er : Exa Z Z.heap r "com/example/assemble/assemble/AssemblyState$Stage") (Fo : Fld Z Z.heap r "java/lang/Enum" "ordinal" "I" (.int (3 : Int32))) :
    MetFree l (⟨"com/example/assemble/assemble/AssemblyState", "describe", "(Lcom/example/assemble/assemble/AssemblyState$Stage;)Ljava/lang/String;"⟩ : MethodName) (head1 (Jvm.Cond.code (⟨"com/example/assemble/assemble/AssemblyState", "describe", "(Lcom/example/assemble/assemble/AssemblyState$Stage;)Ljava/lang/String;"⟩ : MethodName) prog_2_method_10_code 1 (some (.object "java/lang/String")) :: ws) ({ frames := 1, cells := 2, slots := 100, locals := 12 } : Room)) (fun zz_ U => zz_ = #[(.ref r)] ∧ Z.Warmed39 U.vm ∧ U.heap = h0 ∧ CHv Z own_EL U.vm h0) (fun _ _ _ _ _ => True) (fun _ U o U' => ∃ v L, o = .returned v ∧ Q_rmD Z r 3 h0 n0 v U'.heap L ∧ CHr Z own_EL U.vm U.heap U'.vm U'.heap ∧ ReturnedEndW U o U' L ({ frames := 1, cells := 2, slots := 100, locals := 12 } : Room).cells ({ frames := 1, cells := 2, slots := 100, locals := 12 } : Room).slots) := by
  refine MetFree.of_bodySF (plainFor_of_name pn_2) hisR ?_
  intro p e s m args below meth c s₁ Bd hml0 hP hK
  obtain ⟨rfl, hZ, hh, hCH⟩ := hP
  have hx := Bd.exec
  have hby := Bd.bytes
  have hlk := Bd.notSynchronized
  have hW : ∀ (i : Nat) (d : Jvm.Cond), tables_1[i]? = some d → d.before a0 Z = true := fun i d h => hw d (List.mem_of_getElem? h)
  have hml : c.maxLocals = 1 := hml0
  have hown : s.vm.findClass "com/example/assemble/assemble/AssemblyState" = some m.cls := findClass_of_methodNamed Bd.named
  have hnm := (name_of_methodNamed Bd.named Bd.method).1
  have X0 : Stand p l e ({ frames := 1, cells := 2, slots := 100, locals := 12 } : Room) (s.setVm s.vm) m #[(.ref r)] below meth c s₁ [] 0 0 := Stand.of_body Bd
  have e0 : s₁.heap = h0 := by rw [← hh, Bd.state]; rfl
  have N0 := Fr.nil n0
  have hS0 : s.Since s.vm 0 := (State.WarmedH.refl s).since 0
  have CH0 : CHr Z own_EL s.vm s.heap s.vm h0 := by rw [hh]; exact CHr.refl hCH
  refine own_inc ?_
  refine own_ofc (fun tt_ kk_ => castTop (ef_rmD_3 m r) kk_) ?_
  show own_gc p e below s _ _ _ _ _ (s₁.setTop (mkF m 0 #[.val (.ref r)] []))
  refine own_ofc (fun tt_ => XS.aloadN X0.here hx rfl (hb hby d2_0) rfl rfl) ?_
  show own_gc p e below s _ _ _ _ _ (s₁.setTop (mkF m 1 #[.val (.ref r)] [(.ref r)]))
  have wS : ∀ a ∈ Bundle.stringAtoms, a.before a0 Z = true := fun d hd => hw d ((by decide +kernel : ∀ d ∈ Bundle.stringAtoms, d ∈ tables_1) d hd)
  have K0 : Keep h0 h0 [] := Keep.refl h0 []
  have f2 : Exa Z h0 r "com/example/assemble/assemble/AssemblyState$Stage" := Er.ext XO0.2
  obtain ⟨cq1, kq1, q1a, q1b, q1c⟩ := isOf hZ e0 f2
  obtain ⟨_, _, ⟨T1, L1, k1, n1⟩, -, X1, ⟨Lc1, hQ1, l1, y1, z1⟩, st1⟩ := X0.virtualBackUp hx (x := (⟨"com/example/assemble/assemble/AssemblyState$Stage", "ordinal", "()I"⟩ : MethodName)) (y := (⟨"java/lang/Enum", "ordinal", "()I"⟩ : MethodName)) (owner := "java/lang/Enum") hown (mvT hZ (hW 14 _ rfl)) (mvT hZ (hW 15 _ rfl)) (mvT hZ (hW 16 _ rfl)) (by decide) (mvT hZ (hW 18 _ rfl)) (mvT hZ (hW 17 _ rfl)) (backOf (W := 0) (rmE l Z a0 hw [] r (3 : Int32) h0 n0 XO0 Fo) hZ (hW 20 _ rfl) (hW 19 _ rfl) (by decide) (by decide)) q1a q1c (g := (mkF m 1 #[.val (.ref r)] [(.ref r)])) rfl (by rw [hml]; rfl) (Steps.refl _) (argsL := []) (rest := []) (lenOf pd_0 rfl) rfl (by show 2 * 0 + _ ≤ _; exact Nat.le_of_eq rfl) (hb hby d2_1) (fun _ _ => ⟨rfl, e0, (by decide : 0 + 0 ≤ _), (by decide : 0 + 0 ≤ _)⟩)
  dsimp only [Pt.U, Pt.locs, Pt.cells, Pt.slots] at X1 l1 y1 z1 st1 hQ1
  subst l1 y1 z1
  obtain ⟨rfl, Nq1, eh1⟩ := hQ1
  have N1 := Fr.app N0 Nq1
  refine own_ofc (fun tt_ kk_ => st1.trans kk_) ?_
  show own_gc p e below s _ _ _ _ _ (T1.setTop (mkF m 4 #[.val (.ref r)] [(.int (3 : Int32))]))
  refine own_ofc (fun tt_ => XS.tswIn (g := (mkF m 4 #[.val (.ref r)] [(.int (3 : Int32))])) X1.here hx rfl (pc0 := 4) (pc' := 65) (o := 61) (i := (3 : Int32)) (rest := []) rfl (hb hby d2_4) rfl (by decide +kernel) (by decide +kernel) (by decide) (by decide)) ?_
  show own_gc p e below s _ _ _ _ _ (T1.setTop (mkF m 65 #[.val (.ref r)] []))
  obtain ⟨b3, T3, h3, k3, t3, kb3, X3, e3, E3, hS3, hk3, hZ3, hown3, Ex3, Cx3, Vx3, Kx3, la3, lb3, CHs3, -, hne3, st3⟩ := ldcCH X1 hx hZ hown (hW 31 _ rfl) wS eh1 hS0 (by omega : 0 ≤ h0.size) hEL (by decide +kernel) CH0.1 (vs := [.int 102, .int 97, .int 105, .int 108, .int 101, .int 100, .int 32, .int 116, .int 111, .int 32, .int 115, .int 116, .int 97, .int 114, .int 116]) (z := 15) ⟨by decide +kernel, by decide +kernel⟩ (by decide +kernel) (by decide +kernel) (g := (mkF m 65 #[.val (.ref r)] [])) rfl (hb hby d2_65) (n := 96) (by decide +kernel) (by decide) (by decide) (by decide)
  have CH3 := CH0.trans CHs3
  have Ss3 : own_str Z h3 b3 ([102, 97, 105, 108, 101, 100, 32, 116, 111, 32, 115, 116, 97, 114, 116] : List Int32) := ⟨t3, kb3, _, _, Ex3, Vx3, Cx3, Kx3, Or.inl ⟨rfl, rfl, rfl, by decide⟩⟩
  refine own_ofc st3 ?_
  have sz3 : h0.size ≤ h3.size := E3.1
  have O3 : Old Z n0 h3 := XO0.ext E3
  have K3 : Keep h0 h3 [] := K0.ext E3
  have lla3 := own_lt la3
  have llb3 := own_lt lb3
  show own_gc p e below s _ _ _ _ _ (T3.setTop (mkF m 67 #[.val (.ref r)] [(.ref b3)]))
  refine own_ofc (fun tt_ => XS.goto X3.here hx rfl (pc0 := 67) (pc' := 72) rfl (hb hby d2_67) (by decide) (by decide)) ?_
  show own_gc p e below s _ _ _ _ _ (T3.setTop (mkF m 72 #[.val (.ref r)] [(.ref b3)]))
  refine own_retc X3 hx hlk hS3 (by rw [e3]; omega : k3 ≤ T3.heap.size) hZ3 hEL (by rw [e3]; exact CH3) Bd.returns rfl (Or.inr (Or.inr (Or.inr (Or.inr ⟨rfl, rfl, rfl⟩)))) (hb hby d2_72) (by decide) (by decide) ?_
  rw [e3]
  exact ⟨b3, rfl, N1, K3, Ss3⟩
theorem ef_rmD_4 (m : MethodId) (x0 : Nat) : entryFrame m #[(.ref x0)] 1 = mkF m 0 #[.val (.ref x0)] [] := by first | (simp [entryFrame, mkF, argsToLocals, Value.category]; done) | rfl
theorem d2_70 : decode prog_2_method_10_code 70 = .ok (.ldc 80, 2) := by decide +kernel
set_option maxRecDepth 65536 in
set_option maxHeartbeats 40000000 in
theorem rmD_4 (l : Launch) (Z : State) (a0 : Array Value) (hw : ∀ d ∈ tables_1, d.before a0 Z = true) (ws : List Jvm.Cond) (r : Nat) (h0 : Heap) (n0 : Nat) (hEL : EW Z a0 own_EL) (XO0 : Old Z n0 h0) (Er : Exa Z Z.heap r "com/example/assemble/assemble/AssemblyState$Stage") (Fo : Fld Z Z.heap r "java/lang/Enum" "ordinal" "I" (.int (4 : Int32))) :
    MetFree l (⟨"com/example/assemble/assemble/AssemblyState", "describe", "(Lcom/example/assemble/assemble/AssemblyState$Stage;)Ljava/lang/String;"⟩ : MethodName) (head1 (Jvm.Cond.code (⟨"com/example/assemble/assemble/AssemblyState", "describe", "(Lcom/example/assemble/assemble/AssemblyState$Stage;)Ljava/lang/String;"⟩ : MethodName) prog_2_method_10_code 1 (some (.object "java/lang/String")) :: ws) ({ frames := 1, cells := 2, slots := 100, locals := 12 } : Room)) (fun zz_ U => zz_ = #[(.ref r)] ∧ Z.Warmed39 U.vm ∧ U.heap = h0 ∧ CHv Z own_EL U.vm h0) (fun _ _ _ _ _ => True) (fun _ U o U' => ∃ v L, o = .returned v ∧ Q_rmD Z r 4 h0 n0 v U'.heap L ∧ CHr Z own_EL U.vm U.heap U'.vm U'.heap ∧ ReturnedEndW U o U' L ({ frames := 1, cells := 2, slots := 100, locals := 12 } : Room).cells ({ frames := 1, cells := 2, slots := 100, locals := 12 } : Room).slots) := by
  refine MetFree.of_bodySF (plainFor_of_name pn_2) hisR ?_
  intro p e s m args below meth c s₁ Bd hml0 hP hK
  obtain ⟨rfl, hZ, hh, hCH⟩ := hP
  have hx := Bd.exec
  have hby := Bd.bytes
  have hlk := Bd.notSynchronized
  have hW : ∀ (i : Nat) (d : Jvm.Cond), tables_1[i]? = some d → d.before a0 Z = true := fun i d h => hw d (List.mem_of_getElem? h)
  have hml : c.maxLocals = 1 := hml0
  have hown : s.vm.findClass "com/example/assemble/assemble/AssemblyState" = some m.cls := findClass_of_methodNamed Bd.named
  have hnm := (name_of_methodNamed Bd.named Bd.method).1
  have X0 : Stand p l e ({ frames := 1, cells := 2, slots := 100, locals := 12 } : Room) (s.setVm s.vm) m #[(.ref r)] below meth c s₁ [] 0 0 := Stand.of_body Bd
  have e0 : s₁.heap = h0 := by rw [← hh, Bd.state]; rfl
  have N0 := Fr.nil n0
  have hS0 : s.Since s.vm 0 := (State.WarmedH.refl s).since 0
  have CH0 : CHr Z own_EL s.vm s.heap s.vm h0 := by rw [hh]; exact CHr.refl hCH
  refine own_inc ?_
  refine own_ofc (fun tt_ kk_ => castTop (ef_rmD_4 m r) kk_) ?_
  show own_gc p e below s _ _ _ _ _ (s₁.setTop (mkF m 0 #[.val (.ref r)] []))
  refine own_ofc (fun tt_ => XS.aloadN X0.here hx rfl (hb hby d2_0) rfl rfl) ?_
  show own_gc p e below s _ _ _ _ _ (s₁.setTop (mkF m 1 #[.val (.ref r)] [(.ref r)]))
  have wS : ∀ a ∈ Bundle.stringAtoms, a.before a0 Z = true := fun d hd => hw d ((by decide +kernel : ∀ d ∈ Bundle.stringAtoms, d ∈ tables_1) d hd)
  have K0 : Keep h0 h0 [] := Keep.refl h0 []
  have f2 : Exa Z h0 r "com/example/assemble/assemble/AssemblyState$Stage" := Er.ext XO0.2
  obtain ⟨cq1, kq1, q1a, q1b, q1c⟩ := isOf hZ e0 f2
  obtain ⟨_, _, ⟨T1, L1, k1, n1⟩, -, X1, ⟨Lc1, hQ1, l1, y1, z1⟩, st1⟩ := X0.virtualBackUp hx (x := (⟨"com/example/assemble/assemble/AssemblyState$Stage", "ordinal", "()I"⟩ : MethodName)) (y := (⟨"java/lang/Enum", "ordinal", "()I"⟩ : MethodName)) (owner := "java/lang/Enum") hown (mvT hZ (hW 14 _ rfl)) (mvT hZ (hW 15 _ rfl)) (mvT hZ (hW 16 _ rfl)) (by decide) (mvT hZ (hW 18 _ rfl)) (mvT hZ (hW 17 _ rfl)) (backOf (W := 0) (rmE l Z a0 hw [] r (4 : Int32) h0 n0 XO0 Fo) hZ (hW 20 _ rfl) (hW 19 _ rfl) (by decide) (by decide)) q1a q1c (g := (mkF m 1 #[.val (.ref r)] [(.ref r)])) rfl (by rw [hml]; rfl) (Steps.refl _) (argsL := []) (rest := []) (lenOf pd_0 rfl) rfl (by show 2 * 0 + _ ≤ _; exact Nat.le_of_eq rfl) (hb hby d2_1) (fun _ _ => ⟨rfl, e0, (by decide : 0 + 0 ≤ _), (by decide : 0 + 0 ≤ _)⟩)
  dsimp only [Pt.U, Pt.locs, Pt.cells, Pt.slots] at X1 l1 y1 z1 st1 hQ1
  subst l1 y1 z1
  obtain ⟨rfl, Nq1, eh1⟩ := hQ1
  have N1 := Fr.app N0 Nq1
  refine own_ofc (fun tt_ kk_ => st1.trans kk_) ?_
  show own_gc p e below s _ _ _ _ _ (T1.setTop (mkF m 4 #[.val (.ref r)] [(.int (4 : Int32))]))
  refine own_ofc (fun tt_ => XS.tswIn (g := (mkF m 4 #[.val (.ref r)] [(.int (4 : Int32))])) X1.here hx rfl (pc0 := 4) (pc' := 70) (o := 66) (i := (4 : Int32)) (rest := []) rfl (hb hby d2_4) rfl (by decide +kernel) (by decide +kernel) (by decide) (by decide)) ?_
  show own_gc p e below s _ _ _ _ _ (T1.setTop (mkF m 70 #[.val (.ref r)] []))
  obtain ⟨b3, T3, h3, k3, t3, kb3, X3, e3, E3, hS3, hk3, hZ3, hown3, Ex3, Cx3, Vx3, Kx3, la3, lb3, CHs3, -, hne3, st3⟩ := ldcCH X1 hx hZ hown (hW 53 _ rfl) wS eh1 hS0 (by omega : 0 ≤ h0.size) hEL (by decide +kernel) CH0.1 (vs := [.int 105, .int 115, .int 32, .int 99, .int 108, .int 111, .int 115, .int 101, .int 100]) (z := 9) ⟨by decide +kernel, by decide +kernel⟩ (by decide +kernel) (by decide +kernel) (g := (mkF m 70 #[.val (.ref r)] [])) rfl (hb hby d2_70) (n := 96) (by decide +kernel) (by decide) (by decide) (by decide)
  have CH3 := CH0.trans CHs3
  have Ss3 : own_str Z h3 b3 ([105, 115, 32, 99, 108, 111, 115, 101, 100] : List Int32) := ⟨t3, kb3, _, _, Ex3, Vx3, Cx3, Kx3, Or.inl ⟨rfl, rfl, rfl, by decide⟩⟩
  refine own_ofc st3 ?_
  have sz3 : h0.size ≤ h3.size := E3.1
  have O3 : Old Z n0 h3 := XO0.ext E3
  have K3 : Keep h0 h3 [] := K0.ext E3
  have lla3 := own_lt la3
  have llb3 := own_lt lb3
  show own_gc p e below s _ _ _ _ _ (T3.setTop (mkF m 72 #[.val (.ref r)] [(.ref b3)]))
  refine own_retc X3 hx hlk hS3 (by rw [e3]; omega : k3 ≤ T3.heap.size) hZ3 hEL (by rw [e3]; exact CH3) Bd.returns rfl (Or.inr (Or.inr (Or.inr (Or.inr ⟨rfl, rfl, rfl⟩)))) (hb hby d2_72) (by decide) (by decide) ?_
  rw [e3]
  exact ⟨b3, rfl, N1, K3, Ss3⟩
set_option maxHeartbeats 40000000 in
theorem rmD (l : Launch) (Z : State) (a0 : Array Value) (hw : ∀ d ∈ tables_1, d.before a0 Z = true) (ws : List Jvm.Cond) (r : Nat) (k : Nat) (h0 : Heap) (n0 : Nat) (hEL : EW Z a0 own_EL) (XO0 : Old Z n0 h0) (Er : Exa Z Z.heap r "com/example/assemble/assemble/AssemblyState$Stage") (Fo : Fld Z Z.heap r "java/lang/Enum" "ordinal" "I" (.int (Int32.ofNat k))) (hk : k < 5) :
    MetFree l (⟨"com/example/assemble/assemble/AssemblyState", "describe", "(Lcom/example/assemble/assemble/AssemblyState$Stage;)Ljava/lang/String;"⟩ : MethodName) (head1 (Jvm.Cond.code (⟨"com/example/assemble/assemble/AssemblyState", "describe", "(Lcom/example/assemble/assemble/AssemblyState$Stage;)Ljava/lang/String;"⟩ : MethodName) prog_2_method_10_code 1 (some (.object "java/lang/String")) :: ws) ({ frames := 1, cells := 2, slots := 100, locals := 12 } : Room)) (fun zz_ U => zz_ = #[(.ref r)] ∧ Z.Warmed39 U.vm ∧ U.heap = h0 ∧ CHv Z own_EL U.vm h0) (fun _ _ _ _ _ => True) (fun _ U o U' => ∃ v L, o = .returned v ∧ Q_rmD Z r k h0 n0 v U'.heap L ∧ CHr Z own_EL U.vm U.heap U'.vm U'.heap ∧ ReturnedEndW U o U' L ({ frames := 1, cells := 2, slots := 100, locals := 12 } : Room).cells ({ frames := 1, cells := 2, slots := 100, locals := 12 } : Room).slots) := by
  have hk5 : k = 0 ∨ k = 1 ∨ k = 2 ∨ k = 3 ∨ k = 4 := by omega
  rcases hk5 with rfl | rfl | rfl | rfl | rfl
  · have Fo2 : Fld Z Z.heap r "java/lang/Enum" "ordinal" "I" (.int (0 : Int32)) := Fo
    exact rmD_0 l Z a0 hw ws r h0 n0 hEL XO0 Er Fo2
  · have Fo2 : Fld Z Z.heap r "java/lang/Enum" "ordinal" "I" (.int (1 : Int32)) := Fo
    exact rmD_1 l Z a0 hw ws r h0 n0 hEL XO0 Er Fo2
  · have Fo2 : Fld Z Z.heap r "java/lang/Enum" "ordinal" "I" (.int (2 : Int32)) := Fo
    exact rmD_2 l Z a0 hw ws r h0 n0 hEL XO0 Er Fo2
  · have Fo2 : Fld Z Z.heap r "java/lang/Enum" "ordinal" "I" (.int (3 : Int32)) := Fo
    exact rmD_3 l Z a0 hw ws r h0 n0 hEL XO0 Er Fo2
  · have Fo2 : Fld Z Z.heap r "java/lang/Enum" "ordinal" "I" (.int (4 : Int32)) := Fo
    exact rmD_4 l Z a0 hw ws r h0 n0 hEL XO0 Er Fo2
theorem ef_rm0 (m : MethodId) (x0 : Int32) (x1 : Int32) : entryFrame m #[(.int x0), (.int x1)] maxLocals = mkF m 0 #[.val (.int x0), .val (.int x1), .unset, .unset, .unset, .unset, .unset, .unset, .unset] [] := by first | (simp [entryFrame, mkF, argsToLocals, Value.category, maxLocals]; done) | rfl
theorem pd_1 : parseMethodDescriptor "(I)Lcom/example/assemble/assemble/AssemblyState$Stage;" = some ⟨[.int], some (.object "com/example/assemble/assemble/AssemblyState$Stage")⟩ := by decide +kernel
theorem pd_2 : parseMethodDescriptor "(Lcom/example/assemble/assemble/AssemblyState$Stage;)Ljava/lang/String;" = some ⟨[(.object "com/example/assemble/assemble/AssemblyState$Stage")], some (.object "java/lang/String")⟩ := by decide +kernel
theorem pd_3 : parseMethodDescriptor "()Z" = some ⟨[], some .boolean⟩ := by decide +kernel
theorem pd_4 : parseMethodDescriptor "(Ljava/lang/Object;)Z" = some ⟨[(.object "java/lang/Object")], some .boolean⟩ := by decide +kernel
def Q_rm0 (Z : State) (p1 : Int32) (p2 : Int32) (w0 : Nat) (w1 : Nat) (w2 : Nat) (w3 : Nat) (w4 : Nat) (G1 : Int32) (h0 : Heap) (n0 : Nat) (v : Option Value) (h : Heap) (L : List Loc) : Prop := v = some (.int 1) ∧ Fr n0 L
set_option maxRecDepth 65536 in
set_option maxHeartbeats 40000000 in
theorem rm0 (l : Launch) (Z : State) (a0 : Array Value) (hw : ∀ d ∈ tables_1, d.before a0 Z = true) (ws : List Jvm.Cond) (p1 : Int32) (p2 : Int32) (w0 : Nat) (w1 : Nat) (w2 : Nat) (w3 : Nat) (w4 : Nat) (G1 : Int32) (h0 : Heap) (n0 : Nat) (hEL : EW Z a0 own_EL) (XO0 : Old Z n0 h0) (S_NEW : Sta Z Z.heap "com/example/assemble/assemble/AssemblyState$Stage" "NEW" "Lcom/example/assemble/assemble/AssemblyState$Stage;" (.ref w0)) (S_STARTING : Sta Z Z.heap "com/example/assemble/assemble/AssemblyState$Stage" "STARTING" "Lcom/example/assemble/assemble/AssemblyState$Stage;" (.ref w1)) (S_STARTED : Sta Z Z.heap "com/example/assemble/assemble/AssemblyState$Stage" "STARTED" "Lcom/example/assemble/assemble/AssemblyState$Stage;" (.ref w2)) (S_FAILED : Sta Z Z.heap "com/example/assemble/assemble/AssemblyState$Stage" "FAILED" "Lcom/example/assemble/assemble/AssemblyState$Stage;" (.ref w3)) (S_CLOSED : Sta Z Z.heap "com/example/assemble/assemble/AssemblyState$Stage" "CLOSED" "Lcom/example/assemble/assemble/AssemblyState$Stage;" (.ref w4)) (O2 : Sta Z Z.heap "java/lang/String" "COMPACT_STRINGS" "Z" (.int G1)) (P5 : ¬ (G1 = (0 : Int32))) (hE : ∀ k, k < 5 → Exa Z Z.heap (own_w w0 w1 w2 w3 w4 k) "com/example/assemble/assemble/AssemblyState$Stage") (hO : ∀ k, k < 5 → Fld Z Z.heap (own_w w0 w1 w2 w3 w4 k) "java/lang/Enum" "ordinal" "I" (.int (Int32.ofNat k))) (hW2 : ∀ i j, i < 5 → j < 5 → ¬ i = j → ¬ (own_w w0 w1 w2 w3 w4 i = own_w w0 w1 w2 w3 w4 j)) :
    MetFree l x (head1 (Jvm.Cond.code x code maxLocals ret :: ws) room_1) (fun zz_ U => zz_ = #[(.int p1), (.int p2)] ∧ Z.Warmed39 U.vm ∧ U.heap = h0 ∧ CHv Z own_EL U.vm h0) (fun _ _ _ _ _ => True) (fun _ U o U' => ∃ v L, o = .returned v ∧ Q_rm0 Z p1 p2 w0 w1 w2 w3 w4 G1 h0 n0 v U'.heap L ∧ CHr Z own_EL U.vm U.heap U'.vm U'.heap ∧ ReturnedEndW U o U' L room_1.cells room_1.slots) := by
  refine MetFree.of_bodySF (plainFor_of_name pn_1) hisR ?_
  intro p e s m args below meth c s₁ Bd hml0 hP hK
  obtain ⟨rfl, hZ, hh, hCH⟩ := hP
  have hx := Bd.exec
  have hby := Bd.bytes
  have hlk := Bd.notSynchronized
  have hW : ∀ (i : Nat) (d : Jvm.Cond), tables_1[i]? = some d → d.before a0 Z = true := fun i d h => hw d (List.mem_of_getElem? h)
  have hml : c.maxLocals = 9 := hml0
  have hown : s.vm.findClass "com/example/assemble/assemble/AssemblyStateDescribePinLaw" = some m.cls := findClass_of_methodNamed Bd.named
  have hnm := (name_of_methodNamed Bd.named Bd.method).1
  have X0 : Stand p l e room_1 (s.setVm s.vm) m #[(.int p1), (.int p2)] below meth c s₁ [] 0 0 := Stand.of_body Bd
  have e0 : s₁.heap = h0 := by rw [← hh, Bd.state]; rfl
  have N0 := Fr.nil n0
  have hS0 : s.Since s.vm 0 := (State.WarmedH.refl s).since 0
  have CH0 : CHr Z own_EL s.vm s.heap s.vm h0 := by rw [hh]; exact CHr.refl hCH
  refine own_inc ?_
  refine own_ofc (fun tt_ kk_ => castTop (ef_rm0 m p1 p2) kk_) ?_
  show own_gc p e below s _ _ _ _ _ (s₁.setTop (mkF m 0 #[.val (.int p1), .val (.int p2), .unset, .unset, .unset, .unset, .unset, .unset, .unset] []))
  refine own_ofc (fun tt_ => XS.iloadN X0.here hx rfl (hb hby at_0) rfl) ?_
  show own_gc p e below s _ _ _ _ _ (s₁.setTop (mkF m 1 #[.val (.int p1), .val (.int p2), .unset, .unset, .unset, .unset, .unset, .unset, .unset] [(.int p1)]))
  have wS : ∀ a ∈ Bundle.stringAtoms, a.before a0 Z = true := fun d hd => hw d ((by decide +kernel : ∀ d ∈ Bundle.stringAtoms, d ∈ tables_1) d hd)
  have heq : ∀ d ∈ StrChars.Road.wordsEq, d.before a0 Z = true := fun d hd => hw d ((by decide +kernel : ∀ d ∈ StrChars.Road.wordsEq, d ∈ tables_1) d hd)
  have hem : ∀ d ∈ StrChars.Road.wordsEmp, d.before a0 Z = true := fun d hd => hw d ((by decide +kernel : ∀ d ∈ StrChars.Road.wordsEmp, d ∈ tables_1) d hd)
  obtain ⟨_, _, ⟨T1, L1, k1, n1⟩, -, X1, ⟨Lc1, hQ1, l1, y1, z1⟩, st1⟩ := Jvm.LawKit.callS X0 hx (y := (⟨"com/example/assemble/assemble/AssemblyStateDescribePinLaw", "stageOf", "(I)Lcom/example/assemble/assemble/AssemblyState$Stage;"⟩ : MethodName)) hown (mvT hZ (hW 0 _ rfl)) (mvT hZ (hW 1 _ rfl)) (mvT hZ (hW 2 _ rfl)) (mvT hZ (hW 3 _ rfl)) (by decide) (backOf (W := 0) (rmS l Z a0 hw [] p1 w0 w1 w2 w3 w4 h0 n0 S_NEW S_STARTING S_STARTED S_FAILED S_CLOSED XO0) hZ (hW 3 _ rfl) (hW 2 _ rfl) (by decide) (by decide)) (g := (mkF m 1 #[.val (.int p1), .val (.int p2), .unset, .unset, .unset, .unset, .unset, .unset, .unset] [(.int p1)])) rfl (by rw [hml]; rfl) (argsL := [(.int p1)]) (rest := []) (lenOf pd_1 rfl) rfl (by show 2 * 0 + _ ≤ _; exact Nat.le_of_eq rfl) (hb hby at_1) (fun _ _ => ⟨rfl, e0, (by decide : 0 + 0 ≤ _), (by decide : 0 + 0 ≤ _)⟩)
  dsimp only [Pt.U, Pt.locs, Pt.cells, Pt.slots] at X1 l1 y1 z1 st1 hQ1
  subst l1 y1 z1
  obtain ⟨k1x, hk1, rfl, Nq1, eh1⟩ := hQ1
  have N1 := Fr.app N0 Nq1
  refine own_ofc st1 ?_
  show own_gc p e below s _ _ _ _ _ (T1.setTop (mkF m 4 #[.val (.int p1), .val (.int p2), .unset, .unset, .unset, .unset, .unset, .unset, .unset] [(.ref (own_w w0 w1 w2 w3 w4 k1x))]))
  refine own_ofc (fun tt_ => XS.astoreN X1.here hx rfl (hb hby at_4) rfl rfl (l' := #[.val (.int p1), .val (.int p2), .val (.ref (own_w w0 w1 w2 w3 w4 k1x)), .unset, .unset, .unset, .unset, .unset, .unset]) rfl) ?_
  show own_gc p e below s _ _ _ _ _ (T1.setTop (mkF m 5 #[.val (.int p1), .val (.int p2), .val (.ref (own_w w0 w1 w2 w3 w4 k1x)), .unset, .unset, .unset, .unset, .unset, .unset] []))
  refine own_ofc (fun tt_ => XS.iloadN X1.here hx rfl (hb hby at_5) rfl) ?_
  show own_gc p e below s _ _ _ _ _ (T1.setTop (mkF m 6 #[.val (.int p1), .val (.int p2), .val (.ref (own_w w0 w1 w2 w3 w4 k1x)), .unset, .unset, .unset, .unset, .unset, .unset] [(.int p2)]))
  obtain ⟨_, _, ⟨T2, L2, k2, n2⟩, -, X2, ⟨Lc2, hQ2, l2, y2, z2⟩, st2⟩ := Jvm.LawKit.callS X1 hx (y := (⟨"com/example/assemble/assemble/AssemblyStateDescribePinLaw", "stageOf", "(I)Lcom/example/assemble/assemble/AssemblyState$Stage;"⟩ : MethodName)) hown (mvT hZ (hW 0 _ rfl)) (mvT hZ (hW 1 _ rfl)) (mvT hZ (hW 2 _ rfl)) (mvT hZ (hW 3 _ rfl)) (by decide) (backOf (W := 0) (rmS l Z a0 hw [] p2 w0 w1 w2 w3 w4 h0 n0 S_NEW S_STARTING S_STARTED S_FAILED S_CLOSED XO0) hZ (hW 3 _ rfl) (hW 2 _ rfl) (by decide) (by decide)) (g := (mkF m 6 #[.val (.int p1), .val (.int p2), .val (.ref (own_w w0 w1 w2 w3 w4 k1x)), .unset, .unset, .unset, .unset, .unset, .unset] [(.int p2)])) rfl (by rw [hml]; rfl) (argsL := [(.int p2)]) (rest := []) (lenOf pd_1 rfl) rfl (by show 2 * 0 + _ ≤ _; exact Nat.le_of_eq rfl) (hb hby at_6) (fun _ _ => ⟨rfl, eh1, (by decide : 0 + 0 ≤ _), (by decide : 0 + 0 ≤ _)⟩)
  dsimp only [Pt.U, Pt.locs, Pt.cells, Pt.slots] at X2 l2 y2 z2 st2 hQ2
  subst l2 y2 z2
  obtain ⟨k2x, hk2, rfl, Nq2, eh2⟩ := hQ2
  have N2 := Fr.app N1 Nq2
  refine own_ofc st2 ?_
  show own_gc p e below s _ _ _ _ _ (T2.setTop (mkF m 9 #[.val (.int p1), .val (.int p2), .val (.ref (own_w w0 w1 w2 w3 w4 k1x)), .unset, .unset, .unset, .unset, .unset, .unset] [(.ref (own_w w0 w1 w2 w3 w4 k2x))]))
  refine own_ofc (fun tt_ => XS.astoreN X2.here hx rfl (hb hby at_9) rfl rfl (l' := #[.val (.int p1), .val (.int p2), .val (.ref (own_w w0 w1 w2 w3 w4 k1x)), .val (.ref (own_w w0 w1 w2 w3 w4 k2x)), .unset, .unset, .unset, .unset, .unset]) rfl) ?_
  show own_gc p e below s _ _ _ _ _ (T2.setTop (mkF m 10 #[.val (.int p1), .val (.int p2), .val (.ref (own_w w0 w1 w2 w3 w4 k1x)), .val (.ref (own_w w0 w1 w2 w3 w4 k2x)), .unset, .unset, .unset, .unset, .unset] []))
  refine own_ofc (fun tt_ => XS.aloadN X2.here hx rfl (hb hby at_10) rfl rfl) ?_
  show own_gc p e below s _ _ _ _ _ (T2.setTop (mkF m 11 #[.val (.int p1), .val (.int p2), .val (.ref (own_w w0 w1 w2 w3 w4 k1x)), .val (.ref (own_w w0 w1 w2 w3 w4 k2x)), .unset, .unset, .unset, .unset, .unset] [(.ref (own_w w0 w1 w2 w3 w4 k1x))]))
  obtain ⟨_, _, ⟨T3, L3, k3, n3⟩, -, Xr3, hSr3, hgr3, ⟨Lc3, hQ3, l3, y3, z3, CHs3⟩, st3⟩ := callSS X2 hx (y := (⟨"com/example/assemble/assemble/AssemblyState", "describe", "(Lcom/example/assemble/assemble/AssemblyState$Stage;)Ljava/lang/String;"⟩ : MethodName)) hown (mvT hZ (hW 10 _ rfl)) (mvT hZ (hW 11 _ rfl)) (mvT hZ (hW 12 _ rfl)) (mvT hZ (hW 13 _ rfl)) (by decide) (backOfSH (W := 0) (rmD l Z a0 hw [] (own_w w0 w1 w2 w3 w4 k1x) k1x h0 n0 hEL XO0 (hE k1x hk1) (hO k1x hk1) hk1) hZ (hW 13 _ rfl) (hW 12 _ rfl) (by decide) (by decide) hEL CH0.1) (g := (mkF m 11 #[.val (.int p1), .val (.int p2), .val (.ref (own_w w0 w1 w2 w3 w4 k1x)), .val (.ref (own_w w0 w1 w2 w3 w4 k2x)), .unset, .unset, .unset, .unset, .unset] [(.ref (own_w w0 w1 w2 w3 w4 k1x))])) rfl (by rw [hml]; rfl) (argsL := [(.ref (own_w w0 w1 w2 w3 w4 k1x))]) (rest := []) (lenOf pd_2 rfl) rfl (by show 2 * 0 + _ ≤ _; exact Nat.le_of_eq rfl) (hb hby at_11) (fun _ _ => ⟨rfl, eh2, (by decide : 0 + 2 ≤ _), (by decide : 0 + 100 ≤ _)⟩)
  dsimp only [Pt.U, Pt.locs, Pt.cells, Pt.slots] at Xr3 l3 y3 z3 st3 hQ3 hSr3 hgr3 CHs3
  obtain ⟨X3, hS3, hZ3, hown3⟩ := rebS hS0 (by rw [eh2]; omega : 0 ≤ T2.heap.size) Xr3 hSr3 hgr3 hZ hown
  subst l3 y3 z3
  obtain ⟨a3, rfl, Nq3, Kp3, Ss3⟩ := hQ3
  have N3 := Fr.app N2 Nq3
  refine own_ofc (fun tt_ kk_ => st3.trans kk_) ?_
  have CH3 := CH0.trans CHs3
  have sz3 : h0.size ≤ T3.heap.size := Kp3.1
  have O3 : Old Z n0 T3.heap := XO0.keep Kp3 all0
  show own_gc p e below s _ _ _ _ _ (T3.setTop (mkF m 14 #[.val (.int p1), .val (.int p2), .val (.ref (own_w w0 w1 w2 w3 w4 k1x)), .val (.ref (own_w w0 w1 w2 w3 w4 k2x)), .unset, .unset, .unset, .unset, .unset] [(.ref a3)]))
  refine own_ofc (fun tt_ => XS.astore X3.here hx rfl (hb hby at_14) rfl rfl (l' := #[.val (.int p1), .val (.int p2), .val (.ref (own_w w0 w1 w2 w3 w4 k1x)), .val (.ref (own_w w0 w1 w2 w3 w4 k2x)), .val (.ref a3), .unset, .unset, .unset, .unset]) rfl) ?_
  show own_gc p e below s _ _ _ _ _ (T3.setTop (mkF m 16 #[.val (.int p1), .val (.int p2), .val (.ref (own_w w0 w1 w2 w3 w4 k1x)), .val (.ref (own_w w0 w1 w2 w3 w4 k2x)), .val (.ref a3), .unset, .unset, .unset, .unset] []))
  refine own_ofc (fun tt_ => XS.aloadN X3.here hx rfl (hb hby at_16) rfl rfl) ?_
  show own_gc p e below s _ _ _ _ _ (T3.setTop (mkF m 17 #[.val (.int p1), .val (.int p2), .val (.ref (own_w w0 w1 w2 w3 w4 k1x)), .val (.ref (own_w w0 w1 w2 w3 w4 k2x)), .val (.ref a3), .unset, .unset, .unset, .unset] [(.ref (own_w w0 w1 w2 w3 w4 k2x))]))
  obtain ⟨_, _, ⟨T4, L4, k4, n4⟩, -, Xr4, hSr4, hgr4, ⟨Lc4, hQ4, l4, y4, z4, CHs4⟩, st4⟩ := callSS X3 hx (y := (⟨"com/example/assemble/assemble/AssemblyState", "describe", "(Lcom/example/assemble/assemble/AssemblyState$Stage;)Ljava/lang/String;"⟩ : MethodName)) hown3 (mvT hZ3 (hW 10 _ rfl)) (mvT hZ3 (hW 11 _ rfl)) (mvT hZ3 (hW 12 _ rfl)) (mvT hZ3 (hW 13 _ rfl)) (by decide) (backOfSH (W := 0) (rmD l Z a0 hw [] (own_w w0 w1 w2 w3 w4 k2x) k2x T3.heap n0 hEL O3 (hE k2x hk2) (hO k2x hk2) hk2) hZ3 (hW 13 _ rfl) (hW 12 _ rfl) (by decide) (by decide) hEL CH3.1) (g := (mkF m 17 #[.val (.int p1), .val (.int p2), .val (.ref (own_w w0 w1 w2 w3 w4 k1x)), .val (.ref (own_w w0 w1 w2 w3 w4 k2x)), .val (.ref a3), .unset, .unset, .unset, .unset] [(.ref (own_w w0 w1 w2 w3 w4 k2x))])) rfl (by rw [hml]; rfl) (argsL := [(.ref (own_w w0 w1 w2 w3 w4 k2x))]) (rest := []) (lenOf pd_2 rfl) rfl (by show 2 * 0 + _ ≤ _; exact Nat.le_of_eq rfl) (hb hby at_17) (fun _ _ => ⟨rfl, rfl, (by decide : 2 + 2 ≤ _), (by decide : 100 + 100 ≤ _)⟩)
  dsimp only [Pt.U, Pt.locs, Pt.cells, Pt.slots] at Xr4 l4 y4 z4 st4 hQ4 hSr4 hgr4 CHs4
  obtain ⟨X4, hS4, hZ4, hown4⟩ := rebS hS3 (by omega : T3.heap.size ≤ T3.heap.size) Xr4 hSr4 hgr4 hZ3 hown3
  subst l4 y4 z4
  obtain ⟨a4, rfl, Nq4, Kp4, Ss4⟩ := hQ4
  have N4 := Fr.app N3 Nq4
  refine own_ofc (fun tt_ kk_ => st4.trans kk_) ?_
  have CH4 := CH3.trans CHs4
  have sz4 : T3.heap.size ≤ T4.heap.size := Kp4.1
  have O4 : Old Z n0 T4.heap := O3.keep Kp4 all0
  show own_gc p e below s _ _ _ _ _ (T4.setTop (mkF m 20 #[.val (.int p1), .val (.int p2), .val (.ref (own_w w0 w1 w2 w3 w4 k1x)), .val (.ref (own_w w0 w1 w2 w3 w4 k2x)), .val (.ref a3), .unset, .unset, .unset, .unset] [(.ref a4)]))
  refine own_ofc (fun tt_ => XS.astore X4.here hx rfl (hb hby at_20) rfl rfl (l' := #[.val (.int p1), .val (.int p2), .val (.ref (own_w w0 w1 w2 w3 w4 k1x)), .val (.ref (own_w w0 w1 w2 w3 w4 k2x)), .val (.ref a3), .val (.ref a4), .unset, .unset, .unset]) rfl) ?_
  show own_gc p e below s _ _ _ _ _ (T4.setTop (mkF m 22 #[.val (.int p1), .val (.int p2), .val (.ref (own_w w0 w1 w2 w3 w4 k1x)), .val (.ref (own_w w0 w1 w2 w3 w4 k2x)), .val (.ref a3), .val (.ref a4), .unset, .unset, .unset] []))
  refine own_ofc (fun tt_ => XS.aload X4.here hx rfl (hb hby at_22) rfl rfl) ?_
  show own_gc p e below s _ _ _ _ _ (T4.setTop (mkF m 24 #[.val (.int p1), .val (.int p2), .val (.ref (own_w w0 w1 w2 w3 w4 k1x)), .val (.ref (own_w w0 w1 w2 w3 w4 k2x)), .val (.ref a3), .val (.ref a4), .unset, .unset, .unset] [(.ref a3)]))
  refine own_ofc (fun tt_ => XS.ifnullNo X4.here hx rfl (hb hby at_24) rfl) ?_
  show own_gc p e below s _ _ _ _ _ (T4.setTop (mkF m 27 #[.val (.int p1), .val (.int p2), .val (.ref (own_w w0 w1 w2 w3 w4 k1x)), .val (.ref (own_w w0 w1 w2 w3 w4 k2x)), .val (.ref a3), .val (.ref a4), .unset, .unset, .unset] []))
  refine own_ofc (fun tt_ => XS.aload X4.here hx rfl (hb hby at_27) rfl rfl) ?_
  show own_gc p e below s _ _ _ _ _ (T4.setTop (mkF m 29 #[.val (.int p1), .val (.int p2), .val (.ref (own_w w0 w1 w2 w3 w4 k1x)), .val (.ref (own_w w0 w1 w2 w3 w4 k2x)), .val (.ref a3), .val (.ref a4), .unset, .unset, .unset] [(.ref a4)]))
  refine own_ofc (fun tt_ => XS.ifnonnullYes X4.here hx rfl (pc0 := 29) (pc' := 34) rfl (hb hby at_29) rfl (by decide) (by decide)) ?_
  show own_gc p e below s _ _ _ _ _ (T4.setTop (mkF m 34 #[.val (.int p1), .val (.int p2), .val (.ref (own_w w0 w1 w2 w3 w4 k1x)), .val (.ref (own_w w0 w1 w2 w3 w4 k2x)), .val (.ref a3), .val (.ref a4), .unset, .unset, .unset] []))
  refine own_ofc (fun tt_ => XS.aload X4.here hx rfl (hb hby at_34) rfl rfl) ?_
  show own_gc p e below s _ _ _ _ _ (T4.setTop (mkF m 36 #[.val (.int p1), .val (.int p2), .val (.ref (own_w w0 w1 w2 w3 w4 k1x)), .val (.ref (own_w w0 w1 w2 w3 w4 k2x)), .val (.ref a3), .val (.ref a4), .unset, .unset, .unset] [(.ref a3)]))
  have f6 : own_str Z T4.heap a3 (own_txt k1x) := (Ss3.keep Kp4 nin0)
  obtain ⟨t5, kb5, N5, vs5, Ea5, Va5, Ca5, Ka5, cd5⟩ := id f6
  obtain ⟨cq7, kq7, q7a, q7b, q7c⟩ := isOf hZ4 rfl Ea5
  obtain ⟨_, _, ⟨T7, L7, k7, n7⟩, -, X7, ⟨Lc7, hQ7, l7, y7, z7⟩, st7⟩ := X4.virtualBack hx (y := (⟨"java/lang/String", "isEmpty", "()Z"⟩ : MethodName)) (z := (⟨"java/lang/String", "isEmpty", "()Z"⟩ : MethodName)) hown4 (mvT hZ4 (hW 32 _ rfl)) (mvT hZ4 (hW 33 _ rfl)) (notFace_of_selects (args := #[]) (mvT hZ4 (hW 35 _ rfl))) (mvT hZ4 (hW 35 _ rfl)) (mvT hZ4 (hW 34 _ rfl)) (by decide) (StrChars.Road.empW (W := 0) hZ4 hem (kI := 4) (hW 25 _ rfl) Ea5 Va5 Ca5 Ka5 cd5 (own_txt_ok ⟨k1x, hk1⟩).1 (own_txt_ok ⟨k1x, hk1⟩).2.1 (by decide) (by decide)) q7a q7c (g := (mkF m 36 #[.val (.int p1), .val (.int p2), .val (.ref (own_w w0 w1 w2 w3 w4 k1x)), .val (.ref (own_w w0 w1 w2 w3 w4 k2x)), .val (.ref a3), .val (.ref a4), .unset, .unset, .unset] [(.ref a3)])) rfl (by rw [hml]; rfl) (Steps.refl _) (argsL := []) (rest := []) (lenOf pd_3 rfl) rfl (by show 2 * 0 + _ ≤ _; exact Nat.le_of_eq rfl) (hb hby at_36) (fun _ _ => ⟨rfl, rfl, (by decide : 4 + 0 ≤ _), (by decide : 200 + 0 ≤ _)⟩)
  dsimp only [Pt.U, Pt.locs, Pt.cells, Pt.slots] at X7 l7 y7 z7 st7 hQ7
  subst l7 y7 z7
  obtain ⟨hc7, rfl, eh7⟩ := hQ7
  have hv7 : _ = some (Value.int 0) := hc7.trans (by rw [if_neg (fun q => (own_txt_ok ⟨k1x, hk1⟩).2.2 (List.eq_nil_of_length_eq_zero q))])
  subst hv7
  have Nq7 : Fr n0 ([] : List Loc) := Fr.nil n0
  have N7 := Fr.app N4 Nq7
  refine own_ofc (fun tt_ kk_ => st7.trans kk_) ?_
  show own_gc p e below s _ _ _ _ _ (T7.setTop (mkF m 39 #[.val (.int p1), .val (.int p2), .val (.ref (own_w w0 w1 w2 w3 w4 k1x)), .val (.ref (own_w w0 w1 w2 w3 w4 k2x)), .val (.ref a3), .val (.ref a4), .unset, .unset, .unset] [(.int (0 : Int32))]))
  have hb39_8 : (0 : Int32) = (0 : Int32) := by decide
  refine own_ofc (fun tt_ => XS.ifNo X7.here hx rfl (hb hby at_39) rfl ((if0 _ _).trans (teq hb39_8).2)) ?_
  show own_gc p e below s _ _ _ _ _ (T7.setTop (mkF m 42 #[.val (.int p1), .val (.int p2), .val (.ref (own_w w0 w1 w2 w3 w4 k1x)), .val (.ref (own_w w0 w1 w2 w3 w4 k2x)), .val (.ref a3), .val (.ref a4), .unset, .unset, .unset] []))
  refine own_ofc (fun tt_ => XS.aload X7.here hx rfl (hb hby at_42) rfl rfl) ?_
  show own_gc p e below s _ _ _ _ _ (T7.setTop (mkF m 44 #[.val (.int p1), .val (.int p2), .val (.ref (own_w w0 w1 w2 w3 w4 k1x)), .val (.ref (own_w w0 w1 w2 w3 w4 k2x)), .val (.ref a3), .val (.ref a4), .unset, .unset, .unset] [(.ref a4)]))
  obtain ⟨t9, kb9, N9, vs9, Ea9, Va9, Ca9, Ka9, cd9⟩ := id Ss4
  obtain ⟨cq10, kq10, q10a, q10b, q10c⟩ := isOf hZ4 eh7 Ea9
  obtain ⟨_, _, ⟨T10, L10, k10, n10⟩, -, X10, ⟨Lc10, hQ10, l10, y10, z10⟩, st10⟩ := X7.virtualBack hx (y := (⟨"java/lang/String", "isEmpty", "()Z"⟩ : MethodName)) (z := (⟨"java/lang/String", "isEmpty", "()Z"⟩ : MethodName)) hown4 (mvT hZ4 (hW 32 _ rfl)) (mvT hZ4 (hW 33 _ rfl)) (notFace_of_selects (args := #[]) (mvT hZ4 (hW 35 _ rfl))) (mvT hZ4 (hW 35 _ rfl)) (mvT hZ4 (hW 34 _ rfl)) (by decide) (StrChars.Road.empW (W := 0) hZ4 hem (kI := 4) (hW 25 _ rfl) Ea9 Va9 Ca9 Ka9 cd9 (own_txt_ok ⟨k2x, hk2⟩).1 (own_txt_ok ⟨k2x, hk2⟩).2.1 (by decide) (by decide)) q10a q10c (g := (mkF m 44 #[.val (.int p1), .val (.int p2), .val (.ref (own_w w0 w1 w2 w3 w4 k1x)), .val (.ref (own_w w0 w1 w2 w3 w4 k2x)), .val (.ref a3), .val (.ref a4), .unset, .unset, .unset] [(.ref a4)])) rfl (by rw [hml]; rfl) (Steps.refl _) (argsL := []) (rest := []) (lenOf pd_3 rfl) rfl (by show 2 * 0 + _ ≤ _; exact Nat.le_of_eq rfl) (hb hby at_44) (fun _ _ => ⟨rfl, eh7, (by decide : 4 + 0 ≤ _), (by decide : 200 + 0 ≤ _)⟩)
  dsimp only [Pt.U, Pt.locs, Pt.cells, Pt.slots] at X10 l10 y10 z10 st10 hQ10
  subst l10 y10 z10
  obtain ⟨hc10, rfl, eh10⟩ := hQ10
  have hv10 : _ = some (Value.int 0) := hc10.trans (by rw [if_neg (fun q => (own_txt_ok ⟨k2x, hk2⟩).2.2 (List.eq_nil_of_length_eq_zero q))])
  subst hv10
  have Nq10 : Fr n0 ([] : List Loc) := Fr.nil n0
  have N10 := Fr.app N7 Nq10
  refine own_ofc (fun tt_ kk_ => st10.trans kk_) ?_
  show own_gc p e below s _ _ _ _ _ (T10.setTop (mkF m 47 #[.val (.int p1), .val (.int p2), .val (.ref (own_w w0 w1 w2 w3 w4 k1x)), .val (.ref (own_w w0 w1 w2 w3 w4 k2x)), .val (.ref a3), .val (.ref a4), .unset, .unset, .unset] [(.int (0 : Int32))]))
  have hb47_11 : (0 : Int32) = (0 : Int32) := by decide
  refine own_ofc (fun tt_ => XS.ifYes X10.here hx rfl (pc0 := 47) (pc' := 52) rfl (hb hby at_47) rfl ((if0 _ _).trans (teq hb47_11).1) (by decide) (by decide)) ?_
  show own_gc p e below s _ _ _ _ _ (T10.setTop (mkF m 52 #[.val (.int p1), .val (.int p2), .val (.ref (own_w w0 w1 w2 w3 w4 k1x)), .val (.ref (own_w w0 w1 w2 w3 w4 k2x)), .val (.ref a3), .val (.ref a4), .unset, .unset, .unset] []))
  by_cases hsame : k1x = k2x
  · show own_gc p e below s _ _ _ _ _ (T10.setTop (mkF m 52 #[.val (.int p1), .val (.int p2), .val (.ref (own_w w0 w1 w2 w3 w4 k1x)), .val (.ref (own_w w0 w1 w2 w3 w4 k2x)), .val (.ref a3), .val (.ref a4), .unset, .unset, .unset] []))
    refine own_ofc (fun tt_ => XS.aload X10.here hx rfl (hb hby at_52) rfl rfl) ?_
    show own_gc p e below s _ _ _ _ _ (T10.setTop (mkF m 54 #[.val (.int p1), .val (.int p2), .val (.ref (own_w w0 w1 w2 w3 w4 k1x)), .val (.ref (own_w w0 w1 w2 w3 w4 k2x)), .val (.ref a3), .val (.ref a4), .unset, .unset, .unset] [(.ref a3)]))
    refine own_ofc (fun tt_ => XS.aload X10.here hx rfl (hb hby at_54) rfl rfl) ?_
    show own_gc p e below s _ _ _ _ _ (T10.setTop (mkF m 56 #[.val (.int p1), .val (.int p2), .val (.ref (own_w w0 w1 w2 w3 w4 k1x)), .val (.ref (own_w w0 w1 w2 w3 w4 k2x)), .val (.ref a3), .val (.ref a4), .unset, .unset, .unset] [(.ref a4), (.ref a3)]))
    obtain ⟨t12, kb12, N12, vs12, Ea12, Va12, Ca12, Ka12, cd12⟩ := id f6
    obtain ⟨t13, kb13, N13, vs13, Ea13, Va13, Ca13, Ka13, cd13⟩ := id Ss4
    obtain ⟨cq14, kq14, q14a, q14b, q14c⟩ := isOf hZ4 eh10 Ea12
    obtain ⟨_, _, ⟨T14, L14, k14, n14⟩, -, X14, ⟨Lc14, hQ14, l14, y14, z14⟩, st14⟩ := X10.virtualBack hx (y := (⟨"java/lang/String", "equals", "(Ljava/lang/Object;)Z"⟩ : MethodName)) (z := (⟨"java/lang/String", "equals", "(Ljava/lang/Object;)Z"⟩ : MethodName)) hown4 (mvT hZ4 (hW 38 _ rfl)) (mvT hZ4 (hW 39 _ rfl)) (notFace_of_selects (args := #[]) (mvT hZ4 (hW 41 _ rfl))) (mvT hZ4 (hW 41 _ rfl)) (mvT hZ4 (hW 40 _ rfl)) (by decide) (StrChars.Road.eqW (W := 0) hZ4 heq (kI := 4) (hW 25 _ rfl) Ea12 Va12 Ca12 Ka12 cd12 (own_txt_ok ⟨k1x, hk1⟩).1 (own_txt_ok ⟨k1x, hk1⟩).2.1 Ea13 Va13 Ca13 Ka13 cd13 (own_txt_ok ⟨k2x, hk2⟩).1 (own_txt_ok ⟨k2x, hk2⟩).2.1 (O2.ext O4.2) P5 (by decide) (by decide)) q14a q14c (g := (mkF m 56 #[.val (.int p1), .val (.int p2), .val (.ref (own_w w0 w1 w2 w3 w4 k1x)), .val (.ref (own_w w0 w1 w2 w3 w4 k2x)), .val (.ref a3), .val (.ref a4), .unset, .unset, .unset] [(.ref a4), (.ref a3)])) rfl (by rw [hml]; rfl) (Steps.refl _) (argsL := [(.ref a4)]) (rest := []) (lenOf pd_4 rfl) rfl (by show 2 * 0 + _ ≤ _; exact Nat.le_of_eq rfl) (hb hby at_56) (fun _ _ => ⟨rfl, eh10, (by decide : 4 + 0 ≤ _), (by decide : 200 + 0 ≤ _)⟩)
    dsimp only [Pt.U, Pt.locs, Pt.cells, Pt.slots] at X14 l14 y14 z14 st14 hQ14
    subst l14 y14 z14
    obtain ⟨hc14, rfl, eh14⟩ := hQ14
    have hv14 : _ = some (Value.int 1) := hc14.elim (fun q => q.1) (fun q => absurd (congrArg own_txt hsame) q.2)
    subst hv14
    have Nq14 : Fr n0 ([] : List Loc) := Fr.nil n0
    have N14 := Fr.app N10 Nq14
    refine own_ofc (fun tt_ kk_ => st14.trans kk_) ?_
    show own_gc p e below s _ _ _ _ _ (T14.setTop (mkF m 59 #[.val (.int p1), .val (.int p2), .val (.ref (own_w w0 w1 w2 w3 w4 k1x)), .val (.ref (own_w w0 w1 w2 w3 w4 k2x)), .val (.ref a3), .val (.ref a4), .unset, .unset, .unset] [(.int (1 : Int32))]))
    refine own_ofc (fun tt_ => XS.istore X14.here hx rfl (hb hby at_59) rfl (l' := #[.val (.int p1), .val (.int p2), .val (.ref (own_w w0 w1 w2 w3 w4 k1x)), .val (.ref (own_w w0 w1 w2 w3 w4 k2x)), .val (.ref a3), .val (.ref a4), .val (.int (1 : Int32)), .unset, .unset]) rfl) ?_
    show own_gc p e below s _ _ _ _ _ (T14.setTop (mkF m 61 #[.val (.int p1), .val (.int p2), .val (.ref (own_w w0 w1 w2 w3 w4 k1x)), .val (.ref (own_w w0 w1 w2 w3 w4 k2x)), .val (.ref a3), .val (.ref a4), .val (.int (1 : Int32)), .unset, .unset] []))
    refine own_ofc (fun tt_ => XS.aloadN X14.here hx rfl (hb hby at_61) rfl rfl) ?_
    show own_gc p e below s _ _ _ _ _ (T14.setTop (mkF m 62 #[.val (.int p1), .val (.int p2), .val (.ref (own_w w0 w1 w2 w3 w4 k1x)), .val (.ref (own_w w0 w1 w2 w3 w4 k2x)), .val (.ref a3), .val (.ref a4), .val (.int (1 : Int32)), .unset, .unset] [(.ref (own_w w0 w1 w2 w3 w4 k1x))]))
    refine own_ofc (fun tt_ => XS.aloadN X14.here hx rfl (hb hby at_62) rfl rfl) ?_
    show own_gc p e below s _ _ _ _ _ (T14.setTop (mkF m 63 #[.val (.int p1), .val (.int p2), .val (.ref (own_w w0 w1 w2 w3 w4 k1x)), .val (.ref (own_w w0 w1 w2 w3 w4 k2x)), .val (.ref a3), .val (.ref a4), .val (.int (1 : Int32)), .unset, .unset] [(.ref (own_w w0 w1 w2 w3 w4 k2x)), (.ref (own_w w0 w1 w2 w3 w4 k1x))]))
    have hb63_15 : (own_w w0 w1 w2 w3 w4 k1x) = (own_w w0 w1 w2 w3 w4 k2x) := by rw [hsame]
    refine own_ofc (fun tt_ => Jvm.RoadKit.acmp (g := (mkF m 63 #[.val (.int p1), .val (.int p2), .val (.ref (own_w w0 w1 w2 w3 w4 k1x)), .val (.ref (own_w w0 w1 w2 w3 w4 k2x)), .val (.ref a3), .val (.ref a4), .val (.int (1 : Int32)), .unset, .unset] [(.ref (own_w w0 w1 w2 w3 w4 k2x)), (.ref (own_w w0 w1 w2 w3 w4 k1x))])) X14 hx rfl rfl rfl (pc0 := 63) (pc' := 66) (same := true) rfl (hb hby at_63) rfl (decide_eq_true (congrArg Value.ref hb63_15)) (by decide) (by decide)) ?_
    show own_gc p e below s _ _ _ _ _ (T14.setTop (mkF m 66 #[.val (.int p1), .val (.int p2), .val (.ref (own_w w0 w1 w2 w3 w4 k1x)), .val (.ref (own_w w0 w1 w2 w3 w4 k2x)), .val (.ref a3), .val (.ref a4), .val (.int (1 : Int32)), .unset, .unset] []))
    refine own_ofc (fun tt_ => XS.iconst X14.here hx rfl (hb hby at_66)) ?_
    show own_gc p e below s _ _ _ _ _ (T14.setTop (mkF m 67 #[.val (.int p1), .val (.int p2), .val (.ref (own_w w0 w1 w2 w3 w4 k1x)), .val (.ref (own_w w0 w1 w2 w3 w4 k2x)), .val (.ref a3), .val (.ref a4), .val (.int (1 : Int32)), .unset, .unset] [(.int (1 : Int32))]))
    refine own_ofc (fun tt_ => XS.goto X14.here hx rfl (pc0 := 67) (pc' := 71) rfl (hb hby at_67) (by decide) (by decide)) ?_
    show own_gc p e below s _ _ _ _ _ (T14.setTop (mkF m 71 #[.val (.int p1), .val (.int p2), .val (.ref (own_w w0 w1 w2 w3 w4 k1x)), .val (.ref (own_w w0 w1 w2 w3 w4 k2x)), .val (.ref a3), .val (.ref a4), .val (.int (1 : Int32)), .unset, .unset] [(.int (1 : Int32))]))
    refine own_ofc (fun tt_ => XS.istore X14.here hx rfl (hb hby at_71) rfl (l' := #[.val (.int p1), .val (.int p2), .val (.ref (own_w w0 w1 w2 w3 w4 k1x)), .val (.ref (own_w w0 w1 w2 w3 w4 k2x)), .val (.ref a3), .val (.ref a4), .val (.int (1 : Int32)), .val (.int (1 : Int32)), .unset]) rfl) ?_
    show own_gc p e below s _ _ _ _ _ (T14.setTop (mkF m 73 #[.val (.int p1), .val (.int p2), .val (.ref (own_w w0 w1 w2 w3 w4 k1x)), .val (.ref (own_w w0 w1 w2 w3 w4 k2x)), .val (.ref a3), .val (.ref a4), .val (.int (1 : Int32)), .val (.int (1 : Int32)), .unset] []))
    refine own_ofc (fun tt_ => XS.iload X14.here hx rfl (hb hby at_73) rfl) ?_
    show own_gc p e below s _ _ _ _ _ (T14.setTop (mkF m 75 #[.val (.int p1), .val (.int p2), .val (.ref (own_w w0 w1 w2 w3 w4 k1x)), .val (.ref (own_w w0 w1 w2 w3 w4 k2x)), .val (.ref a3), .val (.ref a4), .val (.int (1 : Int32)), .val (.int (1 : Int32)), .unset] [(.int (1 : Int32))]))
    refine own_ofc (fun tt_ => XS.iload X14.here hx rfl (hb hby at_75) rfl) ?_
    show own_gc p e below s _ _ _ _ _ (T14.setTop (mkF m 77 #[.val (.int p1), .val (.int p2), .val (.ref (own_w w0 w1 w2 w3 w4 k1x)), .val (.ref (own_w w0 w1 w2 w3 w4 k2x)), .val (.ref a3), .val (.ref a4), .val (.int (1 : Int32)), .val (.int (1 : Int32)), .unset] [(.int (1 : Int32)), (.int (1 : Int32))]))
    have hb77_16 : (1 : Int32) = (1 : Int32) := by decide
    refine own_ofc (fun tt_ => XS.icmpYes X14.here hx rfl (pc0 := 77) (pc' := 82) rfl (hb hby at_77) rfl (teq hb77_16).1 (by decide) (by decide)) ?_
    show own_gc p e below s _ _ _ _ _ (T14.setTop (mkF m 82 #[.val (.int p1), .val (.int p2), .val (.ref (own_w w0 w1 w2 w3 w4 k1x)), .val (.ref (own_w w0 w1 w2 w3 w4 k2x)), .val (.ref a3), .val (.ref a4), .val (.int (1 : Int32)), .val (.int (1 : Int32)), .unset] []))
    obtain ⟨T17, X17, e17, st17⟩ := getS2 X14 hx hZ4 hown4 (host := "") (Or.inl (hW 51 _ rfl)) Via.refl eh14 (S_CLOSED.ext O4.2) (g := (mkF m 82 #[.val (.int p1), .val (.int p2), .val (.ref (own_w w0 w1 w2 w3 w4 k1x)), .val (.ref (own_w w0 w1 w2 w3 w4 k2x)), .val (.ref a3), .val (.ref a4), .val (.int (1 : Int32)), .val (.int (1 : Int32)), .unset] [])) rfl (hb hby at_82)
    refine own_ofc st17 ?_
    show own_gc p e below s _ _ _ _ _ (T17.setTop (mkF m 85 #[.val (.int p1), .val (.int p2), .val (.ref (own_w w0 w1 w2 w3 w4 k1x)), .val (.ref (own_w w0 w1 w2 w3 w4 k2x)), .val (.ref a3), .val (.ref a4), .val (.int (1 : Int32)), .val (.int (1 : Int32)), .unset] [(.ref w4)]))
    obtain ⟨_, _, ⟨T18, L18, k18, n18⟩, -, Xr18, hSr18, hgr18, ⟨Lc18, hQ18, l18, y18, z18, CHs18⟩, st18⟩ := callSS X17 hx (y := (⟨"com/example/assemble/assemble/AssemblyState", "describe", "(Lcom/example/assemble/assemble/AssemblyState$Stage;)Ljava/lang/String;"⟩ : MethodName)) hown4 (mvT hZ4 (hW 10 _ rfl)) (mvT hZ4 (hW 11 _ rfl)) (mvT hZ4 (hW 12 _ rfl)) (mvT hZ4 (hW 13 _ rfl)) (by decide) (backOfSH (W := 0) (rmD l Z a0 hw [] w4 4 T4.heap n0 hEL O4 (hE 4 (by decide)) (hO 4 (by decide)) (by decide)) hZ4 (hW 13 _ rfl) (hW 12 _ rfl) (by decide) (by decide) hEL CH4.1) (g := (mkF m 85 #[.val (.int p1), .val (.int p2), .val (.ref (own_w w0 w1 w2 w3 w4 k1x)), .val (.ref (own_w w0 w1 w2 w3 w4 k2x)), .val (.ref a3), .val (.ref a4), .val (.int (1 : Int32)), .val (.int (1 : Int32)), .unset] [(.ref w4)])) rfl (by rw [hml]; rfl) (argsL := [(.ref w4)]) (rest := []) (lenOf pd_2 rfl) rfl (by show 2 * 0 + _ ≤ _; exact Nat.le_of_eq rfl) (hb hby at_85) (fun _ _ => ⟨rfl, e17, (by decide : 4 + 2 ≤ _), (by decide : 200 + 100 ≤ _)⟩)
    dsimp only [Pt.U, Pt.locs, Pt.cells, Pt.slots] at Xr18 l18 y18 z18 st18 hQ18 hSr18 hgr18 CHs18
    obtain ⟨X18, hS18, hZ18, hown18⟩ := rebS hS4 (by rw [e17]; omega : T4.heap.size ≤ T17.heap.size) Xr18 hSr18 hgr18 hZ4 hown4
    subst l18 y18 z18
    obtain ⟨a18, rfl, Nq18, Kp18, Ss18⟩ := hQ18
    have N18 := Fr.app N14 Nq18
    refine own_ofc (fun tt_ kk_ => st18.trans kk_) ?_
    have CH18 := CH4.trans CHs18
    have sz18 : T4.heap.size ≤ T18.heap.size := Kp18.1
    have O18 : Old Z n0 T18.heap := O4.keep Kp18 all0
    show own_gc p e below s _ _ _ _ _ (T18.setTop (mkF m 88 #[.val (.int p1), .val (.int p2), .val (.ref (own_w w0 w1 w2 w3 w4 k1x)), .val (.ref (own_w w0 w1 w2 w3 w4 k2x)), .val (.ref a3), .val (.ref a4), .val (.int (1 : Int32)), .val (.int (1 : Int32)), .unset] [(.ref a18)]))
    refine own_ofc (fun tt_ => XS.astore X18.here hx rfl (hb hby at_88) rfl rfl (l' := #[.val (.int p1), .val (.int p2), .val (.ref (own_w w0 w1 w2 w3 w4 k1x)), .val (.ref (own_w w0 w1 w2 w3 w4 k2x)), .val (.ref a3), .val (.ref a4), .val (.int (1 : Int32)), .val (.int (1 : Int32)), .val (.ref a18)]) rfl) ?_
    show own_gc p e below s _ _ _ _ _ (T18.setTop (mkF m 90 #[.val (.int p1), .val (.int p2), .val (.ref (own_w w0 w1 w2 w3 w4 k1x)), .val (.ref (own_w w0 w1 w2 w3 w4 k2x)), .val (.ref a3), .val (.ref a4), .val (.int (1 : Int32)), .val (.int (1 : Int32)), .val (.ref a18)] []))
    refine own_ofc (fun tt_ => XS.aload X18.here hx rfl (hb hby at_90) rfl rfl) ?_
    show own_gc p e below s _ _ _ _ _ (T18.setTop (mkF m 92 #[.val (.int p1), .val (.int p2), .val (.ref (own_w w0 w1 w2 w3 w4 k1x)), .val (.ref (own_w w0 w1 w2 w3 w4 k2x)), .val (.ref a3), .val (.ref a4), .val (.int (1 : Int32)), .val (.int (1 : Int32)), .val (.ref a18)] [(.ref a18)]))
    refine own_ofc (fun tt_ => XS.ifnullNo X18.here hx rfl (hb hby at_92) rfl) ?_
    show own_gc p e below s _ _ _ _ _ (T18.setTop (mkF m 95 #[.val (.int p1), .val (.int p2), .val (.ref (own_w w0 w1 w2 w3 w4 k1x)), .val (.ref (own_w w0 w1 w2 w3 w4 k2x)), .val (.ref a3), .val (.ref a4), .val (.int (1 : Int32)), .val (.int (1 : Int32)), .val (.ref a18)] []))
    refine own_ofc (fun tt_ => XS.aload X18.here hx rfl (hb hby at_95) rfl rfl) ?_
    show own_gc p e below s _ _ _ _ _ (T18.setTop (mkF m 97 #[.val (.int p1), .val (.int p2), .val (.ref (own_w w0 w1 w2 w3 w4 k1x)), .val (.ref (own_w w0 w1 w2 w3 w4 k2x)), .val (.ref a3), .val (.ref a4), .val (.int (1 : Int32)), .val (.int (1 : Int32)), .val (.ref a18)] [(.ref a18)]))
    obtain ⟨b19, T19, h19, k19, t19, kb19, X19, e19, E19, hS19, hk19, hZ19, hown19, Ex19, Cx19, Vx19, Kx19, la19, lb19, CHs19, -, hne19, st19⟩ := ldcCH X18 hx hZ18 hown18 (hW 54 _ rfl) wS rfl hS18 (by omega : T18.heap.size ≤ T18.heap.size) hEL (by decide +kernel) CH18.1 (vs := [.int 105, .int 115, .int 32, .int 99, .int 108, .int 111, .int 115, .int 101, .int 100]) (z := 9) ⟨by decide +kernel, by decide +kernel⟩ (by decide +kernel) (by decide +kernel) (g := (mkF m 97 #[.val (.int p1), .val (.int p2), .val (.ref (own_w w0 w1 w2 w3 w4 k1x)), .val (.ref (own_w w0 w1 w2 w3 w4 k2x)), .val (.ref a3), .val (.ref a4), .val (.int (1 : Int32)), .val (.int (1 : Int32)), .val (.ref a18)] [(.ref a18)])) rfl (hb hby at_97) (n := 36) (by decide +kernel) (by decide) (by decide) (by decide)
    have CH19 := CH18.trans CHs19
    have Ss19 : own_str Z h19 b19 ([105, 115, 32, 99, 108, 111, 115, 101, 100] : List Int32) := ⟨t19, kb19, _, _, Ex19, Vx19, Cx19, Kx19, Or.inl ⟨rfl, rfl, rfl, by decide⟩⟩
    refine own_ofc st19 ?_
    have sz19 : T18.heap.size ≤ h19.size := E19.1
    have O19 : Old Z n0 h19 := O18.ext E19
    have lla19 := own_lt la19
    have llb19 := own_lt lb19
    show own_gc p e below s _ _ _ _ _ (T19.setTop (mkF m 99 #[.val (.int p1), .val (.int p2), .val (.ref (own_w w0 w1 w2 w3 w4 k1x)), .val (.ref (own_w w0 w1 w2 w3 w4 k2x)), .val (.ref a3), .val (.ref a4), .val (.int (1 : Int32)), .val (.int (1 : Int32)), .val (.ref a18)] [(.ref b19), (.ref a18)]))
    have f21 : own_str Z h19 a18 (own_txt 4) := (Ss18.ext E19)
    obtain ⟨t20, kb20, N20, vs20, Ea20, Va20, Ca20, Ka20, cd20⟩ := id f21
    obtain ⟨t22, kb22, N22, vs22, Ea22, Va22, Ca22, Ka22, cd22⟩ := id Ss19
    obtain ⟨cq23, kq23, q23a, q23b, q23c⟩ := isOf hZ19 e19 Ea20
    obtain ⟨_, _, ⟨T23, L23, k23, n23⟩, -, X23, ⟨Lc23, hQ23, l23, y23, z23⟩, st23⟩ := X19.virtualBack hx (y := (⟨"java/lang/String", "equals", "(Ljava/lang/Object;)Z"⟩ : MethodName)) (z := (⟨"java/lang/String", "equals", "(Ljava/lang/Object;)Z"⟩ : MethodName)) hown19 (mvT hZ19 (hW 38 _ rfl)) (mvT hZ19 (hW 39 _ rfl)) (notFace_of_selects (args := #[]) (mvT hZ19 (hW 41 _ rfl))) (mvT hZ19 (hW 41 _ rfl)) (mvT hZ19 (hW 40 _ rfl)) (by decide) (StrChars.Road.eqW (W := 0) hZ19 heq (kI := 4) (hW 25 _ rfl) Ea20 Va20 Ca20 Ka20 cd20 (own_txt_ok ⟨4, (by decide)⟩).1 (own_txt_ok ⟨4, (by decide)⟩).2.1 Ea22 Va22 Ca22 Ka22 cd22 (by decide) (by decide) (O2.ext O19.2) P5 (by decide) (by decide)) q23a q23c (g := (mkF m 99 #[.val (.int p1), .val (.int p2), .val (.ref (own_w w0 w1 w2 w3 w4 k1x)), .val (.ref (own_w w0 w1 w2 w3 w4 k2x)), .val (.ref a3), .val (.ref a4), .val (.int (1 : Int32)), .val (.int (1 : Int32)), .val (.ref a18)] [(.ref b19), (.ref a18)])) rfl (by rw [hml]; rfl) (Steps.refl _) (argsL := [(.ref b19)]) (rest := []) (lenOf pd_4 rfl) rfl (by show 2 * 0 + _ ≤ _; exact Nat.le_of_eq rfl) (hb hby at_99) (fun _ _ => ⟨rfl, e19, (by decide : 8 + 0 ≤ _), (by decide : 340 + 0 ≤ _)⟩)
    dsimp only [Pt.U, Pt.locs, Pt.cells, Pt.slots] at X23 l23 y23 z23 st23 hQ23
    subst l23 y23 z23
    obtain ⟨hc23, rfl, eh23⟩ := hQ23
    have hv23 : _ = some (Value.int 1) := hc23.elim (fun q => q.1) (fun q => absurd rfl q.2)
    subst hv23
    have Nq23 : Fr n0 ([] : List Loc) := Fr.nil n0
    have N23 := Fr.app N18 Nq23
    refine own_ofc (fun tt_ kk_ => st23.trans kk_) ?_
    show own_gc p e below s _ _ _ _ _ (T23.setTop (mkF m 102 #[.val (.int p1), .val (.int p2), .val (.ref (own_w w0 w1 w2 w3 w4 k1x)), .val (.ref (own_w w0 w1 w2 w3 w4 k2x)), .val (.ref a3), .val (.ref a4), .val (.int (1 : Int32)), .val (.int (1 : Int32)), .val (.ref a18)] [(.int (1 : Int32))]))
    have hb102_24 : ¬ ((1 : Int32) = (0 : Int32)) := by decide
    refine own_ofc (fun tt_ => XS.ifNo X23.here hx rfl (hb hby at_102) rfl ((if0 _ _).trans (feq hb102_24).1)) ?_
    show own_gc p e below s _ _ _ _ _ (T23.setTop (mkF m 105 #[.val (.int p1), .val (.int p2), .val (.ref (own_w w0 w1 w2 w3 w4 k1x)), .val (.ref (own_w w0 w1 w2 w3 w4 k2x)), .val (.ref a3), .val (.ref a4), .val (.int (1 : Int32)), .val (.int (1 : Int32)), .val (.ref a18)] []))
    refine own_ofc (fun tt_ => XS.iconst X23.here hx rfl (hb hby at_105)) ?_
    show own_gc p e below s _ _ _ _ _ (T23.setTop (mkF m 106 #[.val (.int p1), .val (.int p2), .val (.ref (own_w w0 w1 w2 w3 w4 k1x)), .val (.ref (own_w w0 w1 w2 w3 w4 k2x)), .val (.ref a3), .val (.ref a4), .val (.int (1 : Int32)), .val (.int (1 : Int32)), .val (.ref a18)] [(.int (1 : Int32))]))
    refine own_ofc (fun tt_ => XS.goto X23.here hx rfl (pc0 := 106) (pc' := 110) rfl (hb hby at_106) (by decide) (by decide)) ?_
    show own_gc p e below s _ _ _ _ _ (T23.setTop (mkF m 110 #[.val (.int p1), .val (.int p2), .val (.ref (own_w w0 w1 w2 w3 w4 k1x)), .val (.ref (own_w w0 w1 w2 w3 w4 k2x)), .val (.ref a3), .val (.ref a4), .val (.int (1 : Int32)), .val (.int (1 : Int32)), .val (.ref a18)] [(.int (1 : Int32))]))
    refine own_retc X23 hx hlk hS19 (by rw [eh23]; omega : k19 ≤ T23.heap.size) hZ19 hEL (by rw [eh23]; exact CH19) Bd.returns rfl (Or.inl ⟨rfl, by simp, _, rfl⟩) (hb hby at_110) (by decide) (by decide) ?_
    rw [eh23]
    exact ⟨rfl, N23⟩
  · show own_gc p e below s _ _ _ _ _ (T10.setTop (mkF m 52 #[.val (.int p1), .val (.int p2), .val (.ref (own_w w0 w1 w2 w3 w4 k1x)), .val (.ref (own_w w0 w1 w2 w3 w4 k2x)), .val (.ref a3), .val (.ref a4), .unset, .unset, .unset] []))
    refine own_ofc (fun tt_ => XS.aload X10.here hx rfl (hb hby at_52) rfl rfl) ?_
    show own_gc p e below s _ _ _ _ _ (T10.setTop (mkF m 54 #[.val (.int p1), .val (.int p2), .val (.ref (own_w w0 w1 w2 w3 w4 k1x)), .val (.ref (own_w w0 w1 w2 w3 w4 k2x)), .val (.ref a3), .val (.ref a4), .unset, .unset, .unset] [(.ref a3)]))
    refine own_ofc (fun tt_ => XS.aload X10.here hx rfl (hb hby at_54) rfl rfl) ?_
    show own_gc p e below s _ _ _ _ _ (T10.setTop (mkF m 56 #[.val (.int p1), .val (.int p2), .val (.ref (own_w w0 w1 w2 w3 w4 k1x)), .val (.ref (own_w w0 w1 w2 w3 w4 k2x)), .val (.ref a3), .val (.ref a4), .unset, .unset, .unset] [(.ref a4), (.ref a3)]))
    obtain ⟨t25, kb25, N25, vs25, Ea25, Va25, Ca25, Ka25, cd25⟩ := id f6
    obtain ⟨t26, kb26, N26, vs26, Ea26, Va26, Ca26, Ka26, cd26⟩ := id Ss4
    obtain ⟨cq27, kq27, q27a, q27b, q27c⟩ := isOf hZ4 eh10 Ea25
    obtain ⟨_, _, ⟨T27, L27, k27, n27⟩, -, X27, ⟨Lc27, hQ27, l27, y27, z27⟩, st27⟩ := X10.virtualBack hx (y := (⟨"java/lang/String", "equals", "(Ljava/lang/Object;)Z"⟩ : MethodName)) (z := (⟨"java/lang/String", "equals", "(Ljava/lang/Object;)Z"⟩ : MethodName)) hown4 (mvT hZ4 (hW 38 _ rfl)) (mvT hZ4 (hW 39 _ rfl)) (notFace_of_selects (args := #[]) (mvT hZ4 (hW 41 _ rfl))) (mvT hZ4 (hW 41 _ rfl)) (mvT hZ4 (hW 40 _ rfl)) (by decide) (StrChars.Road.eqW (W := 0) hZ4 heq (kI := 4) (hW 25 _ rfl) Ea25 Va25 Ca25 Ka25 cd25 (own_txt_ok ⟨k1x, hk1⟩).1 (own_txt_ok ⟨k1x, hk1⟩).2.1 Ea26 Va26 Ca26 Ka26 cd26 (own_txt_ok ⟨k2x, hk2⟩).1 (own_txt_ok ⟨k2x, hk2⟩).2.1 (O2.ext O4.2) P5 (by decide) (by decide)) q27a q27c (g := (mkF m 56 #[.val (.int p1), .val (.int p2), .val (.ref (own_w w0 w1 w2 w3 w4 k1x)), .val (.ref (own_w w0 w1 w2 w3 w4 k2x)), .val (.ref a3), .val (.ref a4), .unset, .unset, .unset] [(.ref a4), (.ref a3)])) rfl (by rw [hml]; rfl) (Steps.refl _) (argsL := [(.ref a4)]) (rest := []) (lenOf pd_4 rfl) rfl (by show 2 * 0 + _ ≤ _; exact Nat.le_of_eq rfl) (hb hby at_56) (fun _ _ => ⟨rfl, eh10, (by decide : 4 + 0 ≤ _), (by decide : 200 + 0 ≤ _)⟩)
    dsimp only [Pt.U, Pt.locs, Pt.cells, Pt.slots] at X27 l27 y27 z27 st27 hQ27
    subst l27 y27 z27
    obtain ⟨hc27, rfl, eh27⟩ := hQ27
    have hv27 : _ = some (Value.int 0) := hc27.elim (fun q => absurd q.2 (own_txt_ne ⟨k1x, hk1⟩ ⟨k2x, hk2⟩ hsame)) (fun q => q.1)
    subst hv27
    have Nq27 : Fr n0 ([] : List Loc) := Fr.nil n0
    have N27 := Fr.app N10 Nq27
    refine own_ofc (fun tt_ kk_ => st27.trans kk_) ?_
    show own_gc p e below s _ _ _ _ _ (T27.setTop (mkF m 59 #[.val (.int p1), .val (.int p2), .val (.ref (own_w w0 w1 w2 w3 w4 k1x)), .val (.ref (own_w w0 w1 w2 w3 w4 k2x)), .val (.ref a3), .val (.ref a4), .unset, .unset, .unset] [(.int (0 : Int32))]))
    refine own_ofc (fun tt_ => XS.istore X27.here hx rfl (hb hby at_59) rfl (l' := #[.val (.int p1), .val (.int p2), .val (.ref (own_w w0 w1 w2 w3 w4 k1x)), .val (.ref (own_w w0 w1 w2 w3 w4 k2x)), .val (.ref a3), .val (.ref a4), .val (.int (0 : Int32)), .unset, .unset]) rfl) ?_
    show own_gc p e below s _ _ _ _ _ (T27.setTop (mkF m 61 #[.val (.int p1), .val (.int p2), .val (.ref (own_w w0 w1 w2 w3 w4 k1x)), .val (.ref (own_w w0 w1 w2 w3 w4 k2x)), .val (.ref a3), .val (.ref a4), .val (.int (0 : Int32)), .unset, .unset] []))
    refine own_ofc (fun tt_ => XS.aloadN X27.here hx rfl (hb hby at_61) rfl rfl) ?_
    show own_gc p e below s _ _ _ _ _ (T27.setTop (mkF m 62 #[.val (.int p1), .val (.int p2), .val (.ref (own_w w0 w1 w2 w3 w4 k1x)), .val (.ref (own_w w0 w1 w2 w3 w4 k2x)), .val (.ref a3), .val (.ref a4), .val (.int (0 : Int32)), .unset, .unset] [(.ref (own_w w0 w1 w2 w3 w4 k1x))]))
    refine own_ofc (fun tt_ => XS.aloadN X27.here hx rfl (hb hby at_62) rfl rfl) ?_
    show own_gc p e below s _ _ _ _ _ (T27.setTop (mkF m 63 #[.val (.int p1), .val (.int p2), .val (.ref (own_w w0 w1 w2 w3 w4 k1x)), .val (.ref (own_w w0 w1 w2 w3 w4 k2x)), .val (.ref a3), .val (.ref a4), .val (.int (0 : Int32)), .unset, .unset] [(.ref (own_w w0 w1 w2 w3 w4 k2x)), (.ref (own_w w0 w1 w2 w3 w4 k1x))]))
    have hb63_28 : ¬ ((own_w w0 w1 w2 w3 w4 k1x) = (own_w w0 w1 w2 w3 w4 k2x)) := hW2 k1x k2x hk1 hk2 hsame
    refine own_ofc (fun tt_ => Jvm.RoadKit.acmp (g := (mkF m 63 #[.val (.int p1), .val (.int p2), .val (.ref (own_w w0 w1 w2 w3 w4 k1x)), .val (.ref (own_w w0 w1 w2 w3 w4 k2x)), .val (.ref a3), .val (.ref a4), .val (.int (0 : Int32)), .unset, .unset] [(.ref (own_w w0 w1 w2 w3 w4 k2x)), (.ref (own_w w0 w1 w2 w3 w4 k1x))])) X27 hx rfl rfl rfl (pc0 := 63) (pc' := 70) (same := false) rfl (hb hby at_63) rfl (decide_eq_false fun q => hb63_28 (Value.ref.inj q)) (by decide) (by decide)) ?_
    show own_gc p e below s _ _ _ _ _ (T27.setTop (mkF m 70 #[.val (.int p1), .val (.int p2), .val (.ref (own_w w0 w1 w2 w3 w4 k1x)), .val (.ref (own_w w0 w1 w2 w3 w4 k2x)), .val (.ref a3), .val (.ref a4), .val (.int (0 : Int32)), .unset, .unset] []))
    refine own_ofc (fun tt_ => XS.iconst X27.here hx rfl (hb hby at_70)) ?_
    show own_gc p e below s _ _ _ _ _ (T27.setTop (mkF m 71 #[.val (.int p1), .val (.int p2), .val (.ref (own_w w0 w1 w2 w3 w4 k1x)), .val (.ref (own_w w0 w1 w2 w3 w4 k2x)), .val (.ref a3), .val (.ref a4), .val (.int (0 : Int32)), .unset, .unset] [(.int (0 : Int32))]))
    refine own_ofc (fun tt_ => XS.istore X27.here hx rfl (hb hby at_71) rfl (l' := #[.val (.int p1), .val (.int p2), .val (.ref (own_w w0 w1 w2 w3 w4 k1x)), .val (.ref (own_w w0 w1 w2 w3 w4 k2x)), .val (.ref a3), .val (.ref a4), .val (.int (0 : Int32)), .val (.int (0 : Int32)), .unset]) rfl) ?_
    show own_gc p e below s _ _ _ _ _ (T27.setTop (mkF m 73 #[.val (.int p1), .val (.int p2), .val (.ref (own_w w0 w1 w2 w3 w4 k1x)), .val (.ref (own_w w0 w1 w2 w3 w4 k2x)), .val (.ref a3), .val (.ref a4), .val (.int (0 : Int32)), .val (.int (0 : Int32)), .unset] []))
    refine own_ofc (fun tt_ => XS.iload X27.here hx rfl (hb hby at_73) rfl) ?_
    show own_gc p e below s _ _ _ _ _ (T27.setTop (mkF m 75 #[.val (.int p1), .val (.int p2), .val (.ref (own_w w0 w1 w2 w3 w4 k1x)), .val (.ref (own_w w0 w1 w2 w3 w4 k2x)), .val (.ref a3), .val (.ref a4), .val (.int (0 : Int32)), .val (.int (0 : Int32)), .unset] [(.int (0 : Int32))]))
    refine own_ofc (fun tt_ => XS.iload X27.here hx rfl (hb hby at_75) rfl) ?_
    show own_gc p e below s _ _ _ _ _ (T27.setTop (mkF m 77 #[.val (.int p1), .val (.int p2), .val (.ref (own_w w0 w1 w2 w3 w4 k1x)), .val (.ref (own_w w0 w1 w2 w3 w4 k2x)), .val (.ref a3), .val (.ref a4), .val (.int (0 : Int32)), .val (.int (0 : Int32)), .unset] [(.int (0 : Int32)), (.int (0 : Int32))]))
    have hb77_29 : (0 : Int32) = (0 : Int32) := by decide
    refine own_ofc (fun tt_ => XS.icmpYes X27.here hx rfl (pc0 := 77) (pc' := 82) rfl (hb hby at_77) rfl (teq hb77_29).1 (by decide) (by decide)) ?_
    show own_gc p e below s _ _ _ _ _ (T27.setTop (mkF m 82 #[.val (.int p1), .val (.int p2), .val (.ref (own_w w0 w1 w2 w3 w4 k1x)), .val (.ref (own_w w0 w1 w2 w3 w4 k2x)), .val (.ref a3), .val (.ref a4), .val (.int (0 : Int32)), .val (.int (0 : Int32)), .unset] []))
    obtain ⟨T30, X30, e30, st30⟩ := getS2 X27 hx hZ4 hown4 (host := "") (Or.inl (hW 51 _ rfl)) Via.refl eh27 (S_CLOSED.ext O4.2) (g := (mkF m 82 #[.val (.int p1), .val (.int p2), .val (.ref (own_w w0 w1 w2 w3 w4 k1x)), .val (.ref (own_w w0 w1 w2 w3 w4 k2x)), .val (.ref a3), .val (.ref a4), .val (.int (0 : Int32)), .val (.int (0 : Int32)), .unset] [])) rfl (hb hby at_82)
    refine own_ofc st30 ?_
    show own_gc p e below s _ _ _ _ _ (T30.setTop (mkF m 85 #[.val (.int p1), .val (.int p2), .val (.ref (own_w w0 w1 w2 w3 w4 k1x)), .val (.ref (own_w w0 w1 w2 w3 w4 k2x)), .val (.ref a3), .val (.ref a4), .val (.int (0 : Int32)), .val (.int (0 : Int32)), .unset] [(.ref w4)]))
    obtain ⟨_, _, ⟨T31, L31, k31, n31⟩, -, Xr31, hSr31, hgr31, ⟨Lc31, hQ31, l31, y31, z31, CHs31⟩, st31⟩ := callSS X30 hx (y := (⟨"com/example/assemble/assemble/AssemblyState", "describe", "(Lcom/example/assemble/assemble/AssemblyState$Stage;)Ljava/lang/String;"⟩ : MethodName)) hown4 (mvT hZ4 (hW 10 _ rfl)) (mvT hZ4 (hW 11 _ rfl)) (mvT hZ4 (hW 12 _ rfl)) (mvT hZ4 (hW 13 _ rfl)) (by decide) (backOfSH (W := 0) (rmD l Z a0 hw [] w4 4 T4.heap n0 hEL O4 (hE 4 (by decide)) (hO 4 (by decide)) (by decide)) hZ4 (hW 13 _ rfl) (hW 12 _ rfl) (by decide) (by decide) hEL CH4.1) (g := (mkF m 85 #[.val (.int p1), .val (.int p2), .val (.ref (own_w w0 w1 w2 w3 w4 k1x)), .val (.ref (own_w w0 w1 w2 w3 w4 k2x)), .val (.ref a3), .val (.ref a4), .val (.int (0 : Int32)), .val (.int (0 : Int32)), .unset] [(.ref w4)])) rfl (by rw [hml]; rfl) (argsL := [(.ref w4)]) (rest := []) (lenOf pd_2 rfl) rfl (by show 2 * 0 + _ ≤ _; exact Nat.le_of_eq rfl) (hb hby at_85) (fun _ _ => ⟨rfl, e30, (by decide : 4 + 2 ≤ _), (by decide : 200 + 100 ≤ _)⟩)
    dsimp only [Pt.U, Pt.locs, Pt.cells, Pt.slots] at Xr31 l31 y31 z31 st31 hQ31 hSr31 hgr31 CHs31
    obtain ⟨X31, hS31, hZ31, hown31⟩ := rebS hS4 (by rw [e30]; omega : T4.heap.size ≤ T30.heap.size) Xr31 hSr31 hgr31 hZ4 hown4
    subst l31 y31 z31
    obtain ⟨a31, rfl, Nq31, Kp31, Ss31⟩ := hQ31
    have N31 := Fr.app N27 Nq31
    refine own_ofc (fun tt_ kk_ => st31.trans kk_) ?_
    have CH31 := CH4.trans CHs31
    have sz31 : T4.heap.size ≤ T31.heap.size := Kp31.1
    have O31 : Old Z n0 T31.heap := O4.keep Kp31 all0
    show own_gc p e below s _ _ _ _ _ (T31.setTop (mkF m 88 #[.val (.int p1), .val (.int p2), .val (.ref (own_w w0 w1 w2 w3 w4 k1x)), .val (.ref (own_w w0 w1 w2 w3 w4 k2x)), .val (.ref a3), .val (.ref a4), .val (.int (0 : Int32)), .val (.int (0 : Int32)), .unset] [(.ref a31)]))
    refine own_ofc (fun tt_ => XS.astore X31.here hx rfl (hb hby at_88) rfl rfl (l' := #[.val (.int p1), .val (.int p2), .val (.ref (own_w w0 w1 w2 w3 w4 k1x)), .val (.ref (own_w w0 w1 w2 w3 w4 k2x)), .val (.ref a3), .val (.ref a4), .val (.int (0 : Int32)), .val (.int (0 : Int32)), .val (.ref a31)]) rfl) ?_
    show own_gc p e below s _ _ _ _ _ (T31.setTop (mkF m 90 #[.val (.int p1), .val (.int p2), .val (.ref (own_w w0 w1 w2 w3 w4 k1x)), .val (.ref (own_w w0 w1 w2 w3 w4 k2x)), .val (.ref a3), .val (.ref a4), .val (.int (0 : Int32)), .val (.int (0 : Int32)), .val (.ref a31)] []))
    refine own_ofc (fun tt_ => XS.aload X31.here hx rfl (hb hby at_90) rfl rfl) ?_
    show own_gc p e below s _ _ _ _ _ (T31.setTop (mkF m 92 #[.val (.int p1), .val (.int p2), .val (.ref (own_w w0 w1 w2 w3 w4 k1x)), .val (.ref (own_w w0 w1 w2 w3 w4 k2x)), .val (.ref a3), .val (.ref a4), .val (.int (0 : Int32)), .val (.int (0 : Int32)), .val (.ref a31)] [(.ref a31)]))
    refine own_ofc (fun tt_ => XS.ifnullNo X31.here hx rfl (hb hby at_92) rfl) ?_
    show own_gc p e below s _ _ _ _ _ (T31.setTop (mkF m 95 #[.val (.int p1), .val (.int p2), .val (.ref (own_w w0 w1 w2 w3 w4 k1x)), .val (.ref (own_w w0 w1 w2 w3 w4 k2x)), .val (.ref a3), .val (.ref a4), .val (.int (0 : Int32)), .val (.int (0 : Int32)), .val (.ref a31)] []))
    refine own_ofc (fun tt_ => XS.aload X31.here hx rfl (hb hby at_95) rfl rfl) ?_
    show own_gc p e below s _ _ _ _ _ (T31.setTop (mkF m 97 #[.val (.int p1), .val (.int p2), .val (.ref (own_w w0 w1 w2 w3 w4 k1x)), .val (.ref (own_w w0 w1 w2 w3 w4 k2x)), .val (.ref a3), .val (.ref a4), .val (.int (0 : Int32)), .val (.int (0 : Int32)), .val (.ref a31)] [(.ref a31)]))
    obtain ⟨b32, T32, h32, k32, t32, kb32, X32, e32, E32, hS32, hk32, hZ32, hown32, Ex32, Cx32, Vx32, Kx32, la32, lb32, CHs32, -, hne32, st32⟩ := ldcCH X31 hx hZ31 hown31 (hW 54 _ rfl) wS rfl hS31 (by omega : T31.heap.size ≤ T31.heap.size) hEL (by decide +kernel) CH31.1 (vs := [.int 105, .int 115, .int 32, .int 99, .int 108, .int 111, .int 115, .int 101, .int 100]) (z := 9) ⟨by decide +kernel, by decide +kernel⟩ (by decide +kernel) (by decide +kernel) (g := (mkF m 97 #[.val (.int p1), .val (.int p2), .val (.ref (own_w w0 w1 w2 w3 w4 k1x)), .val (.ref (own_w w0 w1 w2 w3 w4 k2x)), .val (.ref a3), .val (.ref a4), .val (.int (0 : Int32)), .val (.int (0 : Int32)), .val (.ref a31)] [(.ref a31)])) rfl (hb hby at_97) (n := 36) (by decide +kernel) (by decide) (by decide) (by decide)
    have CH32 := CH31.trans CHs32
    have Ss32 : own_str Z h32 b32 ([105, 115, 32, 99, 108, 111, 115, 101, 100] : List Int32) := ⟨t32, kb32, _, _, Ex32, Vx32, Cx32, Kx32, Or.inl ⟨rfl, rfl, rfl, by decide⟩⟩
    refine own_ofc st32 ?_
    have sz32 : T31.heap.size ≤ h32.size := E32.1
    have O32 : Old Z n0 h32 := O31.ext E32
    have lla32 := own_lt la32
    have llb32 := own_lt lb32
    show own_gc p e below s _ _ _ _ _ (T32.setTop (mkF m 99 #[.val (.int p1), .val (.int p2), .val (.ref (own_w w0 w1 w2 w3 w4 k1x)), .val (.ref (own_w w0 w1 w2 w3 w4 k2x)), .val (.ref a3), .val (.ref a4), .val (.int (0 : Int32)), .val (.int (0 : Int32)), .val (.ref a31)] [(.ref b32), (.ref a31)]))
    have f34 : own_str Z h32 a31 (own_txt 4) := (Ss31.ext E32)
    obtain ⟨t33, kb33, N33, vs33, Ea33, Va33, Ca33, Ka33, cd33⟩ := id f34
    obtain ⟨t35, kb35, N35, vs35, Ea35, Va35, Ca35, Ka35, cd35⟩ := id Ss32
    obtain ⟨cq36, kq36, q36a, q36b, q36c⟩ := isOf hZ32 e32 Ea33
    obtain ⟨_, _, ⟨T36, L36, k36, n36⟩, -, X36, ⟨Lc36, hQ36, l36, y36, z36⟩, st36⟩ := X32.virtualBack hx (y := (⟨"java/lang/String", "equals", "(Ljava/lang/Object;)Z"⟩ : MethodName)) (z := (⟨"java/lang/String", "equals", "(Ljava/lang/Object;)Z"⟩ : MethodName)) hown32 (mvT hZ32 (hW 38 _ rfl)) (mvT hZ32 (hW 39 _ rfl)) (notFace_of_selects (args := #[]) (mvT hZ32 (hW 41 _ rfl))) (mvT hZ32 (hW 41 _ rfl)) (mvT hZ32 (hW 40 _ rfl)) (by decide) (StrChars.Road.eqW (W := 0) hZ32 heq (kI := 4) (hW 25 _ rfl) Ea33 Va33 Ca33 Ka33 cd33 (own_txt_ok ⟨4, (by decide)⟩).1 (own_txt_ok ⟨4, (by decide)⟩).2.1 Ea35 Va35 Ca35 Ka35 cd35 (by decide) (by decide) (O2.ext O32.2) P5 (by decide) (by decide)) q36a q36c (g := (mkF m 99 #[.val (.int p1), .val (.int p2), .val (.ref (own_w w0 w1 w2 w3 w4 k1x)), .val (.ref (own_w w0 w1 w2 w3 w4 k2x)), .val (.ref a3), .val (.ref a4), .val (.int (0 : Int32)), .val (.int (0 : Int32)), .val (.ref a31)] [(.ref b32), (.ref a31)])) rfl (by rw [hml]; rfl) (Steps.refl _) (argsL := [(.ref b32)]) (rest := []) (lenOf pd_4 rfl) rfl (by show 2 * 0 + _ ≤ _; exact Nat.le_of_eq rfl) (hb hby at_99) (fun _ _ => ⟨rfl, e32, (by decide : 8 + 0 ≤ _), (by decide : 340 + 0 ≤ _)⟩)
    dsimp only [Pt.U, Pt.locs, Pt.cells, Pt.slots] at X36 l36 y36 z36 st36 hQ36
    subst l36 y36 z36
    obtain ⟨hc36, rfl, eh36⟩ := hQ36
    have hv36 : _ = some (Value.int 1) := hc36.elim (fun q => q.1) (fun q => absurd rfl q.2)
    subst hv36
    have Nq36 : Fr n0 ([] : List Loc) := Fr.nil n0
    have N36 := Fr.app N31 Nq36
    refine own_ofc (fun tt_ kk_ => st36.trans kk_) ?_
    show own_gc p e below s _ _ _ _ _ (T36.setTop (mkF m 102 #[.val (.int p1), .val (.int p2), .val (.ref (own_w w0 w1 w2 w3 w4 k1x)), .val (.ref (own_w w0 w1 w2 w3 w4 k2x)), .val (.ref a3), .val (.ref a4), .val (.int (0 : Int32)), .val (.int (0 : Int32)), .val (.ref a31)] [(.int (1 : Int32))]))
    have hb102_37 : ¬ ((1 : Int32) = (0 : Int32)) := by decide
    refine own_ofc (fun tt_ => XS.ifNo X36.here hx rfl (hb hby at_102) rfl ((if0 _ _).trans (feq hb102_37).1)) ?_
    show own_gc p e below s _ _ _ _ _ (T36.setTop (mkF m 105 #[.val (.int p1), .val (.int p2), .val (.ref (own_w w0 w1 w2 w3 w4 k1x)), .val (.ref (own_w w0 w1 w2 w3 w4 k2x)), .val (.ref a3), .val (.ref a4), .val (.int (0 : Int32)), .val (.int (0 : Int32)), .val (.ref a31)] []))
    refine own_ofc (fun tt_ => XS.iconst X36.here hx rfl (hb hby at_105)) ?_
    show own_gc p e below s _ _ _ _ _ (T36.setTop (mkF m 106 #[.val (.int p1), .val (.int p2), .val (.ref (own_w w0 w1 w2 w3 w4 k1x)), .val (.ref (own_w w0 w1 w2 w3 w4 k2x)), .val (.ref a3), .val (.ref a4), .val (.int (0 : Int32)), .val (.int (0 : Int32)), .val (.ref a31)] [(.int (1 : Int32))]))
    refine own_ofc (fun tt_ => XS.goto X36.here hx rfl (pc0 := 106) (pc' := 110) rfl (hb hby at_106) (by decide) (by decide)) ?_
    show own_gc p e below s _ _ _ _ _ (T36.setTop (mkF m 110 #[.val (.int p1), .val (.int p2), .val (.ref (own_w w0 w1 w2 w3 w4 k1x)), .val (.ref (own_w w0 w1 w2 w3 w4 k2x)), .val (.ref a3), .val (.ref a4), .val (.int (0 : Int32)), .val (.int (0 : Int32)), .val (.ref a31)] [(.int (1 : Int32))]))
    refine own_retc X36 hx hlk hS32 (by rw [eh36]; omega : k32 ≤ T36.heap.size) hZ32 hEL (by rw [eh36]; exact CH32) Bd.returns rfl (Or.inl ⟨rfl, by simp, _, rfl⟩) (hb hby at_110) (by decide) (by decide) ?_
    rw [eh36]
    exact ⟨rfl, N36⟩
set_option maxRecDepth 65536 in
set_option maxHeartbeats 40000000 in
theorem comes_1 {Post : Tables → Env → Array Value → State → Outcome → State → Prop} (hpost : ∀ tb e args s v u, (limb_1_1.after args s (.returned v) u = true ∧ limb_1_2.after args s (.returned v) u = true ∧ True) → ReturnedEndW s (.returned v) u (Jvm.fieldLocs frame_1_writes args s ++ Jvm.arrayLocs frame_1_arrays args s ++ Jvm.staticLocs frame_1_statics s) 16 6208 → Post tb e args s (.returned v) u) :
    ArmFor flags0 classFile x code maxLocals ret World_1 tables_1 room_1 Calls_1 rest_1 Pre_1 Post := by
  intro l hfl _ _ p e ha hc hk s m args below hf hA hF happ hP
  obtain ⟨hcalls, hrest, hpre⟩ := hP
  obtain ⟨-, -, -, hnamed, -, -, -, hat⟩ := (Spec.applies_iff hf).mp happ
  obtain ⟨hg, hn⟩ := and_e (Cond.before_iff.mp (show (Jvm.Cond.and given_1 narrow_1).before args s = true from hpre))
  obtain ⟨g1, g2⟩ := and_e hg
  obtain ⟨g3, g4⟩ := and_e g2
  obtain ⟨g5, g6⟩ := and_e hn
  obtain ⟨g7, g8⟩ := and_e g6
  obtain ⟨g9, g10⟩ := and_e g8
  obtain ⟨g11, g12⟩ := and_e g10
  obtain ⟨g13, g14⟩ := and_e g12
  obtain ⟨g15, g16⟩ := and_e g14
  obtain ⟨g17, g18⟩ := and_e g16
  obtain ⟨g19, g20⟩ := and_e g18
  obtain ⟨g21, g22⟩ := and_e g20
  obtain ⟨w0, w1, rfl⟩ : ∃ w0 w1 : Value, args = #[w0, w1] := by
    have hs : args.size = 2 := by simpa [Cond.value, given_1] using g1
    obtain ⟨L⟩ := args
    match L, hs with
    | [w0, w1], _ => exact ⟨w0, w1, rfl⟩
  have hw := fun d (hd : d ∈ tables_1) => atoms_spec (ws := Jvm.Cond.code x code maxLocals ret :: tables_1) hat d (List.mem_cons_of_mem _ hd)
  have hW : ∀ (i : Nat) (d : Jvm.Cond), tables_1[i]? = some d → d.before _ s = true := fun i d h => hw d (List.mem_of_getElem? h)
  have hfit : Fit s := fun {y c} hc i hi => by
    obtain ⟨ha, rfl⟩ := Array.getElem?_eq_some_iff.mp hc
    have q := List.all_eq_true.mp ((Array.all_eq_true_iff_forall_mem.mp hF) _ (Array.getElem_mem ha)) i (List.mem_range.mpr hi)
    simpa [Array.getElem?_eq_getElem hi] using q
  obtain ⟨hsets, hown0⟩ := atoms_of _ (rest_1_c_eq ▸ (show rest_1_c.before _ s = true from hrest))
  have hr0 := Cond.before_iff.mp hown0
  obtain ⟨i0, ei0⟩ := is_v g3
  obtain rfl : w0 = (.int i0) := Option.some.inj ei0
  obtain ⟨i1, ei1⟩ := is_v g4
  obtain rfl : w1 = (.int i1) := Option.some.inj ei1
  obtain ⟨a_NEW, ev_NEW, E_NEW⟩ := own_ex g5
  have S_NEW : Sta s s.heap "com/example/assemble/assemble/AssemblyState$Stage" "NEW" "Lcom/example/assemble/assemble/AssemblyState$Stage;" (.ref a_NEW) := Sta.start ev_NEW (Or.inr ⟨(hW 6 _ rfl), (hW 7 _ rfl)⟩)
  obtain ⟨a_FAILED, ev_FAILED, E_FAILED⟩ := own_ex g7
  have S_FAILED : Sta s s.heap "com/example/assemble/assemble/AssemblyState$Stage" "FAILED" "Lcom/example/assemble/assemble/AssemblyState$Stage;" (.ref a_FAILED) := Sta.start ev_FAILED (Or.inr ⟨(hW 6 _ rfl), (hW 9 _ rfl)⟩)
  have O_NEW := own_fi ev_NEW g9
  have O_FAILED := own_fi ev_FAILED g11
  obtain ⟨a_CLOSED, ev_CLOSED, E_CLOSED⟩ := own_ex g13
  have S_CLOSED : Sta s s.heap "com/example/assemble/assemble/AssemblyState$Stage" "CLOSED" "Lcom/example/assemble/assemble/AssemblyState$Stage;" (.ref a_CLOSED) := Sta.start ev_CLOSED (Or.inr ⟨(hW 6 _ rfl), (hW 52 _ rfl)⟩)
  have O_CLOSED := own_fi ev_CLOSED g15
  obtain ⟨a_STARTING, ev_STARTING, E_STARTING⟩ := own_ex g17
  have S_STARTING : Sta s s.heap "com/example/assemble/assemble/AssemblyState$Stage" "STARTING" "Lcom/example/assemble/assemble/AssemblyState$Stage;" (.ref a_STARTING) := Sta.start ev_STARTING (Or.inr ⟨(hW 6 _ rfl), (hW 56 _ rfl)⟩)
  have O_STARTING := own_fi ev_STARTING g19
  obtain ⟨a_STARTED, ev_STARTED, E_STARTED⟩ := own_ex g21
  have S_STARTED : Sta s s.heap "com/example/assemble/assemble/AssemblyState$Stage" "STARTED" "Lcom/example/assemble/assemble/AssemblyState$Stage;" (.ref a_STARTED) := Sta.start ev_STARTED (Or.inr ⟨(hW 6 _ rfl), (hW 59 _ rfl)⟩)
  have O_STARTED := own_fi ev_STARTED g22
  have n3 := not_v (Cond.before_iff.mp (hsets _ (List.mem_of_getElem? (i := 2) rfl)))
  obtain ⟨i7, e6⟩ := is_v (Cond.before_iff.mp (hsets _ (List.mem_of_getElem? (i := 1) rfl)))
  have S8 : Sta s s.heap "java/lang/String" "COMPACT_STRINGS" "Z" (.int i7) := Sta.start e6 (Or.inl (hsets _ (List.mem_of_getElem? (i := 0) rfl)))
  have c13 : ¬ (i7 = (0 : Int32)) := gotF (Cond.eq_ints e6 (Term.int_eval (0))) n3
  have hE : ∀ k, k < 5 → Exa s s.heap (own_w a_NEW a_STARTING a_STARTED a_FAILED a_CLOSED k) "com/example/assemble/assemble/AssemblyState$Stage" := fun k hk => match k, hk with
    | 0, _ => E_NEW
    | 1, _ => E_STARTING
    | 2, _ => E_STARTED
    | 3, _ => E_FAILED
    | 4, _ => E_CLOSED
  have hO : ∀ k, k < 5 → Fld s s.heap (own_w a_NEW a_STARTING a_STARTED a_FAILED a_CLOSED k) "java/lang/Enum" "ordinal" "I" (.int (Int32.ofNat k)) := fun k hk => match k, hk with
    | 0, _ => O_NEW
    | 1, _ => O_STARTING
    | 2, _ => O_STARTED
    | 3, _ => O_FAILED
    | 4, _ => O_CLOSED
  have hW2 : ∀ i j, i < 5 → j < 5 → ¬ i = j → ¬ (own_w a_NEW a_STARTING a_STARTED a_FAILED a_CLOSED i = own_w a_NEW a_STARTING a_STARTED a_FAILED a_CLOSED j) := fun i j hi hj hn => (hO i hi).ne (hO j hj) (fun q => hn ((by decide : ∀ i j : Fin 5, Int32.ofNat i.val = Int32.ofNat j.val → i.val = j.val) ⟨i, hi⟩ ⟨j, hj⟩ (Value.int.inj q)))
  have hEL : EW s _ own_EL := (EW.cons (own := "com/example/assemble/assemble/AssemblyState") (index := 72) (hW 23 _ rfl) (by decide) (EW.cons (own := "com/example/assemble/assemble/AssemblyState") (index := 74) (hW 57 _ rfl) (by decide) (EW.cons (own := "com/example/assemble/assemble/AssemblyState") (index := 76) (hW 60 _ rfl) (by decide) (EW.cons (own := "com/example/assemble/assemble/AssemblyState") (index := 78) (hW 31 _ rfl) (by decide) (EW.cons (own := "com/example/assemble/assemble/AssemblyState") (index := 80) (hW 53 _ rfl) (by decide) (EW.cons (own := "com/example/assemble/assemble/AssemblyStateDescribePinLaw") (index := 48) (hW 54 _ rfl) (by decide) EW.nil))))))
  have hCH : CHv s own_EL s.vm s.heap := CHv.start hEL (fun p hp => hcalls.1 p ((by decide : ∀ p ∈ own_EL, p ∈ consts_1) p hp)) (Cond.before_iff.mpr (not_i (nay (Cond.eq_ints e6 (Term.int_eval (0))) c13))) (hW 26 _ rfl) (hW 25 _ rfl)
  obtain ⟨n, o, h1, h2, h3, _, L, rfl, ⟨rfl, N⟩, -, hq⟩ := rm0 l s _ hw tables_1 i0 i1 a_NEW a_STARTING a_STARTED a_FAILED a_CLOSED i7 s.heap s.heap.size hEL (Old.start s) S_NEW S_STARTING S_STARTED S_FAILED S_CLOSED S8 c13 hE hO hW2 p e ha hc hk s m _ below hf ((Spec.applies_iff_loose hf).mp happ).1 ⟨rfl, State.Warmed39.refl s, rfl, hCH⟩ trivial
  refine ⟨n, _, h1, h2, h3, hpost _ _ _ _ _ _ ⟨Cond.after_iff.mpr rfl, Cond.after_iff.mpr (eq_i res_at (Term.int_eval (1)) rfl), trivial⟩ ⟨hq.1, hq.2.1, hq.2.2.1, (hq.2.2.2.sift fun y hy => Or.inr (N y hy)).mono (by decide) (by decide)⟩⟩
theorem main_1_1 : Claimed_1_1 := comes_1 fun _ _ _ _ _ _ h hF => ⟨h.1, hF⟩
theorem main_1_2 : Claimed_1_2 := comes_1 fun _ _ _ _ _ _ h hF => ⟨h.2.1, hF⟩
end Jvm.Pilot.@@N@@
namespace Jvm.Pilot.@@N@@
open Jvm Jvm.ClassFile Sem Op Lib Jvm.Free Jvm.Stand Jvm.Pilot.@@N@@.Jvm.D
/-! MADE BY PROGRAM (witnessworld.py) out of the Statement's table words and the real class files: 19 classes; the members and pool entries that the words name. The judged class is class 1, her method 2. -/
namespace start1
open Jvm.ClassFile
def u (s : String) : CpInfo := .utf8 (stringToUtf16 s)
/-- a pool by its gaps: so many unusable entries, then the entry; so many at the end -/
def gap : Nat → List CpInfo → List CpInfo
  | 0, r => r
  | n + 1, r => .unusable :: gap n r
def poolList (es : List (Nat × CpInfo)) (last : Nat) : List CpInfo := es.foldr (fun e r => gap e.1 (e.2 :: r)) (gap last [])
def pool (es : List (Nat × CpInfo)) (last : Nat) : Array CpInfo := ⟨poolList es last⟩
def fileOf (pool : Array CpInfo) (this : Nat) (attrs : Array Attribute := #[]) (ms : Array MethodInfo := #[]) (fl : Nat := 33) (sup : Nat := 0) (ifs : Array Nat := #[]) (fds : Array FieldInfo := #[]) : ClassFile where
  minorVersion := 0
  majorVersion := 65
  constantPool := pool
  accessFlags := fl
  thisClass := this
  superClass := sup
  interfaces := ifs
  fields := fds
  methods := ms
  attributes := attrs
def plain (name : String) (sup : Option ClassId) : Class where
  name := name
  kind := .ordinary
  loader := none
  accessFlags := 33
  super := sup
  interfaces := #[]
  cf := none
  fields := #[]
  methods := #[]
  instanceTypes := #[]
  staticTypes := #[]
  resolved := #[]
  callSites := []
  init := .initialized
  statics := none
  mirror := none

def pool0 : Array CpInfo := pool [(5, u "<init>"), (0, u "()V"), (1, .class_ 10), (1, u "java/lang/Object")] 113

def k0m0 : Method := { name := "<init>", desc := "()V", sig := { parameters := [], returnType := none }, accessFlags := 1, code := none }
/-- java/lang/Object -/
def k0 : Class := { plain "java/lang/Object" none with
  accessFlags := 33
  interfaces := #[]
  cf := some (fileOf pool0 8 #[] #[{ accessFlags := 1, nameIndex := 5, descriptorIndex := 6, attributes := #[] }] 33 0 #[] #[])
  fields := #[]
  methods := #[k0m0]
  instanceTypes := #[]
  staticTypes := #[]
  resolved := Array.replicate 124 none
  statics := none }

def pool1 : Array CpInfo := pool [(2, .class_ 4), (1, u "java/lang/Object"), (0, u "<init>"), (0, u "()V"), (0, .integer 2147483647), (0, .fieldref 9 10), (0, .class_ 11), (0, .nameAndType 12 13), (0, u "com/example/assemble/assemble/AssemblyState$Stage"), (0, u "NEW"), (0, u "Lcom/example/assemble/assemble/AssemblyState$Stage;"), (0, .fieldref 9 15), (0, .nameAndType 16 13), (0, u "STARTING"), (0, .fieldref 9 18), (0, .nameAndType 19 13), (0, u "STARTED"), (0, .fieldref 9 21), (0, .nameAndType 22 13), (0, u "FAILED"), (0, .fieldref 9 24), (0, .nameAndType 25 13), (0, u "CLOSED"), (0, .methodref 27 28), (0, .class_ 29), (0, .nameAndType 30 31), (0, u "com/example/assemble/assemble/AssemblyStateDescribePinLaw"), (0, u "stageOf"), (0, u "(I)Lcom/example/assemble/assemble/AssemblyState$Stage;"), (0, .methodref 33 34), (0, .class_ 35), (0, .nameAndType 36 37), (0, u "com/example/assemble/assemble/AssemblyState"), (0, u "describe"), (0, u "(Lcom/example/assemble/assemble/AssemblyState$Stage;)Ljava/lang/String;"), (0, .methodref 39 40), (0, .class_ 41), (0, .nameAndType 42 43), (0, u "java/lang/String"), (0, u "isEmpty"), (0, u "()Z"), (0, .methodref 39 45), (0, .nameAndType 46 47), (0, u "equals"), (0, u "(Ljava/lang/Object;)Z"), (0, .string 49), (0, u "is closed"), (3, u "law"), (0, u "(II)Z")] 4

def k1m0 : Method := { name := "<init>", desc := "()V", sig := { parameters := [], returnType := none }, accessFlags := 1, code := none }
def k1c1 : Code := { maxStack := 2, maxLocals := 2, code := method_2_code, exceptionTable := #[], attributes := #[] }
def k1m1 : Method := { name := "stageOf", desc := "(I)Lcom/example/assemble/assemble/AssemblyState$Stage;", sig := { parameters := [.int], returnType := some (.object "com/example/assemble/assemble/AssemblyState$Stage") }, accessFlags := 10, code := some k1c1 }
def k1c2 : Code := { maxStack := 2, maxLocals := 9, code := code, exceptionTable := #[], attributes := #[] }
def k1m2 : Method := { name := "law", desc := "(II)Z", sig := { parameters := [.int, .int], returnType := some .boolean }, accessFlags := 9, code := some k1c2 }
/-- com/example/assemble/assemble/AssemblyStateDescribePinLaw -/
def k1 : Class := { plain "com/example/assemble/assemble/AssemblyStateDescribePinLaw" (some 0) with
  accessFlags := 49
  interfaces := #[]
  cf := some (fileOf pool1 27 #[] #[{ accessFlags := 1, nameIndex := 5, descriptorIndex := 6, attributes := #[] }, { accessFlags := 10, nameIndex := 30, descriptorIndex := 31, attributes := #[] }, { accessFlags := 9, nameIndex := 53, descriptorIndex := 54, attributes := #[] }] 49 2 #[] #[])
  fields := #[]
  methods := #[k1m0, k1m1, k1m2]
  instanceTypes := #[]
  staticTypes := #[]
  resolved := Array.replicate 59 none
  statics := none }

def pool2 : Array CpInfo := pool [(1, .class_ 2), (0, u "java/lang/constant/Constable"), (0, .class_ 4), (0, u "java/lang/Object")] 6

/-- java/lang/constant/Constable -/
def k2 : Class := { plain "java/lang/constant/Constable" (some 0) with
  accessFlags := 1537
  interfaces := #[]
  cf := some (fileOf pool2 1 #[] #[] 1537 3 #[] #[])
  fields := #[]
  methods := #[]
  instanceTypes := #[]
  staticTypes := #[]
  resolved := Array.replicate 11 none
  statics := none }

def pool3 : Array CpInfo := pool [(1, .class_ 2), (0, u "java/lang/Comparable"), (0, .class_ 4), (0, u "java/lang/Object")] 7

/-- java/lang/Comparable -/
def k3 : Class := { plain "java/lang/Comparable" (some 0) with
  accessFlags := 1537
  interfaces := #[]
  cf := some (fileOf pool3 1 #[] #[] 1537 3 #[] #[])
  fields := #[]
  methods := #[]
  instanceTypes := #[]
  staticTypes := #[]
  resolved := Array.replicate 12 none
  statics := none }

def pool4 : Array CpInfo := pool [(1, .class_ 2), (0, u "java/io/Serializable"), (0, .class_ 4), (0, u "java/lang/Object")] 2

/-- java/io/Serializable -/
def k4 : Class := { plain "java/io/Serializable" (some 0) with
  accessFlags := 1537
  interfaces := #[]
  cf := some (fileOf pool4 1 #[] #[] 1537 3 #[] #[])
  fields := #[]
  methods := #[]
  instanceTypes := #[]
  staticTypes := #[]
  resolved := Array.replicate 7 none
  statics := none }

def pool5 : Array CpInfo := pool [(2, .class_ 4), (1, u "java/lang/Enum"), (0, u "name"), (0, u "Ljava/lang/String;"), (0, .fieldref 2 8), (0, .nameAndType 9 10), (0, u "ordinal"), (0, u "I"), (1, .class_ 14), (1, u "java/lang/Object"), (4, u "hash"), (86, .class_ 108), (1, u "java/lang/Enum$EnumDesc"), (2, .class_ 112), (0, u "java/lang/constant/Constable"), (0, .class_ 114), (0, u "java/lang/Comparable"), (0, .class_ 116), (0, u "java/io/Serializable"), (9, u "()I")] 77

def k5c0 : Code := { maxStack := 1, maxLocals := 1, code := jdk_37_method_2_code, exceptionTable := #[], attributes := #[] }
def k5m0 : Method := { name := "ordinal", desc := "()I", sig := { parameters := [], returnType := some .int }, accessFlags := 17, code := some k5c0 }
/-- java/lang/Enum -/
def k5 : Class := { plain "java/lang/Enum" (some 0) with
  accessFlags := 1057
  interfaces := #[2, 3, 4]
  cf := some (fileOf pool5 2 #[.nestMembers #[106]] #[{ accessFlags := 17, nameIndex := 9, descriptorIndex := 126, attributes := #[] }] 1057 12 #[111, 113, 115] #[{ accessFlags := 18, nameIndex := 5, descriptorIndex := 6, attributes := #[] }, { accessFlags := 18, nameIndex := 9, descriptorIndex := 10, attributes := #[] }, { accessFlags := 2, nameIndex := 19, descriptorIndex := 10, attributes := #[] }])
  fields := #[{ name := "name", type := (.object "java/lang/String"), accessFlags := 18, slot := 0, constantValue := 0 }, { name := "ordinal", type := .int, accessFlags := 18, slot := 1, constantValue := 0 }, { name := "hash", type := .int, accessFlags := 2, slot := 2, constantValue := 0 }]
  methods := #[k5m0]
  instanceTypes := #[(.object "java/lang/String"), .int, .int]
  staticTypes := #[]
  resolved := Array.replicate 204 none
  statics := none }

def pool6 : Array CpInfo := pool [(1, .class_ 2), (0, u "com/example/assemble/assemble/AssemblyState$Stage"), (2, u "NEW"), (0, u "Lcom/example/assemble/assemble/AssemblyState$Stage;"), (2, u "STARTING"), (2, u "STARTED"), (2, u "FAILED"), (2, u "CLOSED"), (2, u "$VALUES"), (0, u "[Lcom/example/assemble/assemble/AssemblyState$Stage;"), (6, .class_ 31), (1, u "java/lang/Enum"), (28, .class_ 61), (0, u "com/example/assemble/assemble/AssemblyState")] 2

/-- com/example/assemble/assemble/AssemblyState$Stage -/
def k6 : Class := { plain "com/example/assemble/assemble/AssemblyState$Stage" (some 5) with
  accessFlags := 16432
  interfaces := #[]
  cf := some (fileOf pool6 1 #[.nestHost 60] #[] 16432 29 #[] #[{ accessFlags := 16409, nameIndex := 5, descriptorIndex := 6, attributes := #[] }, { accessFlags := 16409, nameIndex := 9, descriptorIndex := 6, attributes := #[] }, { accessFlags := 16409, nameIndex := 12, descriptorIndex := 6, attributes := #[] }, { accessFlags := 16409, nameIndex := 15, descriptorIndex := 6, attributes := #[] }, { accessFlags := 16409, nameIndex := 18, descriptorIndex := 6, attributes := #[] }, { accessFlags := 4122, nameIndex := 21, descriptorIndex := 22, attributes := #[] }])
  fields := #[{ name := "NEW", type := (.object "com/example/assemble/assemble/AssemblyState$Stage"), accessFlags := 16409, slot := 0, constantValue := 0 }, { name := "STARTING", type := (.object "com/example/assemble/assemble/AssemblyState$Stage"), accessFlags := 16409, slot := 1, constantValue := 0 }, { name := "STARTED", type := (.object "com/example/assemble/assemble/AssemblyState$Stage"), accessFlags := 16409, slot := 2, constantValue := 0 }, { name := "FAILED", type := (.object "com/example/assemble/assemble/AssemblyState$Stage"), accessFlags := 16409, slot := 3, constantValue := 0 }, { name := "CLOSED", type := (.object "com/example/assemble/assemble/AssemblyState$Stage"), accessFlags := 16409, slot := 4, constantValue := 0 }, { name := "$VALUES", type := (.array (.object "com/example/assemble/assemble/AssemblyState$Stage")), accessFlags := 4122, slot := 5, constantValue := 0 }]
  methods := #[]
  instanceTypes := #[(.object "java/lang/String"), .int, .int]
  staticTypes := #[(.object "com/example/assemble/assemble/AssemblyState$Stage"), (.object "com/example/assemble/assemble/AssemblyState$Stage"), (.object "com/example/assemble/assemble/AssemblyState$Stage"), (.object "com/example/assemble/assemble/AssemblyState$Stage"), (.object "com/example/assemble/assemble/AssemblyState$Stage"), (.array (.object "com/example/assemble/assemble/AssemblyState$Stage"))]
  resolved := Array.replicate 64 none
  statics := some 0 }

def pool7 : Array CpInfo := pool [(2, .class_ 4), (1, u "java/lang/Object"), (0, u "<init>"), (0, u "()V"), (1, .class_ 10), (1, u "com/example/assemble/assemble/AssemblyState$Stage"), (1, u "Lcom/example/assemble/assemble/AssemblyState$Stage;"), (1, .class_ 16), (1, u "com/example/assemble/assemble/AssemblyState"), (0, u "stage"), (11, u "starter"), (0, u "Ljava/lang/Thread;"), (2, u "latestRefusal"), (0, u "Ljava/lang/RuntimeException;"), (6, u "describe"), (0, u "(Lcom/example/assemble/assemble/AssemblyState$Stage;)Ljava/lang/String;"), (20, .methodref 8 64), (0, .nameAndType 65 66), (0, u "ordinal"), (0, u "()I"), (5, .string 73), (0, u "has not been started"), (0, .string 75), (0, u "is starting"), (0, .string 77), (0, u "has already been started"), (0, .string 79), (0, u "failed to start"), (0, .string 81), (0, u "is closed")] 34

def k7m0 : Method := { name := "<init>", desc := "()V", sig := { parameters := [], returnType := none }, accessFlags := 0, code := none }
def k7c1 : Code := { maxStack := 4, maxLocals := 1, code := prog_2_method_10_code, exceptionTable := #[], attributes := #[] }
def k7m1 : Method := { name := "describe", desc := "(Lcom/example/assemble/assemble/AssemblyState$Stage;)Ljava/lang/String;", sig := { parameters := [(.object "com/example/assemble/assemble/AssemblyState$Stage")], returnType := some (.object "java/lang/String") }, accessFlags := 8, code := some k7c1 }
/-- com/example/assemble/assemble/AssemblyState -/
def k7 : Class := { plain "com/example/assemble/assemble/AssemblyState" (some 0) with
  accessFlags := 32
  interfaces := #[]
  cf := some (fileOf pool7 14 #[.nestMembers #[8]] #[{ accessFlags := 0, nameIndex := 5, descriptorIndex := 6, attributes := #[] }, { accessFlags := 8, nameIndex := 41, descriptorIndex := 42, attributes := #[] }] 32 2 #[] #[{ accessFlags := 66, nameIndex := 17, descriptorIndex := 12, attributes := #[] }, { accessFlags := 2, nameIndex := 29, descriptorIndex := 30, attributes := #[] }, { accessFlags := 2, nameIndex := 33, descriptorIndex := 34, attributes := #[] }])
  fields := #[{ name := "stage", type := (.object "com/example/assemble/assemble/AssemblyState$Stage"), accessFlags := 66, slot := 0, constantValue := 0 }, { name := "starter", type := (.object "java/lang/Thread"), accessFlags := 2, slot := 1, constantValue := 0 }, { name := "latestRefusal", type := (.object "java/lang/RuntimeException"), accessFlags := 2, slot := 2, constantValue := 0 }]
  methods := #[k7m0, k7m1]
  instanceTypes := #[(.object "com/example/assemble/assemble/AssemblyState$Stage"), (.object "java/lang/Thread"), (.object "java/lang/RuntimeException")]
  staticTypes := #[]
  resolved := Array.replicate 116 none
  statics := none }

def pool8 : Array CpInfo := pool [(2, .class_ 4), (1, u "java/lang/CharSequence"), (42, .class_ 48), (0, u "java/lang/CharSequence$1CodePointIterator"), (10, .class_ 60), (0, u "java/lang/CharSequence$1CharIterator"), (5, .class_ 67), (0, u "java/lang/Object")] 63

/-- java/lang/CharSequence -/
def k8 : Class := { plain "java/lang/CharSequence" (some 0) with
  accessFlags := 1537
  interfaces := #[]
  cf := some (fileOf pool8 2 #[.nestMembers #[47, 59]] #[] 1537 66 #[] #[])
  fields := #[]
  methods := #[]
  instanceTypes := #[]
  staticTypes := #[]
  resolved := Array.replicate 131 none
  statics := none }

def pool9 : Array CpInfo := pool [(1, .class_ 2), (0, u "java/lang/constant/ConstantDesc"), (0, .class_ 4), (0, u "java/lang/Object")] 32

/-- java/lang/constant/ConstantDesc -/
def k9 : Class := { plain "java/lang/constant/ConstantDesc" (some 0) with
  accessFlags := 1537
  interfaces := #[]
  cf := some (fileOf pool9 1 #[] #[] 1537 3 #[] #[])
  fields := #[]
  methods := #[]
  instanceTypes := #[]
  staticTypes := #[]
  resolved := Array.replicate 37 none
  statics := none }

def pool10 : Array CpInfo := pool [(2, .class_ 4), (1, u "java/lang/Object"), (0, u "<init>"), (0, u "()V"), (2, .fieldref 10 11), (0, .class_ 12), (0, .nameAndType 13 14), (0, u "java/lang/String"), (0, u "value"), (0, u "[B"), (0, .fieldref 10 16), (0, .nameAndType 17 18), (0, u "coder"), (0, u "B"), (2, u "hash"), (0, u "I"), (2, u "hashIsZero"), (0, u "Z"), (11, .fieldref 10 39), (0, .nameAndType 40 26), (0, u "COMPACT_STRINGS"), (66, .class_ 109), (1, u "java/lang/StringLatin1"), (32, u "()Z"), (398, .methodref 107 542), (0, .nameAndType 543 544), (0, u "equals"), (0, u "([B[B)Z"), (28, u "(Ljava/lang/Object;)Z"), (1, .class_ 576), (0, u "java/lang/CharSequence"), (22, u "CASE_INSENSITIVE_ORDER"), (0, u "Ljava/util/Comparator;"), (91, u "isEmpty"), (408, u "serialPersistentFields"), (0, u "[Ljava/io/ObjectStreamField;"), (0, .class_ 1104), (0, u "java/lang/String$CaseInsensitiveComparator"), (1, .class_ 1107), (0, u "java/io/Serializable"), (0, .class_ 1109), (0, u "java/lang/Comparable"), (0, .class_ 1111), (0, u "java/lang/constant/Constable"), (0, .class_ 1113), (0, u "java/lang/constant/ConstantDesc"), (2, u "serialVersionUID"), (0, u "J"), (3, u "REPL"), (0, u "C"), (2, u "LATIN1"), (1, u "UTF16")] 323

def k10m0 : Method := { name := "<init>", desc := "()V", sig := { parameters := [], returnType := none }, accessFlags := 1, code := none }
def k10c1 : Code := { maxStack := 1, maxLocals := 1, code := jdk_42_method_55_code, exceptionTable := #[], attributes := #[] }
def k10m1 : Method := { name := "isEmpty", desc := "()Z", sig := { parameters := [], returnType := some .boolean }, accessFlags := 1, code := some k10c1 }
def k10c2 : Code := { maxStack := 2, maxLocals := 3, code := jdk_42_method_66_code, exceptionTable := #[], attributes := #[] }
def k10m2 : Method := { name := "equals", desc := "(Ljava/lang/Object;)Z", sig := { parameters := [(.object "java/lang/Object")], returnType := some .boolean }, accessFlags := 1, code := some k10c2 }
/-- java/lang/String -/
def k10 : Class := { plain "java/lang/String" (some 0) with
  accessFlags := 49
  interfaces := #[4, 3, 8, 2, 9]
  cf := some (fileOf pool10 10 #[.nestMembers #[1103]] #[{ accessFlags := 1, nameIndex := 5, descriptorIndex := 6, attributes := #[] }, { accessFlags := 1, nameIndex := 692, descriptorIndex := 142, attributes := #[] }, { accessFlags := 1, nameIndex := 543, descriptorIndex := 573, attributes := #[] }] 49 2 #[1106, 1108, 575, 1110, 1112] #[{ accessFlags := 18, nameIndex := 13, descriptorIndex := 14, attributes := #[] }, { accessFlags := 18, nameIndex := 17, descriptorIndex := 18, attributes := #[] }, { accessFlags := 2, nameIndex := 21, descriptorIndex := 22, attributes := #[] }, { accessFlags := 2, nameIndex := 25, descriptorIndex := 26, attributes := #[] }, { accessFlags := 26, nameIndex := 1116, descriptorIndex := 1117, attributes := #[] }, { accessFlags := 24, nameIndex := 40, descriptorIndex := 26, attributes := #[] }, { accessFlags := 26, nameIndex := 1101, descriptorIndex := 1102, attributes := #[] }, { accessFlags := 26, nameIndex := 1121, descriptorIndex := 1122, attributes := #[] }, { accessFlags := 25, nameIndex := 599, descriptorIndex := 600, attributes := #[] }, { accessFlags := 24, nameIndex := 1125, descriptorIndex := 18, attributes := #[] }, { accessFlags := 24, nameIndex := 1127, descriptorIndex := 18, attributes := #[] }])
  fields := #[{ name := "value", type := (.array .byte), accessFlags := 18, slot := 0, constantValue := 0 }, { name := "coder", type := .byte, accessFlags := 18, slot := 1, constantValue := 0 }, { name := "hash", type := .int, accessFlags := 2, slot := 2, constantValue := 0 }, { name := "hashIsZero", type := .boolean, accessFlags := 2, slot := 3, constantValue := 0 }, { name := "serialVersionUID", type := .long, accessFlags := 26, slot := 0, constantValue := 0 }, { name := "COMPACT_STRINGS", type := .boolean, accessFlags := 24, slot := 1, constantValue := 0 }, { name := "serialPersistentFields", type := (.array (.object "java/io/ObjectStreamField")), accessFlags := 26, slot := 2, constantValue := 0 }, { name := "REPL", type := .char, accessFlags := 26, slot := 3, constantValue := 0 }, { name := "CASE_INSENSITIVE_ORDER", type := (.object "java/util/Comparator"), accessFlags := 25, slot := 4, constantValue := 0 }, { name := "LATIN1", type := .byte, accessFlags := 24, slot := 5, constantValue := 0 }, { name := "UTF16", type := .byte, accessFlags := 24, slot := 6, constantValue := 0 }]
  methods := #[k10m0, k10m1, k10m2]
  instanceTypes := #[(.array .byte), .byte, .int, .boolean]
  staticTypes := #[.long, .boolean, (.array (.object "java/io/ObjectStreamField")), .char, (.object "java/util/Comparator"), .byte, .byte]
  resolved := Array.replicate 1451 none
  statics := some 1 }

def pool11 : Array CpInfo := pool [(4, .class_ 6), (1, u "java/lang/Object"), (0, u "<init>"), (0, u "()V"), (5, .class_ 16), (1, u "java/lang/StringLatin1"), (104, u "$assertionsDisabled"), (0, u "Z"), (98, .class_ 223), (1, u "java/lang/StringLatin1$LinesSpliterator"), (57, u "equals"), (0, u "([B[B)Z"), (107, .class_ 391), (0, u "java/lang/StringLatin1$CharsSpliterator")] 3

def k11m0 : Method := { name := "<init>", desc := "()V", sig := { parameters := [], returnType := none }, accessFlags := 0, code := none }
def k11c1 : Code := { maxStack := 3, maxLocals := 3, code := jdk_43_method_13_code, exceptionTable := #[], attributes := #[] }
def k11m1 : Method := { name := "equals", desc := "([B[B)Z", sig := { parameters := [(.array .byte), (.array .byte)], returnType := some .boolean }, accessFlags := 9, code := some k11c1 }
/-- java/lang/StringLatin1 -/
def k11 : Class := { plain "java/lang/StringLatin1" (some 0) with
  accessFlags := 48
  interfaces := #[]
  cf := some (fileOf pool11 14 #[.nestMembers #[390, 221]] #[{ accessFlags := 0, nameIndex := 7, descriptorIndex := 8, attributes := #[] }, { accessFlags := 9, nameIndex := 281, descriptorIndex := 282, attributes := #[] }] 48 4 #[] #[{ accessFlags := 4120, nameIndex := 121, descriptorIndex := 122, attributes := #[] }])
  fields := #[{ name := "$assertionsDisabled", type := .boolean, accessFlags := 4120, slot := 0, constantValue := 0 }]
  methods := #[k11m0, k11m1]
  instanceTypes := #[]
  staticTypes := #[.boolean]
  resolved := Array.replicate 395 none
  statics := none }

def pool12 : Array CpInfo := pool [(2, .class_ 4), (1, u "java/lang/Object"), (0, u "<init>"), (0, u "()V"), (17, .class_ 26), (1, u "jdk/internal/util/Preconditions"), (28, .class_ 56), (0, u "jdk/internal/util/Preconditions$4"), (57, .class_ 115), (0, u "jdk/internal/util/Preconditions$1"), (7, u "SIOOBE_FORMATTER"), (0, u "Ljava/util/function/BiFunction;"), (0, .class_ 126), (0, u "jdk/internal/util/Preconditions$2"), (3, u "AIOOBE_FORMATTER"), (0, .class_ 132), (0, u "jdk/internal/util/Preconditions$3"), (3, u "IOOBE_FORMATTER")] 57

def k12m0 : Method := { name := "<init>", desc := "()V", sig := { parameters := [], returnType := none }, accessFlags := 1, code := none }
/-- jdk/internal/util/Preconditions -/
def k12 : Class := { plain "jdk/internal/util/Preconditions" (some 0) with
  accessFlags := 33
  interfaces := #[]
  cf := some (fileOf pool12 24 #[.nestMembers #[55, 131, 125, 114]] #[{ accessFlags := 1, nameIndex := 5, descriptorIndex := 6, attributes := #[] }] 33 2 #[] #[{ accessFlags := 25, nameIndex := 123, descriptorIndex := 124, attributes := #[] }, { accessFlags := 25, nameIndex := 130, descriptorIndex := 124, attributes := #[] }, { accessFlags := 25, nameIndex := 136, descriptorIndex := 124, attributes := #[] }])
  fields := #[{ name := "SIOOBE_FORMATTER", type := (.object "java/util/function/BiFunction"), accessFlags := 25, slot := 0, constantValue := 0 }, { name := "AIOOBE_FORMATTER", type := (.object "java/util/function/BiFunction"), accessFlags := 25, slot := 1, constantValue := 0 }, { name := "IOOBE_FORMATTER", type := (.object "java/util/function/BiFunction"), accessFlags := 25, slot := 2, constantValue := 0 }]
  methods := #[k12m0]
  instanceTypes := #[]
  staticTypes := #[(.object "java/util/function/BiFunction"), (.object "java/util/function/BiFunction"), (.object "java/util/function/BiFunction")]
  resolved := Array.replicate 194 none
  statics := some 2 }

def pool13 : Array CpInfo := pool [(9, u "<init>"), (6, .class_ 18), (1, u "java/lang/Object"), (0, u "()V"), (1, .class_ 23), (1, u "jdk/internal/util/ArraysSupport"), (0, u "LOG2_ARRAY_LONG_INDEX_SCALE"), (0, u "I"), (2, u "U"), (0, u "Ljdk/internal/misc/Unsafe;"), (8, u "BIG_ENDIAN"), (0, u "Z"), (8, u "LOG2_BYTE_BIT_SIZE"), (4, u "LOG2_ARRAY_INT_INDEX_SCALE"), (54, u "JLA"), (0, u "Ljdk/internal/access/JavaLangAccess;"), (11, u "LOG2_ARRAY_BOOLEAN_INDEX_SCALE"), (9, u "LOG2_ARRAY_BYTE_INDEX_SCALE"), (5, u "LOG2_ARRAY_CHAR_INDEX_SCALE"), (5, u "LOG2_ARRAY_SHORT_INDEX_SCALE"), (18, u "LOG2_ARRAY_FLOAT_INDEX_SCALE"), (24, u "LOG2_ARRAY_DOUBLE_INDEX_SCALE"), (89, u "T_BOOLEAN"), (2, u "T_CHAR"), (1, u "T_FLOAT"), (1, u "T_DOUBLE"), (1, u "T_BYTE"), (1, u "T_SHORT"), (1, u "T_INT"), (1, u "T_LONG"), (1, u "SOFT_MAX_ARRAY_LENGTH")] 83

def k13m0 : Method := { name := "<init>", desc := "()V", sig := { parameters := [], returnType := none }, accessFlags := 2, code := none }
/-- jdk/internal/util/ArraysSupport -/
def k13 : Class := { plain "jdk/internal/util/ArraysSupport" (some 0) with
  accessFlags := 33
  interfaces := #[]
  cf := some (fileOf pool13 21 #[] #[{ accessFlags := 2, nameIndex := 9, descriptorIndex := 19, attributes := #[] }] 33 16 #[] #[{ accessFlags := 24, nameIndex := 28, descriptorIndex := 29, attributes := #[] }, { accessFlags := 26, nameIndex := 38, descriptorIndex := 39, attributes := #[] }, { accessFlags := 25, nameIndex := 121, descriptorIndex := 25, attributes := #[] }, { accessFlags := 25, nameIndex := 131, descriptorIndex := 25, attributes := #[] }, { accessFlags := 25, nameIndex := 137, descriptorIndex := 25, attributes := #[] }, { accessFlags := 25, nameIndex := 143, descriptorIndex := 25, attributes := #[] }, { accessFlags := 25, nameIndex := 53, descriptorIndex := 25, attributes := #[] }, { accessFlags := 25, nameIndex := 24, descriptorIndex := 25, attributes := #[] }, { accessFlags := 25, nameIndex := 162, descriptorIndex := 25, attributes := #[] }, { accessFlags := 25, nameIndex := 187, descriptorIndex := 25, attributes := #[] }, { accessFlags := 26, nameIndex := 48, descriptorIndex := 25, attributes := #[] }, { accessFlags := 25, nameIndex := 277, descriptorIndex := 25, attributes := #[] }, { accessFlags := 25, nameIndex := 280, descriptorIndex := 25, attributes := #[] }, { accessFlags := 25, nameIndex := 282, descriptorIndex := 25, attributes := #[] }, { accessFlags := 25, nameIndex := 284, descriptorIndex := 25, attributes := #[] }, { accessFlags := 25, nameIndex := 286, descriptorIndex := 25, attributes := #[] }, { accessFlags := 25, nameIndex := 288, descriptorIndex := 25, attributes := #[] }, { accessFlags := 25, nameIndex := 290, descriptorIndex := 25, attributes := #[] }, { accessFlags := 25, nameIndex := 292, descriptorIndex := 25, attributes := #[] }, { accessFlags := 26, nameIndex := 108, descriptorIndex := 109, attributes := #[] }, { accessFlags := 25, nameIndex := 294, descriptorIndex := 25, attributes := #[] }])
  fields := #[{ name := "U", type := (.object "jdk/internal/misc/Unsafe"), accessFlags := 24, slot := 0, constantValue := 0 }, { name := "BIG_ENDIAN", type := .boolean, accessFlags := 26, slot := 1, constantValue := 0 }, { name := "LOG2_ARRAY_BOOLEAN_INDEX_SCALE", type := .int, accessFlags := 25, slot := 2, constantValue := 0 }, { name := "LOG2_ARRAY_BYTE_INDEX_SCALE", type := .int, accessFlags := 25, slot := 3, constantValue := 0 }, { name := "LOG2_ARRAY_CHAR_INDEX_SCALE", type := .int, accessFlags := 25, slot := 4, constantValue := 0 }, { name := "LOG2_ARRAY_SHORT_INDEX_SCALE", type := .int, accessFlags := 25, slot := 5, constantValue := 0 }, { name := "LOG2_ARRAY_INT_INDEX_SCALE", type := .int, accessFlags := 25, slot := 6, constantValue := 0 }, { name := "LOG2_ARRAY_LONG_INDEX_SCALE", type := .int, accessFlags := 25, slot := 7, constantValue := 0 }, { name := "LOG2_ARRAY_FLOAT_INDEX_SCALE", type := .int, accessFlags := 25, slot := 8, constantValue := 0 }, { name := "LOG2_ARRAY_DOUBLE_INDEX_SCALE", type := .int, accessFlags := 25, slot := 9, constantValue := 0 }, { name := "LOG2_BYTE_BIT_SIZE", type := .int, accessFlags := 26, slot := 10, constantValue := 0 }, { name := "T_BOOLEAN", type := .int, accessFlags := 25, slot := 11, constantValue := 0 }, { name := "T_CHAR", type := .int, accessFlags := 25, slot := 12, constantValue := 0 }, { name := "T_FLOAT", type := .int, accessFlags := 25, slot := 13, constantValue := 0 }, { name := "T_DOUBLE", type := .int, accessFlags := 25, slot := 14, constantValue := 0 }, { name := "T_BYTE", type := .int, accessFlags := 25, slot := 15, constantValue := 0 }, { name := "T_SHORT", type := .int, accessFlags := 25, slot := 16, constantValue := 0 }, { name := "T_INT", type := .int, accessFlags := 25, slot := 17, constantValue := 0 }, { name := "T_LONG", type := .int, accessFlags := 25, slot := 18, constantValue := 0 }, { name := "JLA", type := (.object "jdk/internal/access/JavaLangAccess"), accessFlags := 26, slot := 19, constantValue := 0 }, { name := "SOFT_MAX_ARRAY_LENGTH", type := .int, accessFlags := 25, slot := 20, constantValue := 0 }]
  methods := #[k13m0]
  instanceTypes := #[]
  staticTypes := #[(.object "jdk/internal/misc/Unsafe"), .boolean, .int, .int, .int, .int, .int, .int, .int, .int, .int, .int, .int, .int, .int, .int, .int, .int, .int, (.object "jdk/internal/access/JavaLangAccess"), .int]
  resolved := Array.replicate 378 none
  statics := none }

def pool14 : Array CpInfo := pool [(1, u "java/lang/Cloneable"), (0, .class_ 1), (0, u "java/lang/Object"), (0, .class_ 3)] 3

/-- java/lang/Cloneable -/
def k14 : Class := { plain "java/lang/Cloneable" (some 0) with
  accessFlags := 1537
  interfaces := #[]
  cf := some (fileOf pool14 2 #[] #[] 1537 4 #[] #[])
  fields := #[]
  methods := #[]
  instanceTypes := #[]
  staticTypes := #[]
  resolved := Array.replicate 8 none
  statics := none }

/-- the primitive byte -/
def k15 : Class := { plain "byte" none with kind := .primitive 'B', accessFlags := 0x411 }
/-- [B -/
def k16 : Class := { plain "[B" (some 0) with kind := .array 15 .byte, interfaces := #[14, 4], accessFlags := 1041 }

/-- the primitive int -/
def k17 : Class := { plain "int" none with kind := .primitive 'I', accessFlags := 0x411 }
/-- [I -/
def k18 : Class := { plain "[I" (some 0) with kind := .array 17 .int, interfaces := #[14, 4], accessFlags := 1041 }

def heap : Heap := #[{ cls := 6, slots := #[.ref 3, .ref 4, .ref 5, .ref 6, .ref 7, .null], vm := .statics 6 },
  { cls := 10, slots := #[.long 0, .int 1, .null, .int 0, .null, .int 0, .int 0], vm := .statics 10 },
  { cls := 12, slots := #[.null, .null, .null], vm := .statics 12 },
  { cls := 6, slots := #[.null, .int 0, .int 0], vm := .none },
  { cls := 6, slots := #[.null, .int 1, .int 0], vm := .none },
  { cls := 6, slots := #[.null, .int 2, .int 0], vm := .none },
  { cls := 6, slots := #[.null, .int 3, .int 0], vm := .none },
  { cls := 6, slots := #[.null, .int 4, .int 0], vm := .none }]
def classes : Array Class := #[k0, k1, k2, k3, k4, k5, k6, k7, k8, k9, k10, k11, k12, k13, k14, k15, k16, k17, k18]
def interned : List (Array UInt16 × Addr) := []
def slotsUsed : Nat := 31
def theMethod : MethodId := ⟨1, 2⟩
def args0 : Array Value := #[.int 5, .int 7]
def aboutOver (below : List Frame) : State where
  vm := { classes := classes, interned := interned.toArray }
  heap := heap
  slotsUsed := slotsUsed
  threads := #[{ frames := .invoking theMethod args0 :: below }]
def below0 : List Frame := [.native { method := ⟨0, 0⟩, args := #[] }]
def about1 : State := aboutOver below0
def p0 : Program := .bare "" "" ""
def e0 : Env := launch0.env 0 0 0
theorem w_frames : about1.frames = Frame.invoking theMethod args0 :: below0 := rfl
set_option maxRecDepth 65536 in
theorem w_args : argsFit about1.vm theMethod args0 = true := by decide +kernel
set_option maxRecDepth 65536 in
theorem w_heap : heapFits about1 = true := by decide +kernel
set_option maxRecDepth 65536 in
theorem w_runnable : about1.curStatus? = some .runnable := by decide +kernel
set_option maxRecDepth 65536 in
theorem w_alone : about1.alone = true := by decide +kernel
set_option maxRecDepth 65536 in
theorem w_named : about1.methodNamed? x = some theMethod := by decide +kernel
set_option maxRecDepth 65536 in
theorem w_hears : about1.hears theMethod below0 = true := by decide +kernel
set_option maxRecDepth 65536 in
theorem w_ripe : about1.ripe theMethod args0 below0 = true := by decide +kernel
theorem w_running : about1.status = .running := rfl
set_option maxRecDepth 65536 in
theorem w_room : about1.hasRoom e0.platform room_1 = true :=
  launch0.hasRoom_least _ room_1 (by decide +kernel) (by decide +kernel) (by decide +kernel) (by decide +kernel) (by decide +kernel) (by decide +kernel)
theorem allAtoms_all (ts : List Jvm.Cond) (a : Array Jvm.Value) (st : Jvm.State) : (allAtoms ts).before a st = ts.all (fun c => c.before a st) := by
  induction ts with
  | nil => rfl
  | cons c t ih =>
    show (Jvm.Cond.and c (allAtoms t)).before a st = _
    rw [Jvm.Cond.before_and, ih, List.all_cons]
def words1 : List Jvm.Cond := Jvm.Cond.code x code maxLocals ret :: tables_1
/-- a 'code' word, met by the world's own term for the bytes: nothing is compared byte by byte -/
theorem code_word {y : MethodName} {bytes : ByteArray} {mx : Nat} {rt : Option FieldType} {a : Array Value} {s : State} {m : MethodId} {meth : Method} {c : Code} (h1 : s.methodNamed? y = some m) (h2 : s.vm.method? m = some meth) (h3 : meth.code = some c) (h4 : c.code = bytes)
    (h5 : (c.maxLocals == mx && c.exceptionTable.isEmpty && decide (c.maxStack ≤ mostOperands) && decide (meth.sig.returnType = rt) && !meth.locks && decide (parseMethodDescriptor y.desc = some meth.sig)) = true) : (Jvm.Cond.code y bytes mx rt).before a s = true := by
  simp only [Bool.and_eq_true, beq_iff_eq, Bool.not_eq_true', decide_eq_true_eq] at h5
  obtain ⟨⟨⟨⟨⟨g1, g2⟩, g3⟩, g4⟩, g5⟩, g6⟩ := h5
  simp [Cond.before, Cond.holds, Cond.value, h1, h2, h3, h4, g1, g2, g3, g4, g5, g6]
def isCode : Jvm.Cond → Bool
  | .code _ _ _ _ => true
  | _ => false
theorem all_split {L : List Jvm.Cond} {P : Jvm.Cond → Bool} (h1 : L.all (fun c => isCode c || P c) = true) (h2 : ∀ c ∈ L.filter isCode, P c = true) : L.all P = true := by
  refine List.all_eq_true.mpr fun c hc => ?_
  have h := List.all_eq_true.mp h1 c hc
  rcases Bool.eq_false_or_eq_true (isCode c) with hi | hi
  · exact h2 c (List.mem_filter.mpr ⟨hc, hi⟩)
  · simpa [hi] using h
set_option maxRecDepth 65536 in
theorem w_c0 : (Jvm.Cond.code x code maxLocals ret).before args0 about1 = true := code_word (m := ⟨1, 2⟩) (meth := k1m2) (c := k1c2) (by decide +kernel) rfl rfl rfl (by decide +kernel)
set_option maxRecDepth 65536 in
theorem w_c1 : (Jvm.Cond.code ({ cls := "com/example/assemble/assemble/AssemblyStateDescribePinLaw", name := "stageOf", desc := "(I)Lcom/example/assemble/assemble/AssemblyState$Stage;" } : Jvm.MethodName) method_2_code (2 : Nat) (Option.some (Jvm.ClassFile.FieldType.object "com/example/assemble/assemble/AssemblyState$Stage"))).before args0 about1 = true := code_word (m := ⟨1, 1⟩) (meth := k1m1) (c := k1c1) (by decide +kernel) rfl rfl rfl (by decide +kernel)
set_option maxRecDepth 65536 in
theorem w_c2 : (Jvm.Cond.code ({ cls := "com/example/assemble/assemble/AssemblyState", name := "describe", desc := "(Lcom/example/assemble/assemble/AssemblyState$Stage;)Ljava/lang/String;" } : Jvm.MethodName) prog_2_method_10_code (1 : Nat) (Option.some (Jvm.ClassFile.FieldType.object "java/lang/String"))).before args0 about1 = true := code_word (m := ⟨7, 1⟩) (meth := k7m1) (c := k7c1) (by decide +kernel) rfl rfl rfl (by decide +kernel)
set_option maxRecDepth 65536 in
theorem w_c3 : (Jvm.Cond.code ({ cls := "java/lang/Enum", name := "ordinal", desc := "()I" } : Jvm.MethodName) jdk_37_method_2_code (1 : Nat) (Option.some Jvm.ClassFile.FieldType.int)).before args0 about1 = true := code_word (m := ⟨5, 0⟩) (meth := k5m0) (c := k5c0) (by decide +kernel) rfl rfl rfl (by decide +kernel)
set_option maxRecDepth 65536 in
theorem w_c4 : (Jvm.Cond.code ({ cls := "java/lang/String", name := "isEmpty", desc := "()Z" } : Jvm.MethodName) jdk_42_method_55_code (1 : Nat) (Option.some Jvm.ClassFile.FieldType.boolean)).before args0 about1 = true := code_word (m := ⟨10, 1⟩) (meth := k10m1) (c := k10c1) (by decide +kernel) rfl rfl rfl (by decide +kernel)
set_option maxRecDepth 65536 in
theorem w_c5 : (Jvm.Cond.code ({ cls := "java/lang/String", name := "equals", desc := "(Ljava/lang/Object;)Z" } : Jvm.MethodName) jdk_42_method_66_code (3 : Nat) (Option.some Jvm.ClassFile.FieldType.boolean)).before args0 about1 = true := code_word (m := ⟨10, 2⟩) (meth := k10m2) (c := k10c2) (by decide +kernel) rfl rfl rfl (by decide +kernel)
set_option maxRecDepth 65536 in
theorem w_c6 : (Jvm.Cond.code ({ cls := "java/lang/StringLatin1", name := "equals", desc := "([B[B)Z" } : Jvm.MethodName) jdk_43_method_13_code (3 : Nat) (Option.some Jvm.ClassFile.FieldType.boolean)).before args0 about1 = true := code_word (m := ⟨11, 1⟩) (meth := k11m1) (c := k11c1) (by decide +kernel) rfl rfl rfl (by decide +kernel)
def codes1 : List Jvm.Cond := [Jvm.Cond.code x code maxLocals ret, Jvm.Cond.code ({ cls := "com/example/assemble/assemble/AssemblyStateDescribePinLaw", name := "stageOf", desc := "(I)Lcom/example/assemble/assemble/AssemblyState$Stage;" } : Jvm.MethodName) method_2_code (2 : Nat) (Option.some (Jvm.ClassFile.FieldType.object "com/example/assemble/assemble/AssemblyState$Stage")), Jvm.Cond.code ({ cls := "com/example/assemble/assemble/AssemblyState", name := "describe", desc := "(Lcom/example/assemble/assemble/AssemblyState$Stage;)Ljava/lang/String;" } : Jvm.MethodName) prog_2_method_10_code (1 : Nat) (Option.some (Jvm.ClassFile.FieldType.object "java/lang/String")), Jvm.Cond.code ({ cls := "java/lang/Enum", name := "ordinal", desc := "()I" } : Jvm.MethodName) jdk_37_method_2_code (1 : Nat) (Option.some Jvm.ClassFile.FieldType.int), Jvm.Cond.code ({ cls := "java/lang/String", name := "isEmpty", desc := "()Z" } : Jvm.MethodName) jdk_42_method_55_code (1 : Nat) (Option.some Jvm.ClassFile.FieldType.boolean), Jvm.Cond.code ({ cls := "java/lang/String", name := "equals", desc := "(Ljava/lang/Object;)Z" } : Jvm.MethodName) jdk_42_method_66_code (3 : Nat) (Option.some Jvm.ClassFile.FieldType.boolean), Jvm.Cond.code ({ cls := "java/lang/StringLatin1", name := "equals", desc := "([B[B)Z" } : Jvm.MethodName) jdk_43_method_13_code (3 : Nat) (Option.some Jvm.ClassFile.FieldType.boolean)]
set_option maxRecDepth 65536 in
theorem codes_eq : words1.filter isCode = codes1 := rfl
theorem w_codes : ∀ c ∈ words1.filter isCode, c.before args0 about1 = true := by
  rw [codes_eq]
  intro c hc
  simp only [codes1, List.mem_cons, List.not_mem_nil, or_false] at hc
  rcases hc with rfl | rfl | rfl | rfl | rfl | rfl | rfl
  · exact w_c0
  · exact w_c1
  · exact w_c2
  · exact w_c3
  · exact w_c4
  · exact w_c5
  · exact w_c6
set_option maxRecDepth 65536 in
theorem w_t1 : (words1.take 24).all (fun c => isCode c || c.before args0 about1) = true := by decide +kernel
set_option maxRecDepth 65536 in
theorem w_t2 : ((words1.drop 24).take 24).all (fun c => isCode c || c.before args0 about1) = true := by decide +kernel
set_option maxRecDepth 65536 in
theorem w_t3 : ((words1.drop 24).drop 24).all (fun c => isCode c || c.before args0 about1) = true := by decide +kernel
theorem w_tables : (allAtoms (Jvm.Cond.code x code maxLocals ret :: tables_1)).before args0 about1 = true := by
  rw [allAtoms_all]
  show words1.all (fun c => c.before args0 about1) = true
  refine all_split ?_ w_codes
  rw [← List.take_append_drop 24 words1, List.all_append, w_t1, ← List.take_append_drop 24 (words1.drop 24), List.all_append, w_t2, w_t3]
  rfl
set_option maxRecDepth 65536 in
theorem w_rest : rest_1_c.before args0 about1 = true := by decide +kernel
set_option maxRecDepth 65536 in
theorem w_case : (Jvm.Cond.and given_1 narrow_1).before args0 about1 = true := by decide +kernel
set_option maxRecDepth 65536 in
theorem w_consts : constsHeld consts_1 about1 := Jvm.Lit.constsHeldB_iff.mp (by decide +kernel)
theorem w_applies : (headSpec (Jvm.Cond.code x code maxLocals ret :: tables_1) room_1).applies x e0.platform about1 = true :=
  (Spec.applies_iff w_frames).mpr ⟨w_running, w_runnable, w_alone, w_named, w_hears, w_ripe, w_room, w_tables⟩
theorem atStart : AtStart classFile x code maxLocals ret World_1 tables_1 room_1 Calls_1 rest_1 Pre_1 launch0 p0 e0 about1 theMethod args0 below0 :=
  ⟨lists_1, trivial, launch0.admits_env _ _ _, launch0.least_env, fairChoices_fair.cas, fairChoices_fair.clock, w_frames, w_args, w_heap, w_applies, ⟨w_consts, trivial⟩, w_rest, w_case⟩
end start1
theorem witness_1 : WitnessClaimed_1 := ⟨start1.p0, start1.e0, start1.about1, start1.theMethod, start1.args0, start1.below0, start1.atStart⟩
end Jvm.Pilot.@@N@@
