import JvmDerived
import JvmDerived.Pilot.@@N@@Statement
import JvmDerived.Pilot.@@N@@Code
set_option linter.unusedVariables false
set_option linter.unusedSimpArgs false
@@BLOCK:NumsL.lean.txt@@
namespace Jvm.Pilot.@@N@@
open Jvm Jvm.ClassFile Sem Op Lib Jvm.Free Jvm.Stand Jvm.LawKit Jvm.RoadKit Bundle Jvm.Pilot.@@N@@.Jvm.D
section Own
variable {p : Program} {l : Launch} {e : Env} {R : Room} {s : State} {m : MethodId} {args : Array Value} {below : List Frame} {meth : Method} {c : Code} {T : State} {locs : List Loc} {cells slots : Nat}
/-- from A the run ends, and what it leaves is as Q says -/
def own_go (p : Program) (e : Env) (below : List Frame) (s : State) (Q : Option Value → Heap → List Loc → Prop) (C S : Nat) (A : State) : Prop :=
  ∃ t o, Steps p.tables e below A t ∧ t.status = .running ∧ Ended t below o ∧ ∃ v L, o = .returned v ∧ Q v t.heap L ∧ FrameEnd s o t L C S
variable {Q : Option Value → Heap → List Loc → Prop} {C S : Nat} {A B : State}
theorem own_in (h : own_go p e below s Q C S A) : ∃ t o, Steps p.tables e below A t ∧ t.status = .running ∧ Ended t below o ∧ ∃ v L, o = .returned v ∧ Q v t.heap L ∧ FrameEnd s o t L C S := h
theorem own_of (k : ∀ t, Steps p.tables e below B t → Steps p.tables e below A t) (h : own_go p e below s Q C S B) : own_go p e below s Q C S A := by
  obtain ⟨t, o, h1, h2⟩ := h
  exact ⟨t, o, k t h1, h2⟩
theorem own_lt {a b : Nat} (h : a < b) : a < b := h
theorem own_ne {a b : Nat} (h : a ≠ b) : a ≠ b := h
theorem own_use {α : Type} (X : Stand p l e R s m args below meth c T locs cells slots) {h : Heap} {g : α → JFrame} {G : State → Prop} (k : ∀ (r : α) (T' : State), Stand p l e R s m args below meth c T' locs cells slots → T'.heap = h → G (T'.setTop (g r)))
    (b : (∀ (r : α) (T' : State), Stand p l e R s m args below meth c T' locs cells slots → T'.heap = h → G (T'.setTop (g r))) → G A) : G A := b k
theorem own_ret (X : Stand p l e R s m args below meth c T locs cells slots) (hx : p.tables.exec = Jvm.exec) (hlk : meth.locks = false) {pc : Nat} {Ls : Array Slot} {w : Value} {t : FieldType} {i : Instr} {rest : List Value} (hret : meth.sig.returnType = some t) (hn : narrow t w = w)
    (hi : (i = .ireturn ∧ (t = .int ∨ t = .boolean ∨ t = .byte ∨ t = .char ∨ t = .short) ∧ ∃ z, w = .int z) ∨ (i = .lreturn ∧ t = .long ∧ ∃ z, w = .long z) ∨ (i = .dreturn ∧ t = .double ∧ ∃ z, w = .double z) ∨ (i = .freturn ∧ t = .float ∧ ∃ z, w = .float z) ∨ (i = .areturn ∧ t.isReference = true ∧ w.isRef = true))
    (hd : decode c.code pc = .ok (i, 1)) (hc : cells ≤ C) (hs : slots ≤ S) (hQ : Q (some w) T.heap locs) : own_go p e below s Q C S (T.setTop (mkF m pc Ls (w :: rest))) := by
  obtain ⟨fs, hr, hrun, hended, hW, hsame⟩ := X.leave (v := some w) (fun h => by rw [hret] at h; cases h) hlk
  exact ⟨_, _, retOut X hx hret hn hi hd hr, hrun, hended, _, _, rfl, hQ, ⟨_, rfl⟩, hW, hsame.mono hc hs⟩
theorem own_retV (X : Stand p l e R s m args below meth c T locs cells slots) (hx : p.tables.exec = Jvm.exec) (hlk : meth.locks = false) {pc : Nat} {Ls : Array Slot} (hret : meth.sig.returnType = none)
    (hd : decode c.code pc = .ok (.return_, 1)) (hc : cells ≤ C) (hs : slots ≤ S) (hQ : Q none T.heap locs) : own_go p e below s Q C S (T.setTop (mkF m pc Ls [])) := by
  obtain ⟨fs, hr, hrun, hended, hW, hsame⟩ := X.leave (v := none) (fun _ => rfl) hlk
  exact ⟨_, _, X.returnOut hx hret hd hr, hrun, hended, _, _, rfl, hQ, ⟨_, rfl⟩, hW, hsame.mono hc hs⟩
/-- the same where String constants may have been loaded -/
def own_gw (p : Program) (e : Env) (below : List Frame) (s : State) (Q : Option Value → Heap → List Loc → Prop) (C S : Nat) (A : State) : Prop :=
  ∃ t o, Steps p.tables e below A t ∧ t.status = .running ∧ Ended t below o ∧ ∃ v L, o = .returned v ∧ Q v t.heap L ∧ ReturnedEndW s o t L C S
theorem own_inw (h : own_gw p e below s Q C S A) : ∃ t o, Steps p.tables e below A t ∧ t.status = .running ∧ Ended t below o ∧ ∃ v L, o = .returned v ∧ Q v t.heap L ∧ ReturnedEndW s o t L C S := h
theorem own_ofw (k : ∀ t, Steps p.tables e below B t → Steps p.tables e below A t) (h : own_gw p e below s Q C S B) : own_gw p e below s Q C S A := by
  obtain ⟨t, o, h1, h2⟩ := h
  exact ⟨t, o, k t h1, h2⟩
theorem own_retw {vm0 : Vm} {k0 : Nat} (X : Stand p l e R (s.setVm vm0) m args below meth c T locs cells slots) (hx : p.tables.exec = Jvm.exec) (hlk : meth.locks = false) (hS : s.Since vm0 k0) (hk : k0 ≤ T.heap.size) {pc : Nat} {Ls : Array Slot} {w : Value} {t : FieldType} {i : Instr} {rest : List Value} (hret : meth.sig.returnType = some t) (hn : narrow t w = w)
    (hi : (i = .ireturn ∧ (t = .int ∨ t = .boolean ∨ t = .byte ∨ t = .char ∨ t = .short) ∧ ∃ z, w = .int z) ∨ (i = .lreturn ∧ t = .long ∧ ∃ z, w = .long z) ∨ (i = .dreturn ∧ t = .double ∧ ∃ z, w = .double z) ∨ (i = .freturn ∧ t = .float ∧ ∃ z, w = .float z) ∨ (i = .areturn ∧ t.isReference = true ∧ w.isRef = true))
    (hd : decode c.code pc = .ok (i, 1)) (hc : cells ≤ C) (hs : slots ≤ S) (hQ : Q (some w) T.heap locs) : own_gw p e below s Q C S (T.setTop (mkF m pc Ls (w :: rest))) := by
  obtain ⟨fs, hr, hrun, hended, h1, h2, h3, h4⟩ := X.leaveW hS hk (v := some w) (fun h => by rw [hret] at h; cases h) hlk
  exact ⟨_, _, retOut X hx hret hn hi hd hr, hrun, hended, _, _, rfl, hQ, h1, h2, h3, h4.mono hc hs⟩
theorem own_retVw {vm0 : Vm} {k0 : Nat} (X : Stand p l e R (s.setVm vm0) m args below meth c T locs cells slots) (hx : p.tables.exec = Jvm.exec) (hlk : meth.locks = false) (hS : s.Since vm0 k0) (hk : k0 ≤ T.heap.size) {pc : Nat} {Ls : Array Slot} (hret : meth.sig.returnType = none)
    (hd : decode c.code pc = .ok (.return_, 1)) (hc : cells ≤ C) (hs : slots ≤ S) (hQ : Q none T.heap locs) : own_gw p e below s Q C S (T.setTop (mkF m pc Ls [])) := by
  obtain ⟨fs, hr, hrun, hended, h1, h2, h3, h4⟩ := X.leaveW hS hk (v := none) (fun _ => rfl) hlk
  exact ⟨_, _, X.returnOut hx hret hd hr, hrun, hended, _, _, rfl, hQ, h1, h2, h3, h4.mono hc hs⟩
/-- the same, with what the JVM holds for the constants of EL -/
def own_gc (p : Program) (e : Env) (below : List Frame) (s : State) (Z : State) (EL : List (String × Nat)) (Q : Option Value → Heap → List Loc → Prop) (C S : Nat) (A : State) : Prop :=
  ∃ t o, Steps p.tables e below A t ∧ t.status = .running ∧ Ended t below o ∧ ∃ v L, o = .returned v ∧ Q v t.heap L ∧ CHr Z EL s.vm s.heap t.vm t.heap ∧ ReturnedEndW s o t L C S
variable {Z : State} {EL : List (String × Nat)} {a0 : Array Value}
theorem own_inc (h : own_gc p e below s Z EL Q C S A) : ∃ t o, Steps p.tables e below A t ∧ t.status = .running ∧ Ended t below o ∧ ∃ v L, o = .returned v ∧ Q v t.heap L ∧ CHr Z EL s.vm s.heap t.vm t.heap ∧ ReturnedEndW s o t L C S := h
theorem own_ofc (k : ∀ t, Steps p.tables e below B t → Steps p.tables e below A t) (h : own_gc p e below s Z EL Q C S B) : own_gc p e below s Z EL Q C S A := by
  obtain ⟨t, o, h1, h2⟩ := h
  exact ⟨t, o, k t h1, h2⟩
theorem own_retc {vm0 : Vm} {k0 : Nat} (X : Stand p l e R (s.setVm vm0) m args below meth c T locs cells slots) (hx : p.tables.exec = Jvm.exec) (hlk : meth.locks = false) (hS : s.Since vm0 k0) (hk : k0 ≤ T.heap.size) (hZ : Z.Warmed39 vm0) (hEL : EW Z a0 EL) (H : CHr Z EL s.vm s.heap vm0 T.heap) {pc : Nat} {Ls : Array Slot} {w : Value} {t : FieldType} {i : Instr} {rest : List Value} (hret : meth.sig.returnType = some t) (hn : narrow t w = w)
    (hi : (i = .ireturn ∧ (t = .int ∨ t = .boolean ∨ t = .byte ∨ t = .char ∨ t = .short) ∧ ∃ z, w = .int z) ∨ (i = .lreturn ∧ t = .long ∧ ∃ z, w = .long z) ∨ (i = .dreturn ∧ t = .double ∧ ∃ z, w = .double z) ∨ (i = .freturn ∧ t = .float ∧ ∃ z, w = .float z) ∨ (i = .areturn ∧ t.isReference = true ∧ w.isRef = true))
    (hd : decode c.code pc = .ok (i, 1)) (hc : cells ≤ C) (hs : slots ≤ S) (hQ : Q (some w) T.heap locs) : own_gc p e below s Z EL Q C S (T.setTop (mkF m pc Ls (w :: rest))) := by
  obtain ⟨fs, hr, hrun, hended, h1, h2, h3, h4⟩ := X.leaveW hS hk (v := some w) (fun h => by rw [hret] at h; cases h) hlk
  have q : CHr Z EL s.vm s.heap T.vm T.heap := H.trans (CHv.at X hZ hEL H.1)
  exact ⟨_, _, retOut X hx hret hn hi hd hr, hrun, hended, _, _, rfl, hQ, q, h1, h2, h3, h4.mono hc hs⟩
theorem own_retVc {vm0 : Vm} {k0 : Nat} (X : Stand p l e R (s.setVm vm0) m args below meth c T locs cells slots) (hx : p.tables.exec = Jvm.exec) (hlk : meth.locks = false) (hS : s.Since vm0 k0) (hk : k0 ≤ T.heap.size) (hZ : Z.Warmed39 vm0) (hEL : EW Z a0 EL) (H : CHr Z EL s.vm s.heap vm0 T.heap) {pc : Nat} {Ls : Array Slot} (hret : meth.sig.returnType = none)
    (hd : decode c.code pc = .ok (.return_, 1)) (hc : cells ≤ C) (hs : slots ≤ S) (hQ : Q none T.heap locs) : own_gc p e below s Z EL Q C S (T.setTop (mkF m pc Ls [])) := by
  obtain ⟨fs, hr, hrun, hended, h1, h2, h3, h4⟩ := X.leaveW hS hk (v := none) (fun _ => rfl) hlk
  have q : CHr Z EL s.vm s.heap T.vm T.heap := H.trans (CHv.at X hZ hEL H.1)
  exact ⟨_, _, X.returnOut hx hret hd hr, hrun, hended, _, _, rfl, hQ, q, h1, h2, h3, h4.mono hc hs⟩
open Jvm.Free.SB Jvm.Free.SBG in
/-- a String that has no array yet is no constant's -/
theorem own_safe_null {vm : Vm} {h : Heap} {x : Addr} (hal : Z.vm.Alike vm) (E : Exa Z h x "java/lang/String") (F : Fld Z h x "java/lang/String" "value" "[B" .null) : Safe Z EL vm h x := fun B => by
  obtain ⟨p, -, u, a, -, q, -, F', rfl | rfl⟩ := B
  · obtain ⟨cS, ⟨⟨s1, s2, s3, ⟨cv, kv, iv, s4, s4'⟩, s5, s6, s7, s8, -⟩, -, -⟩, -⟩ := F'
    obtain ⟨cell, cf, k, i, f, h1, h2, h3, -, -, -, h7⟩ := F
    cases (show h[q.sa]? = some q.sC from s1).symm.trans h1
    obtain ⟨kv', z4⟩ := ff_back (U := Wst Z vm h) hal s4
    have e4 := z4.symm.trans h2
    simp only [Option.some.injEq, Prod.mk.injEq] at e4
    rw [e4.2.2.2] at s8
    have := s8.symm.trans h7
    simp at this
  · obtain ⟨cell, k, e1, e2, e3, -, -⟩ := E
    cases (show h[q.sd]? = some q.SA from F'.hd).symm.trans e1
    obtain ⟨cS, -, -, f, -⟩ := F'
    have f' : vm.findClass "[B" = some q.SA.cls := f
    rw [hal.findClass] at f'
    obtain ⟨k1, q1, q2⟩ := Vm.findClass_spec f'
    obtain ⟨k2, q3, q4⟩ := Vm.findClass_spec e2
    cases q1.symm.trans q3
    have := q2.symm.trans q4
    simp at this
theorem own_ex {t : Term} {K : String} (h : (Jvm.Cond.exactly t K).value args s none s [] = some true) : ∃ a, t.eval args s none [] s = some (.ref a) ∧ Exa s s.heap a K := by
  obtain ⟨a, ha⟩ := exa_v h
  exact ⟨a, ha, Exa.start ha h⟩
theorem own_fi {t : Term} {K n d : String} {a : Addr} {k : Int32} (ht : t.eval args s none [] s = some (.ref a)) (h : (Jvm.Cond.eq (Term.field t K n d) (Term.int k)).value args s none s [] = some true) : Fld s s.heap a K n d (.int k) := by
  obtain ⟨x, y, h1, h2, h3, h4⟩ := cmp_v (Or.inl h)
  have e2 := Option.some.inj ((Term.int_eval k).symm.trans h2)
  subst e2
  rw [fld_at ht] at h1
  obtain ⟨z, rfl⟩ := h4
  have hz : s.fieldOf? a K n d = some (.int z) := h1
  have : z = k := by
    have h5 : (Term.field t K n d).eval args s none [] s = some (.int z) := (fld_at ht).trans hz
    simpa [Cond.value, h5, Term.int_eval] using h
  subst this
  exact Fld.start hz
end Own
section Plain
open Jvm.FP.Core
/-- 2^k; by well-founded recursion, so that no tactic opens it -/
def own_pow (k : Nat) : Nat := if k = 0 then 1 else 2 * own_pow (k - 1)
termination_by k
decreasing_by omega
theorem own_pow_eq (k : Nat) : own_pow k = 2 ^ k := by
  induction k with
  | zero => rw [own_pow]; rfl
  | succ n ih => rw [own_pow, if_neg (by omega), Nat.add_sub_cancel, ih, Nat.pow_succ, Nat.mul_comm]
/-- 2^1014 -/
def own_W : Nat := own_pow 1014
theorem own_W_eq {k : Nat} (h : k = 1014) : own_W = 2 ^ k := by subst h; exact own_pow_eq _
theorem own_Wpos : 0 < own_W := by rw [own_W_eq (k := 1014) rfl]; exact Nat.pow_pos (by decide)
theorem own_pw {j k : Nat} (h : k = j + 1014) : 2 ^ k = 2 ^ j * own_W := by rw [h, Nat.pow_add, own_W_eq rfl]
/-- 1.0 in units of the least number -/
def own_U : Nat := 2 ^ 60 * own_W
theorem own_U_eq : own_U = 2 ^ (-b64.qmin).toNat := by
  rw [show (-b64.qmin).toNat = 60 + 1014 by decide]; exact (own_pw rfl).symm
theorem own_Upos : 0 < own_U := Nat.mul_pos (by decide) own_Wpos
theorem own_qmin : b64.qmin = -1074 := by decide
/-- a number that the format holds, in units of the least one -/
def own_Rep (w : Nat) : Prop := ∃ c q, Jvm.FP.Core.fits b64 (.fin false c q) ∧ inUnits c q b64.qmin = w
theorem own_fits_sgn {s t : Bool} {c : Nat} {q : Int} (h : Jvm.FP.Core.fits b64 (.fin s c q)) : Jvm.FP.Core.fits b64 (.fin t c q) := h
theorem own_rep {m k : Nat} (hm : m < 2 ^ 53) (hk : k ≤ 1500) : own_Rep (m * 2 ^ k) := by
  rcases Nat.eq_zero_or_pos m with h0 | h0
  · subst h0
    exact ⟨0, b64.qmin, ⟨by decide, by decide, by decide, Or.inl rfl⟩, by simp [inUnits]⟩
  · have a1 : 2 ^ m.log2 ≤ m := Nat.log2_self_le (by omega)
    have a2 : m < 2 ^ (m.log2 + 1) := Nat.lt_log2_self
    have hL : m.log2 < 53 := (Nat.pow_lt_pow_iff_right (by decide : 1 < 2)).mp (Nat.lt_of_le_of_lt a1 hm)
    generalize m.log2 = L at *
    by_cases hc : 52 - L ≤ k
    · refine ⟨m * 2 ^ (52 - L), b64.qmin + ((k - (52 - L) : Nat) : Int), ⟨?_, ?_, ?_, Or.inr ?_⟩, ?_⟩
      · show _ < 2 ^ 53
        calc m * 2 ^ (52 - L) < 2 ^ (L + 1) * 2 ^ (52 - L) := Nat.mul_lt_mul_of_pos_right a2 (Nat.two_pow_pos _)
          _ = 2 ^ 53 := by rw [← Nat.pow_add]; congr 1; omega
      · omega
      · rw [show b64.qmax = 971 by decide, own_qmin]; omega
      · show 2 ^ 52 ≤ _
        calc 2 ^ 52 = 2 ^ L * 2 ^ (52 - L) := by rw [← Nat.pow_add]; congr 1; omega
          _ ≤ _ := Nat.mul_le_mul_right _ a1
      · unfold inUnits
        rw [show (b64.qmin + ((k - (52 - L) : Nat) : Int) - b64.qmin).toNat = k - (52 - L) by omega, Nat.mul_assoc, ← Nat.pow_add]; congr 2; omega
    · refine ⟨m * 2 ^ k, b64.qmin, ⟨?_, ?_, ?_, Or.inl rfl⟩, ?_⟩
      · show _ < 2 ^ 53
        calc m * 2 ^ k < 2 ^ (L + 1) * 2 ^ k := Nat.mul_lt_mul_of_pos_right a2 (Nat.two_pow_pos _)
          _ = 2 ^ (L + 1 + k) := by rw [← Nat.pow_add]
          _ ≤ 2 ^ 53 := Nat.pow_le_pow_right (by decide) (by omega)
      · omega
      · decide
      · simp [inUnits]
/-- Z is X / Y, rounded -/
def own_Rnd (X Y Z : Nat) : Prop :=
  (∀ w, own_Rep w → X ≤ w * Y → Z ≤ w) ∧ (∀ w, own_Rep w → w * Y ≤ X → w ≤ Z) ∧
  (2 ^ 52 * Y ≤ X → 2 ^ 53 * X ≤ 2 ^ 53 * (Z * Y) + X) ∧ (2 ^ 52 * Y ≤ X → 2 ^ 53 * (Z * Y) ≤ 2 ^ 53 * X + X)
theorem own_Rnd.le {X Y Z : Nat} (R : own_Rnd X Y Z) : ∀ w, own_Rep w → X ≤ w * Y → Z ≤ w := R.1
theorem own_Rnd.ge {X Y Z : Nat} (R : own_Rnd X Y Z) : ∀ w, own_Rep w → w * Y ≤ X → w ≤ Z := R.2.1
theorem own_Rnd.lo {X Y Z : Nat} (R : own_Rnd X Y Z) : 2 ^ 52 * Y ≤ X → 2 ^ 53 * X ≤ 2 ^ 53 * (Z * Y) + X := R.2.2.1
theorem own_Rnd.hi {X Y Z : Nat} (R : own_Rnd X Y Z) : 2 ^ 52 * Y ≤ X → 2 ^ 53 * (Z * Y) ≤ 2 ^ 53 * X + X := R.2.2.2
theorem own_Rnd.exact {X Y Z w : Nat} (R : own_Rnd X Y Z) (hw : own_Rep w) (h : X = w * Y) : Z = w :=
  Nat.le_antisymm (R.le w hw (Nat.le_of_eq h)) (R.ge w hw (Nat.le_of_eq h.symm))
theorem own_core {X D N G M P : Nat} (hD : 0 < D) (h1 : X * D = N * G) (h2 : 2 * N ≤ (2 * M + 1) * D) (h3 : 2 * M * D ≤ 2 * N + D) (h4 : P * D ≤ N) :
    2 * P * X ≤ 2 * P * (M * G) + X ∧ 2 * P * (M * G) ≤ 2 * P * X + X := by
  have e1 : (2 * M + 1) * D = 2 * (M * D) + D := by rw [Nat.add_mul, Nat.one_mul, Nat.mul_assoc]
  have e2 : 2 * M * D = 2 * (M * D) := Nat.mul_assoc _ _ _
  rw [e1] at h2
  rw [e2] at h3
  have k2 := Nat.mul_le_mul_left P h2
  have k3 := Nat.mul_le_mul_left P h3
  rw [Nat.mul_add] at k2 k3
  have l2 : P * (2 * N) ≤ P * (2 * (M * D)) + N := by omega
  have l3 : P * (2 * (M * D)) ≤ P * (2 * N) + N := by omega
  have m2 := Nat.mul_le_mul_right G l2
  have m3 := Nat.mul_le_mul_right G l3
  rw [Nat.add_mul] at m2 m3
  constructor <;> refine Nat.le_of_mul_le_mul_right ?_ hD
  · calc 2 * P * X * D = 2 * P * (X * D) := Nat.mul_assoc _ _ _
      _ = P * (2 * N) * G := by rw [h1]; ac_rfl
      _ ≤ P * (2 * (M * D)) * G + N * G := m2
      _ = (2 * P * (M * G) + X) * D := by rw [Nat.add_mul, h1]; ac_rfl
  · calc 2 * P * (M * G) * D = P * (2 * (M * D)) * G := by ac_rfl
      _ ≤ P * (2 * N) * G + N * G := m3
      _ = 2 * P * (X * D) + X * D := by rw [h1]; ac_rfl
      _ = (2 * P * X + X) * D := by rw [Nat.add_mul, Nat.mul_assoc (2 * P) X D]
theorem own_exps {e e0 r : Int} (h : e0 ≤ e) (h' : e0 ≤ r) : (e - e0).toNat + (r - e).toNat = (e - r).toNat + (r - e0).toNat := by omega
theorem own_rr (s : Bool) (A : Nat) {B : Nat} (hB : 0 < B) {e e0 : Int} (h0 : e0 ≤ b64.qmin) (h0e : e0 ≤ e) (hup : inUnits A e e0 ≤ 2 ^ 160 * own_W * (2 ^ (b64.qmin - e0).toNat * B)) :
    ∃ c q, roundRatio b64 s A B e = .fin s c q ∧ own_Rnd (inUnits A e e0) (2 ^ (b64.qmin - e0).toNat * B) (inUnits c q b64.qmin) := by
  have F := roundRatio_fits good_b64 s A hB e
  have hV : Jvm.FP.Core.fits b64 (.fin false (2 ^ 52) 48) := ⟨by decide, by decide, by decide, Or.inr (by decide)⟩
  have zV : zmag b64 (.fin false (2 ^ 52) 48) = 2 ^ 160 * own_W := by
    show 2 ^ 52 * 2 ^ (48 - b64.qmin).toNat = _
    rw [own_qmin, show ((48 : Int) - -1074).toNat = 108 + 1014 by decide, own_pw (j := 108) rfl, ← Nat.mul_assoc, ← Nat.pow_add]
  have hle : ∀ V : Datum, Jvm.FP.Core.fits b64 V → V ≠ .nan → inUnits A e e0 ≤ zmag b64 V * (2 ^ (b64.qmin - e0).toNat * B) → zmag b64 (roundRatio b64 s A B e) ≤ zmag b64 V := fun V f n h => zmag_roundRatio_le good_b64 hB f n h0 h0e (by rw [Nat.mul_assoc]; exact h)
  have hge : ∀ V : Datum, Jvm.FP.Core.fits b64 V → zmag b64 V * (2 ^ (b64.qmin - e0).toNat * B) ≤ inUnits A e e0 → zmag b64 V ≤ zmag b64 (roundRatio b64 s A B e) := fun V f h => zmag_roundRatio_ge good_b64 hB f h0 h0e (by rw [Nat.mul_assoc]; exact h)
  rcases roundRatio_cases b64 s A B e with ⟨c, q, hR⟩ | hR
  · refine ⟨c, q, hR, ?_⟩
    rw [hR] at hle hge F
    have err : 2 ^ 52 * (2 ^ (b64.qmin - e0).toNat * B) ≤ inUnits A e e0 → 2 ^ 53 * inUnits A e e0 ≤ 2 ^ 53 * (inUnits c q b64.qmin * (2 ^ (b64.qmin - e0).toNat * B)) + inUnits A e e0 ∧ 2 ^ 53 * (inUnits c q b64.qmin * (2 ^ (b64.qmin - e0).toNat * B)) ≤ 2 ^ 53 * inUnits A e e0 + inUnits A e e0 := by
      intro hn
      have hA : 0 < A := by
        rcases Nat.eq_zero_or_pos A with z | z
        · subst z
          have : 0 < 2 ^ 52 * (2 ^ (b64.qmin - e0).toNat * B) := Nat.mul_pos (by decide) (Nat.mul_pos (Nat.two_pow_pos _) hB)
          rw [show inUnits 0 e e0 = 0 by simp [inUnits]] at hn
          omega
        · exact z
      unfold roundRatio at hR
      rw [if_neg (by omega)] at hR
      unfold roundAt at hR
      have hM := nearest_units_le (f := b64) hA hB e
      have hq := quantum_ge b64 A B e
      have hnb := quantum_not_below (f := b64) hA hB e
      generalize quantum b64 A B e = r at *
      have sv := (settle_value good_b64 hM hR (e0 := e0) (by omega)).2
      have ns := nearest_spec (unitsNum A e r) (unitsDen B e r) (unitsDen_pos hB e r)
      have hD := unitsDen_pos hB e r
      generalize nearest (unitsNum A e r) (unitsDen B e r) = M at *
      rw [units_fin F h0] at sv
      have zz : inUnits c q b64.qmin * (2 ^ (b64.qmin - e0).toNat * B) = M * (2 ^ (r - e0).toNat * B) := by
        rw [← Nat.mul_assoc, ← Nat.mul_assoc]; exact congrArg (· * B) sv
      rw [zz]
      have x1 : inUnits A e e0 * unitsDen B e r = unitsNum A e r * (2 ^ (r - e0).toNat * B) := by
        unfold inUnits unitsDen unitsNum
        calc A * 2 ^ (e - e0).toNat * (B * 2 ^ (r - e).toNat) = A * (2 ^ (e - e0).toNat * 2 ^ (r - e).toNat) * B := by ac_rfl
          _ = A * (2 ^ (e - r).toNat * 2 ^ (r - e0).toNat) * B := by rw [← Nat.pow_add, ← Nat.pow_add, own_exps h0e (Int.le_trans h0 hq)]
          _ = _ := by ac_rfl
      have hG : 0 < 2 ^ (r - e0).toNat * B := Nat.mul_pos (Nat.two_pow_pos _) hB
      have h4 : 2 ^ 52 * unitsDen B e r ≤ unitsNum A e r := by
        rcases hnb with hz | hz
        · have g := Nat.mul_le_mul_right (unitsDen B e r) hn
          rw [x1, ← hz] at g
          refine Nat.le_of_mul_le_mul_right ?_ hG
          calc 2 ^ 52 * unitsDen B e r * (2 ^ (r - e0).toNat * B) = 2 ^ 52 * (2 ^ (r - e0).toNat * B) * unitsDen B e r := by ac_rfl
            _ ≤ _ := g
        · have : ¬ unitsNum A e r < 2 ^ 52 * unitsDen B e r := fun g => hz ((units_below A B e r 52).mp g)
          omega
      exact own_core (P := 2 ^ 52) hD x1 ns.1 ns.2.1 h4
    refine ⟨?_, ?_, fun h => (err h).1, fun h => (err h).2⟩
    · rintro w ⟨c', q', f', rfl⟩ h
      exact hle _ f' (by simp) h
    · rintro w ⟨c', q', f', rfl⟩ h
      exact hge _ f' h
  · exfalso
    have := hle _ hV (by simp) (by rw [zV]; exact hup)
    rw [hR, zV] at this
    have t : zmag b64 (.inf s) = 2 ^ 1084 * own_W := by
      show b64.tails * 2 ^ (b64.exps - 2) = _
      rw [show b64.tails = 2 ^ 52 by decide, ← Nat.pow_add, show 52 + (b64.exps - 2) = 1084 + 1014 by decide]
      exact own_pw rfl
    rw [t] at this
    have g := Nat.le_of_mul_le_mul_right this own_Wpos
    exact absurd ((Nat.pow_le_pow_iff_right (by decide : 1 < 2)).mp g) (by decide)
/-- a is finite, of sign s and magnitude z (in units of the least number) -/
def own_D (a : UInt64) (s : Bool) (z : Nat) : Prop := ∃ c q, val64 a = .fin s c q ∧ inUnits c q b64.qmin = z
theorem own_D.rep {a : UInt64} {s : Bool} {z : Nat} (h : own_D a s z) : own_Rep z := by
  obtain ⟨c, q, e, rfl⟩ := h
  have F := val64_fits a
  rw [e] at F
  exact ⟨c, q, F, rfl⟩
theorem own_mul {a b : UInt64} {s t : Bool} {x y : Nat} (ha : own_D a s x) (hb : own_D b t y) (hup : x * y ≤ 2 ^ 160 * own_W * own_U) :
    ∃ z, own_D (dmul a b) (s != t) z ∧ own_Rnd (x * y) own_U z := by
  obtain ⟨c, q, ea, rfl⟩ := ha
  obtain ⟨d, r, eb, rfl⟩ := hb
  have Fa := val64_fits a; rw [ea] at Fa
  have Fb := val64_fits b; rw [eb] at Fb
  obtain ⟨p1, p2, p3⟩ := product_units Fa Fb
  have uu : 2 ^ (b64.qmin - 2 * b64.qmin).toNat * 1 = own_U := by rw [Nat.mul_one, own_U_eq]; congr 2
  have up : inUnits (c * d) (q + r) (2 * b64.qmin) ≤ 2 ^ 160 * own_W * (2 ^ (b64.qmin - 2 * b64.qmin).toNat * 1) := by rw [uu, p3]; exact hup
  obtain ⟨c', q', e', R⟩ := own_rr (s != t) (c * d) (B := 1) (by decide) (e := q + r) (e0 := 2 * b64.qmin) (by decide) p2 up
  rw [uu, p3] at R
  exact ⟨_, ⟨c', q', by rw [val64_dmul, ea, eb]; exact e', rfl⟩, R⟩
theorem own_div {a b : UInt64} {s t : Bool} {x y : Nat} (ha : own_D a s x) (hb : own_D b t y) (hy : 0 < y) (hup : x * own_U ≤ 2 ^ 160 * own_W * y) :
    ∃ z, own_D (ddiv a b) (s != t) z ∧ own_Rnd (x * own_U) y z := by
  obtain ⟨c, q, ea, rfl⟩ := ha
  obtain ⟨d, r, eb, rfl⟩ := hb
  have Fa := val64_fits a; rw [ea] at Fa
  have Fb := val64_fits b; rw [eb] at Fb
  have q1 := Fa.2.1
  have r1 := Fb.2.1
  have hd : 0 < d := by
    rcases Nat.eq_zero_or_pos d with z | z
    · subst z; simp [inUnits] at hy
    · exact z
  have e1 : inUnits c (q - r) (2 * b64.qmin - r) = inUnits c q b64.qmin * own_U := by
    unfold inUnits
    rw [own_U_eq, Nat.mul_assoc, ← Nat.pow_add]; congr 2; rw [own_qmin] at *; omega
  have e2 : 2 ^ (b64.qmin - (2 * b64.qmin - r)).toNat * d = inUnits d r b64.qmin := by
    unfold inUnits
    rw [Nat.mul_comm]; congr 2; omega
  obtain ⟨c', q', e', R⟩ := own_rr (s != t) c (B := d) hd (e := q - r) (e0 := 2 * b64.qmin - r) (by omega) (by rw [own_qmin] at *; omega) (by rw [e1, e2]; exact hup)
  rw [e1, e2] at R
  refine ⟨_, ⟨c', q', ?_, rfl⟩, R⟩
  rw [val64_ddiv, ea, eb]
  show (if d = 0 then (if c = 0 then Datum.nan else Datum.inf (s != t)) else roundRatio b64 (s != t) c d (q - r)) = _
  rw [if_neg (by omega)]; exact e'
theorem own_sum {x y : Datum} {s t : Bool} {c d : Nat} {q r : Int} (hx : x = .fin s c q) (hy : y = .fin t d r) (fx : Jvm.FP.Core.fits b64 x) (fy : Jvm.FP.Core.fits b64 y) {v : Int} (hv : zval b64 x + zval b64 y = v) (hup : v.natAbs ≤ 2 ^ 160 * own_W) :
    ∃ sg c' q', round b64 (exactSum x y) = .fin sg c' q' ∧ own_Rnd v.natAbs 1 (inUnits c' q' b64.qmin) ∧ (v < 0 → sg = true) ∧ (0 < v → sg = false) := by
  subst hx hy
  obtain ⟨sg, n, e, h1, h2, h3⟩ := sum_units fx fy
  rw [hv] at h3
  have na : inUnits n e b64.qmin = v.natAbs := by rw [← h3, natAbs_signed]
  have one : 2 ^ (b64.qmin - b64.qmin).toNat * 1 = 1 := by decide
  obtain ⟨c', q', e', R⟩ := own_rr sg n (B := 1) (by decide) (e := e) (e0 := b64.qmin) (by decide) h2 (by rw [one, na, Nat.mul_one]; exact hup)
  rw [one, na] at R
  refine ⟨sg, c', q', by rw [h1]; exact e', R, ?_, ?_⟩ <;> intro g <;> cases sg <;> simp [signed] at h3 ⊢ <;> omega
theorem own_sub {a b : UInt64} {s t : Bool} {x y : Nat} (ha : own_D a s x) (hb : own_D b t y) {v : Int} (hv : signed s x - signed t y = v) (hup : v.natAbs ≤ 2 ^ 160 * own_W) :
    ∃ sg z, own_D (dsub a b) sg z ∧ own_Rnd v.natAbs 1 z ∧ (v < 0 → sg = true) ∧ (0 < v → sg = false) := by
  obtain ⟨c, q, ea, rfl⟩ := ha
  obtain ⟨d, r, eb, rfl⟩ := hb
  have Fa := val64_fits a; rw [ea] at Fa
  have Fb := val64_fits b; rw [eb] at Fb
  obtain ⟨sg, c', q', e', R, g1, g2⟩ := own_sum (x := .fin s c q) (y := .fin (!t) d r) rfl rfl Fa Fb (v := v) (by rw [← hv, show Datum.fin (!t) d r = negate (.fin t d r) from rfl, zval_negate]; rfl) hup
  exact ⟨sg, _, ⟨c', q', by rw [val64_dsub, ea, eb]; exact e', rfl⟩, R, g1, g2⟩
theorem own_add {a b : UInt64} {s t : Bool} {x y : Nat} (ha : own_D a s x) (hb : own_D b t y) {v : Int} (hv : signed s x + signed t y = v) (hup : v.natAbs ≤ 2 ^ 160 * own_W) :
    ∃ sg z, own_D (dadd a b) sg z ∧ own_Rnd v.natAbs 1 z ∧ (v < 0 → sg = true) ∧ (0 < v → sg = false) := by
  obtain ⟨c, q, ea, rfl⟩ := ha
  obtain ⟨d, r, eb, rfl⟩ := hb
  have Fa := val64_fits a; rw [ea] at Fa
  have Fb := val64_fits b; rw [eb] at Fb
  obtain ⟨sg, c', q', e', R, g1, g2⟩ := own_sum (x := .fin s c q) (y := .fin t d r) rfl rfl Fa Fb (v := v) (by rw [← hv]; rfl) hup
  exact ⟨sg, _, ⟨c', q', by rw [val64_dadd, ea, eb]; exact e', rfl⟩, R, g1, g2⟩
theorem own_l2d {v : Int64} (h : v.toInt.natAbs < 2 ^ 53) : own_D (l2d v) (decide (v.toInt < 0)) (v.toInt.natAbs * own_U) := by
  have one : 2 ^ (b64.qmin - b64.qmin).toNat * 1 = 1 := by decide
  have x1 : inUnits v.toInt.natAbs 0 b64.qmin = v.toInt.natAbs * own_U := by
    unfold inUnits; rw [own_U_eq]; congr 3
  have up : v.toInt.natAbs * own_U ≤ 2 ^ 160 * own_W := by
    unfold own_U
    calc v.toInt.natAbs * (2 ^ 60 * own_W) = v.toInt.natAbs * 2 ^ 60 * own_W := by rw [Nat.mul_assoc]
      _ ≤ 2 ^ 160 * own_W := Nat.mul_le_mul_right _ (Nat.le_trans (Nat.mul_le_mul_right _ (Nat.le_of_lt h)) (by decide))
  obtain ⟨c, q, e, R⟩ := own_rr (decide (v.toInt < 0)) v.toInt.natAbs (B := 1) (by decide) (e := 0) (e0 := b64.qmin) (by decide) (by decide) (by rw [one, x1, Nat.mul_one]; exact up)
  rw [one, x1] at R
  refine ⟨c, q, by rw [val64_l2d]; exact e, R.exact ?_ (Nat.mul_one _).symm⟩
  rw [own_U_eq]; exact own_rep h (by decide)
theorem own_cmp {a b : UInt64} {s t : Bool} {x y : Nat} (ha : own_D a s x) (hb : own_D b t y) : dcmp a b = some (compare (signed s x) (signed t y)) := by
  obtain ⟨c, q, ea, rfl⟩ := ha
  obtain ⟨d, r, eb, rfl⟩ := hb
  have Fa := val64_fits a; rw [ea] at Fa
  have Fb := val64_fits b; rw [eb] at Fb
  show order (val64 a) (val64 b) = _
  rw [ea, eb, order_zval good_b64 Fa Fb (by simp) (by simp)]
  rfl
theorem own_const {a : UInt64} {s : Bool} {c k : Nat} {q : Int} (h : val64 a = .fin s c q) (hk : q = (k : Int) - 60) : own_D a s (c * 2 ^ k * own_W) := by
  refine ⟨c, q, h, ?_⟩
  unfold inUnits
  rw [Nat.mul_assoc, own_qmin, show (q - -1074).toNat = k + 1014 by omega, own_pw (j := k) rfl]
theorem own_W52 : 2 ^ 60 ≤ own_W := by rw [own_W_eq (k := 1014) rfl]; exact Nat.pow_le_pow_right (by decide) (by decide)
/-- the numbers: T is 0.0047 * N / 4, v is 1 - T (exact) -/
theorem own_numV {W NW T v den : Nat} (hW : 2 ^ 60 ≤ W) (hN : NW ≤ 2147484000 * W)
    (T1 : 2 ^ 53 * (5418731071652181 * NW) ≤ 2 ^ 55 * T + 5418731071652181 * NW) (T2 : 2 ^ 55 * T ≤ 2 ^ 53 * (5418731071652181 * NW) + 5418731071652181 * NW)
    (hv : v = 2 ^ 60 * W + T ∧ den = 40000 * W + 47 * NW ∨ (v + T = 2 ^ 60 * W ∧ den + 47 * NW = 40000 * W ∧ NW ≤ 851 * W) ∨ (v + 2 ^ 60 * W = T ∧ den + 40000 * W = 47 * NW ∧ 852 * W ≤ NW)) :
    2 ^ 45 * W ≤ v ∧ v ≤ 2 ^ 90 * W := by
  rcases hv with ⟨a, b⟩ | ⟨a, b, c⟩ | ⟨a, b, c⟩ <;> constructor <;> omega
/-- Zu is v, rounded -/
theorem own_numU {W NW T Zu v den : Nat} (hW : 2 ^ 60 ≤ W)
    (T1 : 2 ^ 53 * (5418731071652181 * NW) ≤ 2 ^ 55 * T + 5418731071652181 * NW) (T2 : 2 ^ 55 * T ≤ 2 ^ 53 * (5418731071652181 * NW) + 5418731071652181 * NW)
    (hv : v = 2 ^ 60 * W + T ∧ den = 40000 * W + 47 * NW ∨ (v + T = 2 ^ 60 * W ∧ den + 47 * NW = 40000 * W ∧ NW ≤ 851 * W) ∨ (v + 2 ^ 60 * W = T ∧ den + 40000 * W = 47 * NW ∧ 852 * W ≤ NW))
    (Z1 : 2 ^ 53 * v ≤ 2 ^ 53 * Zu + v) (Z2 : 2 ^ 53 * Zu ≤ 2 ^ 53 * v + v) :
    1000000000 * (40000 * Zu) ≤ 1000000001 * (2 ^ 60 * den) ∧ 999999999 * (2 ^ 60 * den) ≤ 1000000000 * (40000 * Zu) := by
  rcases hv with ⟨a, b⟩ | ⟨a, b, c⟩ | ⟨a, b, c⟩ <;> constructor <;> omega
/-- K is U * U / Zu rounded: K * den is near to 40000 * U -/
theorem own_numK {U K Zu den : Nat} (hU : 0 < U) (a : 1000000000 * (40000 * Zu) ≤ 1000000001 * (U * den)) (b : 999999999 * (U * den) ≤ 1000000000 * (40000 * Zu))
    (k1 : 2 ^ 53 * (U * U) ≤ 2 ^ 53 * (K * Zu) + U * U) (k2 : 2 ^ 53 * (K * Zu) ≤ 2 ^ 53 * (U * U) + U * U) :
    1000000002 * (K * den) ≥ 1000000000 * (40000 * U) ∧ 999999998 * (K * den) ≤ 1000000000 * (40000 * U) := by
  have a' := Nat.mul_le_mul_left K a
  have b' := Nat.mul_le_mul_left K b
  have e1 : K * (1000000000 * (40000 * Zu)) = 1000000000 * (40000 * (K * Zu)) := by ac_rfl
  have e2 : K * (1000000001 * (U * den)) = 1000000001 * (K * den * U) := by ac_rfl
  have e3 : K * (999999999 * (U * den)) = 999999999 * (K * den * U) := by ac_rfl
  rw [e1, e2] at a'
  rw [e1, e3] at b'
  have g1 : 1000000000 * (40000 * (U * U)) ≤ 1000000002 * (K * den * U) := by
    generalize K * den * U = Q at *
    generalize K * Zu = KZ at *
    generalize U * U = UU at *
    omega
  have g2 : 999999998 * (K * den * U) ≤ 1000000000 * (40000 * (U * U)) := by
    generalize K * den * U = Q at *
    generalize K * Zu = KZ at *
    generalize U * U = UU at *
    omega
  constructor
  · refine Nat.le_of_mul_le_mul_right (c := U) ?_ hU
    calc 1000000000 * (40000 * U) * U = 1000000000 * (40000 * (U * U)) := by ac_rfl
      _ ≤ 1000000002 * (K * den * U) := g1
      _ = _ := by ac_rfl
  · refine Nat.le_of_mul_le_mul_right (c := U) ?_ hU
    calc 999999998 * (K * den) * U = 999999998 * (K * den * U) := by ac_rfl
      _ ≤ 1000000000 * (40000 * (U * U)) := g2
      _ = _ := by ac_rfl
theorem own_numP {W Q P : Nat} (hW : 0 < W) (q1 : 1000000002 * Q ≥ 1000000000 * (40000 * (2 ^ 60 * W))) (q2 : 999999998 * Q ≤ 1000000000 * (40000 * (2 ^ 60 * W)))
    (p1 : 2 ^ 53 * Q ≤ 2 ^ 53 * P + Q) (p2 : 2 ^ 53 * P ≤ 2 ^ 53 * Q + Q) : 5497558001441047 * 2 ^ 23 * W < P ∧ P < 5497558276318953 * 2 ^ 23 * W := by
  constructor <;> omega
theorem own_four : own_D 4616189618054758400 false (4 * own_U) := by
  have h := own_const (a := 4616189618054758400) (s := false) (c := 4503599627370496) (k := 10) (q := -50) (by decide +kernel) (by decide)
  have e : 4503599627370496 * 2 ^ 10 * own_W = 4 * own_U := by unfold own_U; rw [← Nat.mul_assoc]
  rw [e] at h; exact h
theorem own_seventyfive : own_D 4634978072750194688 false (75 * own_U) := by
  have h := own_const (a := 4634978072750194688) (s := false) (c := 5277655813324800) (k := 14) (q := -46) (by decide +kernel) (by decide)
  have e : 5277655813324800 * 2 ^ 14 * own_W = 75 * own_U := by unfold own_U; rw [← Nat.mul_assoc]
  rw [e] at h; exact h
theorem own_one : own_D FP.dconst1 false own_U := by
  have h := own_const (a := FP.dconst1) (s := false) (c := 4503599627370496) (k := 8) (q := -52) (by decide +kernel) (by decide)
  have e : 4503599627370496 * 2 ^ 8 * own_W = own_U := by unfold own_U; rfl
  rw [e] at h; exact h
theorem own_0047 : own_D 4572068753225335125 false (5418731071652181 * own_W) := by
  have h := own_const (a := 4572068753225335125) (s := false) (c := 5418731071652181) (k := 0) (q := -60) (by decide +kernel) (by decide)
  rw [show (5418731071652181 : Nat) * 2 ^ 0 = 5418731071652181 by decide] at h; exact h
theorem own_lowK : own_D 4675730371584645399 false (5497558001441047 * 2 ^ 23 * own_W) := own_const (q := -37) (by decide +kernel) (by decide)
theorem own_highK : own_D 4675730371859523305 false (5497558276318953 * 2 ^ 23 * own_W) := own_const (q := -37) (by decide +kernel) (by decide)
theorem own_repW {m k : Nat} (hm : m < 2 ^ 53) (hk : k ≤ 400) : own_Rep (m * (2 ^ k * own_W)) := by
  rw [← own_pw (k := k + 1014) rfl]; exact own_rep hm (by omega)
/-- h - 75 is exact: a whole number of quarters -/
theorem own_quarter {x : Int64} (h1 : -2147483648 ≤ x.toInt) (h2 : x.toInt ≤ 2147483647) :
    ∃ s, own_D (dsub (ddiv (l2d x) 4616189618054758400) 4634978072750194688) s ((x.toInt - 300).natAbs * (2 ^ 58 * own_W)) ∧ (x.toInt - 300 < 0 → s = true) ∧ (0 < x.toInt - 300 → s = false) ∧ ∃ s z, own_D (ddiv (l2d x) 4616189618054758400) s z := by
  have d1 := own_l2d (v := x) (by omega)
  have hW := own_Wpos
  have hU := own_Upos
  obtain ⟨z, d2, R⟩ := own_div d1 own_four (by omega) (by
    calc x.toInt.natAbs * own_U * own_U = x.toInt.natAbs * 2 ^ 60 * own_W * own_U := by unfold own_U; ac_rfl
      _ ≤ 2 ^ 160 * own_W * (4 * own_U) := Nat.mul_le_mul (Nat.mul_le_mul_right _ (by omega)) (by omega))
  have ez : z = x.toInt.natAbs * (2 ^ 58 * own_W) := R.exact (own_repW (by omega) (by decide)) (by
    calc x.toInt.natAbs * own_U * own_U = x.toInt.natAbs * (2 ^ 60 * own_W) * own_U := by rw [show 2 ^ 60 * own_W = own_U from rfl]
      _ = x.toInt.natAbs * (2 ^ 58 * own_W) * (4 * own_U) := by rw [show (2 : Nat) ^ 60 = 2 ^ 58 * 4 by decide]; ac_rfl)
  subst ez
  have hv : signed (decide (x.toInt < 0) != false) (x.toInt.natAbs * (2 ^ 58 * own_W)) - signed false (75 * own_U) = (x.toInt - 300) * ((2 ^ 58 * own_W : Nat) : Int) := by
    have e75 : 75 * own_U = 300 * (2 ^ 58 * own_W) := by unfold own_U; omega
    rw [e75, signed_mul, signed_mul, ← Int.sub_mul]
    congr 1
    by_cases g : x.toInt < 0 <;> simp [signed, g] <;> omega
  have na : ((x.toInt - 300) * ((2 ^ 58 * own_W : Nat) : Int)).natAbs = (x.toInt - 300).natAbs * (2 ^ 58 * own_W) := by rw [Int.natAbs_mul, Int.natAbs_natCast]
  obtain ⟨sg, z2, d3, R2, g1, g2⟩ := own_sub d2 own_seventyfive hv (by
    rw [na]
    calc (x.toInt - 300).natAbs * (2 ^ 58 * own_W) = (x.toInt - 300).natAbs * 2 ^ 58 * own_W := by rw [Nat.mul_assoc]
      _ ≤ 2 ^ 160 * own_W := Nat.mul_le_mul_right _ (by omega))
  have ez2 : z2 = (x.toInt - 300).natAbs * (2 ^ 58 * own_W) := R2.exact (own_repW (by omega) (by decide)) (by rw [na, Nat.mul_one])
  subst ez2
  have hp : (0 : Int) < ((2 ^ 58 * own_W : Nat) : Int) := by have := Nat.mul_pos (show 0 < 2 ^ 58 by decide) hW; omega
  exact ⟨sg, d3, fun g => g1 (Int.mul_neg_of_neg_of_pos g hp), fun g => g2 (Int.mul_pos g hp), _, _, d2⟩
theorem own_tee {n : Int} {y : UInt64} {s : Bool} (hn : n.natAbs ≤ 2147484000) (hy : own_D y s (n.natAbs * (2 ^ 58 * own_W))) :
    ∃ T, own_D (dmul 4572068753225335125 y) s T ∧ 2 ^ 53 * (5418731071652181 * (n.natAbs * own_W)) ≤ 2 ^ 55 * T + 5418731071652181 * (n.natAbs * own_W) ∧ 2 ^ 55 * T ≤ 2 ^ 53 * (5418731071652181 * (n.natAbs * own_W)) + 5418731071652181 * (n.natAbs * own_W) := by
  have hW := own_Wpos
  have w60 := own_W52
  have xe : 5418731071652181 * own_W * (n.natAbs * (2 ^ 58 * own_W)) = 5418731071652181 * (n.natAbs * own_W) * (2 ^ 58 * own_W) := by ac_rfl
  obtain ⟨T, d, R⟩ := own_mul own_0047 hy (by
    calc 5418731071652181 * own_W * (n.natAbs * (2 ^ 58 * own_W)) = (5418731071652181 * n.natAbs * 2 ^ 58) * own_W * own_W := by ac_rfl
      _ ≤ 2 ^ 160 * 2 ^ 60 * own_W * own_W := Nat.mul_le_mul_right _ (Nat.mul_le_mul_right _ (by omega))
      _ = 2 ^ 160 * own_W * own_U := by unfold own_U; ac_rfl)
  refine ⟨T, by simpa using d, ?_⟩
  rcases Nat.eq_zero_or_pos n.natAbs with z | z
  · rw [z] at R ⊢
    have : T = 0 * (2 ^ 0 * own_W) := R.exact (own_repW (by decide) (by decide)) (by simp)
    rw [Nat.zero_mul] at this
    subst this; simp
  · have c1 : 2 ^ 52 * own_U ≤ 5418731071652181 * own_W * (n.natAbs * (2 ^ 58 * own_W)) := by
      rw [xe]
      unfold own_U
      calc 2 ^ 52 * (2 ^ 60 * own_W) = 2 ^ 112 * own_W := by rw [← Nat.mul_assoc]
        _ ≤ 2 ^ 60 * 1 * (2 ^ 58 * own_W) := by omega
        _ ≤ 5418731071652181 * (n.natAbs * own_W) * (2 ^ 58 * own_W) := Nat.mul_le_mul_right _ (Nat.le_trans (by omega) (Nat.le_mul_of_pos_left _ (by decide) : n.natAbs * own_W ≤ _) |> Nat.le_trans (by
            calc 2 ^ 60 * 1 ≤ own_W := by omega
              _ ≤ n.natAbs * own_W := Nat.le_mul_of_pos_left _ z))
    have l := R.lo c1
    have h := R.hi c1
    rw [xe] at l h
    have ye : T * own_U = 4 * T * (2 ^ 58 * own_W) := by unfold own_U; rw [show (2 : Nat) ^ 60 = 4 * 2 ^ 58 by decide]; ac_rfl
    rw [ye] at l h
    generalize n.natAbs * own_W = NW at *
    have hp : 0 < 2 ^ 58 * own_W := Nat.mul_pos (by decide) hW
    generalize 2 ^ 58 * own_W = G at *
    have l2 : 2 ^ 53 * (5418731071652181 * NW) * G ≤ (2 ^ 53 * (4 * T) + 5418731071652181 * NW) * G := by rw [Nat.add_mul, Nat.mul_assoc, Nat.mul_assoc (2 ^ 53) (4 * T) G]; exact l
    have h2 : 2 ^ 53 * (4 * T) * G ≤ (2 ^ 53 * (5418731071652181 * NW) + 5418731071652181 * NW) * G := by rw [Nat.add_mul, Nat.mul_assoc, Nat.mul_assoc (2 ^ 53) (5418731071652181 * NW) G]; exact h
    have l' := Nat.le_of_mul_le_mul_right l2 hp
    have h' := Nat.le_of_mul_le_mul_right h2 hp
    constructor <;> omega
/-- finite -/
def own_F (a : UInt64) : Prop := ∃ s z, own_D a s z
theorem own_hum {x D : Int64} (h1 : -2147483648 ≤ x.toInt) (h2 : x.toInt ≤ 2147483647) (hD : D.toInt = 40000 - 47 * (x.toInt - 300)) :
    own_F (ddiv (l2d x) 4616189618054758400) ∧ own_F (dsub (ddiv (l2d x) 4616189618054758400) 4634978072750194688) ∧
    own_F (dmul 4572068753225335125 (dsub (ddiv (l2d x) 4616189618054758400) 4634978072750194688)) ∧
    own_F (dsub FP.dconst1 (dmul 4572068753225335125 (dsub (ddiv (l2d x) 4616189618054758400) 4634978072750194688))) ∧
    own_F (ddiv FP.dconst1 (dsub FP.dconst1 (dmul 4572068753225335125 (dsub (ddiv (l2d x) 4616189618054758400) 4634978072750194688)))) ∧
    own_F (dmul (ddiv FP.dconst1 (dsub FP.dconst1 (dmul 4572068753225335125 (dsub (ddiv (l2d x) 4616189618054758400) 4634978072750194688)))) (l2d D)) ∧
    dcmp (dmul (ddiv FP.dconst1 (dsub FP.dconst1 (dmul 4572068753225335125 (dsub (ddiv (l2d x) 4616189618054758400) 4634978072750194688)))) (l2d D)) 4675730371584645399 = some .gt ∧
    dcmp (dmul (ddiv FP.dconst1 (dsub FP.dconst1 (dmul 4572068753225335125 (dsub (ddiv (l2d x) 4616189618054758400) 4634978072750194688)))) (l2d D)) 4675730371859523305 = some .lt := by
  obtain ⟨s, dy, gy1, gy2, fh⟩ := own_quarter h1 h2
  generalize hq : ddiv (l2d x) 4616189618054758400 = h at *
  generalize dsub h 4634978072750194688 = y at *
  have hn : (x.toInt - 300).natAbs ≤ 2147484000 := by omega
  obtain ⟨T, dt, T1, T2⟩ := own_tee hn dy
  generalize dmul 4572068753225335125 y = t at *
  have hW := own_Wpos
  have w60 := own_W52
  have hN : (x.toInt - 300).natAbs * own_W ≤ 2147484000 * own_W := Nat.mul_le_mul_right _ hn
  have dD := own_l2d (v := D) (by omega)
  -- the difference 1 - t
  have hv : ∃ (v : Int) (den : Nat), signed false own_U - signed s T = v ∧ D.toInt.natAbs * own_W = den ∧ (v < 0 ↔ D.toInt < 0) ∧ v ≠ 0 ∧
      (v.natAbs = 2 ^ 60 * own_W + T ∧ den = 40000 * own_W + 47 * ((x.toInt - 300).natAbs * own_W) ∨ (v.natAbs + T = 2 ^ 60 * own_W ∧ den + 47 * ((x.toInt - 300).natAbs * own_W) = 40000 * own_W ∧ (x.toInt - 300).natAbs * own_W ≤ 851 * own_W) ∨ (v.natAbs + 2 ^ 60 * own_W = T ∧ den + 40000 * own_W = 47 * ((x.toInt - 300).natAbs * own_W) ∧ 852 * own_W ≤ (x.toInt - 300).natAbs * own_W)) := by
    refine ⟨_, _, rfl, rfl, ?_⟩
    by_cases c1 : x.toInt - 300 ≤ 0
    · have sT : signed s T = -(T : Int) := by
        by_cases c2 : x.toInt - 300 = 0
        · have : T = 0 := by rw [c2] at T2; simp at T2; omega
          subst this; cases s <;> rfl
        · rw [gy1 (by omega)]; rfl
      have dn : D.toInt.natAbs = 40000 + 47 * (x.toInt - 300).natAbs := by omega
      rw [sT, dn, Nat.add_mul, Nat.mul_assoc]
      have e0 : signed false own_U = ((2 ^ 60 * own_W : Nat) : Int) := rfl
      rw [e0]
      refine ⟨by omega, by omega, Or.inl ⟨by omega, rfl⟩⟩
    · have sT : signed s T = (T : Int) := by rw [gy2 (by omega)]; rfl
      have e0 : signed false own_U = ((2 ^ 60 * own_W : Nat) : Int) := rfl
      rw [sT, e0]
      by_cases c2 : (x.toInt - 300).natAbs ≤ 851
      · have dn : D.toInt.natAbs + 47 * (x.toInt - 300).natAbs = 40000 := by omega
        have dw := congrArg (· * own_W) dn
        simp only [Nat.add_mul, Nat.mul_assoc] at dw
        have le := Nat.mul_le_mul_right own_W c2
        have dp : ¬ D.toInt < 0 := by omega
        generalize (x.toInt - 300).natAbs * own_W = NW at *
        generalize D.toInt.natAbs * own_W = dW at *
        refine ⟨⟨fun g => ?_, fun g => absurd g dp⟩, by omega, Or.inr (Or.inl ⟨by omega, dw, le⟩)⟩
        omega
      · have dn : D.toInt.natAbs + 40000 = 47 * (x.toInt - 300).natAbs := by omega
        have dw := congrArg (· * own_W) dn
        simp only [Nat.add_mul, Nat.mul_assoc] at dw
        have le := Nat.mul_le_mul_right own_W (show 852 ≤ (x.toInt - 300).natAbs by omega)
        have dp : D.toInt < 0 := by omega
        generalize (x.toInt - 300).natAbs * own_W = NW at *
        generalize D.toInt.natAbs * own_W = dW at *
        refine ⟨⟨fun _ => dp, fun _ => ?_⟩, by omega, Or.inr (Or.inr ⟨by omega, dw, le⟩)⟩
        omega
  obtain ⟨v, den, ev, ed, sv, nv, cv⟩ := hv
  obtain ⟨v1, v2⟩ := own_numV w60 hN T1 T2 cv
  obtain ⟨su, Zu, du, Ru, g1, g2⟩ := own_sub own_one dt ev (Nat.le_trans v2 (Nat.mul_le_mul_right _ (by decide)))
  have cu : 2 ^ 52 * 1 ≤ v.natAbs := by omega
  have l := Ru.lo cu
  have hh := Ru.hi cu
  rw [Nat.mul_one] at l hh
  obtain ⟨a, b⟩ := own_numU w60 T1 T2 cv l hh
  have z1 : 2 ^ 44 * own_W ≤ Zu := by omega
  have z2 : Zu ≤ 2 ^ 91 * own_W := by omega
  generalize dsub FP.dconst1 t = u at *
  have eU : own_U = 2 ^ 60 * own_W := rfl
  obtain ⟨K, dk, Rk⟩ := own_div own_one du (by omega) (by
    calc own_U * own_U = 2 ^ 120 * own_W * own_W := by rw [eU, show (2 : Nat) ^ 120 = 2 ^ 60 * 2 ^ 60 by decide]; ac_rfl
      _ ≤ 2 ^ 204 * own_W * own_W := Nat.mul_le_mul_right _ (Nat.mul_le_mul_right _ (by decide))
      _ = 2 ^ 160 * own_W * (2 ^ 44 * own_W) := by rw [show (2 : Nat) ^ 204 = 2 ^ 160 * 2 ^ 44 by decide]; ac_rfl
      _ ≤ _ := Nat.mul_le_mul_left _ z1)
  have ck : 2 ^ 52 * Zu ≤ own_U * own_U := by
    calc 2 ^ 52 * Zu ≤ 2 ^ 52 * (2 ^ 91 * own_W) := Nat.mul_le_mul_left _ z2
      _ = 2 ^ 83 * 2 ^ 60 * own_W := by rw [← Nat.mul_assoc]
      _ ≤ 2 ^ 120 * own_W * own_W := by
        have := Nat.mul_le_mul_left (2 ^ 83) w60
        exact Nat.mul_le_mul_right _ (Nat.le_trans this (Nat.mul_le_mul_right _ (by decide)))
      _ = own_U * own_U := by rw [eU, show (2 : Nat) ^ 120 = 2 ^ 60 * 2 ^ 60 by decide]; ac_rfl
  have den2 : 2 ^ 60 * den = own_U * D.toInt.natAbs := by rw [← ed, eU]; ac_rfl
  rw [den2] at a b
  obtain ⟨q1, q2⟩ := own_numK own_Upos a b (Rk.lo ck) (Rk.hi ck)
  generalize ddiv FP.dconst1 u = k at *
  have hU := own_Upos
  have qx : K * (D.toInt.natAbs * own_U) = K * D.toInt.natAbs * own_U := by rw [Nat.mul_assoc]
  have qlo : 2 ^ 52 ≤ K * D.toInt.natAbs := by
    generalize K * D.toInt.natAbs = Q at *
    omega
  have qhi : K * D.toInt.natAbs ≤ 2 ^ 160 * own_W := by
    generalize K * D.toInt.natAbs = Q at *
    omega
  obtain ⟨P, dp, Rp⟩ := own_mul dk dD (by rw [qx]; exact Nat.mul_le_mul_right _ qhi)
  have cp : 2 ^ 52 * own_U ≤ K * (D.toInt.natAbs * own_U) := by rw [qx]; exact Nat.mul_le_mul_right _ qlo
  have pl := Rp.lo cp
  have ph := Rp.hi cp
  rw [qx] at pl ph
  have pl2 : 2 ^ 53 * (K * D.toInt.natAbs) ≤ 2 ^ 53 * P + K * D.toInt.natAbs := by
    refine Nat.le_of_mul_le_mul_right (c := own_U) ?_ hU
    rw [Nat.add_mul, Nat.mul_assoc, Nat.mul_assoc (2 ^ 53) P own_U]; exact pl
  have ph2 : 2 ^ 53 * P ≤ 2 ^ 53 * (K * D.toInt.natAbs) + K * D.toInt.natAbs := by
    refine Nat.le_of_mul_le_mul_right (c := own_U) ?_ hU
    rw [Nat.add_mul, Nat.mul_assoc, Nat.mul_assoc (2 ^ 53) (K * D.toInt.natAbs) own_U]; exact ph
  rw [eU] at q1 q2
  obtain ⟨r1, r2⟩ := own_numP hW q1 q2 pl2 ph2
  have sg : ((false != su) != decide (D.toInt < 0)) = false := by
    by_cases g : v < 0
    · rw [g1 g, show decide (D.toInt < 0) = true from decide_eq_true (sv.mp g)]; rfl
    · rw [g2 (by omega), show decide (D.toInt < 0) = false from decide_eq_false (fun r => g (sv.mpr r))]; rfl
  rw [sg] at dp
  refine ⟨fh, ⟨_, _, dy⟩, ⟨_, _, dt⟩, ⟨_, _, du⟩, ⟨_, _, dk⟩, ⟨_, _, dp⟩, ?_, ?_⟩
  · rw [own_cmp dp own_lowK, compare_ite]
    have e1 : signed false P = (P : Int) := rfl
    have e2 : signed false (5497558001441047 * 2 ^ 23 * own_W) = ((5497558001441047 * 2 ^ 23 * own_W : Nat) : Int) := rfl
    rw [e1, e2, if_neg (by omega), if_neg (by omega)]
  · rw [own_cmp dp own_highK, compare_ite]
    have e1 : signed false P = (P : Int) := rfl
    have e2 : signed false (5497558276318953 * 2 ^ 23 * own_W) = ((5497558276318953 * 2 ^ 23 * own_W : Nat) : Int) := rfl
    rw [e1, e2, if_pos (by omega)]
end Plain
open Jvm.Free.Fl
theorem own_nnF {a : UInt64} (h : own_F a) : NoNaN64 a := by
  obtain ⟨s, z, c, q, e, -⟩ := h
  exact (fin64_core.mpr ⟨s, c, q, e⟩).noNaN
theorem own_den (p1 : Int32) : ((40000 : Int64) - ((47 : Int64) * (p1.toInt64 - (300 : Int64)))).toInt = 40000 - 47 * (p1.toInt64.toInt - 300) ∧ -2147483648 ≤ p1.toInt64.toInt ∧ p1.toInt64.toInt ≤ 2147483647 := by
  have r1 := Int32.le_toInt p1
  have r2 := Int32.toInt_lt p1
  have e := Int32.toInt_toInt64 p1
  have c1 : (40000 : Int64).toInt = 40000 := rfl
  have c2 : (47 : Int64).toInt = 47 := rfl
  have c3 : (300 : Int64).toInt = 300 := rfl
  have s1 : (p1.toInt64 - 300).toInt = p1.toInt64.toInt - 300 := by rw [Jvm.Kit.i64_sub] <;> omega
  have s2 : (47 * (p1.toInt64 - 300)).toInt = 47 * (p1.toInt64.toInt - 300) := by rw [Jvm.Kit.i64_mul, c2, s1] <;> rw [c2, s1] <;> omega
  refine ⟨?_, by omega, by omega⟩
  rw [Jvm.Kit.i64_sub, c1, s2] <;> rw [c1, s2] <;> omega
theorem own_law (p1 : Int32) : NoNaN64 (FP.ddiv (FP.i2d p1) (4616189618054758400 : UInt64)) ∧ NoNaN64 (FP.dsub (FP.ddiv (FP.i2d p1) (4616189618054758400 : UInt64)) (4634978072750194688 : UInt64)) ∧ NoNaN64 (FP.dmul (4572068753225335125 : UInt64) (FP.dsub (FP.ddiv (FP.i2d p1) (4616189618054758400 : UInt64)) (4634978072750194688 : UInt64))) ∧ NoNaN64 (FP.dsub FP.dconst1 (FP.dmul (4572068753225335125 : UInt64) (FP.dsub (FP.ddiv (FP.i2d p1) (4616189618054758400 : UInt64)) (4634978072750194688 : UInt64)))) ∧ NoNaN64 (FP.ddiv FP.dconst1 (FP.dsub FP.dconst1 (FP.dmul (4572068753225335125 : UInt64) (FP.dsub (FP.ddiv (FP.i2d p1) (4616189618054758400 : UInt64)) (4634978072750194688 : UInt64))))) ∧ NoNaN64 (FP.dmul (FP.ddiv FP.dconst1 (FP.dsub FP.dconst1 (FP.dmul (4572068753225335125 : UInt64) (FP.dsub (FP.ddiv (FP.i2d p1) (4616189618054758400 : UInt64)) (4634978072750194688 : UInt64))))) (FP.l2d ((40000 : Int64) - ((47 : Int64) * (p1.toInt64 - (300 : Int64)))))) ∧ cmpValue (FP.dcmp (FP.dmul (FP.ddiv FP.dconst1 (FP.dsub FP.dconst1 (FP.dmul (4572068753225335125 : UInt64) (FP.dsub (FP.ddiv (FP.i2d p1) (4616189618054758400 : UInt64)) (4634978072750194688 : UInt64))))) (FP.l2d ((40000 : Int64) - ((47 : Int64) * (p1.toInt64 - (300 : Int64)))))) (4675730371584645399 : UInt64)) .l = 1 ∧ cmpValue (FP.dcmp (FP.dmul (FP.ddiv FP.dconst1 (FP.dsub FP.dconst1 (FP.dmul (4572068753225335125 : UInt64) (FP.dsub (FP.ddiv (FP.i2d p1) (4616189618054758400 : UInt64)) (4634978072750194688 : UInt64))))) (FP.l2d ((40000 : Int64) - ((47 : Int64) * (p1.toInt64 - (300 : Int64)))))) (4675730371859523305 : UInt64)) .g = -1 := by
  rw [i2d_w]
  obtain ⟨hD, r1, r2⟩ := own_den p1
  obtain ⟨a, b, c, d, e, f, g, h⟩ := own_hum r1 r2 hD
  refine ⟨own_nnF a, own_nnF b, own_nnF c, own_nnF d, own_nnF e, own_nnF f, ?_, ?_⟩
  · exact (congrArg (cmpValue · .l) g).trans rfl
  · exact (congrArg (cmpValue · .g) h).trans rfl
theorem own_anchor : NoNaN64 (FP.dsub (4634978072750194688 : UInt64) (4634978072750194688 : UInt64)) ∧ NoNaN64 (FP.dmul (4572068753225335125 : UInt64) (FP.dsub (4634978072750194688 : UInt64) (4634978072750194688 : UInt64))) ∧ NoNaN64 (FP.dsub FP.dconst1 (FP.dmul (4572068753225335125 : UInt64) (FP.dsub (4634978072750194688 : UInt64) (4634978072750194688 : UInt64)))) ∧ NoNaN64 (FP.ddiv FP.dconst1 (FP.dsub FP.dconst1 (FP.dmul (4572068753225335125 : UInt64) (FP.dsub (4634978072750194688 : UInt64) (4634978072750194688 : UInt64))))) ∧ cmpValue (FP.dcmp (FP.ddiv FP.dconst1 (FP.dsub FP.dconst1 (FP.dmul (4572068753225335125 : UInt64) (FP.dsub (4634978072750194688 : UInt64) (4634978072750194688 : UInt64))))) FP.dconst1) .l = 0 := by
  refine ⟨?_, ?_, ?_, ?_, ?_⟩ <;> (try unfold NoNaN64) <;> decide +kernel
theorem ef_nh (m : MethodId) (x0 : UInt64) : entryFrame m #[(.double x0)] 2 = mkF m 0 #[.val (.double x0), .second] [] := by first | (simp [entryFrame, mkF, argsToLocals, Value.category]; done) | rfl
theorem pn_0 : plainName "com/example/plumeline/plumeline/LoadedMode" = true := by first | (simp [plainName, overriddenIn]; done) | decide +kernel
theorem d1_0 : decode prog_51_method_4_code 0 = .ok (.dconst 1, 1) := by decide +kernel
theorem d1_1 : decode prog_51_method_4_code 1 = .ok (.dconst 1, 1) := by decide +kernel
theorem d1_2 : decode prog_51_method_4_code 2 = .ok (.ldc2_w 39, 3) := by decide +kernel
theorem d1_5 : decode prog_51_method_4_code 5 = .ok (.dload_n 0, 1) := by decide +kernel
theorem d1_6 : decode prog_51_method_4_code 6 = .ok (.ldc2_w 41, 3) := by decide +kernel
theorem d1_9 : decode prog_51_method_4_code 9 = .ok (.dsub, 1) := by decide +kernel
theorem d1_10 : decode prog_51_method_4_code 10 = .ok (.dmul, 1) := by decide +kernel
theorem d1_11 : decode prog_51_method_4_code 11 = .ok (.dsub, 1) := by decide +kernel
theorem d1_12 : decode prog_51_method_4_code 12 = .ok (.ddiv, 1) := by decide +kernel
theorem d1_13 : decode prog_51_method_4_code 13 = .ok (.dreturn, 1) := by decide +kernel
def Q_nh (Z : State) (hq : UInt64) (h0 : Heap) (n0 : Nat) (v : Option Value) (h : Heap) (L : List Loc) : Prop := v = some (.double (FP.ddiv FP.dconst1 (FP.dsub FP.dconst1 (FP.dmul (4572068753225335125 : UInt64) (FP.dsub hq (4634978072750194688 : UInt64)))))) ∧ Fr n0 L ∧ h = h0
set_option maxRecDepth 65536 in
set_option maxHeartbeats 40000000 in
theorem nh (l : Launch) (Z : State) (a0 : Array Value) (hw : ∀ d ∈ tables_1, d.before a0 Z = true) (ws : List Jvm.Cond) (hq : UInt64) (h0 : Heap) (n0 : Nat) (XO0 : Old Z n0 h0) (n1 : NoNaN64 (FP.dsub hq (4634978072750194688 : UInt64))) (n2 : NoNaN64 (FP.dmul (4572068753225335125 : UInt64) (FP.dsub hq (4634978072750194688 : UInt64)))) (n3 : NoNaN64 (FP.dsub FP.dconst1 (FP.dmul (4572068753225335125 : UInt64) (FP.dsub hq (4634978072750194688 : UInt64))))) (n4 : NoNaN64 (FP.ddiv FP.dconst1 (FP.dsub FP.dconst1 (FP.dmul (4572068753225335125 : UInt64) (FP.dsub hq (4634978072750194688 : UInt64)))))) :
    MetFree l (⟨"com/example/plumeline/plumeline/LoadedMode", "noHumidityFactor", "(D)D"⟩ : MethodName) (head1 (Jvm.Cond.code (⟨"com/example/plumeline/plumeline/LoadedMode", "noHumidityFactor", "(D)D"⟩ : MethodName) prog_51_method_4_code 2 (some .double) :: ws) ({ frames := 0, cells := 0, slots := 0, locals := 0 } : Room)) (fun zz_ U => zz_ = #[(.double hq)] ∧ Z.Warmed39 U.vm ∧ U.heap = h0) (fun _ _ _ _ _ => True) (fun _ U o U' => ∃ v L, o = .returned v ∧ Q_nh Z hq h0 n0 v U'.heap L ∧ FrameEnd U o U' L ({ frames := 0, cells := 0, slots := 0, locals := 0 } : Room).cells ({ frames := 0, cells := 0, slots := 0, locals := 0 } : Room).slots) := by
  refine MetFree.of_bodySF (plainFor_of_name pn_0) hisR ?_
  intro p e s m args below meth c s₁ Bd hml0 hP hK
  obtain ⟨rfl, hZ, hh⟩ := hP
  have hx := Bd.exec
  have hby := Bd.bytes
  have hlk := Bd.notSynchronized
  have hW : ∀ (i : Nat) (d : Jvm.Cond), tables_1[i]? = some d → d.before a0 Z = true := fun i d h => hw d (List.mem_of_getElem? h)
  have hml : c.maxLocals = 2 := hml0
  have hown : s.vm.findClass "com/example/plumeline/plumeline/LoadedMode" = some m.cls := findClass_of_methodNamed Bd.named
  have hnm := (name_of_methodNamed Bd.named Bd.method).1
  have X0 : Stand p l e ({ frames := 0, cells := 0, slots := 0, locals := 0 } : Room) s m #[(.double hq)] below meth c s₁ [] 0 0 := Stand.of_body Bd
  have e0 : s₁.heap = h0 := by rw [← hh, Bd.state]; rfl
  have N0 := Fr.nil n0
  refine own_in ?_
  refine own_of (fun tt_ kk_ => castTop (ef_nh m hq) kk_) ?_
  show own_go p e below s _ _ _ (s₁.setTop (mkF m 0 #[.val (.double hq), .second] []))
  refine own_of (fun tt_ => XS.dconst1 (g := (mkF m 0 #[.val (.double hq), .second] [])) X0.here hx rfl (hb hby d1_0) rfl) ?_
  show own_go p e below s _ _ _ (s₁.setTop (mkF m 1 #[.val (.double hq), .second] [(.double FP.dconst1)]))
  refine own_of (fun tt_ => XS.dconst1 (g := (mkF m 1 #[.val (.double hq), .second] [(.double FP.dconst1)])) X0.here hx rfl (hb hby d1_1) rfl) ?_
  show own_go p e below s _ _ _ (s₁.setTop (mkF m 2 #[.val (.double hq), .second] [(.double FP.dconst1), (.double FP.dconst1)]))
  refine own_of (fun tt_ => X0.ldc2DoubleC hx hown (mvT hZ (hW 5 _ rfl)) (g := (mkF m 2 #[.val (.double hq), .second] [(.double FP.dconst1), (.double FP.dconst1)])) rfl (hb hby d1_2) _) ?_
  show own_go p e below s _ _ _ (s₁.setTop (mkF m 5 #[.val (.double hq), .second] [(.double (4572068753225335125 : UInt64)), (.double FP.dconst1), (.double FP.dconst1)]))
  refine own_of (fun tt_ => XS.dloadN X0.here hx rfl (hb hby d1_5) rfl) ?_
  show own_go p e below s _ _ _ (s₁.setTop (mkF m 6 #[.val (.double hq), .second] [(.double hq), (.double (4572068753225335125 : UInt64)), (.double FP.dconst1), (.double FP.dconst1)]))
  refine own_of (fun tt_ => X0.ldc2DoubleC hx hown (mvT hZ (hW 6 _ rfl)) (g := (mkF m 6 #[.val (.double hq), .second] [(.double hq), (.double (4572068753225335125 : UInt64)), (.double FP.dconst1), (.double FP.dconst1)])) rfl (hb hby d1_6) _) ?_
  show own_go p e below s _ _ _ (s₁.setTop (mkF m 9 #[.val (.double hq), .second] [(.double (4634978072750194688 : UInt64)), (.double hq), (.double (4572068753225335125 : UInt64)), (.double FP.dconst1), (.double FP.dconst1)]))
  refine own_of (fun tt_ => XS.dsubS (g := (mkF m 9 #[.val (.double hq), .second] [(.double (4634978072750194688 : UInt64)), (.double hq), (.double (4572068753225335125 : UInt64)), (.double FP.dconst1), (.double FP.dconst1)])) X0.here hx rfl (hb hby d1_9) rfl n1 rfl) ?_
  show own_go p e below s _ _ _ (s₁.setTop (mkF m 10 #[.val (.double hq), .second] [(.double (FP.dsub hq (4634978072750194688 : UInt64))), (.double (4572068753225335125 : UInt64)), (.double FP.dconst1), (.double FP.dconst1)]))
  refine own_of (fun tt_ => XS.dmulS (g := (mkF m 10 #[.val (.double hq), .second] [(.double (FP.dsub hq (4634978072750194688 : UInt64))), (.double (4572068753225335125 : UInt64)), (.double FP.dconst1), (.double FP.dconst1)])) X0.here hx rfl (hb hby d1_10) rfl n2 rfl) ?_
  show own_go p e below s _ _ _ (s₁.setTop (mkF m 11 #[.val (.double hq), .second] [(.double (FP.dmul (4572068753225335125 : UInt64) (FP.dsub hq (4634978072750194688 : UInt64)))), (.double FP.dconst1), (.double FP.dconst1)]))
  refine own_of (fun tt_ => XS.dsubS (g := (mkF m 11 #[.val (.double hq), .second] [(.double (FP.dmul (4572068753225335125 : UInt64) (FP.dsub hq (4634978072750194688 : UInt64)))), (.double FP.dconst1), (.double FP.dconst1)])) X0.here hx rfl (hb hby d1_11) rfl n3 rfl) ?_
  show own_go p e below s _ _ _ (s₁.setTop (mkF m 12 #[.val (.double hq), .second] [(.double (FP.dsub FP.dconst1 (FP.dmul (4572068753225335125 : UInt64) (FP.dsub hq (4634978072750194688 : UInt64))))), (.double FP.dconst1)]))
  refine own_of (fun tt_ => XS.ddivS (g := (mkF m 12 #[.val (.double hq), .second] [(.double (FP.dsub FP.dconst1 (FP.dmul (4572068753225335125 : UInt64) (FP.dsub hq (4634978072750194688 : UInt64))))), (.double FP.dconst1)])) X0.here hx rfl (hb hby d1_12) rfl n4 rfl) ?_
  show own_go p e below s _ _ _ (s₁.setTop (mkF m 13 #[.val (.double hq), .second] [(.double (FP.ddiv FP.dconst1 (FP.dsub FP.dconst1 (FP.dmul (4572068753225335125 : UInt64) (FP.dsub hq (4634978072750194688 : UInt64))))))]))
  refine own_ret X0 hx hlk Bd.returns rfl (Or.inr (Or.inr (Or.inl ⟨rfl, rfl, _, rfl⟩))) (hb hby d1_13) (by decide) (by decide) ?_
  rw [e0]
  exact ⟨rfl, N0, rfl⟩
theorem ef_rm0 (m : MethodId) (x0 : Int32) : entryFrame m #[(.int x0)] maxLocals = mkF m 0 #[.val (.int x0), .unset, .unset, .unset, .unset, .unset, .unset, .unset, .unset, .unset, .unset] [] := by first | (simp [entryFrame, mkF, argsToLocals, Value.category, maxLocals]; done) | rfl
theorem pn_1 : plainName "com/example/plumeline/plumeline/LoadedModeNoHumidityFactorPinLaw" = true := by first | (simp [plainName, overriddenIn]; done) | decide +kernel
theorem pd_0 : parseMethodDescriptor "(D)D" = some ⟨[.double], some .double⟩ := by decide +kernel
def Q_rm0 (Z : State) (p1 : Int32) (h0 : Heap) (n0 : Nat) (v : Option Value) (h : Heap) (L : List Loc) : Prop := v = some (.int 1) ∧ Fr n0 L
set_option maxRecDepth 65536 in
set_option maxHeartbeats 40000000 in
theorem rm0 (l : Launch) (Z : State) (a0 : Array Value) (hw : ∀ d ∈ tables_1, d.before a0 Z = true) (ws : List Jvm.Cond) (p1 : Int32) (h0 : Heap) (n0 : Nat) (XO0 : Old Z n0 h0) :
    MetFree l x (head1 (Jvm.Cond.code x code maxLocals ret :: ws) room_1) (fun zz_ U => zz_ = #[(.int p1)] ∧ Z.Warmed39 U.vm ∧ U.heap = h0) (fun _ _ _ _ _ => True) (fun _ U o U' => ∃ v L, o = .returned v ∧ Q_rm0 Z p1 h0 n0 v U'.heap L ∧ FrameEnd U o U' L room_1.cells room_1.slots) := by
  refine MetFree.of_bodySF (plainFor_of_name pn_1) hisR ?_
  intro p e s m args below meth c s₁ Bd hml0 hP hK
  obtain ⟨rfl, hZ, hh⟩ := hP
  have hx := Bd.exec
  have hby := Bd.bytes
  have hlk := Bd.notSynchronized
  have hW : ∀ (i : Nat) (d : Jvm.Cond), tables_1[i]? = some d → d.before a0 Z = true := fun i d h => hw d (List.mem_of_getElem? h)
  have hml : c.maxLocals = 11 := hml0
  have hown : s.vm.findClass "com/example/plumeline/plumeline/LoadedModeNoHumidityFactorPinLaw" = some m.cls := findClass_of_methodNamed Bd.named
  have hnm := (name_of_methodNamed Bd.named Bd.method).1
  have X0 : Stand p l e room_1 s m #[(.int p1)] below meth c s₁ [] 0 0 := Stand.of_body Bd
  have e0 : s₁.heap = h0 := by rw [← hh, Bd.state]; rfl
  have N0 := Fr.nil n0
  refine own_in ?_
  refine own_of (fun tt_ kk_ => castTop (ef_rm0 m p1) kk_) ?_
  show own_go p e below s _ _ _ (s₁.setTop (mkF m 0 #[.val (.int p1), .unset, .unset, .unset, .unset, .unset, .unset, .unset, .unset, .unset, .unset] []))
  refine own_of (fun tt_ => XS.iloadN X0.here hx rfl (hb hby at_0) rfl) ?_
  show own_go p e below s _ _ _ (s₁.setTop (mkF m 1 #[.val (.int p1), .unset, .unset, .unset, .unset, .unset, .unset, .unset, .unset, .unset, .unset] [(.int p1)]))
  obtain ⟨a1, a2, a3, a4, a5, a6, a7, a8⟩ := own_law p1
  obtain ⟨b1, b2, b3, b4, b5⟩ := own_anchor
  refine own_of (fun tt_ => XS.i2dS (g := (mkF m 1 #[.val (.int p1), .unset, .unset, .unset, .unset, .unset, .unset, .unset, .unset, .unset, .unset] [(.int p1)])) X0.here hx rfl (hb hby at_1) rfl rfl) ?_
  show own_go p e below s _ _ _ (s₁.setTop (mkF m 2 #[.val (.int p1), .unset, .unset, .unset, .unset, .unset, .unset, .unset, .unset, .unset, .unset] [(.double (FP.i2d p1))]))
  refine own_of (fun tt_ => X0.ldc2DoubleC hx hown (mvT hZ (hW 0 _ rfl)) (g := (mkF m 2 #[.val (.int p1), .unset, .unset, .unset, .unset, .unset, .unset, .unset, .unset, .unset, .unset] [(.double (FP.i2d p1))])) rfl (hb hby at_2) _) ?_
  show own_go p e below s _ _ _ (s₁.setTop (mkF m 5 #[.val (.int p1), .unset, .unset, .unset, .unset, .unset, .unset, .unset, .unset, .unset, .unset] [(.double (4616189618054758400 : UInt64)), (.double (FP.i2d p1))]))
  refine own_of (fun tt_ => XS.ddivS (g := (mkF m 5 #[.val (.int p1), .unset, .unset, .unset, .unset, .unset, .unset, .unset, .unset, .unset, .unset] [(.double (4616189618054758400 : UInt64)), (.double (FP.i2d p1))])) X0.here hx rfl (hb hby at_5) rfl a1 rfl) ?_
  show own_go p e below s _ _ _ (s₁.setTop (mkF m 6 #[.val (.int p1), .unset, .unset, .unset, .unset, .unset, .unset, .unset, .unset, .unset, .unset] [(.double (FP.ddiv (FP.i2d p1) (4616189618054758400 : UInt64)))]))
  refine own_of (fun tt_ => XS.dstoreN X0.here hx rfl (hb hby at_6) rfl (l' := #[.val (.int p1), .val (.double (FP.ddiv (FP.i2d p1) (4616189618054758400 : UInt64))), .second, .unset, .unset, .unset, .unset, .unset, .unset, .unset, .unset]) rfl) ?_
  show own_go p e below s _ _ _ (s₁.setTop (mkF m 7 #[.val (.int p1), .val (.double (FP.ddiv (FP.i2d p1) (4616189618054758400 : UInt64))), .second, .unset, .unset, .unset, .unset, .unset, .unset, .unset, .unset] []))
  refine own_of (fun tt_ => XS.dloadN X0.here hx rfl (hb hby at_7) rfl) ?_
  show own_go p e below s _ _ _ (s₁.setTop (mkF m 8 #[.val (.int p1), .val (.double (FP.ddiv (FP.i2d p1) (4616189618054758400 : UInt64))), .second, .unset, .unset, .unset, .unset, .unset, .unset, .unset, .unset] [(.double (FP.ddiv (FP.i2d p1) (4616189618054758400 : UInt64)))]))
  obtain ⟨_, _, ⟨T1, L1, k1, n1⟩, -, X1, ⟨Lc1, hQ1, l1, y1, z1⟩, st1⟩ := Jvm.LawKit.callS X0 hx (y := (⟨"com/example/plumeline/plumeline/LoadedMode", "noHumidityFactor", "(D)D"⟩ : MethodName)) hown (mvT hZ (hW 1 _ rfl)) (mvT hZ (hW 2 _ rfl)) (mvT hZ (hW 3 _ rfl)) (mvT hZ (hW 4 _ rfl)) (by decide) (backOf (W := 0) (nh l Z a0 hw [] (FP.ddiv (FP.i2d p1) (4616189618054758400 : UInt64)) h0 n0 XO0 a2 a3 a4 a5) hZ (hW 4 _ rfl) (hW 3 _ rfl) (by decide) (by decide)) (g := (mkF m 8 #[.val (.int p1), .val (.double (FP.ddiv (FP.i2d p1) (4616189618054758400 : UInt64))), .second, .unset, .unset, .unset, .unset, .unset, .unset, .unset, .unset] [(.double (FP.ddiv (FP.i2d p1) (4616189618054758400 : UInt64)))])) rfl (by rw [hml]; rfl) (argsL := [(.double (FP.ddiv (FP.i2d p1) (4616189618054758400 : UInt64)))]) (rest := []) (lenOf pd_0 rfl) rfl (by show 2 * 0 + _ ≤ _; exact Nat.le_of_eq rfl) (hb hby at_8) (fun _ _ => ⟨rfl, e0, (by decide : 0 + 0 ≤ _), (by decide : 0 + 0 ≤ _)⟩)
  dsimp only [Pt.U, Pt.locs, Pt.cells, Pt.slots] at X1 l1 y1 z1 st1 hQ1
  subst l1 y1 z1
  obtain ⟨rfl, Nq1, eh1⟩ := hQ1
  have N1 := Fr.app N0 Nq1
  refine own_of st1 ?_
  show own_go p e below s _ _ _ (T1.setTop (mkF m 11 #[.val (.int p1), .val (.double (FP.ddiv (FP.i2d p1) (4616189618054758400 : UInt64))), .second, .unset, .unset, .unset, .unset, .unset, .unset, .unset, .unset] [(.double (FP.ddiv FP.dconst1 (FP.dsub FP.dconst1 (FP.dmul (4572068753225335125 : UInt64) (FP.dsub (FP.ddiv (FP.i2d p1) (4616189618054758400 : UInt64)) (4634978072750194688 : UInt64))))))]))
  refine own_of (fun tt_ => XS.dstoreN X1.here hx rfl (hb hby at_11) rfl (l' := #[.val (.int p1), .val (.double (FP.ddiv (FP.i2d p1) (4616189618054758400 : UInt64))), .second, .val (.double (FP.ddiv FP.dconst1 (FP.dsub FP.dconst1 (FP.dmul (4572068753225335125 : UInt64) (FP.dsub (FP.ddiv (FP.i2d p1) (4616189618054758400 : UInt64)) (4634978072750194688 : UInt64)))))), .second, .unset, .unset, .unset, .unset, .unset, .unset]) rfl) ?_
  show own_go p e below s _ _ _ (T1.setTop (mkF m 12 #[.val (.int p1), .val (.double (FP.ddiv (FP.i2d p1) (4616189618054758400 : UInt64))), .second, .val (.double (FP.ddiv FP.dconst1 (FP.dsub FP.dconst1 (FP.dmul (4572068753225335125 : UInt64) (FP.dsub (FP.ddiv (FP.i2d p1) (4616189618054758400 : UInt64)) (4634978072750194688 : UInt64)))))), .second, .unset, .unset, .unset, .unset, .unset, .unset] []))
  refine own_of (fun tt_ => X1.ldc2J hx hown (mvT hZ (hW 7 _ rfl)) rfl (hb hby at_12)) ?_
  show own_go p e below s _ _ _ (T1.setTop (mkF m 15 #[.val (.int p1), .val (.double (FP.ddiv (FP.i2d p1) (4616189618054758400 : UInt64))), .second, .val (.double (FP.ddiv FP.dconst1 (FP.dsub FP.dconst1 (FP.dmul (4572068753225335125 : UInt64) (FP.dsub (FP.ddiv (FP.i2d p1) (4616189618054758400 : UInt64)) (4634978072750194688 : UInt64)))))), .second, .unset, .unset, .unset, .unset, .unset, .unset] [(.long (40000 : Int64))]))
  refine own_of (fun tt_ => X1.ldc2J hx hown (mvT hZ (hW 8 _ rfl)) rfl (hb hby at_15)) ?_
  show own_go p e below s _ _ _ (T1.setTop (mkF m 18 #[.val (.int p1), .val (.double (FP.ddiv (FP.i2d p1) (4616189618054758400 : UInt64))), .second, .val (.double (FP.ddiv FP.dconst1 (FP.dsub FP.dconst1 (FP.dmul (4572068753225335125 : UInt64) (FP.dsub (FP.ddiv (FP.i2d p1) (4616189618054758400 : UInt64)) (4634978072750194688 : UInt64)))))), .second, .unset, .unset, .unset, .unset, .unset, .unset] [(.long (47 : Int64)), (.long (40000 : Int64))]))
  refine own_of (fun tt_ => XS.iloadN X1.here hx rfl (hb hby at_18) rfl) ?_
  show own_go p e below s _ _ _ (T1.setTop (mkF m 19 #[.val (.int p1), .val (.double (FP.ddiv (FP.i2d p1) (4616189618054758400 : UInt64))), .second, .val (.double (FP.ddiv FP.dconst1 (FP.dsub FP.dconst1 (FP.dmul (4572068753225335125 : UInt64) (FP.dsub (FP.ddiv (FP.i2d p1) (4616189618054758400 : UInt64)) (4634978072750194688 : UInt64)))))), .second, .unset, .unset, .unset, .unset, .unset, .unset] [(.int p1), (.long (47 : Int64)), (.long (40000 : Int64))]))
  refine own_of (fun tt_ => XS.i2l X1.here hx rfl (hb hby at_19) rfl) ?_
  show own_go p e below s _ _ _ (T1.setTop (mkF m 20 #[.val (.int p1), .val (.double (FP.ddiv (FP.i2d p1) (4616189618054758400 : UInt64))), .second, .val (.double (FP.ddiv FP.dconst1 (FP.dsub FP.dconst1 (FP.dmul (4572068753225335125 : UInt64) (FP.dsub (FP.ddiv (FP.i2d p1) (4616189618054758400 : UInt64)) (4634978072750194688 : UInt64)))))), .second, .unset, .unset, .unset, .unset, .unset, .unset] [(.long (p1.toInt64)), (.long (47 : Int64)), (.long (40000 : Int64))]))
  refine own_of (fun tt_ => X1.ldc2J hx hown (mvT hZ (hW 9 _ rfl)) rfl (hb hby at_20)) ?_
  show own_go p e below s _ _ _ (T1.setTop (mkF m 23 #[.val (.int p1), .val (.double (FP.ddiv (FP.i2d p1) (4616189618054758400 : UInt64))), .second, .val (.double (FP.ddiv FP.dconst1 (FP.dsub FP.dconst1 (FP.dmul (4572068753225335125 : UInt64) (FP.dsub (FP.ddiv (FP.i2d p1) (4616189618054758400 : UInt64)) (4634978072750194688 : UInt64)))))), .second, .unset, .unset, .unset, .unset, .unset, .unset] [(.long (300 : Int64)), (.long (p1.toInt64)), (.long (47 : Int64)), (.long (40000 : Int64))]))
  refine own_of (fun tt_ => XS.lsub X1.here hx rfl (hb hby at_23) rfl) ?_
  show own_go p e below s _ _ _ (T1.setTop (mkF m 24 #[.val (.int p1), .val (.double (FP.ddiv (FP.i2d p1) (4616189618054758400 : UInt64))), .second, .val (.double (FP.ddiv FP.dconst1 (FP.dsub FP.dconst1 (FP.dmul (4572068753225335125 : UInt64) (FP.dsub (FP.ddiv (FP.i2d p1) (4616189618054758400 : UInt64)) (4634978072750194688 : UInt64)))))), .second, .unset, .unset, .unset, .unset, .unset, .unset] [(.long ((p1.toInt64) - (300 : Int64))), (.long (47 : Int64)), (.long (40000 : Int64))]))
  refine own_of (fun tt_ => XS.lmul X1.here hx rfl (hb hby at_24) rfl) ?_
  show own_go p e below s _ _ _ (T1.setTop (mkF m 25 #[.val (.int p1), .val (.double (FP.ddiv (FP.i2d p1) (4616189618054758400 : UInt64))), .second, .val (.double (FP.ddiv FP.dconst1 (FP.dsub FP.dconst1 (FP.dmul (4572068753225335125 : UInt64) (FP.dsub (FP.ddiv (FP.i2d p1) (4616189618054758400 : UInt64)) (4634978072750194688 : UInt64)))))), .second, .unset, .unset, .unset, .unset, .unset, .unset] [(.long ((47 : Int64) * ((p1.toInt64) - (300 : Int64)))), (.long (40000 : Int64))]))
  refine own_of (fun tt_ => XS.lsub X1.here hx rfl (hb hby at_25) rfl) ?_
  show own_go p e below s _ _ _ (T1.setTop (mkF m 26 #[.val (.int p1), .val (.double (FP.ddiv (FP.i2d p1) (4616189618054758400 : UInt64))), .second, .val (.double (FP.ddiv FP.dconst1 (FP.dsub FP.dconst1 (FP.dmul (4572068753225335125 : UInt64) (FP.dsub (FP.ddiv (FP.i2d p1) (4616189618054758400 : UInt64)) (4634978072750194688 : UInt64)))))), .second, .unset, .unset, .unset, .unset, .unset, .unset] [(.long ((40000 : Int64) - ((47 : Int64) * ((p1.toInt64) - (300 : Int64)))))]))
  refine own_of (fun tt_ => XS.lstore X1.here hx rfl (hb hby at_26) rfl (l' := #[.val (.int p1), .val (.double (FP.ddiv (FP.i2d p1) (4616189618054758400 : UInt64))), .second, .val (.double (FP.ddiv FP.dconst1 (FP.dsub FP.dconst1 (FP.dmul (4572068753225335125 : UInt64) (FP.dsub (FP.ddiv (FP.i2d p1) (4616189618054758400 : UInt64)) (4634978072750194688 : UInt64)))))), .second, .val (.long ((40000 : Int64) - ((47 : Int64) * ((p1.toInt64) - (300 : Int64))))), .second, .unset, .unset, .unset, .unset]) rfl) ?_
  show own_go p e below s _ _ _ (T1.setTop (mkF m 28 #[.val (.int p1), .val (.double (FP.ddiv (FP.i2d p1) (4616189618054758400 : UInt64))), .second, .val (.double (FP.ddiv FP.dconst1 (FP.dsub FP.dconst1 (FP.dmul (4572068753225335125 : UInt64) (FP.dsub (FP.ddiv (FP.i2d p1) (4616189618054758400 : UInt64)) (4634978072750194688 : UInt64)))))), .second, .val (.long ((40000 : Int64) - ((47 : Int64) * ((p1.toInt64) - (300 : Int64))))), .second, .unset, .unset, .unset, .unset] []))
  refine own_of (fun tt_ => XS.dloadN X1.here hx rfl (hb hby at_28) rfl) ?_
  show own_go p e below s _ _ _ (T1.setTop (mkF m 29 #[.val (.int p1), .val (.double (FP.ddiv (FP.i2d p1) (4616189618054758400 : UInt64))), .second, .val (.double (FP.ddiv FP.dconst1 (FP.dsub FP.dconst1 (FP.dmul (4572068753225335125 : UInt64) (FP.dsub (FP.ddiv (FP.i2d p1) (4616189618054758400 : UInt64)) (4634978072750194688 : UInt64)))))), .second, .val (.long ((40000 : Int64) - ((47 : Int64) * ((p1.toInt64) - (300 : Int64))))), .second, .unset, .unset, .unset, .unset] [(.double (FP.ddiv FP.dconst1 (FP.dsub FP.dconst1 (FP.dmul (4572068753225335125 : UInt64) (FP.dsub (FP.ddiv (FP.i2d p1) (4616189618054758400 : UInt64)) (4634978072750194688 : UInt64))))))]))
  refine own_of (fun tt_ => XS.lload X1.here hx rfl (hb hby at_29) rfl) ?_
  show own_go p e below s _ _ _ (T1.setTop (mkF m 31 #[.val (.int p1), .val (.double (FP.ddiv (FP.i2d p1) (4616189618054758400 : UInt64))), .second, .val (.double (FP.ddiv FP.dconst1 (FP.dsub FP.dconst1 (FP.dmul (4572068753225335125 : UInt64) (FP.dsub (FP.ddiv (FP.i2d p1) (4616189618054758400 : UInt64)) (4634978072750194688 : UInt64)))))), .second, .val (.long ((40000 : Int64) - ((47 : Int64) * ((p1.toInt64) - (300 : Int64))))), .second, .unset, .unset, .unset, .unset] [(.long ((40000 : Int64) - ((47 : Int64) * ((p1.toInt64) - (300 : Int64))))), (.double (FP.ddiv FP.dconst1 (FP.dsub FP.dconst1 (FP.dmul (4572068753225335125 : UInt64) (FP.dsub (FP.ddiv (FP.i2d p1) (4616189618054758400 : UInt64)) (4634978072750194688 : UInt64))))))]))
  refine own_of (fun tt_ => XS.l2dS (g := (mkF m 31 #[.val (.int p1), .val (.double (FP.ddiv (FP.i2d p1) (4616189618054758400 : UInt64))), .second, .val (.double (FP.ddiv FP.dconst1 (FP.dsub FP.dconst1 (FP.dmul (4572068753225335125 : UInt64) (FP.dsub (FP.ddiv (FP.i2d p1) (4616189618054758400 : UInt64)) (4634978072750194688 : UInt64)))))), .second, .val (.long ((40000 : Int64) - ((47 : Int64) * ((p1.toInt64) - (300 : Int64))))), .second, .unset, .unset, .unset, .unset] [(.long ((40000 : Int64) - ((47 : Int64) * ((p1.toInt64) - (300 : Int64))))), (.double (FP.ddiv FP.dconst1 (FP.dsub FP.dconst1 (FP.dmul (4572068753225335125 : UInt64) (FP.dsub (FP.ddiv (FP.i2d p1) (4616189618054758400 : UInt64)) (4634978072750194688 : UInt64))))))])) X1.here hx rfl (hb hby at_31) rfl rfl) ?_
  show own_go p e below s _ _ _ (T1.setTop (mkF m 32 #[.val (.int p1), .val (.double (FP.ddiv (FP.i2d p1) (4616189618054758400 : UInt64))), .second, .val (.double (FP.ddiv FP.dconst1 (FP.dsub FP.dconst1 (FP.dmul (4572068753225335125 : UInt64) (FP.dsub (FP.ddiv (FP.i2d p1) (4616189618054758400 : UInt64)) (4634978072750194688 : UInt64)))))), .second, .val (.long ((40000 : Int64) - ((47 : Int64) * ((p1.toInt64) - (300 : Int64))))), .second, .unset, .unset, .unset, .unset] [(.double (FP.l2d ((40000 : Int64) - ((47 : Int64) * ((p1.toInt64) - (300 : Int64)))))), (.double (FP.ddiv FP.dconst1 (FP.dsub FP.dconst1 (FP.dmul (4572068753225335125 : UInt64) (FP.dsub (FP.ddiv (FP.i2d p1) (4616189618054758400 : UInt64)) (4634978072750194688 : UInt64))))))]))
  refine own_of (fun tt_ => XS.dmulS (g := (mkF m 32 #[.val (.int p1), .val (.double (FP.ddiv (FP.i2d p1) (4616189618054758400 : UInt64))), .second, .val (.double (FP.ddiv FP.dconst1 (FP.dsub FP.dconst1 (FP.dmul (4572068753225335125 : UInt64) (FP.dsub (FP.ddiv (FP.i2d p1) (4616189618054758400 : UInt64)) (4634978072750194688 : UInt64)))))), .second, .val (.long ((40000 : Int64) - ((47 : Int64) * ((p1.toInt64) - (300 : Int64))))), .second, .unset, .unset, .unset, .unset] [(.double (FP.l2d ((40000 : Int64) - ((47 : Int64) * ((p1.toInt64) - (300 : Int64)))))), (.double (FP.ddiv FP.dconst1 (FP.dsub FP.dconst1 (FP.dmul (4572068753225335125 : UInt64) (FP.dsub (FP.ddiv (FP.i2d p1) (4616189618054758400 : UInt64)) (4634978072750194688 : UInt64))))))])) X1.here hx rfl (hb hby at_32) rfl a6 rfl) ?_
  show own_go p e below s _ _ _ (T1.setTop (mkF m 33 #[.val (.int p1), .val (.double (FP.ddiv (FP.i2d p1) (4616189618054758400 : UInt64))), .second, .val (.double (FP.ddiv FP.dconst1 (FP.dsub FP.dconst1 (FP.dmul (4572068753225335125 : UInt64) (FP.dsub (FP.ddiv (FP.i2d p1) (4616189618054758400 : UInt64)) (4634978072750194688 : UInt64)))))), .second, .val (.long ((40000 : Int64) - ((47 : Int64) * ((p1.toInt64) - (300 : Int64))))), .second, .unset, .unset, .unset, .unset] [(.double (FP.dmul (FP.ddiv FP.dconst1 (FP.dsub FP.dconst1 (FP.dmul (4572068753225335125 : UInt64) (FP.dsub (FP.ddiv (FP.i2d p1) (4616189618054758400 : UInt64)) (4634978072750194688 : UInt64))))) (FP.l2d ((40000 : Int64) - ((47 : Int64) * ((p1.toInt64) - (300 : Int64)))))))]))
  refine own_of (fun tt_ => XS.dstore X1.here hx rfl (hb hby at_33) rfl (l' := #[.val (.int p1), .val (.double (FP.ddiv (FP.i2d p1) (4616189618054758400 : UInt64))), .second, .val (.double (FP.ddiv FP.dconst1 (FP.dsub FP.dconst1 (FP.dmul (4572068753225335125 : UInt64) (FP.dsub (FP.ddiv (FP.i2d p1) (4616189618054758400 : UInt64)) (4634978072750194688 : UInt64)))))), .second, .val (.long ((40000 : Int64) - ((47 : Int64) * ((p1.toInt64) - (300 : Int64))))), .second, .val (.double (FP.dmul (FP.ddiv FP.dconst1 (FP.dsub FP.dconst1 (FP.dmul (4572068753225335125 : UInt64) (FP.dsub (FP.ddiv (FP.i2d p1) (4616189618054758400 : UInt64)) (4634978072750194688 : UInt64))))) (FP.l2d ((40000 : Int64) - ((47 : Int64) * ((p1.toInt64) - (300 : Int64))))))), .second, .unset, .unset]) rfl) ?_
  show own_go p e below s _ _ _ (T1.setTop (mkF m 35 #[.val (.int p1), .val (.double (FP.ddiv (FP.i2d p1) (4616189618054758400 : UInt64))), .second, .val (.double (FP.ddiv FP.dconst1 (FP.dsub FP.dconst1 (FP.dmul (4572068753225335125 : UInt64) (FP.dsub (FP.ddiv (FP.i2d p1) (4616189618054758400 : UInt64)) (4634978072750194688 : UInt64)))))), .second, .val (.long ((40000 : Int64) - ((47 : Int64) * ((p1.toInt64) - (300 : Int64))))), .second, .val (.double (FP.dmul (FP.ddiv FP.dconst1 (FP.dsub FP.dconst1 (FP.dmul (4572068753225335125 : UInt64) (FP.dsub (FP.ddiv (FP.i2d p1) (4616189618054758400 : UInt64)) (4634978072750194688 : UInt64))))) (FP.l2d ((40000 : Int64) - ((47 : Int64) * ((p1.toInt64) - (300 : Int64))))))), .second, .unset, .unset] []))
  refine own_of (fun tt_ => XS.dload X1.here hx rfl (hb hby at_35) rfl) ?_
  show own_go p e below s _ _ _ (T1.setTop (mkF m 37 #[.val (.int p1), .val (.double (FP.ddiv (FP.i2d p1) (4616189618054758400 : UInt64))), .second, .val (.double (FP.ddiv FP.dconst1 (FP.dsub FP.dconst1 (FP.dmul (4572068753225335125 : UInt64) (FP.dsub (FP.ddiv (FP.i2d p1) (4616189618054758400 : UInt64)) (4634978072750194688 : UInt64)))))), .second, .val (.long ((40000 : Int64) - ((47 : Int64) * ((p1.toInt64) - (300 : Int64))))), .second, .val (.double (FP.dmul (FP.ddiv FP.dconst1 (FP.dsub FP.dconst1 (FP.dmul (4572068753225335125 : UInt64) (FP.dsub (FP.ddiv (FP.i2d p1) (4616189618054758400 : UInt64)) (4634978072750194688 : UInt64))))) (FP.l2d ((40000 : Int64) - ((47 : Int64) * ((p1.toInt64) - (300 : Int64))))))), .second, .unset, .unset] [(.double (FP.dmul (FP.ddiv FP.dconst1 (FP.dsub FP.dconst1 (FP.dmul (4572068753225335125 : UInt64) (FP.dsub (FP.ddiv (FP.i2d p1) (4616189618054758400 : UInt64)) (4634978072750194688 : UInt64))))) (FP.l2d ((40000 : Int64) - ((47 : Int64) * ((p1.toInt64) - (300 : Int64)))))))]))
  refine own_of (fun tt_ => X1.ldc2DoubleC hx hown (mvT hZ (hW 10 _ rfl)) (g := (mkF m 37 #[.val (.int p1), .val (.double (FP.ddiv (FP.i2d p1) (4616189618054758400 : UInt64))), .second, .val (.double (FP.ddiv FP.dconst1 (FP.dsub FP.dconst1 (FP.dmul (4572068753225335125 : UInt64) (FP.dsub (FP.ddiv (FP.i2d p1) (4616189618054758400 : UInt64)) (4634978072750194688 : UInt64)))))), .second, .val (.long ((40000 : Int64) - ((47 : Int64) * ((p1.toInt64) - (300 : Int64))))), .second, .val (.double (FP.dmul (FP.ddiv FP.dconst1 (FP.dsub FP.dconst1 (FP.dmul (4572068753225335125 : UInt64) (FP.dsub (FP.ddiv (FP.i2d p1) (4616189618054758400 : UInt64)) (4634978072750194688 : UInt64))))) (FP.l2d ((40000 : Int64) - ((47 : Int64) * ((p1.toInt64) - (300 : Int64))))))), .second, .unset, .unset] [(.double (FP.dmul (FP.ddiv FP.dconst1 (FP.dsub FP.dconst1 (FP.dmul (4572068753225335125 : UInt64) (FP.dsub (FP.ddiv (FP.i2d p1) (4616189618054758400 : UInt64)) (4634978072750194688 : UInt64))))) (FP.l2d ((40000 : Int64) - ((47 : Int64) * ((p1.toInt64) - (300 : Int64)))))))])) rfl (hb hby at_37) _) ?_
  show own_go p e below s _ _ _ (T1.setTop (mkF m 40 #[.val (.int p1), .val (.double (FP.ddiv (FP.i2d p1) (4616189618054758400 : UInt64))), .second, .val (.double (FP.ddiv FP.dconst1 (FP.dsub FP.dconst1 (FP.dmul (4572068753225335125 : UInt64) (FP.dsub (FP.ddiv (FP.i2d p1) (4616189618054758400 : UInt64)) (4634978072750194688 : UInt64)))))), .second, .val (.long ((40000 : Int64) - ((47 : Int64) * ((p1.toInt64) - (300 : Int64))))), .second, .val (.double (FP.dmul (FP.ddiv FP.dconst1 (FP.dsub FP.dconst1 (FP.dmul (4572068753225335125 : UInt64) (FP.dsub (FP.ddiv (FP.i2d p1) (4616189618054758400 : UInt64)) (4634978072750194688 : UInt64))))) (FP.l2d ((40000 : Int64) - ((47 : Int64) * ((p1.toInt64) - (300 : Int64))))))), .second, .unset, .unset] [(.double (4675730371584645399 : UInt64)), (.double (FP.dmul (FP.ddiv FP.dconst1 (FP.dsub FP.dconst1 (FP.dmul (4572068753225335125 : UInt64) (FP.dsub (FP.ddiv (FP.i2d p1) (4616189618054758400 : UInt64)) (4634978072750194688 : UInt64))))) (FP.l2d ((40000 : Int64) - ((47 : Int64) * ((p1.toInt64) - (300 : Int64)))))))]))
  refine own_of (fun tt_ => XS.dcmpS (g := (mkF m 40 #[.val (.int p1), .val (.double (FP.ddiv (FP.i2d p1) (4616189618054758400 : UInt64))), .second, .val (.double (FP.ddiv FP.dconst1 (FP.dsub FP.dconst1 (FP.dmul (4572068753225335125 : UInt64) (FP.dsub (FP.ddiv (FP.i2d p1) (4616189618054758400 : UInt64)) (4634978072750194688 : UInt64)))))), .second, .val (.long ((40000 : Int64) - ((47 : Int64) * ((p1.toInt64) - (300 : Int64))))), .second, .val (.double (FP.dmul (FP.ddiv FP.dconst1 (FP.dsub FP.dconst1 (FP.dmul (4572068753225335125 : UInt64) (FP.dsub (FP.ddiv (FP.i2d p1) (4616189618054758400 : UInt64)) (4634978072750194688 : UInt64))))) (FP.l2d ((40000 : Int64) - ((47 : Int64) * ((p1.toInt64) - (300 : Int64))))))), .second, .unset, .unset] [(.double (4675730371584645399 : UInt64)), (.double (FP.dmul (FP.ddiv FP.dconst1 (FP.dsub FP.dconst1 (FP.dmul (4572068753225335125 : UInt64) (FP.dsub (FP.ddiv (FP.i2d p1) (4616189618054758400 : UInt64)) (4634978072750194688 : UInt64))))) (FP.l2d ((40000 : Int64) - ((47 : Int64) * ((p1.toInt64) - (300 : Int64)))))))])) X1.here hx rfl (hb hby at_40) rfl (v := (1 : Int32)) a7) ?_
  show own_go p e below s _ _ _ (T1.setTop (mkF m 41 #[.val (.int p1), .val (.double (FP.ddiv (FP.i2d p1) (4616189618054758400 : UInt64))), .second, .val (.double (FP.ddiv FP.dconst1 (FP.dsub FP.dconst1 (FP.dmul (4572068753225335125 : UInt64) (FP.dsub (FP.ddiv (FP.i2d p1) (4616189618054758400 : UInt64)) (4634978072750194688 : UInt64)))))), .second, .val (.long ((40000 : Int64) - ((47 : Int64) * ((p1.toInt64) - (300 : Int64))))), .second, .val (.double (FP.dmul (FP.ddiv FP.dconst1 (FP.dsub FP.dconst1 (FP.dmul (4572068753225335125 : UInt64) (FP.dsub (FP.ddiv (FP.i2d p1) (4616189618054758400 : UInt64)) (4634978072750194688 : UInt64))))) (FP.l2d ((40000 : Int64) - ((47 : Int64) * ((p1.toInt64) - (300 : Int64))))))), .second, .unset, .unset] [(.int (1 : Int32))]))
  have hb41_2 : (0 : Int32) < (1 : Int32) := by decide
  refine own_of (fun tt_ => XS.ifNo X1.here hx rfl (hb hby at_41) rfl ((if0 _ _).trans (tlt hb41_2).2.2.2)) ?_
  show own_go p e below s _ _ _ (T1.setTop (mkF m 44 #[.val (.int p1), .val (.double (FP.ddiv (FP.i2d p1) (4616189618054758400 : UInt64))), .second, .val (.double (FP.ddiv FP.dconst1 (FP.dsub FP.dconst1 (FP.dmul (4572068753225335125 : UInt64) (FP.dsub (FP.ddiv (FP.i2d p1) (4616189618054758400 : UInt64)) (4634978072750194688 : UInt64)))))), .second, .val (.long ((40000 : Int64) - ((47 : Int64) * ((p1.toInt64) - (300 : Int64))))), .second, .val (.double (FP.dmul (FP.ddiv FP.dconst1 (FP.dsub FP.dconst1 (FP.dmul (4572068753225335125 : UInt64) (FP.dsub (FP.ddiv (FP.i2d p1) (4616189618054758400 : UInt64)) (4634978072750194688 : UInt64))))) (FP.l2d ((40000 : Int64) - ((47 : Int64) * ((p1.toInt64) - (300 : Int64))))))), .second, .unset, .unset] []))
  refine own_of (fun tt_ => XS.dload X1.here hx rfl (hb hby at_44) rfl) ?_
  show own_go p e below s _ _ _ (T1.setTop (mkF m 46 #[.val (.int p1), .val (.double (FP.ddiv (FP.i2d p1) (4616189618054758400 : UInt64))), .second, .val (.double (FP.ddiv FP.dconst1 (FP.dsub FP.dconst1 (FP.dmul (4572068753225335125 : UInt64) (FP.dsub (FP.ddiv (FP.i2d p1) (4616189618054758400 : UInt64)) (4634978072750194688 : UInt64)))))), .second, .val (.long ((40000 : Int64) - ((47 : Int64) * ((p1.toInt64) - (300 : Int64))))), .second, .val (.double (FP.dmul (FP.ddiv FP.dconst1 (FP.dsub FP.dconst1 (FP.dmul (4572068753225335125 : UInt64) (FP.dsub (FP.ddiv (FP.i2d p1) (4616189618054758400 : UInt64)) (4634978072750194688 : UInt64))))) (FP.l2d ((40000 : Int64) - ((47 : Int64) * ((p1.toInt64) - (300 : Int64))))))), .second, .unset, .unset] [(.double (FP.dmul (FP.ddiv FP.dconst1 (FP.dsub FP.dconst1 (FP.dmul (4572068753225335125 : UInt64) (FP.dsub (FP.ddiv (FP.i2d p1) (4616189618054758400 : UInt64)) (4634978072750194688 : UInt64))))) (FP.l2d ((40000 : Int64) - ((47 : Int64) * ((p1.toInt64) - (300 : Int64)))))))]))
  refine own_of (fun tt_ => X1.ldc2DoubleC hx hown (mvT hZ (hW 11 _ rfl)) (g := (mkF m 46 #[.val (.int p1), .val (.double (FP.ddiv (FP.i2d p1) (4616189618054758400 : UInt64))), .second, .val (.double (FP.ddiv FP.dconst1 (FP.dsub FP.dconst1 (FP.dmul (4572068753225335125 : UInt64) (FP.dsub (FP.ddiv (FP.i2d p1) (4616189618054758400 : UInt64)) (4634978072750194688 : UInt64)))))), .second, .val (.long ((40000 : Int64) - ((47 : Int64) * ((p1.toInt64) - (300 : Int64))))), .second, .val (.double (FP.dmul (FP.ddiv FP.dconst1 (FP.dsub FP.dconst1 (FP.dmul (4572068753225335125 : UInt64) (FP.dsub (FP.ddiv (FP.i2d p1) (4616189618054758400 : UInt64)) (4634978072750194688 : UInt64))))) (FP.l2d ((40000 : Int64) - ((47 : Int64) * ((p1.toInt64) - (300 : Int64))))))), .second, .unset, .unset] [(.double (FP.dmul (FP.ddiv FP.dconst1 (FP.dsub FP.dconst1 (FP.dmul (4572068753225335125 : UInt64) (FP.dsub (FP.ddiv (FP.i2d p1) (4616189618054758400 : UInt64)) (4634978072750194688 : UInt64))))) (FP.l2d ((40000 : Int64) - ((47 : Int64) * ((p1.toInt64) - (300 : Int64)))))))])) rfl (hb hby at_46) _) ?_
  show own_go p e below s _ _ _ (T1.setTop (mkF m 49 #[.val (.int p1), .val (.double (FP.ddiv (FP.i2d p1) (4616189618054758400 : UInt64))), .second, .val (.double (FP.ddiv FP.dconst1 (FP.dsub FP.dconst1 (FP.dmul (4572068753225335125 : UInt64) (FP.dsub (FP.ddiv (FP.i2d p1) (4616189618054758400 : UInt64)) (4634978072750194688 : UInt64)))))), .second, .val (.long ((40000 : Int64) - ((47 : Int64) * ((p1.toInt64) - (300 : Int64))))), .second, .val (.double (FP.dmul (FP.ddiv FP.dconst1 (FP.dsub FP.dconst1 (FP.dmul (4572068753225335125 : UInt64) (FP.dsub (FP.ddiv (FP.i2d p1) (4616189618054758400 : UInt64)) (4634978072750194688 : UInt64))))) (FP.l2d ((40000 : Int64) - ((47 : Int64) * ((p1.toInt64) - (300 : Int64))))))), .second, .unset, .unset] [(.double (4675730371859523305 : UInt64)), (.double (FP.dmul (FP.ddiv FP.dconst1 (FP.dsub FP.dconst1 (FP.dmul (4572068753225335125 : UInt64) (FP.dsub (FP.ddiv (FP.i2d p1) (4616189618054758400 : UInt64)) (4634978072750194688 : UInt64))))) (FP.l2d ((40000 : Int64) - ((47 : Int64) * ((p1.toInt64) - (300 : Int64)))))))]))
  refine own_of (fun tt_ => XS.dcmpS (g := (mkF m 49 #[.val (.int p1), .val (.double (FP.ddiv (FP.i2d p1) (4616189618054758400 : UInt64))), .second, .val (.double (FP.ddiv FP.dconst1 (FP.dsub FP.dconst1 (FP.dmul (4572068753225335125 : UInt64) (FP.dsub (FP.ddiv (FP.i2d p1) (4616189618054758400 : UInt64)) (4634978072750194688 : UInt64)))))), .second, .val (.long ((40000 : Int64) - ((47 : Int64) * ((p1.toInt64) - (300 : Int64))))), .second, .val (.double (FP.dmul (FP.ddiv FP.dconst1 (FP.dsub FP.dconst1 (FP.dmul (4572068753225335125 : UInt64) (FP.dsub (FP.ddiv (FP.i2d p1) (4616189618054758400 : UInt64)) (4634978072750194688 : UInt64))))) (FP.l2d ((40000 : Int64) - ((47 : Int64) * ((p1.toInt64) - (300 : Int64))))))), .second, .unset, .unset] [(.double (4675730371859523305 : UInt64)), (.double (FP.dmul (FP.ddiv FP.dconst1 (FP.dsub FP.dconst1 (FP.dmul (4572068753225335125 : UInt64) (FP.dsub (FP.ddiv (FP.i2d p1) (4616189618054758400 : UInt64)) (4634978072750194688 : UInt64))))) (FP.l2d ((40000 : Int64) - ((47 : Int64) * ((p1.toInt64) - (300 : Int64)))))))])) X1.here hx rfl (hb hby at_49) rfl (v := (-1 : Int32)) a8) ?_
  show own_go p e below s _ _ _ (T1.setTop (mkF m 50 #[.val (.int p1), .val (.double (FP.ddiv (FP.i2d p1) (4616189618054758400 : UInt64))), .second, .val (.double (FP.ddiv FP.dconst1 (FP.dsub FP.dconst1 (FP.dmul (4572068753225335125 : UInt64) (FP.dsub (FP.ddiv (FP.i2d p1) (4616189618054758400 : UInt64)) (4634978072750194688 : UInt64)))))), .second, .val (.long ((40000 : Int64) - ((47 : Int64) * ((p1.toInt64) - (300 : Int64))))), .second, .val (.double (FP.dmul (FP.ddiv FP.dconst1 (FP.dsub FP.dconst1 (FP.dmul (4572068753225335125 : UInt64) (FP.dsub (FP.ddiv (FP.i2d p1) (4616189618054758400 : UInt64)) (4634978072750194688 : UInt64))))) (FP.l2d ((40000 : Int64) - ((47 : Int64) * ((p1.toInt64) - (300 : Int64))))))), .second, .unset, .unset] [(.int (-1 : Int32))]))
  have hb50_3 : (-1 : Int32) < (0 : Int32) := by decide
  refine own_of (fun tt_ => XS.ifNo X1.here hx rfl (hb hby at_50) rfl ((if0 _ _).trans (tlt hb50_3).2.1)) ?_
  show own_go p e below s _ _ _ (T1.setTop (mkF m 53 #[.val (.int p1), .val (.double (FP.ddiv (FP.i2d p1) (4616189618054758400 : UInt64))), .second, .val (.double (FP.ddiv FP.dconst1 (FP.dsub FP.dconst1 (FP.dmul (4572068753225335125 : UInt64) (FP.dsub (FP.ddiv (FP.i2d p1) (4616189618054758400 : UInt64)) (4634978072750194688 : UInt64)))))), .second, .val (.long ((40000 : Int64) - ((47 : Int64) * ((p1.toInt64) - (300 : Int64))))), .second, .val (.double (FP.dmul (FP.ddiv FP.dconst1 (FP.dsub FP.dconst1 (FP.dmul (4572068753225335125 : UInt64) (FP.dsub (FP.ddiv (FP.i2d p1) (4616189618054758400 : UInt64)) (4634978072750194688 : UInt64))))) (FP.l2d ((40000 : Int64) - ((47 : Int64) * ((p1.toInt64) - (300 : Int64))))))), .second, .unset, .unset] []))
  refine own_of (fun tt_ => XS.iconst X1.here hx rfl (hb hby at_53)) ?_
  show own_go p e below s _ _ _ (T1.setTop (mkF m 54 #[.val (.int p1), .val (.double (FP.ddiv (FP.i2d p1) (4616189618054758400 : UInt64))), .second, .val (.double (FP.ddiv FP.dconst1 (FP.dsub FP.dconst1 (FP.dmul (4572068753225335125 : UInt64) (FP.dsub (FP.ddiv (FP.i2d p1) (4616189618054758400 : UInt64)) (4634978072750194688 : UInt64)))))), .second, .val (.long ((40000 : Int64) - ((47 : Int64) * ((p1.toInt64) - (300 : Int64))))), .second, .val (.double (FP.dmul (FP.ddiv FP.dconst1 (FP.dsub FP.dconst1 (FP.dmul (4572068753225335125 : UInt64) (FP.dsub (FP.ddiv (FP.i2d p1) (4616189618054758400 : UInt64)) (4634978072750194688 : UInt64))))) (FP.l2d ((40000 : Int64) - ((47 : Int64) * ((p1.toInt64) - (300 : Int64))))))), .second, .unset, .unset] [(.int (1 : Int32))]))
  refine own_of (fun tt_ => XS.goto X1.here hx rfl (pc0 := 54) (pc' := 58) rfl (hb hby at_54) (by decide) (by decide)) ?_
  show own_go p e below s _ _ _ (T1.setTop (mkF m 58 #[.val (.int p1), .val (.double (FP.ddiv (FP.i2d p1) (4616189618054758400 : UInt64))), .second, .val (.double (FP.ddiv FP.dconst1 (FP.dsub FP.dconst1 (FP.dmul (4572068753225335125 : UInt64) (FP.dsub (FP.ddiv (FP.i2d p1) (4616189618054758400 : UInt64)) (4634978072750194688 : UInt64)))))), .second, .val (.long ((40000 : Int64) - ((47 : Int64) * ((p1.toInt64) - (300 : Int64))))), .second, .val (.double (FP.dmul (FP.ddiv FP.dconst1 (FP.dsub FP.dconst1 (FP.dmul (4572068753225335125 : UInt64) (FP.dsub (FP.ddiv (FP.i2d p1) (4616189618054758400 : UInt64)) (4634978072750194688 : UInt64))))) (FP.l2d ((40000 : Int64) - ((47 : Int64) * ((p1.toInt64) - (300 : Int64))))))), .second, .unset, .unset] [(.int (1 : Int32))]))
  refine own_of (fun tt_ => XS.istore X1.here hx rfl (hb hby at_58) rfl (l' := #[.val (.int p1), .val (.double (FP.ddiv (FP.i2d p1) (4616189618054758400 : UInt64))), .second, .val (.double (FP.ddiv FP.dconst1 (FP.dsub FP.dconst1 (FP.dmul (4572068753225335125 : UInt64) (FP.dsub (FP.ddiv (FP.i2d p1) (4616189618054758400 : UInt64)) (4634978072750194688 : UInt64)))))), .second, .val (.long ((40000 : Int64) - ((47 : Int64) * ((p1.toInt64) - (300 : Int64))))), .second, .val (.double (FP.dmul (FP.ddiv FP.dconst1 (FP.dsub FP.dconst1 (FP.dmul (4572068753225335125 : UInt64) (FP.dsub (FP.ddiv (FP.i2d p1) (4616189618054758400 : UInt64)) (4634978072750194688 : UInt64))))) (FP.l2d ((40000 : Int64) - ((47 : Int64) * ((p1.toInt64) - (300 : Int64))))))), .second, .val (.int (1 : Int32)), .unset]) rfl) ?_
  show own_go p e below s _ _ _ (T1.setTop (mkF m 60 #[.val (.int p1), .val (.double (FP.ddiv (FP.i2d p1) (4616189618054758400 : UInt64))), .second, .val (.double (FP.ddiv FP.dconst1 (FP.dsub FP.dconst1 (FP.dmul (4572068753225335125 : UInt64) (FP.dsub (FP.ddiv (FP.i2d p1) (4616189618054758400 : UInt64)) (4634978072750194688 : UInt64)))))), .second, .val (.long ((40000 : Int64) - ((47 : Int64) * ((p1.toInt64) - (300 : Int64))))), .second, .val (.double (FP.dmul (FP.ddiv FP.dconst1 (FP.dsub FP.dconst1 (FP.dmul (4572068753225335125 : UInt64) (FP.dsub (FP.ddiv (FP.i2d p1) (4616189618054758400 : UInt64)) (4634978072750194688 : UInt64))))) (FP.l2d ((40000 : Int64) - ((47 : Int64) * ((p1.toInt64) - (300 : Int64))))))), .second, .val (.int (1 : Int32)), .unset] []))
  refine own_of (fun tt_ => X1.ldc2DoubleC hx hown (mvT hZ (hW 12 _ rfl)) (g := (mkF m 60 #[.val (.int p1), .val (.double (FP.ddiv (FP.i2d p1) (4616189618054758400 : UInt64))), .second, .val (.double (FP.ddiv FP.dconst1 (FP.dsub FP.dconst1 (FP.dmul (4572068753225335125 : UInt64) (FP.dsub (FP.ddiv (FP.i2d p1) (4616189618054758400 : UInt64)) (4634978072750194688 : UInt64)))))), .second, .val (.long ((40000 : Int64) - ((47 : Int64) * ((p1.toInt64) - (300 : Int64))))), .second, .val (.double (FP.dmul (FP.ddiv FP.dconst1 (FP.dsub FP.dconst1 (FP.dmul (4572068753225335125 : UInt64) (FP.dsub (FP.ddiv (FP.i2d p1) (4616189618054758400 : UInt64)) (4634978072750194688 : UInt64))))) (FP.l2d ((40000 : Int64) - ((47 : Int64) * ((p1.toInt64) - (300 : Int64))))))), .second, .val (.int (1 : Int32)), .unset] [])) rfl (hb hby at_60) _) ?_
  show own_go p e below s _ _ _ (T1.setTop (mkF m 63 #[.val (.int p1), .val (.double (FP.ddiv (FP.i2d p1) (4616189618054758400 : UInt64))), .second, .val (.double (FP.ddiv FP.dconst1 (FP.dsub FP.dconst1 (FP.dmul (4572068753225335125 : UInt64) (FP.dsub (FP.ddiv (FP.i2d p1) (4616189618054758400 : UInt64)) (4634978072750194688 : UInt64)))))), .second, .val (.long ((40000 : Int64) - ((47 : Int64) * ((p1.toInt64) - (300 : Int64))))), .second, .val (.double (FP.dmul (FP.ddiv FP.dconst1 (FP.dsub FP.dconst1 (FP.dmul (4572068753225335125 : UInt64) (FP.dsub (FP.ddiv (FP.i2d p1) (4616189618054758400 : UInt64)) (4634978072750194688 : UInt64))))) (FP.l2d ((40000 : Int64) - ((47 : Int64) * ((p1.toInt64) - (300 : Int64))))))), .second, .val (.int (1 : Int32)), .unset] [(.double (4634978072750194688 : UInt64))]))
  obtain ⟨_, _, ⟨T4, L4, k4, n4⟩, -, X4, ⟨Lc4, hQ4, l4, y4, z4⟩, st4⟩ := Jvm.LawKit.callS X1 hx (y := (⟨"com/example/plumeline/plumeline/LoadedMode", "noHumidityFactor", "(D)D"⟩ : MethodName)) hown (mvT hZ (hW 1 _ rfl)) (mvT hZ (hW 2 _ rfl)) (mvT hZ (hW 3 _ rfl)) (mvT hZ (hW 4 _ rfl)) (by decide) (backOf (W := 0) (nh l Z a0 hw [] (4634978072750194688 : UInt64) h0 n0 XO0 b1 b2 b3 b4) hZ (hW 4 _ rfl) (hW 3 _ rfl) (by decide) (by decide)) (g := (mkF m 63 #[.val (.int p1), .val (.double (FP.ddiv (FP.i2d p1) (4616189618054758400 : UInt64))), .second, .val (.double (FP.ddiv FP.dconst1 (FP.dsub FP.dconst1 (FP.dmul (4572068753225335125 : UInt64) (FP.dsub (FP.ddiv (FP.i2d p1) (4616189618054758400 : UInt64)) (4634978072750194688 : UInt64)))))), .second, .val (.long ((40000 : Int64) - ((47 : Int64) * ((p1.toInt64) - (300 : Int64))))), .second, .val (.double (FP.dmul (FP.ddiv FP.dconst1 (FP.dsub FP.dconst1 (FP.dmul (4572068753225335125 : UInt64) (FP.dsub (FP.ddiv (FP.i2d p1) (4616189618054758400 : UInt64)) (4634978072750194688 : UInt64))))) (FP.l2d ((40000 : Int64) - ((47 : Int64) * ((p1.toInt64) - (300 : Int64))))))), .second, .val (.int (1 : Int32)), .unset] [(.double (4634978072750194688 : UInt64))])) rfl (by rw [hml]; rfl) (argsL := [(.double (4634978072750194688 : UInt64))]) (rest := []) (lenOf pd_0 rfl) rfl (by show 2 * 0 + _ ≤ _; exact Nat.le_of_eq rfl) (hb hby at_63) (fun _ _ => ⟨rfl, eh1, (by decide : 0 + 0 ≤ _), (by decide : 0 + 0 ≤ _)⟩)
  dsimp only [Pt.U, Pt.locs, Pt.cells, Pt.slots] at X4 l4 y4 z4 st4 hQ4
  subst l4 y4 z4
  obtain ⟨rfl, Nq4, eh4⟩ := hQ4
  have N4 := Fr.app N1 Nq4
  refine own_of st4 ?_
  show own_go p e below s _ _ _ (T4.setTop (mkF m 66 #[.val (.int p1), .val (.double (FP.ddiv (FP.i2d p1) (4616189618054758400 : UInt64))), .second, .val (.double (FP.ddiv FP.dconst1 (FP.dsub FP.dconst1 (FP.dmul (4572068753225335125 : UInt64) (FP.dsub (FP.ddiv (FP.i2d p1) (4616189618054758400 : UInt64)) (4634978072750194688 : UInt64)))))), .second, .val (.long ((40000 : Int64) - ((47 : Int64) * ((p1.toInt64) - (300 : Int64))))), .second, .val (.double (FP.dmul (FP.ddiv FP.dconst1 (FP.dsub FP.dconst1 (FP.dmul (4572068753225335125 : UInt64) (FP.dsub (FP.ddiv (FP.i2d p1) (4616189618054758400 : UInt64)) (4634978072750194688 : UInt64))))) (FP.l2d ((40000 : Int64) - ((47 : Int64) * ((p1.toInt64) - (300 : Int64))))))), .second, .val (.int (1 : Int32)), .unset] [(.double (FP.ddiv FP.dconst1 (FP.dsub FP.dconst1 (FP.dmul (4572068753225335125 : UInt64) (FP.dsub (4634978072750194688 : UInt64) (4634978072750194688 : UInt64))))))]))
  refine own_of (fun tt_ => XS.dconst1 (g := (mkF m 66 #[.val (.int p1), .val (.double (FP.ddiv (FP.i2d p1) (4616189618054758400 : UInt64))), .second, .val (.double (FP.ddiv FP.dconst1 (FP.dsub FP.dconst1 (FP.dmul (4572068753225335125 : UInt64) (FP.dsub (FP.ddiv (FP.i2d p1) (4616189618054758400 : UInt64)) (4634978072750194688 : UInt64)))))), .second, .val (.long ((40000 : Int64) - ((47 : Int64) * ((p1.toInt64) - (300 : Int64))))), .second, .val (.double (FP.dmul (FP.ddiv FP.dconst1 (FP.dsub FP.dconst1 (FP.dmul (4572068753225335125 : UInt64) (FP.dsub (FP.ddiv (FP.i2d p1) (4616189618054758400 : UInt64)) (4634978072750194688 : UInt64))))) (FP.l2d ((40000 : Int64) - ((47 : Int64) * ((p1.toInt64) - (300 : Int64))))))), .second, .val (.int (1 : Int32)), .unset] [(.double (FP.ddiv FP.dconst1 (FP.dsub FP.dconst1 (FP.dmul (4572068753225335125 : UInt64) (FP.dsub (4634978072750194688 : UInt64) (4634978072750194688 : UInt64))))))])) X4.here hx rfl (hb hby at_66) rfl) ?_
  show own_go p e below s _ _ _ (T4.setTop (mkF m 67 #[.val (.int p1), .val (.double (FP.ddiv (FP.i2d p1) (4616189618054758400 : UInt64))), .second, .val (.double (FP.ddiv FP.dconst1 (FP.dsub FP.dconst1 (FP.dmul (4572068753225335125 : UInt64) (FP.dsub (FP.ddiv (FP.i2d p1) (4616189618054758400 : UInt64)) (4634978072750194688 : UInt64)))))), .second, .val (.long ((40000 : Int64) - ((47 : Int64) * ((p1.toInt64) - (300 : Int64))))), .second, .val (.double (FP.dmul (FP.ddiv FP.dconst1 (FP.dsub FP.dconst1 (FP.dmul (4572068753225335125 : UInt64) (FP.dsub (FP.ddiv (FP.i2d p1) (4616189618054758400 : UInt64)) (4634978072750194688 : UInt64))))) (FP.l2d ((40000 : Int64) - ((47 : Int64) * ((p1.toInt64) - (300 : Int64))))))), .second, .val (.int (1 : Int32)), .unset] [(.double FP.dconst1), (.double (FP.ddiv FP.dconst1 (FP.dsub FP.dconst1 (FP.dmul (4572068753225335125 : UInt64) (FP.dsub (4634978072750194688 : UInt64) (4634978072750194688 : UInt64))))))]))
  refine own_of (fun tt_ => XS.dcmpS (g := (mkF m 67 #[.val (.int p1), .val (.double (FP.ddiv (FP.i2d p1) (4616189618054758400 : UInt64))), .second, .val (.double (FP.ddiv FP.dconst1 (FP.dsub FP.dconst1 (FP.dmul (4572068753225335125 : UInt64) (FP.dsub (FP.ddiv (FP.i2d p1) (4616189618054758400 : UInt64)) (4634978072750194688 : UInt64)))))), .second, .val (.long ((40000 : Int64) - ((47 : Int64) * ((p1.toInt64) - (300 : Int64))))), .second, .val (.double (FP.dmul (FP.ddiv FP.dconst1 (FP.dsub FP.dconst1 (FP.dmul (4572068753225335125 : UInt64) (FP.dsub (FP.ddiv (FP.i2d p1) (4616189618054758400 : UInt64)) (4634978072750194688 : UInt64))))) (FP.l2d ((40000 : Int64) - ((47 : Int64) * ((p1.toInt64) - (300 : Int64))))))), .second, .val (.int (1 : Int32)), .unset] [(.double FP.dconst1), (.double (FP.ddiv FP.dconst1 (FP.dsub FP.dconst1 (FP.dmul (4572068753225335125 : UInt64) (FP.dsub (4634978072750194688 : UInt64) (4634978072750194688 : UInt64))))))])) X4.here hx rfl (hb hby at_67) rfl (v := (0 : Int32)) b5) ?_
  show own_go p e below s _ _ _ (T4.setTop (mkF m 68 #[.val (.int p1), .val (.double (FP.ddiv (FP.i2d p1) (4616189618054758400 : UInt64))), .second, .val (.double (FP.ddiv FP.dconst1 (FP.dsub FP.dconst1 (FP.dmul (4572068753225335125 : UInt64) (FP.dsub (FP.ddiv (FP.i2d p1) (4616189618054758400 : UInt64)) (4634978072750194688 : UInt64)))))), .second, .val (.long ((40000 : Int64) - ((47 : Int64) * ((p1.toInt64) - (300 : Int64))))), .second, .val (.double (FP.dmul (FP.ddiv FP.dconst1 (FP.dsub FP.dconst1 (FP.dmul (4572068753225335125 : UInt64) (FP.dsub (FP.ddiv (FP.i2d p1) (4616189618054758400 : UInt64)) (4634978072750194688 : UInt64))))) (FP.l2d ((40000 : Int64) - ((47 : Int64) * ((p1.toInt64) - (300 : Int64))))))), .second, .val (.int (1 : Int32)), .unset] [(.int (0 : Int32))]))
  have hb68_5 : (0 : Int32) = (0 : Int32) := by decide
  refine own_of (fun tt_ => XS.ifNo X4.here hx rfl (hb hby at_68) rfl ((if0 _ _).trans (teq hb68_5).2)) ?_
  show own_go p e below s _ _ _ (T4.setTop (mkF m 71 #[.val (.int p1), .val (.double (FP.ddiv (FP.i2d p1) (4616189618054758400 : UInt64))), .second, .val (.double (FP.ddiv FP.dconst1 (FP.dsub FP.dconst1 (FP.dmul (4572068753225335125 : UInt64) (FP.dsub (FP.ddiv (FP.i2d p1) (4616189618054758400 : UInt64)) (4634978072750194688 : UInt64)))))), .second, .val (.long ((40000 : Int64) - ((47 : Int64) * ((p1.toInt64) - (300 : Int64))))), .second, .val (.double (FP.dmul (FP.ddiv FP.dconst1 (FP.dsub FP.dconst1 (FP.dmul (4572068753225335125 : UInt64) (FP.dsub (FP.ddiv (FP.i2d p1) (4616189618054758400 : UInt64)) (4634978072750194688 : UInt64))))) (FP.l2d ((40000 : Int64) - ((47 : Int64) * ((p1.toInt64) - (300 : Int64))))))), .second, .val (.int (1 : Int32)), .unset] []))
  refine own_of (fun tt_ => XS.iconst X4.here hx rfl (hb hby at_71)) ?_
  show own_go p e below s _ _ _ (T4.setTop (mkF m 72 #[.val (.int p1), .val (.double (FP.ddiv (FP.i2d p1) (4616189618054758400 : UInt64))), .second, .val (.double (FP.ddiv FP.dconst1 (FP.dsub FP.dconst1 (FP.dmul (4572068753225335125 : UInt64) (FP.dsub (FP.ddiv (FP.i2d p1) (4616189618054758400 : UInt64)) (4634978072750194688 : UInt64)))))), .second, .val (.long ((40000 : Int64) - ((47 : Int64) * ((p1.toInt64) - (300 : Int64))))), .second, .val (.double (FP.dmul (FP.ddiv FP.dconst1 (FP.dsub FP.dconst1 (FP.dmul (4572068753225335125 : UInt64) (FP.dsub (FP.ddiv (FP.i2d p1) (4616189618054758400 : UInt64)) (4634978072750194688 : UInt64))))) (FP.l2d ((40000 : Int64) - ((47 : Int64) * ((p1.toInt64) - (300 : Int64))))))), .second, .val (.int (1 : Int32)), .unset] [(.int (1 : Int32))]))
  refine own_of (fun tt_ => XS.goto X4.here hx rfl (pc0 := 72) (pc' := 76) rfl (hb hby at_72) (by decide) (by decide)) ?_
  show own_go p e below s _ _ _ (T4.setTop (mkF m 76 #[.val (.int p1), .val (.double (FP.ddiv (FP.i2d p1) (4616189618054758400 : UInt64))), .second, .val (.double (FP.ddiv FP.dconst1 (FP.dsub FP.dconst1 (FP.dmul (4572068753225335125 : UInt64) (FP.dsub (FP.ddiv (FP.i2d p1) (4616189618054758400 : UInt64)) (4634978072750194688 : UInt64)))))), .second, .val (.long ((40000 : Int64) - ((47 : Int64) * ((p1.toInt64) - (300 : Int64))))), .second, .val (.double (FP.dmul (FP.ddiv FP.dconst1 (FP.dsub FP.dconst1 (FP.dmul (4572068753225335125 : UInt64) (FP.dsub (FP.ddiv (FP.i2d p1) (4616189618054758400 : UInt64)) (4634978072750194688 : UInt64))))) (FP.l2d ((40000 : Int64) - ((47 : Int64) * ((p1.toInt64) - (300 : Int64))))))), .second, .val (.int (1 : Int32)), .unset] [(.int (1 : Int32))]))
  refine own_of (fun tt_ => XS.istore X4.here hx rfl (hb hby at_76) rfl (l' := #[.val (.int p1), .val (.double (FP.ddiv (FP.i2d p1) (4616189618054758400 : UInt64))), .second, .val (.double (FP.ddiv FP.dconst1 (FP.dsub FP.dconst1 (FP.dmul (4572068753225335125 : UInt64) (FP.dsub (FP.ddiv (FP.i2d p1) (4616189618054758400 : UInt64)) (4634978072750194688 : UInt64)))))), .second, .val (.long ((40000 : Int64) - ((47 : Int64) * ((p1.toInt64) - (300 : Int64))))), .second, .val (.double (FP.dmul (FP.ddiv FP.dconst1 (FP.dsub FP.dconst1 (FP.dmul (4572068753225335125 : UInt64) (FP.dsub (FP.ddiv (FP.i2d p1) (4616189618054758400 : UInt64)) (4634978072750194688 : UInt64))))) (FP.l2d ((40000 : Int64) - ((47 : Int64) * ((p1.toInt64) - (300 : Int64))))))), .second, .val (.int (1 : Int32)), .val (.int (1 : Int32))]) rfl) ?_
  show own_go p e below s _ _ _ (T4.setTop (mkF m 78 #[.val (.int p1), .val (.double (FP.ddiv (FP.i2d p1) (4616189618054758400 : UInt64))), .second, .val (.double (FP.ddiv FP.dconst1 (FP.dsub FP.dconst1 (FP.dmul (4572068753225335125 : UInt64) (FP.dsub (FP.ddiv (FP.i2d p1) (4616189618054758400 : UInt64)) (4634978072750194688 : UInt64)))))), .second, .val (.long ((40000 : Int64) - ((47 : Int64) * ((p1.toInt64) - (300 : Int64))))), .second, .val (.double (FP.dmul (FP.ddiv FP.dconst1 (FP.dsub FP.dconst1 (FP.dmul (4572068753225335125 : UInt64) (FP.dsub (FP.ddiv (FP.i2d p1) (4616189618054758400 : UInt64)) (4634978072750194688 : UInt64))))) (FP.l2d ((40000 : Int64) - ((47 : Int64) * ((p1.toInt64) - (300 : Int64))))))), .second, .val (.int (1 : Int32)), .val (.int (1 : Int32))] []))
  refine own_of (fun tt_ => XS.iload X4.here hx rfl (hb hby at_78) rfl) ?_
  show own_go p e below s _ _ _ (T4.setTop (mkF m 80 #[.val (.int p1), .val (.double (FP.ddiv (FP.i2d p1) (4616189618054758400 : UInt64))), .second, .val (.double (FP.ddiv FP.dconst1 (FP.dsub FP.dconst1 (FP.dmul (4572068753225335125 : UInt64) (FP.dsub (FP.ddiv (FP.i2d p1) (4616189618054758400 : UInt64)) (4634978072750194688 : UInt64)))))), .second, .val (.long ((40000 : Int64) - ((47 : Int64) * ((p1.toInt64) - (300 : Int64))))), .second, .val (.double (FP.dmul (FP.ddiv FP.dconst1 (FP.dsub FP.dconst1 (FP.dmul (4572068753225335125 : UInt64) (FP.dsub (FP.ddiv (FP.i2d p1) (4616189618054758400 : UInt64)) (4634978072750194688 : UInt64))))) (FP.l2d ((40000 : Int64) - ((47 : Int64) * ((p1.toInt64) - (300 : Int64))))))), .second, .val (.int (1 : Int32)), .val (.int (1 : Int32))] [(.int (1 : Int32))]))
  have hb80_6 : ¬ ((1 : Int32) = (0 : Int32)) := by decide
  refine own_of (fun tt_ => XS.ifNo X4.here hx rfl (hb hby at_80) rfl ((if0 _ _).trans (feq hb80_6).1)) ?_
  show own_go p e below s _ _ _ (T4.setTop (mkF m 83 #[.val (.int p1), .val (.double (FP.ddiv (FP.i2d p1) (4616189618054758400 : UInt64))), .second, .val (.double (FP.ddiv FP.dconst1 (FP.dsub FP.dconst1 (FP.dmul (4572068753225335125 : UInt64) (FP.dsub (FP.ddiv (FP.i2d p1) (4616189618054758400 : UInt64)) (4634978072750194688 : UInt64)))))), .second, .val (.long ((40000 : Int64) - ((47 : Int64) * ((p1.toInt64) - (300 : Int64))))), .second, .val (.double (FP.dmul (FP.ddiv FP.dconst1 (FP.dsub FP.dconst1 (FP.dmul (4572068753225335125 : UInt64) (FP.dsub (FP.ddiv (FP.i2d p1) (4616189618054758400 : UInt64)) (4634978072750194688 : UInt64))))) (FP.l2d ((40000 : Int64) - ((47 : Int64) * ((p1.toInt64) - (300 : Int64))))))), .second, .val (.int (1 : Int32)), .val (.int (1 : Int32))] []))
  refine own_of (fun tt_ => XS.iload X4.here hx rfl (hb hby at_83) rfl) ?_
  show own_go p e below s _ _ _ (T4.setTop (mkF m 85 #[.val (.int p1), .val (.double (FP.ddiv (FP.i2d p1) (4616189618054758400 : UInt64))), .second, .val (.double (FP.ddiv FP.dconst1 (FP.dsub FP.dconst1 (FP.dmul (4572068753225335125 : UInt64) (FP.dsub (FP.ddiv (FP.i2d p1) (4616189618054758400 : UInt64)) (4634978072750194688 : UInt64)))))), .second, .val (.long ((40000 : Int64) - ((47 : Int64) * ((p1.toInt64) - (300 : Int64))))), .second, .val (.double (FP.dmul (FP.ddiv FP.dconst1 (FP.dsub FP.dconst1 (FP.dmul (4572068753225335125 : UInt64) (FP.dsub (FP.ddiv (FP.i2d p1) (4616189618054758400 : UInt64)) (4634978072750194688 : UInt64))))) (FP.l2d ((40000 : Int64) - ((47 : Int64) * ((p1.toInt64) - (300 : Int64))))))), .second, .val (.int (1 : Int32)), .val (.int (1 : Int32))] [(.int (1 : Int32))]))
  have hb85_7 : ¬ ((1 : Int32) = (0 : Int32)) := by decide
  refine own_of (fun tt_ => XS.ifNo X4.here hx rfl (hb hby at_85) rfl ((if0 _ _).trans (feq hb85_7).1)) ?_
  show own_go p e below s _ _ _ (T4.setTop (mkF m 88 #[.val (.int p1), .val (.double (FP.ddiv (FP.i2d p1) (4616189618054758400 : UInt64))), .second, .val (.double (FP.ddiv FP.dconst1 (FP.dsub FP.dconst1 (FP.dmul (4572068753225335125 : UInt64) (FP.dsub (FP.ddiv (FP.i2d p1) (4616189618054758400 : UInt64)) (4634978072750194688 : UInt64)))))), .second, .val (.long ((40000 : Int64) - ((47 : Int64) * ((p1.toInt64) - (300 : Int64))))), .second, .val (.double (FP.dmul (FP.ddiv FP.dconst1 (FP.dsub FP.dconst1 (FP.dmul (4572068753225335125 : UInt64) (FP.dsub (FP.ddiv (FP.i2d p1) (4616189618054758400 : UInt64)) (4634978072750194688 : UInt64))))) (FP.l2d ((40000 : Int64) - ((47 : Int64) * ((p1.toInt64) - (300 : Int64))))))), .second, .val (.int (1 : Int32)), .val (.int (1 : Int32))] []))
  refine own_of (fun tt_ => XS.iconst X4.here hx rfl (hb hby at_88)) ?_
  show own_go p e below s _ _ _ (T4.setTop (mkF m 89 #[.val (.int p1), .val (.double (FP.ddiv (FP.i2d p1) (4616189618054758400 : UInt64))), .second, .val (.double (FP.ddiv FP.dconst1 (FP.dsub FP.dconst1 (FP.dmul (4572068753225335125 : UInt64) (FP.dsub (FP.ddiv (FP.i2d p1) (4616189618054758400 : UInt64)) (4634978072750194688 : UInt64)))))), .second, .val (.long ((40000 : Int64) - ((47 : Int64) * ((p1.toInt64) - (300 : Int64))))), .second, .val (.double (FP.dmul (FP.ddiv FP.dconst1 (FP.dsub FP.dconst1 (FP.dmul (4572068753225335125 : UInt64) (FP.dsub (FP.ddiv (FP.i2d p1) (4616189618054758400 : UInt64)) (4634978072750194688 : UInt64))))) (FP.l2d ((40000 : Int64) - ((47 : Int64) * ((p1.toInt64) - (300 : Int64))))))), .second, .val (.int (1 : Int32)), .val (.int (1 : Int32))] [(.int (1 : Int32))]))
  refine own_of (fun tt_ => XS.goto X4.here hx rfl (pc0 := 89) (pc' := 93) rfl (hb hby at_89) (by decide) (by decide)) ?_
  show own_go p e below s _ _ _ (T4.setTop (mkF m 93 #[.val (.int p1), .val (.double (FP.ddiv (FP.i2d p1) (4616189618054758400 : UInt64))), .second, .val (.double (FP.ddiv FP.dconst1 (FP.dsub FP.dconst1 (FP.dmul (4572068753225335125 : UInt64) (FP.dsub (FP.ddiv (FP.i2d p1) (4616189618054758400 : UInt64)) (4634978072750194688 : UInt64)))))), .second, .val (.long ((40000 : Int64) - ((47 : Int64) * ((p1.toInt64) - (300 : Int64))))), .second, .val (.double (FP.dmul (FP.ddiv FP.dconst1 (FP.dsub FP.dconst1 (FP.dmul (4572068753225335125 : UInt64) (FP.dsub (FP.ddiv (FP.i2d p1) (4616189618054758400 : UInt64)) (4634978072750194688 : UInt64))))) (FP.l2d ((40000 : Int64) - ((47 : Int64) * ((p1.toInt64) - (300 : Int64))))))), .second, .val (.int (1 : Int32)), .val (.int (1 : Int32))] [(.int (1 : Int32))]))
  refine own_ret X4 hx hlk Bd.returns rfl (Or.inl ⟨rfl, by simp, _, rfl⟩) (hb hby at_93) (by decide) (by decide) ?_
  rw [eh4]
  exact ⟨rfl, N4⟩
set_option maxRecDepth 65536 in
set_option maxHeartbeats 40000000 in
theorem comes_1 {Post : Tables → Env → Array Value → State → Outcome → State → Prop} (hpost : ∀ tb e args s v u, (limb_1_1.after args s (.returned v) u = true ∧ limb_1_2.after args s (.returned v) u = true ∧ True) → FrameEnd s (.returned v) u (Jvm.fieldLocs frame_1_writes args s ++ Jvm.arrayLocs frame_1_arrays args s ++ Jvm.staticLocs frame_1_statics s) 0 0 → Post tb e args s (.returned v) u) :
    ArmFor flags0 classFile x code maxLocals ret World_1 tables_1 room_1 Calls_1 rest_1 Pre_1 Post := by
  intro l hfl _ _ p e ha hc hk s m args below hf hA hF happ hP
  obtain ⟨hcalls, hrest, hpre⟩ := hP
  obtain ⟨-, -, -, hnamed, -, -, -, hat⟩ := (Spec.applies_iff hf).mp happ
  obtain ⟨hg, hn⟩ := and_e (Cond.before_iff.mp (show (Jvm.Cond.and given_1 narrow_1).before args s = true from hpre))
  obtain ⟨g1, g2⟩ := and_e hg
  obtain ⟨w0, rfl⟩ : ∃ w0 : Value, args = #[w0] := by
    have hs : args.size = 1 := by simpa [Cond.value, given_1] using g1
    obtain ⟨L⟩ := args
    match L, hs with
    | [w0], _ => exact ⟨w0, rfl⟩
  have hw := fun d (hd : d ∈ tables_1) => atoms_spec (ws := Jvm.Cond.code x code maxLocals ret :: tables_1) hat d (List.mem_cons_of_mem _ hd)
  have hW : ∀ (i : Nat) (d : Jvm.Cond), tables_1[i]? = some d → d.before _ s = true := fun i d h => hw d (List.mem_of_getElem? h)
  have hfit : Fit s := fun {y c} hc i hi => by
    obtain ⟨ha, rfl⟩ := Array.getElem?_eq_some_iff.mp hc
    have q := List.all_eq_true.mp ((Array.all_eq_true_iff_forall_mem.mp hF) _ (Array.getElem_mem ha)) i (List.mem_range.mpr hi)
    simpa [Array.getElem?_eq_getElem hi] using q
  obtain ⟨i0, ei0⟩ := is_v g2
  obtain rfl : w0 = (.int i0) := Option.some.inj ei0
  -- hn says: Jvm.Cond.tt
  obtain ⟨n, o, h1, h2, h3, _, L, rfl, ⟨rfl, N⟩, hq⟩ := rm0 l s _ hw tables_1 i0 s.heap s.heap.size (Old.start s) p e ha hc hk s m _ below hf ((Spec.applies_iff_loose hf).mp happ).1 ⟨rfl, State.Warmed39.refl s, rfl⟩ trivial
  refine ⟨n, _, h1, h2, h3, hpost _ _ _ _ _ _ ⟨Cond.after_iff.mpr rfl, Cond.after_iff.mpr (eq_i res_at (Term.int_eval (1)) rfl), trivial⟩ ⟨hq.1, hq.2.1, (hq.2.2.sift fun y hy => Or.inr (N y hy)).mono (by decide) (by decide)⟩⟩
theorem main_1_1 : Claimed_1_1 := comes_1 fun _ _ _ _ _ _ h hF => ⟨h.1, hF⟩
theorem main_1_2 : Claimed_1_2 := comes_1 fun _ _ _ _ _ _ h hF => ⟨h.2.1, hF⟩
end Jvm.Pilot.@@N@@
namespace Jvm.Pilot.@@N@@
open Jvm Jvm.ClassFile Sem Op Lib Jvm.Free Jvm.Stand Jvm.Pilot.@@N@@.Jvm.D
/-! MADE BY PROGRAM (witnessworld.py) out of the Statement's table words and the real class files: 9 classes; the members and pool entries that the words name. The judged class is class 1, her method 1. -/
namespace start1
open Jvm.ClassFile
def u (s : String) : CpInfo := .utf8 (stringToUtf16 s)
/-- a pool by its gaps: so many unusable entries, then the entry; so many at the end -/
def gap : Nat → List CpInfo → List CpInfo
  | 0, r => r
  | n + 1, r => .unusable :: gap n r
def poolList (es : List (Nat × CpInfo)) (last : Nat) : List CpInfo := es.foldr (fun e r => gap e.1 (e.2 :: r)) (gap last [])
def pool (es : List (Nat × CpInfo)) (last : Nat) : Array CpInfo := ⟨poolList es last⟩
def fileOf (pool : Array CpInfo) (this : Nat) (attrs : Array Attribute := #[]) (ms : Array MethodInfo := #[]) (fl : Nat := 33) (sup : Nat := 0) (ifs : Array Nat := #[]) (fds : Array FieldInfo := #[]) : ClassFile where
  minorVersion := 0
  majorVersion := 65
  constantPool := pool
  accessFlags := fl
  thisClass := this
  superClass := sup
  interfaces := ifs
  fields := fds
  methods := ms
  attributes := attrs
def plain (name : String) (sup : Option ClassId) : Class where
  name := name
  kind := .ordinary
  loader := none
  accessFlags := 33
  super := sup
  interfaces := #[]
  cf := none
  fields := #[]
  methods := #[]
  instanceTypes := #[]
  staticTypes := #[]
  resolved := #[]
  callSites := []
  init := .initialized
  statics := none
  mirror := none

def pool0 : Array CpInfo := pool [(5, u "<init>"), (0, u "()V"), (1, .class_ 10), (1, u "java/lang/Object")] 113

def k0m0 : Method := { name := "<init>", desc := "()V", sig := { parameters := [], returnType := none }, accessFlags := 1, code := none }
/-- java/lang/Object -/
def k0 : Class := { plain "java/lang/Object" none with
  accessFlags := 33
  interfaces := #[]
  cf := some (fileOf pool0 8 #[] #[{ accessFlags := 1, nameIndex := 5, descriptorIndex := 6, attributes := #[] }] 33 0 #[] #[])
  fields := #[]
  methods := #[k0m0]
  instanceTypes := #[]
  staticTypes := #[]
  resolved := Array.replicate 124 none
  statics := none }

def pool1 : Array CpInfo := pool [(2, .class_ 4), (1, u "java/lang/Object"), (0, u "<init>"), (0, u "()V"), (0, .double 4616189618054758400), (1, .methodref 10 11), (0, .class_ 12), (0, .nameAndType 13 14), (0, u "com/example/plumeline/plumeline/LoadedMode"), (0, u "noHumidityFactor"), (0, u "(D)D"), (0, .long 40000), (1, .long 47), (1, .long 300), (1, .double 4675730371584645399), (1, .double 4675730371859523305), (1, .double 4634978072750194688), (1, .class_ 28), (0, u "com/example/plumeline/plumeline/LoadedModeNoHumidityFactorPinLaw"), (2, u "law"), (0, u "(I)Z")] 3

def k1m0 : Method := { name := "<init>", desc := "()V", sig := { parameters := [], returnType := none }, accessFlags := 1, code := none }
def k1c1 : Code := { maxStack := 8, maxLocals := 11, code := code, exceptionTable := #[], attributes := #[] }
def k1m1 : Method := { name := "law", desc := "(I)Z", sig := { parameters := [.int], returnType := some .boolean }, accessFlags := 9, code := some k1c1 }
/-- com/example/plumeline/plumeline/LoadedModeNoHumidityFactorPinLaw -/
def k1 : Class := { plain "com/example/plumeline/plumeline/LoadedModeNoHumidityFactorPinLaw" (some 0) with
  accessFlags := 49
  interfaces := #[]
  cf := some (fileOf pool1 27 #[] #[{ accessFlags := 1, nameIndex := 5, descriptorIndex := 6, attributes := #[] }, { accessFlags := 9, nameIndex := 31, descriptorIndex := 32, attributes := #[] }] 49 2 #[] #[])
  fields := #[]
  methods := #[k1m0, k1m1]
  instanceTypes := #[]
  staticTypes := #[]
  resolved := Array.replicate 36 none
  statics := none }

def pool2 : Array CpInfo := pool [(1, .class_ 2), (0, u "com/example/plumeline/plumeline/LoadedMode"), (3, .class_ 8), (1, u "java/lang/Object"), (0, u "<init>"), (0, u "()V"), (5, .class_ 18), (1, u "com/example/plumeline/plumeline/LoadedMode$Fuel"), (1, u "D"), (15, u "(D)D"), (2, .double 4572068753225335125), (1, .double 4634978072750194688), (11, .class_ 55), (1, u "com/example/plumeline/plumeline/LoadedMode$Mode"), (2, .class_ 59), (0, u "com/example/plumeline/plumeline/LoadedMode$Trace"), (28, .class_ 90), (1, u "com/example/plumeline/plumeline/LoadedMode$1"), (51, u "SPEED_TOLERANCE_KMH"), (0, u "Ljava/math/BigDecimal;"), (8, u "FIRST_CATEGORY_CLASS_II_FROM"), (0, u "Ljava/time/LocalDate;"), (2, u "SECOND_CATEGORY_CLASS_II_FROM"), (2, u "CLASS_III_FROM"), (37, u "CLASS_I_LIMITS"), (0, u "[[Lcom/example/plumeline/plumeline/AsmLimits;"), (34, u "CLASS_II_III_LIMITS"), (0, u "MAX_DILUTION"), (1, u "HUMIDITY_MAX_TEMP_C"), (0, u "WINDOW_SECONDS"), (0, u "I"), (1, u "FIRST_SECOND"), (1, u "LAST_SECOND"), (1, u "MIN_CO_CO2_PCT"), (2, u "FAST_CHECK_LAST_SECOND"), (1, u "FAST_PASS_SHARE"), (2, u "FAST_FAIL_MULTIPLE"), (2, u "NEVER"), (8, u "noHumidityFactor"), (13, .class_ 279), (0, u "com/example/plumeline/plumeline/LoadedMode$Trace$Corrected"), (0, .class_ 281), (0, u "com/example/plumeline/plumeline/LoadedMode$LimitClass")] 8

def k2m0 : Method := { name := "<init>", desc := "()V", sig := { parameters := [], returnType := none }, accessFlags := 2, code := none }
def k2c1 : Code := { maxStack := 10, maxLocals := 2, code := prog_51_method_4_code, exceptionTable := #[], attributes := #[] }
def k2m1 : Method := { name := "noHumidityFactor", desc := "(D)D", sig := { parameters := [.double], returnType := some .double }, accessFlags := 9, code := some k2c1 }
/-- com/example/plumeline/plumeline/LoadedMode -/
def k2 : Class := { plain "com/example/plumeline/plumeline/LoadedMode" (some 0) with
  accessFlags := 49
  interfaces := #[]
  cf := some (fileOf pool2 1 #[.nestMembers #[88, 58, 278, 280, 16, 53]] #[{ accessFlags := 2, nameIndex := 9, descriptorIndex := 10, attributes := #[] }, { accessFlags := 9, nameIndex := 264, descriptorIndex := 36, attributes := #[] }] 49 6 #[] #[{ accessFlags := 26, nameIndex := 234, descriptorIndex := 20, attributes := #[] }, { accessFlags := 26, nameIndex := 236, descriptorIndex := 20, attributes := #[] }, { accessFlags := 26, nameIndex := 237, descriptorIndex := 238, attributes := #[] }, { accessFlags := 26, nameIndex := 240, descriptorIndex := 238, attributes := #[] }, { accessFlags := 26, nameIndex := 242, descriptorIndex := 238, attributes := #[] }, { accessFlags := 26, nameIndex := 142, descriptorIndex := 143, attributes := #[] }, { accessFlags := 26, nameIndex := 244, descriptorIndex := 20, attributes := #[] }, { accessFlags := 26, nameIndex := 247, descriptorIndex := 238, attributes := #[] }, { accessFlags := 26, nameIndex := 249, descriptorIndex := 20, attributes := #[] }, { accessFlags := 26, nameIndex := 252, descriptorIndex := 20, attributes := #[] }, { accessFlags := 26, nameIndex := 255, descriptorIndex := 238, attributes := #[] }, { accessFlags := 26, nameIndex := 152, descriptorIndex := 153, attributes := #[] }, { accessFlags := 26, nameIndex := 156, descriptorIndex := 153, attributes := #[] }, { accessFlags := 26, nameIndex := 159, descriptorIndex := 153, attributes := #[] }, { accessFlags := 26, nameIndex := 197, descriptorIndex := 198, attributes := #[] }, { accessFlags := 26, nameIndex := 233, descriptorIndex := 198, attributes := #[] }])
  fields := #[{ name := "MAX_DILUTION", type := .double, accessFlags := 26, slot := 0, constantValue := 0 }, { name := "HUMIDITY_MAX_TEMP_C", type := .double, accessFlags := 26, slot := 1, constantValue := 0 }, { name := "WINDOW_SECONDS", type := .int, accessFlags := 26, slot := 2, constantValue := 0 }, { name := "FIRST_SECOND", type := .int, accessFlags := 26, slot := 3, constantValue := 0 }, { name := "LAST_SECOND", type := .int, accessFlags := 26, slot := 4, constantValue := 0 }, { name := "SPEED_TOLERANCE_KMH", type := (.object "java/math/BigDecimal"), accessFlags := 26, slot := 5, constantValue := 0 }, { name := "MIN_CO_CO2_PCT", type := .double, accessFlags := 26, slot := 6, constantValue := 0 }, { name := "FAST_CHECK_LAST_SECOND", type := .int, accessFlags := 26, slot := 7, constantValue := 0 }, { name := "FAST_PASS_SHARE", type := .double, accessFlags := 26, slot := 8, constantValue := 0 }, { name := "FAST_FAIL_MULTIPLE", type := .double, accessFlags := 26, slot := 9, constantValue := 0 }, { name := "NEVER", type := .int, accessFlags := 26, slot := 10, constantValue := 0 }, { name := "FIRST_CATEGORY_CLASS_II_FROM", type := (.object "java/time/LocalDate"), accessFlags := 26, slot := 11, constantValue := 0 }, { name := "SECOND_CATEGORY_CLASS_II_FROM", type := (.object "java/time/LocalDate"), accessFlags := 26, slot := 12, constantValue := 0 }, { name := "CLASS_III_FROM", type := (.object "java/time/LocalDate"), accessFlags := 26, slot := 13, constantValue := 0 }, { name := "CLASS_I_LIMITS", type := (.array (.array (.object "com/example/plumeline/plumeline/AsmLimits"))), accessFlags := 26, slot := 14, constantValue := 0 }, { name := "CLASS_II_III_LIMITS", type := (.array (.array (.object "com/example/plumeline/plumeline/AsmLimits"))), accessFlags := 26, slot := 15, constantValue := 0 }]
  methods := #[k2m0, k2m1]
  instanceTypes := #[]
  staticTypes := #[.double, .double, .int, .int, .int, (.object "java/math/BigDecimal"), .double, .int, .double, .double, .int, (.object "java/time/LocalDate"), (.object "java/time/LocalDate"), (.object "java/time/LocalDate"), (.array (.array (.object "com/example/plumeline/plumeline/AsmLimits"))), (.array (.array (.object "com/example/plumeline/plumeline/AsmLimits")))]
  resolved := Array.replicate 290 none
  statics := none }

def pool3 : Array CpInfo := pool [(1, u "java/lang/Cloneable"), (0, .class_ 1), (0, u "java/lang/Object"), (0, .class_ 3)] 3

/-- java/lang/Cloneable -/
def k3 : Class := { plain "java/lang/Cloneable" (some 0) with
  accessFlags := 1537
  interfaces := #[]
  cf := some (fileOf pool3 2 #[] #[] 1537 4 #[] #[])
  fields := #[]
  methods := #[]
  instanceTypes := #[]
  staticTypes := #[]
  resolved := Array.replicate 8 none
  statics := none }

def pool4 : Array CpInfo := pool [(1, u "java/io/Serializable"), (0, .class_ 1), (0, u "java/lang/Object"), (0, .class_ 3)] 3

/-- java/io/Serializable -/
def k4 : Class := { plain "java/io/Serializable" (some 0) with
  accessFlags := 1537
  interfaces := #[]
  cf := some (fileOf pool4 2 #[] #[] 1537 4 #[] #[])
  fields := #[]
  methods := #[]
  instanceTypes := #[]
  staticTypes := #[]
  resolved := Array.replicate 8 none
  statics := none }

/-- the primitive byte -/
def k5 : Class := { plain "byte" none with kind := .primitive 'B', accessFlags := 0x411 }
/-- [B -/
def k6 : Class := { plain "[B" (some 0) with kind := .array 5 .byte, interfaces := #[3, 4], accessFlags := 1041 }

/-- the primitive int -/
def k7 : Class := { plain "int" none with kind := .primitive 'I', accessFlags := 0x411 }
/-- [I -/
def k8 : Class := { plain "[I" (some 0) with kind := .array 7 .int, interfaces := #[3, 4], accessFlags := 1041 }

def heap : Heap := #[]
def classes : Array Class := #[k0, k1, k2, k3, k4, k5, k6, k7, k8]
def interned : List (Array UInt16 × Addr) := []
def slotsUsed : Nat := 0
def theMethod : MethodId := ⟨1, 1⟩
def args0 : Array Value := #[.int 5]
def aboutOver (below : List Frame) : State where
  vm := { classes := classes, interned := interned.toArray }
  heap := heap
  slotsUsed := slotsUsed
  threads := #[{ frames := .invoking theMethod args0 :: below }]
def below0 : List Frame := [.native { method := ⟨0, 0⟩, args := #[] }]
def about1 : State := aboutOver below0
def p0 : Program := .bare "" "" ""
def e0 : Env := launch0.env 0 0 0
theorem w_frames : about1.frames = Frame.invoking theMethod args0 :: below0 := rfl
set_option maxRecDepth 65536 in
theorem w_args : argsFit about1.vm theMethod args0 = true := by decide +kernel
set_option maxRecDepth 65536 in
theorem w_heap : heapFits about1 = true := by decide +kernel
set_option maxRecDepth 65536 in
theorem w_runnable : about1.curStatus? = some .runnable := by decide +kernel
set_option maxRecDepth 65536 in
theorem w_alone : about1.alone = true := by decide +kernel
set_option maxRecDepth 65536 in
theorem w_named : about1.methodNamed? x = some theMethod := by decide +kernel
set_option maxRecDepth 65536 in
theorem w_hears : about1.hears theMethod below0 = true := by decide +kernel
set_option maxRecDepth 65536 in
theorem w_ripe : about1.ripe theMethod args0 below0 = true := by decide +kernel
theorem w_running : about1.status = .running := rfl
set_option maxRecDepth 65536 in
theorem w_room : about1.hasRoom e0.platform room_1 = true :=
  launch0.hasRoom_least _ room_1 (by decide +kernel) (by decide +kernel) (by decide +kernel) (by decide +kernel) (by decide +kernel) (by decide +kernel)
theorem allAtoms_all (ts : List Jvm.Cond) (a : Array Jvm.Value) (st : Jvm.State) : (allAtoms ts).before a st = ts.all (fun c => c.before a st) := by
  induction ts with
  | nil => rfl
  | cons c t ih =>
    show (Jvm.Cond.and c (allAtoms t)).before a st = _
    rw [Jvm.Cond.before_and, ih, List.all_cons]
def words1 : List Jvm.Cond := Jvm.Cond.code x code maxLocals ret :: tables_1
/-- a 'code' word, met by the world's own term for the bytes: nothing is compared byte by byte -/
theorem code_word {y : MethodName} {bytes : ByteArray} {mx : Nat} {rt : Option FieldType} {a : Array Value} {s : State} {m : MethodId} {meth : Method} {c : Code} (h1 : s.methodNamed? y = some m) (h2 : s.vm.method? m = some meth) (h3 : meth.code = some c) (h4 : c.code = bytes)
    (h5 : (c.maxLocals == mx && c.exceptionTable.isEmpty && decide (c.maxStack ≤ mostOperands) && decide (meth.sig.returnType = rt) && !meth.locks && decide (parseMethodDescriptor y.desc = some meth.sig)) = true) : (Jvm.Cond.code y bytes mx rt).before a s = true := by
  simp only [Bool.and_eq_true, beq_iff_eq, Bool.not_eq_true', decide_eq_true_eq] at h5
  obtain ⟨⟨⟨⟨⟨g1, g2⟩, g3⟩, g4⟩, g5⟩, g6⟩ := h5
  simp [Cond.before, Cond.holds, Cond.value, h1, h2, h3, h4, g1, g2, g3, g4, g5, g6]
def isCode : Jvm.Cond → Bool
  | .code _ _ _ _ => true
  | _ => false
theorem all_split {L : List Jvm.Cond} {P : Jvm.Cond → Bool} (h1 : L.all (fun c => isCode c || P c) = true) (h2 : ∀ c ∈ L.filter isCode, P c = true) : L.all P = true := by
  refine List.all_eq_true.mpr fun c hc => ?_
  have h := List.all_eq_true.mp h1 c hc
  rcases Bool.eq_false_or_eq_true (isCode c) with hi | hi
  · exact h2 c (List.mem_filter.mpr ⟨hc, hi⟩)
  · simpa [hi] using h
set_option maxRecDepth 65536 in
theorem w_c0 : (Jvm.Cond.code x code maxLocals ret).before args0 about1 = true := code_word (m := ⟨1, 1⟩) (meth := k1m1) (c := k1c1) (by decide +kernel) rfl rfl rfl (by decide +kernel)
set_option maxRecDepth 65536 in
theorem w_c1 : (Jvm.Cond.code ({ cls := "com/example/plumeline/plumeline/LoadedMode", name := "noHumidityFactor", desc := "(D)D" } : Jvm.MethodName) prog_51_method_4_code (2 : Nat) (Option.some Jvm.ClassFile.FieldType.double)).before args0 about1 = true := code_word (m := ⟨2, 1⟩) (meth := k2m1) (c := k2c1) (by decide +kernel) rfl rfl rfl (by decide +kernel)
def codes1 : List Jvm.Cond := [Jvm.Cond.code x code maxLocals ret, Jvm.Cond.code ({ cls := "com/example/plumeline/plumeline/LoadedMode", name := "noHumidityFactor", desc := "(D)D" } : Jvm.MethodName) prog_51_method_4_code (2 : Nat) (Option.some Jvm.ClassFile.FieldType.double)]
set_option maxRecDepth 65536 in
theorem codes_eq : words1.filter isCode = codes1 := rfl
theorem w_codes : ∀ c ∈ words1.filter isCode, c.before args0 about1 = true := by
  rw [codes_eq]
  intro c hc
  simp only [codes1, List.mem_cons, List.not_mem_nil, or_false] at hc
  rcases hc with rfl | rfl
  · exact w_c0
  · exact w_c1
set_option maxRecDepth 65536 in
theorem w_t1 : words1.all (fun c => isCode c || c.before args0 about1) = true := by decide +kernel
theorem w_tables : (allAtoms (Jvm.Cond.code x code maxLocals ret :: tables_1)).before args0 about1 = true := by
  rw [allAtoms_all]
  show words1.all (fun c => c.before args0 about1) = true
  refine all_split ?_ w_codes
  rw [w_t1]
set_option maxRecDepth 65536 in
theorem w_case : (Jvm.Cond.and given_1 narrow_1).before args0 about1 = true := by decide +kernel
theorem w_applies : (headSpec (Jvm.Cond.code x code maxLocals ret :: tables_1) room_1).applies x e0.platform about1 = true :=
  (Spec.applies_iff w_frames).mpr ⟨w_running, w_runnable, w_alone, w_named, w_hears, w_ripe, w_room, w_tables⟩
theorem atStart : AtStart classFile x code maxLocals ret World_1 tables_1 room_1 Calls_1 rest_1 Pre_1 launch0 p0 e0 about1 theMethod args0 below0 :=
  ⟨lists_1, trivial, launch0.admits_env _ _ _, launch0.least_env, fairChoices_fair.cas, fairChoices_fair.clock, w_frames, w_args, w_heap, w_applies, trivial, trivial, w_case⟩
end start1
theorem witness_1 : WitnessClaimed_1 := ⟨start1.p0, start1.e0, start1.about1, start1.theMethod, start1.args0, start1.below0, start1.atStart⟩
end Jvm.Pilot.@@N@@
