import JvmDerived
import JvmDerived.Pilot.@@N@@Statement
import JvmDerived.Pilot.@@N@@Code
set_option linter.unusedVariables false
set_option linter.unusedSimpArgs false
@@BLOCK:NumsL.lean.txt@@
namespace Jvm.Pilot.@@N@@
open Jvm Jvm.ClassFile Sem Op Lib Jvm.Free Jvm.Stand Jvm.LawKit Jvm.RoadKit Bundle Jvm.Pilot.@@N@@.Jvm.D
section Own
variable {p : Program} {l : Launch} {e : Env} {R : Room} {s : State} {m : MethodId} {args : Array Value} {below : List Frame} {meth : Method} {c : Code} {T : State} {locs : List Loc} {cells slots : Nat}
/-- from A the run ends, and what it leaves is as Q says -/
def own_go (p : Program) (e : Env) (below : List Frame) (s : State) (Q : Option Value → Heap → List Loc → Prop) (C S : Nat) (A : State) : Prop :=
  ∃ t o, Steps p.tables e below A t ∧ t.status = .running ∧ Ended t below o ∧ ∃ v L, o = .returned v ∧ Q v t.heap L ∧ FrameEnd s o t L C S
variable {Q : Option Value → Heap → List Loc → Prop} {C S : Nat} {A B : State}
theorem own_in (h : own_go p e below s Q C S A) : ∃ t o, Steps p.tables e below A t ∧ t.status = .running ∧ Ended t below o ∧ ∃ v L, o = .returned v ∧ Q v t.heap L ∧ FrameEnd s o t L C S := h
theorem own_of (k : ∀ t, Steps p.tables e below B t → Steps p.tables e below A t) (h : own_go p e below s Q C S B) : own_go p e below s Q C S A := by
  obtain ⟨t, o, h1, h2⟩ := h
  exact ⟨t, o, k t h1, h2⟩
theorem own_lt {a b : Nat} (h : a < b) : a < b := h
theorem own_ne {a b : Nat} (h : a ≠ b) : a ≠ b := h
theorem own_use {α : Type} (X : Stand p l e R s m args below meth c T locs cells slots) {h : Heap} {g : α → JFrame} {G : State → Prop} (k : ∀ (r : α) (T' : State), Stand p l e R s m args below meth c T' locs cells slots → T'.heap = h → G (T'.setTop (g r)))
    (b : (∀ (r : α) (T' : State), Stand p l e R s m args below meth c T' locs cells slots → T'.heap = h → G (T'.setTop (g r))) → G A) : G A := b k
theorem own_ret (X : Stand p l e R s m args below meth c T locs cells slots) (hx : p.tables.exec = Jvm.exec) (hlk : meth.locks = false) {pc : Nat} {Ls : Array Slot} {w : Value} {t : FieldType} {i : Instr} {rest : List Value} (hret : meth.sig.returnType = some t) (hn : narrow t w = w)
    (hi : (i = .ireturn ∧ (t = .int ∨ t = .boolean ∨ t = .byte ∨ t = .char ∨ t = .short) ∧ ∃ z, w = .int z) ∨ (i = .lreturn ∧ t = .long ∧ ∃ z, w = .long z) ∨ (i = .dreturn ∧ t = .double ∧ ∃ z, w = .double z) ∨ (i = .freturn ∧ t = .float ∧ ∃ z, w = .float z) ∨ (i = .areturn ∧ t.isReference = true ∧ w.isRef = true))
    (hd : decode c.code pc = .ok (i, 1)) (hc : cells ≤ C) (hs : slots ≤ S) (hQ : Q (some w) T.heap locs) : own_go p e below s Q C S (T.setTop (mkF m pc Ls (w :: rest))) := by
  obtain ⟨fs, hr, hrun, hended, hW, hsame⟩ := X.leave (v := some w) (fun h => by rw [hret] at h; cases h) hlk
  exact ⟨_, _, retOut X hx hret hn hi hd hr, hrun, hended, _, _, rfl, hQ, ⟨_, rfl⟩, hW, hsame.mono hc hs⟩
theorem own_retV (X : Stand p l e R s m args below meth c T locs cells slots) (hx : p.tables.exec = Jvm.exec) (hlk : meth.locks = false) {pc : Nat} {Ls : Array Slot} (hret : meth.sig.returnType = none)
    (hd : decode c.code pc = .ok (.return_, 1)) (hc : cells ≤ C) (hs : slots ≤ S) (hQ : Q none T.heap locs) : own_go p e below s Q C S (T.setTop (mkF m pc Ls [])) := by
  obtain ⟨fs, hr, hrun, hended, hW, hsame⟩ := X.leave (v := none) (fun _ => rfl) hlk
  exact ⟨_, _, X.returnOut hx hret hd hr, hrun, hended, _, _, rfl, hQ, ⟨_, rfl⟩, hW, hsame.mono hc hs⟩
/-- the same where String constants may have been loaded -/
def own_gw (p : Program) (e : Env) (below : List Frame) (s : State) (Q : Option Value → Heap → List Loc → Prop) (C S : Nat) (A : State) : Prop :=
  ∃ t o, Steps p.tables e below A t ∧ t.status = .running ∧ Ended t below o ∧ ∃ v L, o = .returned v ∧ Q v t.heap L ∧ ReturnedEndW s o t L C S
theorem own_inw (h : own_gw p e below s Q C S A) : ∃ t o, Steps p.tables e below A t ∧ t.status = .running ∧ Ended t below o ∧ ∃ v L, o = .returned v ∧ Q v t.heap L ∧ ReturnedEndW s o t L C S := h
theorem own_ofw (k : ∀ t, Steps p.tables e below B t → Steps p.tables e below A t) (h : own_gw p e below s Q C S B) : own_gw p e below s Q C S A := by
  obtain ⟨t, o, h1, h2⟩ := h
  exact ⟨t, o, k t h1, h2⟩
theorem own_retw {vm0 : Vm} {k0 : Nat} (X : Stand p l e R (s.setVm vm0) m args below meth c T locs cells slots) (hx : p.tables.exec = Jvm.exec) (hlk : meth.locks = false) (hS : s.Since vm0 k0) (hk : k0 ≤ T.heap.size) {pc : Nat} {Ls : Array Slot} {w : Value} {t : FieldType} {i : Instr} {rest : List Value} (hret : meth.sig.returnType = some t) (hn : narrow t w = w)
    (hi : (i = .ireturn ∧ (t = .int ∨ t = .boolean ∨ t = .byte ∨ t = .char ∨ t = .short) ∧ ∃ z, w = .int z) ∨ (i = .lreturn ∧ t = .long ∧ ∃ z, w = .long z) ∨ (i = .dreturn ∧ t = .double ∧ ∃ z, w = .double z) ∨ (i = .freturn ∧ t = .float ∧ ∃ z, w = .float z) ∨ (i = .areturn ∧ t.isReference = true ∧ w.isRef = true))
    (hd : decode c.code pc = .ok (i, 1)) (hc : cells ≤ C) (hs : slots ≤ S) (hQ : Q (some w) T.heap locs) : own_gw p e below s Q C S (T.setTop (mkF m pc Ls (w :: rest))) := by
  obtain ⟨fs, hr, hrun, hended, h1, h2, h3, h4⟩ := X.leaveW hS hk (v := some w) (fun h => by rw [hret] at h; cases h) hlk
  exact ⟨_, _, retOut X hx hret hn hi hd hr, hrun, hended, _, _, rfl, hQ, h1, h2, h3, h4.mono hc hs⟩
theorem own_retVw {vm0 : Vm} {k0 : Nat} (X : Stand p l e R (s.setVm vm0) m args below meth c T locs cells slots) (hx : p.tables.exec = Jvm.exec) (hlk : meth.locks = false) (hS : s.Since vm0 k0) (hk : k0 ≤ T.heap.size) {pc : Nat} {Ls : Array Slot} (hret : meth.sig.returnType = none)
    (hd : decode c.code pc = .ok (.return_, 1)) (hc : cells ≤ C) (hs : slots ≤ S) (hQ : Q none T.heap locs) : own_gw p e below s Q C S (T.setTop (mkF m pc Ls [])) := by
  obtain ⟨fs, hr, hrun, hended, h1, h2, h3, h4⟩ := X.leaveW hS hk (v := none) (fun _ => rfl) hlk
  exact ⟨_, _, X.returnOut hx hret hd hr, hrun, hended, _, _, rfl, hQ, h1, h2, h3, h4.mono hc hs⟩
/-- the same, with what the JVM holds for the constants of EL -/
def own_gc (p : Program) (e : Env) (below : List Frame) (s : State) (Z : State) (EL : List (String × Nat)) (Q : Option Value → Heap → List Loc → Prop) (C S : Nat) (A : State) : Prop :=
  ∃ t o, Steps p.tables e below A t ∧ t.status = .running ∧ Ended t below o ∧ ∃ v L, o = .returned v ∧ Q v t.heap L ∧ CHr Z EL s.vm s.heap t.vm t.heap ∧ ReturnedEndW s o t L C S
variable {Z : State} {EL : List (String × Nat)} {a0 : Array Value}
theorem own_inc (h : own_gc p e below s Z EL Q C S A) : ∃ t o, Steps p.tables e below A t ∧ t.status = .running ∧ Ended t below o ∧ ∃ v L, o = .returned v ∧ Q v t.heap L ∧ CHr Z EL s.vm s.heap t.vm t.heap ∧ ReturnedEndW s o t L C S := h
theorem own_ofc (k : ∀ t, Steps p.tables e below B t → Steps p.tables e below A t) (h : own_gc p e below s Z EL Q C S B) : own_gc p e below s Z EL Q C S A := by
  obtain ⟨t, o, h1, h2⟩ := h
  exact ⟨t, o, k t h1, h2⟩
theorem own_retc {vm0 : Vm} {k0 : Nat} (X : Stand p l e R (s.setVm vm0) m args below meth c T locs cells slots) (hx : p.tables.exec = Jvm.exec) (hlk : meth.locks = false) (hS : s.Since vm0 k0) (hk : k0 ≤ T.heap.size) (hZ : Z.Warmed39 vm0) (hEL : EW Z a0 EL) (H : CHr Z EL s.vm s.heap vm0 T.heap) {pc : Nat} {Ls : Array Slot} {w : Value} {t : FieldType} {i : Instr} {rest : List Value} (hret : meth.sig.returnType = some t) (hn : narrow t w = w)
    (hi : (i = .ireturn ∧ (t = .int ∨ t = .boolean ∨ t = .byte ∨ t = .char ∨ t = .short) ∧ ∃ z, w = .int z) ∨ (i = .lreturn ∧ t = .long ∧ ∃ z, w = .long z) ∨ (i = .dreturn ∧ t = .double ∧ ∃ z, w = .double z) ∨ (i = .freturn ∧ t = .float ∧ ∃ z, w = .float z) ∨ (i = .areturn ∧ t.isReference = true ∧ w.isRef = true))
    (hd : decode c.code pc = .ok (i, 1)) (hc : cells ≤ C) (hs : slots ≤ S) (hQ : Q (some w) T.heap locs) : own_gc p e below s Z EL Q C S (T.setTop (mkF m pc Ls (w :: rest))) := by
  obtain ⟨fs, hr, hrun, hended, h1, h2, h3, h4⟩ := X.leaveW hS hk (v := some w) (fun h => by rw [hret] at h; cases h) hlk
  have q : CHr Z EL s.vm s.heap T.vm T.heap := H.trans (CHv.at X hZ hEL H.1)
  exact ⟨_, _, retOut X hx hret hn hi hd hr, hrun, hended, _, _, rfl, hQ, q, h1, h2, h3, h4.mono hc hs⟩
theorem own_retVc {vm0 : Vm} {k0 : Nat} (X : Stand p l e R (s.setVm vm0) m args below meth c T locs cells slots) (hx : p.tables.exec = Jvm.exec) (hlk : meth.locks = false) (hS : s.Since vm0 k0) (hk : k0 ≤ T.heap.size) (hZ : Z.Warmed39 vm0) (hEL : EW Z a0 EL) (H : CHr Z EL s.vm s.heap vm0 T.heap) {pc : Nat} {Ls : Array Slot} (hret : meth.sig.returnType = none)
    (hd : decode c.code pc = .ok (.return_, 1)) (hc : cells ≤ C) (hs : slots ≤ S) (hQ : Q none T.heap locs) : own_gc p e below s Z EL Q C S (T.setTop (mkF m pc Ls [])) := by
  obtain ⟨fs, hr, hrun, hended, h1, h2, h3, h4⟩ := X.leaveW hS hk (v := none) (fun _ => rfl) hlk
  have q : CHr Z EL s.vm s.heap T.vm T.heap := H.trans (CHv.at X hZ hEL H.1)
  exact ⟨_, _, X.returnOut hx hret hd hr, hrun, hended, _, _, rfl, hQ, q, h1, h2, h3, h4.mono hc hs⟩
open Jvm.Free.SB Jvm.Free.SBG in
/-- a String that has no array yet is no constant's -/
theorem own_safe_null {vm : Vm} {h : Heap} {x : Addr} (hal : Z.vm.Alike vm) (E : Exa Z h x "java/lang/String") (F : Fld Z h x "java/lang/String" "value" "[B" .null) : Safe Z EL vm h x := fun B => by
  obtain ⟨p, -, u, a, -, q, -, F', rfl | rfl⟩ := B
  · obtain ⟨cS, ⟨⟨s1, s2, s3, ⟨cv, kv, iv, s4, s4'⟩, s5, s6, s7, s8, -⟩, -, -⟩, -⟩ := F'
    obtain ⟨cell, cf, k, i, f, h1, h2, h3, -, -, -, h7⟩ := F
    cases (show h[q.sa]? = some q.sC from s1).symm.trans h1
    obtain ⟨kv', z4⟩ := ff_back (U := Wst Z vm h) hal s4
    have e4 := z4.symm.trans h2
    simp only [Option.some.injEq, Prod.mk.injEq] at e4
    rw [e4.2.2.2] at s8
    have := s8.symm.trans h7
    simp at this
  · obtain ⟨cell, k, e1, e2, e3, -, -⟩ := E
    cases (show h[q.sd]? = some q.SA from F'.hd).symm.trans e1
    obtain ⟨cS, -, -, f, -⟩ := F'
    have f' : vm.findClass "[B" = some q.SA.cls := f
    rw [hal.findClass] at f'
    obtain ⟨k1, q1, q2⟩ := Vm.findClass_spec f'
    obtain ⟨k2, q3, q4⟩ := Vm.findClass_spec e2
    cases q1.symm.trans q3
    have := q2.symm.trans q4
    simp at this
theorem own_ex {t : Term} {K : String} (h : (Jvm.Cond.exactly t K).value args s none s [] = some true) : ∃ a, t.eval args s none [] s = some (.ref a) ∧ Exa s s.heap a K := by
  obtain ⟨a, ha⟩ := exa_v h
  exact ⟨a, ha, Exa.start ha h⟩
theorem own_fi {t : Term} {K n d : String} {a : Addr} {k : Int32} (ht : t.eval args s none [] s = some (.ref a)) (h : (Jvm.Cond.eq (Term.field t K n d) (Term.int k)).value args s none s [] = some true) : Fld s s.heap a K n d (.int k) := by
  obtain ⟨x, y, h1, h2, h3, h4⟩ := cmp_v (Or.inl h)
  have e2 := Option.some.inj ((Term.int_eval k).symm.trans h2)
  subst e2
  rw [fld_at ht] at h1
  obtain ⟨z, rfl⟩ := h4
  have hz : s.fieldOf? a K n d = some (.int z) := h1
  have : z = k := by
    have h5 : (Term.field t K n d).eval args s none [] s = some (.int z) := (fld_at ht).trans hz
    simpa [Cond.value, h5, Term.int_eval] using h
  subst this
  exact Fld.start hz
end Own
section Plain
open Jvm.FP.Core
theorem own_eight : val64 4620693217682128896 = .fin false (2 ^ 52) (-49) := by decide +kernel
theorem own_p53 : (2 : Nat) ^ b64.p = 2 ^ 53 := rfl
theorem own_shape {v : Int64} (h0 : 0 < v.toInt) (h1 : v.toInt < 1000000) : ∃ c q, val64 (l2d v) = .fin false c q ∧ Jvm.FP.Core.fits b64 (.fin false c q) ∧ c * 2 ^ q.toNat = v.toInt.toNat * 2 ^ (-q).toNat ∧ -52 ≤ q := by
  have sm : Small53 v := by unfold Small53; omega
  have W := l2d_whole sm
  obtain ⟨c, q, e⟩ := l2d_shape v
  have F := val64_fits (l2d v)
  rw [e] at W F
  have dn : decide (v.toInt < 0) = false := by simp; omega
  rw [dn] at W F e
  have N := whole_natAbs W
  have nn : v.toInt.natAbs = v.toInt.toNat := by omega
  rw [nn] at N
  refine ⟨c, q, e, F, N, ?_⟩
  by_cases hq : -52 ≤ q
  · exact hq
  · exfalso
    have c1 : c < 2 ^ 53 := F.1
    have q0 : q.toNat = 0 := by omega
    rw [q0] at N
    have le : 2 ^ 53 ≤ 2 ^ (-q).toNat := Nat.pow_le_pow_right (by omega) (by omega)
    have vp : 1 ≤ v.toInt.toNat := by omega
    have := Nat.mul_le_mul vp le
    omega
theorem own_div8 {v : Int64} (h0 : 0 < v.toInt) (h1 : v.toInt < 1000000) : ∃ c q, val64 (l2d v) = .fin false c q ∧ Jvm.FP.Core.fits b64 (.fin false c q) ∧ val64 (ddiv (l2d v) 4620693217682128896) = .fin false c (q - 3) ∧ Jvm.FP.Core.fits b64 (.fin false c (q - 3)) ∧ c * 2 ^ q.toNat = v.toInt.toNat * 2 ^ (-q).toNat ∧ -52 ≤ q := by
  obtain ⟨c, q, e, F, N, hq⟩ := own_shape h0 h1
  have qm : b64.qmin = -1074 := by decide
  have F3 : Jvm.FP.Core.fits b64 (.fin false c (q - 3)) := by
    obtain ⟨a, b, d, g⟩ := F
    refine ⟨a, by omega, by omega, ?_⟩
    rcases g with g | g
    · omega
    · exact Or.inr g
  refine ⟨c, q, e, F, ?_, F3, N, hq⟩
  rw [val64_ddiv, e, own_eight]
  show (if (2 ^ 52 : Nat) = 0 then (if c = 0 then Datum.nan else Datum.inf (false != false)) else roundRatio b64 (false != false) c (2 ^ 52) (q - -49)) = _
  rw [if_neg (by decide)]
  refine roundRatio_exact good_b64 (by decide) F3 ?_
  rw [show (q - -49 - (q - 3)).toNat = 52 by omega, show (q - 3 - (q - -49)).toNat = 0 by omega]
  simp
theorem own_back8 {v : Int64} (h0 : 0 < v.toInt) (h1 : v.toInt < 1000000) : dmul (ddiv (l2d v) 4620693217682128896) 4620693217682128896 = l2d v := by
  obtain ⟨c, q, e, F, e3, F3, N, hq⟩ := own_div8 h0 h1
  have w : val64 (dmul (ddiv (l2d v) 4620693217682128896) 4620693217682128896) = .fin false c q := by
    rw [val64_dmul, e3, own_eight]
    show roundRatio b64 (false != false) (c * 2 ^ 52) 1 (q - 3 + -49) = _
    refine roundRatio_exact good_b64 (by decide) F ?_
    rw [show (q - 3 + -49 - q).toNat = 0 by omega, show (q - (q - 3 + -49)).toNat = 52 by omega]
    simp
  exact val64_inj (by rw [w]; simp) (by rw [w, e])
theorem own_zmag8 {k : Nat} (hk : k = 1071) {v : Int64} (h0 : 0 < v.toInt) (h1 : v.toInt < 1000000) : ∃ d, val64 (ddiv (l2d v) 4620693217682128896) = d ∧ Jvm.FP.Core.fits b64 d ∧ d ≠ .nan ∧ zval b64 d = (v.toInt.toNat * 2 ^ k : Nat) := by
  obtain ⟨c, q, e, F, e3, F3, N, hq⟩ := own_div8 h0 h1
  refine ⟨_, e3, F3, by simp, ?_⟩
  show (inUnits c (q - 3) b64.qmin : Int) = _
  congr 1
  show c * 2 ^ (q - 3 - b64.qmin).toNat = _
  rw [show b64.qmin = -1074 by decide]
  by_cases g : 0 ≤ q
  · rw [show (-q).toNat = 0 by omega] at N
    rw [show (q - 3 - -1074).toNat = q.toNat + k by omega, Nat.pow_add, ← Nat.mul_assoc, N]; simp
  · rw [show q.toNat = 0 by omega] at N
    rw [show c = v.toInt.toNat * 2 ^ (-q).toNat by simpa using N, Nat.mul_assoc, ← Nat.pow_add, show (-q).toNat + (q - 3 - -1074).toNat = k by omega]
theorem own_gt8k {k : Nat} (hk : k = 1071) {v w : Int64} (h0 : 0 ≤ v.toInt) (h1 : v.toInt < w.toInt) (h2 : w.toInt < 1000000) : dcmp (ddiv (l2d w) 4620693217682128896) (ddiv (l2d v) 4620693217682128896) = some .gt := by
  obtain ⟨d, e1, F1, n1, z1⟩ := own_zmag8 hk (v := w) (by omega) h2
  have : ∃ d', val64 (ddiv (l2d v) 4620693217682128896) = d' ∧ Jvm.FP.Core.fits b64 d' ∧ d' ≠ .nan ∧ zval b64 d' = (v.toInt.toNat * 2 ^ k : Nat) := by
    by_cases g : v.toInt = 0
    · have : v = 0 := by rw [← Int64.toInt_inj]; exact g
      subst this
      refine ⟨_, rfl, val64_fits _, by decide +kernel, ?_⟩
      rw [show zval b64 (val64 (ddiv (l2d 0) 4620693217682128896)) = 0 by decide +kernel]; simp
    · exact own_zmag8 hk (by omega) (by omega)
  obtain ⟨d', e2, F2, n2, z2⟩ := this
  show order (val64 _) (val64 _) = _
  rw [e1, e2, order_zval good_b64 F1 F2 n1 n2, z1, z2]
  congr 1
  have : v.toInt.toNat * 2 ^ k < w.toInt.toNat * 2 ^ k := Nat.mul_lt_mul_of_pos_right (by omega) (Nat.two_pow_pos _)
  generalize v.toInt.toNat * 2 ^ k = x at *
  generalize w.toInt.toNat * 2 ^ k = y at *
  rw [compare_ite, if_neg (by omega), if_neg (by omega)]
theorem own_gt8 {v w : Int64} (h0 : 0 ≤ v.toInt) (h1 : v.toInt < w.toInt) (h2 : w.toInt < 1000000) : dcmp (ddiv (l2d w) 4620693217682128896) (ddiv (l2d v) 4620693217682128896) = some .gt := own_gt8k (k := 1071) rfl h0 h1 h2
end Plain
open Jvm.Free.Fl
theorem own_key (x : Int32) : 0 ≤ (x &&& 65535).toInt ∧ (x &&& 65535).toInt ≤ 65535 := by
  have e1 : (x &&& 65535).toInt = x.toInt % 2 ^ 16 := Jvm.Kit.i32_mask x 65535 (k := 16) (by decide) (by decide)
  omega
theorem own_key1 {k : Int32} (h0 : 0 ≤ k.toInt ∧ k.toInt ≤ 65535) (h : ¬ k = 65535) : (k + 1).toInt = k.toInt + 1 ∧ k.toInt < 65535 := by
  rw [← Int32.toInt_inj] at h
  have e : (65535 : Int32).toInt = 65535 := rfl
  have e1 : (1 : Int32).toInt = 1 := rfl
  refine ⟨?_, by omega⟩
  rw [Jvm.Kit.i32_add] <;> omega
theorem own_wide (n : Int32) : n.toInt64.toInt = n.toInt := Int32.toInt_toInt64 n
theorem own_back {n : Int32} (h0 : 0 < n.toInt) (h1 : n.toInt ≤ 65535) : FP.dmul (FP.ddiv (FP.i2d n) (4620693217682128896 : UInt64)) (4620693217682128896 : UInt64) = FP.i2d n := by
  rw [i2d_w]; exact own_back8 (by rw [own_wide]; exact h0) (by rw [own_wide]; omega)
theorem own_gt {k n : Int32} (h0 : 0 ≤ k.toInt) (h1 : k.toInt < n.toInt) (h2 : n.toInt ≤ 65535) : cmpValue (FP.dcmp (FP.ddiv (FP.i2d n) (4620693217682128896 : UInt64)) (FP.ddiv (FP.i2d k) (4620693217682128896 : UInt64))) .l = 1 := by
  rw [i2d_w, i2d_w]
  rw [show FP.dcmp (FP.ddiv (FP.l2d n.toInt64) (4620693217682128896 : UInt64)) (FP.ddiv (FP.l2d k.toInt64) (4620693217682128896 : UInt64)) = some .gt from own_gt8 (by rw [own_wide]; exact h0) (by rw [own_wide, own_wide]; exact h1) (by rw [own_wide]; omega)]
  rfl
theorem own_nn (n : Int32) : NoNaN64 (FP.i2d n) := (i2d_fin n).noNaN
theorem own_nnb {u w : UInt64} (h : u = w) (n : NoNaN64 w) : NoNaN64 u := h ▸ n
theorem own_f8 : Fin64 (4620693217682128896 : UInt64) := by unfold Fin64; decide
theorem own_z8 : Nz64 (4620693217682128896 : UInt64) := by unfold Nz64; decide
theorem own_q8 (n : Int32) : NoNaN64 (FP.ddiv (FP.i2d n) (4620693217682128896 : UInt64)) := ddiv_out (own_nn n) own_f8 own_z8
theorem own_b53 {n : Int32} (h0 : 0 ≤ n.toInt) (h1 : n.toInt ≤ 65535) : B53 n.toInt64 := by
  unfold B53; rw [own_wide]; omega
theorem own_65535 : (4679239875398991872 : UInt64) = FP.l2d 65535 := by decide +kernel
theorem own_d0 : FP.dconst0 = FP.l2d 0 := by decide +kernel
theorem own_min {n : Int32} (h0 : 0 < n.toInt) (h1 : n.toInt ≤ 65535) : Value.double (Native.java_lang_Math.nans.pick64 false (4679239875398991872 : UInt64) (FP.i2d n)) = .double (FP.i2d n) := by
  rw [own_65535, i2d_w, min_g (b53 (by decide) (by decide)) (own_b53 (by omega) (by omega))]
  have e := own_wide n
  have e2 : (65535 : Int64).toInt = 65535 := rfl
  rw [Int64.lt_iff_toInt_lt]; omega
theorem own_max {n : Int32} (h0 : 0 < n.toInt) (h1 : n.toInt ≤ 65535) : Value.double (Native.java_lang_Math.nans.pick64 true FP.dconst0 (FP.i2d n)) = .double (FP.i2d n) := by
  rw [own_d0, i2d_w, max_l (b53 (by decide) (by decide)) (own_b53 (by omega) (by omega))]
  have e := own_wide n
  have e2 : (0 : Int64).toInt = 0 := rfl
  rw [Int64.lt_iff_toInt_lt]; omega
theorem own_cmin : jdk_29_method_72_code = Jvm.Free.Fl.Abs.minDCode := rfl
theorem own_cmax : jdk_29_method_68_code = Jvm.Free.Fl.Abs.maxDCode := rfl
theorem own_nM : NoNaN64 (4679239875398991872 : UInt64) := by unfold NoNaN64; decide
theorem own_n0 : NoNaN64 FP.dconst0 := by unfold NoNaN64; decide
theorem own_d2i {n : Int32} (h0 : 0 < n.toInt) (h1 : n.toInt ≤ 65535) : FP.d2i (FP.i2d n) = n := by
  rw [i2d_w, d2i_w (by rw [own_wide]; omega) (by rw [own_wide]; omega)]
  exact Int32.toInt32_toInt64 n
theorem ef_hv_t (m : MethodId) (x0 : Int32) : entryFrame m #[(.int x0)] 1 = mkF m 0 #[.val (.int x0)] [] := by first | (simp [entryFrame, mkF, argsToLocals, Value.category]; done) | rfl
theorem pn_0 : plainName "com/example/mods_from_spectra/modsfromspectra/opensearch/FragmentKeys" = true := by first | (simp [plainName, overriddenIn]; done) | decide +kernel
theorem d1_0 : decode prog_23_method_4_code 0 = .ok (.iload_n 0, 1) := by decide +kernel
theorem d1_1 : decode prog_23_method_4_code 1 = .ok (.ldc 101, 2) := by decide +kernel
theorem d1_3 : decode prog_23_method_4_code 3 = .ok (.if_icmp .ne 9, 3) := by decide +kernel
theorem d1_6 : decode prog_23_method_4_code 6 = .ok (.ldc2_w 62, 3) := by decide +kernel
theorem d1_9 : decode prog_23_method_4_code 9 = .ok (.goto 11, 3) := by decide +kernel
theorem d1_20 : decode prog_23_method_4_code 20 = .ok (.dreturn, 1) := by decide +kernel
def Q_hv_t (Z : State)  (h0 : Heap) (n0 : Nat) (v : Option Value) (h : Heap) (L : List Loc) : Prop := v = some (.double (9218868437227405312 : UInt64)) ∧ Fr n0 L ∧ h = h0
set_option maxRecDepth 65536 in
set_option maxHeartbeats 40000000 in
theorem hv_t (l : Launch) (Z : State) (a0 : Array Value) (hw : ∀ d ∈ tables_1, d.before a0 Z = true) (ws : List Jvm.Cond)  (h0 : Heap) (n0 : Nat) (XO0 : Old Z n0 h0) :
    MetFree l (⟨"com/example/mods_from_spectra/modsfromspectra/opensearch/FragmentKeys", "heaviest", "(I)D"⟩ : MethodName) (head1 (Jvm.Cond.code (⟨"com/example/mods_from_spectra/modsfromspectra/opensearch/FragmentKeys", "heaviest", "(I)D"⟩ : MethodName) prog_23_method_4_code 1 (some .double) :: ws) ({ frames := 0, cells := 0, slots := 0, locals := 0 } : Room)) (fun zz_ U => zz_ = #[(.int (65535 : Int32))] ∧ Z.Warmed39 U.vm ∧ U.heap = h0) (fun _ _ _ _ _ => True) (fun _ U o U' => ∃ v L, o = .returned v ∧ Q_hv_t Z  h0 n0 v U'.heap L ∧ FrameEnd U o U' L ({ frames := 0, cells := 0, slots := 0, locals := 0 } : Room).cells ({ frames := 0, cells := 0, slots := 0, locals := 0 } : Room).slots) := by
  refine MetFree.of_bodySF (plainFor_of_name pn_0) hisR ?_
  intro p e s m args below meth c s₁ Bd hml0 hP hK
  obtain ⟨rfl, hZ, hh⟩ := hP
  have hx := Bd.exec
  have hby := Bd.bytes
  have hlk := Bd.notSynchronized
  have hW : ∀ (i : Nat) (d : Jvm.Cond), tables_1[i]? = some d → d.before a0 Z = true := fun i d h => hw d (List.mem_of_getElem? h)
  have hml : c.maxLocals = 1 := hml0
  have hown : s.vm.findClass "com/example/mods_from_spectra/modsfromspectra/opensearch/FragmentKeys" = some m.cls := findClass_of_methodNamed Bd.named
  have hnm := (name_of_methodNamed Bd.named Bd.method).1
  have X0 : Stand p l e ({ frames := 0, cells := 0, slots := 0, locals := 0 } : Room) s m #[(.int (65535 : Int32))] below meth c s₁ [] 0 0 := Stand.of_body Bd
  have e0 : s₁.heap = h0 := by rw [← hh, Bd.state]; rfl
  have N0 := Fr.nil n0
  refine own_in ?_
  refine own_of (fun tt_ kk_ => castTop (ef_hv_t m (65535 : Int32)) kk_) ?_
  show own_go p e below s _ _ _ (s₁.setTop (mkF m 0 #[.val (.int (65535 : Int32))] []))
  refine own_of (fun tt_ => XS.iloadN X0.here hx rfl (hb hby d1_0) rfl) ?_
  show own_go p e below s _ _ _ (s₁.setTop (mkF m 1 #[.val (.int (65535 : Int32))] [(.int (65535 : Int32))]))
  refine own_of (fun tt_ => X0.ldcI hx hown (mvT hZ (hW 5 _ rfl)) rfl (hb hby d1_1)) ?_
  show own_go p e below s _ _ _ (s₁.setTop (mkF m 3 #[.val (.int (65535 : Int32))] [(.int (65535 : Int32)), (.int (65535 : Int32))]))
  have hb3_1 : (65535 : Int32) = (65535 : Int32) := by decide
  refine own_of (fun tt_ => XS.icmpNo X0.here hx rfl (hb hby d1_3) rfl (teq hb3_1).2) ?_
  show own_go p e below s _ _ _ (s₁.setTop (mkF m 6 #[.val (.int (65535 : Int32))] []))
  refine own_of (fun tt_ => X0.ldc2DoubleC hx hown (mvT hZ (hW 22 _ rfl)) (g := (mkF m 6 #[.val (.int (65535 : Int32))] [])) rfl (hb hby d1_6) _) ?_
  show own_go p e below s _ _ _ (s₁.setTop (mkF m 9 #[.val (.int (65535 : Int32))] [(.double (9218868437227405312 : UInt64))]))
  refine own_of (fun tt_ => XS.goto X0.here hx rfl (pc0 := 9) (pc' := 20) rfl (hb hby d1_9) (by decide) (by decide)) ?_
  show own_go p e below s _ _ _ (s₁.setTop (mkF m 20 #[.val (.int (65535 : Int32))] [(.double (9218868437227405312 : UInt64))]))
  refine own_ret X0 hx hlk Bd.returns rfl (Or.inr (Or.inr (Or.inl ⟨rfl, rfl, _, rfl⟩))) (hb hby d1_20) (by decide) (by decide) ?_
  rw [e0]
  exact ⟨rfl, N0, rfl⟩
theorem ef_hv_f (m : MethodId) (x0 : Int32) : entryFrame m #[(.int x0)] 1 = mkF m 0 #[.val (.int x0)] [] := by first | (simp [entryFrame, mkF, argsToLocals, Value.category]; done) | rfl
theorem d1_12 : decode prog_23_method_4_code 12 = .ok (.iload_n 0, 1) := by decide +kernel
theorem d1_13 : decode prog_23_method_4_code 13 = .ok (.iconst 1, 1) := by decide +kernel
theorem d1_14 : decode prog_23_method_4_code 14 = .ok (.iadd, 1) := by decide +kernel
theorem d1_15 : decode prog_23_method_4_code 15 = .ok (.i2d, 1) := by decide +kernel
theorem d1_16 : decode prog_23_method_4_code 16 = .ok (.ldc2_w 97, 3) := by decide +kernel
theorem d1_19 : decode prog_23_method_4_code 19 = .ok (.ddiv, 1) := by decide +kernel
def Q_hv_f (Z : State) (kq : Int32) (h0 : Heap) (n0 : Nat) (v : Option Value) (h : Heap) (L : List Loc) : Prop := v = some (.double (FP.ddiv (FP.i2d (kq + (1 : Int32))) (4620693217682128896 : UInt64))) ∧ Fr n0 L ∧ h = h0
set_option maxRecDepth 65536 in
set_option maxHeartbeats 40000000 in
theorem hv_f (l : Launch) (Z : State) (a0 : Array Value) (hw : ∀ d ∈ tables_1, d.before a0 Z = true) (ws : List Jvm.Cond) (kq : Int32) (h0 : Heap) (n0 : Nat) (XO0 : Old Z n0 h0) (hk : ¬ kq = 65535) :
    MetFree l (⟨"com/example/mods_from_spectra/modsfromspectra/opensearch/FragmentKeys", "heaviest", "(I)D"⟩ : MethodName) (head1 (Jvm.Cond.code (⟨"com/example/mods_from_spectra/modsfromspectra/opensearch/FragmentKeys", "heaviest", "(I)D"⟩ : MethodName) prog_23_method_4_code 1 (some .double) :: ws) ({ frames := 0, cells := 0, slots := 0, locals := 0 } : Room)) (fun zz_ U => zz_ = #[(.int kq)] ∧ Z.Warmed39 U.vm ∧ U.heap = h0) (fun _ _ _ _ _ => True) (fun _ U o U' => ∃ v L, o = .returned v ∧ Q_hv_f Z kq h0 n0 v U'.heap L ∧ FrameEnd U o U' L ({ frames := 0, cells := 0, slots := 0, locals := 0 } : Room).cells ({ frames := 0, cells := 0, slots := 0, locals := 0 } : Room).slots) := by
  refine MetFree.of_bodySF (plainFor_of_name pn_0) hisR ?_
  intro p e s m args below meth c s₁ Bd hml0 hP hK
  obtain ⟨rfl, hZ, hh⟩ := hP
  have hx := Bd.exec
  have hby := Bd.bytes
  have hlk := Bd.notSynchronized
  have hW : ∀ (i : Nat) (d : Jvm.Cond), tables_1[i]? = some d → d.before a0 Z = true := fun i d h => hw d (List.mem_of_getElem? h)
  have hml : c.maxLocals = 1 := hml0
  have hown : s.vm.findClass "com/example/mods_from_spectra/modsfromspectra/opensearch/FragmentKeys" = some m.cls := findClass_of_methodNamed Bd.named
  have hnm := (name_of_methodNamed Bd.named Bd.method).1
  have X0 : Stand p l e ({ frames := 0, cells := 0, slots := 0, locals := 0 } : Room) s m #[(.int kq)] below meth c s₁ [] 0 0 := Stand.of_body Bd
  have e0 : s₁.heap = h0 := by rw [← hh, Bd.state]; rfl
  have N0 := Fr.nil n0
  refine own_in ?_
  refine own_of (fun tt_ kk_ => castTop (ef_hv_f m kq) kk_) ?_
  show own_go p e below s _ _ _ (s₁.setTop (mkF m 0 #[.val (.int kq)] []))
  refine own_of (fun tt_ => XS.iloadN X0.here hx rfl (hb hby d1_0) rfl) ?_
  show own_go p e below s _ _ _ (s₁.setTop (mkF m 1 #[.val (.int kq)] [(.int kq)]))
  refine own_of (fun tt_ => X0.ldcI hx hown (mvT hZ (hW 5 _ rfl)) rfl (hb hby d1_1)) ?_
  show own_go p e below s _ _ _ (s₁.setTop (mkF m 3 #[.val (.int kq)] [(.int (65535 : Int32)), (.int kq)]))
  have hb3_1 : ¬ (kq = (65535 : Int32)) := hk
  refine own_of (fun tt_ => XS.icmpYes X0.here hx rfl (pc0 := 3) (pc' := 12) rfl (hb hby d1_3) rfl (feq hb3_1).2 (by decide) (by decide)) ?_
  show own_go p e below s _ _ _ (s₁.setTop (mkF m 12 #[.val (.int kq)] []))
  refine own_of (fun tt_ => XS.iloadN X0.here hx rfl (hb hby d1_12) rfl) ?_
  show own_go p e below s _ _ _ (s₁.setTop (mkF m 13 #[.val (.int kq)] [(.int kq)]))
  refine own_of (fun tt_ => XS.iconst X0.here hx rfl (hb hby d1_13)) ?_
  show own_go p e below s _ _ _ (s₁.setTop (mkF m 14 #[.val (.int kq)] [(.int (1 : Int32)), (.int kq)]))
  refine own_of (fun tt_ => XS.iadd X0.here hx rfl (hb hby d1_14) rfl) ?_
  show own_go p e below s _ _ _ (s₁.setTop (mkF m 15 #[.val (.int kq)] [(.int (kq + (1 : Int32)))]))
  refine own_of (fun tt_ => XS.i2dS (g := (mkF m 15 #[.val (.int kq)] [(.int (kq + (1 : Int32)))])) X0.here hx rfl (hb hby d1_15) rfl rfl) ?_
  show own_go p e below s _ _ _ (s₁.setTop (mkF m 16 #[.val (.int kq)] [(.double (FP.i2d (kq + (1 : Int32))))]))
  refine own_of (fun tt_ => X0.ldc2DoubleC hx hown (mvT hZ (hW 6 _ rfl)) (g := (mkF m 16 #[.val (.int kq)] [(.double (FP.i2d (kq + (1 : Int32))))])) rfl (hb hby d1_16) _) ?_
  show own_go p e below s _ _ _ (s₁.setTop (mkF m 19 #[.val (.int kq)] [(.double (4620693217682128896 : UInt64)), (.double (FP.i2d (kq + (1 : Int32))))]))
  refine own_of (fun tt_ => XS.ddivS (g := (mkF m 19 #[.val (.int kq)] [(.double (4620693217682128896 : UInt64)), (.double (FP.i2d (kq + (1 : Int32))))])) X0.here hx rfl (hb hby d1_19) rfl (own_q8 _) rfl) ?_
  show own_go p e below s _ _ _ (s₁.setTop (mkF m 20 #[.val (.int kq)] [(.double (FP.ddiv (FP.i2d (kq + (1 : Int32))) (4620693217682128896 : UInt64)))]))
  refine own_ret X0 hx hlk Bd.returns rfl (Or.inr (Or.inr (Or.inl ⟨rfl, rfl, _, rfl⟩))) (hb hby d1_20) (by decide) (by decide) ?_
  rw [e0]
  exact ⟨rfl, N0, rfl⟩
theorem ef_lt_ (m : MethodId) (x0 : Int32) : entryFrame m #[(.int x0)] 1 = mkF m 0 #[.val (.int x0)] [] := by first | (simp [entryFrame, mkF, argsToLocals, Value.category]; done) | rfl
theorem d2_0 : decode prog_23_method_3_code 0 = .ok (.iload_n 0, 1) := by decide +kernel
theorem d2_1 : decode prog_23_method_3_code 1 = .ok (.i2d, 1) := by decide +kernel
theorem d2_2 : decode prog_23_method_3_code 2 = .ok (.ldc2_w 97, 3) := by decide +kernel
theorem d2_5 : decode prog_23_method_3_code 5 = .ok (.ddiv, 1) := by decide +kernel
theorem d2_6 : decode prog_23_method_3_code 6 = .ok (.dreturn, 1) := by decide +kernel
def Q_lt_ (Z : State) (kq : Int32) (h0 : Heap) (n0 : Nat) (v : Option Value) (h : Heap) (L : List Loc) : Prop := v = some (.double (FP.ddiv (FP.i2d kq) (4620693217682128896 : UInt64))) ∧ Fr n0 L ∧ h = h0
set_option maxRecDepth 65536 in
set_option maxHeartbeats 40000000 in
theorem lt_ (l : Launch) (Z : State) (a0 : Array Value) (hw : ∀ d ∈ tables_1, d.before a0 Z = true) (ws : List Jvm.Cond) (kq : Int32) (h0 : Heap) (n0 : Nat) (XO0 : Old Z n0 h0) :
    MetFree l (⟨"com/example/mods_from_spectra/modsfromspectra/opensearch/FragmentKeys", "lightest", "(I)D"⟩ : MethodName) (head1 (Jvm.Cond.code (⟨"com/example/mods_from_spectra/modsfromspectra/opensearch/FragmentKeys", "lightest", "(I)D"⟩ : MethodName) prog_23_method_3_code 1 (some .double) :: ws) ({ frames := 0, cells := 0, slots := 0, locals := 0 } : Room)) (fun zz_ U => zz_ = #[(.int kq)] ∧ Z.Warmed39 U.vm ∧ U.heap = h0) (fun _ _ _ _ _ => True) (fun _ U o U' => ∃ v L, o = .returned v ∧ Q_lt_ Z kq h0 n0 v U'.heap L ∧ FrameEnd U o U' L ({ frames := 0, cells := 0, slots := 0, locals := 0 } : Room).cells ({ frames := 0, cells := 0, slots := 0, locals := 0 } : Room).slots) := by
  refine MetFree.of_bodySF (plainFor_of_name pn_0) hisR ?_
  intro p e s m args below meth c s₁ Bd hml0 hP hK
  obtain ⟨rfl, hZ, hh⟩ := hP
  have hx := Bd.exec
  have hby := Bd.bytes
  have hlk := Bd.notSynchronized
  have hW : ∀ (i : Nat) (d : Jvm.Cond), tables_1[i]? = some d → d.before a0 Z = true := fun i d h => hw d (List.mem_of_getElem? h)
  have hml : c.maxLocals = 1 := hml0
  have hown : s.vm.findClass "com/example/mods_from_spectra/modsfromspectra/opensearch/FragmentKeys" = some m.cls := findClass_of_methodNamed Bd.named
  have hnm := (name_of_methodNamed Bd.named Bd.method).1
  have X0 : Stand p l e ({ frames := 0, cells := 0, slots := 0, locals := 0 } : Room) s m #[(.int kq)] below meth c s₁ [] 0 0 := Stand.of_body Bd
  have e0 : s₁.heap = h0 := by rw [← hh, Bd.state]; rfl
  have N0 := Fr.nil n0
  refine own_in ?_
  refine own_of (fun tt_ kk_ => castTop (ef_lt_ m kq) kk_) ?_
  show own_go p e below s _ _ _ (s₁.setTop (mkF m 0 #[.val (.int kq)] []))
  refine own_of (fun tt_ => XS.iloadN X0.here hx rfl (hb hby d2_0) rfl) ?_
  show own_go p e below s _ _ _ (s₁.setTop (mkF m 1 #[.val (.int kq)] [(.int kq)]))
  refine own_of (fun tt_ => XS.i2dS (g := (mkF m 1 #[.val (.int kq)] [(.int kq)])) X0.here hx rfl (hb hby d2_1) rfl rfl) ?_
  show own_go p e below s _ _ _ (s₁.setTop (mkF m 2 #[.val (.int kq)] [(.double (FP.i2d kq))]))
  refine own_of (fun tt_ => X0.ldc2DoubleC hx hown (mvT hZ (hW 6 _ rfl)) (g := (mkF m 2 #[.val (.int kq)] [(.double (FP.i2d kq))])) rfl (hb hby d2_2) _) ?_
  show own_go p e below s _ _ _ (s₁.setTop (mkF m 5 #[.val (.int kq)] [(.double (4620693217682128896 : UInt64)), (.double (FP.i2d kq))]))
  refine own_of (fun tt_ => XS.ddivS (g := (mkF m 5 #[.val (.int kq)] [(.double (4620693217682128896 : UInt64)), (.double (FP.i2d kq))])) X0.here hx rfl (hb hby d2_5) rfl (own_q8 _) rfl) ?_
  show own_go p e below s _ _ _ (s₁.setTop (mkF m 6 #[.val (.int kq)] [(.double (FP.ddiv (FP.i2d kq) (4620693217682128896 : UInt64)))]))
  refine own_ret X0 hx hlk Bd.returns rfl (Or.inr (Or.inr (Or.inl ⟨rfl, rfl, _, rfl⟩))) (hb hby d2_6) (by decide) (by decide) ?_
  rw [e0]
  exact ⟨rfl, N0, rfl⟩
theorem ef_ky (m : MethodId) (x0 : UInt64) : entryFrame m #[(.double x0)] 2 = mkF m 0 #[.val (.double x0), .second] [] := by first | (simp [entryFrame, mkF, argsToLocals, Value.category]; done) | rfl
theorem d3_0 : decode prog_23_method_2_code 0 = .ok (.dconst 0, 1) := by decide +kernel
theorem d3_1 : decode prog_23_method_2_code 1 = .ok (.ldc2_w 95, 3) := by decide +kernel
theorem d3_4 : decode prog_23_method_2_code 4 = .ok (.dload_n 0, 1) := by decide +kernel
theorem d3_5 : decode prog_23_method_2_code 5 = .ok (.ldc2_w 97, 3) := by decide +kernel
theorem d3_8 : decode prog_23_method_2_code 8 = .ok (.dmul, 1) := by decide +kernel
theorem d3_9 : decode prog_23_method_2_code 9 = .ok (.invokestatic 68, 3) := by decide +kernel
theorem pd_0 : parseMethodDescriptor "(DD)D" = some ⟨[.double, .double], some .double⟩ := by decide +kernel
theorem d3_12 : decode prog_23_method_2_code 12 = .ok (.invokestatic 99, 3) := by decide +kernel
theorem d3_15 : decode prog_23_method_2_code 15 = .ok (.d2i, 1) := by decide +kernel
theorem d3_16 : decode prog_23_method_2_code 16 = .ok (.ireturn, 1) := by decide +kernel
def Q_ky (Z : State) (dq : UInt64) (nq : Int32) (h0 : Heap) (n0 : Nat) (v : Option Value) (h : Heap) (L : List Loc) : Prop := v = some (.int nq) ∧ Fr n0 L ∧ h = h0
set_option maxRecDepth 65536 in
set_option maxHeartbeats 40000000 in
theorem ky (l : Launch) (Z : State) (a0 : Array Value) (hw : ∀ d ∈ tables_1, d.before a0 Z = true) (ws : List Jvm.Cond) (dq : UInt64) (nq : Int32) (h0 : Heap) (n0 : Nat) (XO0 : Old Z n0 h0) (hd : FP.dmul dq (4620693217682128896 : UInt64) = FP.i2d nq) (hn0 : 0 < nq.toInt) (hn1 : nq.toInt ≤ 65535) :
    MetFree l (⟨"com/example/mods_from_spectra/modsfromspectra/opensearch/FragmentKeys", "key", "(D)I"⟩ : MethodName) (head1 (Jvm.Cond.code (⟨"com/example/mods_from_spectra/modsfromspectra/opensearch/FragmentKeys", "key", "(D)I"⟩ : MethodName) prog_23_method_2_code 2 (some .int) :: ws) ({ frames := 1, cells := 0, slots := 0, locals := 17 } : Room)) (fun zz_ U => zz_ = #[(.double dq)] ∧ Z.Warmed39 U.vm ∧ U.heap = h0) (fun _ _ _ _ _ => True) (fun _ U o U' => ∃ v L, o = .returned v ∧ Q_ky Z dq nq h0 n0 v U'.heap L ∧ FrameEnd U o U' L ({ frames := 1, cells := 0, slots := 0, locals := 17 } : Room).cells ({ frames := 1, cells := 0, slots := 0, locals := 17 } : Room).slots) := by
  refine MetFree.of_bodySF (plainFor_of_name pn_0) hisR ?_
  intro p e s m args below meth c s₁ Bd hml0 hP hK
  obtain ⟨rfl, hZ, hh⟩ := hP
  have hx := Bd.exec
  have hby := Bd.bytes
  have hlk := Bd.notSynchronized
  have hW : ∀ (i : Nat) (d : Jvm.Cond), tables_1[i]? = some d → d.before a0 Z = true := fun i d h => hw d (List.mem_of_getElem? h)
  have hml : c.maxLocals = 2 := hml0
  have hown : s.vm.findClass "com/example/mods_from_spectra/modsfromspectra/opensearch/FragmentKeys" = some m.cls := findClass_of_methodNamed Bd.named
  have hnm := (name_of_methodNamed Bd.named Bd.method).1
  have X0 : Stand p l e ({ frames := 1, cells := 0, slots := 0, locals := 17 } : Room) s m #[(.double dq)] below meth c s₁ [] 0 0 := Stand.of_body Bd
  have e0 : s₁.heap = h0 := by rw [← hh, Bd.state]; rfl
  have N0 := Fr.nil n0
  refine own_in ?_
  refine own_of (fun tt_ kk_ => castTop (ef_ky m dq) kk_) ?_
  show own_go p e below s _ _ _ (s₁.setTop (mkF m 0 #[.val (.double dq), .second] []))
  refine own_of (fun tt_ => XS.dconst0 (g := (mkF m 0 #[.val (.double dq), .second] [])) X0.here hx rfl (hb hby d3_0) rfl) ?_
  show own_go p e below s _ _ _ (s₁.setTop (mkF m 1 #[.val (.double dq), .second] [(.double FP.dconst0)]))
  refine own_of (fun tt_ => X0.ldc2DoubleC hx hown (mvT hZ (hW 14 _ rfl)) (g := (mkF m 1 #[.val (.double dq), .second] [(.double FP.dconst0)])) rfl (hb hby d3_1) _) ?_
  show own_go p e below s _ _ _ (s₁.setTop (mkF m 4 #[.val (.double dq), .second] [(.double (4679239875398991872 : UInt64)), (.double FP.dconst0)]))
  refine own_of (fun tt_ => XS.dloadN X0.here hx rfl (hb hby d3_4) rfl) ?_
  show own_go p e below s _ _ _ (s₁.setTop (mkF m 5 #[.val (.double dq), .second] [(.double dq), (.double (4679239875398991872 : UInt64)), (.double FP.dconst0)]))
  refine own_of (fun tt_ => X0.ldc2DoubleC hx hown (mvT hZ (hW 6 _ rfl)) (g := (mkF m 5 #[.val (.double dq), .second] [(.double dq), (.double (4679239875398991872 : UInt64)), (.double FP.dconst0)])) rfl (hb hby d3_5) _) ?_
  show own_go p e below s _ _ _ (s₁.setTop (mkF m 8 #[.val (.double dq), .second] [(.double (4620693217682128896 : UInt64)), (.double dq), (.double (4679239875398991872 : UInt64)), (.double FP.dconst0)]))
  refine own_of (fun tt_ => XS.dmulS (g := (mkF m 8 #[.val (.double dq), .second] [(.double (4620693217682128896 : UInt64)), (.double dq), (.double (4679239875398991872 : UInt64)), (.double FP.dconst0)])) X0.here hx rfl (hb hby d3_8) rfl (own_nnb hd (own_nn nq)) hd) ?_
  show own_go p e below s _ _ _ (s₁.setTop (mkF m 9 #[.val (.double dq), .second] [(.double (FP.i2d nq)), (.double (4679239875398991872 : UInt64)), (.double FP.dconst0)]))
  obtain ⟨T1, X1, e1, st1⟩ := Jvm.RoadKit.natS X0 hx hZ (y := (⟨"java/lang/Math", "min", "(DD)D"⟩ : MethodName)) hown (hW 15 _ rfl) (hW 16 _ rfl) (hW 17 _ rfl) (hW 18 _ rfl) (by decide) e0 (W := 2) (F := fun aq_ => aq_ = #[.double (4679239875398991872 : UInt64), .double (FP.i2d nq)] ∧ NoNaN64 (4679239875398991872 : UInt64) ∧ NoNaN64 (FP.i2d nq)) (val := (.double (Native.java_lang_Math.nans.pick64 false (4679239875398991872 : UInt64) (FP.i2d nq)))) (val' := (.double (FP.i2d nq))) (fun hc_ => Jvm.Free.Fl.Abs.minD_pays (4679239875398991872 : UInt64) (FP.i2d nq) (own_cmin ▸ hc_) (by decide) (by decide)) (g := (mkF m 9 #[.val (.double dq), .second] [(.double (FP.i2d nq)), (.double (4679239875398991872 : UInt64)), (.double FP.dconst0)])) rfl (by rw [hml]; rfl) (argsL := [(.double (4679239875398991872 : UInt64)), (.double (FP.i2d nq))]) (rest := [(.double FP.dconst0)]) (lenOf pd_0 rfl) rfl (by show 2 * 0 + _ ≤ _; exact Nat.le_of_eq rfl) (hb hby d3_9) (by decide) (by decide) ⟨rfl, own_nM, own_nn nq⟩ (own_min hn0 hn1)
  refine own_of (fun tt_ => st1 tt_) ?_
  show own_go p e below s _ _ _ (T1.setTop (mkF m 12 #[.val (.double dq), .second] [(.double (FP.i2d nq)), (.double FP.dconst0)]))
  obtain ⟨T2, X2, e2, st2⟩ := Jvm.RoadKit.natS X1 hx hZ (y := (⟨"java/lang/Math", "max", "(DD)D"⟩ : MethodName)) hown (hW 19 _ rfl) (hW 20 _ rfl) (hW 17 _ rfl) (hW 21 _ rfl) (by decide) e1 (W := 0) (F := fun aq_ => aq_ = #[.double FP.dconst0, .double (FP.i2d nq)] ∧ NoNaN64 FP.dconst0 ∧ NoNaN64 (FP.i2d nq)) (val := (.double (Native.java_lang_Math.nans.pick64 true FP.dconst0 (FP.i2d nq)))) (val' := (.double (FP.i2d nq))) (fun hc_ => Jvm.Free.Fl.Abs.maxD_pays FP.dconst0 (FP.i2d nq) (own_cmax ▸ hc_) (by decide) (by decide)) (g := (mkF m 12 #[.val (.double dq), .second] [(.double (FP.i2d nq)), (.double FP.dconst0)])) rfl (by rw [hml]; rfl) (argsL := [(.double FP.dconst0), (.double (FP.i2d nq))]) (rest := []) (lenOf pd_0 rfl) rfl (by show 2 * 0 + _ ≤ _; exact Nat.le_of_eq rfl) (hb hby d3_12) (by decide) (by decide) ⟨rfl, own_n0, own_nn nq⟩ (own_max hn0 hn1)
  refine own_of (fun tt_ => st2 tt_) ?_
  show own_go p e below s _ _ _ (T2.setTop (mkF m 15 #[.val (.double dq), .second] [(.double (FP.i2d nq))]))
  refine own_of (fun tt_ => XS.d2iS (g := (mkF m 15 #[.val (.double dq), .second] [(.double (FP.i2d nq))])) X2.here hx rfl (hb hby d3_15) rfl (own_d2i hn0 hn1)) ?_
  show own_go p e below s _ _ _ (T2.setTop (mkF m 16 #[.val (.double dq), .second] [(.int nq)]))
  refine own_ret X2 hx hlk Bd.returns rfl (Or.inl ⟨rfl, by simp, _, rfl⟩) (hb hby d3_16) (by decide) (by decide) ?_
  rw [e2]
  exact ⟨rfl, N0, rfl⟩
theorem ef_rm0 (m : MethodId) (x0 : Int32) : entryFrame m #[(.int x0)] maxLocals = mkF m 0 #[.val (.int x0), .unset, .unset, .unset] [] := by first | (simp [entryFrame, mkF, argsToLocals, Value.category, maxLocals]; done) | rfl
theorem pn_1 : plainName "com/example/mods_from_spectra/modsfromspectra/opensearch/FragmentKeysHeaviestPinLaw" = true := by first | (simp [plainName, overriddenIn]; done) | decide +kernel
theorem pd_1 : parseMethodDescriptor "(I)D" = some ⟨[.int], some .double⟩ := by decide +kernel
theorem pd_2 : parseMethodDescriptor "(D)I" = some ⟨[.double], some .int⟩ := by decide +kernel
def Q_rm0 (Z : State) (p1 : Int32) (h0 : Heap) (n0 : Nat) (v : Option Value) (h : Heap) (L : List Loc) : Prop := v = some (.int 1) ∧ Fr n0 L
set_option maxRecDepth 65536 in
set_option maxHeartbeats 40000000 in
theorem rm0 (l : Launch) (Z : State) (a0 : Array Value) (hw : ∀ d ∈ tables_1, d.before a0 Z = true) (ws : List Jvm.Cond) (p1 : Int32) (h0 : Heap) (n0 : Nat) (XO0 : Old Z n0 h0) :
    MetFree l x (head1 (Jvm.Cond.code x code maxLocals ret :: ws) room_1) (fun zz_ U => zz_ = #[(.int p1)] ∧ Z.Warmed39 U.vm ∧ U.heap = h0) (fun _ _ _ _ _ => True) (fun _ U o U' => ∃ v L, o = .returned v ∧ Q_rm0 Z p1 h0 n0 v U'.heap L ∧ FrameEnd U o U' L room_1.cells room_1.slots) := by
  refine MetFree.of_bodySF (plainFor_of_name pn_1) hisR ?_
  intro p e s m args below meth c s₁ Bd hml0 hP hK
  obtain ⟨rfl, hZ, hh⟩ := hP
  have hx := Bd.exec
  have hby := Bd.bytes
  have hlk := Bd.notSynchronized
  have hW : ∀ (i : Nat) (d : Jvm.Cond), tables_1[i]? = some d → d.before a0 Z = true := fun i d h => hw d (List.mem_of_getElem? h)
  have hml : c.maxLocals = 4 := hml0
  have hown : s.vm.findClass "com/example/mods_from_spectra/modsfromspectra/opensearch/FragmentKeysHeaviestPinLaw" = some m.cls := findClass_of_methodNamed Bd.named
  have hnm := (name_of_methodNamed Bd.named Bd.method).1
  have X0 : Stand p l e room_1 s m #[(.int p1)] below meth c s₁ [] 0 0 := Stand.of_body Bd
  have e0 : s₁.heap = h0 := by rw [← hh, Bd.state]; rfl
  have N0 := Fr.nil n0
  refine own_in ?_
  refine own_of (fun tt_ kk_ => castTop (ef_rm0 m p1) kk_) ?_
  show own_go p e below s _ _ _ (s₁.setTop (mkF m 0 #[.val (.int p1), .unset, .unset, .unset] []))
  refine own_of (fun tt_ => XS.iloadN X0.here hx rfl (hb hby at_0) rfl) ?_
  show own_go p e below s _ _ _ (s₁.setTop (mkF m 1 #[.val (.int p1), .unset, .unset, .unset] [(.int p1)]))
  refine own_of (fun tt_ => X0.ldcI hx hown (mvT hZ (hW 0 _ rfl)) rfl (hb hby at_1)) ?_
  show own_go p e below s _ _ _ (s₁.setTop (mkF m 3 #[.val (.int p1), .unset, .unset, .unset] [(.int (65535 : Int32)), (.int p1)]))
  refine own_of (fun tt_ => XS.iand X0.here hx rfl (hb hby at_3) rfl) ?_
  show own_go p e below s _ _ _ (s₁.setTop (mkF m 4 #[.val (.int p1), .unset, .unset, .unset] [(.int (p1 &&& (65535 : Int32)))]))
  refine own_of (fun tt_ => XS.istoreN X0.here hx rfl (hb hby at_4) rfl (l' := #[.val (.int p1), .val (.int (p1 &&& (65535 : Int32))), .unset, .unset]) rfl) ?_
  show own_go p e below s _ _ _ (s₁.setTop (mkF m 5 #[.val (.int p1), .val (.int (p1 &&& (65535 : Int32))), .unset, .unset] []))
  refine own_of (fun tt_ => XS.iloadN X0.here hx rfl (hb hby at_5) rfl) ?_
  show own_go p e below s _ _ _ (s₁.setTop (mkF m 6 #[.val (.int p1), .val (.int (p1 &&& (65535 : Int32))), .unset, .unset] [(.int (p1 &&& (65535 : Int32)))]))
  have hk0 := own_key p1
  by_cases hk : (p1 &&& (65535 : Int32)) = 65535
  · rw [hk]
    show own_go p e below s _ _ _ (s₁.setTop (mkF m 6 #[.val (.int p1), .val (.int (65535 : Int32)), .unset, .unset] [(.int (65535 : Int32))]))
    obtain ⟨_, _, ⟨T1, L1, k1, n1⟩, -, X1, ⟨Lc1, hQ1, l1, y1, z1⟩, st1⟩ := Jvm.LawKit.callS X0 hx (y := (⟨"com/example/mods_from_spectra/modsfromspectra/opensearch/FragmentKeys", "heaviest", "(I)D"⟩ : MethodName)) hown (mvT hZ (hW 1 _ rfl)) (mvT hZ (hW 2 _ rfl)) (mvT hZ (hW 3 _ rfl)) (mvT hZ (hW 4 _ rfl)) (by decide) (backOf (W := 0) (hv_t l Z a0 hw [] h0 n0 XO0) hZ (hW 4 _ rfl) (hW 3 _ rfl) (by decide) (by decide)) (g := (mkF m 6 #[.val (.int p1), .val (.int (65535 : Int32)), .unset, .unset] [(.int (65535 : Int32))])) rfl (by rw [hml]; rfl) (argsL := [(.int (65535 : Int32))]) (rest := []) (lenOf pd_1 rfl) rfl (by show 2 * 0 + _ ≤ _; exact Nat.le_of_eq rfl) (hb hby at_6) (fun _ _ => ⟨rfl, e0, (by decide : 0 + 0 ≤ _), (by decide : 0 + 0 ≤ _)⟩)
    dsimp only [Pt.U, Pt.locs, Pt.cells, Pt.slots] at X1 l1 y1 z1 st1 hQ1
    subst l1 y1 z1
    obtain ⟨rfl, Nq1, eh1⟩ := hQ1
    have N1 := Fr.app N0 Nq1
    refine own_of st1 ?_
    show own_go p e below s _ _ _ (T1.setTop (mkF m 9 #[.val (.int p1), .val (.int (65535 : Int32)), .unset, .unset] [(.double (9218868437227405312 : UInt64))]))
    refine own_of (fun tt_ => XS.dstoreN X1.here hx rfl (hb hby at_9) rfl (l' := #[.val (.int p1), .val (.int (65535 : Int32)), .val (.double (9218868437227405312 : UInt64)), .second]) rfl) ?_
    show own_go p e below s _ _ _ (T1.setTop (mkF m 10 #[.val (.int p1), .val (.int (65535 : Int32)), .val (.double (9218868437227405312 : UInt64)), .second] []))
    refine own_of (fun tt_ => XS.iloadN X1.here hx rfl (hb hby at_10) rfl) ?_
    show own_go p e below s _ _ _ (T1.setTop (mkF m 11 #[.val (.int p1), .val (.int (65535 : Int32)), .val (.double (9218868437227405312 : UInt64)), .second] [(.int (65535 : Int32))]))
    refine own_of (fun tt_ => X1.ldcI hx hown (mvT hZ (hW 0 _ rfl)) rfl (hb hby at_11)) ?_
    show own_go p e below s _ _ _ (T1.setTop (mkF m 13 #[.val (.int p1), .val (.int (65535 : Int32)), .val (.double (9218868437227405312 : UInt64)), .second] [(.int (65535 : Int32)), (.int (65535 : Int32))]))
    have hb13_2 : (65535 : Int32) = (65535 : Int32) := by decide
    refine own_of (fun tt_ => XS.icmpNo X1.here hx rfl (hb hby at_13) rfl (teq hb13_2).2) ?_
    show own_go p e below s _ _ _ (T1.setTop (mkF m 16 #[.val (.int p1), .val (.int (65535 : Int32)), .val (.double (9218868437227405312 : UInt64)), .second] []))
    refine own_of (fun tt_ => XS.dloadN X1.here hx rfl (hb hby at_16) rfl) ?_
    show own_go p e below s _ _ _ (T1.setTop (mkF m 17 #[.val (.int p1), .val (.int (65535 : Int32)), .val (.double (9218868437227405312 : UInt64)), .second] [(.double (9218868437227405312 : UInt64))]))
    refine own_of (fun tt_ => X1.ldc2DoubleC hx hown (mvT hZ (hW 23 _ rfl)) (g := (mkF m 17 #[.val (.int p1), .val (.int (65535 : Int32)), .val (.double (9218868437227405312 : UInt64)), .second] [(.double (9218868437227405312 : UInt64))])) rfl (hb hby at_17) _) ?_
    show own_go p e below s _ _ _ (T1.setTop (mkF m 20 #[.val (.int p1), .val (.int (65535 : Int32)), .val (.double (9218868437227405312 : UInt64)), .second] [(.double (9218868437227405311 : UInt64)), (.double (9218868437227405312 : UInt64))]))
    refine own_of (fun tt_ => XS.dcmpS (g := (mkF m 20 #[.val (.int p1), .val (.int (65535 : Int32)), .val (.double (9218868437227405312 : UInt64)), .second] [(.double (9218868437227405311 : UInt64)), (.double (9218868437227405312 : UInt64))])) X1.here hx rfl (hb hby at_20) rfl (v := (1 : Int32)) (by decide +kernel)) ?_
    show own_go p e below s _ _ _ (T1.setTop (mkF m 21 #[.val (.int p1), .val (.int (65535 : Int32)), .val (.double (9218868437227405312 : UInt64)), .second] [(.int (1 : Int32))]))
    have hb21_3 : (0 : Int32) < (1 : Int32) := by decide
    refine own_of (fun tt_ => XS.ifNo X1.here hx rfl (hb hby at_21) rfl ((if0 _ _).trans (tlt hb21_3).2.2.2)) ?_
    show own_go p e below s _ _ _ (T1.setTop (mkF m 24 #[.val (.int p1), .val (.int (65535 : Int32)), .val (.double (9218868437227405312 : UInt64)), .second] []))
    refine own_of (fun tt_ => XS.iconst X1.here hx rfl (hb hby at_24)) ?_
    show own_go p e below s _ _ _ (T1.setTop (mkF m 25 #[.val (.int p1), .val (.int (65535 : Int32)), .val (.double (9218868437227405312 : UInt64)), .second] [(.int (1 : Int32))]))
    refine own_of (fun tt_ => XS.goto X1.here hx rfl (pc0 := 25) (pc' := 29) rfl (hb hby at_25) (by decide) (by decide)) ?_
    show own_go p e below s _ _ _ (T1.setTop (mkF m 29 #[.val (.int p1), .val (.int (65535 : Int32)), .val (.double (9218868437227405312 : UInt64)), .second] [(.int (1 : Int32))]))
    refine own_ret X1 hx hlk Bd.returns rfl (Or.inl ⟨rfl, by simp, _, rfl⟩) (hb hby at_29) (by decide) (by decide) ?_
    rw [eh1]
    exact ⟨rfl, N1⟩
  · obtain ⟨hk1, hk2⟩ := own_key1 hk0 hk
    have hn0 : 0 < (((p1 &&& (65535 : Int32)) + (1 : Int32))).toInt := by omega
    have hn1 : (((p1 &&& (65535 : Int32)) + (1 : Int32))).toInt ≤ 65535 := by omega
    have hkn : ((p1 &&& (65535 : Int32))).toInt < (((p1 &&& (65535 : Int32)) + (1 : Int32))).toInt := by omega
    obtain ⟨_, _, ⟨T4, L4, k4, n4⟩, -, X4, ⟨Lc4, hQ4, l4, y4, z4⟩, st4⟩ := Jvm.LawKit.callS X0 hx (y := (⟨"com/example/mods_from_spectra/modsfromspectra/opensearch/FragmentKeys", "heaviest", "(I)D"⟩ : MethodName)) hown (mvT hZ (hW 1 _ rfl)) (mvT hZ (hW 2 _ rfl)) (mvT hZ (hW 3 _ rfl)) (mvT hZ (hW 4 _ rfl)) (by decide) (backOf (W := 0) (hv_f l Z a0 hw [] (p1 &&& (65535 : Int32)) h0 n0 XO0 hk) hZ (hW 4 _ rfl) (hW 3 _ rfl) (by decide) (by decide)) (g := (mkF m 6 #[.val (.int p1), .val (.int (p1 &&& (65535 : Int32))), .unset, .unset] [(.int (p1 &&& (65535 : Int32)))])) rfl (by rw [hml]; rfl) (argsL := [(.int (p1 &&& (65535 : Int32)))]) (rest := []) (lenOf pd_1 rfl) rfl (by show 2 * 0 + _ ≤ _; exact Nat.le_of_eq rfl) (hb hby at_6) (fun _ _ => ⟨rfl, e0, (by decide : 0 + 0 ≤ _), (by decide : 0 + 0 ≤ _)⟩)
    dsimp only [Pt.U, Pt.locs, Pt.cells, Pt.slots] at X4 l4 y4 z4 st4 hQ4
    subst l4 y4 z4
    obtain ⟨rfl, Nq4, eh4⟩ := hQ4
    have N4 := Fr.app N0 Nq4
    refine own_of st4 ?_
    show own_go p e below s _ _ _ (T4.setTop (mkF m 9 #[.val (.int p1), .val (.int (p1 &&& (65535 : Int32))), .unset, .unset] [(.double (FP.ddiv (FP.i2d ((p1 &&& (65535 : Int32)) + (1 : Int32))) (4620693217682128896 : UInt64)))]))
    refine own_of (fun tt_ => XS.dstoreN X4.here hx rfl (hb hby at_9) rfl (l' := #[.val (.int p1), .val (.int (p1 &&& (65535 : Int32))), .val (.double (FP.ddiv (FP.i2d ((p1 &&& (65535 : Int32)) + (1 : Int32))) (4620693217682128896 : UInt64))), .second]) rfl) ?_
    show own_go p e below s _ _ _ (T4.setTop (mkF m 10 #[.val (.int p1), .val (.int (p1 &&& (65535 : Int32))), .val (.double (FP.ddiv (FP.i2d ((p1 &&& (65535 : Int32)) + (1 : Int32))) (4620693217682128896 : UInt64))), .second] []))
    refine own_of (fun tt_ => XS.iloadN X4.here hx rfl (hb hby at_10) rfl) ?_
    show own_go p e below s _ _ _ (T4.setTop (mkF m 11 #[.val (.int p1), .val (.int (p1 &&& (65535 : Int32))), .val (.double (FP.ddiv (FP.i2d ((p1 &&& (65535 : Int32)) + (1 : Int32))) (4620693217682128896 : UInt64))), .second] [(.int (p1 &&& (65535 : Int32)))]))
    refine own_of (fun tt_ => X4.ldcI hx hown (mvT hZ (hW 0 _ rfl)) rfl (hb hby at_11)) ?_
    show own_go p e below s _ _ _ (T4.setTop (mkF m 13 #[.val (.int p1), .val (.int (p1 &&& (65535 : Int32))), .val (.double (FP.ddiv (FP.i2d ((p1 &&& (65535 : Int32)) + (1 : Int32))) (4620693217682128896 : UInt64))), .second] [(.int (65535 : Int32)), (.int (p1 &&& (65535 : Int32)))]))
    have hb13_5 : ¬ ((p1 &&& (65535 : Int32)) = (65535 : Int32)) := hk
    refine own_of (fun tt_ => XS.icmpYes X4.here hx rfl (pc0 := 13) (pc' := 30) rfl (hb hby at_13) rfl (feq hb13_5).2 (by decide) (by decide)) ?_
    show own_go p e below s _ _ _ (T4.setTop (mkF m 30 #[.val (.int p1), .val (.int (p1 &&& (65535 : Int32))), .val (.double (FP.ddiv (FP.i2d ((p1 &&& (65535 : Int32)) + (1 : Int32))) (4620693217682128896 : UInt64))), .second] []))
    refine own_of (fun tt_ => XS.dloadN X4.here hx rfl (hb hby at_30) rfl) ?_
    show own_go p e below s _ _ _ (T4.setTop (mkF m 31 #[.val (.int p1), .val (.int (p1 &&& (65535 : Int32))), .val (.double (FP.ddiv (FP.i2d ((p1 &&& (65535 : Int32)) + (1 : Int32))) (4620693217682128896 : UInt64))), .second] [(.double (FP.ddiv (FP.i2d ((p1 &&& (65535 : Int32)) + (1 : Int32))) (4620693217682128896 : UInt64)))]))
    refine own_of (fun tt_ => X4.ldc2DoubleC hx hown (mvT hZ (hW 7 _ rfl)) (g := (mkF m 31 #[.val (.int p1), .val (.int (p1 &&& (65535 : Int32))), .val (.double (FP.ddiv (FP.i2d ((p1 &&& (65535 : Int32)) + (1 : Int32))) (4620693217682128896 : UInt64))), .second] [(.double (FP.ddiv (FP.i2d ((p1 &&& (65535 : Int32)) + (1 : Int32))) (4620693217682128896 : UInt64)))])) rfl (hb hby at_31) _) ?_
    show own_go p e below s _ _ _ (T4.setTop (mkF m 34 #[.val (.int p1), .val (.int (p1 &&& (65535 : Int32))), .val (.double (FP.ddiv (FP.i2d ((p1 &&& (65535 : Int32)) + (1 : Int32))) (4620693217682128896 : UInt64))), .second] [(.double (4620693217682128896 : UInt64)), (.double (FP.ddiv (FP.i2d ((p1 &&& (65535 : Int32)) + (1 : Int32))) (4620693217682128896 : UInt64)))]))
    refine own_of (fun tt_ => XS.dmulS (g := (mkF m 34 #[.val (.int p1), .val (.int (p1 &&& (65535 : Int32))), .val (.double (FP.ddiv (FP.i2d ((p1 &&& (65535 : Int32)) + (1 : Int32))) (4620693217682128896 : UInt64))), .second] [(.double (4620693217682128896 : UInt64)), (.double (FP.ddiv (FP.i2d ((p1 &&& (65535 : Int32)) + (1 : Int32))) (4620693217682128896 : UInt64)))])) X4.here hx rfl (hb hby at_34) rfl (own_nnb (own_back hn0 hn1) (own_nn _)) (own_back hn0 hn1)) ?_
    show own_go p e below s _ _ _ (T4.setTop (mkF m 35 #[.val (.int p1), .val (.int (p1 &&& (65535 : Int32))), .val (.double (FP.ddiv (FP.i2d ((p1 &&& (65535 : Int32)) + (1 : Int32))) (4620693217682128896 : UInt64))), .second] [(.double (FP.i2d ((p1 &&& (65535 : Int32)) + (1 : Int32))))]))
    refine own_of (fun tt_ => XS.iloadN X4.here hx rfl (hb hby at_35) rfl) ?_
    show own_go p e below s _ _ _ (T4.setTop (mkF m 36 #[.val (.int p1), .val (.int (p1 &&& (65535 : Int32))), .val (.double (FP.ddiv (FP.i2d ((p1 &&& (65535 : Int32)) + (1 : Int32))) (4620693217682128896 : UInt64))), .second] [(.int (p1 &&& (65535 : Int32))), (.double (FP.i2d ((p1 &&& (65535 : Int32)) + (1 : Int32))))]))
    refine own_of (fun tt_ => XS.iconst X4.here hx rfl (hb hby at_36)) ?_
    show own_go p e below s _ _ _ (T4.setTop (mkF m 37 #[.val (.int p1), .val (.int (p1 &&& (65535 : Int32))), .val (.double (FP.ddiv (FP.i2d ((p1 &&& (65535 : Int32)) + (1 : Int32))) (4620693217682128896 : UInt64))), .second] [(.int (1 : Int32)), (.int (p1 &&& (65535 : Int32))), (.double (FP.i2d ((p1 &&& (65535 : Int32)) + (1 : Int32))))]))
    refine own_of (fun tt_ => XS.iadd X4.here hx rfl (hb hby at_37) rfl) ?_
    show own_go p e below s _ _ _ (T4.setTop (mkF m 38 #[.val (.int p1), .val (.int (p1 &&& (65535 : Int32))), .val (.double (FP.ddiv (FP.i2d ((p1 &&& (65535 : Int32)) + (1 : Int32))) (4620693217682128896 : UInt64))), .second] [(.int ((p1 &&& (65535 : Int32)) + (1 : Int32))), (.double (FP.i2d ((p1 &&& (65535 : Int32)) + (1 : Int32))))]))
    refine own_of (fun tt_ => XS.i2dS (g := (mkF m 38 #[.val (.int p1), .val (.int (p1 &&& (65535 : Int32))), .val (.double (FP.ddiv (FP.i2d ((p1 &&& (65535 : Int32)) + (1 : Int32))) (4620693217682128896 : UInt64))), .second] [(.int ((p1 &&& (65535 : Int32)) + (1 : Int32))), (.double (FP.i2d ((p1 &&& (65535 : Int32)) + (1 : Int32))))])) X4.here hx rfl (hb hby at_38) rfl rfl) ?_
    show own_go p e below s _ _ _ (T4.setTop (mkF m 39 #[.val (.int p1), .val (.int (p1 &&& (65535 : Int32))), .val (.double (FP.ddiv (FP.i2d ((p1 &&& (65535 : Int32)) + (1 : Int32))) (4620693217682128896 : UInt64))), .second] [(.double (FP.i2d ((p1 &&& (65535 : Int32)) + (1 : Int32)))), (.double (FP.i2d ((p1 &&& (65535 : Int32)) + (1 : Int32))))]))
    refine own_of (fun tt_ => XS.dcmpS (g := (mkF m 39 #[.val (.int p1), .val (.int (p1 &&& (65535 : Int32))), .val (.double (FP.ddiv (FP.i2d ((p1 &&& (65535 : Int32)) + (1 : Int32))) (4620693217682128896 : UInt64))), .second] [(.double (FP.i2d ((p1 &&& (65535 : Int32)) + (1 : Int32)))), (.double (FP.i2d ((p1 &&& (65535 : Int32)) + (1 : Int32))))])) X4.here hx rfl (hb hby at_39) rfl (v := (0 : Int32)) (dcmpV_self (own_nn _) _)) ?_
    show own_go p e below s _ _ _ (T4.setTop (mkF m 40 #[.val (.int p1), .val (.int (p1 &&& (65535 : Int32))), .val (.double (FP.ddiv (FP.i2d ((p1 &&& (65535 : Int32)) + (1 : Int32))) (4620693217682128896 : UInt64))), .second] [(.int (0 : Int32))]))
    have hb40_6 : (0 : Int32) = (0 : Int32) := by decide
    refine own_of (fun tt_ => XS.ifNo X4.here hx rfl (hb hby at_40) rfl ((if0 _ _).trans (teq hb40_6).2)) ?_
    show own_go p e below s _ _ _ (T4.setTop (mkF m 43 #[.val (.int p1), .val (.int (p1 &&& (65535 : Int32))), .val (.double (FP.ddiv (FP.i2d ((p1 &&& (65535 : Int32)) + (1 : Int32))) (4620693217682128896 : UInt64))), .second] []))
    refine own_of (fun tt_ => XS.dloadN X4.here hx rfl (hb hby at_43) rfl) ?_
    show own_go p e below s _ _ _ (T4.setTop (mkF m 44 #[.val (.int p1), .val (.int (p1 &&& (65535 : Int32))), .val (.double (FP.ddiv (FP.i2d ((p1 &&& (65535 : Int32)) + (1 : Int32))) (4620693217682128896 : UInt64))), .second] [(.double (FP.ddiv (FP.i2d ((p1 &&& (65535 : Int32)) + (1 : Int32))) (4620693217682128896 : UInt64)))]))
    refine own_of (fun tt_ => XS.iloadN X4.here hx rfl (hb hby at_44) rfl) ?_
    show own_go p e below s _ _ _ (T4.setTop (mkF m 45 #[.val (.int p1), .val (.int (p1 &&& (65535 : Int32))), .val (.double (FP.ddiv (FP.i2d ((p1 &&& (65535 : Int32)) + (1 : Int32))) (4620693217682128896 : UInt64))), .second] [(.int (p1 &&& (65535 : Int32))), (.double (FP.ddiv (FP.i2d ((p1 &&& (65535 : Int32)) + (1 : Int32))) (4620693217682128896 : UInt64)))]))
    obtain ⟨_, _, ⟨T7, L7, k7, n7⟩, -, X7, ⟨Lc7, hQ7, l7, y7, z7⟩, st7⟩ := Jvm.LawKit.callS X4 hx (y := (⟨"com/example/mods_from_spectra/modsfromspectra/opensearch/FragmentKeys", "lightest", "(I)D"⟩ : MethodName)) hown (mvT hZ (hW 8 _ rfl)) (mvT hZ (hW 9 _ rfl)) (mvT hZ (hW 3 _ rfl)) (mvT hZ (hW 10 _ rfl)) (by decide) (backOf (W := 2) (lt_ l Z a0 hw [] (p1 &&& (65535 : Int32)) h0 n0 XO0) hZ (hW 10 _ rfl) (hW 3 _ rfl) (by decide) (by decide)) (g := (mkF m 45 #[.val (.int p1), .val (.int (p1 &&& (65535 : Int32))), .val (.double (FP.ddiv (FP.i2d ((p1 &&& (65535 : Int32)) + (1 : Int32))) (4620693217682128896 : UInt64))), .second] [(.int (p1 &&& (65535 : Int32))), (.double (FP.ddiv (FP.i2d ((p1 &&& (65535 : Int32)) + (1 : Int32))) (4620693217682128896 : UInt64)))])) rfl (by rw [hml]; rfl) (argsL := [(.int (p1 &&& (65535 : Int32)))]) (rest := [(.double (FP.ddiv (FP.i2d ((p1 &&& (65535 : Int32)) + (1 : Int32))) (4620693217682128896 : UInt64)))]) (lenOf pd_1 rfl) rfl (by show 2 * 0 + _ ≤ _; exact Nat.le_of_eq rfl) (hb hby at_45) (fun _ _ => ⟨rfl, eh4, (by decide : 0 + 0 ≤ _), (by decide : 0 + 0 ≤ _)⟩)
    dsimp only [Pt.U, Pt.locs, Pt.cells, Pt.slots] at X7 l7 y7 z7 st7 hQ7
    subst l7 y7 z7
    obtain ⟨rfl, Nq7, eh7⟩ := hQ7
    have N7 := Fr.app N4 Nq7
    refine own_of st7 ?_
    show own_go p e below s _ _ _ (T7.setTop (mkF m 48 #[.val (.int p1), .val (.int (p1 &&& (65535 : Int32))), .val (.double (FP.ddiv (FP.i2d ((p1 &&& (65535 : Int32)) + (1 : Int32))) (4620693217682128896 : UInt64))), .second] [(.double (FP.ddiv (FP.i2d (p1 &&& (65535 : Int32))) (4620693217682128896 : UInt64))), (.double (FP.ddiv (FP.i2d ((p1 &&& (65535 : Int32)) + (1 : Int32))) (4620693217682128896 : UInt64)))]))
    refine own_of (fun tt_ => XS.dcmpS (g := (mkF m 48 #[.val (.int p1), .val (.int (p1 &&& (65535 : Int32))), .val (.double (FP.ddiv (FP.i2d ((p1 &&& (65535 : Int32)) + (1 : Int32))) (4620693217682128896 : UInt64))), .second] [(.double (FP.ddiv (FP.i2d (p1 &&& (65535 : Int32))) (4620693217682128896 : UInt64))), (.double (FP.ddiv (FP.i2d ((p1 &&& (65535 : Int32)) + (1 : Int32))) (4620693217682128896 : UInt64)))])) X7.here hx rfl (hb hby at_48) rfl (v := (1 : Int32)) (own_gt hk0.1 hkn hn1)) ?_
    show own_go p e below s _ _ _ (T7.setTop (mkF m 49 #[.val (.int p1), .val (.int (p1 &&& (65535 : Int32))), .val (.double (FP.ddiv (FP.i2d ((p1 &&& (65535 : Int32)) + (1 : Int32))) (4620693217682128896 : UInt64))), .second] [(.int (1 : Int32))]))
    have hb49_8 : (0 : Int32) < (1 : Int32) := by decide
    refine own_of (fun tt_ => XS.ifNo X7.here hx rfl (hb hby at_49) rfl ((if0 _ _).trans (tlt hb49_8).2.2.2)) ?_
    show own_go p e below s _ _ _ (T7.setTop (mkF m 52 #[.val (.int p1), .val (.int (p1 &&& (65535 : Int32))), .val (.double (FP.ddiv (FP.i2d ((p1 &&& (65535 : Int32)) + (1 : Int32))) (4620693217682128896 : UInt64))), .second] []))
    refine own_of (fun tt_ => XS.dloadN X7.here hx rfl (hb hby at_52) rfl) ?_
    show own_go p e below s _ _ _ (T7.setTop (mkF m 53 #[.val (.int p1), .val (.int (p1 &&& (65535 : Int32))), .val (.double (FP.ddiv (FP.i2d ((p1 &&& (65535 : Int32)) + (1 : Int32))) (4620693217682128896 : UInt64))), .second] [(.double (FP.ddiv (FP.i2d ((p1 &&& (65535 : Int32)) + (1 : Int32))) (4620693217682128896 : UInt64)))]))
    obtain ⟨_, _, ⟨T9, L9, k9, n9⟩, -, X9, ⟨Lc9, hQ9, l9, y9, z9⟩, st9⟩ := Jvm.LawKit.callS X7 hx (y := (⟨"com/example/mods_from_spectra/modsfromspectra/opensearch/FragmentKeys", "key", "(D)I"⟩ : MethodName)) hown (mvT hZ (hW 11 _ rfl)) (mvT hZ (hW 12 _ rfl)) (mvT hZ (hW 3 _ rfl)) (mvT hZ (hW 13 _ rfl)) (by decide) (backOf (W := 0) (ky l Z a0 hw [] (FP.ddiv (FP.i2d ((p1 &&& (65535 : Int32)) + (1 : Int32))) (4620693217682128896 : UInt64)) ((p1 &&& (65535 : Int32)) + (1 : Int32)) h0 n0 XO0 (own_back hn0 hn1) hn0 hn1) hZ (hW 13 _ rfl) (hW 3 _ rfl) (by decide) (by decide)) (g := (mkF m 53 #[.val (.int p1), .val (.int (p1 &&& (65535 : Int32))), .val (.double (FP.ddiv (FP.i2d ((p1 &&& (65535 : Int32)) + (1 : Int32))) (4620693217682128896 : UInt64))), .second] [(.double (FP.ddiv (FP.i2d ((p1 &&& (65535 : Int32)) + (1 : Int32))) (4620693217682128896 : UInt64)))])) rfl (by rw [hml]; rfl) (argsL := [(.double (FP.ddiv (FP.i2d ((p1 &&& (65535 : Int32)) + (1 : Int32))) (4620693217682128896 : UInt64)))]) (rest := []) (lenOf pd_2 rfl) rfl (by show 2 * 0 + _ ≤ _; exact Nat.le_of_eq rfl) (hb hby at_53) (fun _ _ => ⟨rfl, eh7, (by decide : 0 + 0 ≤ _), (by decide : 0 + 0 ≤ _)⟩)
    dsimp only [Pt.U, Pt.locs, Pt.cells, Pt.slots] at X9 l9 y9 z9 st9 hQ9
    subst l9 y9 z9
    obtain ⟨rfl, Nq9, eh9⟩ := hQ9
    have N9 := Fr.app N7 Nq9
    refine own_of st9 ?_
    show own_go p e below s _ _ _ (T9.setTop (mkF m 56 #[.val (.int p1), .val (.int (p1 &&& (65535 : Int32))), .val (.double (FP.ddiv (FP.i2d ((p1 &&& (65535 : Int32)) + (1 : Int32))) (4620693217682128896 : UInt64))), .second] [(.int ((p1 &&& (65535 : Int32)) + (1 : Int32)))]))
    refine own_of (fun tt_ => XS.iloadN X9.here hx rfl (hb hby at_56) rfl) ?_
    show own_go p e below s _ _ _ (T9.setTop (mkF m 57 #[.val (.int p1), .val (.int (p1 &&& (65535 : Int32))), .val (.double (FP.ddiv (FP.i2d ((p1 &&& (65535 : Int32)) + (1 : Int32))) (4620693217682128896 : UInt64))), .second] [(.int (p1 &&& (65535 : Int32))), (.int ((p1 &&& (65535 : Int32)) + (1 : Int32)))]))
    refine own_of (fun tt_ => XS.iconst X9.here hx rfl (hb hby at_57)) ?_
    show own_go p e below s _ _ _ (T9.setTop (mkF m 58 #[.val (.int p1), .val (.int (p1 &&& (65535 : Int32))), .val (.double (FP.ddiv (FP.i2d ((p1 &&& (65535 : Int32)) + (1 : Int32))) (4620693217682128896 : UInt64))), .second] [(.int (1 : Int32)), (.int (p1 &&& (65535 : Int32))), (.int ((p1 &&& (65535 : Int32)) + (1 : Int32)))]))
    refine own_of (fun tt_ => XS.iadd X9.here hx rfl (hb hby at_58) rfl) ?_
    show own_go p e below s _ _ _ (T9.setTop (mkF m 59 #[.val (.int p1), .val (.int (p1 &&& (65535 : Int32))), .val (.double (FP.ddiv (FP.i2d ((p1 &&& (65535 : Int32)) + (1 : Int32))) (4620693217682128896 : UInt64))), .second] [(.int ((p1 &&& (65535 : Int32)) + (1 : Int32))), (.int ((p1 &&& (65535 : Int32)) + (1 : Int32)))]))
    have hb59_10 : ((p1 &&& (65535 : Int32)) + (1 : Int32)) = ((p1 &&& (65535 : Int32)) + (1 : Int32)) := rfl
    refine own_of (fun tt_ => XS.icmpNo X9.here hx rfl (hb hby at_59) rfl (teq hb59_10).2) ?_
    show own_go p e below s _ _ _ (T9.setTop (mkF m 62 #[.val (.int p1), .val (.int (p1 &&& (65535 : Int32))), .val (.double (FP.ddiv (FP.i2d ((p1 &&& (65535 : Int32)) + (1 : Int32))) (4620693217682128896 : UInt64))), .second] []))
    refine own_of (fun tt_ => XS.iconst X9.here hx rfl (hb hby at_62)) ?_
    show own_go p e below s _ _ _ (T9.setTop (mkF m 63 #[.val (.int p1), .val (.int (p1 &&& (65535 : Int32))), .val (.double (FP.ddiv (FP.i2d ((p1 &&& (65535 : Int32)) + (1 : Int32))) (4620693217682128896 : UInt64))), .second] [(.int (1 : Int32))]))
    refine own_of (fun tt_ => XS.goto X9.here hx rfl (pc0 := 63) (pc' := 67) rfl (hb hby at_63) (by decide) (by decide)) ?_
    show own_go p e below s _ _ _ (T9.setTop (mkF m 67 #[.val (.int p1), .val (.int (p1 &&& (65535 : Int32))), .val (.double (FP.ddiv (FP.i2d ((p1 &&& (65535 : Int32)) + (1 : Int32))) (4620693217682128896 : UInt64))), .second] [(.int (1 : Int32))]))
    refine own_ret X9 hx hlk Bd.returns rfl (Or.inl ⟨rfl, by simp, _, rfl⟩) (hb hby at_67) (by decide) (by decide) ?_
    rw [eh9]
    exact ⟨rfl, N9⟩
set_option maxRecDepth 65536 in
set_option maxHeartbeats 40000000 in
theorem comes_1 {Post : Tables → Env → Array Value → State → Outcome → State → Prop} (hpost : ∀ tb e args s v u, (limb_1_1.after args s (.returned v) u = true ∧ limb_1_2.after args s (.returned v) u = true ∧ True) → FrameEnd s (.returned v) u (Jvm.fieldLocs frame_1_writes args s ++ Jvm.arrayLocs frame_1_arrays args s ++ Jvm.staticLocs frame_1_statics s) 0 0 → Post tb e args s (.returned v) u) :
    ArmFor flags0 classFile x code maxLocals ret World_1 tables_1 room_1 Calls_1 rest_1 Pre_1 Post := by
  intro l hfl _ _ p e ha hc hk s m args below hf hA hF happ hP
  obtain ⟨hcalls, hrest, hpre⟩ := hP
  obtain ⟨-, -, -, hnamed, -, -, -, hat⟩ := (Spec.applies_iff hf).mp happ
  obtain ⟨hg, hn⟩ := and_e (Cond.before_iff.mp (show (Jvm.Cond.and given_1 narrow_1).before args s = true from hpre))
  obtain ⟨g1, g2⟩ := and_e hg
  obtain ⟨w0, rfl⟩ : ∃ w0 : Value, args = #[w0] := by
    have hs : args.size = 1 := by simpa [Cond.value, given_1] using g1
    obtain ⟨L⟩ := args
    match L, hs with
    | [w0], _ => exact ⟨w0, rfl⟩
  have hw := fun d (hd : d ∈ tables_1) => atoms_spec (ws := Jvm.Cond.code x code maxLocals ret :: tables_1) hat d (List.mem_cons_of_mem _ hd)
  have hW : ∀ (i : Nat) (d : Jvm.Cond), tables_1[i]? = some d → d.before _ s = true := fun i d h => hw d (List.mem_of_getElem? h)
  have hfit : Fit s := fun {y c} hc i hi => by
    obtain ⟨ha, rfl⟩ := Array.getElem?_eq_some_iff.mp hc
    have q := List.all_eq_true.mp ((Array.all_eq_true_iff_forall_mem.mp hF) _ (Array.getElem_mem ha)) i (List.mem_range.mpr hi)
    simpa [Array.getElem?_eq_getElem hi] using q
  obtain ⟨i0, ei0⟩ := is_v g2
  obtain rfl : w0 = (.int i0) := Option.some.inj ei0
  -- hn says: Jvm.Cond.tt
  obtain ⟨n, o, h1, h2, h3, _, L, rfl, ⟨rfl, N⟩, hq⟩ := rm0 l s _ hw tables_1 i0 s.heap s.heap.size (Old.start s) p e ha hc hk s m _ below hf ((Spec.applies_iff_loose hf).mp happ).1 ⟨rfl, State.Warmed39.refl s, rfl⟩ trivial
  refine ⟨n, _, h1, h2, h3, hpost _ _ _ _ _ _ ⟨Cond.after_iff.mpr rfl, Cond.after_iff.mpr (eq_i res_at (Term.int_eval (1)) rfl), trivial⟩ ⟨hq.1, hq.2.1, (hq.2.2.sift fun y hy => Or.inr (N y hy)).mono (by decide) (by decide)⟩⟩
theorem main_1_1 : Claimed_1_1 := comes_1 fun _ _ _ _ _ _ h hF => ⟨h.1, hF⟩
theorem main_1_2 : Claimed_1_2 := comes_1 fun _ _ _ _ _ _ h hF => ⟨h.2.1, hF⟩
end Jvm.Pilot.@@N@@
namespace Jvm.Pilot.@@N@@
open Jvm Jvm.ClassFile Sem Op Lib Jvm.Free Jvm.Stand Jvm.Pilot.@@N@@.Jvm.D
/-! MADE BY PROGRAM (witnessworld.py) out of the Statement's table words and the real class files: 10 classes; the members and pool entries that the words name. The judged class is class 1, her method 1. -/
namespace start1
open Jvm.ClassFile
def u (s : String) : CpInfo := .utf8 (stringToUtf16 s)
/-- a pool by its gaps: so many unusable entries, then the entry; so many at the end -/
def gap : Nat → List CpInfo → List CpInfo
  | 0, r => r
  | n + 1, r => .unusable :: gap n r
def poolList (es : List (Nat × CpInfo)) (last : Nat) : List CpInfo := es.foldr (fun e r => gap e.1 (e.2 :: r)) (gap last [])
def pool (es : List (Nat × CpInfo)) (last : Nat) : Array CpInfo := ⟨poolList es last⟩
def fileOf (pool : Array CpInfo) (this : Nat) (attrs : Array Attribute := #[]) (ms : Array MethodInfo := #[]) (fl : Nat := 33) (sup : Nat := 0) (ifs : Array Nat := #[]) (fds : Array FieldInfo := #[]) : ClassFile where
  minorVersion := 0
  majorVersion := 65
  constantPool := pool
  accessFlags := fl
  thisClass := this
  superClass := sup
  interfaces := ifs
  fields := fds
  methods := ms
  attributes := attrs
def plain (name : String) (sup : Option ClassId) : Class where
  name := name
  kind := .ordinary
  loader := none
  accessFlags := 33
  super := sup
  interfaces := #[]
  cf := none
  fields := #[]
  methods := #[]
  instanceTypes := #[]
  staticTypes := #[]
  resolved := #[]
  callSites := []
  init := .initialized
  statics := none
  mirror := none

def pool0 : Array CpInfo := pool [(5, u "<init>"), (0, u "()V"), (1, .class_ 10), (1, u "java/lang/Object")] 113

def k0m0 : Method := { name := "<init>", desc := "()V", sig := { parameters := [], returnType := none }, accessFlags := 1, code := none }
/-- java/lang/Object -/
def k0 : Class := { plain "java/lang/Object" none with
  accessFlags := 33
  interfaces := #[]
  cf := some (fileOf pool0 8 #[] #[{ accessFlags := 1, nameIndex := 5, descriptorIndex := 6, attributes := #[] }] 33 0 #[] #[])
  fields := #[]
  methods := #[k0m0]
  instanceTypes := #[]
  staticTypes := #[]
  resolved := Array.replicate 124 none
  statics := none }

def pool1 : Array CpInfo := pool [(2, .class_ 4), (1, u "java/lang/Object"), (0, u "<init>"), (0, u "()V"), (0, .integer 65535), (0, .methodref 9 10), (0, .class_ 11), (0, .nameAndType 12 13), (0, u "com/example/mods_from_spectra/modsfromspectra/opensearch/FragmentKeys"), (0, u "heaviest"), (0, u "(I)D"), (0, .double 9218868437227405311), (1, .double 4620693217682128896), (1, .methodref 9 19), (0, .nameAndType 20 13), (0, u "lightest"), (0, .methodref 9 22), (0, .nameAndType 23 24), (0, u "key"), (0, u "(D)I"), (0, .class_ 26), (0, u "com/example/mods_from_spectra/modsfromspectra/opensearch/FragmentKeysHeaviestPinLaw"), (2, u "law"), (0, u "(I)Z")] 3

def k1m0 : Method := { name := "<init>", desc := "()V", sig := { parameters := [], returnType := none }, accessFlags := 1, code := none }
def k1c1 : Code := { maxStack := 4, maxLocals := 4, code := code, exceptionTable := #[], attributes := #[] }
def k1m1 : Method := { name := "law", desc := "(I)Z", sig := { parameters := [.int], returnType := some .boolean }, accessFlags := 9, code := some k1c1 }
/-- com/example/mods_from_spectra/modsfromspectra/opensearch/FragmentKeysHeaviestPinLaw -/
def k1 : Class := { plain "com/example/mods_from_spectra/modsfromspectra/opensearch/FragmentKeysHeaviestPinLaw" (some 0) with
  accessFlags := 49
  interfaces := #[]
  cf := some (fileOf pool1 25 #[] #[{ accessFlags := 1, nameIndex := 5, descriptorIndex := 6, attributes := #[] }, { accessFlags := 9, nameIndex := 29, descriptorIndex := 30, attributes := #[] }] 49 2 #[] #[])
  fields := #[]
  methods := #[k1m0, k1m1]
  instanceTypes := #[]
  staticTypes := #[]
  resolved := Array.replicate 34 none
  statics := none }

def pool2 : Array CpInfo := pool [(4, .class_ 6), (1, u "java/lang/Object"), (3, .class_ 12), (1, u "com/example/mods_from_spectra/modsfromspectra/opensearch/FragmentKeys"), (0, u "index"), (0, u "Lcom/example/mods_from_spectra/modsfromspectra/search/CandidateIndex;"), (8, u "start"), (0, u "[I"), (5, .class_ 32), (1, u "java/lang/Math"), (0, u "max"), (3, u "keys"), (2, u "heaviestResidue"), (0, u "[D"), (20, .double 9218868437227405312), (5, .methodref 30 69), (0, .nameAndType 70 71), (0, u "min"), (0, u "(DD)D"), (2, u "lightestResidue"), (0, u "D"), (2, u "longest"), (0, u "I"), (13, u "listed"), (0, u "Lcom/example/mods_from_spectra/modsfromspectra/opensearch/InvertedIndex;"), (0, .double 4679239875398991872), (1, .double 4620693217682128896), (1, .methodref 30 100), (0, .nameAndType 33 71), (0, .integer 65535), (22, u "key"), (0, u "(D)I"), (0, u "KEYS_PER_DA"), (2, u "KEYS"), (1, u "STRETCHES"), (1, u "MOST_LISTED"), (6, u "lightest"), (0, u "(I)D"), (0, u "heaviest")] 36

def k2c0 : Code := { maxStack := 8, maxLocals := 2, code := prog_23_method_2_code, exceptionTable := #[], attributes := #[] }
def k2m0 : Method := { name := "key", desc := "(D)I", sig := { parameters := [.double], returnType := some .int }, accessFlags := 8, code := some k2c0 }
def k2c1 : Code := { maxStack := 4, maxLocals := 1, code := prog_23_method_3_code, exceptionTable := #[], attributes := #[] }
def k2m1 : Method := { name := "lightest", desc := "(I)D", sig := { parameters := [.int], returnType := some .double }, accessFlags := 8, code := some k2c1 }
def k2c2 : Code := { maxStack := 4, maxLocals := 1, code := prog_23_method_4_code, exceptionTable := #[], attributes := #[] }
def k2m2 : Method := { name := "heaviest", desc := "(I)D", sig := { parameters := [.int], returnType := some .double }, accessFlags := 8, code := some k2c2 }
/-- com/example/mods_from_spectra/modsfromspectra/opensearch/FragmentKeys -/
def k2 : Class := { plain "com/example/mods_from_spectra/modsfromspectra/opensearch/FragmentKeys" (some 0) with
  accessFlags := 48
  interfaces := #[]
  cf := some (fileOf pool2 10 #[] #[{ accessFlags := 8, nameIndex := 124, descriptorIndex := 125, attributes := #[] }, { accessFlags := 8, nameIndex := 140, descriptorIndex := 141, attributes := #[] }, { accessFlags := 8, nameIndex := 142, descriptorIndex := 141, attributes := #[] }] 48 4 #[] #[{ accessFlags := 24, nameIndex := 126, descriptorIndex := 79, attributes := #[] }, { accessFlags := 24, nameIndex := 129, descriptorIndex := 79, attributes := #[] }, { accessFlags := 24, nameIndex := 131, descriptorIndex := 79, attributes := #[] }, { accessFlags := 24, nameIndex := 133, descriptorIndex := 79, attributes := #[] }, { accessFlags := 18, nameIndex := 37, descriptorIndex := 24, attributes := #[] }, { accessFlags := 18, nameIndex := 23, descriptorIndex := 24, attributes := #[] }, { accessFlags := 18, nameIndex := 40, descriptorIndex := 41, attributes := #[] }, { accessFlags := 18, nameIndex := 74, descriptorIndex := 75, attributes := #[] }, { accessFlags := 18, nameIndex := 93, descriptorIndex := 94, attributes := #[] }, { accessFlags := 18, nameIndex := 78, descriptorIndex := 79, attributes := #[] }, { accessFlags := 18, nameIndex := 13, descriptorIndex := 14, attributes := #[] }])
  fields := #[{ name := "KEYS_PER_DA", type := .int, accessFlags := 24, slot := 0, constantValue := 0 }, { name := "KEYS", type := .int, accessFlags := 24, slot := 1, constantValue := 0 }, { name := "STRETCHES", type := .int, accessFlags := 24, slot := 2, constantValue := 0 }, { name := "MOST_LISTED", type := .int, accessFlags := 24, slot := 3, constantValue := 0 }, { name := "keys", type := (.array .int), accessFlags := 18, slot := 0, constantValue := 0 }, { name := "start", type := (.array .int), accessFlags := 18, slot := 1, constantValue := 0 }, { name := "heaviestResidue", type := (.array .double), accessFlags := 18, slot := 2, constantValue := 0 }, { name := "lightestResidue", type := .double, accessFlags := 18, slot := 3, constantValue := 0 }, { name := "listed", type := (.object "com/example/mods_from_spectra/modsfromspectra/opensearch/InvertedIndex"), accessFlags := 18, slot := 4, constantValue := 0 }, { name := "longest", type := .int, accessFlags := 18, slot := 5, constantValue := 0 }, { name := "index", type := (.object "com/example/mods_from_spectra/modsfromspectra/search/CandidateIndex"), accessFlags := 18, slot := 6, constantValue := 0 }]
  methods := #[k2m0, k2m1, k2m2]
  instanceTypes := #[(.array .int), (.array .int), (.array .double), .double, (.object "com/example/mods_from_spectra/modsfromspectra/opensearch/InvertedIndex"), .int, (.object "com/example/mods_from_spectra/modsfromspectra/search/CandidateIndex")]
  staticTypes := #[.int, .int, .int, .int]
  resolved := Array.replicate 179 none
  statics := none }

def pool3 : Array CpInfo := pool [(1, .class_ 2), (0, u "java/lang/Math"), (1, .class_ 6), (1, u "java/lang/Object"), (0, u "<init>"), (0, u "()V"), (43, u "(DD)D"), (45, .class_ 100), (1, u "java/lang/Math$RandomNumberGeneratorHolder"), (71, u "negativeZeroFloatBits"), (0, u "J"), (2, u "negativeZeroDoubleBits"), (21, u "max"), (2, u "min"), (43, u "$assertionsDisabled"), (0, u "Z"), (91, u "twoToTheDoubleScaleDown"), (0, u "D"), (4, u "twoToTheDoubleScaleUp"), (9, u "E"), (3, u "PI"), (2, u "TAU"), (2, u "DEGREES_TO_RADIANS"), (0, u "RADIANS_TO_DEGREES")] 94

def k3m0 : Method := { name := "<init>", desc := "()V", sig := { parameters := [], returnType := none }, accessFlags := 2, code := none }
def k3c1 : Code := { maxStack := 4, maxLocals := 4, code := jdk_29_method_68_code, exceptionTable := #[], attributes := #[] }
def k3m1 : Method := { name := "max", desc := "(DD)D", sig := { parameters := [.double, .double], returnType := some .double }, accessFlags := 9, code := some k3c1 }
def k3c2 : Code := { maxStack := 4, maxLocals := 4, code := jdk_29_method_72_code, exceptionTable := #[], attributes := #[] }
def k3m2 : Method := { name := "min", desc := "(DD)D", sig := { parameters := [.double, .double], returnType := some .double }, accessFlags := 9, code := some k3c2 }
/-- java/lang/Math -/
def k3 : Class := { plain "java/lang/Math" (some 0) with
  accessFlags := 49
  interfaces := #[]
  cf := some (fileOf pool3 1 #[.nestMembers #[98]] #[{ accessFlags := 2, nameIndex := 7, descriptorIndex := 8, attributes := #[] }, { accessFlags := 9, nameIndex := 198, descriptorIndex := 52, attributes := #[] }, { accessFlags := 9, nameIndex := 201, descriptorIndex := 52, attributes := #[] }] 49 4 #[] #[{ accessFlags := 25, nameIndex := 354, descriptorIndex := 339, attributes := #[] }, { accessFlags := 25, nameIndex := 358, descriptorIndex := 339, attributes := #[] }, { accessFlags := 25, nameIndex := 361, descriptorIndex := 339, attributes := #[] }, { accessFlags := 26, nameIndex := 364, descriptorIndex := 339, attributes := #[] }, { accessFlags := 26, nameIndex := 365, descriptorIndex := 339, attributes := #[] }, { accessFlags := 26, nameIndex := 172, descriptorIndex := 173, attributes := #[] }, { accessFlags := 26, nameIndex := 176, descriptorIndex := 173, attributes := #[] }, { accessFlags := 8, nameIndex := 344, descriptorIndex := 339, attributes := #[] }, { accessFlags := 8, nameIndex := 338, descriptorIndex := 339, attributes := #[] }, { accessFlags := 4120, nameIndex := 245, descriptorIndex := 246, attributes := #[] }])
  fields := #[{ name := "E", type := .double, accessFlags := 25, slot := 0, constantValue := 0 }, { name := "PI", type := .double, accessFlags := 25, slot := 1, constantValue := 0 }, { name := "TAU", type := .double, accessFlags := 25, slot := 2, constantValue := 0 }, { name := "DEGREES_TO_RADIANS", type := .double, accessFlags := 26, slot := 3, constantValue := 0 }, { name := "RADIANS_TO_DEGREES", type := .double, accessFlags := 26, slot := 4, constantValue := 0 }, { name := "negativeZeroFloatBits", type := .long, accessFlags := 26, slot := 5, constantValue := 0 }, { name := "negativeZeroDoubleBits", type := .long, accessFlags := 26, slot := 6, constantValue := 0 }, { name := "twoToTheDoubleScaleUp", type := .double, accessFlags := 8, slot := 7, constantValue := 0 }, { name := "twoToTheDoubleScaleDown", type := .double, accessFlags := 8, slot := 8, constantValue := 0 }, { name := "$assertionsDisabled", type := .boolean, accessFlags := 4120, slot := 9, constantValue := 0 }]
  methods := #[k3m0, k3m1, k3m2]
  instanceTypes := #[]
  staticTypes := #[.double, .double, .double, .double, .double, .long, .long, .double, .double, .boolean]
  resolved := Array.replicate 460 none
  statics := none }

def pool4 : Array CpInfo := pool [(1, u "java/lang/Cloneable"), (0, .class_ 1), (0, u "java/lang/Object"), (0, .class_ 3)] 3

/-- java/lang/Cloneable -/
def k4 : Class := { plain "java/lang/Cloneable" (some 0) with
  accessFlags := 1537
  interfaces := #[]
  cf := some (fileOf pool4 2 #[] #[] 1537 4 #[] #[])
  fields := #[]
  methods := #[]
  instanceTypes := #[]
  staticTypes := #[]
  resolved := Array.replicate 8 none
  statics := none }

def pool5 : Array CpInfo := pool [(1, u "java/io/Serializable"), (0, .class_ 1), (0, u "java/lang/Object"), (0, .class_ 3)] 3

/-- java/io/Serializable -/
def k5 : Class := { plain "java/io/Serializable" (some 0) with
  accessFlags := 1537
  interfaces := #[]
  cf := some (fileOf pool5 2 #[] #[] 1537 4 #[] #[])
  fields := #[]
  methods := #[]
  instanceTypes := #[]
  staticTypes := #[]
  resolved := Array.replicate 8 none
  statics := none }

/-- the primitive byte -/
def k6 : Class := { plain "byte" none with kind := .primitive 'B', accessFlags := 0x411 }
/-- [B -/
def k7 : Class := { plain "[B" (some 0) with kind := .array 6 .byte, interfaces := #[4, 5], accessFlags := 1041 }

/-- the primitive int -/
def k8 : Class := { plain "int" none with kind := .primitive 'I', accessFlags := 0x411 }
/-- [I -/
def k9 : Class := { plain "[I" (some 0) with kind := .array 8 .int, interfaces := #[4, 5], accessFlags := 1041 }

def heap : Heap := #[]
def classes : Array Class := #[k0, k1, k2, k3, k4, k5, k6, k7, k8, k9]
def interned : List (Array UInt16 × Addr) := []
def slotsUsed : Nat := 0
def theMethod : MethodId := ⟨1, 1⟩
def args0 : Array Value := #[.int 5]
def aboutOver (below : List Frame) : State where
  vm := { classes := classes, interned := interned.toArray }
  heap := heap
  slotsUsed := slotsUsed
  threads := #[{ frames := .invoking theMethod args0 :: below }]
def below0 : List Frame := [.native { method := ⟨0, 0⟩, args := #[] }]
def about1 : State := aboutOver below0
def p0 : Program := .bare "" "" ""
def e0 : Env := launch0.env 0 0 0
theorem w_frames : about1.frames = Frame.invoking theMethod args0 :: below0 := rfl
set_option maxRecDepth 65536 in
theorem w_args : argsFit about1.vm theMethod args0 = true := by decide +kernel
set_option maxRecDepth 65536 in
theorem w_heap : heapFits about1 = true := by decide +kernel
set_option maxRecDepth 65536 in
theorem w_runnable : about1.curStatus? = some .runnable := by decide +kernel
set_option maxRecDepth 65536 in
theorem w_alone : about1.alone = true := by decide +kernel
set_option maxRecDepth 65536 in
theorem w_named : about1.methodNamed? x = some theMethod := by decide +kernel
set_option maxRecDepth 65536 in
theorem w_hears : about1.hears theMethod below0 = true := by decide +kernel
set_option maxRecDepth 65536 in
theorem w_ripe : about1.ripe theMethod args0 below0 = true := by decide +kernel
theorem w_running : about1.status = .running := rfl
set_option maxRecDepth 65536 in
theorem w_room : about1.hasRoom e0.platform room_1 = true :=
  launch0.hasRoom_least _ room_1 (by decide +kernel) (by decide +kernel) (by decide +kernel) (by decide +kernel) (by decide +kernel) (by decide +kernel)
theorem allAtoms_all (ts : List Jvm.Cond) (a : Array Jvm.Value) (st : Jvm.State) : (allAtoms ts).before a st = ts.all (fun c => c.before a st) := by
  induction ts with
  | nil => rfl
  | cons c t ih =>
    show (Jvm.Cond.and c (allAtoms t)).before a st = _
    rw [Jvm.Cond.before_and, ih, List.all_cons]
def words1 : List Jvm.Cond := Jvm.Cond.code x code maxLocals ret :: tables_1
/-- a 'code' word, met by the world's own term for the bytes: nothing is compared byte by byte -/
theorem code_word {y : MethodName} {bytes : ByteArray} {mx : Nat} {rt : Option FieldType} {a : Array Value} {s : State} {m : MethodId} {meth : Method} {c : Code} (h1 : s.methodNamed? y = some m) (h2 : s.vm.method? m = some meth) (h3 : meth.code = some c) (h4 : c.code = bytes)
    (h5 : (c.maxLocals == mx && c.exceptionTable.isEmpty && decide (c.maxStack ≤ mostOperands) && decide (meth.sig.returnType = rt) && !meth.locks && decide (parseMethodDescriptor y.desc = some meth.sig)) = true) : (Jvm.Cond.code y bytes mx rt).before a s = true := by
  simp only [Bool.and_eq_true, beq_iff_eq, Bool.not_eq_true', decide_eq_true_eq] at h5
  obtain ⟨⟨⟨⟨⟨g1, g2⟩, g3⟩, g4⟩, g5⟩, g6⟩ := h5
  simp [Cond.before, Cond.holds, Cond.value, h1, h2, h3, h4, g1, g2, g3, g4, g5, g6]
def isCode : Jvm.Cond → Bool
  | .code _ _ _ _ => true
  | _ => false
theorem all_split {L : List Jvm.Cond} {P : Jvm.Cond → Bool} (h1 : L.all (fun c => isCode c || P c) = true) (h2 : ∀ c ∈ L.filter isCode, P c = true) : L.all P = true := by
  refine List.all_eq_true.mpr fun c hc => ?_
  have h := List.all_eq_true.mp h1 c hc
  rcases Bool.eq_false_or_eq_true (isCode c) with hi | hi
  · exact h2 c (List.mem_filter.mpr ⟨hc, hi⟩)
  · simpa [hi] using h
set_option maxRecDepth 65536 in
theorem w_c0 : (Jvm.Cond.code x code maxLocals ret).before args0 about1 = true := code_word (m := ⟨1, 1⟩) (meth := k1m1) (c := k1c1) (by decide +kernel) rfl rfl rfl (by decide +kernel)
set_option maxRecDepth 65536 in
theorem w_c1 : (Jvm.Cond.code ({ cls := "com/example/mods_from_spectra/modsfromspectra/opensearch/FragmentKeys", name := "heaviest", desc := "(I)D" } : Jvm.MethodName) prog_23_method_4_code (1 : Nat) (Option.some Jvm.ClassFile.FieldType.double)).before args0 about1 = true := code_word (m := ⟨2, 2⟩) (meth := k2m2) (c := k2c2) (by decide +kernel) rfl rfl rfl (by decide +kernel)
set_option maxRecDepth 65536 in
theorem w_c2 : (Jvm.Cond.code ({ cls := "com/example/mods_from_spectra/modsfromspectra/opensearch/FragmentKeys", name := "lightest", desc := "(I)D" } : Jvm.MethodName) prog_23_method_3_code (1 : Nat) (Option.some Jvm.ClassFile.FieldType.double)).before args0 about1 = true := code_word (m := ⟨2, 1⟩) (meth := k2m1) (c := k2c1) (by decide +kernel) rfl rfl rfl (by decide +kernel)
set_option maxRecDepth 65536 in
theorem w_c3 : (Jvm.Cond.code ({ cls := "com/example/mods_from_spectra/modsfromspectra/opensearch/FragmentKeys", name := "key", desc := "(D)I" } : Jvm.MethodName) prog_23_method_2_code (2 : Nat) (Option.some Jvm.ClassFile.FieldType.int)).before args0 about1 = true := code_word (m := ⟨2, 0⟩) (meth := k2m0) (c := k2c0) (by decide +kernel) rfl rfl rfl (by decide +kernel)
set_option maxRecDepth 65536 in
theorem w_c4 : (Jvm.Cond.code ({ cls := "java/lang/Math", name := "min", desc := "(DD)D" } : Jvm.MethodName) jdk_29_method_72_code (4 : Nat) (Option.some Jvm.ClassFile.FieldType.double)).before args0 about1 = true := code_word (m := ⟨3, 2⟩) (meth := k3m2) (c := k3c2) (by decide +kernel) rfl rfl rfl (by decide +kernel)
set_option maxRecDepth 65536 in
theorem w_c5 : (Jvm.Cond.code ({ cls := "java/lang/Math", name := "max", desc := "(DD)D" } : Jvm.MethodName) jdk_29_method_68_code (4 : Nat) (Option.some Jvm.ClassFile.FieldType.double)).before args0 about1 = true := code_word (m := ⟨3, 1⟩) (meth := k3m1) (c := k3c1) (by decide +kernel) rfl rfl rfl (by decide +kernel)
def codes1 : List Jvm.Cond := [Jvm.Cond.code x code maxLocals ret, Jvm.Cond.code ({ cls := "com/example/mods_from_spectra/modsfromspectra/opensearch/FragmentKeys", name := "heaviest", desc := "(I)D" } : Jvm.MethodName) prog_23_method_4_code (1 : Nat) (Option.some Jvm.ClassFile.FieldType.double), Jvm.Cond.code ({ cls := "com/example/mods_from_spectra/modsfromspectra/opensearch/FragmentKeys", name := "lightest", desc := "(I)D" } : Jvm.MethodName) prog_23_method_3_code (1 : Nat) (Option.some Jvm.ClassFile.FieldType.double), Jvm.Cond.code ({ cls := "com/example/mods_from_spectra/modsfromspectra/opensearch/FragmentKeys", name := "key", desc := "(D)I" } : Jvm.MethodName) prog_23_method_2_code (2 : Nat) (Option.some Jvm.ClassFile.FieldType.int), Jvm.Cond.code ({ cls := "java/lang/Math", name := "min", desc := "(DD)D" } : Jvm.MethodName) jdk_29_method_72_code (4 : Nat) (Option.some Jvm.ClassFile.FieldType.double), Jvm.Cond.code ({ cls := "java/lang/Math", name := "max", desc := "(DD)D" } : Jvm.MethodName) jdk_29_method_68_code (4 : Nat) (Option.some Jvm.ClassFile.FieldType.double)]
set_option maxRecDepth 65536 in
theorem codes_eq : words1.filter isCode = codes1 := rfl
theorem w_codes : ∀ c ∈ words1.filter isCode, c.before args0 about1 = true := by
  rw [codes_eq]
  intro c hc
  simp only [codes1, List.mem_cons, List.not_mem_nil, or_false] at hc
  rcases hc with rfl | rfl | rfl | rfl | rfl | rfl
  · exact w_c0
  · exact w_c1
  · exact w_c2
  · exact w_c3
  · exact w_c4
  · exact w_c5
set_option maxRecDepth 65536 in
theorem w_t1 : (words1.take 24).all (fun c => isCode c || c.before args0 about1) = true := by decide +kernel
set_option maxRecDepth 65536 in
theorem w_t2 : (words1.drop 24).all (fun c => isCode c || c.before args0 about1) = true := by decide +kernel
theorem w_tables : (allAtoms (Jvm.Cond.code x code maxLocals ret :: tables_1)).before args0 about1 = true := by
  rw [allAtoms_all]
  show words1.all (fun c => c.before args0 about1) = true
  refine all_split ?_ w_codes
  rw [← List.take_append_drop 24 words1, List.all_append, w_t1, w_t2]
  rfl
set_option maxRecDepth 65536 in
theorem w_case : (Jvm.Cond.and given_1 narrow_1).before args0 about1 = true := by decide +kernel
theorem w_applies : (headSpec (Jvm.Cond.code x code maxLocals ret :: tables_1) room_1).applies x e0.platform about1 = true :=
  (Spec.applies_iff w_frames).mpr ⟨w_running, w_runnable, w_alone, w_named, w_hears, w_ripe, w_room, w_tables⟩
theorem atStart : AtStart classFile x code maxLocals ret World_1 tables_1 room_1 Calls_1 rest_1 Pre_1 launch0 p0 e0 about1 theMethod args0 below0 :=
  ⟨lists_1, trivial, launch0.admits_env _ _ _, launch0.least_env, fairChoices_fair.cas, fairChoices_fair.clock, w_frames, w_args, w_heap, w_applies, trivial, trivial, w_case⟩
end start1
theorem witness_1 : WitnessClaimed_1 := ⟨start1.p0, start1.e0, start1.about1, start1.theMethod, start1.args0, start1.below0, start1.atStart⟩
end Jvm.Pilot.@@N@@
