import JvmDerived
import JvmDerived.Pilot.@@N@@Statement
import JvmDerived.Pilot.@@N@@Code
set_option linter.unusedVariables false
set_option linter.unusedSimpArgs false
@@BLOCK:NumsL.lean.txt@@
namespace Jvm.Pilot.@@N@@
open Jvm Jvm.ClassFile Sem Op Lib Jvm.Free Jvm.Stand Jvm.LawKit Jvm.RoadKit Bundle Jvm.Pilot.@@N@@.Jvm.D
section Own
variable {p : Program} {l : Launch} {e : Env} {R : Room} {s : State} {m : MethodId} {args : Array Value} {below : List Frame} {meth : Method} {c : Code} {T : State} {locs : List Loc} {cells slots : Nat}
/-- from A the run ends, and what it leaves is as Q says -/
def own_go (p : Program) (e : Env) (below : List Frame) (s : State) (Q : Option Value → Heap → List Loc → Prop) (C S : Nat) (A : State) : Prop :=
  ∃ t o, Steps p.tables e below A t ∧ t.status = .running ∧ Ended t below o ∧ ∃ v L, o = .returned v ∧ Q v t.heap L ∧ FrameEnd s o t L C S
variable {Q : Option Value → Heap → List Loc → Prop} {C S : Nat} {A B : State}
theorem own_in (h : own_go p e below s Q C S A) : ∃ t o, Steps p.tables e below A t ∧ t.status = .running ∧ Ended t below o ∧ ∃ v L, o = .returned v ∧ Q v t.heap L ∧ FrameEnd s o t L C S := h
theorem own_of (k : ∀ t, Steps p.tables e below B t → Steps p.tables e below A t) (h : own_go p e below s Q C S B) : own_go p e below s Q C S A := by
  obtain ⟨t, o, h1, h2⟩ := h
  exact ⟨t, o, k t h1, h2⟩
theorem own_lt {a b : Nat} (h : a < b) : a < b := h
theorem own_ne {a b : Nat} (h : a ≠ b) : a ≠ b := h
theorem own_use {α : Type} (X : Stand p l e R s m args below meth c T locs cells slots) {h : Heap} {g : α → JFrame} {G : State → Prop} (k : ∀ (r : α) (T' : State), Stand p l e R s m args below meth c T' locs cells slots → T'.heap = h → G (T'.setTop (g r)))
    (b : (∀ (r : α) (T' : State), Stand p l e R s m args below meth c T' locs cells slots → T'.heap = h → G (T'.setTop (g r))) → G A) : G A := b k
theorem own_ret (X : Stand p l e R s m args below meth c T locs cells slots) (hx : p.tables.exec = Jvm.exec) (hlk : meth.locks = false) {pc : Nat} {Ls : Array Slot} {w : Value} {t : FieldType} {i : Instr} {rest : List Value} (hret : meth.sig.returnType = some t) (hn : narrow t w = w)
    (hi : (i = .ireturn ∧ (t = .int ∨ t = .boolean ∨ t = .byte ∨ t = .char ∨ t = .short) ∧ ∃ z, w = .int z) ∨ (i = .lreturn ∧ t = .long ∧ ∃ z, w = .long z) ∨ (i = .dreturn ∧ t = .double ∧ ∃ z, w = .double z) ∨ (i = .freturn ∧ t = .float ∧ ∃ z, w = .float z) ∨ (i = .areturn ∧ t.isReference = true ∧ w.isRef = true))
    (hd : decode c.code pc = .ok (i, 1)) (hc : cells ≤ C) (hs : slots ≤ S) (hQ : Q (some w) T.heap locs) : own_go p e below s Q C S (T.setTop (mkF m pc Ls (w :: rest))) := by
  obtain ⟨fs, hr, hrun, hended, hW, hsame⟩ := X.leave (v := some w) (fun h => by rw [hret] at h; cases h) hlk
  exact ⟨_, _, retOut X hx hret hn hi hd hr, hrun, hended, _, _, rfl, hQ, ⟨_, rfl⟩, hW, hsame.mono hc hs⟩
theorem own_retV (X : Stand p l e R s m args below meth c T locs cells slots) (hx : p.tables.exec = Jvm.exec) (hlk : meth.locks = false) {pc : Nat} {Ls : Array Slot} (hret : meth.sig.returnType = none)
    (hd : decode c.code pc = .ok (.return_, 1)) (hc : cells ≤ C) (hs : slots ≤ S) (hQ : Q none T.heap locs) : own_go p e below s Q C S (T.setTop (mkF m pc Ls [])) := by
  obtain ⟨fs, hr, hrun, hended, hW, hsame⟩ := X.leave (v := none) (fun _ => rfl) hlk
  exact ⟨_, _, X.returnOut hx hret hd hr, hrun, hended, _, _, rfl, hQ, ⟨_, rfl⟩, hW, hsame.mono hc hs⟩
/-- the same where String constants may have been loaded -/
def own_gw (p : Program) (e : Env) (below : List Frame) (s : State) (Q : Option Value → Heap → List Loc → Prop) (C S : Nat) (A : State) : Prop :=
  ∃ t o, Steps p.tables e below A t ∧ t.status = .running ∧ Ended t below o ∧ ∃ v L, o = .returned v ∧ Q v t.heap L ∧ ReturnedEndW s o t L C S
theorem own_inw (h : own_gw p e below s Q C S A) : ∃ t o, Steps p.tables e below A t ∧ t.status = .running ∧ Ended t below o ∧ ∃ v L, o = .returned v ∧ Q v t.heap L ∧ ReturnedEndW s o t L C S := h
theorem own_ofw (k : ∀ t, Steps p.tables e below B t → Steps p.tables e below A t) (h : own_gw p e below s Q C S B) : own_gw p e below s Q C S A := by
  obtain ⟨t, o, h1, h2⟩ := h
  exact ⟨t, o, k t h1, h2⟩
theorem own_retw {vm0 : Vm} {k0 : Nat} (X : Stand p l e R (s.setVm vm0) m args below meth c T locs cells slots) (hx : p.tables.exec = Jvm.exec) (hlk : meth.locks = false) (hS : s.Since vm0 k0) (hk : k0 ≤ T.heap.size) {pc : Nat} {Ls : Array Slot} {w : Value} {t : FieldType} {i : Instr} {rest : List Value} (hret : meth.sig.returnType = some t) (hn : narrow t w = w)
    (hi : (i = .ireturn ∧ (t = .int ∨ t = .boolean ∨ t = .byte ∨ t = .char ∨ t = .short) ∧ ∃ z, w = .int z) ∨ (i = .lreturn ∧ t = .long ∧ ∃ z, w = .long z) ∨ (i = .dreturn ∧ t = .double ∧ ∃ z, w = .double z) ∨ (i = .freturn ∧ t = .float ∧ ∃ z, w = .float z) ∨ (i = .areturn ∧ t.isReference = true ∧ w.isRef = true))
    (hd : decode c.code pc = .ok (i, 1)) (hc : cells ≤ C) (hs : slots ≤ S) (hQ : Q (some w) T.heap locs) : own_gw p e below s Q C S (T.setTop (mkF m pc Ls (w :: rest))) := by
  obtain ⟨fs, hr, hrun, hended, h1, h2, h3, h4⟩ := X.leaveW hS hk (v := some w) (fun h => by rw [hret] at h; cases h) hlk
  exact ⟨_, _, retOut X hx hret hn hi hd hr, hrun, hended, _, _, rfl, hQ, h1, h2, h3, h4.mono hc hs⟩
theorem own_retVw {vm0 : Vm} {k0 : Nat} (X : Stand p l e R (s.setVm vm0) m args below meth c T locs cells slots) (hx : p.tables.exec = Jvm.exec) (hlk : meth.locks = false) (hS : s.Since vm0 k0) (hk : k0 ≤ T.heap.size) {pc : Nat} {Ls : Array Slot} (hret : meth.sig.returnType = none)
    (hd : decode c.code pc = .ok (.return_, 1)) (hc : cells ≤ C) (hs : slots ≤ S) (hQ : Q none T.heap locs) : own_gw p e below s Q C S (T.setTop (mkF m pc Ls [])) := by
  obtain ⟨fs, hr, hrun, hended, h1, h2, h3, h4⟩ := X.leaveW hS hk (v := none) (fun _ => rfl) hlk
  exact ⟨_, _, X.returnOut hx hret hd hr, hrun, hended, _, _, rfl, hQ, h1, h2, h3, h4.mono hc hs⟩
/-- the same, with what the JVM holds for the constants of EL -/
def own_gc (p : Program) (e : Env) (below : List Frame) (s : State) (Z : State) (EL : List (String × Nat)) (Q : Option Value → Heap → List Loc → Prop) (C S : Nat) (A : State) : Prop :=
  ∃ t o, Steps p.tables e below A t ∧ t.status = .running ∧ Ended t below o ∧ ∃ v L, o = .returned v ∧ Q v t.heap L ∧ CHr Z EL s.vm s.heap t.vm t.heap ∧ ReturnedEndW s o t L C S
variable {Z : State} {EL : List (String × Nat)} {a0 : Array Value}
theorem own_inc (h : own_gc p e below s Z EL Q C S A) : ∃ t o, Steps p.tables e below A t ∧ t.status = .running ∧ Ended t below o ∧ ∃ v L, o = .returned v ∧ Q v t.heap L ∧ CHr Z EL s.vm s.heap t.vm t.heap ∧ ReturnedEndW s o t L C S := h
theorem own_ofc (k : ∀ t, Steps p.tables e below B t → Steps p.tables e below A t) (h : own_gc p e below s Z EL Q C S B) : own_gc p e below s Z EL Q C S A := by
  obtain ⟨t, o, h1, h2⟩ := h
  exact ⟨t, o, k t h1, h2⟩
theorem own_retc {vm0 : Vm} {k0 : Nat} (X : Stand p l e R (s.setVm vm0) m args below meth c T locs cells slots) (hx : p.tables.exec = Jvm.exec) (hlk : meth.locks = false) (hS : s.Since vm0 k0) (hk : k0 ≤ T.heap.size) (hZ : Z.Warmed39 vm0) (hEL : EW Z a0 EL) (H : CHr Z EL s.vm s.heap vm0 T.heap) {pc : Nat} {Ls : Array Slot} {w : Value} {t : FieldType} {i : Instr} {rest : List Value} (hret : meth.sig.returnType = some t) (hn : narrow t w = w)
    (hi : (i = .ireturn ∧ (t = .int ∨ t = .boolean ∨ t = .byte ∨ t = .char ∨ t = .short) ∧ ∃ z, w = .int z) ∨ (i = .lreturn ∧ t = .long ∧ ∃ z, w = .long z) ∨ (i = .dreturn ∧ t = .double ∧ ∃ z, w = .double z) ∨ (i = .freturn ∧ t = .float ∧ ∃ z, w = .float z) ∨ (i = .areturn ∧ t.isReference = true ∧ w.isRef = true))
    (hd : decode c.code pc = .ok (i, 1)) (hc : cells ≤ C) (hs : slots ≤ S) (hQ : Q (some w) T.heap locs) : own_gc p e below s Z EL Q C S (T.setTop (mkF m pc Ls (w :: rest))) := by
  obtain ⟨fs, hr, hrun, hended, h1, h2, h3, h4⟩ := X.leaveW hS hk (v := some w) (fun h => by rw [hret] at h; cases h) hlk
  have q : CHr Z EL s.vm s.heap T.vm T.heap := H.trans (CHv.at X hZ hEL H.1)
  exact ⟨_, _, retOut X hx hret hn hi hd hr, hrun, hended, _, _, rfl, hQ, q, h1, h2, h3, h4.mono hc hs⟩
theorem own_retVc {vm0 : Vm} {k0 : Nat} (X : Stand p l e R (s.setVm vm0) m args below meth c T locs cells slots) (hx : p.tables.exec = Jvm.exec) (hlk : meth.locks = false) (hS : s.Since vm0 k0) (hk : k0 ≤ T.heap.size) (hZ : Z.Warmed39 vm0) (hEL : EW Z a0 EL) (H : CHr Z EL s.vm s.heap vm0 T.heap) {pc : Nat} {Ls : Array Slot} (hret : meth.sig.returnType = none)
    (hd : decode c.code pc = .ok (.return_, 1)) (hc : cells ≤ C) (hs : slots ≤ S) (hQ : Q none T.heap locs) : own_gc p e below s Z EL Q C S (T.setTop (mkF m pc Ls [])) := by
  obtain ⟨fs, hr, hrun, hended, h1, h2, h3, h4⟩ := X.leaveW hS hk (v := none) (fun _ => rfl) hlk
  have q : CHr Z EL s.vm s.heap T.vm T.heap := H.trans (CHv.at X hZ hEL H.1)
  exact ⟨_, _, X.returnOut hx hret hd hr, hrun, hended, _, _, rfl, hQ, q, h1, h2, h3, h4.mono hc hs⟩
open Jvm.Free.SB Jvm.Free.SBG in
/-- a String that has no array yet is no constant's -/
theorem own_safe_null {vm : Vm} {h : Heap} {x : Addr} (hal : Z.vm.Alike vm) (E : Exa Z h x "java/lang/String") (F : Fld Z h x "java/lang/String" "value" "[B" .null) : Safe Z EL vm h x := fun B => by
  obtain ⟨p, -, u, a, -, q, -, F', rfl | rfl⟩ := B
  · obtain ⟨cS, ⟨⟨s1, s2, s3, ⟨cv, kv, iv, s4, s4'⟩, s5, s6, s7, s8, -⟩, -, -⟩, -⟩ := F'
    obtain ⟨cell, cf, k, i, f, h1, h2, h3, -, -, -, h7⟩ := F
    cases (show h[q.sa]? = some q.sC from s1).symm.trans h1
    obtain ⟨kv', z4⟩ := ff_back (U := Wst Z vm h) hal s4
    have e4 := z4.symm.trans h2
    simp only [Option.some.injEq, Prod.mk.injEq] at e4
    rw [e4.2.2.2] at s8
    have := s8.symm.trans h7
    simp at this
  · obtain ⟨cell, k, e1, e2, e3, -, -⟩ := E
    cases (show h[q.sd]? = some q.SA from F'.hd).symm.trans e1
    obtain ⟨cS, -, -, f, -⟩ := F'
    have f' : vm.findClass "[B" = some q.SA.cls := f
    rw [hal.findClass] at f'
    obtain ⟨k1, q1, q2⟩ := Vm.findClass_spec f'
    obtain ⟨k2, q3, q4⟩ := Vm.findClass_spec e2
    cases q1.symm.trans q3
    have := q2.symm.trans q4
    simp at this
theorem own_ex {t : Term} {K : String} (h : (Jvm.Cond.exactly t K).value args s none s [] = some true) : ∃ a, t.eval args s none [] s = some (.ref a) ∧ Exa s s.heap a K := by
  obtain ⟨a, ha⟩ := exa_v h
  exact ⟨a, ha, Exa.start ha h⟩
theorem own_fi {t : Term} {K n d : String} {a : Addr} {k : Int32} (ht : t.eval args s none [] s = some (.ref a)) (h : (Jvm.Cond.eq (Term.field t K n d) (Term.int k)).value args s none s [] = some true) : Fld s s.heap a K n d (.int k) := by
  obtain ⟨x, y, h1, h2, h3, h4⟩ := cmp_v (Or.inl h)
  have e2 := Option.some.inj ((Term.int_eval k).symm.trans h2)
  subst e2
  rw [fld_at ht] at h1
  obtain ⟨z, rfl⟩ := h4
  have hz : s.fieldOf? a K n d = some (.int z) := h1
  have : z = k := by
    have h5 : (Term.field t K n d).eval args s none [] s = some (.int z) := (fld_at ht).trans hz
    simpa [Cond.value, h5, Term.int_eval] using h
  subst this
  exact Fld.start hz
end Own
theorem own_in16 {t : Int64} (h1 : ¬ t < 16) (h2 : ¬ 90 < t) : (t - 16).toInt32.toInt = t.toInt - 16 := by
  rw [Int64.lt_iff_toInt_lt] at h1 h2
  have a : (16 : Int64).toInt = 16 := rfl
  have b : (90 : Int64).toInt = 90 := rfl
  have e : (t - 16).toInt = t.toInt - 16 := by rw [Jvm.Kit.i64_sub] <;> omega
  rw [Jvm.Kit.i32_of_i64] <;> omega
theorem own_place {t : Int64} (h1 : ¬ t < 16) (h2 : ¬ 90 < t) : ((t - 16).toInt32).toNatClampNeg = (t.toInt - 16).toNat := by
  show ((t - 16).toInt32).toInt.toNat = _
  rw [own_in16 h1 h2]
theorem own_inb {t : Int64} (h1 : ¬ t < 16) (h2 : ¬ 90 < t) {c : Cell} (S : c.slots.size = (75 : Int32).toNatClampNeg) : ¬ ((t - 16).toInt32 < 0 ∨ c.slots.size ≤ ((t - 16).toInt32).toNatClampNeg) := by
  refine inb_of S ⟨?_, ?_⟩ <;> rw [Int32.lt_iff_toInt_lt, own_in16 h1 h2] <;> rw [Int64.lt_iff_toInt_lt] at h1 h2
  · have a : (16 : Int64).toInt = 16 := rfl
    show ¬ t.toInt - 16 < 0
    omega
  · have b : (90 : Int64).toInt = 90 := rfl
    show t.toInt - 16 < 75
    omega
theorem own_lt75 {t : Int64} (h1 : ¬ t < 16) (h2 : ¬ 90 < t) : (t.toInt - 16).toNat < 75 := by
  rw [Int64.lt_iff_toInt_lt] at h1 h2
  have b : (90 : Int64).toInt = 90 := rfl
  omega
theorem own_far {t u : Int64} (h1 : ¬ t < 16) (k1 : ¬ u < 16) (h : ¬ t = u) : (t.toInt - 16).toNat ≠ (u.toInt - 16).toNat := by
  rw [Int64.lt_iff_toInt_lt] at h1 k1
  rw [← Int64.toInt_inj] at h
  have a : (16 : Int64).toInt = 16 := rfl
  omega
theorem own_win (t : Int64) : (t < 16 ∨ 90 < t) ∨ (¬ t < 16 ∧ ¬ 90 < t) := by
  by_cases h1 : t < 16
  · exact Or.inl (Or.inl h1)
  · by_cases h2 : 90 < t
    · exact Or.inl (Or.inr h2)
    · exact Or.inr ⟨h1, h2⟩
theorem own_setAt (vs : List Value) (i : Nat) (v d : Value) (h : i < vs.length) : (vs.set i v).getD i d = v := by simp [h]
theorem own_setNe (vs : List Value) (i j : Nat) (v d : Value) (h : i ≠ j) : (vs.set i v).getD j d = vs.getD j d := by simp [List.getElem?_set_ne h]
theorem own_rep (j : Nat) : (List.replicate 75 Value.null).getD j .null = .null := by
  simp only [List.getD_eq_getElem?_getD, List.getElem?_replicate]
  split <;> rfl
theorem ef_rm2 (m : MethodId) (x0 : Nat) : entryFrame m #[(.ref x0)] 1 = mkF m 0 #[.val (.ref x0)] [] := by first | (simp [entryFrame, mkF, argsToLocals, Value.category]; done) | rfl
theorem pn_0 : plainName "java/lang/Record" = true := by first | (simp [plainName, overriddenIn]; done) | decide +kernel
theorem d2_0 : decode jdk_30_method_1_code 0 = .ok (.aload_n 0, 1) := by decide +kernel
theorem d2_1 : decode jdk_30_method_1_code 1 = .ok (.invokespecial 1, 3) := by decide +kernel
theorem d2_4 : decode jdk_30_method_1_code 4 = .ok (.return_, 1) := by decide +kernel
def Q_rm2 (Z : State) (a : Nat) (h0 : Heap) (n0 : Nat) (v : Option Value) (h : Heap) (L : List Loc) : Prop := v = none ∧ Fr n0 L ∧ h = h0
set_option maxRecDepth 65536 in
set_option maxHeartbeats 40000000 in
theorem rm2 (l : Launch) (Z : State) (a0 : Array Value) (hw : ∀ d ∈ tables_1, d.before a0 Z = true) (ws : List Jvm.Cond) (a : Nat) (h0 : Heap) (n0 : Nat) (XO0 : Old Z n0 h0) :
    MetFree l (⟨"java/lang/Record", "<init>", "()V"⟩ : MethodName) (head1 (Jvm.Cond.code (⟨"java/lang/Record", "<init>", "()V"⟩ : MethodName) jdk_30_method_1_code 1 none :: ws) ({ frames := 1, cells := 0, slots := 0, locals := 12 } : Room)) (fun zz_ U => zz_ = #[(.ref a)] ∧ Z.Warmed39 U.vm ∧ U.heap = h0) (fun _ _ _ _ _ => True) (fun _ U o U' => ∃ v L, o = .returned v ∧ Q_rm2 Z a h0 n0 v U'.heap L ∧ FrameEnd U o U' L ({ frames := 1, cells := 0, slots := 0, locals := 12 } : Room).cells ({ frames := 1, cells := 0, slots := 0, locals := 12 } : Room).slots) := by
  refine MetFree.of_bodySF (plainFor_of_name pn_0) hisR ?_
  intro p e s m args below meth c s₁ Bd hml0 hP hK
  obtain ⟨rfl, hZ, hh⟩ := hP
  have hx := Bd.exec
  have hby := Bd.bytes
  have hlk := Bd.notSynchronized
  have hW : ∀ (i : Nat) (d : Jvm.Cond), tables_1[i]? = some d → d.before a0 Z = true := fun i d h => hw d (List.mem_of_getElem? h)
  have hml : c.maxLocals = 1 := hml0
  have hown : s.vm.findClass "java/lang/Record" = some m.cls := findClass_of_methodNamed Bd.named
  have hnm := (name_of_methodNamed Bd.named Bd.method).1
  have X0 : Stand p l e ({ frames := 1, cells := 0, slots := 0, locals := 12 } : Room) s m #[(.ref a)] below meth c s₁ [] 0 0 := Stand.of_body Bd
  have e0 : s₁.heap = h0 := by rw [← hh, Bd.state]; rfl
  have N0 := Fr.nil n0
  refine own_in ?_
  refine own_of (fun tt_ kk_ => castTop (ef_rm2 m a) kk_) ?_
  show own_go p e below s _ _ _ (s₁.setTop (mkF m 0 #[.val (.ref a)] []))
  refine own_of (fun tt_ => XS.aloadN X0.here hx rfl (hb hby d2_0) rfl rfl) ?_
  show own_go p e below s _ _ _ (s₁.setTop (mkF m 1 #[.val (.ref a)] [(.ref a)]))
  obtain ⟨T1, X1, e1, st1⟩ := initO X0 hx hZ hown (hW 18 _ rfl) (hW 19 _ rfl) (hW 20 _ rfl) e0 (g := (mkF m 1 #[.val (.ref a)] [(.ref a)])) rfl (by rw [hml]; rfl) rfl (hb hby d2_1) (by decide) (W := 0) (by show 2 * 0 + _ ≤ _; exact Nat.le_of_eq rfl) (by decide)
  refine own_of st1 ?_
  show own_go p e below s _ _ _ (T1.setTop (mkF m 4 #[.val (.ref a)] []))
  refine own_retV X1 hx hlk Bd.returns (hb hby d2_4) (by decide) (by decide) ?_
  rw [e1]
  exact ⟨rfl, N0, rfl⟩
theorem ef_rm4 (m : MethodId) (x0 : Nat) (x1 : Nat) : entryFrame m #[(.ref x0), (.ref x1)] 2 = mkF m 0 #[.val (.ref x0), .val (.ref x1)] [] := by first | (simp [entryFrame, mkF, argsToLocals, Value.category]; done) | rfl
theorem pn_1 : plainName "java/util/Objects" = true := by first | (simp [plainName, overriddenIn]; done) | decide +kernel
theorem d4_0 : decode jdk_31_method_11_code 0 = .ok (.aload_n 0, 1) := by decide +kernel
theorem d4_1 : decode jdk_31_method_11_code 1 = .ok (.ifnonnull 12, 3) := by decide +kernel
theorem d4_13 : decode jdk_31_method_11_code 13 = .ok (.aload_n 0, 1) := by decide +kernel
theorem d4_14 : decode jdk_31_method_11_code 14 = .ok (.areturn, 1) := by decide +kernel
def Q_rm4 (Z : State) (a : Nat) (w : Nat) (h0 : Heap) (n0 : Nat) (v : Option Value) (h : Heap) (L : List Loc) : Prop := v = some (.ref a) ∧ Fr n0 L ∧ h = h0
set_option maxRecDepth 65536 in
set_option maxHeartbeats 40000000 in
theorem rm4 (l : Launch) (Z : State) (a0 : Array Value) (hw : ∀ d ∈ tables_1, d.before a0 Z = true) (ws : List Jvm.Cond) (a : Nat) (w : Nat) (h0 : Heap) (n0 : Nat) (XO0 : Old Z n0 h0) :
    MetFree l (⟨"java/util/Objects", "requireNonNull", "(Ljava/lang/Object;Ljava/lang/String;)Ljava/lang/Object;"⟩ : MethodName) (head1 (Jvm.Cond.code (⟨"java/util/Objects", "requireNonNull", "(Ljava/lang/Object;Ljava/lang/String;)Ljava/lang/Object;"⟩ : MethodName) jdk_31_method_11_code 2 (some (.object "java/lang/Object")) :: ws) ({ frames := 0, cells := 0, slots := 0, locals := 0 } : Room)) (fun zz_ U => zz_ = #[(.ref a), (.ref w)] ∧ Z.Warmed39 U.vm ∧ U.heap = h0) (fun _ _ _ _ _ => True) (fun _ U o U' => ∃ v L, o = .returned v ∧ Q_rm4 Z a w h0 n0 v U'.heap L ∧ FrameEnd U o U' L ({ frames := 0, cells := 0, slots := 0, locals := 0 } : Room).cells ({ frames := 0, cells := 0, slots := 0, locals := 0 } : Room).slots) := by
  refine MetFree.of_bodySF (plainFor_of_name pn_1) hisR ?_
  intro p e s m args below meth c s₁ Bd hml0 hP hK
  obtain ⟨rfl, hZ, hh⟩ := hP
  have hx := Bd.exec
  have hby := Bd.bytes
  have hlk := Bd.notSynchronized
  have hW : ∀ (i : Nat) (d : Jvm.Cond), tables_1[i]? = some d → d.before a0 Z = true := fun i d h => hw d (List.mem_of_getElem? h)
  have hml : c.maxLocals = 2 := hml0
  have hown : s.vm.findClass "java/util/Objects" = some m.cls := findClass_of_methodNamed Bd.named
  have hnm := (name_of_methodNamed Bd.named Bd.method).1
  have X0 : Stand p l e ({ frames := 0, cells := 0, slots := 0, locals := 0 } : Room) s m #[(.ref a), (.ref w)] below meth c s₁ [] 0 0 := Stand.of_body Bd
  have e0 : s₁.heap = h0 := by rw [← hh, Bd.state]; rfl
  have N0 := Fr.nil n0
  refine own_in ?_
  refine own_of (fun tt_ kk_ => castTop (ef_rm4 m a w) kk_) ?_
  show own_go p e below s _ _ _ (s₁.setTop (mkF m 0 #[.val (.ref a), .val (.ref w)] []))
  refine own_of (fun tt_ => XS.aloadN X0.here hx rfl (hb hby d4_0) rfl rfl) ?_
  show own_go p e below s _ _ _ (s₁.setTop (mkF m 1 #[.val (.ref a), .val (.ref w)] [(.ref a)]))
  refine own_of (fun tt_ => XS.ifnonnullYes X0.here hx rfl (pc0 := 1) (pc' := 13) rfl (hb hby d4_1) rfl (by decide) (by decide)) ?_
  show own_go p e below s _ _ _ (s₁.setTop (mkF m 13 #[.val (.ref a), .val (.ref w)] []))
  refine own_of (fun tt_ => XS.aloadN X0.here hx rfl (hb hby d4_13) rfl rfl) ?_
  show own_go p e below s _ _ _ (s₁.setTop (mkF m 14 #[.val (.ref a), .val (.ref w)] [(.ref a)]))
  refine own_ret X0 hx hlk Bd.returns rfl (Or.inr (Or.inr (Or.inr (Or.inr ⟨rfl, rfl, rfl⟩)))) (hb hby d4_14) (by decide) (by decide) ?_
  rw [e0]
  exact ⟨rfl, N0, rfl⟩
theorem ef_rm1 (m : MethodId) (x0 : Nat) (x1 : Nat) (x2 : Int64) (x3 : UInt64) (x4 : UInt64) (x5 : UInt64) (x6 : UInt64) (x7 : UInt64) : entryFrame m #[(.ref x0), (.ref x1), (.long x2), (.double x3), (.double x4), (.double x5), (.double x6), (.double x7)] 14 = mkF m 0 #[.val (.ref x0), .val (.ref x1), .val (.long x2), .second, .val (.double x3), .second, .val (.double x4), .second, .val (.double x5), .second, .val (.double x6), .second, .val (.double x7), .second] [] := by first | (simp [entryFrame, mkF, argsToLocals, Value.category]; done) | rfl
theorem pn_2 : plainName "com/example/plumeline/plumeline/AsmSample" = true := by first | (simp [plainName, overriddenIn]; done) | decide +kernel
theorem d1_0 : decode prog_11_method_1_code 0 = .ok (.aload_n 0, 1) := by decide +kernel
theorem d1_1 : decode prog_11_method_1_code 1 = .ok (.invokespecial 1, 3) := by decide +kernel
theorem pd_0 : parseMethodDescriptor "()V" = some ⟨[], none⟩ := by decide +kernel
theorem d1_4 : decode prog_11_method_1_code 4 = .ok (.aload_n 1, 1) := by decide +kernel
theorem d1_5 : decode prog_11_method_1_code 5 = .ok (.ldc 7, 2) := by decide +kernel
theorem d1_7 : decode prog_11_method_1_code 7 = .ok (.invokestatic 9, 3) := by decide +kernel
theorem pd_1 : parseMethodDescriptor "(Ljava/lang/Object;Ljava/lang/String;)Ljava/lang/Object;" = some ⟨[(.object "java/lang/Object"), (.object "java/lang/String")], some (.object "java/lang/Object")⟩ := by decide +kernel
theorem d1_10 : decode prog_11_method_1_code 10 = .ok (.pop, 1) := by decide +kernel
theorem d1_11 : decode prog_11_method_1_code 11 = .ok (.aload_n 0, 1) := by decide +kernel
theorem d1_12 : decode prog_11_method_1_code 12 = .ok (.aload_n 1, 1) := by decide +kernel
theorem d1_13 : decode prog_11_method_1_code 13 = .ok (.putfield 15, 3) := by decide +kernel
theorem pf_0 : parseFieldDescriptor "Lcom/example/plumeline/plumeline/LoadedMode$Mode;" = some (.object "com/example/plumeline/plumeline/LoadedMode$Mode") := by decide +kernel
theorem d1_16 : decode prog_11_method_1_code 16 = .ok (.aload_n 0, 1) := by decide +kernel
theorem d1_17 : decode prog_11_method_1_code 17 = .ok (.lload_n 2, 1) := by decide +kernel
theorem d1_18 : decode prog_11_method_1_code 18 = .ok (.putfield 20, 3) := by decide +kernel
theorem pf_1 : parseFieldDescriptor "J" = some .long := by decide +kernel
theorem d1_21 : decode prog_11_method_1_code 21 = .ok (.aload_n 0, 1) := by decide +kernel
theorem d1_22 : decode prog_11_method_1_code 22 = .ok (.dload 4, 2) := by decide +kernel
theorem d1_24 : decode prog_11_method_1_code 24 = .ok (.putfield 24, 3) := by decide +kernel
theorem pf_2 : parseFieldDescriptor "D" = some .double := by decide +kernel
theorem d1_27 : decode prog_11_method_1_code 27 = .ok (.aload_n 0, 1) := by decide +kernel
theorem d1_28 : decode prog_11_method_1_code 28 = .ok (.dload 6, 2) := by decide +kernel
theorem d1_30 : decode prog_11_method_1_code 30 = .ok (.putfield 28, 3) := by decide +kernel
theorem d1_33 : decode prog_11_method_1_code 33 = .ok (.aload_n 0, 1) := by decide +kernel
theorem d1_34 : decode prog_11_method_1_code 34 = .ok (.dload 8, 2) := by decide +kernel
theorem d1_36 : decode prog_11_method_1_code 36 = .ok (.putfield 31, 3) := by decide +kernel
theorem d1_39 : decode prog_11_method_1_code 39 = .ok (.aload_n 0, 1) := by decide +kernel
theorem d1_40 : decode prog_11_method_1_code 40 = .ok (.dload 10, 2) := by decide +kernel
theorem d1_42 : decode prog_11_method_1_code 42 = .ok (.putfield 34, 3) := by decide +kernel
theorem d1_45 : decode prog_11_method_1_code 45 = .ok (.aload_n 0, 1) := by decide +kernel
theorem d1_46 : decode prog_11_method_1_code 46 = .ok (.dload 12, 2) := by decide +kernel
theorem d1_48 : decode prog_11_method_1_code 48 = .ok (.putfield 37, 3) := by decide +kernel
theorem d1_51 : decode prog_11_method_1_code 51 = .ok (.return_, 1) := by decide +kernel
def Q_rm1 (Z : State) (a : Nat) (md : Nat) (t : Int64) (d0 : UInt64) (d1 : UInt64) (d2 : UInt64) (d3 : UInt64) (d4 : UInt64) (h0 : Heap) (n0 : Nat) (v : Option Value) (h : Heap) (L : List Loc) : Prop := v = none ∧ Fr n0 L ∧ Keep h0 h [a] ∧ Fld Z h a "com/example/plumeline/plumeline/AsmSample" "tS" "J" (.long t)
set_option maxRecDepth 65536 in
set_option maxHeartbeats 40000000 in
theorem rm1 (l : Launch) (Z : State) (a0 : Array Value) (hw : ∀ d ∈ tables_1, d.before a0 Z = true) (ws : List Jvm.Cond) (a : Nat) (md : Nat) (t : Int64) (d0 : UInt64) (d1 : UInt64) (d2 : UInt64) (d3 : UInt64) (d4 : UInt64) (h0 : Heap) (n0 : Nat) (XO0 : Old Z n0 h0) (g_a : n0 ≤ a) (E_a : Exa Z h0 a "com/example/plumeline/plumeline/AsmSample") (F_mode : Fld Z h0 a "com/example/plumeline/plumeline/AsmSample" "mode" "Lcom/example/plumeline/plumeline/LoadedMode$Mode;" .null) (F_tS : Fld Z h0 a "com/example/plumeline/plumeline/AsmSample" "tS" "J" (.long (0 : Int64))) (F_speedKmh : Fld Z h0 a "com/example/plumeline/plumeline/AsmSample" "speedKmh" "D" (.double (0 : UInt64))) (F_coPct : Fld Z h0 a "com/example/plumeline/plumeline/AsmSample" "coPct" "D" (.double (0 : UInt64))) (F_co2Pct : Fld Z h0 a "com/example/plumeline/plumeline/AsmSample" "co2Pct" "D" (.double (0 : UInt64))) (F_hcPpm : Fld Z h0 a "com/example/plumeline/plumeline/AsmSample" "hcPpm" "D" (.double (0 : UInt64))) (F_noPpm : Fld Z h0 a "com/example/plumeline/plumeline/AsmSample" "noPpm" "D" (.double (0 : UInt64))) :
    MetFree l (⟨"com/example/plumeline/plumeline/AsmSample", "<init>", "(Lcom/example/plumeline/plumeline/LoadedMode$Mode;JDDDDD)V"⟩ : MethodName) (head1 (Jvm.Cond.code (⟨"com/example/plumeline/plumeline/AsmSample", "<init>", "(Lcom/example/plumeline/plumeline/LoadedMode$Mode;JDDDDD)V"⟩ : MethodName) prog_11_method_1_code 14 none :: ws) ({ frames := 2, cells := 2, slots := 20, locals := 24 } : Room)) (fun zz_ U => zz_ = #[(.ref a), (.ref md), (.long t), (.double d0), (.double d1), (.double d2), (.double d3), (.double d4)] ∧ Z.Warmed39 U.vm ∧ U.heap = h0) (fun _ _ _ _ _ => True) (fun _ U o U' => ∃ v L, o = .returned v ∧ Q_rm1 Z a md t d0 d1 d2 d3 d4 h0 n0 v U'.heap L ∧ ReturnedEndW U o U' L ({ frames := 2, cells := 2, slots := 20, locals := 24 } : Room).cells ({ frames := 2, cells := 2, slots := 20, locals := 24 } : Room).slots) := by
  refine MetFree.of_bodySF (plainFor_of_name pn_2) hisR ?_
  intro p e s m args below meth c s₁ Bd hml0 hP hK
  obtain ⟨rfl, hZ, hh⟩ := hP
  have hx := Bd.exec
  have hby := Bd.bytes
  have hlk := Bd.notSynchronized
  have hW : ∀ (i : Nat) (d : Jvm.Cond), tables_1[i]? = some d → d.before a0 Z = true := fun i d h => hw d (List.mem_of_getElem? h)
  have hml : c.maxLocals = 14 := hml0
  have hown : s.vm.findClass "com/example/plumeline/plumeline/AsmSample" = some m.cls := findClass_of_methodNamed Bd.named
  have hnm := (name_of_methodNamed Bd.named Bd.method).1
  have X0 : Stand p l e ({ frames := 2, cells := 2, slots := 20, locals := 24 } : Room) (s.setVm s.vm) m #[(.ref a), (.ref md), (.long t), (.double d0), (.double d1), (.double d2), (.double d3), (.double d4)] below meth c s₁ [] 0 0 := Stand.of_body Bd
  have e0 : s₁.heap = h0 := by rw [← hh, Bd.state]; rfl
  have N0 := Fr.nil n0
  have hS0 : s.Since s.vm 0 := (State.WarmedH.refl s).since 0
  refine own_inw ?_
  refine own_ofw (fun tt_ kk_ => castTop (ef_rm1 m a md t d0 d1 d2 d3 d4) kk_) ?_
  show own_gw p e below s _ _ _ (s₁.setTop (mkF m 0 #[.val (.ref a), .val (.ref md), .val (.long t), .second, .val (.double d0), .second, .val (.double d1), .second, .val (.double d2), .second, .val (.double d3), .second, .val (.double d4), .second] []))
  refine own_ofw (fun tt_ => XS.aloadN X0.here hx rfl (hb hby d1_0) rfl rfl) ?_
  show own_gw p e below s _ _ _ (s₁.setTop (mkF m 1 #[.val (.ref a), .val (.ref md), .val (.long t), .second, .val (.double d0), .second, .val (.double d1), .second, .val (.double d2), .second, .val (.double d3), .second, .val (.double d4), .second] [(.ref a)]))
  have wS : ∀ a ∈ Bundle.stringAtoms, a.before a0 Z = true := fun d hd => hw d ((by decide +kernel : ∀ d ∈ Bundle.stringAtoms, d ∈ tables_1) d hd)
  have K0 : Keep h0 h0 [a] := Keep.refl h0 [a]
  have lt_a := own_lt E_a.lt
  obtain ⟨_, _, ⟨T1, L1, k1, n1⟩, -, X1, ⟨Lc1, hQ1, l1, y1, z1⟩, st1⟩ := X0.specialBack hx (y := (⟨"java/lang/Record", "<init>", "()V"⟩ : MethodName)) rfl hown (mvT hZ (hW 13 _ rfl)) (mvT hZ (hW 14 _ rfl)) (mvT hZ (hW 17 _ rfl)) (by decide) (backOf (W := 0) (rm2 l Z a0 hw [] a h0 n0 XO0) hZ (hW 17 _ rfl) (hW 16 _ rfl) (by decide) (by decide)) (g := (mkF m 1 #[.val (.ref a), .val (.ref md), .val (.long t), .second, .val (.double d0), .second, .val (.double d1), .second, .val (.double d2), .second, .val (.double d3), .second, .val (.double d4), .second] [(.ref a)])) rfl (by rw [hml]; rfl) (Steps.refl _) (a := a) (argsL := []) (rest := []) (lenOf pd_0 rfl) rfl (by show 2 * 0 + _ ≤ _; exact Nat.le_of_eq rfl) (hb hby d1_1) (fun _ _ => ⟨rfl, e0, (by decide : 0 + 0 ≤ _), (by decide : 0 + 0 ≤ _)⟩)
  dsimp only [Pt.U, Pt.locs, Pt.cells, Pt.slots] at X1 l1 y1 z1 st1 hQ1
  subst l1 y1 z1
  obtain ⟨rfl, Nq1, eh1⟩ := hQ1
  have N1 := Fr.app N0 Nq1
  refine own_ofw (fun tt_ kk_ => st1.trans kk_) ?_
  show own_gw p e below s _ _ _ (T1.setTop (mkF m 4 #[.val (.ref a), .val (.ref md), .val (.long t), .second, .val (.double d0), .second, .val (.double d1), .second, .val (.double d2), .second, .val (.double d3), .second, .val (.double d4), .second] []))
  refine own_ofw (fun tt_ => XS.aloadN X1.here hx rfl (hb hby d1_4) rfl rfl) ?_
  show own_gw p e below s _ _ _ (T1.setTop (mkF m 5 #[.val (.ref a), .val (.ref md), .val (.long t), .second, .val (.double d0), .second, .val (.double d1), .second, .val (.double d2), .second, .val (.double d3), .second, .val (.double d4), .second] [(.ref md)]))
  obtain ⟨b2, T2, h2, k2, X2, e2, E2, hS2, hk2, hZ2, hown2, st2⟩ := ldcS X1 hx hZ hown (hW 21 _ rfl) wS eh1 hS0 (by omega : 0 ≤ h0.size) (g := (mkF m 5 #[.val (.ref a), .val (.ref md), .val (.long t), .second, .val (.double d0), .second, .val (.double d1), .second, .val (.double d2), .second, .val (.double d3), .second, .val (.double d4), .second] [(.ref md)])) rfl (hb hby d1_5) (n := 16) (by decide +kernel) (by decide) (by decide) (by decide)
  refine own_ofw st2 ?_
  have sz2 : h0.size ≤ h2.size := E2.1
  have O2 : Old Z n0 h2 := XO0.ext E2
  have K2 : Keep h0 h2 [a] := K0.ext E2
  show own_gw p e below s _ _ _ (T2.setTop (mkF m 7 #[.val (.ref a), .val (.ref md), .val (.long t), .second, .val (.double d0), .second, .val (.double d1), .second, .val (.double d2), .second, .val (.double d3), .second, .val (.double d4), .second] [(.ref b2), (.ref md)]))
  obtain ⟨_, _, ⟨T3, L3, k3, n3⟩, -, X3, ⟨Lc3, hQ3, l3, y3, z3⟩, st3⟩ := Jvm.LawKit.callS X2 hx (y := (⟨"java/util/Objects", "requireNonNull", "(Ljava/lang/Object;Ljava/lang/String;)Ljava/lang/Object;"⟩ : MethodName)) hown2 (mvT hZ2 (hW 29 _ rfl)) (mvT hZ2 (hW 30 _ rfl)) (mvT hZ2 (hW 31 _ rfl)) (mvT hZ2 (hW 32 _ rfl)) (by decide) (backOf (W := 0) (rm4 l Z a0 hw [] md b2 h2 n0 O2) hZ2 (hW 32 _ rfl) (hW 31 _ rfl) (by decide) (by decide)) (g := (mkF m 7 #[.val (.ref a), .val (.ref md), .val (.long t), .second, .val (.double d0), .second, .val (.double d1), .second, .val (.double d2), .second, .val (.double d3), .second, .val (.double d4), .second] [(.ref b2), (.ref md)])) rfl (by rw [hml]; rfl) (argsL := [(.ref md), (.ref b2)]) (rest := []) (lenOf pd_1 rfl) rfl (by show 2 * 0 + _ ≤ _; exact Nat.le_of_eq rfl) (hb hby d1_7) (fun _ _ => ⟨rfl, e2, (by decide : 2 + 0 ≤ _), (by decide : 20 + 0 ≤ _)⟩)
  dsimp only [Pt.U, Pt.locs, Pt.cells, Pt.slots] at X3 l3 y3 z3 st3 hQ3
  subst l3 y3 z3
  obtain ⟨rfl, Nq3, eh3⟩ := hQ3
  have N3 := Fr.app N1 Nq3
  refine own_ofw st3 ?_
  show own_gw p e below s _ _ _ (T3.setTop (mkF m 10 #[.val (.ref a), .val (.ref md), .val (.long t), .second, .val (.double d0), .second, .val (.double d1), .second, .val (.double d2), .second, .val (.double d3), .second, .val (.double d4), .second] [(.ref md)]))
  refine own_ofw (fun tt_ => XS.pop X3.here hx rfl (hb hby d1_10) rfl rfl) ?_
  show own_gw p e below s _ _ _ (T3.setTop (mkF m 11 #[.val (.ref a), .val (.ref md), .val (.long t), .second, .val (.double d0), .second, .val (.double d1), .second, .val (.double d2), .second, .val (.double d3), .second, .val (.double d4), .second] []))
  refine own_ofw (fun tt_ => XS.aloadN X3.here hx rfl (hb hby d1_11) rfl rfl) ?_
  show own_gw p e below s _ _ _ (T3.setTop (mkF m 12 #[.val (.ref a), .val (.ref md), .val (.long t), .second, .val (.double d0), .second, .val (.double d1), .second, .val (.double d2), .second, .val (.double d3), .second, .val (.double d4), .second] [(.ref a)]))
  refine own_ofw (fun tt_ => XS.aloadN X3.here hx rfl (hb hby d1_12) rfl rfl) ?_
  show own_gw p e below s _ _ _ (T3.setTop (mkF m 13 #[.val (.ref a), .val (.ref md), .val (.long t), .second, .val (.double d0), .second, .val (.double d1), .second, .val (.double d2), .second, .val (.double d3), .second, .val (.double d4), .second] [(.ref md), (.ref a)]))
  have f4 : Exa Z h2 a "com/example/plumeline/plumeline/AsmSample" := (E_a.ext E2)
  have f5 : Fld Z h2 a "com/example/plumeline/plumeline/AsmSample" "mode" "Lcom/example/plumeline/plumeline/LoadedMode$Mode;" .null := (F_mode.ext E2)
  obtain ⟨T6, h6, X6, e6, W6, st6⟩ := putF X3 hx hZ2 hown2 (host := "") (Or.inl (hW 33 _ rfl)) Via.refl eh3 f5 f4 (Or.inr ⟨(hW 34 _ rfl), rfl, hnm⟩) (hW 4 _ rfl) (ty := (.object "com/example/plumeline/plumeline/LoadedMode$Mode")) pf_0 rfl rfl (g := (mkF m 13 #[.val (.ref a), .val (.ref md), .val (.long t), .second, .val (.double d0), .second, .val (.double d1), .second, .val (.double d2), .second, .val (.double d3), .second, .val (.double d4), .second] [(.ref md), (.ref a)])) rfl rfl (hb hby d1_13)
  refine own_ofw st6 ?_
  have N6 := Fr.snoc X6 N3 (by omega : n0 ≤ a)
  have sz6 : h6.size = h2.size := W6.size
  have O6 : Old Z n0 h6 := O2.wr W6 (by omega)
  have K6 : Keep h0 h6 [a] := K2.wr W6 (Or.inl (List.mem_of_getElem? (i := 0) rfl))
  have Fw6 := f5.same W6
  show own_gw p e below s _ _ _ (T6.setTop (mkF m 16 #[.val (.ref a), .val (.ref md), .val (.long t), .second, .val (.double d0), .second, .val (.double d1), .second, .val (.double d2), .second, .val (.double d3), .second, .val (.double d4), .second] []))
  refine own_ofw (fun tt_ => XS.aloadN X6.here hx rfl (hb hby d1_16) rfl rfl) ?_
  show own_gw p e below s _ _ _ (T6.setTop (mkF m 17 #[.val (.ref a), .val (.ref md), .val (.long t), .second, .val (.double d0), .second, .val (.double d1), .second, .val (.double d2), .second, .val (.double d3), .second, .val (.double d4), .second] [(.ref a)]))
  refine own_ofw (fun tt_ => XS.lloadN X6.here hx rfl (hb hby d1_17) rfl) ?_
  show own_gw p e below s _ _ _ (T6.setTop (mkF m 18 #[.val (.ref a), .val (.ref md), .val (.long t), .second, .val (.double d0), .second, .val (.double d1), .second, .val (.double d2), .second, .val (.double d3), .second, .val (.double d4), .second] [(.long t), (.ref a)]))
  have f7 : Exa Z h6 a "com/example/plumeline/plumeline/AsmSample" := (f4.wr W6)
  have f8 : Fld Z h6 a "com/example/plumeline/plumeline/AsmSample" "tS" "J" (.long (0 : Int64)) := ((F_tS.ext E2).other W6 (Or.inr (slot_ne (Or.inr (hW 36 _ rfl)) (Or.inr (hW 34 _ rfl)) (by decide) pf_1 pf_0)))
  obtain ⟨T9, h9, X9, e9, W9, st9⟩ := putF X6 hx hZ2 hown2 (host := "") (Or.inl (hW 35 _ rfl)) Via.refl e6 f8 f7 (Or.inr ⟨(hW 36 _ rfl), rfl, hnm⟩) (hW 4 _ rfl) (ty := .long) pf_1 rfl rfl (g := (mkF m 18 #[.val (.ref a), .val (.ref md), .val (.long t), .second, .val (.double d0), .second, .val (.double d1), .second, .val (.double d2), .second, .val (.double d3), .second, .val (.double d4), .second] [(.long t), (.ref a)])) rfl rfl (hb hby d1_18)
  refine own_ofw st9 ?_
  have N9 := Fr.snoc X9 N6 (by omega : n0 ≤ a)
  have sz9 : h9.size = h6.size := W9.size
  have O9 : Old Z n0 h9 := O6.wr W9 (by omega)
  have K9 : Keep h0 h9 [a] := K6.wr W9 (Or.inl (List.mem_of_getElem? (i := 0) rfl))
  have Fw9 := f8.same W9
  show own_gw p e below s _ _ _ (T9.setTop (mkF m 21 #[.val (.ref a), .val (.ref md), .val (.long t), .second, .val (.double d0), .second, .val (.double d1), .second, .val (.double d2), .second, .val (.double d3), .second, .val (.double d4), .second] []))
  refine own_ofw (fun tt_ => XS.aloadN X9.here hx rfl (hb hby d1_21) rfl rfl) ?_
  show own_gw p e below s _ _ _ (T9.setTop (mkF m 22 #[.val (.ref a), .val (.ref md), .val (.long t), .second, .val (.double d0), .second, .val (.double d1), .second, .val (.double d2), .second, .val (.double d3), .second, .val (.double d4), .second] [(.ref a)]))
  refine own_ofw (fun tt_ => XS.dload X9.here hx rfl (hb hby d1_22) rfl) ?_
  show own_gw p e below s _ _ _ (T9.setTop (mkF m 24 #[.val (.ref a), .val (.ref md), .val (.long t), .second, .val (.double d0), .second, .val (.double d1), .second, .val (.double d2), .second, .val (.double d3), .second, .val (.double d4), .second] [(.double d0), (.ref a)]))
  have f10 : Exa Z h9 a "com/example/plumeline/plumeline/AsmSample" := (f7.wr W9)
  have f11 : Fld Z h9 a "com/example/plumeline/plumeline/AsmSample" "speedKmh" "D" (.double (0 : UInt64)) := (((F_speedKmh.ext E2).other W6 (Or.inr (slot_ne (Or.inr (hW 38 _ rfl)) (Or.inr (hW 34 _ rfl)) (by decide) pf_2 pf_0))).other W9 (Or.inr (slot_ne (Or.inr (hW 38 _ rfl)) (Or.inr (hW 36 _ rfl)) (by decide) pf_2 pf_1)))
  obtain ⟨T12, h12, X12, e12, W12, st12⟩ := putF X9 hx hZ2 hown2 (host := "") (Or.inl (hW 37 _ rfl)) Via.refl e9 f11 f10 (Or.inr ⟨(hW 38 _ rfl), rfl, hnm⟩) (hW 4 _ rfl) (ty := .double) pf_2 rfl rfl (g := (mkF m 24 #[.val (.ref a), .val (.ref md), .val (.long t), .second, .val (.double d0), .second, .val (.double d1), .second, .val (.double d2), .second, .val (.double d3), .second, .val (.double d4), .second] [(.double d0), (.ref a)])) rfl rfl (hb hby d1_24)
  refine own_ofw st12 ?_
  have N12 := Fr.snoc X12 N9 (by omega : n0 ≤ a)
  have sz12 : h12.size = h9.size := W12.size
  have O12 : Old Z n0 h12 := O9.wr W12 (by omega)
  have K12 : Keep h0 h12 [a] := K9.wr W12 (Or.inl (List.mem_of_getElem? (i := 0) rfl))
  have Fw12 := f11.same W12
  show own_gw p e below s _ _ _ (T12.setTop (mkF m 27 #[.val (.ref a), .val (.ref md), .val (.long t), .second, .val (.double d0), .second, .val (.double d1), .second, .val (.double d2), .second, .val (.double d3), .second, .val (.double d4), .second] []))
  refine own_ofw (fun tt_ => XS.aloadN X12.here hx rfl (hb hby d1_27) rfl rfl) ?_
  show own_gw p e below s _ _ _ (T12.setTop (mkF m 28 #[.val (.ref a), .val (.ref md), .val (.long t), .second, .val (.double d0), .second, .val (.double d1), .second, .val (.double d2), .second, .val (.double d3), .second, .val (.double d4), .second] [(.ref a)]))
  refine own_ofw (fun tt_ => XS.dload X12.here hx rfl (hb hby d1_28) rfl) ?_
  show own_gw p e below s _ _ _ (T12.setTop (mkF m 30 #[.val (.ref a), .val (.ref md), .val (.long t), .second, .val (.double d0), .second, .val (.double d1), .second, .val (.double d2), .second, .val (.double d3), .second, .val (.double d4), .second] [(.double d1), (.ref a)]))
  have f13 : Exa Z h12 a "com/example/plumeline/plumeline/AsmSample" := (f10.wr W12)
  have f14 : Fld Z h12 a "com/example/plumeline/plumeline/AsmSample" "coPct" "D" (.double (0 : UInt64)) := ((((F_coPct.ext E2).other W6 (Or.inr (slot_ne (Or.inr (hW 40 _ rfl)) (Or.inr (hW 34 _ rfl)) (by decide) pf_2 pf_0))).other W9 (Or.inr (slot_ne (Or.inr (hW 40 _ rfl)) (Or.inr (hW 36 _ rfl)) (by decide) pf_2 pf_1))).other W12 (Or.inr (slot_ne (Or.inr (hW 40 _ rfl)) (Or.inr (hW 38 _ rfl)) (by decide) pf_2 pf_2)))
  obtain ⟨T15, h15, X15, e15, W15, st15⟩ := putF X12 hx hZ2 hown2 (host := "") (Or.inl (hW 39 _ rfl)) Via.refl e12 f14 f13 (Or.inr ⟨(hW 40 _ rfl), rfl, hnm⟩) (hW 4 _ rfl) (ty := .double) pf_2 rfl rfl (g := (mkF m 30 #[.val (.ref a), .val (.ref md), .val (.long t), .second, .val (.double d0), .second, .val (.double d1), .second, .val (.double d2), .second, .val (.double d3), .second, .val (.double d4), .second] [(.double d1), (.ref a)])) rfl rfl (hb hby d1_30)
  refine own_ofw st15 ?_
  have N15 := Fr.snoc X15 N12 (by omega : n0 ≤ a)
  have sz15 : h15.size = h12.size := W15.size
  have O15 : Old Z n0 h15 := O12.wr W15 (by omega)
  have K15 : Keep h0 h15 [a] := K12.wr W15 (Or.inl (List.mem_of_getElem? (i := 0) rfl))
  have Fw15 := f14.same W15
  show own_gw p e below s _ _ _ (T15.setTop (mkF m 33 #[.val (.ref a), .val (.ref md), .val (.long t), .second, .val (.double d0), .second, .val (.double d1), .second, .val (.double d2), .second, .val (.double d3), .second, .val (.double d4), .second] []))
  refine own_ofw (fun tt_ => XS.aloadN X15.here hx rfl (hb hby d1_33) rfl rfl) ?_
  show own_gw p e below s _ _ _ (T15.setTop (mkF m 34 #[.val (.ref a), .val (.ref md), .val (.long t), .second, .val (.double d0), .second, .val (.double d1), .second, .val (.double d2), .second, .val (.double d3), .second, .val (.double d4), .second] [(.ref a)]))
  refine own_ofw (fun tt_ => XS.dload X15.here hx rfl (hb hby d1_34) rfl) ?_
  show own_gw p e below s _ _ _ (T15.setTop (mkF m 36 #[.val (.ref a), .val (.ref md), .val (.long t), .second, .val (.double d0), .second, .val (.double d1), .second, .val (.double d2), .second, .val (.double d3), .second, .val (.double d4), .second] [(.double d2), (.ref a)]))
  have f16 : Exa Z h15 a "com/example/plumeline/plumeline/AsmSample" := (f13.wr W15)
  have f17 : Fld Z h15 a "com/example/plumeline/plumeline/AsmSample" "co2Pct" "D" (.double (0 : UInt64)) := (((((F_co2Pct.ext E2).other W6 (Or.inr (slot_ne (Or.inr (hW 42 _ rfl)) (Or.inr (hW 34 _ rfl)) (by decide) pf_2 pf_0))).other W9 (Or.inr (slot_ne (Or.inr (hW 42 _ rfl)) (Or.inr (hW 36 _ rfl)) (by decide) pf_2 pf_1))).other W12 (Or.inr (slot_ne (Or.inr (hW 42 _ rfl)) (Or.inr (hW 38 _ rfl)) (by decide) pf_2 pf_2))).other W15 (Or.inr (slot_ne (Or.inr (hW 42 _ rfl)) (Or.inr (hW 40 _ rfl)) (by decide) pf_2 pf_2)))
  obtain ⟨T18, h18, X18, e18, W18, st18⟩ := putF X15 hx hZ2 hown2 (host := "") (Or.inl (hW 41 _ rfl)) Via.refl e15 f17 f16 (Or.inr ⟨(hW 42 _ rfl), rfl, hnm⟩) (hW 4 _ rfl) (ty := .double) pf_2 rfl rfl (g := (mkF m 36 #[.val (.ref a), .val (.ref md), .val (.long t), .second, .val (.double d0), .second, .val (.double d1), .second, .val (.double d2), .second, .val (.double d3), .second, .val (.double d4), .second] [(.double d2), (.ref a)])) rfl rfl (hb hby d1_36)
  refine own_ofw st18 ?_
  have N18 := Fr.snoc X18 N15 (by omega : n0 ≤ a)
  have sz18 : h18.size = h15.size := W18.size
  have O18 : Old Z n0 h18 := O15.wr W18 (by omega)
  have K18 : Keep h0 h18 [a] := K15.wr W18 (Or.inl (List.mem_of_getElem? (i := 0) rfl))
  have Fw18 := f17.same W18
  show own_gw p e below s _ _ _ (T18.setTop (mkF m 39 #[.val (.ref a), .val (.ref md), .val (.long t), .second, .val (.double d0), .second, .val (.double d1), .second, .val (.double d2), .second, .val (.double d3), .second, .val (.double d4), .second] []))
  refine own_ofw (fun tt_ => XS.aloadN X18.here hx rfl (hb hby d1_39) rfl rfl) ?_
  show own_gw p e below s _ _ _ (T18.setTop (mkF m 40 #[.val (.ref a), .val (.ref md), .val (.long t), .second, .val (.double d0), .second, .val (.double d1), .second, .val (.double d2), .second, .val (.double d3), .second, .val (.double d4), .second] [(.ref a)]))
  refine own_ofw (fun tt_ => XS.dload X18.here hx rfl (hb hby d1_40) rfl) ?_
  show own_gw p e below s _ _ _ (T18.setTop (mkF m 42 #[.val (.ref a), .val (.ref md), .val (.long t), .second, .val (.double d0), .second, .val (.double d1), .second, .val (.double d2), .second, .val (.double d3), .second, .val (.double d4), .second] [(.double d3), (.ref a)]))
  have f19 : Exa Z h18 a "com/example/plumeline/plumeline/AsmSample" := (f16.wr W18)
  have f20 : Fld Z h18 a "com/example/plumeline/plumeline/AsmSample" "hcPpm" "D" (.double (0 : UInt64)) := ((((((F_hcPpm.ext E2).other W6 (Or.inr (slot_ne (Or.inr (hW 44 _ rfl)) (Or.inr (hW 34 _ rfl)) (by decide) pf_2 pf_0))).other W9 (Or.inr (slot_ne (Or.inr (hW 44 _ rfl)) (Or.inr (hW 36 _ rfl)) (by decide) pf_2 pf_1))).other W12 (Or.inr (slot_ne (Or.inr (hW 44 _ rfl)) (Or.inr (hW 38 _ rfl)) (by decide) pf_2 pf_2))).other W15 (Or.inr (slot_ne (Or.inr (hW 44 _ rfl)) (Or.inr (hW 40 _ rfl)) (by decide) pf_2 pf_2))).other W18 (Or.inr (slot_ne (Or.inr (hW 44 _ rfl)) (Or.inr (hW 42 _ rfl)) (by decide) pf_2 pf_2)))
  obtain ⟨T21, h21, X21, e21, W21, st21⟩ := putF X18 hx hZ2 hown2 (host := "") (Or.inl (hW 43 _ rfl)) Via.refl e18 f20 f19 (Or.inr ⟨(hW 44 _ rfl), rfl, hnm⟩) (hW 4 _ rfl) (ty := .double) pf_2 rfl rfl (g := (mkF m 42 #[.val (.ref a), .val (.ref md), .val (.long t), .second, .val (.double d0), .second, .val (.double d1), .second, .val (.double d2), .second, .val (.double d3), .second, .val (.double d4), .second] [(.double d3), (.ref a)])) rfl rfl (hb hby d1_42)
  refine own_ofw st21 ?_
  have N21 := Fr.snoc X21 N18 (by omega : n0 ≤ a)
  have sz21 : h21.size = h18.size := W21.size
  have O21 : Old Z n0 h21 := O18.wr W21 (by omega)
  have K21 : Keep h0 h21 [a] := K18.wr W21 (Or.inl (List.mem_of_getElem? (i := 0) rfl))
  have Fw21 := f20.same W21
  show own_gw p e below s _ _ _ (T21.setTop (mkF m 45 #[.val (.ref a), .val (.ref md), .val (.long t), .second, .val (.double d0), .second, .val (.double d1), .second, .val (.double d2), .second, .val (.double d3), .second, .val (.double d4), .second] []))
  refine own_ofw (fun tt_ => XS.aloadN X21.here hx rfl (hb hby d1_45) rfl rfl) ?_
  show own_gw p e below s _ _ _ (T21.setTop (mkF m 46 #[.val (.ref a), .val (.ref md), .val (.long t), .second, .val (.double d0), .second, .val (.double d1), .second, .val (.double d2), .second, .val (.double d3), .second, .val (.double d4), .second] [(.ref a)]))
  refine own_ofw (fun tt_ => XS.dload X21.here hx rfl (hb hby d1_46) rfl) ?_
  show own_gw p e below s _ _ _ (T21.setTop (mkF m 48 #[.val (.ref a), .val (.ref md), .val (.long t), .second, .val (.double d0), .second, .val (.double d1), .second, .val (.double d2), .second, .val (.double d3), .second, .val (.double d4), .second] [(.double d4), (.ref a)]))
  have f22 : Exa Z h21 a "com/example/plumeline/plumeline/AsmSample" := (f19.wr W21)
  have f23 : Fld Z h21 a "com/example/plumeline/plumeline/AsmSample" "noPpm" "D" (.double (0 : UInt64)) := (((((((F_noPpm.ext E2).other W6 (Or.inr (slot_ne (Or.inr (hW 46 _ rfl)) (Or.inr (hW 34 _ rfl)) (by decide) pf_2 pf_0))).other W9 (Or.inr (slot_ne (Or.inr (hW 46 _ rfl)) (Or.inr (hW 36 _ rfl)) (by decide) pf_2 pf_1))).other W12 (Or.inr (slot_ne (Or.inr (hW 46 _ rfl)) (Or.inr (hW 38 _ rfl)) (by decide) pf_2 pf_2))).other W15 (Or.inr (slot_ne (Or.inr (hW 46 _ rfl)) (Or.inr (hW 40 _ rfl)) (by decide) pf_2 pf_2))).other W18 (Or.inr (slot_ne (Or.inr (hW 46 _ rfl)) (Or.inr (hW 42 _ rfl)) (by decide) pf_2 pf_2))).other W21 (Or.inr (slot_ne (Or.inr (hW 46 _ rfl)) (Or.inr (hW 44 _ rfl)) (by decide) pf_2 pf_2)))
  obtain ⟨T24, h24, X24, e24, W24, st24⟩ := putF X21 hx hZ2 hown2 (host := "") (Or.inl (hW 45 _ rfl)) Via.refl e21 f23 f22 (Or.inr ⟨(hW 46 _ rfl), rfl, hnm⟩) (hW 4 _ rfl) (ty := .double) pf_2 rfl rfl (g := (mkF m 48 #[.val (.ref a), .val (.ref md), .val (.long t), .second, .val (.double d0), .second, .val (.double d1), .second, .val (.double d2), .second, .val (.double d3), .second, .val (.double d4), .second] [(.double d4), (.ref a)])) rfl rfl (hb hby d1_48)
  refine own_ofw st24 ?_
  have N24 := Fr.snoc X24 N21 (by omega : n0 ≤ a)
  have sz24 : h24.size = h21.size := W24.size
  have O24 : Old Z n0 h24 := O21.wr W24 (by omega)
  have K24 : Keep h0 h24 [a] := K21.wr W24 (Or.inl (List.mem_of_getElem? (i := 0) rfl))
  have Fw24 := f23.same W24
  show own_gw p e below s _ _ _ (T24.setTop (mkF m 51 #[.val (.ref a), .val (.ref md), .val (.long t), .second, .val (.double d0), .second, .val (.double d1), .second, .val (.double d2), .second, .val (.double d3), .second, .val (.double d4), .second] []))
  refine own_retVw X24 hx hlk hS2 (by rw [e24]; omega : k2 ≤ T24.heap.size) Bd.returns (hb hby d1_51) (by decide) (by decide) ?_
  rw [e24]
  have f25 : Fld Z h24 a "com/example/plumeline/plumeline/AsmSample" "tS" "J" (.long t) := (((((Fw9.other W12 (Or.inr (slot_ne (Or.inr (hW 36 _ rfl)) (Or.inr (hW 38 _ rfl)) (by decide) pf_1 pf_2))).other W15 (Or.inr (slot_ne (Or.inr (hW 36 _ rfl)) (Or.inr (hW 40 _ rfl)) (by decide) pf_1 pf_2))).other W18 (Or.inr (slot_ne (Or.inr (hW 36 _ rfl)) (Or.inr (hW 42 _ rfl)) (by decide) pf_1 pf_2))).other W21 (Or.inr (slot_ne (Or.inr (hW 36 _ rfl)) (Or.inr (hW 44 _ rfl)) (by decide) pf_1 pf_2))).other W24 (Or.inr (slot_ne (Or.inr (hW 36 _ rfl)) (Or.inr (hW 46 _ rfl)) (by decide) pf_1 pf_2)))
  exact ⟨rfl, N24, K24, f25⟩
theorem ef_rm5 (m : MethodId) (x0 : Nat) : entryFrame m #[(.ref x0)] 1 = mkF m 0 #[.val (.ref x0)] [] := by first | (simp [entryFrame, mkF, argsToLocals, Value.category]; done) | rfl
theorem pn_3 : plainName "com/example/plumeline/plumeline/LoadedMode$Trace" = true := by first | (simp [plainName, overriddenIn]; done) | decide +kernel
theorem d5_0 : decode prog_56_method_1_code 0 = .ok (.aload_n 0, 1) := by decide +kernel
theorem d5_1 : decode prog_56_method_1_code 1 = .ok (.invokespecial 3, 3) := by decide +kernel
theorem d5_4 : decode prog_56_method_1_code 4 = .ok (.aload_n 0, 1) := by decide +kernel
theorem d5_5 : decode prog_56_method_1_code 5 = .ok (.bipush 75, 2) := by decide +kernel
theorem d5_7 : decode prog_56_method_1_code 7 = .ok (.anewarray 9, 3) := by decide +kernel
theorem d5_10 : decode prog_56_method_1_code 10 = .ok (.putfield 11, 3) := by decide +kernel
theorem pf_3 : parseFieldDescriptor "[Lcom/example/plumeline/plumeline/AsmSample;" = some (.array (.object "com/example/plumeline/plumeline/AsmSample")) := by decide +kernel
theorem d5_13 : decode prog_56_method_1_code 13 = .ok (.return_, 1) := by decide +kernel
def Q_rm5 (Z : State) (a : Nat) (h0 : Heap) (n0 : Nat) (v : Option Value) (h : Heap) (L : List Loc) : Prop := v = none ∧ Fr n0 L ∧ Keep h0 h [a] ∧ ∃ (b : Nat) (k : ClassId), h0.size ≤ b ∧ Fld Z h a "com/example/plumeline/plumeline/LoadedMode$Trace" "samples" "[Lcom/example/plumeline/plumeline/AsmSample;" (.ref b) ∧ Arv Z h b k (.object "com/example/plumeline/plumeline/AsmSample") (75 : Int32) (List.replicate 75 Value.null) .null ∧ Ovr Z k "com/example/plumeline/plumeline/AsmSample"
set_option maxRecDepth 65536 in
set_option maxHeartbeats 40000000 in
theorem rm5 (l : Launch) (Z : State) (a0 : Array Value) (hw : ∀ d ∈ tables_1, d.before a0 Z = true) (ws : List Jvm.Cond) (a : Nat) (h0 : Heap) (n0 : Nat) (XO0 : Old Z n0 h0) (g_a : n0 ≤ a) (E_a : Exa Z h0 a "com/example/plumeline/plumeline/LoadedMode$Trace") (F_s : Fld Z h0 a "com/example/plumeline/plumeline/LoadedMode$Trace" "samples" "[Lcom/example/plumeline/plumeline/AsmSample;" .null) :
    MetFree l (⟨"com/example/plumeline/plumeline/LoadedMode$Trace", "<init>", "()V"⟩ : MethodName) (head1 (Jvm.Cond.code (⟨"com/example/plumeline/plumeline/LoadedMode$Trace", "<init>", "()V"⟩ : MethodName) prog_56_method_1_code 1 none :: ws) ({ frames := 1, cells := 1, slots := 75, locals := 12 } : Room)) (fun zz_ U => zz_ = #[(.ref a)] ∧ Z.Warmed39 U.vm ∧ U.heap = h0) (fun _ _ _ _ _ => True) (fun _ U o U' => ∃ v L, o = .returned v ∧ Q_rm5 Z a h0 n0 v U'.heap L ∧ FrameEnd U o U' L ({ frames := 1, cells := 1, slots := 75, locals := 12 } : Room).cells ({ frames := 1, cells := 1, slots := 75, locals := 12 } : Room).slots) := by
  refine MetFree.of_bodySF (plainFor_of_name pn_3) hisR ?_
  intro p e s m args below meth c s₁ Bd hml0 hP hK
  obtain ⟨rfl, hZ, hh⟩ := hP
  have hx := Bd.exec
  have hby := Bd.bytes
  have hlk := Bd.notSynchronized
  have hW : ∀ (i : Nat) (d : Jvm.Cond), tables_1[i]? = some d → d.before a0 Z = true := fun i d h => hw d (List.mem_of_getElem? h)
  have hml : c.maxLocals = 1 := hml0
  have hown : s.vm.findClass "com/example/plumeline/plumeline/LoadedMode$Trace" = some m.cls := findClass_of_methodNamed Bd.named
  have hnm := (name_of_methodNamed Bd.named Bd.method).1
  have X0 : Stand p l e ({ frames := 1, cells := 1, slots := 75, locals := 12 } : Room) s m #[(.ref a)] below meth c s₁ [] 0 0 := Stand.of_body Bd
  have e0 : s₁.heap = h0 := by rw [← hh, Bd.state]; rfl
  have N0 := Fr.nil n0
  refine own_in ?_
  refine own_of (fun tt_ kk_ => castTop (ef_rm5 m a) kk_) ?_
  show own_go p e below s _ _ _ (s₁.setTop (mkF m 0 #[.val (.ref a)] []))
  refine own_of (fun tt_ => XS.aloadN X0.here hx rfl (hb hby d5_0) rfl rfl) ?_
  show own_go p e below s _ _ _ (s₁.setTop (mkF m 1 #[.val (.ref a)] [(.ref a)]))
  have K0 : Keep h0 h0 [a] := Keep.refl h0 [a]
  have lt_a := own_lt E_a.lt
  obtain ⟨T1, X1, e1, st1⟩ := initO X0 hx hZ hown (hW 58 _ rfl) (hW 19 _ rfl) (hW 20 _ rfl) e0 (g := (mkF m 1 #[.val (.ref a)] [(.ref a)])) rfl (by rw [hml]; rfl) rfl (hb hby d5_1) (by decide) (W := 0) (by show 2 * 0 + _ ≤ _; exact Nat.le_of_eq rfl) (by decide)
  refine own_of st1 ?_
  show own_go p e below s _ _ _ (T1.setTop (mkF m 4 #[.val (.ref a)] []))
  refine own_of (fun tt_ => XS.aloadN X1.here hx rfl (hb hby d5_4) rfl rfl) ?_
  show own_go p e below s _ _ _ (T1.setTop (mkF m 5 #[.val (.ref a)] [(.ref a)]))
  refine own_of (fun tt_ => XS.bipush X1.here hx rfl (hb hby d5_5)) ?_
  show own_go p e below s _ _ _ (T1.setTop (mkF m 7 #[.val (.ref a)] [(.int (75 : Int32)), (.ref a)]))
  obtain ⟨T2, h2, k2, X2, e2, E2, A2, Ov2, st2⟩ := newR X1 hx hZ hown (hW 59 _ rfl) (hW 60 _ rfl) e1 (g := (mkF m 7 #[.val (.ref a)] [(.int (75 : Int32)), (.ref a)])) rfl (hb hby d5_7) rfl (by decide) (cap := 75) (by decide) (by decide) (by decide) (by decide)
  obtain ⟨b2, g2⟩ : ∃ z, z = h0.size := ⟨_, rfl⟩
  rw [← g2] at A2 st2
  refine own_of st2 ?_
  have lt2 := own_lt A2.lt
  have sz2 : h0.size ≤ h2.size := E2.1
  have O2 : Old Z n0 h2 := XO0.ext E2
  have z2 : n0 ≤ b2 := by have := XO0.1 ▸ XO0.2.1; omega
  have K2 : Keep h0 h2 [a] := K0.ext E2
  have V2 : Arv Z h2 b2 k2 (.object "com/example/plumeline/plumeline/AsmSample") (75 : Int32) (List.replicate 75 Value.null) .null := (Arv.new A2 (by decide)).pad (pad_rep [] .null 75)
  show own_go p e below s _ _ _ (T2.setTop (mkF m 10 #[.val (.ref a)] [(.ref b2), (.ref a)]))
  have f3 : Exa Z h2 a "com/example/plumeline/plumeline/LoadedMode$Trace" := (E_a.ext E2)
  have f4 : Fld Z h2 a "com/example/plumeline/plumeline/LoadedMode$Trace" "samples" "[Lcom/example/plumeline/plumeline/AsmSample;" .null := (F_s.ext E2)
  obtain ⟨T5, h5, X5, e5, W5, st5⟩ := putF X2 hx hZ hown (host := "") (Or.inl (hW 61 _ rfl)) Via.refl e2 f4 f3 (Or.inr ⟨(hW 62 _ rfl), rfl, hnm⟩) (hW 53 _ rfl) (ty := (.array (.object "com/example/plumeline/plumeline/AsmSample"))) pf_3 rfl rfl (g := (mkF m 10 #[.val (.ref a)] [(.ref b2), (.ref a)])) rfl rfl (hb hby d5_10)
  refine own_of st5 ?_
  have N5 := Fr.snoc X5 N0 (by omega : n0 ≤ a)
  have sz5 : h5.size = h2.size := W5.size
  have O5 : Old Z n0 h5 := O2.wr W5 (by omega)
  have K5 : Keep h0 h5 [a] := K2.wr W5 (Or.inl (List.mem_of_getElem? (i := 0) rfl))
  have Fw5 := f4.same W5
  show own_go p e below s _ _ _ (T5.setTop (mkF m 13 #[.val (.ref a)] []))
  refine own_retV X5 hx hlk Bd.returns (hb hby d5_13) (by decide) (by decide) ?_
  rw [e5]
  have f6 : Arv Z h5 b2 k2 (.object "com/example/plumeline/plumeline/AsmSample") (75 : Int32) (List.replicate 75 Value.null) .null := (V2.other W5 (own_ne (by omega)))
  exact ⟨rfl, N5, K5, b2, k2, by omega, Fw5, f6, Ov2⟩
theorem ef_rm7 (m : MethodId) (x0 : Nat) : entryFrame m #[(.ref x0)] 1 = mkF m 0 #[.val (.ref x0)] [] := by first | (simp [entryFrame, mkF, argsToLocals, Value.category]; done) | rfl
theorem d7_0 : decode prog_11_method_6_code 0 = .ok (.aload_n 0, 1) := by decide +kernel
theorem d7_1 : decode prog_11_method_6_code 1 = .ok (.getfield 20, 3) := by decide +kernel
theorem d7_4 : decode prog_11_method_6_code 4 = .ok (.lreturn, 1) := by decide +kernel
def Q_rm7 (Z : State) (a : Nat) (t : Int64) (h0 : Heap) (n0 : Nat) (v : Option Value) (h : Heap) (L : List Loc) : Prop := v = some (.long t) ∧ Fr n0 L ∧ h = h0
set_option maxRecDepth 65536 in
set_option maxHeartbeats 40000000 in
theorem rm7 (l : Launch) (Z : State) (a0 : Array Value) (hw : ∀ d ∈ tables_1, d.before a0 Z = true) (ws : List Jvm.Cond) (a : Nat) (t : Int64) (h0 : Heap) (n0 : Nat) (XO0 : Old Z n0 h0) (F_t : Fld Z h0 a "com/example/plumeline/plumeline/AsmSample" "tS" "J" (.long t)) :
    MetFree l (⟨"com/example/plumeline/plumeline/AsmSample", "tS", "()J"⟩ : MethodName) (head1 (Jvm.Cond.code (⟨"com/example/plumeline/plumeline/AsmSample", "tS", "()J"⟩ : MethodName) prog_11_method_6_code 1 (some .long) :: ws) ({ frames := 0, cells := 0, slots := 0, locals := 0 } : Room)) (fun zz_ U => zz_ = #[(.ref a)] ∧ Z.Warmed39 U.vm ∧ U.heap = h0) (fun _ _ _ _ _ => True) (fun _ U o U' => ∃ v L, o = .returned v ∧ Q_rm7 Z a t h0 n0 v U'.heap L ∧ FrameEnd U o U' L ({ frames := 0, cells := 0, slots := 0, locals := 0 } : Room).cells ({ frames := 0, cells := 0, slots := 0, locals := 0 } : Room).slots) := by
  refine MetFree.of_bodySF (plainFor_of_name pn_2) hisR ?_
  intro p e s m args below meth c s₁ Bd hml0 hP hK
  obtain ⟨rfl, hZ, hh⟩ := hP
  have hx := Bd.exec
  have hby := Bd.bytes
  have hlk := Bd.notSynchronized
  have hW : ∀ (i : Nat) (d : Jvm.Cond), tables_1[i]? = some d → d.before a0 Z = true := fun i d h => hw d (List.mem_of_getElem? h)
  have hml : c.maxLocals = 1 := hml0
  have hown : s.vm.findClass "com/example/plumeline/plumeline/AsmSample" = some m.cls := findClass_of_methodNamed Bd.named
  have hnm := (name_of_methodNamed Bd.named Bd.method).1
  have X0 : Stand p l e ({ frames := 0, cells := 0, slots := 0, locals := 0 } : Room) s m #[(.ref a)] below meth c s₁ [] 0 0 := Stand.of_body Bd
  have e0 : s₁.heap = h0 := by rw [← hh, Bd.state]; rfl
  have N0 := Fr.nil n0
  refine own_in ?_
  refine own_of (fun tt_ kk_ => castTop (ef_rm7 m a) kk_) ?_
  show own_go p e below s _ _ _ (s₁.setTop (mkF m 0 #[.val (.ref a)] []))
  refine own_of (fun tt_ => XS.aloadN X0.here hx rfl (hb hby d7_0) rfl rfl) ?_
  show own_go p e below s _ _ _ (s₁.setTop (mkF m 1 #[.val (.ref a)] [(.ref a)]))
  obtain ⟨T1, X1, e1, st1⟩ := getF X0 hx hZ hown (host := "") (Or.inl (hW 35 _ rfl)) Via.refl e0 F_t (g := (mkF m 1 #[.val (.ref a)] [(.ref a)])) rfl rfl (hb hby d7_1)
  refine own_of st1 ?_
  show own_go p e below s _ _ _ (T1.setTop (mkF m 4 #[.val (.ref a)] [(.long t)]))
  refine own_ret X1 hx hlk Bd.returns rfl (Or.inr (Or.inl ⟨rfl, rfl, _, rfl⟩)) (hb hby d7_4) (by decide) (by decide) ?_
  rw [e1]
  exact ⟨rfl, N0, rfl⟩
theorem ef_rm6_o (m : MethodId) (x0 : Nat) (x1 : Nat) : entryFrame m #[(.ref x0), (.ref x1)] 6 = mkF m 0 #[.val (.ref x0), .val (.ref x1), .unset, .unset, .unset, .unset] [] := by first | (simp [entryFrame, mkF, argsToLocals, Value.category]; done) | rfl
theorem d6_0 : decode prog_56_method_2_code 0 = .ok (.aload_n 1, 1) := by decide +kernel
theorem d6_1 : decode prog_56_method_2_code 1 = .ok (.invokevirtual 17, 3) := by decide +kernel
theorem pd_2 : parseMethodDescriptor "()J" = some ⟨[], some .long⟩ := by decide +kernel
theorem d6_4 : decode prog_56_method_2_code 4 = .ok (.lstore_n 2, 1) := by decide +kernel
theorem d6_5 : decode prog_56_method_2_code 5 = .ok (.iconst 1, 1) := by decide +kernel
theorem d6_6 : decode prog_56_method_2_code 6 = .ok (.istore 4, 2) := by decide +kernel
theorem d6_8 : decode prog_56_method_2_code 8 = .ok (.lload_n 2, 1) := by decide +kernel
theorem d6_9 : decode prog_56_method_2_code 9 = .ok (.ldc2_w 21, 3) := by decide +kernel
theorem d6_12 : decode prog_56_method_2_code 12 = .ok (.lcmp, 1) := by decide +kernel
theorem d6_13 : decode prog_56_method_2_code 13 = .ok (.ifCond .lt 49, 3) := by decide +kernel
theorem d6_62 : decode prog_56_method_2_code 62 = .ok (.iload 4, 2) := by decide +kernel
theorem d6_64 : decode prog_56_method_2_code 64 = .ok (.ireturn, 1) := by decide +kernel
theorem d6_16 : decode prog_56_method_2_code 16 = .ok (.lload_n 2, 1) := by decide +kernel
theorem d6_17 : decode prog_56_method_2_code 17 = .ok (.ldc2_w 23, 3) := by decide +kernel
theorem d6_20 : decode prog_56_method_2_code 20 = .ok (.lcmp, 1) := by decide +kernel
theorem d6_21 : decode prog_56_method_2_code 21 = .ok (.ifCond .gt 41, 3) := by decide +kernel
def Q_rm6_o (Z : State) (tr : Nat) (a : Nat) (t : Int64) (bs : Nat) (k : ClassId) (vs : List Value) (z : Nat) (h0 : Heap) (n0 : Nat) (v : Option Value) (h : Heap) (L : List Loc) : Prop := v = some (.int 1) ∧ Fr n0 L ∧ h = h0
set_option maxRecDepth 65536 in
set_option maxHeartbeats 40000000 in
theorem rm6_o (l : Launch) (Z : State) (a0 : Array Value) (hw : ∀ d ∈ tables_1, d.before a0 Z = true) (ws : List Jvm.Cond) (tr : Nat) (a : Nat) (t : Int64) (bs : Nat) (k : ClassId) (vs : List Value) (z : Nat) (h0 : Heap) (n0 : Nat) (XO0 : Old Z n0 h0) (E_a : Exa Z h0 a "com/example/plumeline/plumeline/AsmSample") (F_t : Fld Z h0 a "com/example/plumeline/plumeline/AsmSample" "tS" "J" (.long t)) (F_s : Fld Z h0 tr "com/example/plumeline/plumeline/LoadedMode$Trace" "samples" "[Lcom/example/plumeline/plumeline/AsmSample;" (.ref bs)) (V_s : Arv Z h0 bs k (.object "com/example/plumeline/plumeline/AsmSample") (75 : Int32) vs .null) (Ov : Ovr Z k "com/example/plumeline/plumeline/AsmSample") (hlen : vs.length = 75) (g_bs : n0 ≤ bs) (hout : t < 16 ∨ 90 < t) :
    MetFree l (⟨"com/example/plumeline/plumeline/LoadedMode$Trace", "add", "(Lcom/example/plumeline/plumeline/AsmSample;)Z"⟩ : MethodName) (head1 (Jvm.Cond.code (⟨"com/example/plumeline/plumeline/LoadedMode$Trace", "add", "(Lcom/example/plumeline/plumeline/AsmSample;)Z"⟩ : MethodName) prog_56_method_2_code 6 (some .boolean) :: ws) ({ frames := 1, cells := 0, slots := 0, locals := 12 } : Room)) (fun zz_ U => zz_ = #[(.ref tr), (.ref a)] ∧ Z.Warmed39 U.vm ∧ U.heap = h0) (fun _ _ _ _ _ => True) (fun _ U o U' => ∃ v L, o = .returned v ∧ Q_rm6_o Z tr a t bs k vs z h0 n0 v U'.heap L ∧ FrameEnd U o U' L ({ frames := 1, cells := 0, slots := 0, locals := 12 } : Room).cells ({ frames := 1, cells := 0, slots := 0, locals := 12 } : Room).slots) := by
  refine MetFree.of_bodySF (plainFor_of_name pn_3) hisR ?_
  intro p e s m args below meth c s₁ Bd hml0 hP hK
  obtain ⟨rfl, hZ, hh⟩ := hP
  have hx := Bd.exec
  have hby := Bd.bytes
  have hlk := Bd.notSynchronized
  have hW : ∀ (i : Nat) (d : Jvm.Cond), tables_1[i]? = some d → d.before a0 Z = true := fun i d h => hw d (List.mem_of_getElem? h)
  have hml : c.maxLocals = 6 := hml0
  have hown : s.vm.findClass "com/example/plumeline/plumeline/LoadedMode$Trace" = some m.cls := findClass_of_methodNamed Bd.named
  have hnm := (name_of_methodNamed Bd.named Bd.method).1
  have X0 : Stand p l e ({ frames := 1, cells := 0, slots := 0, locals := 12 } : Room) s m #[(.ref tr), (.ref a)] below meth c s₁ [] 0 0 := Stand.of_body Bd
  have e0 : s₁.heap = h0 := by rw [← hh, Bd.state]; rfl
  have N0 := Fr.nil n0
  refine own_in ?_
  refine own_of (fun tt_ kk_ => castTop (ef_rm6_o m tr a) kk_) ?_
  show own_go p e below s _ _ _ (s₁.setTop (mkF m 0 #[.val (.ref tr), .val (.ref a), .unset, .unset, .unset, .unset] []))
  refine own_of (fun tt_ => XS.aloadN X0.here hx rfl (hb hby d6_0) rfl rfl) ?_
  show own_go p e below s _ _ _ (s₁.setTop (mkF m 1 #[.val (.ref tr), .val (.ref a), .unset, .unset, .unset, .unset] [(.ref a)]))
  obtain ⟨cq1, kq1, q1a, q1b, q1c⟩ := isOf hZ e0 E_a
  obtain ⟨_, _, ⟨T1, L1, k1, n1⟩, -, X1, ⟨Lc1, hQ1, l1, y1, z1⟩, st1⟩ := X0.virtualBack hx (y := (⟨"com/example/plumeline/plumeline/AsmSample", "tS", "()J"⟩ : MethodName)) (z := (⟨"com/example/plumeline/plumeline/AsmSample", "tS", "()J"⟩ : MethodName)) hown (mvT hZ (hW 68 _ rfl)) (mvT hZ (hW 69 _ rfl)) (notFace_of_selects (args := #[]) (mvT hZ (hW 71 _ rfl))) (mvT hZ (hW 71 _ rfl)) (mvT hZ (hW 70 _ rfl)) (by decide) (backOf (W := 0) (rm7 l Z a0 hw [] a t h0 n0 XO0 F_t) hZ (hW 72 _ rfl) (hW 5 _ rfl) (by decide) (by decide)) q1a q1c (g := (mkF m 1 #[.val (.ref tr), .val (.ref a), .unset, .unset, .unset, .unset] [(.ref a)])) rfl (by rw [hml]; rfl) (Steps.refl _) (argsL := []) (rest := []) (lenOf pd_2 rfl) rfl (by show 2 * 0 + _ ≤ _; exact Nat.le_of_eq rfl) (hb hby d6_1) (fun _ _ => ⟨rfl, e0, (by decide : 0 + 0 ≤ _), (by decide : 0 + 0 ≤ _)⟩)
  dsimp only [Pt.U, Pt.locs, Pt.cells, Pt.slots] at X1 l1 y1 z1 st1 hQ1
  subst l1 y1 z1
  obtain ⟨rfl, Nq1, eh1⟩ := hQ1
  have N1 := Fr.app N0 Nq1
  refine own_of (fun tt_ kk_ => st1.trans kk_) ?_
  show own_go p e below s _ _ _ (T1.setTop (mkF m 4 #[.val (.ref tr), .val (.ref a), .unset, .unset, .unset, .unset] [(.long t)]))
  refine own_of (fun tt_ => XS.lstoreN X1.here hx rfl (hb hby d6_4) rfl (l' := #[.val (.ref tr), .val (.ref a), .val (.long t), .second, .unset, .unset]) rfl) ?_
  show own_go p e below s _ _ _ (T1.setTop (mkF m 5 #[.val (.ref tr), .val (.ref a), .val (.long t), .second, .unset, .unset] []))
  refine own_of (fun tt_ => XS.iconst X1.here hx rfl (hb hby d6_5)) ?_
  show own_go p e below s _ _ _ (T1.setTop (mkF m 6 #[.val (.ref tr), .val (.ref a), .val (.long t), .second, .unset, .unset] [(.int (1 : Int32))]))
  refine own_of (fun tt_ => XS.istore X1.here hx rfl (hb hby d6_6) rfl (l' := #[.val (.ref tr), .val (.ref a), .val (.long t), .second, .val (.int (1 : Int32)), .unset]) rfl) ?_
  show own_go p e below s _ _ _ (T1.setTop (mkF m 8 #[.val (.ref tr), .val (.ref a), .val (.long t), .second, .val (.int (1 : Int32)), .unset] []))
  refine own_of (fun tt_ => XS.lloadN X1.here hx rfl (hb hby d6_8) rfl) ?_
  show own_go p e below s _ _ _ (T1.setTop (mkF m 9 #[.val (.ref tr), .val (.ref a), .val (.long t), .second, .val (.int (1 : Int32)), .unset] [(.long t)]))
  refine own_of (fun tt_ => X1.ldc2J hx hown (mvT hZ (hW 73 _ rfl)) rfl (hb hby d6_9)) ?_
  show own_go p e below s _ _ _ (T1.setTop (mkF m 12 #[.val (.ref tr), .val (.ref a), .val (.long t), .second, .val (.int (1 : Int32)), .unset] [(.long (16 : Int64)), (.long t)]))
  refine own_of (fun tt_ => XS.lcmp X1.here hx rfl (hb hby d6_12) rfl) ?_
  show own_go p e below s _ _ _ (T1.setTop (mkF m 13 #[.val (.ref tr), .val (.ref a), .val (.long t), .second, .val (.int (1 : Int32)), .unset] [(.int (lcmpW t (16 : Int64)))]))
  by_cases hb13_2 : (lcmpW t (16 : Int64)) < (0 : Int32)
  · refine own_of (fun tt_ => XS.ifYes X1.here hx rfl (pc0 := 13) (pc' := 62) rfl (hb hby d6_13) rfl ((if0 _ _).trans (tlt hb13_2).1) (by decide) (by decide)) ?_
    show own_go p e below s _ _ _ (T1.setTop (mkF m 62 #[.val (.ref tr), .val (.ref a), .val (.long t), .second, .val (.int (1 : Int32)), .unset] []))
    refine own_of (fun tt_ => XS.iload X1.here hx rfl (hb hby d6_62) rfl) ?_
    show own_go p e below s _ _ _ (T1.setTop (mkF m 64 #[.val (.ref tr), .val (.ref a), .val (.long t), .second, .val (.int (1 : Int32)), .unset] [(.int (1 : Int32))]))
    refine own_ret X1 hx hlk Bd.returns rfl (Or.inl ⟨rfl, by simp, _, rfl⟩) (hb hby d6_64) (by decide) (by decide) ?_
    rw [eh1]
    exact ⟨rfl, N1, rfl⟩
  · refine own_of (fun tt_ => XS.ifNo X1.here hx rfl (hb hby d6_13) rfl ((if0 _ _).trans (flt hb13_2).1)) ?_
    show own_go p e below s _ _ _ (T1.setTop (mkF m 16 #[.val (.ref tr), .val (.ref a), .val (.long t), .second, .val (.int (1 : Int32)), .unset] []))
    refine own_of (fun tt_ => XS.lloadN X1.here hx rfl (hb hby d6_16) rfl) ?_
    show own_go p e below s _ _ _ (T1.setTop (mkF m 17 #[.val (.ref tr), .val (.ref a), .val (.long t), .second, .val (.int (1 : Int32)), .unset] [(.long t)]))
    refine own_of (fun tt_ => X1.ldc2J hx hown (mvT hZ (hW 79 _ rfl)) rfl (hb hby d6_17)) ?_
    show own_go p e below s _ _ _ (T1.setTop (mkF m 20 #[.val (.ref tr), .val (.ref a), .val (.long t), .second, .val (.int (1 : Int32)), .unset] [(.long (90 : Int64)), (.long t)]))
    refine own_of (fun tt_ => XS.lcmp X1.here hx rfl (hb hby d6_20) rfl) ?_
    show own_go p e below s _ _ _ (T1.setTop (mkF m 21 #[.val (.ref tr), .val (.ref a), .val (.long t), .second, .val (.int (1 : Int32)), .unset] [(.int (lcmpW t (90 : Int64)))]))
    have hb21_3 : (0 : Int32) < (lcmpW t (90 : Int64)) := (lw_gt _ _).mpr (hout.resolve_left fun q => hb13_2 ((lw_lt _ _).mpr q))
    refine own_of (fun tt_ => XS.ifYes X1.here hx rfl (pc0 := 21) (pc' := 62) rfl (hb hby d6_21) rfl ((if0 _ _).trans (tlt hb21_3).2.2.1) (by decide) (by decide)) ?_
    show own_go p e below s _ _ _ (T1.setTop (mkF m 62 #[.val (.ref tr), .val (.ref a), .val (.long t), .second, .val (.int (1 : Int32)), .unset] []))
    refine own_of (fun tt_ => XS.iload X1.here hx rfl (hb hby d6_62) rfl) ?_
    show own_go p e below s _ _ _ (T1.setTop (mkF m 64 #[.val (.ref tr), .val (.ref a), .val (.long t), .second, .val (.int (1 : Int32)), .unset] [(.int (1 : Int32))]))
    refine own_ret X1 hx hlk Bd.returns rfl (Or.inl ⟨rfl, by simp, _, rfl⟩) (hb hby d6_64) (by decide) (by decide) ?_
    rw [eh1]
    exact ⟨rfl, N1, rfl⟩
theorem ef_rm6_r (m : MethodId) (x0 : Nat) (x1 : Nat) : entryFrame m #[(.ref x0), (.ref x1)] 6 = mkF m 0 #[.val (.ref x0), .val (.ref x1), .unset, .unset, .unset, .unset] [] := by first | (simp [entryFrame, mkF, argsToLocals, Value.category]; done) | rfl
theorem d6_24 : decode prog_56_method_2_code 24 = .ok (.lload_n 2, 1) := by decide +kernel
theorem d6_25 : decode prog_56_method_2_code 25 = .ok (.ldc2_w 21, 3) := by decide +kernel
theorem d6_28 : decode prog_56_method_2_code 28 = .ok (.lsub, 1) := by decide +kernel
theorem d6_29 : decode prog_56_method_2_code 29 = .ok (.l2i, 1) := by decide +kernel
theorem d6_30 : decode prog_56_method_2_code 30 = .ok (.istore 5, 2) := by decide +kernel
theorem d6_32 : decode prog_56_method_2_code 32 = .ok (.aload_n 0, 1) := by decide +kernel
theorem d6_33 : decode prog_56_method_2_code 33 = .ok (.getfield 11, 3) := by decide +kernel
theorem d6_36 : decode prog_56_method_2_code 36 = .ok (.iload 5, 2) := by decide +kernel
theorem d6_38 : decode prog_56_method_2_code 38 = .ok (.aaload, 1) := by decide +kernel
theorem d6_39 : decode prog_56_method_2_code 39 = .ok (.ifnonnull 7, 3) := by decide +kernel
theorem d6_46 : decode prog_56_method_2_code 46 = .ok (.iconst 0, 1) := by decide +kernel
theorem d6_47 : decode prog_56_method_2_code 47 = .ok (.istore 4, 2) := by decide +kernel
theorem d6_49 : decode prog_56_method_2_code 49 = .ok (.iload 4, 2) := by decide +kernel
theorem d6_51 : decode prog_56_method_2_code 51 = .ok (.ifCond .eq 11, 3) := by decide +kernel
def Q_rm6_r (Z : State) (tr : Nat) (a : Nat) (t : Int64) (bs : Nat) (k : ClassId) (vs : List Value) (z : Nat) (h0 : Heap) (n0 : Nat) (v : Option Value) (h : Heap) (L : List Loc) : Prop := v = some (.int 0) ∧ Fr n0 L ∧ h = h0
set_option maxRecDepth 65536 in
set_option maxHeartbeats 40000000 in
theorem rm6_r (l : Launch) (Z : State) (a0 : Array Value) (hw : ∀ d ∈ tables_1, d.before a0 Z = true) (ws : List Jvm.Cond) (tr : Nat) (a : Nat) (t : Int64) (bs : Nat) (k : ClassId) (vs : List Value) (z : Nat) (h0 : Heap) (n0 : Nat) (XO0 : Old Z n0 h0) (E_a : Exa Z h0 a "com/example/plumeline/plumeline/AsmSample") (F_t : Fld Z h0 a "com/example/plumeline/plumeline/AsmSample" "tS" "J" (.long t)) (F_s : Fld Z h0 tr "com/example/plumeline/plumeline/LoadedMode$Trace" "samples" "[Lcom/example/plumeline/plumeline/AsmSample;" (.ref bs)) (V_s : Arv Z h0 bs k (.object "com/example/plumeline/plumeline/AsmSample") (75 : Int32) vs .null) (Ov : Ovr Z k "com/example/plumeline/plumeline/AsmSample") (hlen : vs.length = 75) (g_bs : n0 ≤ bs) (hlo : ¬ t < 16) (hhi : ¬ 90 < t) (hat : vs.getD (t.toInt - 16).toNat .null = (.ref z)) :
    MetFree l (⟨"com/example/plumeline/plumeline/LoadedMode$Trace", "add", "(Lcom/example/plumeline/plumeline/AsmSample;)Z"⟩ : MethodName) (head1 (Jvm.Cond.code (⟨"com/example/plumeline/plumeline/LoadedMode$Trace", "add", "(Lcom/example/plumeline/plumeline/AsmSample;)Z"⟩ : MethodName) prog_56_method_2_code 6 (some .boolean) :: ws) ({ frames := 1, cells := 0, slots := 0, locals := 12 } : Room)) (fun zz_ U => zz_ = #[(.ref tr), (.ref a)] ∧ Z.Warmed39 U.vm ∧ U.heap = h0) (fun _ _ _ _ _ => True) (fun _ U o U' => ∃ v L, o = .returned v ∧ Q_rm6_r Z tr a t bs k vs z h0 n0 v U'.heap L ∧ FrameEnd U o U' L ({ frames := 1, cells := 0, slots := 0, locals := 12 } : Room).cells ({ frames := 1, cells := 0, slots := 0, locals := 12 } : Room).slots) := by
  refine MetFree.of_bodySF (plainFor_of_name pn_3) hisR ?_
  intro p e s m args below meth c s₁ Bd hml0 hP hK
  obtain ⟨rfl, hZ, hh⟩ := hP
  have hx := Bd.exec
  have hby := Bd.bytes
  have hlk := Bd.notSynchronized
  have hW : ∀ (i : Nat) (d : Jvm.Cond), tables_1[i]? = some d → d.before a0 Z = true := fun i d h => hw d (List.mem_of_getElem? h)
  have hml : c.maxLocals = 6 := hml0
  have hown : s.vm.findClass "com/example/plumeline/plumeline/LoadedMode$Trace" = some m.cls := findClass_of_methodNamed Bd.named
  have hnm := (name_of_methodNamed Bd.named Bd.method).1
  have X0 : Stand p l e ({ frames := 1, cells := 0, slots := 0, locals := 12 } : Room) s m #[(.ref tr), (.ref a)] below meth c s₁ [] 0 0 := Stand.of_body Bd
  have e0 : s₁.heap = h0 := by rw [← hh, Bd.state]; rfl
  have N0 := Fr.nil n0
  refine own_in ?_
  refine own_of (fun tt_ kk_ => castTop (ef_rm6_r m tr a) kk_) ?_
  show own_go p e below s _ _ _ (s₁.setTop (mkF m 0 #[.val (.ref tr), .val (.ref a), .unset, .unset, .unset, .unset] []))
  refine own_of (fun tt_ => XS.aloadN X0.here hx rfl (hb hby d6_0) rfl rfl) ?_
  show own_go p e below s _ _ _ (s₁.setTop (mkF m 1 #[.val (.ref tr), .val (.ref a), .unset, .unset, .unset, .unset] [(.ref a)]))
  obtain ⟨cq1, kq1, q1a, q1b, q1c⟩ := isOf hZ e0 E_a
  obtain ⟨_, _, ⟨T1, L1, k1, n1⟩, -, X1, ⟨Lc1, hQ1, l1, y1, z1⟩, st1⟩ := X0.virtualBack hx (y := (⟨"com/example/plumeline/plumeline/AsmSample", "tS", "()J"⟩ : MethodName)) (z := (⟨"com/example/plumeline/plumeline/AsmSample", "tS", "()J"⟩ : MethodName)) hown (mvT hZ (hW 68 _ rfl)) (mvT hZ (hW 69 _ rfl)) (notFace_of_selects (args := #[]) (mvT hZ (hW 71 _ rfl))) (mvT hZ (hW 71 _ rfl)) (mvT hZ (hW 70 _ rfl)) (by decide) (backOf (W := 0) (rm7 l Z a0 hw [] a t h0 n0 XO0 F_t) hZ (hW 72 _ rfl) (hW 5 _ rfl) (by decide) (by decide)) q1a q1c (g := (mkF m 1 #[.val (.ref tr), .val (.ref a), .unset, .unset, .unset, .unset] [(.ref a)])) rfl (by rw [hml]; rfl) (Steps.refl _) (argsL := []) (rest := []) (lenOf pd_2 rfl) rfl (by show 2 * 0 + _ ≤ _; exact Nat.le_of_eq rfl) (hb hby d6_1) (fun _ _ => ⟨rfl, e0, (by decide : 0 + 0 ≤ _), (by decide : 0 + 0 ≤ _)⟩)
  dsimp only [Pt.U, Pt.locs, Pt.cells, Pt.slots] at X1 l1 y1 z1 st1 hQ1
  subst l1 y1 z1
  obtain ⟨rfl, Nq1, eh1⟩ := hQ1
  have N1 := Fr.app N0 Nq1
  refine own_of (fun tt_ kk_ => st1.trans kk_) ?_
  show own_go p e below s _ _ _ (T1.setTop (mkF m 4 #[.val (.ref tr), .val (.ref a), .unset, .unset, .unset, .unset] [(.long t)]))
  refine own_of (fun tt_ => XS.lstoreN X1.here hx rfl (hb hby d6_4) rfl (l' := #[.val (.ref tr), .val (.ref a), .val (.long t), .second, .unset, .unset]) rfl) ?_
  show own_go p e below s _ _ _ (T1.setTop (mkF m 5 #[.val (.ref tr), .val (.ref a), .val (.long t), .second, .unset, .unset] []))
  refine own_of (fun tt_ => XS.iconst X1.here hx rfl (hb hby d6_5)) ?_
  show own_go p e below s _ _ _ (T1.setTop (mkF m 6 #[.val (.ref tr), .val (.ref a), .val (.long t), .second, .unset, .unset] [(.int (1 : Int32))]))
  refine own_of (fun tt_ => XS.istore X1.here hx rfl (hb hby d6_6) rfl (l' := #[.val (.ref tr), .val (.ref a), .val (.long t), .second, .val (.int (1 : Int32)), .unset]) rfl) ?_
  show own_go p e below s _ _ _ (T1.setTop (mkF m 8 #[.val (.ref tr), .val (.ref a), .val (.long t), .second, .val (.int (1 : Int32)), .unset] []))
  refine own_of (fun tt_ => XS.lloadN X1.here hx rfl (hb hby d6_8) rfl) ?_
  show own_go p e below s _ _ _ (T1.setTop (mkF m 9 #[.val (.ref tr), .val (.ref a), .val (.long t), .second, .val (.int (1 : Int32)), .unset] [(.long t)]))
  refine own_of (fun tt_ => X1.ldc2J hx hown (mvT hZ (hW 73 _ rfl)) rfl (hb hby d6_9)) ?_
  show own_go p e below s _ _ _ (T1.setTop (mkF m 12 #[.val (.ref tr), .val (.ref a), .val (.long t), .second, .val (.int (1 : Int32)), .unset] [(.long (16 : Int64)), (.long t)]))
  refine own_of (fun tt_ => XS.lcmp X1.here hx rfl (hb hby d6_12) rfl) ?_
  show own_go p e below s _ _ _ (T1.setTop (mkF m 13 #[.val (.ref tr), .val (.ref a), .val (.long t), .second, .val (.int (1 : Int32)), .unset] [(.int (lcmpW t (16 : Int64)))]))
  have hb13_2 : ¬ ((lcmpW t (16 : Int64)) < (0 : Int32)) := fun q => hlo ((lw_lt _ _).mp q)
  refine own_of (fun tt_ => XS.ifNo X1.here hx rfl (hb hby d6_13) rfl ((if0 _ _).trans (flt hb13_2).1)) ?_
  show own_go p e below s _ _ _ (T1.setTop (mkF m 16 #[.val (.ref tr), .val (.ref a), .val (.long t), .second, .val (.int (1 : Int32)), .unset] []))
  refine own_of (fun tt_ => XS.lloadN X1.here hx rfl (hb hby d6_16) rfl) ?_
  show own_go p e below s _ _ _ (T1.setTop (mkF m 17 #[.val (.ref tr), .val (.ref a), .val (.long t), .second, .val (.int (1 : Int32)), .unset] [(.long t)]))
  refine own_of (fun tt_ => X1.ldc2J hx hown (mvT hZ (hW 79 _ rfl)) rfl (hb hby d6_17)) ?_
  show own_go p e below s _ _ _ (T1.setTop (mkF m 20 #[.val (.ref tr), .val (.ref a), .val (.long t), .second, .val (.int (1 : Int32)), .unset] [(.long (90 : Int64)), (.long t)]))
  refine own_of (fun tt_ => XS.lcmp X1.here hx rfl (hb hby d6_20) rfl) ?_
  show own_go p e below s _ _ _ (T1.setTop (mkF m 21 #[.val (.ref tr), .val (.ref a), .val (.long t), .second, .val (.int (1 : Int32)), .unset] [(.int (lcmpW t (90 : Int64)))]))
  have hb21_3 : ¬ ((0 : Int32) < (lcmpW t (90 : Int64))) := fun q => hhi ((lw_gt _ _).mp q)
  refine own_of (fun tt_ => XS.ifNo X1.here hx rfl (hb hby d6_21) rfl ((if0 _ _).trans (flt hb21_3).2.2.1)) ?_
  show own_go p e below s _ _ _ (T1.setTop (mkF m 24 #[.val (.ref tr), .val (.ref a), .val (.long t), .second, .val (.int (1 : Int32)), .unset] []))
  refine own_of (fun tt_ => XS.lloadN X1.here hx rfl (hb hby d6_24) rfl) ?_
  show own_go p e below s _ _ _ (T1.setTop (mkF m 25 #[.val (.ref tr), .val (.ref a), .val (.long t), .second, .val (.int (1 : Int32)), .unset] [(.long t)]))
  refine own_of (fun tt_ => X1.ldc2J hx hown (mvT hZ (hW 73 _ rfl)) rfl (hb hby d6_25)) ?_
  show own_go p e below s _ _ _ (T1.setTop (mkF m 28 #[.val (.ref tr), .val (.ref a), .val (.long t), .second, .val (.int (1 : Int32)), .unset] [(.long (16 : Int64)), (.long t)]))
  refine own_of (fun tt_ => XS.lsub X1.here hx rfl (hb hby d6_28) rfl) ?_
  show own_go p e below s _ _ _ (T1.setTop (mkF m 29 #[.val (.ref tr), .val (.ref a), .val (.long t), .second, .val (.int (1 : Int32)), .unset] [(.long (t - (16 : Int64)))]))
  refine own_of (fun tt_ => XS.l2i X1.here hx rfl (hb hby d6_29) rfl) ?_
  show own_go p e below s _ _ _ (T1.setTop (mkF m 30 #[.val (.ref tr), .val (.ref a), .val (.long t), .second, .val (.int (1 : Int32)), .unset] [(.int ((t - (16 : Int64)).toInt32))]))
  refine own_of (fun tt_ => XS.istore X1.here hx rfl (hb hby d6_30) rfl (l' := #[.val (.ref tr), .val (.ref a), .val (.long t), .second, .val (.int (1 : Int32)), .val (.int ((t - (16 : Int64)).toInt32))]) rfl) ?_
  show own_go p e below s _ _ _ (T1.setTop (mkF m 32 #[.val (.ref tr), .val (.ref a), .val (.long t), .second, .val (.int (1 : Int32)), .val (.int ((t - (16 : Int64)).toInt32))] []))
  refine own_of (fun tt_ => XS.aloadN X1.here hx rfl (hb hby d6_32) rfl rfl) ?_
  show own_go p e below s _ _ _ (T1.setTop (mkF m 33 #[.val (.ref tr), .val (.ref a), .val (.long t), .second, .val (.int (1 : Int32)), .val (.int ((t - (16 : Int64)).toInt32))] [(.ref tr)]))
  obtain ⟨T4, X4, e4, st4⟩ := getF X1 hx hZ hown (host := "") (Or.inl (hW 61 _ rfl)) Via.refl eh1 F_s (g := (mkF m 33 #[.val (.ref tr), .val (.ref a), .val (.long t), .second, .val (.int (1 : Int32)), .val (.int ((t - (16 : Int64)).toInt32))] [(.ref tr)])) rfl rfl (hb hby d6_33)
  refine own_of st4 ?_
  show own_go p e below s _ _ _ (T4.setTop (mkF m 36 #[.val (.ref tr), .val (.ref a), .val (.long t), .second, .val (.int (1 : Int32)), .val (.int ((t - (16 : Int64)).toInt32))] [(.ref bs)]))
  refine own_of (fun tt_ => XS.iload X4.here hx rfl (hb hby d6_36) rfl) ?_
  show own_go p e below s _ _ _ (T4.setTop (mkF m 38 #[.val (.ref tr), .val (.ref a), .val (.long t), .second, .val (.int (1 : Int32)), .val (.int ((t - (16 : Int64)).toInt32))] [(.int ((t - (16 : Int64)).toInt32)), (.ref bs)]))
  obtain ⟨cl5, Ar5, q5, S5, Ng5, H5, G5⟩ := id V_s
  have hin5 : ¬ (((t - (16 : Int64)).toInt32) < 0 ∨ cl5.slots.size ≤ (((t - (16 : Int64)).toInt32)).toNatClampNeg) := own_inb hlo hhi S5
  have hat5 : cl5.slots[(((t - (16 : Int64)).toInt32)).toNatClampNeg]? = some (.ref z) := by rw [own_place hlo hhi, H5 _ (by rw [S5]; exact own_lt75 hlo hhi), hat]
  refine own_of (fun tt_ => X4.aaload hx (j := ((t - (16 : Int64)).toInt32)) (v := (.ref z)) (by rw [e4]; exact Ar5.1) (State.isArrayOf_alike hZ.alike Ar5.2.1) rfl Ar5.2.2 hin5 hat5 (g := (mkF m 38 #[.val (.ref tr), .val (.ref a), .val (.long t), .second, .val (.int (1 : Int32)), .val (.int ((t - (16 : Int64)).toInt32))] [(.int ((t - (16 : Int64)).toInt32)), (.ref bs)])) rfl rfl (hb hby d6_38) _) ?_
  show own_go p e below s _ _ _ (T4.setTop (mkF m 39 #[.val (.ref tr), .val (.ref a), .val (.long t), .second, .val (.int (1 : Int32)), .val (.int ((t - (16 : Int64)).toInt32))] [(.ref z)]))
  refine own_of (fun tt_ => XS.ifnonnullYes X4.here hx rfl (pc0 := 39) (pc' := 46) rfl (hb hby d6_39) rfl (by decide) (by decide)) ?_
  show own_go p e below s _ _ _ (T4.setTop (mkF m 46 #[.val (.ref tr), .val (.ref a), .val (.long t), .second, .val (.int (1 : Int32)), .val (.int ((t - (16 : Int64)).toInt32))] []))
  refine own_of (fun tt_ => XS.iconst X4.here hx rfl (hb hby d6_46)) ?_
  show own_go p e below s _ _ _ (T4.setTop (mkF m 47 #[.val (.ref tr), .val (.ref a), .val (.long t), .second, .val (.int (1 : Int32)), .val (.int ((t - (16 : Int64)).toInt32))] [(.int (0 : Int32))]))
  refine own_of (fun tt_ => XS.istore X4.here hx rfl (hb hby d6_47) rfl (l' := #[.val (.ref tr), .val (.ref a), .val (.long t), .second, .val (.int (0 : Int32)), .val (.int ((t - (16 : Int64)).toInt32))]) rfl) ?_
  show own_go p e below s _ _ _ (T4.setTop (mkF m 49 #[.val (.ref tr), .val (.ref a), .val (.long t), .second, .val (.int (0 : Int32)), .val (.int ((t - (16 : Int64)).toInt32))] []))
  refine own_of (fun tt_ => XS.iload X4.here hx rfl (hb hby d6_49) rfl) ?_
  show own_go p e below s _ _ _ (T4.setTop (mkF m 51 #[.val (.ref tr), .val (.ref a), .val (.long t), .second, .val (.int (0 : Int32)), .val (.int ((t - (16 : Int64)).toInt32))] [(.int (0 : Int32))]))
  have hb51_6 : (0 : Int32) = (0 : Int32) := by decide
  refine own_of (fun tt_ => XS.ifYes X4.here hx rfl (pc0 := 51) (pc' := 62) rfl (hb hby d6_51) rfl ((if0 _ _).trans (teq hb51_6).1) (by decide) (by decide)) ?_
  show own_go p e below s _ _ _ (T4.setTop (mkF m 62 #[.val (.ref tr), .val (.ref a), .val (.long t), .second, .val (.int (0 : Int32)), .val (.int ((t - (16 : Int64)).toInt32))] []))
  refine own_of (fun tt_ => XS.iload X4.here hx rfl (hb hby d6_62) rfl) ?_
  show own_go p e below s _ _ _ (T4.setTop (mkF m 64 #[.val (.ref tr), .val (.ref a), .val (.long t), .second, .val (.int (0 : Int32)), .val (.int ((t - (16 : Int64)).toInt32))] [(.int (0 : Int32))]))
  refine own_ret X4 hx hlk Bd.returns rfl (Or.inl ⟨rfl, by simp, _, rfl⟩) (hb hby d6_64) (by decide) (by decide) ?_
  rw [e4]
  exact ⟨rfl, N1, rfl⟩
theorem ef_rm6_n (m : MethodId) (x0 : Nat) (x1 : Nat) : entryFrame m #[(.ref x0), (.ref x1)] 6 = mkF m 0 #[.val (.ref x0), .val (.ref x1), .unset, .unset, .unset, .unset] [] := by first | (simp [entryFrame, mkF, argsToLocals, Value.category]; done) | rfl
theorem d6_42 : decode prog_56_method_2_code 42 = .ok (.iconst 1, 1) := by decide +kernel
theorem d6_43 : decode prog_56_method_2_code 43 = .ok (.goto 4, 3) := by decide +kernel
theorem d6_54 : decode prog_56_method_2_code 54 = .ok (.aload_n 0, 1) := by decide +kernel
theorem d6_55 : decode prog_56_method_2_code 55 = .ok (.getfield 11, 3) := by decide +kernel
theorem d6_58 : decode prog_56_method_2_code 58 = .ok (.iload 5, 2) := by decide +kernel
theorem d6_60 : decode prog_56_method_2_code 60 = .ok (.aload_n 1, 1) := by decide +kernel
theorem d6_61 : decode prog_56_method_2_code 61 = .ok (.aastore, 1) := by decide +kernel
def Q_rm6_n (Z : State) (tr : Nat) (a : Nat) (t : Int64) (bs : Nat) (k : ClassId) (vs : List Value) (z : Nat) (h0 : Heap) (n0 : Nat) (v : Option Value) (h : Heap) (L : List Loc) : Prop := v = some (.int 1) ∧ Fr n0 L ∧ Keep h0 h [bs] ∧ Arv Z h bs k (.object "com/example/plumeline/plumeline/AsmSample") (75 : Int32) (vs.set (t.toInt - 16).toNat (.ref a)) .null
set_option maxRecDepth 65536 in
set_option maxHeartbeats 40000000 in
theorem rm6_n (l : Launch) (Z : State) (a0 : Array Value) (hw : ∀ d ∈ tables_1, d.before a0 Z = true) (ws : List Jvm.Cond) (tr : Nat) (a : Nat) (t : Int64) (bs : Nat) (k : ClassId) (vs : List Value) (z : Nat) (h0 : Heap) (n0 : Nat) (XO0 : Old Z n0 h0) (E_a : Exa Z h0 a "com/example/plumeline/plumeline/AsmSample") (F_t : Fld Z h0 a "com/example/plumeline/plumeline/AsmSample" "tS" "J" (.long t)) (F_s : Fld Z h0 tr "com/example/plumeline/plumeline/LoadedMode$Trace" "samples" "[Lcom/example/plumeline/plumeline/AsmSample;" (.ref bs)) (V_s : Arv Z h0 bs k (.object "com/example/plumeline/plumeline/AsmSample") (75 : Int32) vs .null) (Ov : Ovr Z k "com/example/plumeline/plumeline/AsmSample") (hlen : vs.length = 75) (g_bs : n0 ≤ bs) (hlo : ¬ t < 16) (hhi : ¬ 90 < t) (hat : vs.getD (t.toInt - 16).toNat .null = .null) :
    MetFree l (⟨"com/example/plumeline/plumeline/LoadedMode$Trace", "add", "(Lcom/example/plumeline/plumeline/AsmSample;)Z"⟩ : MethodName) (head1 (Jvm.Cond.code (⟨"com/example/plumeline/plumeline/LoadedMode$Trace", "add", "(Lcom/example/plumeline/plumeline/AsmSample;)Z"⟩ : MethodName) prog_56_method_2_code 6 (some .boolean) :: ws) ({ frames := 1, cells := 0, slots := 0, locals := 12 } : Room)) (fun zz_ U => zz_ = #[(.ref tr), (.ref a)] ∧ Z.Warmed39 U.vm ∧ U.heap = h0) (fun _ _ _ _ _ => True) (fun _ U o U' => ∃ v L, o = .returned v ∧ Q_rm6_n Z tr a t bs k vs z h0 n0 v U'.heap L ∧ FrameEnd U o U' L ({ frames := 1, cells := 0, slots := 0, locals := 12 } : Room).cells ({ frames := 1, cells := 0, slots := 0, locals := 12 } : Room).slots) := by
  refine MetFree.of_bodySF (plainFor_of_name pn_3) hisR ?_
  intro p e s m args below meth c s₁ Bd hml0 hP hK
  obtain ⟨rfl, hZ, hh⟩ := hP
  have hx := Bd.exec
  have hby := Bd.bytes
  have hlk := Bd.notSynchronized
  have hW : ∀ (i : Nat) (d : Jvm.Cond), tables_1[i]? = some d → d.before a0 Z = true := fun i d h => hw d (List.mem_of_getElem? h)
  have hml : c.maxLocals = 6 := hml0
  have hown : s.vm.findClass "com/example/plumeline/plumeline/LoadedMode$Trace" = some m.cls := findClass_of_methodNamed Bd.named
  have hnm := (name_of_methodNamed Bd.named Bd.method).1
  have X0 : Stand p l e ({ frames := 1, cells := 0, slots := 0, locals := 12 } : Room) s m #[(.ref tr), (.ref a)] below meth c s₁ [] 0 0 := Stand.of_body Bd
  have e0 : s₁.heap = h0 := by rw [← hh, Bd.state]; rfl
  have N0 := Fr.nil n0
  refine own_in ?_
  refine own_of (fun tt_ kk_ => castTop (ef_rm6_n m tr a) kk_) ?_
  show own_go p e below s _ _ _ (s₁.setTop (mkF m 0 #[.val (.ref tr), .val (.ref a), .unset, .unset, .unset, .unset] []))
  refine own_of (fun tt_ => XS.aloadN X0.here hx rfl (hb hby d6_0) rfl rfl) ?_
  show own_go p e below s _ _ _ (s₁.setTop (mkF m 1 #[.val (.ref tr), .val (.ref a), .unset, .unset, .unset, .unset] [(.ref a)]))
  have K0 : Keep h0 h0 [bs] := Keep.refl h0 [bs]
  have lt_bs := own_lt V_s.lt
  obtain ⟨cq1, kq1, q1a, q1b, q1c⟩ := isOf hZ e0 E_a
  obtain ⟨_, _, ⟨T1, L1, k1, n1⟩, -, X1, ⟨Lc1, hQ1, l1, y1, z1⟩, st1⟩ := X0.virtualBack hx (y := (⟨"com/example/plumeline/plumeline/AsmSample", "tS", "()J"⟩ : MethodName)) (z := (⟨"com/example/plumeline/plumeline/AsmSample", "tS", "()J"⟩ : MethodName)) hown (mvT hZ (hW 68 _ rfl)) (mvT hZ (hW 69 _ rfl)) (notFace_of_selects (args := #[]) (mvT hZ (hW 71 _ rfl))) (mvT hZ (hW 71 _ rfl)) (mvT hZ (hW 70 _ rfl)) (by decide) (backOf (W := 0) (rm7 l Z a0 hw [] a t h0 n0 XO0 F_t) hZ (hW 72 _ rfl) (hW 5 _ rfl) (by decide) (by decide)) q1a q1c (g := (mkF m 1 #[.val (.ref tr), .val (.ref a), .unset, .unset, .unset, .unset] [(.ref a)])) rfl (by rw [hml]; rfl) (Steps.refl _) (argsL := []) (rest := []) (lenOf pd_2 rfl) rfl (by show 2 * 0 + _ ≤ _; exact Nat.le_of_eq rfl) (hb hby d6_1) (fun _ _ => ⟨rfl, e0, (by decide : 0 + 0 ≤ _), (by decide : 0 + 0 ≤ _)⟩)
  dsimp only [Pt.U, Pt.locs, Pt.cells, Pt.slots] at X1 l1 y1 z1 st1 hQ1
  subst l1 y1 z1
  obtain ⟨rfl, Nq1, eh1⟩ := hQ1
  have N1 := Fr.app N0 Nq1
  refine own_of (fun tt_ kk_ => st1.trans kk_) ?_
  show own_go p e below s _ _ _ (T1.setTop (mkF m 4 #[.val (.ref tr), .val (.ref a), .unset, .unset, .unset, .unset] [(.long t)]))
  refine own_of (fun tt_ => XS.lstoreN X1.here hx rfl (hb hby d6_4) rfl (l' := #[.val (.ref tr), .val (.ref a), .val (.long t), .second, .unset, .unset]) rfl) ?_
  show own_go p e below s _ _ _ (T1.setTop (mkF m 5 #[.val (.ref tr), .val (.ref a), .val (.long t), .second, .unset, .unset] []))
  refine own_of (fun tt_ => XS.iconst X1.here hx rfl (hb hby d6_5)) ?_
  show own_go p e below s _ _ _ (T1.setTop (mkF m 6 #[.val (.ref tr), .val (.ref a), .val (.long t), .second, .unset, .unset] [(.int (1 : Int32))]))
  refine own_of (fun tt_ => XS.istore X1.here hx rfl (hb hby d6_6) rfl (l' := #[.val (.ref tr), .val (.ref a), .val (.long t), .second, .val (.int (1 : Int32)), .unset]) rfl) ?_
  show own_go p e below s _ _ _ (T1.setTop (mkF m 8 #[.val (.ref tr), .val (.ref a), .val (.long t), .second, .val (.int (1 : Int32)), .unset] []))
  refine own_of (fun tt_ => XS.lloadN X1.here hx rfl (hb hby d6_8) rfl) ?_
  show own_go p e below s _ _ _ (T1.setTop (mkF m 9 #[.val (.ref tr), .val (.ref a), .val (.long t), .second, .val (.int (1 : Int32)), .unset] [(.long t)]))
  refine own_of (fun tt_ => X1.ldc2J hx hown (mvT hZ (hW 73 _ rfl)) rfl (hb hby d6_9)) ?_
  show own_go p e below s _ _ _ (T1.setTop (mkF m 12 #[.val (.ref tr), .val (.ref a), .val (.long t), .second, .val (.int (1 : Int32)), .unset] [(.long (16 : Int64)), (.long t)]))
  refine own_of (fun tt_ => XS.lcmp X1.here hx rfl (hb hby d6_12) rfl) ?_
  show own_go p e below s _ _ _ (T1.setTop (mkF m 13 #[.val (.ref tr), .val (.ref a), .val (.long t), .second, .val (.int (1 : Int32)), .unset] [(.int (lcmpW t (16 : Int64)))]))
  have hb13_2 : ¬ ((lcmpW t (16 : Int64)) < (0 : Int32)) := fun q => hlo ((lw_lt _ _).mp q)
  refine own_of (fun tt_ => XS.ifNo X1.here hx rfl (hb hby d6_13) rfl ((if0 _ _).trans (flt hb13_2).1)) ?_
  show own_go p e below s _ _ _ (T1.setTop (mkF m 16 #[.val (.ref tr), .val (.ref a), .val (.long t), .second, .val (.int (1 : Int32)), .unset] []))
  refine own_of (fun tt_ => XS.lloadN X1.here hx rfl (hb hby d6_16) rfl) ?_
  show own_go p e below s _ _ _ (T1.setTop (mkF m 17 #[.val (.ref tr), .val (.ref a), .val (.long t), .second, .val (.int (1 : Int32)), .unset] [(.long t)]))
  refine own_of (fun tt_ => X1.ldc2J hx hown (mvT hZ (hW 79 _ rfl)) rfl (hb hby d6_17)) ?_
  show own_go p e below s _ _ _ (T1.setTop (mkF m 20 #[.val (.ref tr), .val (.ref a), .val (.long t), .second, .val (.int (1 : Int32)), .unset] [(.long (90 : Int64)), (.long t)]))
  refine own_of (fun tt_ => XS.lcmp X1.here hx rfl (hb hby d6_20) rfl) ?_
  show own_go p e below s _ _ _ (T1.setTop (mkF m 21 #[.val (.ref tr), .val (.ref a), .val (.long t), .second, .val (.int (1 : Int32)), .unset] [(.int (lcmpW t (90 : Int64)))]))
  have hb21_3 : ¬ ((0 : Int32) < (lcmpW t (90 : Int64))) := fun q => hhi ((lw_gt _ _).mp q)
  refine own_of (fun tt_ => XS.ifNo X1.here hx rfl (hb hby d6_21) rfl ((if0 _ _).trans (flt hb21_3).2.2.1)) ?_
  show own_go p e below s _ _ _ (T1.setTop (mkF m 24 #[.val (.ref tr), .val (.ref a), .val (.long t), .second, .val (.int (1 : Int32)), .unset] []))
  refine own_of (fun tt_ => XS.lloadN X1.here hx rfl (hb hby d6_24) rfl) ?_
  show own_go p e below s _ _ _ (T1.setTop (mkF m 25 #[.val (.ref tr), .val (.ref a), .val (.long t), .second, .val (.int (1 : Int32)), .unset] [(.long t)]))
  refine own_of (fun tt_ => X1.ldc2J hx hown (mvT hZ (hW 73 _ rfl)) rfl (hb hby d6_25)) ?_
  show own_go p e below s _ _ _ (T1.setTop (mkF m 28 #[.val (.ref tr), .val (.ref a), .val (.long t), .second, .val (.int (1 : Int32)), .unset] [(.long (16 : Int64)), (.long t)]))
  refine own_of (fun tt_ => XS.lsub X1.here hx rfl (hb hby d6_28) rfl) ?_
  show own_go p e below s _ _ _ (T1.setTop (mkF m 29 #[.val (.ref tr), .val (.ref a), .val (.long t), .second, .val (.int (1 : Int32)), .unset] [(.long (t - (16 : Int64)))]))
  refine own_of (fun tt_ => XS.l2i X1.here hx rfl (hb hby d6_29) rfl) ?_
  show own_go p e below s _ _ _ (T1.setTop (mkF m 30 #[.val (.ref tr), .val (.ref a), .val (.long t), .second, .val (.int (1 : Int32)), .unset] [(.int ((t - (16 : Int64)).toInt32))]))
  refine own_of (fun tt_ => XS.istore X1.here hx rfl (hb hby d6_30) rfl (l' := #[.val (.ref tr), .val (.ref a), .val (.long t), .second, .val (.int (1 : Int32)), .val (.int ((t - (16 : Int64)).toInt32))]) rfl) ?_
  show own_go p e below s _ _ _ (T1.setTop (mkF m 32 #[.val (.ref tr), .val (.ref a), .val (.long t), .second, .val (.int (1 : Int32)), .val (.int ((t - (16 : Int64)).toInt32))] []))
  refine own_of (fun tt_ => XS.aloadN X1.here hx rfl (hb hby d6_32) rfl rfl) ?_
  show own_go p e below s _ _ _ (T1.setTop (mkF m 33 #[.val (.ref tr), .val (.ref a), .val (.long t), .second, .val (.int (1 : Int32)), .val (.int ((t - (16 : Int64)).toInt32))] [(.ref tr)]))
  obtain ⟨T4, X4, e4, st4⟩ := getF X1 hx hZ hown (host := "") (Or.inl (hW 61 _ rfl)) Via.refl eh1 F_s (g := (mkF m 33 #[.val (.ref tr), .val (.ref a), .val (.long t), .second, .val (.int (1 : Int32)), .val (.int ((t - (16 : Int64)).toInt32))] [(.ref tr)])) rfl rfl (hb hby d6_33)
  refine own_of st4 ?_
  show own_go p e below s _ _ _ (T4.setTop (mkF m 36 #[.val (.ref tr), .val (.ref a), .val (.long t), .second, .val (.int (1 : Int32)), .val (.int ((t - (16 : Int64)).toInt32))] [(.ref bs)]))
  refine own_of (fun tt_ => XS.iload X4.here hx rfl (hb hby d6_36) rfl) ?_
  show own_go p e below s _ _ _ (T4.setTop (mkF m 38 #[.val (.ref tr), .val (.ref a), .val (.long t), .second, .val (.int (1 : Int32)), .val (.int ((t - (16 : Int64)).toInt32))] [(.int ((t - (16 : Int64)).toInt32)), (.ref bs)]))
  obtain ⟨cl5, Ar5, q5, S5, Ng5, H5, G5⟩ := id V_s
  have hin5 : ¬ (((t - (16 : Int64)).toInt32) < 0 ∨ cl5.slots.size ≤ (((t - (16 : Int64)).toInt32)).toNatClampNeg) := own_inb hlo hhi S5
  have hat5 : cl5.slots[(((t - (16 : Int64)).toInt32)).toNatClampNeg]? = some .null := by rw [own_place hlo hhi, H5 _ (by rw [S5]; exact own_lt75 hlo hhi), hat]
  refine own_of (fun tt_ => X4.aaload hx (j := ((t - (16 : Int64)).toInt32)) (v := .null) (by rw [e4]; exact Ar5.1) (State.isArrayOf_alike hZ.alike Ar5.2.1) rfl Ar5.2.2 hin5 hat5 (g := (mkF m 38 #[.val (.ref tr), .val (.ref a), .val (.long t), .second, .val (.int (1 : Int32)), .val (.int ((t - (16 : Int64)).toInt32))] [(.int ((t - (16 : Int64)).toInt32)), (.ref bs)])) rfl rfl (hb hby d6_38) _) ?_
  show own_go p e below s _ _ _ (T4.setTop (mkF m 39 #[.val (.ref tr), .val (.ref a), .val (.long t), .second, .val (.int (1 : Int32)), .val (.int ((t - (16 : Int64)).toInt32))] [.null]))
  refine own_of (fun tt_ => XS.ifnonnullNo X4.here hx rfl (hb hby d6_39) rfl) ?_
  show own_go p e below s _ _ _ (T4.setTop (mkF m 42 #[.val (.ref tr), .val (.ref a), .val (.long t), .second, .val (.int (1 : Int32)), .val (.int ((t - (16 : Int64)).toInt32))] []))
  refine own_of (fun tt_ => XS.iconst X4.here hx rfl (hb hby d6_42)) ?_
  show own_go p e below s _ _ _ (T4.setTop (mkF m 43 #[.val (.ref tr), .val (.ref a), .val (.long t), .second, .val (.int (1 : Int32)), .val (.int ((t - (16 : Int64)).toInt32))] [(.int (1 : Int32))]))
  refine own_of (fun tt_ => XS.goto X4.here hx rfl (pc0 := 43) (pc' := 47) rfl (hb hby d6_43) (by decide) (by decide)) ?_
  show own_go p e below s _ _ _ (T4.setTop (mkF m 47 #[.val (.ref tr), .val (.ref a), .val (.long t), .second, .val (.int (1 : Int32)), .val (.int ((t - (16 : Int64)).toInt32))] [(.int (1 : Int32))]))
  refine own_of (fun tt_ => XS.istore X4.here hx rfl (hb hby d6_47) rfl (l' := #[.val (.ref tr), .val (.ref a), .val (.long t), .second, .val (.int (1 : Int32)), .val (.int ((t - (16 : Int64)).toInt32))]) rfl) ?_
  show own_go p e below s _ _ _ (T4.setTop (mkF m 49 #[.val (.ref tr), .val (.ref a), .val (.long t), .second, .val (.int (1 : Int32)), .val (.int ((t - (16 : Int64)).toInt32))] []))
  refine own_of (fun tt_ => XS.iload X4.here hx rfl (hb hby d6_49) rfl) ?_
  show own_go p e below s _ _ _ (T4.setTop (mkF m 51 #[.val (.ref tr), .val (.ref a), .val (.long t), .second, .val (.int (1 : Int32)), .val (.int ((t - (16 : Int64)).toInt32))] [(.int (1 : Int32))]))
  have hb51_6 : ¬ ((1 : Int32) = (0 : Int32)) := by decide
  refine own_of (fun tt_ => XS.ifNo X4.here hx rfl (hb hby d6_51) rfl ((if0 _ _).trans (feq hb51_6).1)) ?_
  show own_go p e below s _ _ _ (T4.setTop (mkF m 54 #[.val (.ref tr), .val (.ref a), .val (.long t), .second, .val (.int (1 : Int32)), .val (.int ((t - (16 : Int64)).toInt32))] []))
  refine own_of (fun tt_ => XS.aloadN X4.here hx rfl (hb hby d6_54) rfl rfl) ?_
  show own_go p e below s _ _ _ (T4.setTop (mkF m 55 #[.val (.ref tr), .val (.ref a), .val (.long t), .second, .val (.int (1 : Int32)), .val (.int ((t - (16 : Int64)).toInt32))] [(.ref tr)]))
  obtain ⟨T7, X7, e7, st7⟩ := getF X4 hx hZ hown (host := "") (Or.inl (hW 61 _ rfl)) Via.refl e4 F_s (g := (mkF m 55 #[.val (.ref tr), .val (.ref a), .val (.long t), .second, .val (.int (1 : Int32)), .val (.int ((t - (16 : Int64)).toInt32))] [(.ref tr)])) rfl rfl (hb hby d6_55)
  refine own_of st7 ?_
  show own_go p e below s _ _ _ (T7.setTop (mkF m 58 #[.val (.ref tr), .val (.ref a), .val (.long t), .second, .val (.int (1 : Int32)), .val (.int ((t - (16 : Int64)).toInt32))] [(.ref bs)]))
  refine own_of (fun tt_ => XS.iload X7.here hx rfl (hb hby d6_58) rfl) ?_
  show own_go p e below s _ _ _ (T7.setTop (mkF m 60 #[.val (.ref tr), .val (.ref a), .val (.long t), .second, .val (.int (1 : Int32)), .val (.int ((t - (16 : Int64)).toInt32))] [(.int ((t - (16 : Int64)).toInt32)), (.ref bs)]))
  refine own_of (fun tt_ => XS.aloadN X7.here hx rfl (hb hby d6_60) rfl rfl) ?_
  show own_go p e below s _ _ _ (T7.setTop (mkF m 61 #[.val (.ref tr), .val (.ref a), .val (.long t), .second, .val (.int (1 : Int32)), .val (.int ((t - (16 : Int64)).toInt32))] [(.ref a), (.int ((t - (16 : Int64)).toInt32)), (.ref bs)]))
  obtain ⟨cl8, Ar8, q8, S8, Ng8, H8, G8⟩ := id V_s
  have hin8 : ¬ (((t - (16 : Int64)).toInt32) < 0 ∨ cl8.slots.size ≤ (((t - (16 : Int64)).toInt32)).toNatClampNeg) := own_inb hlo hhi S8
  obtain ⟨T8, h8, X8, e8, W8, st8⟩ := stR X7 hx hZ e7 Ar8 (j := ((t - (16 : Int64)).toInt32)) hin8 rfl (Sto.ofV Ar8 q8 Ov (Ins.self E_a)) (g := (mkF m 61 #[.val (.ref tr), .val (.ref a), .val (.long t), .second, .val (.int (1 : Int32)), .val (.int ((t - (16 : Int64)).toInt32))] [(.ref a), (.int ((t - (16 : Int64)).toInt32)), (.ref bs)])) rfl rfl (hb hby d6_61)
  have V8 : Arv Z h8 bs k (.object "com/example/plumeline/plumeline/AsmSample") (75 : Int32) (vs.set (t.toInt - 16).toNat (.ref a)) .null := Arv.set Ar8 q8 S8 Ng8 H8 G8 rfl W8 ((t.toInt - 16).toNat) (own_place hlo hhi) (by rw [hlen]; exact own_lt75 hlo hhi)
  refine own_of st8 ?_
  have N8 := Fr.snoc X8 N1 (by omega : n0 ≤ bs)
  have sz8 : h8.size = h0.size := W8.size
  have O8 : Old Z n0 h8 := XO0.wr W8 (by omega)
  have K8 : Keep h0 h8 [bs] := K0.wr W8 (Or.inl (List.mem_of_getElem? (i := 0) rfl))
  show own_go p e below s _ _ _ (T8.setTop (mkF m 62 #[.val (.ref tr), .val (.ref a), .val (.long t), .second, .val (.int (1 : Int32)), .val (.int ((t - (16 : Int64)).toInt32))] []))
  refine own_of (fun tt_ => XS.iload X8.here hx rfl (hb hby d6_62) rfl) ?_
  show own_go p e below s _ _ _ (T8.setTop (mkF m 64 #[.val (.ref tr), .val (.ref a), .val (.long t), .second, .val (.int (1 : Int32)), .val (.int ((t - (16 : Int64)).toInt32))] [(.int (1 : Int32))]))
  refine own_ret X8 hx hlk Bd.returns rfl (Or.inl ⟨rfl, by simp, _, rfl⟩) (hb hby d6_64) (by decide) (by decide) ?_
  rw [e8]
  exact ⟨rfl, N8, K8, V8⟩
theorem ef_rm8_o (m : MethodId) (x0 : Int64) : entryFrame m #[(.long x0)] 2 = mkF m 0 #[.val (.long x0), .second] [] := by first | (simp [entryFrame, mkF, argsToLocals, Value.category]; done) | rfl
theorem pn_4 : plainName "com/example/plumeline/plumeline/TraceAddPinLaw" = true := by first | (simp [plainName, overriddenIn]; done) | decide +kernel
theorem d8_0 : decode method_2_code 0 = .ok (.ldc2_w 7, 3) := by decide +kernel
theorem d8_3 : decode method_2_code 3 = .ok (.lload_n 0, 1) := by decide +kernel
theorem d8_4 : decode method_2_code 4 = .ok (.lcmp, 1) := by decide +kernel
theorem d8_5 : decode method_2_code 5 = .ok (.ifCond .gt 15, 3) := by decide +kernel
theorem d8_20 : decode method_2_code 20 = .ok (.iconst 0, 1) := by decide +kernel
theorem d8_21 : decode method_2_code 21 = .ok (.ireturn, 1) := by decide +kernel
theorem d8_8 : decode method_2_code 8 = .ok (.lload_n 0, 1) := by decide +kernel
theorem d8_9 : decode method_2_code 9 = .ok (.ldc2_w 9, 3) := by decide +kernel
theorem d8_12 : decode method_2_code 12 = .ok (.lcmp, 1) := by decide +kernel
theorem d8_13 : decode method_2_code 13 = .ok (.ifCond .gt 7, 3) := by decide +kernel
def Q_rm8_o (Z : State) (t : Int64) (h0 : Heap) (n0 : Nat) (v : Option Value) (h : Heap) (L : List Loc) : Prop := v = some (.int 0) ∧ Fr n0 L ∧ h = h0
set_option maxRecDepth 65536 in
set_option maxHeartbeats 40000000 in
theorem rm8_o (l : Launch) (Z : State) (a0 : Array Value) (hw : ∀ d ∈ tables_1, d.before a0 Z = true) (ws : List Jvm.Cond) (t : Int64) (h0 : Heap) (n0 : Nat) (XO0 : Old Z n0 h0) (hout : t < 16 ∨ 90 < t) :
    MetFree l (⟨"com/example/plumeline/plumeline/TraceAddPinLaw", "inWindow", "(J)Z"⟩ : MethodName) (head1 (Jvm.Cond.code (⟨"com/example/plumeline/plumeline/TraceAddPinLaw", "inWindow", "(J)Z"⟩ : MethodName) method_2_code 2 (some .boolean) :: ws) ({ frames := 0, cells := 0, slots := 0, locals := 0 } : Room)) (fun zz_ U => zz_ = #[(.long t)] ∧ Z.Warmed39 U.vm ∧ U.heap = h0) (fun _ _ _ _ _ => True) (fun _ U o U' => ∃ v L, o = .returned v ∧ Q_rm8_o Z t h0 n0 v U'.heap L ∧ FrameEnd U o U' L ({ frames := 0, cells := 0, slots := 0, locals := 0 } : Room).cells ({ frames := 0, cells := 0, slots := 0, locals := 0 } : Room).slots) := by
  refine MetFree.of_bodySF (plainFor_of_name pn_4) hisR ?_
  intro p e s m args below meth c s₁ Bd hml0 hP hK
  obtain ⟨rfl, hZ, hh⟩ := hP
  have hx := Bd.exec
  have hby := Bd.bytes
  have hlk := Bd.notSynchronized
  have hW : ∀ (i : Nat) (d : Jvm.Cond), tables_1[i]? = some d → d.before a0 Z = true := fun i d h => hw d (List.mem_of_getElem? h)
  have hml : c.maxLocals = 2 := hml0
  have hown : s.vm.findClass "com/example/plumeline/plumeline/TraceAddPinLaw" = some m.cls := findClass_of_methodNamed Bd.named
  have hnm := (name_of_methodNamed Bd.named Bd.method).1
  have X0 : Stand p l e ({ frames := 0, cells := 0, slots := 0, locals := 0 } : Room) s m #[(.long t)] below meth c s₁ [] 0 0 := Stand.of_body Bd
  have e0 : s₁.heap = h0 := by rw [← hh, Bd.state]; rfl
  have N0 := Fr.nil n0
  refine own_in ?_
  refine own_of (fun tt_ kk_ => castTop (ef_rm8_o m t) kk_) ?_
  show own_go p e below s _ _ _ (s₁.setTop (mkF m 0 #[.val (.long t), .second] []))
  refine own_of (fun tt_ => X0.ldc2J hx hown (mvT hZ (hW 78 _ rfl)) rfl (hb hby d8_0)) ?_
  show own_go p e below s _ _ _ (s₁.setTop (mkF m 3 #[.val (.long t), .second] [(.long (16 : Int64))]))
  refine own_of (fun tt_ => XS.lloadN X0.here hx rfl (hb hby d8_3) rfl) ?_
  show own_go p e below s _ _ _ (s₁.setTop (mkF m 4 #[.val (.long t), .second] [(.long t), (.long (16 : Int64))]))
  refine own_of (fun tt_ => XS.lcmp X0.here hx rfl (hb hby d8_4) rfl) ?_
  show own_go p e below s _ _ _ (s₁.setTop (mkF m 5 #[.val (.long t), .second] [(.int (lcmpW (16 : Int64) t))]))
  by_cases hb5_1 : (0 : Int32) < (lcmpW (16 : Int64) t)
  · refine own_of (fun tt_ => XS.ifYes X0.here hx rfl (pc0 := 5) (pc' := 20) rfl (hb hby d8_5) rfl ((if0 _ _).trans (tlt hb5_1).2.2.1) (by decide) (by decide)) ?_
    show own_go p e below s _ _ _ (s₁.setTop (mkF m 20 #[.val (.long t), .second] []))
    refine own_of (fun tt_ => XS.iconst X0.here hx rfl (hb hby d8_20)) ?_
    show own_go p e below s _ _ _ (s₁.setTop (mkF m 21 #[.val (.long t), .second] [(.int (0 : Int32))]))
    refine own_ret X0 hx hlk Bd.returns rfl (Or.inl ⟨rfl, by simp, _, rfl⟩) (hb hby d8_21) (by decide) (by decide) ?_
    rw [e0]
    exact ⟨rfl, N0, rfl⟩
  · refine own_of (fun tt_ => XS.ifNo X0.here hx rfl (hb hby d8_5) rfl ((if0 _ _).trans (flt hb5_1).2.2.1)) ?_
    show own_go p e below s _ _ _ (s₁.setTop (mkF m 8 #[.val (.long t), .second] []))
    refine own_of (fun tt_ => XS.lloadN X0.here hx rfl (hb hby d8_8) rfl) ?_
    show own_go p e below s _ _ _ (s₁.setTop (mkF m 9 #[.val (.long t), .second] [(.long t)]))
    refine own_of (fun tt_ => X0.ldc2J hx hown (mvT hZ (hW 80 _ rfl)) rfl (hb hby d8_9)) ?_
    show own_go p e below s _ _ _ (s₁.setTop (mkF m 12 #[.val (.long t), .second] [(.long (90 : Int64)), (.long t)]))
    refine own_of (fun tt_ => XS.lcmp X0.here hx rfl (hb hby d8_12) rfl) ?_
    show own_go p e below s _ _ _ (s₁.setTop (mkF m 13 #[.val (.long t), .second] [(.int (lcmpW t (90 : Int64)))]))
    have hb13_2 : (0 : Int32) < (lcmpW t (90 : Int64)) := (lw_gt _ _).mpr (hout.resolve_left fun q => hb5_1 ((lw_gt _ _).mpr q))
    refine own_of (fun tt_ => XS.ifYes X0.here hx rfl (pc0 := 13) (pc' := 20) rfl (hb hby d8_13) rfl ((if0 _ _).trans (tlt hb13_2).2.2.1) (by decide) (by decide)) ?_
    show own_go p e below s _ _ _ (s₁.setTop (mkF m 20 #[.val (.long t), .second] []))
    refine own_of (fun tt_ => XS.iconst X0.here hx rfl (hb hby d8_20)) ?_
    show own_go p e below s _ _ _ (s₁.setTop (mkF m 21 #[.val (.long t), .second] [(.int (0 : Int32))]))
    refine own_ret X0 hx hlk Bd.returns rfl (Or.inl ⟨rfl, by simp, _, rfl⟩) (hb hby d8_21) (by decide) (by decide) ?_
    rw [e0]
    exact ⟨rfl, N0, rfl⟩
theorem ef_rm8_in (m : MethodId) (x0 : Int64) : entryFrame m #[(.long x0)] 2 = mkF m 0 #[.val (.long x0), .second] [] := by first | (simp [entryFrame, mkF, argsToLocals, Value.category]; done) | rfl
theorem d8_16 : decode method_2_code 16 = .ok (.iconst 1, 1) := by decide +kernel
theorem d8_17 : decode method_2_code 17 = .ok (.goto 4, 3) := by decide +kernel
def Q_rm8_in (Z : State) (t : Int64) (h0 : Heap) (n0 : Nat) (v : Option Value) (h : Heap) (L : List Loc) : Prop := v = some (.int 1) ∧ Fr n0 L ∧ h = h0
set_option maxRecDepth 65536 in
set_option maxHeartbeats 40000000 in
theorem rm8_in (l : Launch) (Z : State) (a0 : Array Value) (hw : ∀ d ∈ tables_1, d.before a0 Z = true) (ws : List Jvm.Cond) (t : Int64) (h0 : Heap) (n0 : Nat) (XO0 : Old Z n0 h0) (hlo : ¬ t < 16) (hhi : ¬ 90 < t) :
    MetFree l (⟨"com/example/plumeline/plumeline/TraceAddPinLaw", "inWindow", "(J)Z"⟩ : MethodName) (head1 (Jvm.Cond.code (⟨"com/example/plumeline/plumeline/TraceAddPinLaw", "inWindow", "(J)Z"⟩ : MethodName) method_2_code 2 (some .boolean) :: ws) ({ frames := 0, cells := 0, slots := 0, locals := 0 } : Room)) (fun zz_ U => zz_ = #[(.long t)] ∧ Z.Warmed39 U.vm ∧ U.heap = h0) (fun _ _ _ _ _ => True) (fun _ U o U' => ∃ v L, o = .returned v ∧ Q_rm8_in Z t h0 n0 v U'.heap L ∧ FrameEnd U o U' L ({ frames := 0, cells := 0, slots := 0, locals := 0 } : Room).cells ({ frames := 0, cells := 0, slots := 0, locals := 0 } : Room).slots) := by
  refine MetFree.of_bodySF (plainFor_of_name pn_4) hisR ?_
  intro p e s m args below meth c s₁ Bd hml0 hP hK
  obtain ⟨rfl, hZ, hh⟩ := hP
  have hx := Bd.exec
  have hby := Bd.bytes
  have hlk := Bd.notSynchronized
  have hW : ∀ (i : Nat) (d : Jvm.Cond), tables_1[i]? = some d → d.before a0 Z = true := fun i d h => hw d (List.mem_of_getElem? h)
  have hml : c.maxLocals = 2 := hml0
  have hown : s.vm.findClass "com/example/plumeline/plumeline/TraceAddPinLaw" = some m.cls := findClass_of_methodNamed Bd.named
  have hnm := (name_of_methodNamed Bd.named Bd.method).1
  have X0 : Stand p l e ({ frames := 0, cells := 0, slots := 0, locals := 0 } : Room) s m #[(.long t)] below meth c s₁ [] 0 0 := Stand.of_body Bd
  have e0 : s₁.heap = h0 := by rw [← hh, Bd.state]; rfl
  have N0 := Fr.nil n0
  refine own_in ?_
  refine own_of (fun tt_ kk_ => castTop (ef_rm8_in m t) kk_) ?_
  show own_go p e below s _ _ _ (s₁.setTop (mkF m 0 #[.val (.long t), .second] []))
  refine own_of (fun tt_ => X0.ldc2J hx hown (mvT hZ (hW 78 _ rfl)) rfl (hb hby d8_0)) ?_
  show own_go p e below s _ _ _ (s₁.setTop (mkF m 3 #[.val (.long t), .second] [(.long (16 : Int64))]))
  refine own_of (fun tt_ => XS.lloadN X0.here hx rfl (hb hby d8_3) rfl) ?_
  show own_go p e below s _ _ _ (s₁.setTop (mkF m 4 #[.val (.long t), .second] [(.long t), (.long (16 : Int64))]))
  refine own_of (fun tt_ => XS.lcmp X0.here hx rfl (hb hby d8_4) rfl) ?_
  show own_go p e below s _ _ _ (s₁.setTop (mkF m 5 #[.val (.long t), .second] [(.int (lcmpW (16 : Int64) t))]))
  have hb5_1 : ¬ ((0 : Int32) < (lcmpW (16 : Int64) t)) := fun q => hlo ((lw_gt _ _).mp q)
  refine own_of (fun tt_ => XS.ifNo X0.here hx rfl (hb hby d8_5) rfl ((if0 _ _).trans (flt hb5_1).2.2.1)) ?_
  show own_go p e below s _ _ _ (s₁.setTop (mkF m 8 #[.val (.long t), .second] []))
  refine own_of (fun tt_ => XS.lloadN X0.here hx rfl (hb hby d8_8) rfl) ?_
  show own_go p e below s _ _ _ (s₁.setTop (mkF m 9 #[.val (.long t), .second] [(.long t)]))
  refine own_of (fun tt_ => X0.ldc2J hx hown (mvT hZ (hW 80 _ rfl)) rfl (hb hby d8_9)) ?_
  show own_go p e below s _ _ _ (s₁.setTop (mkF m 12 #[.val (.long t), .second] [(.long (90 : Int64)), (.long t)]))
  refine own_of (fun tt_ => XS.lcmp X0.here hx rfl (hb hby d8_12) rfl) ?_
  show own_go p e below s _ _ _ (s₁.setTop (mkF m 13 #[.val (.long t), .second] [(.int (lcmpW t (90 : Int64)))]))
  have hb13_2 : ¬ ((0 : Int32) < (lcmpW t (90 : Int64))) := fun q => hhi ((lw_gt _ _).mp q)
  refine own_of (fun tt_ => XS.ifNo X0.here hx rfl (hb hby d8_13) rfl ((if0 _ _).trans (flt hb13_2).2.2.1)) ?_
  show own_go p e below s _ _ _ (s₁.setTop (mkF m 16 #[.val (.long t), .second] []))
  refine own_of (fun tt_ => XS.iconst X0.here hx rfl (hb hby d8_16)) ?_
  show own_go p e below s _ _ _ (s₁.setTop (mkF m 17 #[.val (.long t), .second] [(.int (1 : Int32))]))
  refine own_of (fun tt_ => XS.goto X0.here hx rfl (pc0 := 17) (pc' := 21) rfl (hb hby d8_17) (by decide) (by decide)) ?_
  show own_go p e below s _ _ _ (s₁.setTop (mkF m 21 #[.val (.long t), .second] [(.int (1 : Int32))]))
  refine own_ret X0 hx hlk Bd.returns rfl (Or.inl ⟨rfl, by simp, _, rfl⟩) (hb hby d8_21) (by decide) (by decide) ?_
  rw [e0]
  exact ⟨rfl, N0, rfl⟩
theorem ef_rm0 (m : MethodId) (x0 : Int64) (x1 : Int64) (x2 : Int32) : entryFrame m #[(.long x0), (.long x1), (.int x2)] maxLocals = mkF m 0 #[.val (.long x0), .second, .val (.long x1), .second, .val (.int x2), .unset, .unset, .unset, .unset, .unset, .unset, .unset, .unset, .unset, .unset, .unset, .unset, .unset, .unset] [] := by first | (simp [entryFrame, mkF, argsToLocals, Value.category, maxLocals]; done) | rfl
theorem pd_3 : parseMethodDescriptor "(Lcom/example/plumeline/plumeline/LoadedMode$Mode;JDDDDD)V" = some ⟨[(.object "com/example/plumeline/plumeline/LoadedMode$Mode"), .long, .double, .double, .double, .double, .double], none⟩ := by decide +kernel
theorem pd_4 : parseMethodDescriptor "(Lcom/example/plumeline/plumeline/AsmSample;)Z" = some ⟨[(.object "com/example/plumeline/plumeline/AsmSample")], some .boolean⟩ := by decide +kernel
theorem pd_5 : parseMethodDescriptor "(J)Z" = some ⟨[.long], some .boolean⟩ := by decide +kernel
def Q_rm0 (Z : State) (q1 : Int64) (q2 : Int64) (p3 : Int32) (w5 : Nat) (w2 : Nat) (h0 : Heap) (n0 : Nat) (v : Option Value) (h : Heap) (L : List Loc) : Prop := v = some (.int 1) ∧ Fr n0 L
set_option maxRecDepth 65536 in
set_option maxHeartbeats 40000000 in
theorem rm0 (l : Launch) (Z : State) (a0 : Array Value) (hw : ∀ d ∈ tables_1, d.before a0 Z = true) (ws : List Jvm.Cond) (q1 : Int64) (q2 : Int64) (p3 : Int32) (w5 : Nat) (w2 : Nat) (h0 : Heap) (n0 : Nat) (XO0 : Old Z n0 h0) (S_ASM5025 : Sta Z Z.heap "com/example/plumeline/plumeline/LoadedMode$Mode" "ASM5025" "Lcom/example/plumeline/plumeline/LoadedMode$Mode;" (.ref w5)) (S_ASM2540 : Sta Z Z.heap "com/example/plumeline/plumeline/LoadedMode$Mode" "ASM2540" "Lcom/example/plumeline/plumeline/LoadedMode$Mode;" (.ref w2)) :
    MetFree l x (head1 (Jvm.Cond.code x code maxLocals ret :: ws) room_1) (fun zz_ U => zz_ = #[(.long q1), (.long q2), (.int p3)] ∧ Z.Warmed39 U.vm ∧ U.heap = h0) (fun _ _ _ _ _ => True) (fun _ U o U' => ∃ v L, o = .returned v ∧ Q_rm0 Z q1 q2 p3 w5 w2 h0 n0 v U'.heap L ∧ ReturnedEndW U o U' L room_1.cells room_1.slots) := by
  refine MetFree.of_bodySF (plainFor_of_name pn_4) hisR ?_
  intro p e s m args below meth c s₁ Bd hml0 hP hK
  obtain ⟨rfl, hZ, hh⟩ := hP
  have hx := Bd.exec
  have hby := Bd.bytes
  have hlk := Bd.notSynchronized
  have hW : ∀ (i : Nat) (d : Jvm.Cond), tables_1[i]? = some d → d.before a0 Z = true := fun i d h => hw d (List.mem_of_getElem? h)
  have hml : c.maxLocals = 19 := hml0
  have hown : s.vm.findClass "com/example/plumeline/plumeline/TraceAddPinLaw" = some m.cls := findClass_of_methodNamed Bd.named
  have hnm := (name_of_methodNamed Bd.named Bd.method).1
  have X0 : Stand p l e room_1 (s.setVm s.vm) m #[(.long q1), (.long q2), (.int p3)] below meth c s₁ [] 0 0 := Stand.of_body Bd
  have e0 : s₁.heap = h0 := by rw [← hh, Bd.state]; rfl
  have N0 := Fr.nil n0
  have hS0 : s.Since s.vm 0 := (State.WarmedH.refl s).since 0
  refine own_inw ?_
  refine own_ofw (fun tt_ kk_ => castTop (ef_rm0 m q1 q2 p3) kk_) ?_
  show own_gw p e below s _ _ _ (s₁.setTop (mkF m 0 #[.val (.long q1), .second, .val (.long q2), .second, .val (.int p3), .unset, .unset, .unset, .unset, .unset, .unset, .unset, .unset, .unset, .unset, .unset, .unset, .unset, .unset] []))
  have wS : ∀ a ∈ Bundle.stringAtoms, a.before a0 Z = true := fun d hd => hw d ((by decide +kernel : ∀ d ∈ Bundle.stringAtoms, d ∈ tables_1) d hd)
  have j41 : ∀ (t2 : Int64) (md : Addr) (T : State) (X : Stand p l e room_1 (s.setVm s.vm) m #[.long q1, .long q2, .int p3] below meth c T [] 0 0) (eT : T.heap = h0), own_gw p e below s (Q_rm0 Z q1 q2 p3 w5 w2 h0 n0) room_1.cells room_1.slots (T.setTop (mkF m 41 #[.val (.long q1), .second, .val (.long q2), .second, .val (.int p3), .val (.long t2), .second, .unset, .unset, .unset, .unset, .unset, .unset, .unset, .unset, .unset, .unset, .unset, .unset] [(.ref md)])) := by
    intro t2 md T X eT
    refine own_ofw (fun tt_ => XS.astore X.here hx rfl (hb hby at_41) rfl rfl (l' := #[.val (.long q1), .second, .val (.long q2), .second, .val (.int p3), .val (.long t2), .second, .val (.ref md), .unset, .unset, .unset, .unset, .unset, .unset, .unset, .unset, .unset, .unset, .unset]) rfl) ?_
    show own_gw p e below s _ _ _ (T.setTop (mkF m 43 #[.val (.long q1), .second, .val (.long q2), .second, .val (.int p3), .val (.long t2), .second, .val (.ref md), .unset, .unset, .unset, .unset, .unset, .unset, .unset, .unset, .unset, .unset, .unset] []))
    obtain ⟨T1, h1, X1, e1, E1, A1, D1, -, st1⟩ := newO X hx hZ hown (hW 3 _ rfl) (hW 4 _ rfl) (hW 5 _ rfl) eT (g := (mkF m 43 #[.val (.long q1), .second, .val (.long q2), .second, .val (.int p3), .val (.long t2), .second, .val (.ref md), .unset, .unset, .unset, .unset, .unset, .unset, .unset, .unset, .unset, .unset, .unset] [])) rfl (hb hby at_43) (by decide) (by decide)
    obtain ⟨b1, g1⟩ : ∃ z, z = h0.size := ⟨_, rfl⟩
    rw [← g1] at A1 D1 st1
    refine own_ofw st1 ?_
    have lt1 := own_lt A1.lt
    have sz1 : h0.size ≤ h1.size := E1.1
    have O1 : Old Z n0 h1 := XO0.ext E1
    have z1 : n0 ≤ b1 := by have := XO0.1 ▸ XO0.2.1; omega
    have F1_mode : Fld Z h1 b1 "com/example/plumeline/plumeline/AsmSample" "mode" "Lcom/example/plumeline/plumeline/LoadedMode$Mode;" .null := D1 (Or.inr (hW 34 _ rfl)) (ty := (.object "com/example/plumeline/plumeline/LoadedMode$Mode")) pf_0
    have F1_tS : Fld Z h1 b1 "com/example/plumeline/plumeline/AsmSample" "tS" "J" (.long (0 : Int64)) := D1 (Or.inr (hW 36 _ rfl)) (ty := .long) pf_1
    have F1_speedKmh : Fld Z h1 b1 "com/example/plumeline/plumeline/AsmSample" "speedKmh" "D" (.double (0 : UInt64)) := D1 (Or.inr (hW 38 _ rfl)) (ty := .double) pf_2
    have F1_coPct : Fld Z h1 b1 "com/example/plumeline/plumeline/AsmSample" "coPct" "D" (.double (0 : UInt64)) := D1 (Or.inr (hW 40 _ rfl)) (ty := .double) pf_2
    have F1_co2Pct : Fld Z h1 b1 "com/example/plumeline/plumeline/AsmSample" "co2Pct" "D" (.double (0 : UInt64)) := D1 (Or.inr (hW 42 _ rfl)) (ty := .double) pf_2
    have F1_hcPpm : Fld Z h1 b1 "com/example/plumeline/plumeline/AsmSample" "hcPpm" "D" (.double (0 : UInt64)) := D1 (Or.inr (hW 44 _ rfl)) (ty := .double) pf_2
    have F1_noPpm : Fld Z h1 b1 "com/example/plumeline/plumeline/AsmSample" "noPpm" "D" (.double (0 : UInt64)) := D1 (Or.inr (hW 46 _ rfl)) (ty := .double) pf_2
    show own_gw p e below s _ _ _ (T1.setTop (mkF m 46 #[.val (.long q1), .second, .val (.long q2), .second, .val (.int p3), .val (.long t2), .second, .val (.ref md), .unset, .unset, .unset, .unset, .unset, .unset, .unset, .unset, .unset, .unset, .unset] [(.ref b1)]))
    refine own_ofw (fun tt_ => XS.dup X1.here hx rfl (hb hby at_46) rfl rfl) ?_
    show own_gw p e below s _ _ _ (T1.setTop (mkF m 47 #[.val (.long q1), .second, .val (.long q2), .second, .val (.int p3), .val (.long t2), .second, .val (.ref md), .unset, .unset, .unset, .unset, .unset, .unset, .unset, .unset, .unset, .unset, .unset] [(.ref b1), (.ref b1)]))
    refine own_ofw (fun tt_ => XS.aload X1.here hx rfl (hb hby at_47) rfl rfl) ?_
    show own_gw p e below s _ _ _ (T1.setTop (mkF m 49 #[.val (.long q1), .second, .val (.long q2), .second, .val (.int p3), .val (.long t2), .second, .val (.ref md), .unset, .unset, .unset, .unset, .unset, .unset, .unset, .unset, .unset, .unset, .unset] [(.ref md), (.ref b1), (.ref b1)]))
    refine own_ofw (fun tt_ => XS.lloadN X1.here hx rfl (hb hby at_49) rfl) ?_
    show own_gw p e below s _ _ _ (T1.setTop (mkF m 50 #[.val (.long q1), .second, .val (.long q2), .second, .val (.int p3), .val (.long t2), .second, .val (.ref md), .unset, .unset, .unset, .unset, .unset, .unset, .unset, .unset, .unset, .unset, .unset] [(.long q1), (.ref md), (.ref b1), (.ref b1)]))
    refine own_ofw (fun tt_ => X1.ldc2DoubleC hx hown (mvT hZ (hW 6 _ rfl)) (g := (mkF m 50 #[.val (.long q1), .second, .val (.long q2), .second, .val (.int p3), .val (.long t2), .second, .val (.ref md), .unset, .unset, .unset, .unset, .unset, .unset, .unset, .unset, .unset, .unset, .unset] [(.long q1), (.ref md), (.ref b1), (.ref b1)])) rfl (hb hby at_50) _) ?_
    show own_gw p e below s _ _ _ (T1.setTop (mkF m 53 #[.val (.long q1), .second, .val (.long q2), .second, .val (.int p3), .val (.long t2), .second, .val (.ref md), .unset, .unset, .unset, .unset, .unset, .unset, .unset, .unset, .unset, .unset, .unset] [(.double (4630826316843712512 : UInt64)), (.long q1), (.ref md), (.ref b1), (.ref b1)]))
    refine own_ofw (fun tt_ => XS.dconst1 (g := (mkF m 53 #[.val (.long q1), .second, .val (.long q2), .second, .val (.int p3), .val (.long t2), .second, .val (.ref md), .unset, .unset, .unset, .unset, .unset, .unset, .unset, .unset, .unset, .unset, .unset] [(.double (4630826316843712512 : UInt64)), (.long q1), (.ref md), (.ref b1), (.ref b1)])) X1.here hx rfl (hb hby at_53) rfl) ?_
    show own_gw p e below s _ _ _ (T1.setTop (mkF m 54 #[.val (.long q1), .second, .val (.long q2), .second, .val (.int p3), .val (.long t2), .second, .val (.ref md), .unset, .unset, .unset, .unset, .unset, .unset, .unset, .unset, .unset, .unset, .unset] [(.double FP.dconst1), (.double (4630826316843712512 : UInt64)), (.long q1), (.ref md), (.ref b1), (.ref b1)]))
    refine own_ofw (fun tt_ => X1.ldc2DoubleC hx hown (mvT hZ (hW 7 _ rfl)) (g := (mkF m 54 #[.val (.long q1), .second, .val (.long q2), .second, .val (.int p3), .val (.long t2), .second, .val (.ref md), .unset, .unset, .unset, .unset, .unset, .unset, .unset, .unset, .unset, .unset, .unset] [(.double FP.dconst1), (.double (4630826316843712512 : UInt64)), (.long q1), (.ref md), (.ref b1), (.ref b1)])) rfl (hb hby at_54) _) ?_
    show own_gw p e below s _ _ _ (T1.setTop (mkF m 57 #[.val (.long q1), .second, .val (.long q2), .second, .val (.int p3), .val (.long t2), .second, .val (.ref md), .unset, .unset, .unset, .unset, .unset, .unset, .unset, .unset, .unset, .unset, .unset] [(.double (4624070917402656768 : UInt64)), (.double FP.dconst1), (.double (4630826316843712512 : UInt64)), (.long q1), (.ref md), (.ref b1), (.ref b1)]))
    refine own_ofw (fun tt_ => X1.ldc2DoubleC hx hown (mvT hZ (hW 8 _ rfl)) (g := (mkF m 57 #[.val (.long q1), .second, .val (.long q2), .second, .val (.int p3), .val (.long t2), .second, .val (.ref md), .unset, .unset, .unset, .unset, .unset, .unset, .unset, .unset, .unset, .unset, .unset] [(.double (4624070917402656768 : UInt64)), (.double FP.dconst1), (.double (4630826316843712512 : UInt64)), (.long q1), (.ref md), (.ref b1), (.ref b1)])) rfl (hb hby at_57) _) ?_
    show own_gw p e below s _ _ _ (T1.setTop (mkF m 60 #[.val (.long q1), .second, .val (.long q2), .second, .val (.int p3), .val (.long t2), .second, .val (.ref md), .unset, .unset, .unset, .unset, .unset, .unset, .unset, .unset, .unset, .unset, .unset] [(.double (4636737291354636288 : UInt64)), (.double (4624070917402656768 : UInt64)), (.double FP.dconst1), (.double (4630826316843712512 : UInt64)), (.long q1), (.ref md), (.ref b1), (.ref b1)]))
    refine own_ofw (fun tt_ => X1.ldc2DoubleC hx hown (mvT hZ (hW 9 _ rfl)) (g := (mkF m 60 #[.val (.long q1), .second, .val (.long q2), .second, .val (.int p3), .val (.long t2), .second, .val (.ref md), .unset, .unset, .unset, .unset, .unset, .unset, .unset, .unset, .unset, .unset, .unset] [(.double (4636737291354636288 : UInt64)), (.double (4624070917402656768 : UInt64)), (.double FP.dconst1), (.double (4630826316843712512 : UInt64)), (.long q1), (.ref md), (.ref b1), (.ref b1)])) rfl (hb hby at_60) _) ?_
    show own_gw p e below s _ _ _ (T1.setTop (mkF m 63 #[.val (.long q1), .second, .val (.long q2), .second, .val (.int p3), .val (.long t2), .second, .val (.ref md), .unset, .unset, .unset, .unset, .unset, .unset, .unset, .unset, .unset, .unset, .unset] [(.double (4647503709213818880 : UInt64)), (.double (4636737291354636288 : UInt64)), (.double (4624070917402656768 : UInt64)), (.double FP.dconst1), (.double (4630826316843712512 : UInt64)), (.long q1), (.ref md), (.ref b1), (.ref b1)]))
    obtain ⟨_, _, ⟨T2, L2, k2, n2⟩, -, Xr2, hSr2, hgr2, ⟨Lc2, hQ2, l2, y2, z2⟩, st2⟩ := X1.specialBackS hx (y := (⟨"com/example/plumeline/plumeline/AsmSample", "<init>", "(Lcom/example/plumeline/plumeline/LoadedMode$Mode;JDDDDD)V"⟩ : MethodName)) rfl hown (mvT hZ (hW 10 _ rfl)) (mvT hZ (hW 11 _ rfl)) (mvT hZ (hW 12 _ rfl)) (by decide) (backOfS (W := 1) (rm1 l Z a0 hw [] b1 md q1 (4630826316843712512 : UInt64) FP.dconst1 (4624070917402656768 : UInt64) (4636737291354636288 : UInt64) (4647503709213818880 : UInt64) h1 n0 O1 (by omega) A1 F1_mode F1_tS F1_speedKmh F1_coPct F1_co2Pct F1_hcPpm F1_noPpm) hZ (hW 12 _ rfl) (hW 5 _ rfl) (by decide) (by decide)) (g := (mkF m 63 #[.val (.long q1), .second, .val (.long q2), .second, .val (.int p3), .val (.long t2), .second, .val (.ref md), .unset, .unset, .unset, .unset, .unset, .unset, .unset, .unset, .unset, .unset, .unset] [(.double (4647503709213818880 : UInt64)), (.double (4636737291354636288 : UInt64)), (.double (4624070917402656768 : UInt64)), (.double FP.dconst1), (.double (4630826316843712512 : UInt64)), (.long q1), (.ref md), (.ref b1), (.ref b1)])) rfl (by rw [hml]; rfl) (Steps.refl _) (a := b1) (argsL := [(.ref md), (.long q1), (.double (4630826316843712512 : UInt64)), (.double FP.dconst1), (.double (4624070917402656768 : UInt64)), (.double (4636737291354636288 : UInt64)), (.double (4647503709213818880 : UInt64))]) (rest := [(.ref b1)]) (lenOf pd_3 rfl) rfl (by show 2 * 0 + _ ≤ _; exact Nat.le_of_eq rfl) (hb hby at_63) (fun _ _ => ⟨rfl, e1, (by decide : 1 + 2 ≤ _), (by decide : 7 + 20 ≤ _)⟩)
    dsimp only [Pt.U, Pt.locs, Pt.cells, Pt.slots] at Xr2 l2 y2 z2 st2 hQ2 hSr2 hgr2
    obtain ⟨X2, hS2, hZ2, hown2⟩ := rebS hS0 (by rw [e1]; omega : 0 ≤ T1.heap.size) Xr2 hSr2 hgr2 hZ hown
    subst l2 y2 z2
    obtain ⟨rfl, Nq2, Kp2, Ft2⟩ := hQ2
    have N2 := Fr.app N0 Nq2
    refine own_ofw (fun tt_ kk_ => st2.trans kk_) ?_
    have sz2 : h1.size ≤ T2.heap.size := Kp2.1
    have O2 : Old Z n0 T2.heap := O1.keep Kp2 (allS (by omega) all0)
    show own_gw p e below s _ _ _ (T2.setTop (mkF m 66 #[.val (.long q1), .second, .val (.long q2), .second, .val (.int p3), .val (.long t2), .second, .val (.ref md), .unset, .unset, .unset, .unset, .unset, .unset, .unset, .unset, .unset, .unset, .unset] [(.ref b1)]))
    refine own_ofw (fun tt_ => XS.astore X2.here hx rfl (hb hby at_66) rfl rfl (l' := #[.val (.long q1), .second, .val (.long q2), .second, .val (.int p3), .val (.long t2), .second, .val (.ref md), .val (.ref b1), .unset, .unset, .unset, .unset, .unset, .unset, .unset, .unset, .unset, .unset]) rfl) ?_
    show own_gw p e below s _ _ _ (T2.setTop (mkF m 68 #[.val (.long q1), .second, .val (.long q2), .second, .val (.int p3), .val (.long t2), .second, .val (.ref md), .val (.ref b1), .unset, .unset, .unset, .unset, .unset, .unset, .unset, .unset, .unset, .unset] []))
    obtain ⟨T3, h3, X3, e3, E3, A3, D3, -, st3⟩ := newO X2 hx hZ2 hown2 (hW 3 _ rfl) (hW 4 _ rfl) (hW 5 _ rfl) rfl (g := (mkF m 68 #[.val (.long q1), .second, .val (.long q2), .second, .val (.int p3), .val (.long t2), .second, .val (.ref md), .val (.ref b1), .unset, .unset, .unset, .unset, .unset, .unset, .unset, .unset, .unset, .unset] [])) rfl (hb hby at_68) (by decide) (by decide)
    obtain ⟨b3, g3⟩ : ∃ z, z = T2.heap.size := ⟨_, rfl⟩
    rw [← g3] at A3 D3 st3
    refine own_ofw st3 ?_
    have lt3 := own_lt A3.lt
    have sz3 : T2.heap.size ≤ h3.size := E3.1
    have O3 : Old Z n0 h3 := O2.ext E3
    have z3 : n0 ≤ b3 := by have := O2.1 ▸ O2.2.1; omega
    have F3_mode : Fld Z h3 b3 "com/example/plumeline/plumeline/AsmSample" "mode" "Lcom/example/plumeline/plumeline/LoadedMode$Mode;" .null := D3 (Or.inr (hW 34 _ rfl)) (ty := (.object "com/example/plumeline/plumeline/LoadedMode$Mode")) pf_0
    have F3_tS : Fld Z h3 b3 "com/example/plumeline/plumeline/AsmSample" "tS" "J" (.long (0 : Int64)) := D3 (Or.inr (hW 36 _ rfl)) (ty := .long) pf_1
    have F3_speedKmh : Fld Z h3 b3 "com/example/plumeline/plumeline/AsmSample" "speedKmh" "D" (.double (0 : UInt64)) := D3 (Or.inr (hW 38 _ rfl)) (ty := .double) pf_2
    have F3_coPct : Fld Z h3 b3 "com/example/plumeline/plumeline/AsmSample" "coPct" "D" (.double (0 : UInt64)) := D3 (Or.inr (hW 40 _ rfl)) (ty := .double) pf_2
    have F3_co2Pct : Fld Z h3 b3 "com/example/plumeline/plumeline/AsmSample" "co2Pct" "D" (.double (0 : UInt64)) := D3 (Or.inr (hW 42 _ rfl)) (ty := .double) pf_2
    have F3_hcPpm : Fld Z h3 b3 "com/example/plumeline/plumeline/AsmSample" "hcPpm" "D" (.double (0 : UInt64)) := D3 (Or.inr (hW 44 _ rfl)) (ty := .double) pf_2
    have F3_noPpm : Fld Z h3 b3 "com/example/plumeline/plumeline/AsmSample" "noPpm" "D" (.double (0 : UInt64)) := D3 (Or.inr (hW 46 _ rfl)) (ty := .double) pf_2
    show own_gw p e below s _ _ _ (T3.setTop (mkF m 71 #[.val (.long q1), .second, .val (.long q2), .second, .val (.int p3), .val (.long t2), .second, .val (.ref md), .val (.ref b1), .unset, .unset, .unset, .unset, .unset, .unset, .unset, .unset, .unset, .unset] [(.ref b3)]))
    refine own_ofw (fun tt_ => XS.dup X3.here hx rfl (hb hby at_71) rfl rfl) ?_
    show own_gw p e below s _ _ _ (T3.setTop (mkF m 72 #[.val (.long q1), .second, .val (.long q2), .second, .val (.int p3), .val (.long t2), .second, .val (.ref md), .val (.ref b1), .unset, .unset, .unset, .unset, .unset, .unset, .unset, .unset, .unset, .unset] [(.ref b3), (.ref b3)]))
    refine own_ofw (fun tt_ => XS.aload X3.here hx rfl (hb hby at_72) rfl rfl) ?_
    show own_gw p e below s _ _ _ (T3.setTop (mkF m 74 #[.val (.long q1), .second, .val (.long q2), .second, .val (.int p3), .val (.long t2), .second, .val (.ref md), .val (.ref b1), .unset, .unset, .unset, .unset, .unset, .unset, .unset, .unset, .unset, .unset] [(.ref md), (.ref b3), (.ref b3)]))
    refine own_ofw (fun tt_ => XS.lload X3.here hx rfl (hb hby at_74) rfl) ?_
    show own_gw p e below s _ _ _ (T3.setTop (mkF m 76 #[.val (.long q1), .second, .val (.long q2), .second, .val (.int p3), .val (.long t2), .second, .val (.ref md), .val (.ref b1), .unset, .unset, .unset, .unset, .unset, .unset, .unset, .unset, .unset, .unset] [(.long t2), (.ref md), (.ref b3), (.ref b3)]))
    refine own_ofw (fun tt_ => X3.ldc2DoubleC hx hown2 (mvT hZ2 (hW 47 _ rfl)) (g := (mkF m 76 #[.val (.long q1), .second, .val (.long q2), .second, .val (.int p3), .val (.long t2), .second, .val (.ref md), .val (.ref b1), .unset, .unset, .unset, .unset, .unset, .unset, .unset, .unset, .unset, .unset] [(.long t2), (.ref md), (.ref b3), (.ref b3)])) rfl (hb hby at_76) _) ?_
    show own_gw p e below s _ _ _ (T3.setTop (mkF m 79 #[.val (.long q1), .second, .val (.long q2), .second, .val (.int p3), .val (.long t2), .second, .val (.ref md), .val (.ref b1), .unset, .unset, .unset, .unset, .unset, .unset, .unset, .unset, .unset, .unset] [(.double (4630967054332067840 : UInt64)), (.long t2), (.ref md), (.ref b3), (.ref b3)]))
    refine own_ofw (fun tt_ => X3.ldc2DoubleC hx hown2 (mvT hZ2 (hW 48 _ rfl)) (g := (mkF m 79 #[.val (.long q1), .second, .val (.long q2), .second, .val (.int p3), .val (.long t2), .second, .val (.ref md), .val (.ref b1), .unset, .unset, .unset, .unset, .unset, .unset, .unset, .unset, .unset, .unset] [(.double (4630967054332067840 : UInt64)), (.long t2), (.ref md), (.ref b3), (.ref b3)])) rfl (hb hby at_79) _) ?_
    show own_gw p e below s _ _ _ (T3.setTop (mkF m 82 #[.val (.long q1), .second, .val (.long q2), .second, .val (.int p3), .val (.long t2), .second, .val (.ref md), .val (.ref b1), .unset, .unset, .unset, .unset, .unset, .unset, .unset, .unset, .unset, .unset] [(.double (4611686018427387904 : UInt64)), (.double (4630967054332067840 : UInt64)), (.long t2), (.ref md), (.ref b3), (.ref b3)]))
    refine own_ofw (fun tt_ => X3.ldc2DoubleC hx hown2 (mvT hZ2 (hW 49 _ rfl)) (g := (mkF m 82 #[.val (.long q1), .second, .val (.long q2), .second, .val (.int p3), .val (.long t2), .second, .val (.ref md), .val (.ref b1), .unset, .unset, .unset, .unset, .unset, .unset, .unset, .unset, .unset, .unset] [(.double (4611686018427387904 : UInt64)), (.double (4630967054332067840 : UInt64)), (.long t2), (.ref md), (.ref b3), (.ref b3)])) rfl (hb hby at_82) _) ?_
    show own_gw p e below s _ _ _ (T3.setTop (mkF m 85 #[.val (.long q1), .second, .val (.long q2), .second, .val (.int p3), .val (.long t2), .second, .val (.ref md), .val (.ref b1), .unset, .unset, .unset, .unset, .unset, .unset, .unset, .unset, .unset, .unset] [(.double (4623507967449235456 : UInt64)), (.double (4611686018427387904 : UInt64)), (.double (4630967054332067840 : UInt64)), (.long t2), (.ref md), (.ref b3), (.ref b3)]))
    refine own_ofw (fun tt_ => X3.ldc2DoubleC hx hown2 (mvT hZ2 (hW 50 _ rfl)) (g := (mkF m 85 #[.val (.long q1), .second, .val (.long q2), .second, .val (.int p3), .val (.long t2), .second, .val (.ref md), .val (.ref b1), .unset, .unset, .unset, .unset, .unset, .unset, .unset, .unset, .unset, .unset] [(.double (4623507967449235456 : UInt64)), (.double (4611686018427387904 : UInt64)), (.double (4630967054332067840 : UInt64)), (.long t2), (.ref md), (.ref b3), (.ref b3)])) rfl (hb hby at_85) _) ?_
    show own_gw p e below s _ _ _ (T3.setTop (mkF m 88 #[.val (.long q1), .second, .val (.long q2), .second, .val (.int p3), .val (.long t2), .second, .val (.ref md), .val (.ref b1), .unset, .unset, .unset, .unset, .unset, .unset, .unset, .unset, .unset, .unset] [(.double (4632233691727265792 : UInt64)), (.double (4623507967449235456 : UInt64)), (.double (4611686018427387904 : UInt64)), (.double (4630967054332067840 : UInt64)), (.long t2), (.ref md), (.ref b3), (.ref b3)]))
    refine own_ofw (fun tt_ => X3.ldc2DoubleC hx hown2 (mvT hZ2 (hW 51 _ rfl)) (g := (mkF m 88 #[.val (.long q1), .second, .val (.long q2), .second, .val (.int p3), .val (.long t2), .second, .val (.ref md), .val (.ref b1), .unset, .unset, .unset, .unset, .unset, .unset, .unset, .unset, .unset, .unset] [(.double (4632233691727265792 : UInt64)), (.double (4623507967449235456 : UInt64)), (.double (4611686018427387904 : UInt64)), (.double (4630967054332067840 : UInt64)), (.long t2), (.ref md), (.ref b3), (.ref b3)])) rfl (hb hby at_88) _) ?_
    show own_gw p e below s _ _ _ (T3.setTop (mkF m 91 #[.val (.long q1), .second, .val (.long q2), .second, .val (.int p3), .val (.long t2), .second, .val (.ref md), .val (.ref b1), .unset, .unset, .unset, .unset, .unset, .unset, .unset, .unset, .unset, .unset] [(.double (4643985272004935680 : UInt64)), (.double (4632233691727265792 : UInt64)), (.double (4623507967449235456 : UInt64)), (.double (4611686018427387904 : UInt64)), (.double (4630967054332067840 : UInt64)), (.long t2), (.ref md), (.ref b3), (.ref b3)]))
    obtain ⟨_, _, ⟨T4, L4, k4, n4⟩, -, Xr4, hSr4, hgr4, ⟨Lc4, hQ4, l4, y4, z4⟩, st4⟩ := X3.specialBackS hx (y := (⟨"com/example/plumeline/plumeline/AsmSample", "<init>", "(Lcom/example/plumeline/plumeline/LoadedMode$Mode;JDDDDD)V"⟩ : MethodName)) rfl hown2 (mvT hZ2 (hW 10 _ rfl)) (mvT hZ2 (hW 11 _ rfl)) (mvT hZ2 (hW 12 _ rfl)) (by decide) (backOfS (W := 1) (rm1 l Z a0 hw [] b3 md t2 (4630967054332067840 : UInt64) (4611686018427387904 : UInt64) (4623507967449235456 : UInt64) (4632233691727265792 : UInt64) (4643985272004935680 : UInt64) h3 n0 O3 (by omega) A3 F3_mode F3_tS F3_speedKmh F3_coPct F3_co2Pct F3_hcPpm F3_noPpm) hZ2 (hW 12 _ rfl) (hW 5 _ rfl) (by decide) (by decide)) (g := (mkF m 91 #[.val (.long q1), .second, .val (.long q2), .second, .val (.int p3), .val (.long t2), .second, .val (.ref md), .val (.ref b1), .unset, .unset, .unset, .unset, .unset, .unset, .unset, .unset, .unset, .unset] [(.double (4643985272004935680 : UInt64)), (.double (4632233691727265792 : UInt64)), (.double (4623507967449235456 : UInt64)), (.double (4611686018427387904 : UInt64)), (.double (4630967054332067840 : UInt64)), (.long t2), (.ref md), (.ref b3), (.ref b3)])) rfl (by rw [hml]; rfl) (Steps.refl _) (a := b3) (argsL := [(.ref md), (.long t2), (.double (4630967054332067840 : UInt64)), (.double (4611686018427387904 : UInt64)), (.double (4623507967449235456 : UInt64)), (.double (4632233691727265792 : UInt64)), (.double (4643985272004935680 : UInt64))]) (rest := [(.ref b3)]) (lenOf pd_3 rfl) rfl (by show 2 * 0 + _ ≤ _; exact Nat.le_of_eq rfl) (hb hby at_91) (fun _ _ => ⟨rfl, e3, (by decide : 4 + 2 ≤ _), (by decide : 34 + 20 ≤ _)⟩)
    dsimp only [Pt.U, Pt.locs, Pt.cells, Pt.slots] at Xr4 l4 y4 z4 st4 hQ4 hSr4 hgr4
    obtain ⟨X4, hS4, hZ4, hown4⟩ := rebS hS2 (by rw [e3]; omega : T2.heap.size ≤ T3.heap.size) Xr4 hSr4 hgr4 hZ2 hown2
    subst l4 y4 z4
    obtain ⟨rfl, Nq4, Kp4, Ft4⟩ := hQ4
    have N4 := Fr.app N2 Nq4
    refine own_ofw (fun tt_ kk_ => st4.trans kk_) ?_
    have sz4 : h3.size ≤ T4.heap.size := Kp4.1
    have O4 : Old Z n0 T4.heap := O3.keep Kp4 (allS (by omega) all0)
    show own_gw p e below s _ _ _ (T4.setTop (mkF m 94 #[.val (.long q1), .second, .val (.long q2), .second, .val (.int p3), .val (.long t2), .second, .val (.ref md), .val (.ref b1), .unset, .unset, .unset, .unset, .unset, .unset, .unset, .unset, .unset, .unset] [(.ref b3)]))
    refine own_ofw (fun tt_ => XS.astore X4.here hx rfl (hb hby at_94) rfl rfl (l' := #[.val (.long q1), .second, .val (.long q2), .second, .val (.int p3), .val (.long t2), .second, .val (.ref md), .val (.ref b1), .val (.ref b3), .unset, .unset, .unset, .unset, .unset, .unset, .unset, .unset, .unset]) rfl) ?_
    show own_gw p e below s _ _ _ (T4.setTop (mkF m 96 #[.val (.long q1), .second, .val (.long q2), .second, .val (.int p3), .val (.long t2), .second, .val (.ref md), .val (.ref b1), .val (.ref b3), .unset, .unset, .unset, .unset, .unset, .unset, .unset, .unset, .unset] []))
    obtain ⟨T5, h5, X5, e5, E5, A5, D5, -, st5⟩ := newO X4 hx hZ4 hown4 (hW 52 _ rfl) (hW 53 _ rfl) (hW 54 _ rfl) rfl (g := (mkF m 96 #[.val (.long q1), .second, .val (.long q2), .second, .val (.int p3), .val (.long t2), .second, .val (.ref md), .val (.ref b1), .val (.ref b3), .unset, .unset, .unset, .unset, .unset, .unset, .unset, .unset, .unset] [])) rfl (hb hby at_96) (by decide) (by decide)
    obtain ⟨b5, g5⟩ : ∃ z, z = T4.heap.size := ⟨_, rfl⟩
    rw [← g5] at A5 D5 st5
    refine own_ofw st5 ?_
    have lt5 := own_lt A5.lt
    have sz5 : T4.heap.size ≤ h5.size := E5.1
    have O5 : Old Z n0 h5 := O4.ext E5
    have z5 : n0 ≤ b5 := by have := O4.1 ▸ O4.2.1; omega
    have F5_samples : Fld Z h5 b5 "com/example/plumeline/plumeline/LoadedMode$Trace" "samples" "[Lcom/example/plumeline/plumeline/AsmSample;" .null := D5 (Or.inr (hW 62 _ rfl)) (ty := (.array (.object "com/example/plumeline/plumeline/AsmSample"))) pf_3
    show own_gw p e below s _ _ _ (T5.setTop (mkF m 99 #[.val (.long q1), .second, .val (.long q2), .second, .val (.int p3), .val (.long t2), .second, .val (.ref md), .val (.ref b1), .val (.ref b3), .unset, .unset, .unset, .unset, .unset, .unset, .unset, .unset, .unset] [(.ref b5)]))
    refine own_ofw (fun tt_ => XS.dup X5.here hx rfl (hb hby at_99) rfl rfl) ?_
    show own_gw p e below s _ _ _ (T5.setTop (mkF m 100 #[.val (.long q1), .second, .val (.long q2), .second, .val (.int p3), .val (.long t2), .second, .val (.ref md), .val (.ref b1), .val (.ref b3), .unset, .unset, .unset, .unset, .unset, .unset, .unset, .unset, .unset] [(.ref b5), (.ref b5)]))
    obtain ⟨_, _, ⟨T6, L6, k6, n6⟩, -, X6, ⟨Lc6, hQ6, l6, y6, z6⟩, st6⟩ := X5.specialBack hx (y := (⟨"com/example/plumeline/plumeline/LoadedMode$Trace", "<init>", "()V"⟩ : MethodName)) rfl hown4 (mvT hZ4 (hW 55 _ rfl)) (mvT hZ4 (hW 56 _ rfl)) (mvT hZ4 (hW 57 _ rfl)) (by decide) (backOf (W := 1) (rm5 l Z a0 hw [] b5 h5 n0 O5 (by omega) A5 F5_samples) hZ4 (hW 57 _ rfl) (hW 54 _ rfl) (by decide) (by decide)) (g := (mkF m 100 #[.val (.long q1), .second, .val (.long q2), .second, .val (.int p3), .val (.long t2), .second, .val (.ref md), .val (.ref b1), .val (.ref b3), .unset, .unset, .unset, .unset, .unset, .unset, .unset, .unset, .unset] [(.ref b5), (.ref b5)])) rfl (by rw [hml]; rfl) (Steps.refl _) (a := b5) (argsL := []) (rest := [(.ref b5)]) (lenOf pd_0 rfl) rfl (by show 2 * 0 + _ ≤ _; exact Nat.le_of_eq rfl) (hb hby at_100) (fun _ _ => ⟨rfl, e5, (by decide : 7 + 1 ≤ _), (by decide : 55 + 75 ≤ _)⟩)
    dsimp only [Pt.U, Pt.locs, Pt.cells, Pt.slots] at X6 l6 y6 z6 st6 hQ6
    subst l6 y6 z6
    obtain ⟨rfl, Nq6, Kp6, bs6, ks6, gs6, Fs6, Vs6, Ov6⟩ := hQ6
    have N6 := Fr.app N4 Nq6
    refine own_ofw (fun tt_ kk_ => st6.trans kk_) ?_
    have sz6 : h5.size ≤ T6.heap.size := Kp6.1
    have O6 : Old Z n0 T6.heap := O5.keep Kp6 (allS (by omega) all0)
    have lts6 := own_lt Vs6.lt
    have hl6 : (List.replicate 75 Value.null).length = 75 := List.length_replicate
    show own_gw p e below s _ _ _ (T6.setTop (mkF m 103 #[.val (.long q1), .second, .val (.long q2), .second, .val (.int p3), .val (.long t2), .second, .val (.ref md), .val (.ref b1), .val (.ref b3), .unset, .unset, .unset, .unset, .unset, .unset, .unset, .unset, .unset] [(.ref b5)]))
    refine own_ofw (fun tt_ => XS.astore X6.here hx rfl (hb hby at_103) rfl rfl (l' := #[.val (.long q1), .second, .val (.long q2), .second, .val (.int p3), .val (.long t2), .second, .val (.ref md), .val (.ref b1), .val (.ref b3), .val (.ref b5), .unset, .unset, .unset, .unset, .unset, .unset, .unset, .unset]) rfl) ?_
    show own_gw p e below s _ _ _ (T6.setTop (mkF m 105 #[.val (.long q1), .second, .val (.long q2), .second, .val (.int p3), .val (.long t2), .second, .val (.ref md), .val (.ref b1), .val (.ref b3), .val (.ref b5), .unset, .unset, .unset, .unset, .unset, .unset, .unset, .unset] []))
    rcases own_win q1 with out_1 | ⟨lo_1, hi_1⟩
    · rcases own_win t2 with out_2 | ⟨lo_2, hi_2⟩
      · show own_gw p e below s _ _ _ (T6.setTop (mkF m 105 #[.val (.long q1), .second, .val (.long q2), .second, .val (.int p3), .val (.long t2), .second, .val (.ref md), .val (.ref b1), .val (.ref b3), .val (.ref b5), .unset, .unset, .unset, .unset, .unset, .unset, .unset, .unset] []))
        refine own_ofw (fun tt_ => XS.aload X6.here hx rfl (hb hby at_105) rfl rfl) ?_
        show own_gw p e below s _ _ _ (T6.setTop (mkF m 107 #[.val (.long q1), .second, .val (.long q2), .second, .val (.int p3), .val (.long t2), .second, .val (.ref md), .val (.ref b1), .val (.ref b3), .val (.ref b5), .unset, .unset, .unset, .unset, .unset, .unset, .unset, .unset] [(.ref b5)]))
        refine own_ofw (fun tt_ => XS.aload X6.here hx rfl (hb hby at_107) rfl rfl) ?_
        show own_gw p e below s _ _ _ (T6.setTop (mkF m 109 #[.val (.long q1), .second, .val (.long q2), .second, .val (.int p3), .val (.long t2), .second, .val (.ref md), .val (.ref b1), .val (.ref b3), .val (.ref b5), .unset, .unset, .unset, .unset, .unset, .unset, .unset, .unset] [(.ref b1), (.ref b5)]))
        have f7 : Exa Z T6.heap b1 "com/example/plumeline/plumeline/AsmSample" := (((((A1.keep Kp2).ext E3).keep Kp4).ext E5).keep Kp6)
        have f8 : Fld Z T6.heap b1 "com/example/plumeline/plumeline/AsmSample" "tS" "J" (.long q1) := ((((Ft2.ext E3).keep Kp4 (ninS (own_ne (by omega)) nin0)).ext E5).keep Kp6 (ninS (own_ne (by omega)) nin0))
        have f10 : Exa Z T6.heap b5 "com/example/plumeline/plumeline/LoadedMode$Trace" := (A5.keep Kp6)
        obtain ⟨cq9, kq9, q9a, q9b, q9c⟩ := isOf hZ4 rfl f10
        obtain ⟨_, _, ⟨T9, L9, k9, n9⟩, -, X9, ⟨Lc9, hQ9, l9, y9, z9⟩, st9⟩ := X6.virtualBack hx (y := (⟨"com/example/plumeline/plumeline/LoadedMode$Trace", "add", "(Lcom/example/plumeline/plumeline/AsmSample;)Z"⟩ : MethodName)) (z := (⟨"com/example/plumeline/plumeline/LoadedMode$Trace", "add", "(Lcom/example/plumeline/plumeline/AsmSample;)Z"⟩ : MethodName)) hown4 (mvT hZ4 (hW 63 _ rfl)) (mvT hZ4 (hW 64 _ rfl)) (notFace_of_selects (args := #[]) (mvT hZ4 (hW 66 _ rfl))) (mvT hZ4 (hW 66 _ rfl)) (mvT hZ4 (hW 65 _ rfl)) (by decide) (backOf (W := 0) (rm6_o l Z a0 hw [] b5 b1 q1 bs6 ks6 (List.replicate 75 Value.null) 0 T6.heap n0 O6 f7 f8 Fs6 Vs6 Ov6 hl6 (by omega) out_1) hZ4 (hW 67 _ rfl) (hW 54 _ rfl) (by decide) (by decide)) q9a q9c (g := (mkF m 109 #[.val (.long q1), .second, .val (.long q2), .second, .val (.int p3), .val (.long t2), .second, .val (.ref md), .val (.ref b1), .val (.ref b3), .val (.ref b5), .unset, .unset, .unset, .unset, .unset, .unset, .unset, .unset] [(.ref b1), (.ref b5)])) rfl (by rw [hml]; rfl) (Steps.refl _) (argsL := [(.ref b1)]) (rest := []) (lenOf pd_4 rfl) rfl (by show 2 * 0 + _ ≤ _; exact Nat.le_of_eq rfl) (hb hby at_109) (fun _ _ => ⟨rfl, rfl, (by decide : 8 + 0 ≤ _), (by decide : 130 + 0 ≤ _)⟩)
        dsimp only [Pt.U, Pt.locs, Pt.cells, Pt.slots] at X9 l9 y9 z9 st9 hQ9
        subst l9 y9 z9
        obtain ⟨rfl, Nq9, eh9⟩ := hQ9
        have N9 := Fr.app N6 Nq9
        refine own_ofw (fun tt_ kk_ => st9.trans kk_) ?_
        show own_gw p e below s _ _ _ (T9.setTop (mkF m 112 #[.val (.long q1), .second, .val (.long q2), .second, .val (.int p3), .val (.long t2), .second, .val (.ref md), .val (.ref b1), .val (.ref b3), .val (.ref b5), .unset, .unset, .unset, .unset, .unset, .unset, .unset, .unset] [(.int (1 : Int32))]))
        refine own_ofw (fun tt_ => XS.istore X9.here hx rfl (hb hby at_112) rfl (l' := #[.val (.long q1), .second, .val (.long q2), .second, .val (.int p3), .val (.long t2), .second, .val (.ref md), .val (.ref b1), .val (.ref b3), .val (.ref b5), .val (.int (1 : Int32)), .unset, .unset, .unset, .unset, .unset, .unset, .unset]) rfl) ?_
        show own_gw p e below s _ _ _ (T9.setTop (mkF m 114 #[.val (.long q1), .second, .val (.long q2), .second, .val (.int p3), .val (.long t2), .second, .val (.ref md), .val (.ref b1), .val (.ref b3), .val (.ref b5), .val (.int (1 : Int32)), .unset, .unset, .unset, .unset, .unset, .unset, .unset] []))
        refine own_ofw (fun tt_ => XS.aload X9.here hx rfl (hb hby at_114) rfl rfl) ?_
        show own_gw p e below s _ _ _ (T9.setTop (mkF m 116 #[.val (.long q1), .second, .val (.long q2), .second, .val (.int p3), .val (.long t2), .second, .val (.ref md), .val (.ref b1), .val (.ref b3), .val (.ref b5), .val (.int (1 : Int32)), .unset, .unset, .unset, .unset, .unset, .unset, .unset] [(.ref b5)]))
        refine own_ofw (fun tt_ => XS.aload X9.here hx rfl (hb hby at_116) rfl rfl) ?_
        show own_gw p e below s _ _ _ (T9.setTop (mkF m 118 #[.val (.long q1), .second, .val (.long q2), .second, .val (.int p3), .val (.long t2), .second, .val (.ref md), .val (.ref b1), .val (.ref b3), .val (.ref b5), .val (.int (1 : Int32)), .unset, .unset, .unset, .unset, .unset, .unset, .unset] [(.ref b3), (.ref b5)]))
        have f11 : Exa Z T6.heap b3 "com/example/plumeline/plumeline/AsmSample" := (((A3.keep Kp4).ext E5).keep Kp6)
        have f12 : Fld Z T6.heap b3 "com/example/plumeline/plumeline/AsmSample" "tS" "J" (.long t2) := ((Ft4.ext E5).keep Kp6 (ninS (own_ne (by omega)) nin0))
        obtain ⟨cq13, kq13, q13a, q13b, q13c⟩ := isOf hZ4 eh9 f10
        obtain ⟨_, _, ⟨T13, L13, k13, n13⟩, -, X13, ⟨Lc13, hQ13, l13, y13, z13⟩, st13⟩ := X9.virtualBack hx (y := (⟨"com/example/plumeline/plumeline/LoadedMode$Trace", "add", "(Lcom/example/plumeline/plumeline/AsmSample;)Z"⟩ : MethodName)) (z := (⟨"com/example/plumeline/plumeline/LoadedMode$Trace", "add", "(Lcom/example/plumeline/plumeline/AsmSample;)Z"⟩ : MethodName)) hown4 (mvT hZ4 (hW 63 _ rfl)) (mvT hZ4 (hW 64 _ rfl)) (notFace_of_selects (args := #[]) (mvT hZ4 (hW 66 _ rfl))) (mvT hZ4 (hW 66 _ rfl)) (mvT hZ4 (hW 65 _ rfl)) (by decide) (backOf (W := 0) (rm6_o l Z a0 hw [] b5 b3 t2 bs6 ks6 (List.replicate 75 Value.null) 0 T6.heap n0 O6 f11 f12 Fs6 Vs6 Ov6 hl6 (by omega) out_2) hZ4 (hW 67 _ rfl) (hW 54 _ rfl) (by decide) (by decide)) q13a q13c (g := (mkF m 118 #[.val (.long q1), .second, .val (.long q2), .second, .val (.int p3), .val (.long t2), .second, .val (.ref md), .val (.ref b1), .val (.ref b3), .val (.ref b5), .val (.int (1 : Int32)), .unset, .unset, .unset, .unset, .unset, .unset, .unset] [(.ref b3), (.ref b5)])) rfl (by rw [hml]; rfl) (Steps.refl _) (argsL := [(.ref b3)]) (rest := []) (lenOf pd_4 rfl) rfl (by show 2 * 0 + _ ≤ _; exact Nat.le_of_eq rfl) (hb hby at_118) (fun _ _ => ⟨rfl, eh9, (by decide : 8 + 0 ≤ _), (by decide : 130 + 0 ≤ _)⟩)
        dsimp only [Pt.U, Pt.locs, Pt.cells, Pt.slots] at X13 l13 y13 z13 st13 hQ13
        subst l13 y13 z13
        obtain ⟨rfl, Nq13, eh13⟩ := hQ13
        have N13 := Fr.app N9 Nq13
        refine own_ofw (fun tt_ kk_ => st13.trans kk_) ?_
        show own_gw p e below s _ _ _ (T13.setTop (mkF m 121 #[.val (.long q1), .second, .val (.long q2), .second, .val (.int p3), .val (.long t2), .second, .val (.ref md), .val (.ref b1), .val (.ref b3), .val (.ref b5), .val (.int (1 : Int32)), .unset, .unset, .unset, .unset, .unset, .unset, .unset] [(.int (1 : Int32))]))
        refine own_ofw (fun tt_ => XS.istore X13.here hx rfl (hb hby at_121) rfl (l' := #[.val (.long q1), .second, .val (.long q2), .second, .val (.int p3), .val (.long t2), .second, .val (.ref md), .val (.ref b1), .val (.ref b3), .val (.ref b5), .val (.int (1 : Int32)), .val (.int (1 : Int32)), .unset, .unset, .unset, .unset, .unset, .unset]) rfl) ?_
        show own_gw p e below s _ _ _ (T13.setTop (mkF m 123 #[.val (.long q1), .second, .val (.long q2), .second, .val (.int p3), .val (.long t2), .second, .val (.ref md), .val (.ref b1), .val (.ref b3), .val (.ref b5), .val (.int (1 : Int32)), .val (.int (1 : Int32)), .unset, .unset, .unset, .unset, .unset, .unset] []))
        refine own_ofw (fun tt_ => XS.aload X13.here hx rfl (hb hby at_123) rfl rfl) ?_
        show own_gw p e below s _ _ _ (T13.setTop (mkF m 125 #[.val (.long q1), .second, .val (.long q2), .second, .val (.int p3), .val (.long t2), .second, .val (.ref md), .val (.ref b1), .val (.ref b3), .val (.ref b5), .val (.int (1 : Int32)), .val (.int (1 : Int32)), .unset, .unset, .unset, .unset, .unset, .unset] [(.ref b5)]))
        refine own_ofw (fun tt_ => XS.aload X13.here hx rfl (hb hby at_125) rfl rfl) ?_
        show own_gw p e below s _ _ _ (T13.setTop (mkF m 127 #[.val (.long q1), .second, .val (.long q2), .second, .val (.int p3), .val (.long t2), .second, .val (.ref md), .val (.ref b1), .val (.ref b3), .val (.ref b5), .val (.int (1 : Int32)), .val (.int (1 : Int32)), .unset, .unset, .unset, .unset, .unset, .unset] [(.ref b1), (.ref b5)]))
        obtain ⟨cq14, kq14, q14a, q14b, q14c⟩ := isOf hZ4 eh13 f10
        obtain ⟨_, _, ⟨T14, L14, k14, n14⟩, -, X14, ⟨Lc14, hQ14, l14, y14, z14⟩, st14⟩ := X13.virtualBack hx (y := (⟨"com/example/plumeline/plumeline/LoadedMode$Trace", "add", "(Lcom/example/plumeline/plumeline/AsmSample;)Z"⟩ : MethodName)) (z := (⟨"com/example/plumeline/plumeline/LoadedMode$Trace", "add", "(Lcom/example/plumeline/plumeline/AsmSample;)Z"⟩ : MethodName)) hown4 (mvT hZ4 (hW 63 _ rfl)) (mvT hZ4 (hW 64 _ rfl)) (notFace_of_selects (args := #[]) (mvT hZ4 (hW 66 _ rfl))) (mvT hZ4 (hW 66 _ rfl)) (mvT hZ4 (hW 65 _ rfl)) (by decide) (backOf (W := 0) (rm6_o l Z a0 hw [] b5 b1 q1 bs6 ks6 (List.replicate 75 Value.null) 0 T6.heap n0 O6 f7 f8 Fs6 Vs6 Ov6 hl6 (by omega) out_1) hZ4 (hW 67 _ rfl) (hW 54 _ rfl) (by decide) (by decide)) q14a q14c (g := (mkF m 127 #[.val (.long q1), .second, .val (.long q2), .second, .val (.int p3), .val (.long t2), .second, .val (.ref md), .val (.ref b1), .val (.ref b3), .val (.ref b5), .val (.int (1 : Int32)), .val (.int (1 : Int32)), .unset, .unset, .unset, .unset, .unset, .unset] [(.ref b1), (.ref b5)])) rfl (by rw [hml]; rfl) (Steps.refl _) (argsL := [(.ref b1)]) (rest := []) (lenOf pd_4 rfl) rfl (by show 2 * 0 + _ ≤ _; exact Nat.le_of_eq rfl) (hb hby at_127) (fun _ _ => ⟨rfl, eh13, (by decide : 8 + 0 ≤ _), (by decide : 130 + 0 ≤ _)⟩)
        dsimp only [Pt.U, Pt.locs, Pt.cells, Pt.slots] at X14 l14 y14 z14 st14 hQ14
        subst l14 y14 z14
        obtain ⟨rfl, Nq14, eh14⟩ := hQ14
        have N14 := Fr.app N13 Nq14
        refine own_ofw (fun tt_ kk_ => st14.trans kk_) ?_
        show own_gw p e below s _ _ _ (T14.setTop (mkF m 130 #[.val (.long q1), .second, .val (.long q2), .second, .val (.int p3), .val (.long t2), .second, .val (.ref md), .val (.ref b1), .val (.ref b3), .val (.ref b5), .val (.int (1 : Int32)), .val (.int (1 : Int32)), .unset, .unset, .unset, .unset, .unset, .unset] [(.int (1 : Int32))]))
        refine own_ofw (fun tt_ => XS.istore X14.here hx rfl (hb hby at_130) rfl (l' := #[.val (.long q1), .second, .val (.long q2), .second, .val (.int p3), .val (.long t2), .second, .val (.ref md), .val (.ref b1), .val (.ref b3), .val (.ref b5), .val (.int (1 : Int32)), .val (.int (1 : Int32)), .val (.int (1 : Int32)), .unset, .unset, .unset, .unset, .unset]) rfl) ?_
        show own_gw p e below s _ _ _ (T14.setTop (mkF m 132 #[.val (.long q1), .second, .val (.long q2), .second, .val (.int p3), .val (.long t2), .second, .val (.ref md), .val (.ref b1), .val (.ref b3), .val (.ref b5), .val (.int (1 : Int32)), .val (.int (1 : Int32)), .val (.int (1 : Int32)), .unset, .unset, .unset, .unset, .unset] []))
        refine own_ofw (fun tt_ => XS.aload X14.here hx rfl (hb hby at_132) rfl rfl) ?_
        show own_gw p e below s _ _ _ (T14.setTop (mkF m 134 #[.val (.long q1), .second, .val (.long q2), .second, .val (.int p3), .val (.long t2), .second, .val (.ref md), .val (.ref b1), .val (.ref b3), .val (.ref b5), .val (.int (1 : Int32)), .val (.int (1 : Int32)), .val (.int (1 : Int32)), .unset, .unset, .unset, .unset, .unset] [(.ref b5)]))
        refine own_ofw (fun tt_ => XS.aload X14.here hx rfl (hb hby at_134) rfl rfl) ?_
        show own_gw p e below s _ _ _ (T14.setTop (mkF m 136 #[.val (.long q1), .second, .val (.long q2), .second, .val (.int p3), .val (.long t2), .second, .val (.ref md), .val (.ref b1), .val (.ref b3), .val (.ref b5), .val (.int (1 : Int32)), .val (.int (1 : Int32)), .val (.int (1 : Int32)), .unset, .unset, .unset, .unset, .unset] [(.ref b3), (.ref b5)]))
        obtain ⟨cq15, kq15, q15a, q15b, q15c⟩ := isOf hZ4 eh14 f10
        obtain ⟨_, _, ⟨T15, L15, k15, n15⟩, -, X15, ⟨Lc15, hQ15, l15, y15, z15⟩, st15⟩ := X14.virtualBack hx (y := (⟨"com/example/plumeline/plumeline/LoadedMode$Trace", "add", "(Lcom/example/plumeline/plumeline/AsmSample;)Z"⟩ : MethodName)) (z := (⟨"com/example/plumeline/plumeline/LoadedMode$Trace", "add", "(Lcom/example/plumeline/plumeline/AsmSample;)Z"⟩ : MethodName)) hown4 (mvT hZ4 (hW 63 _ rfl)) (mvT hZ4 (hW 64 _ rfl)) (notFace_of_selects (args := #[]) (mvT hZ4 (hW 66 _ rfl))) (mvT hZ4 (hW 66 _ rfl)) (mvT hZ4 (hW 65 _ rfl)) (by decide) (backOf (W := 0) (rm6_o l Z a0 hw [] b5 b3 t2 bs6 ks6 (List.replicate 75 Value.null) 0 T6.heap n0 O6 f11 f12 Fs6 Vs6 Ov6 hl6 (by omega) out_2) hZ4 (hW 67 _ rfl) (hW 54 _ rfl) (by decide) (by decide)) q15a q15c (g := (mkF m 136 #[.val (.long q1), .second, .val (.long q2), .second, .val (.int p3), .val (.long t2), .second, .val (.ref md), .val (.ref b1), .val (.ref b3), .val (.ref b5), .val (.int (1 : Int32)), .val (.int (1 : Int32)), .val (.int (1 : Int32)), .unset, .unset, .unset, .unset, .unset] [(.ref b3), (.ref b5)])) rfl (by rw [hml]; rfl) (Steps.refl _) (argsL := [(.ref b3)]) (rest := []) (lenOf pd_4 rfl) rfl (by show 2 * 0 + _ ≤ _; exact Nat.le_of_eq rfl) (hb hby at_136) (fun _ _ => ⟨rfl, eh14, (by decide : 8 + 0 ≤ _), (by decide : 130 + 0 ≤ _)⟩)
        dsimp only [Pt.U, Pt.locs, Pt.cells, Pt.slots] at X15 l15 y15 z15 st15 hQ15
        subst l15 y15 z15
        obtain ⟨rfl, Nq15, eh15⟩ := hQ15
        have N15 := Fr.app N14 Nq15
        refine own_ofw (fun tt_ kk_ => st15.trans kk_) ?_
        show own_gw p e below s _ _ _ (T15.setTop (mkF m 139 #[.val (.long q1), .second, .val (.long q2), .second, .val (.int p3), .val (.long t2), .second, .val (.ref md), .val (.ref b1), .val (.ref b3), .val (.ref b5), .val (.int (1 : Int32)), .val (.int (1 : Int32)), .val (.int (1 : Int32)), .unset, .unset, .unset, .unset, .unset] [(.int (1 : Int32))]))
        refine own_ofw (fun tt_ => XS.istore X15.here hx rfl (hb hby at_139) rfl (l' := #[.val (.long q1), .second, .val (.long q2), .second, .val (.int p3), .val (.long t2), .second, .val (.ref md), .val (.ref b1), .val (.ref b3), .val (.ref b5), .val (.int (1 : Int32)), .val (.int (1 : Int32)), .val (.int (1 : Int32)), .val (.int (1 : Int32)), .unset, .unset, .unset, .unset]) rfl) ?_
        show own_gw p e below s _ _ _ (T15.setTop (mkF m 141 #[.val (.long q1), .second, .val (.long q2), .second, .val (.int p3), .val (.long t2), .second, .val (.ref md), .val (.ref b1), .val (.ref b3), .val (.ref b5), .val (.int (1 : Int32)), .val (.int (1 : Int32)), .val (.int (1 : Int32)), .val (.int (1 : Int32)), .unset, .unset, .unset, .unset] []))
        refine own_ofw (fun tt_ => XS.iconst X15.here hx rfl (hb hby at_141)) ?_
        show own_gw p e below s _ _ _ (T15.setTop (mkF m 142 #[.val (.long q1), .second, .val (.long q2), .second, .val (.int p3), .val (.long t2), .second, .val (.ref md), .val (.ref b1), .val (.ref b3), .val (.ref b5), .val (.int (1 : Int32)), .val (.int (1 : Int32)), .val (.int (1 : Int32)), .val (.int (1 : Int32)), .unset, .unset, .unset, .unset] [(.int (1 : Int32))]))
        refine own_ofw (fun tt_ => XS.istore X15.here hx rfl (hb hby at_142) rfl (l' := #[.val (.long q1), .second, .val (.long q2), .second, .val (.int p3), .val (.long t2), .second, .val (.ref md), .val (.ref b1), .val (.ref b3), .val (.ref b5), .val (.int (1 : Int32)), .val (.int (1 : Int32)), .val (.int (1 : Int32)), .val (.int (1 : Int32)), .val (.int (1 : Int32)), .unset, .unset, .unset]) rfl) ?_
        show own_gw p e below s _ _ _ (T15.setTop (mkF m 144 #[.val (.long q1), .second, .val (.long q2), .second, .val (.int p3), .val (.long t2), .second, .val (.ref md), .val (.ref b1), .val (.ref b3), .val (.ref b5), .val (.int (1 : Int32)), .val (.int (1 : Int32)), .val (.int (1 : Int32)), .val (.int (1 : Int32)), .val (.int (1 : Int32)), .unset, .unset, .unset] []))
        refine own_ofw (fun tt_ => XS.lload X15.here hx rfl (hb hby at_144) rfl) ?_
        show own_gw p e below s _ _ _ (T15.setTop (mkF m 146 #[.val (.long q1), .second, .val (.long q2), .second, .val (.int p3), .val (.long t2), .second, .val (.ref md), .val (.ref b1), .val (.ref b3), .val (.ref b5), .val (.int (1 : Int32)), .val (.int (1 : Int32)), .val (.int (1 : Int32)), .val (.int (1 : Int32)), .val (.int (1 : Int32)), .unset, .unset, .unset] [(.long t2)]))
        obtain ⟨_, _, ⟨T16, L16, k16, n16⟩, -, X16, ⟨Lc16, hQ16, l16, y16, z16⟩, st16⟩ := Jvm.LawKit.callS X15 hx (y := (⟨"com/example/plumeline/plumeline/TraceAddPinLaw", "inWindow", "(J)Z"⟩ : MethodName)) hown4 (mvT hZ4 (hW 74 _ rfl)) (mvT hZ4 (hW 75 _ rfl)) (mvT hZ4 (hW 76 _ rfl)) (mvT hZ4 (hW 77 _ rfl)) (by decide) (backOf (W := 0) (rm8_o l Z a0 hw [] t2 T6.heap n0 O6 out_2) hZ4 (hW 77 _ rfl) (hW 76 _ rfl) (by decide) (by decide)) (g := (mkF m 146 #[.val (.long q1), .second, .val (.long q2), .second, .val (.int p3), .val (.long t2), .second, .val (.ref md), .val (.ref b1), .val (.ref b3), .val (.ref b5), .val (.int (1 : Int32)), .val (.int (1 : Int32)), .val (.int (1 : Int32)), .val (.int (1 : Int32)), .val (.int (1 : Int32)), .unset, .unset, .unset] [(.long t2)])) rfl (by rw [hml]; rfl) (argsL := [(.long t2)]) (rest := []) (lenOf pd_5 rfl) rfl (by show 2 * 0 + _ ≤ _; exact Nat.le_of_eq rfl) (hb hby at_146) (fun _ _ => ⟨rfl, eh15, (by decide : 8 + 0 ≤ _), (by decide : 130 + 0 ≤ _)⟩)
        dsimp only [Pt.U, Pt.locs, Pt.cells, Pt.slots] at X16 l16 y16 z16 st16 hQ16
        subst l16 y16 z16
        obtain ⟨rfl, Nq16, eh16⟩ := hQ16
        have N16 := Fr.app N15 Nq16
        refine own_ofw st16 ?_
        show own_gw p e below s _ _ _ (T16.setTop (mkF m 149 #[.val (.long q1), .second, .val (.long q2), .second, .val (.int p3), .val (.long t2), .second, .val (.ref md), .val (.ref b1), .val (.ref b3), .val (.ref b5), .val (.int (1 : Int32)), .val (.int (1 : Int32)), .val (.int (1 : Int32)), .val (.int (1 : Int32)), .val (.int (1 : Int32)), .unset, .unset, .unset] [(.int (0 : Int32))]))
        have hb149_17 : (0 : Int32) = (0 : Int32) := by decide
        refine own_ofw (fun tt_ => XS.ifYes X16.here hx rfl (pc0 := 149) (pc' := 159) rfl (hb hby at_149) rfl ((if0 _ _).trans (teq hb149_17).1) (by decide) (by decide)) ?_
        show own_gw p e below s _ _ _ (T16.setTop (mkF m 159 #[.val (.long q1), .second, .val (.long q2), .second, .val (.int p3), .val (.long t2), .second, .val (.ref md), .val (.ref b1), .val (.ref b3), .val (.ref b5), .val (.int (1 : Int32)), .val (.int (1 : Int32)), .val (.int (1 : Int32)), .val (.int (1 : Int32)), .val (.int (1 : Int32)), .unset, .unset, .unset] []))
        refine own_ofw (fun tt_ => XS.iconst X16.here hx rfl (hb hby at_159)) ?_
        show own_gw p e below s _ _ _ (T16.setTop (mkF m 160 #[.val (.long q1), .second, .val (.long q2), .second, .val (.int p3), .val (.long t2), .second, .val (.ref md), .val (.ref b1), .val (.ref b3), .val (.ref b5), .val (.int (1 : Int32)), .val (.int (1 : Int32)), .val (.int (1 : Int32)), .val (.int (1 : Int32)), .val (.int (1 : Int32)), .unset, .unset, .unset] [(.int (1 : Int32))]))
        refine own_ofw (fun tt_ => XS.goto X16.here hx rfl (pc0 := 160) (pc' := 164) rfl (hb hby at_160) (by decide) (by decide)) ?_
        show own_gw p e below s _ _ _ (T16.setTop (mkF m 164 #[.val (.long q1), .second, .val (.long q2), .second, .val (.int p3), .val (.long t2), .second, .val (.ref md), .val (.ref b1), .val (.ref b3), .val (.ref b5), .val (.int (1 : Int32)), .val (.int (1 : Int32)), .val (.int (1 : Int32)), .val (.int (1 : Int32)), .val (.int (1 : Int32)), .unset, .unset, .unset] [(.int (1 : Int32))]))
        refine own_ofw (fun tt_ => XS.istore X16.here hx rfl (hb hby at_164) rfl (l' := #[.val (.long q1), .second, .val (.long q2), .second, .val (.int p3), .val (.long t2), .second, .val (.ref md), .val (.ref b1), .val (.ref b3), .val (.ref b5), .val (.int (1 : Int32)), .val (.int (1 : Int32)), .val (.int (1 : Int32)), .val (.int (1 : Int32)), .val (.int (1 : Int32)), .val (.int (1 : Int32)), .unset, .unset]) rfl) ?_
        show own_gw p e below s _ _ _ (T16.setTop (mkF m 166 #[.val (.long q1), .second, .val (.long q2), .second, .val (.int p3), .val (.long t2), .second, .val (.ref md), .val (.ref b1), .val (.ref b3), .val (.ref b5), .val (.int (1 : Int32)), .val (.int (1 : Int32)), .val (.int (1 : Int32)), .val (.int (1 : Int32)), .val (.int (1 : Int32)), .val (.int (1 : Int32)), .unset, .unset] []))
        refine own_ofw (fun tt_ => XS.lloadN X16.here hx rfl (hb hby at_166) rfl) ?_
        show own_gw p e below s _ _ _ (T16.setTop (mkF m 167 #[.val (.long q1), .second, .val (.long q2), .second, .val (.int p3), .val (.long t2), .second, .val (.ref md), .val (.ref b1), .val (.ref b3), .val (.ref b5), .val (.int (1 : Int32)), .val (.int (1 : Int32)), .val (.int (1 : Int32)), .val (.int (1 : Int32)), .val (.int (1 : Int32)), .val (.int (1 : Int32)), .unset, .unset] [(.long q1)]))
        obtain ⟨_, _, ⟨T18, L18, k18, n18⟩, -, X18, ⟨Lc18, hQ18, l18, y18, z18⟩, st18⟩ := Jvm.LawKit.callS X16 hx (y := (⟨"com/example/plumeline/plumeline/TraceAddPinLaw", "inWindow", "(J)Z"⟩ : MethodName)) hown4 (mvT hZ4 (hW 74 _ rfl)) (mvT hZ4 (hW 75 _ rfl)) (mvT hZ4 (hW 76 _ rfl)) (mvT hZ4 (hW 77 _ rfl)) (by decide) (backOf (W := 0) (rm8_o l Z a0 hw [] q1 T6.heap n0 O6 out_1) hZ4 (hW 77 _ rfl) (hW 76 _ rfl) (by decide) (by decide)) (g := (mkF m 167 #[.val (.long q1), .second, .val (.long q2), .second, .val (.int p3), .val (.long t2), .second, .val (.ref md), .val (.ref b1), .val (.ref b3), .val (.ref b5), .val (.int (1 : Int32)), .val (.int (1 : Int32)), .val (.int (1 : Int32)), .val (.int (1 : Int32)), .val (.int (1 : Int32)), .val (.int (1 : Int32)), .unset, .unset] [(.long q1)])) rfl (by rw [hml]; rfl) (argsL := [(.long q1)]) (rest := []) (lenOf pd_5 rfl) rfl (by show 2 * 0 + _ ≤ _; exact Nat.le_of_eq rfl) (hb hby at_167) (fun _ _ => ⟨rfl, eh16, (by decide : 8 + 0 ≤ _), (by decide : 130 + 0 ≤ _)⟩)
        dsimp only [Pt.U, Pt.locs, Pt.cells, Pt.slots] at X18 l18 y18 z18 st18 hQ18
        subst l18 y18 z18
        obtain ⟨rfl, Nq18, eh18⟩ := hQ18
        have N18 := Fr.app N16 Nq18
        refine own_ofw st18 ?_
        show own_gw p e below s _ _ _ (T18.setTop (mkF m 170 #[.val (.long q1), .second, .val (.long q2), .second, .val (.int p3), .val (.long t2), .second, .val (.ref md), .val (.ref b1), .val (.ref b3), .val (.ref b5), .val (.int (1 : Int32)), .val (.int (1 : Int32)), .val (.int (1 : Int32)), .val (.int (1 : Int32)), .val (.int (1 : Int32)), .val (.int (1 : Int32)), .unset, .unset] [(.int (0 : Int32))]))
        have hb170_19 : (0 : Int32) = (0 : Int32) := by decide
        refine own_ofw (fun tt_ => XS.ifNo X18.here hx rfl (hb hby at_170) rfl ((if0 _ _).trans (teq hb170_19).2)) ?_
        show own_gw p e below s _ _ _ (T18.setTop (mkF m 173 #[.val (.long q1), .second, .val (.long q2), .second, .val (.int p3), .val (.long t2), .second, .val (.ref md), .val (.ref b1), .val (.ref b3), .val (.ref b5), .val (.int (1 : Int32)), .val (.int (1 : Int32)), .val (.int (1 : Int32)), .val (.int (1 : Int32)), .val (.int (1 : Int32)), .val (.int (1 : Int32)), .unset, .unset] []))
        refine own_ofw (fun tt_ => XS.iconst X18.here hx rfl (hb hby at_173)) ?_
        show own_gw p e below s _ _ _ (T18.setTop (mkF m 174 #[.val (.long q1), .second, .val (.long q2), .second, .val (.int p3), .val (.long t2), .second, .val (.ref md), .val (.ref b1), .val (.ref b3), .val (.ref b5), .val (.int (1 : Int32)), .val (.int (1 : Int32)), .val (.int (1 : Int32)), .val (.int (1 : Int32)), .val (.int (1 : Int32)), .val (.int (1 : Int32)), .unset, .unset] [(.int (1 : Int32))]))
        refine own_ofw (fun tt_ => XS.goto X18.here hx rfl (pc0 := 174) (pc' := 178) rfl (hb hby at_174) (by decide) (by decide)) ?_
        show own_gw p e below s _ _ _ (T18.setTop (mkF m 178 #[.val (.long q1), .second, .val (.long q2), .second, .val (.int p3), .val (.long t2), .second, .val (.ref md), .val (.ref b1), .val (.ref b3), .val (.ref b5), .val (.int (1 : Int32)), .val (.int (1 : Int32)), .val (.int (1 : Int32)), .val (.int (1 : Int32)), .val (.int (1 : Int32)), .val (.int (1 : Int32)), .unset, .unset] [(.int (1 : Int32))]))
        refine own_ofw (fun tt_ => XS.istore X18.here hx rfl (hb hby at_178) rfl (l' := #[.val (.long q1), .second, .val (.long q2), .second, .val (.int p3), .val (.long t2), .second, .val (.ref md), .val (.ref b1), .val (.ref b3), .val (.ref b5), .val (.int (1 : Int32)), .val (.int (1 : Int32)), .val (.int (1 : Int32)), .val (.int (1 : Int32)), .val (.int (1 : Int32)), .val (.int (1 : Int32)), .val (.int (1 : Int32)), .unset]) rfl) ?_
        show own_gw p e below s _ _ _ (T18.setTop (mkF m 180 #[.val (.long q1), .second, .val (.long q2), .second, .val (.int p3), .val (.long t2), .second, .val (.ref md), .val (.ref b1), .val (.ref b3), .val (.ref b5), .val (.int (1 : Int32)), .val (.int (1 : Int32)), .val (.int (1 : Int32)), .val (.int (1 : Int32)), .val (.int (1 : Int32)), .val (.int (1 : Int32)), .val (.int (1 : Int32)), .unset] []))
        refine own_ofw (fun tt_ => XS.lload X18.here hx rfl (hb hby at_180) rfl) ?_
        show own_gw p e below s _ _ _ (T18.setTop (mkF m 182 #[.val (.long q1), .second, .val (.long q2), .second, .val (.int p3), .val (.long t2), .second, .val (.ref md), .val (.ref b1), .val (.ref b3), .val (.ref b5), .val (.int (1 : Int32)), .val (.int (1 : Int32)), .val (.int (1 : Int32)), .val (.int (1 : Int32)), .val (.int (1 : Int32)), .val (.int (1 : Int32)), .val (.int (1 : Int32)), .unset] [(.long t2)]))
        obtain ⟨_, _, ⟨T20, L20, k20, n20⟩, -, X20, ⟨Lc20, hQ20, l20, y20, z20⟩, st20⟩ := Jvm.LawKit.callS X18 hx (y := (⟨"com/example/plumeline/plumeline/TraceAddPinLaw", "inWindow", "(J)Z"⟩ : MethodName)) hown4 (mvT hZ4 (hW 74 _ rfl)) (mvT hZ4 (hW 75 _ rfl)) (mvT hZ4 (hW 76 _ rfl)) (mvT hZ4 (hW 77 _ rfl)) (by decide) (backOf (W := 0) (rm8_o l Z a0 hw [] t2 T6.heap n0 O6 out_2) hZ4 (hW 77 _ rfl) (hW 76 _ rfl) (by decide) (by decide)) (g := (mkF m 182 #[.val (.long q1), .second, .val (.long q2), .second, .val (.int p3), .val (.long t2), .second, .val (.ref md), .val (.ref b1), .val (.ref b3), .val (.ref b5), .val (.int (1 : Int32)), .val (.int (1 : Int32)), .val (.int (1 : Int32)), .val (.int (1 : Int32)), .val (.int (1 : Int32)), .val (.int (1 : Int32)), .val (.int (1 : Int32)), .unset] [(.long t2)])) rfl (by rw [hml]; rfl) (argsL := [(.long t2)]) (rest := []) (lenOf pd_5 rfl) rfl (by show 2 * 0 + _ ≤ _; exact Nat.le_of_eq rfl) (hb hby at_182) (fun _ _ => ⟨rfl, eh18, (by decide : 8 + 0 ≤ _), (by decide : 130 + 0 ≤ _)⟩)
        dsimp only [Pt.U, Pt.locs, Pt.cells, Pt.slots] at X20 l20 y20 z20 st20 hQ20
        subst l20 y20 z20
        obtain ⟨rfl, Nq20, eh20⟩ := hQ20
        have N20 := Fr.app N18 Nq20
        refine own_ofw st20 ?_
        show own_gw p e below s _ _ _ (T20.setTop (mkF m 185 #[.val (.long q1), .second, .val (.long q2), .second, .val (.int p3), .val (.long t2), .second, .val (.ref md), .val (.ref b1), .val (.ref b3), .val (.ref b5), .val (.int (1 : Int32)), .val (.int (1 : Int32)), .val (.int (1 : Int32)), .val (.int (1 : Int32)), .val (.int (1 : Int32)), .val (.int (1 : Int32)), .val (.int (1 : Int32)), .unset] [(.int (0 : Int32))]))
        have hb185_21 : (0 : Int32) = (0 : Int32) := by decide
        refine own_ofw (fun tt_ => XS.ifNo X20.here hx rfl (hb hby at_185) rfl ((if0 _ _).trans (teq hb185_21).2)) ?_
        show own_gw p e below s _ _ _ (T20.setTop (mkF m 188 #[.val (.long q1), .second, .val (.long q2), .second, .val (.int p3), .val (.long t2), .second, .val (.ref md), .val (.ref b1), .val (.ref b3), .val (.ref b5), .val (.int (1 : Int32)), .val (.int (1 : Int32)), .val (.int (1 : Int32)), .val (.int (1 : Int32)), .val (.int (1 : Int32)), .val (.int (1 : Int32)), .val (.int (1 : Int32)), .unset] []))
        refine own_ofw (fun tt_ => XS.iconst X20.here hx rfl (hb hby at_188)) ?_
        show own_gw p e below s _ _ _ (T20.setTop (mkF m 189 #[.val (.long q1), .second, .val (.long q2), .second, .val (.int p3), .val (.long t2), .second, .val (.ref md), .val (.ref b1), .val (.ref b3), .val (.ref b5), .val (.int (1 : Int32)), .val (.int (1 : Int32)), .val (.int (1 : Int32)), .val (.int (1 : Int32)), .val (.int (1 : Int32)), .val (.int (1 : Int32)), .val (.int (1 : Int32)), .unset] [(.int (1 : Int32))]))
        refine own_ofw (fun tt_ => XS.goto X20.here hx rfl (pc0 := 189) (pc' := 193) rfl (hb hby at_189) (by decide) (by decide)) ?_
        show own_gw p e below s _ _ _ (T20.setTop (mkF m 193 #[.val (.long q1), .second, .val (.long q2), .second, .val (.int p3), .val (.long t2), .second, .val (.ref md), .val (.ref b1), .val (.ref b3), .val (.ref b5), .val (.int (1 : Int32)), .val (.int (1 : Int32)), .val (.int (1 : Int32)), .val (.int (1 : Int32)), .val (.int (1 : Int32)), .val (.int (1 : Int32)), .val (.int (1 : Int32)), .unset] [(.int (1 : Int32))]))
        refine own_ofw (fun tt_ => XS.istore X20.here hx rfl (hb hby at_193) rfl (l' := #[.val (.long q1), .second, .val (.long q2), .second, .val (.int p3), .val (.long t2), .second, .val (.ref md), .val (.ref b1), .val (.ref b3), .val (.ref b5), .val (.int (1 : Int32)), .val (.int (1 : Int32)), .val (.int (1 : Int32)), .val (.int (1 : Int32)), .val (.int (1 : Int32)), .val (.int (1 : Int32)), .val (.int (1 : Int32)), .val (.int (1 : Int32))]) rfl) ?_
        show own_gw p e below s _ _ _ (T20.setTop (mkF m 195 #[.val (.long q1), .second, .val (.long q2), .second, .val (.int p3), .val (.long t2), .second, .val (.ref md), .val (.ref b1), .val (.ref b3), .val (.ref b5), .val (.int (1 : Int32)), .val (.int (1 : Int32)), .val (.int (1 : Int32)), .val (.int (1 : Int32)), .val (.int (1 : Int32)), .val (.int (1 : Int32)), .val (.int (1 : Int32)), .val (.int (1 : Int32))] []))
        refine own_ofw (fun tt_ => XS.iload X20.here hx rfl (hb hby at_195) rfl) ?_
        show own_gw p e below s _ _ _ (T20.setTop (mkF m 197 #[.val (.long q1), .second, .val (.long q2), .second, .val (.int p3), .val (.long t2), .second, .val (.ref md), .val (.ref b1), .val (.ref b3), .val (.ref b5), .val (.int (1 : Int32)), .val (.int (1 : Int32)), .val (.int (1 : Int32)), .val (.int (1 : Int32)), .val (.int (1 : Int32)), .val (.int (1 : Int32)), .val (.int (1 : Int32)), .val (.int (1 : Int32))] [(.int (1 : Int32))]))
        refine own_ofw (fun tt_ => XS.iload X20.here hx rfl (hb hby at_197) rfl) ?_
        show own_gw p e below s _ _ _ (T20.setTop (mkF m 199 #[.val (.long q1), .second, .val (.long q2), .second, .val (.int p3), .val (.long t2), .second, .val (.ref md), .val (.ref b1), .val (.ref b3), .val (.ref b5), .val (.int (1 : Int32)), .val (.int (1 : Int32)), .val (.int (1 : Int32)), .val (.int (1 : Int32)), .val (.int (1 : Int32)), .val (.int (1 : Int32)), .val (.int (1 : Int32)), .val (.int (1 : Int32))] [(.int (1 : Int32)), (.int (1 : Int32))]))
        have hb199_22 : (1 : Int32) = (1 : Int32) := by decide
        refine own_ofw (fun tt_ => XS.icmpNo X20.here hx rfl (hb hby at_199) rfl (teq hb199_22).2) ?_
        show own_gw p e below s _ _ _ (T20.setTop (mkF m 202 #[.val (.long q1), .second, .val (.long q2), .second, .val (.int p3), .val (.long t2), .second, .val (.ref md), .val (.ref b1), .val (.ref b3), .val (.ref b5), .val (.int (1 : Int32)), .val (.int (1 : Int32)), .val (.int (1 : Int32)), .val (.int (1 : Int32)), .val (.int (1 : Int32)), .val (.int (1 : Int32)), .val (.int (1 : Int32)), .val (.int (1 : Int32))] []))
        refine own_ofw (fun tt_ => XS.iload X20.here hx rfl (hb hby at_202) rfl) ?_
        show own_gw p e below s _ _ _ (T20.setTop (mkF m 204 #[.val (.long q1), .second, .val (.long q2), .second, .val (.int p3), .val (.long t2), .second, .val (.ref md), .val (.ref b1), .val (.ref b3), .val (.ref b5), .val (.int (1 : Int32)), .val (.int (1 : Int32)), .val (.int (1 : Int32)), .val (.int (1 : Int32)), .val (.int (1 : Int32)), .val (.int (1 : Int32)), .val (.int (1 : Int32)), .val (.int (1 : Int32))] [(.int (1 : Int32))]))
        refine own_ofw (fun tt_ => XS.iload X20.here hx rfl (hb hby at_204) rfl) ?_
        show own_gw p e below s _ _ _ (T20.setTop (mkF m 206 #[.val (.long q1), .second, .val (.long q2), .second, .val (.int p3), .val (.long t2), .second, .val (.ref md), .val (.ref b1), .val (.ref b3), .val (.ref b5), .val (.int (1 : Int32)), .val (.int (1 : Int32)), .val (.int (1 : Int32)), .val (.int (1 : Int32)), .val (.int (1 : Int32)), .val (.int (1 : Int32)), .val (.int (1 : Int32)), .val (.int (1 : Int32))] [(.int (1 : Int32)), (.int (1 : Int32))]))
        have hb206_23 : (1 : Int32) = (1 : Int32) := by decide
        refine own_ofw (fun tt_ => XS.icmpNo X20.here hx rfl (hb hby at_206) rfl (teq hb206_23).2) ?_
        show own_gw p e below s _ _ _ (T20.setTop (mkF m 209 #[.val (.long q1), .second, .val (.long q2), .second, .val (.int p3), .val (.long t2), .second, .val (.ref md), .val (.ref b1), .val (.ref b3), .val (.ref b5), .val (.int (1 : Int32)), .val (.int (1 : Int32)), .val (.int (1 : Int32)), .val (.int (1 : Int32)), .val (.int (1 : Int32)), .val (.int (1 : Int32)), .val (.int (1 : Int32)), .val (.int (1 : Int32))] []))
        refine own_ofw (fun tt_ => XS.iload X20.here hx rfl (hb hby at_209) rfl) ?_
        show own_gw p e below s _ _ _ (T20.setTop (mkF m 211 #[.val (.long q1), .second, .val (.long q2), .second, .val (.int p3), .val (.long t2), .second, .val (.ref md), .val (.ref b1), .val (.ref b3), .val (.ref b5), .val (.int (1 : Int32)), .val (.int (1 : Int32)), .val (.int (1 : Int32)), .val (.int (1 : Int32)), .val (.int (1 : Int32)), .val (.int (1 : Int32)), .val (.int (1 : Int32)), .val (.int (1 : Int32))] [(.int (1 : Int32))]))
        refine own_ofw (fun tt_ => XS.iload X20.here hx rfl (hb hby at_211) rfl) ?_
        show own_gw p e below s _ _ _ (T20.setTop (mkF m 213 #[.val (.long q1), .second, .val (.long q2), .second, .val (.int p3), .val (.long t2), .second, .val (.ref md), .val (.ref b1), .val (.ref b3), .val (.ref b5), .val (.int (1 : Int32)), .val (.int (1 : Int32)), .val (.int (1 : Int32)), .val (.int (1 : Int32)), .val (.int (1 : Int32)), .val (.int (1 : Int32)), .val (.int (1 : Int32)), .val (.int (1 : Int32))] [(.int (1 : Int32)), (.int (1 : Int32))]))
        have hb213_24 : (1 : Int32) = (1 : Int32) := by decide
        refine own_ofw (fun tt_ => XS.icmpNo X20.here hx rfl (hb hby at_213) rfl (teq hb213_24).2) ?_
        show own_gw p e below s _ _ _ (T20.setTop (mkF m 216 #[.val (.long q1), .second, .val (.long q2), .second, .val (.int p3), .val (.long t2), .second, .val (.ref md), .val (.ref b1), .val (.ref b3), .val (.ref b5), .val (.int (1 : Int32)), .val (.int (1 : Int32)), .val (.int (1 : Int32)), .val (.int (1 : Int32)), .val (.int (1 : Int32)), .val (.int (1 : Int32)), .val (.int (1 : Int32)), .val (.int (1 : Int32))] []))
        refine own_ofw (fun tt_ => XS.iload X20.here hx rfl (hb hby at_216) rfl) ?_
        show own_gw p e below s _ _ _ (T20.setTop (mkF m 218 #[.val (.long q1), .second, .val (.long q2), .second, .val (.int p3), .val (.long t2), .second, .val (.ref md), .val (.ref b1), .val (.ref b3), .val (.ref b5), .val (.int (1 : Int32)), .val (.int (1 : Int32)), .val (.int (1 : Int32)), .val (.int (1 : Int32)), .val (.int (1 : Int32)), .val (.int (1 : Int32)), .val (.int (1 : Int32)), .val (.int (1 : Int32))] [(.int (1 : Int32))]))
        refine own_ofw (fun tt_ => XS.iload X20.here hx rfl (hb hby at_218) rfl) ?_
        show own_gw p e below s _ _ _ (T20.setTop (mkF m 220 #[.val (.long q1), .second, .val (.long q2), .second, .val (.int p3), .val (.long t2), .second, .val (.ref md), .val (.ref b1), .val (.ref b3), .val (.ref b5), .val (.int (1 : Int32)), .val (.int (1 : Int32)), .val (.int (1 : Int32)), .val (.int (1 : Int32)), .val (.int (1 : Int32)), .val (.int (1 : Int32)), .val (.int (1 : Int32)), .val (.int (1 : Int32))] [(.int (1 : Int32)), (.int (1 : Int32))]))
        have hb220_25 : (1 : Int32) = (1 : Int32) := by decide
        refine own_ofw (fun tt_ => XS.icmpNo X20.here hx rfl (hb hby at_220) rfl (teq hb220_25).2) ?_
        show own_gw p e below s _ _ _ (T20.setTop (mkF m 223 #[.val (.long q1), .second, .val (.long q2), .second, .val (.int p3), .val (.long t2), .second, .val (.ref md), .val (.ref b1), .val (.ref b3), .val (.ref b5), .val (.int (1 : Int32)), .val (.int (1 : Int32)), .val (.int (1 : Int32)), .val (.int (1 : Int32)), .val (.int (1 : Int32)), .val (.int (1 : Int32)), .val (.int (1 : Int32)), .val (.int (1 : Int32))] []))
        refine own_ofw (fun tt_ => XS.iconst X20.here hx rfl (hb hby at_223)) ?_
        show own_gw p e below s _ _ _ (T20.setTop (mkF m 224 #[.val (.long q1), .second, .val (.long q2), .second, .val (.int p3), .val (.long t2), .second, .val (.ref md), .val (.ref b1), .val (.ref b3), .val (.ref b5), .val (.int (1 : Int32)), .val (.int (1 : Int32)), .val (.int (1 : Int32)), .val (.int (1 : Int32)), .val (.int (1 : Int32)), .val (.int (1 : Int32)), .val (.int (1 : Int32)), .val (.int (1 : Int32))] [(.int (1 : Int32))]))
        refine own_ofw (fun tt_ => XS.goto X20.here hx rfl (pc0 := 224) (pc' := 228) rfl (hb hby at_224) (by decide) (by decide)) ?_
        show own_gw p e below s _ _ _ (T20.setTop (mkF m 228 #[.val (.long q1), .second, .val (.long q2), .second, .val (.int p3), .val (.long t2), .second, .val (.ref md), .val (.ref b1), .val (.ref b3), .val (.ref b5), .val (.int (1 : Int32)), .val (.int (1 : Int32)), .val (.int (1 : Int32)), .val (.int (1 : Int32)), .val (.int (1 : Int32)), .val (.int (1 : Int32)), .val (.int (1 : Int32)), .val (.int (1 : Int32))] [(.int (1 : Int32))]))
        refine own_retw X20 hx hlk hS4 (by rw [eh20]; omega : T4.heap.size ≤ T20.heap.size) Bd.returns rfl (Or.inl ⟨rfl, by simp, _, rfl⟩) (hb hby at_228) (by decide) (by decide) ?_
        rw [eh20]
        exact ⟨rfl, N20⟩
      · show own_gw p e below s _ _ _ (T6.setTop (mkF m 105 #[.val (.long q1), .second, .val (.long q2), .second, .val (.int p3), .val (.long t2), .second, .val (.ref md), .val (.ref b1), .val (.ref b3), .val (.ref b5), .unset, .unset, .unset, .unset, .unset, .unset, .unset, .unset] []))
        refine own_ofw (fun tt_ => XS.aload X6.here hx rfl (hb hby at_105) rfl rfl) ?_
        show own_gw p e below s _ _ _ (T6.setTop (mkF m 107 #[.val (.long q1), .second, .val (.long q2), .second, .val (.int p3), .val (.long t2), .second, .val (.ref md), .val (.ref b1), .val (.ref b3), .val (.ref b5), .unset, .unset, .unset, .unset, .unset, .unset, .unset, .unset] [(.ref b5)]))
        refine own_ofw (fun tt_ => XS.aload X6.here hx rfl (hb hby at_107) rfl rfl) ?_
        show own_gw p e below s _ _ _ (T6.setTop (mkF m 109 #[.val (.long q1), .second, .val (.long q2), .second, .val (.int p3), .val (.long t2), .second, .val (.ref md), .val (.ref b1), .val (.ref b3), .val (.ref b5), .unset, .unset, .unset, .unset, .unset, .unset, .unset, .unset] [(.ref b1), (.ref b5)]))
        have f26 : Exa Z T6.heap b1 "com/example/plumeline/plumeline/AsmSample" := (((((A1.keep Kp2).ext E3).keep Kp4).ext E5).keep Kp6)
        have f27 : Fld Z T6.heap b1 "com/example/plumeline/plumeline/AsmSample" "tS" "J" (.long q1) := ((((Ft2.ext E3).keep Kp4 (ninS (own_ne (by omega)) nin0)).ext E5).keep Kp6 (ninS (own_ne (by omega)) nin0))
        have f29 : Exa Z T6.heap b5 "com/example/plumeline/plumeline/LoadedMode$Trace" := (A5.keep Kp6)
        obtain ⟨cq28, kq28, q28a, q28b, q28c⟩ := isOf hZ4 rfl f29
        obtain ⟨_, _, ⟨T28, L28, k28, n28⟩, -, X28, ⟨Lc28, hQ28, l28, y28, z28⟩, st28⟩ := X6.virtualBack hx (y := (⟨"com/example/plumeline/plumeline/LoadedMode$Trace", "add", "(Lcom/example/plumeline/plumeline/AsmSample;)Z"⟩ : MethodName)) (z := (⟨"com/example/plumeline/plumeline/LoadedMode$Trace", "add", "(Lcom/example/plumeline/plumeline/AsmSample;)Z"⟩ : MethodName)) hown4 (mvT hZ4 (hW 63 _ rfl)) (mvT hZ4 (hW 64 _ rfl)) (notFace_of_selects (args := #[]) (mvT hZ4 (hW 66 _ rfl))) (mvT hZ4 (hW 66 _ rfl)) (mvT hZ4 (hW 65 _ rfl)) (by decide) (backOf (W := 0) (rm6_o l Z a0 hw [] b5 b1 q1 bs6 ks6 (List.replicate 75 Value.null) 0 T6.heap n0 O6 f26 f27 Fs6 Vs6 Ov6 hl6 (by omega) out_1) hZ4 (hW 67 _ rfl) (hW 54 _ rfl) (by decide) (by decide)) q28a q28c (g := (mkF m 109 #[.val (.long q1), .second, .val (.long q2), .second, .val (.int p3), .val (.long t2), .second, .val (.ref md), .val (.ref b1), .val (.ref b3), .val (.ref b5), .unset, .unset, .unset, .unset, .unset, .unset, .unset, .unset] [(.ref b1), (.ref b5)])) rfl (by rw [hml]; rfl) (Steps.refl _) (argsL := [(.ref b1)]) (rest := []) (lenOf pd_4 rfl) rfl (by show 2 * 0 + _ ≤ _; exact Nat.le_of_eq rfl) (hb hby at_109) (fun _ _ => ⟨rfl, rfl, (by decide : 8 + 0 ≤ _), (by decide : 130 + 0 ≤ _)⟩)
        dsimp only [Pt.U, Pt.locs, Pt.cells, Pt.slots] at X28 l28 y28 z28 st28 hQ28
        subst l28 y28 z28
        obtain ⟨rfl, Nq28, eh28⟩ := hQ28
        have N28 := Fr.app N6 Nq28
        refine own_ofw (fun tt_ kk_ => st28.trans kk_) ?_
        show own_gw p e below s _ _ _ (T28.setTop (mkF m 112 #[.val (.long q1), .second, .val (.long q2), .second, .val (.int p3), .val (.long t2), .second, .val (.ref md), .val (.ref b1), .val (.ref b3), .val (.ref b5), .unset, .unset, .unset, .unset, .unset, .unset, .unset, .unset] [(.int (1 : Int32))]))
        refine own_ofw (fun tt_ => XS.istore X28.here hx rfl (hb hby at_112) rfl (l' := #[.val (.long q1), .second, .val (.long q2), .second, .val (.int p3), .val (.long t2), .second, .val (.ref md), .val (.ref b1), .val (.ref b3), .val (.ref b5), .val (.int (1 : Int32)), .unset, .unset, .unset, .unset, .unset, .unset, .unset]) rfl) ?_
        show own_gw p e below s _ _ _ (T28.setTop (mkF m 114 #[.val (.long q1), .second, .val (.long q2), .second, .val (.int p3), .val (.long t2), .second, .val (.ref md), .val (.ref b1), .val (.ref b3), .val (.ref b5), .val (.int (1 : Int32)), .unset, .unset, .unset, .unset, .unset, .unset, .unset] []))
        refine own_ofw (fun tt_ => XS.aload X28.here hx rfl (hb hby at_114) rfl rfl) ?_
        show own_gw p e below s _ _ _ (T28.setTop (mkF m 116 #[.val (.long q1), .second, .val (.long q2), .second, .val (.int p3), .val (.long t2), .second, .val (.ref md), .val (.ref b1), .val (.ref b3), .val (.ref b5), .val (.int (1 : Int32)), .unset, .unset, .unset, .unset, .unset, .unset, .unset] [(.ref b5)]))
        refine own_ofw (fun tt_ => XS.aload X28.here hx rfl (hb hby at_116) rfl rfl) ?_
        show own_gw p e below s _ _ _ (T28.setTop (mkF m 118 #[.val (.long q1), .second, .val (.long q2), .second, .val (.int p3), .val (.long t2), .second, .val (.ref md), .val (.ref b1), .val (.ref b3), .val (.ref b5), .val (.int (1 : Int32)), .unset, .unset, .unset, .unset, .unset, .unset, .unset] [(.ref b3), (.ref b5)]))
        have f30 : Exa Z T6.heap b3 "com/example/plumeline/plumeline/AsmSample" := (((A3.keep Kp4).ext E5).keep Kp6)
        have f31 : Fld Z T6.heap b3 "com/example/plumeline/plumeline/AsmSample" "tS" "J" (.long t2) := ((Ft4.ext E5).keep Kp6 (ninS (own_ne (by omega)) nin0))
        have at32 : ((List.replicate 75 Value.null) : List Value).getD (t2.toInt - 16).toNat Value.null = Value.null := by
          exact own_rep _
        obtain ⟨cq33, kq33, q33a, q33b, q33c⟩ := isOf hZ4 eh28 f29
        obtain ⟨_, _, ⟨T33, L33, k33, n33⟩, -, X33, ⟨Lc33, hQ33, l33, y33, z33⟩, st33⟩ := X28.virtualBack hx (y := (⟨"com/example/plumeline/plumeline/LoadedMode$Trace", "add", "(Lcom/example/plumeline/plumeline/AsmSample;)Z"⟩ : MethodName)) (z := (⟨"com/example/plumeline/plumeline/LoadedMode$Trace", "add", "(Lcom/example/plumeline/plumeline/AsmSample;)Z"⟩ : MethodName)) hown4 (mvT hZ4 (hW 63 _ rfl)) (mvT hZ4 (hW 64 _ rfl)) (notFace_of_selects (args := #[]) (mvT hZ4 (hW 66 _ rfl))) (mvT hZ4 (hW 66 _ rfl)) (mvT hZ4 (hW 65 _ rfl)) (by decide) (backOf (W := 0) (rm6_n l Z a0 hw [] b5 b3 t2 bs6 ks6 (List.replicate 75 Value.null) 0 T6.heap n0 O6 f30 f31 Fs6 Vs6 Ov6 hl6 (by omega) lo_2 hi_2 at32) hZ4 (hW 67 _ rfl) (hW 54 _ rfl) (by decide) (by decide)) q33a q33c (g := (mkF m 118 #[.val (.long q1), .second, .val (.long q2), .second, .val (.int p3), .val (.long t2), .second, .val (.ref md), .val (.ref b1), .val (.ref b3), .val (.ref b5), .val (.int (1 : Int32)), .unset, .unset, .unset, .unset, .unset, .unset, .unset] [(.ref b3), (.ref b5)])) rfl (by rw [hml]; rfl) (Steps.refl _) (argsL := [(.ref b3)]) (rest := []) (lenOf pd_4 rfl) rfl (by show 2 * 0 + _ ≤ _; exact Nat.le_of_eq rfl) (hb hby at_118) (fun _ _ => ⟨rfl, eh28, (by decide : 8 + 0 ≤ _), (by decide : 130 + 0 ≤ _)⟩)
        dsimp only [Pt.U, Pt.locs, Pt.cells, Pt.slots] at X33 l33 y33 z33 st33 hQ33
        subst l33 y33 z33
        obtain ⟨rfl, Nq33, Kp33, Vn33⟩ := hQ33
        have N33 := Fr.app N28 Nq33
        refine own_ofw (fun tt_ kk_ => st33.trans kk_) ?_
        have sz33 : T6.heap.size ≤ T33.heap.size := Kp33.1
        have O33 : Old Z n0 T33.heap := O6.keep Kp33 (allS (by omega) all0)
        have hl33 : (((List.replicate 75 Value.null).set (t2.toInt - 16).toNat (.ref b3)) : List Value).length = 75 := by rw [List.length_set]; exact hl6
        show own_gw p e below s _ _ _ (T33.setTop (mkF m 121 #[.val (.long q1), .second, .val (.long q2), .second, .val (.int p3), .val (.long t2), .second, .val (.ref md), .val (.ref b1), .val (.ref b3), .val (.ref b5), .val (.int (1 : Int32)), .unset, .unset, .unset, .unset, .unset, .unset, .unset] [(.int (1 : Int32))]))
        refine own_ofw (fun tt_ => XS.istore X33.here hx rfl (hb hby at_121) rfl (l' := #[.val (.long q1), .second, .val (.long q2), .second, .val (.int p3), .val (.long t2), .second, .val (.ref md), .val (.ref b1), .val (.ref b3), .val (.ref b5), .val (.int (1 : Int32)), .val (.int (1 : Int32)), .unset, .unset, .unset, .unset, .unset, .unset]) rfl) ?_
        show own_gw p e below s _ _ _ (T33.setTop (mkF m 123 #[.val (.long q1), .second, .val (.long q2), .second, .val (.int p3), .val (.long t2), .second, .val (.ref md), .val (.ref b1), .val (.ref b3), .val (.ref b5), .val (.int (1 : Int32)), .val (.int (1 : Int32)), .unset, .unset, .unset, .unset, .unset, .unset] []))
        refine own_ofw (fun tt_ => XS.aload X33.here hx rfl (hb hby at_123) rfl rfl) ?_
        show own_gw p e below s _ _ _ (T33.setTop (mkF m 125 #[.val (.long q1), .second, .val (.long q2), .second, .val (.int p3), .val (.long t2), .second, .val (.ref md), .val (.ref b1), .val (.ref b3), .val (.ref b5), .val (.int (1 : Int32)), .val (.int (1 : Int32)), .unset, .unset, .unset, .unset, .unset, .unset] [(.ref b5)]))
        refine own_ofw (fun tt_ => XS.aload X33.here hx rfl (hb hby at_125) rfl rfl) ?_
        show own_gw p e below s _ _ _ (T33.setTop (mkF m 127 #[.val (.long q1), .second, .val (.long q2), .second, .val (.int p3), .val (.long t2), .second, .val (.ref md), .val (.ref b1), .val (.ref b3), .val (.ref b5), .val (.int (1 : Int32)), .val (.int (1 : Int32)), .unset, .unset, .unset, .unset, .unset, .unset] [(.ref b1), (.ref b5)]))
        have f34 : Exa Z T33.heap b1 "com/example/plumeline/plumeline/AsmSample" := (f26.keep Kp33)
        have f35 : Fld Z T33.heap b1 "com/example/plumeline/plumeline/AsmSample" "tS" "J" (.long q1) := (f27.keep Kp33 (ninS (own_ne (by omega)) nin0))
        have f36 : Fld Z T33.heap b5 "com/example/plumeline/plumeline/LoadedMode$Trace" "samples" "[Lcom/example/plumeline/plumeline/AsmSample;" (.ref bs6) := (Fs6.keep Kp33 (ninS (own_ne (by omega)) nin0))
        have f38 : Exa Z T33.heap b5 "com/example/plumeline/plumeline/LoadedMode$Trace" := (f29.keep Kp33)
        obtain ⟨cq37, kq37, q37a, q37b, q37c⟩ := isOf hZ4 rfl f38
        obtain ⟨_, _, ⟨T37, L37, k37, n37⟩, -, X37, ⟨Lc37, hQ37, l37, y37, z37⟩, st37⟩ := X33.virtualBack hx (y := (⟨"com/example/plumeline/plumeline/LoadedMode$Trace", "add", "(Lcom/example/plumeline/plumeline/AsmSample;)Z"⟩ : MethodName)) (z := (⟨"com/example/plumeline/plumeline/LoadedMode$Trace", "add", "(Lcom/example/plumeline/plumeline/AsmSample;)Z"⟩ : MethodName)) hown4 (mvT hZ4 (hW 63 _ rfl)) (mvT hZ4 (hW 64 _ rfl)) (notFace_of_selects (args := #[]) (mvT hZ4 (hW 66 _ rfl))) (mvT hZ4 (hW 66 _ rfl)) (mvT hZ4 (hW 65 _ rfl)) (by decide) (backOf (W := 0) (rm6_o l Z a0 hw [] b5 b1 q1 bs6 ks6 ((List.replicate 75 Value.null).set (t2.toInt - 16).toNat (.ref b3)) 0 T33.heap n0 O33 f34 f35 f36 Vn33 Ov6 hl33 (by omega) out_1) hZ4 (hW 67 _ rfl) (hW 54 _ rfl) (by decide) (by decide)) q37a q37c (g := (mkF m 127 #[.val (.long q1), .second, .val (.long q2), .second, .val (.int p3), .val (.long t2), .second, .val (.ref md), .val (.ref b1), .val (.ref b3), .val (.ref b5), .val (.int (1 : Int32)), .val (.int (1 : Int32)), .unset, .unset, .unset, .unset, .unset, .unset] [(.ref b1), (.ref b5)])) rfl (by rw [hml]; rfl) (Steps.refl _) (argsL := [(.ref b1)]) (rest := []) (lenOf pd_4 rfl) rfl (by show 2 * 0 + _ ≤ _; exact Nat.le_of_eq rfl) (hb hby at_127) (fun _ _ => ⟨rfl, rfl, (by decide : 8 + 0 ≤ _), (by decide : 130 + 0 ≤ _)⟩)
        dsimp only [Pt.U, Pt.locs, Pt.cells, Pt.slots] at X37 l37 y37 z37 st37 hQ37
        subst l37 y37 z37
        obtain ⟨rfl, Nq37, eh37⟩ := hQ37
        have N37 := Fr.app N33 Nq37
        refine own_ofw (fun tt_ kk_ => st37.trans kk_) ?_
        show own_gw p e below s _ _ _ (T37.setTop (mkF m 130 #[.val (.long q1), .second, .val (.long q2), .second, .val (.int p3), .val (.long t2), .second, .val (.ref md), .val (.ref b1), .val (.ref b3), .val (.ref b5), .val (.int (1 : Int32)), .val (.int (1 : Int32)), .unset, .unset, .unset, .unset, .unset, .unset] [(.int (1 : Int32))]))
        refine own_ofw (fun tt_ => XS.istore X37.here hx rfl (hb hby at_130) rfl (l' := #[.val (.long q1), .second, .val (.long q2), .second, .val (.int p3), .val (.long t2), .second, .val (.ref md), .val (.ref b1), .val (.ref b3), .val (.ref b5), .val (.int (1 : Int32)), .val (.int (1 : Int32)), .val (.int (1 : Int32)), .unset, .unset, .unset, .unset, .unset]) rfl) ?_
        show own_gw p e below s _ _ _ (T37.setTop (mkF m 132 #[.val (.long q1), .second, .val (.long q2), .second, .val (.int p3), .val (.long t2), .second, .val (.ref md), .val (.ref b1), .val (.ref b3), .val (.ref b5), .val (.int (1 : Int32)), .val (.int (1 : Int32)), .val (.int (1 : Int32)), .unset, .unset, .unset, .unset, .unset] []))
        refine own_ofw (fun tt_ => XS.aload X37.here hx rfl (hb hby at_132) rfl rfl) ?_
        show own_gw p e below s _ _ _ (T37.setTop (mkF m 134 #[.val (.long q1), .second, .val (.long q2), .second, .val (.int p3), .val (.long t2), .second, .val (.ref md), .val (.ref b1), .val (.ref b3), .val (.ref b5), .val (.int (1 : Int32)), .val (.int (1 : Int32)), .val (.int (1 : Int32)), .unset, .unset, .unset, .unset, .unset] [(.ref b5)]))
        refine own_ofw (fun tt_ => XS.aload X37.here hx rfl (hb hby at_134) rfl rfl) ?_
        show own_gw p e below s _ _ _ (T37.setTop (mkF m 136 #[.val (.long q1), .second, .val (.long q2), .second, .val (.int p3), .val (.long t2), .second, .val (.ref md), .val (.ref b1), .val (.ref b3), .val (.ref b5), .val (.int (1 : Int32)), .val (.int (1 : Int32)), .val (.int (1 : Int32)), .unset, .unset, .unset, .unset, .unset] [(.ref b3), (.ref b5)]))
        have f39 : Exa Z T33.heap b3 "com/example/plumeline/plumeline/AsmSample" := (f30.keep Kp33)
        have f40 : Fld Z T33.heap b3 "com/example/plumeline/plumeline/AsmSample" "tS" "J" (.long t2) := (f31.keep Kp33 (ninS (own_ne (by omega)) nin0))
        have at41 : (((List.replicate 75 Value.null).set (t2.toInt - 16).toNat (.ref b3)) : List Value).getD (t2.toInt - 16).toNat Value.null = Value.ref b3 := by
          exact own_setAt _ _ _ _ (by simpa using own_lt75 lo_2 hi_2)
        obtain ⟨cq42, kq42, q42a, q42b, q42c⟩ := isOf hZ4 eh37 f38
        obtain ⟨_, _, ⟨T42, L42, k42, n42⟩, -, X42, ⟨Lc42, hQ42, l42, y42, z42⟩, st42⟩ := X37.virtualBack hx (y := (⟨"com/example/plumeline/plumeline/LoadedMode$Trace", "add", "(Lcom/example/plumeline/plumeline/AsmSample;)Z"⟩ : MethodName)) (z := (⟨"com/example/plumeline/plumeline/LoadedMode$Trace", "add", "(Lcom/example/plumeline/plumeline/AsmSample;)Z"⟩ : MethodName)) hown4 (mvT hZ4 (hW 63 _ rfl)) (mvT hZ4 (hW 64 _ rfl)) (notFace_of_selects (args := #[]) (mvT hZ4 (hW 66 _ rfl))) (mvT hZ4 (hW 66 _ rfl)) (mvT hZ4 (hW 65 _ rfl)) (by decide) (backOf (W := 0) (rm6_r l Z a0 hw [] b5 b3 t2 bs6 ks6 ((List.replicate 75 Value.null).set (t2.toInt - 16).toNat (.ref b3)) b3 T33.heap n0 O33 f39 f40 f36 Vn33 Ov6 hl33 (by omega) lo_2 hi_2 at41) hZ4 (hW 67 _ rfl) (hW 54 _ rfl) (by decide) (by decide)) q42a q42c (g := (mkF m 136 #[.val (.long q1), .second, .val (.long q2), .second, .val (.int p3), .val (.long t2), .second, .val (.ref md), .val (.ref b1), .val (.ref b3), .val (.ref b5), .val (.int (1 : Int32)), .val (.int (1 : Int32)), .val (.int (1 : Int32)), .unset, .unset, .unset, .unset, .unset] [(.ref b3), (.ref b5)])) rfl (by rw [hml]; rfl) (Steps.refl _) (argsL := [(.ref b3)]) (rest := []) (lenOf pd_4 rfl) rfl (by show 2 * 0 + _ ≤ _; exact Nat.le_of_eq rfl) (hb hby at_136) (fun _ _ => ⟨rfl, eh37, (by decide : 8 + 0 ≤ _), (by decide : 130 + 0 ≤ _)⟩)
        dsimp only [Pt.U, Pt.locs, Pt.cells, Pt.slots] at X42 l42 y42 z42 st42 hQ42
        subst l42 y42 z42
        obtain ⟨rfl, Nq42, eh42⟩ := hQ42
        have N42 := Fr.app N37 Nq42
        refine own_ofw (fun tt_ kk_ => st42.trans kk_) ?_
        show own_gw p e below s _ _ _ (T42.setTop (mkF m 139 #[.val (.long q1), .second, .val (.long q2), .second, .val (.int p3), .val (.long t2), .second, .val (.ref md), .val (.ref b1), .val (.ref b3), .val (.ref b5), .val (.int (1 : Int32)), .val (.int (1 : Int32)), .val (.int (1 : Int32)), .unset, .unset, .unset, .unset, .unset] [(.int (0 : Int32))]))
        refine own_ofw (fun tt_ => XS.istore X42.here hx rfl (hb hby at_139) rfl (l' := #[.val (.long q1), .second, .val (.long q2), .second, .val (.int p3), .val (.long t2), .second, .val (.ref md), .val (.ref b1), .val (.ref b3), .val (.ref b5), .val (.int (1 : Int32)), .val (.int (1 : Int32)), .val (.int (1 : Int32)), .val (.int (0 : Int32)), .unset, .unset, .unset, .unset]) rfl) ?_
        show own_gw p e below s _ _ _ (T42.setTop (mkF m 141 #[.val (.long q1), .second, .val (.long q2), .second, .val (.int p3), .val (.long t2), .second, .val (.ref md), .val (.ref b1), .val (.ref b3), .val (.ref b5), .val (.int (1 : Int32)), .val (.int (1 : Int32)), .val (.int (1 : Int32)), .val (.int (0 : Int32)), .unset, .unset, .unset, .unset] []))
        refine own_ofw (fun tt_ => XS.iconst X42.here hx rfl (hb hby at_141)) ?_
        show own_gw p e below s _ _ _ (T42.setTop (mkF m 142 #[.val (.long q1), .second, .val (.long q2), .second, .val (.int p3), .val (.long t2), .second, .val (.ref md), .val (.ref b1), .val (.ref b3), .val (.ref b5), .val (.int (1 : Int32)), .val (.int (1 : Int32)), .val (.int (1 : Int32)), .val (.int (0 : Int32)), .unset, .unset, .unset, .unset] [(.int (1 : Int32))]))
        refine own_ofw (fun tt_ => XS.istore X42.here hx rfl (hb hby at_142) rfl (l' := #[.val (.long q1), .second, .val (.long q2), .second, .val (.int p3), .val (.long t2), .second, .val (.ref md), .val (.ref b1), .val (.ref b3), .val (.ref b5), .val (.int (1 : Int32)), .val (.int (1 : Int32)), .val (.int (1 : Int32)), .val (.int (0 : Int32)), .val (.int (1 : Int32)), .unset, .unset, .unset]) rfl) ?_
        show own_gw p e below s _ _ _ (T42.setTop (mkF m 144 #[.val (.long q1), .second, .val (.long q2), .second, .val (.int p3), .val (.long t2), .second, .val (.ref md), .val (.ref b1), .val (.ref b3), .val (.ref b5), .val (.int (1 : Int32)), .val (.int (1 : Int32)), .val (.int (1 : Int32)), .val (.int (0 : Int32)), .val (.int (1 : Int32)), .unset, .unset, .unset] []))
        refine own_ofw (fun tt_ => XS.lload X42.here hx rfl (hb hby at_144) rfl) ?_
        show own_gw p e below s _ _ _ (T42.setTop (mkF m 146 #[.val (.long q1), .second, .val (.long q2), .second, .val (.int p3), .val (.long t2), .second, .val (.ref md), .val (.ref b1), .val (.ref b3), .val (.ref b5), .val (.int (1 : Int32)), .val (.int (1 : Int32)), .val (.int (1 : Int32)), .val (.int (0 : Int32)), .val (.int (1 : Int32)), .unset, .unset, .unset] [(.long t2)]))
        obtain ⟨_, _, ⟨T43, L43, k43, n43⟩, -, X43, ⟨Lc43, hQ43, l43, y43, z43⟩, st43⟩ := Jvm.LawKit.callS X42 hx (y := (⟨"com/example/plumeline/plumeline/TraceAddPinLaw", "inWindow", "(J)Z"⟩ : MethodName)) hown4 (mvT hZ4 (hW 74 _ rfl)) (mvT hZ4 (hW 75 _ rfl)) (mvT hZ4 (hW 76 _ rfl)) (mvT hZ4 (hW 77 _ rfl)) (by decide) (backOf (W := 0) (rm8_in l Z a0 hw [] t2 T33.heap n0 O33 lo_2 hi_2) hZ4 (hW 77 _ rfl) (hW 76 _ rfl) (by decide) (by decide)) (g := (mkF m 146 #[.val (.long q1), .second, .val (.long q2), .second, .val (.int p3), .val (.long t2), .second, .val (.ref md), .val (.ref b1), .val (.ref b3), .val (.ref b5), .val (.int (1 : Int32)), .val (.int (1 : Int32)), .val (.int (1 : Int32)), .val (.int (0 : Int32)), .val (.int (1 : Int32)), .unset, .unset, .unset] [(.long t2)])) rfl (by rw [hml]; rfl) (argsL := [(.long t2)]) (rest := []) (lenOf pd_5 rfl) rfl (by show 2 * 0 + _ ≤ _; exact Nat.le_of_eq rfl) (hb hby at_146) (fun _ _ => ⟨rfl, eh42, (by decide : 8 + 0 ≤ _), (by decide : 130 + 0 ≤ _)⟩)
        dsimp only [Pt.U, Pt.locs, Pt.cells, Pt.slots] at X43 l43 y43 z43 st43 hQ43
        subst l43 y43 z43
        obtain ⟨rfl, Nq43, eh43⟩ := hQ43
        have N43 := Fr.app N42 Nq43
        refine own_ofw st43 ?_
        show own_gw p e below s _ _ _ (T43.setTop (mkF m 149 #[.val (.long q1), .second, .val (.long q2), .second, .val (.int p3), .val (.long t2), .second, .val (.ref md), .val (.ref b1), .val (.ref b3), .val (.ref b5), .val (.int (1 : Int32)), .val (.int (1 : Int32)), .val (.int (1 : Int32)), .val (.int (0 : Int32)), .val (.int (1 : Int32)), .unset, .unset, .unset] [(.int (1 : Int32))]))
        have hb149_44 : ¬ ((1 : Int32) = (0 : Int32)) := by decide
        refine own_ofw (fun tt_ => XS.ifNo X43.here hx rfl (hb hby at_149) rfl ((if0 _ _).trans (feq hb149_44).1)) ?_
        show own_gw p e below s _ _ _ (T43.setTop (mkF m 152 #[.val (.long q1), .second, .val (.long q2), .second, .val (.int p3), .val (.long t2), .second, .val (.ref md), .val (.ref b1), .val (.ref b3), .val (.ref b5), .val (.int (1 : Int32)), .val (.int (1 : Int32)), .val (.int (1 : Int32)), .val (.int (0 : Int32)), .val (.int (1 : Int32)), .unset, .unset, .unset] []))
        refine own_ofw (fun tt_ => XS.lload X43.here hx rfl (hb hby at_152) rfl) ?_
        show own_gw p e below s _ _ _ (T43.setTop (mkF m 154 #[.val (.long q1), .second, .val (.long q2), .second, .val (.int p3), .val (.long t2), .second, .val (.ref md), .val (.ref b1), .val (.ref b3), .val (.ref b5), .val (.int (1 : Int32)), .val (.int (1 : Int32)), .val (.int (1 : Int32)), .val (.int (0 : Int32)), .val (.int (1 : Int32)), .unset, .unset, .unset] [(.long t2)]))
        refine own_ofw (fun tt_ => XS.lloadN X43.here hx rfl (hb hby at_154) rfl) ?_
        show own_gw p e below s _ _ _ (T43.setTop (mkF m 155 #[.val (.long q1), .second, .val (.long q2), .second, .val (.int p3), .val (.long t2), .second, .val (.ref md), .val (.ref b1), .val (.ref b3), .val (.ref b5), .val (.int (1 : Int32)), .val (.int (1 : Int32)), .val (.int (1 : Int32)), .val (.int (0 : Int32)), .val (.int (1 : Int32)), .unset, .unset, .unset] [(.long q1), (.long t2)]))
        refine own_ofw (fun tt_ => XS.lcmp X43.here hx rfl (hb hby at_155) rfl) ?_
        show own_gw p e below s _ _ _ (T43.setTop (mkF m 156 #[.val (.long q1), .second, .val (.long q2), .second, .val (.int p3), .val (.long t2), .second, .val (.ref md), .val (.ref b1), .val (.ref b3), .val (.ref b5), .val (.int (1 : Int32)), .val (.int (1 : Int32)), .val (.int (1 : Int32)), .val (.int (0 : Int32)), .val (.int (1 : Int32)), .unset, .unset, .unset] [(.int (lcmpW t2 q1))]))
        have hb156_45 : ¬ ((lcmpW t2 q1) = (0 : Int32)) := fun q => by have q2 := (lw_eq _ _).mp q; rw [q2] at lo_2 hi_2; exact out_1.elim lo_2 hi_2
        refine own_ofw (fun tt_ => XS.ifNo X43.here hx rfl (hb hby at_156) rfl ((if0 _ _).trans (feq hb156_45).1)) ?_
        show own_gw p e below s _ _ _ (T43.setTop (mkF m 159 #[.val (.long q1), .second, .val (.long q2), .second, .val (.int p3), .val (.long t2), .second, .val (.ref md), .val (.ref b1), .val (.ref b3), .val (.ref b5), .val (.int (1 : Int32)), .val (.int (1 : Int32)), .val (.int (1 : Int32)), .val (.int (0 : Int32)), .val (.int (1 : Int32)), .unset, .unset, .unset] []))
        refine own_ofw (fun tt_ => XS.iconst X43.here hx rfl (hb hby at_159)) ?_
        show own_gw p e below s _ _ _ (T43.setTop (mkF m 160 #[.val (.long q1), .second, .val (.long q2), .second, .val (.int p3), .val (.long t2), .second, .val (.ref md), .val (.ref b1), .val (.ref b3), .val (.ref b5), .val (.int (1 : Int32)), .val (.int (1 : Int32)), .val (.int (1 : Int32)), .val (.int (0 : Int32)), .val (.int (1 : Int32)), .unset, .unset, .unset] [(.int (1 : Int32))]))
        refine own_ofw (fun tt_ => XS.goto X43.here hx rfl (pc0 := 160) (pc' := 164) rfl (hb hby at_160) (by decide) (by decide)) ?_
        show own_gw p e below s _ _ _ (T43.setTop (mkF m 164 #[.val (.long q1), .second, .val (.long q2), .second, .val (.int p3), .val (.long t2), .second, .val (.ref md), .val (.ref b1), .val (.ref b3), .val (.ref b5), .val (.int (1 : Int32)), .val (.int (1 : Int32)), .val (.int (1 : Int32)), .val (.int (0 : Int32)), .val (.int (1 : Int32)), .unset, .unset, .unset] [(.int (1 : Int32))]))
        refine own_ofw (fun tt_ => XS.istore X43.here hx rfl (hb hby at_164) rfl (l' := #[.val (.long q1), .second, .val (.long q2), .second, .val (.int p3), .val (.long t2), .second, .val (.ref md), .val (.ref b1), .val (.ref b3), .val (.ref b5), .val (.int (1 : Int32)), .val (.int (1 : Int32)), .val (.int (1 : Int32)), .val (.int (0 : Int32)), .val (.int (1 : Int32)), .val (.int (1 : Int32)), .unset, .unset]) rfl) ?_
        show own_gw p e below s _ _ _ (T43.setTop (mkF m 166 #[.val (.long q1), .second, .val (.long q2), .second, .val (.int p3), .val (.long t2), .second, .val (.ref md), .val (.ref b1), .val (.ref b3), .val (.ref b5), .val (.int (1 : Int32)), .val (.int (1 : Int32)), .val (.int (1 : Int32)), .val (.int (0 : Int32)), .val (.int (1 : Int32)), .val (.int (1 : Int32)), .unset, .unset] []))
        refine own_ofw (fun tt_ => XS.lloadN X43.here hx rfl (hb hby at_166) rfl) ?_
        show own_gw p e below s _ _ _ (T43.setTop (mkF m 167 #[.val (.long q1), .second, .val (.long q2), .second, .val (.int p3), .val (.long t2), .second, .val (.ref md), .val (.ref b1), .val (.ref b3), .val (.ref b5), .val (.int (1 : Int32)), .val (.int (1 : Int32)), .val (.int (1 : Int32)), .val (.int (0 : Int32)), .val (.int (1 : Int32)), .val (.int (1 : Int32)), .unset, .unset] [(.long q1)]))
        obtain ⟨_, _, ⟨T46, L46, k46, n46⟩, -, X46, ⟨Lc46, hQ46, l46, y46, z46⟩, st46⟩ := Jvm.LawKit.callS X43 hx (y := (⟨"com/example/plumeline/plumeline/TraceAddPinLaw", "inWindow", "(J)Z"⟩ : MethodName)) hown4 (mvT hZ4 (hW 74 _ rfl)) (mvT hZ4 (hW 75 _ rfl)) (mvT hZ4 (hW 76 _ rfl)) (mvT hZ4 (hW 77 _ rfl)) (by decide) (backOf (W := 0) (rm8_o l Z a0 hw [] q1 T33.heap n0 O33 out_1) hZ4 (hW 77 _ rfl) (hW 76 _ rfl) (by decide) (by decide)) (g := (mkF m 167 #[.val (.long q1), .second, .val (.long q2), .second, .val (.int p3), .val (.long t2), .second, .val (.ref md), .val (.ref b1), .val (.ref b3), .val (.ref b5), .val (.int (1 : Int32)), .val (.int (1 : Int32)), .val (.int (1 : Int32)), .val (.int (0 : Int32)), .val (.int (1 : Int32)), .val (.int (1 : Int32)), .unset, .unset] [(.long q1)])) rfl (by rw [hml]; rfl) (argsL := [(.long q1)]) (rest := []) (lenOf pd_5 rfl) rfl (by show 2 * 0 + _ ≤ _; exact Nat.le_of_eq rfl) (hb hby at_167) (fun _ _ => ⟨rfl, eh43, (by decide : 8 + 0 ≤ _), (by decide : 130 + 0 ≤ _)⟩)
        dsimp only [Pt.U, Pt.locs, Pt.cells, Pt.slots] at X46 l46 y46 z46 st46 hQ46
        subst l46 y46 z46
        obtain ⟨rfl, Nq46, eh46⟩ := hQ46
        have N46 := Fr.app N43 Nq46
        refine own_ofw st46 ?_
        show own_gw p e below s _ _ _ (T46.setTop (mkF m 170 #[.val (.long q1), .second, .val (.long q2), .second, .val (.int p3), .val (.long t2), .second, .val (.ref md), .val (.ref b1), .val (.ref b3), .val (.ref b5), .val (.int (1 : Int32)), .val (.int (1 : Int32)), .val (.int (1 : Int32)), .val (.int (0 : Int32)), .val (.int (1 : Int32)), .val (.int (1 : Int32)), .unset, .unset] [(.int (0 : Int32))]))
        have hb170_47 : (0 : Int32) = (0 : Int32) := by decide
        refine own_ofw (fun tt_ => XS.ifNo X46.here hx rfl (hb hby at_170) rfl ((if0 _ _).trans (teq hb170_47).2)) ?_
        show own_gw p e below s _ _ _ (T46.setTop (mkF m 173 #[.val (.long q1), .second, .val (.long q2), .second, .val (.int p3), .val (.long t2), .second, .val (.ref md), .val (.ref b1), .val (.ref b3), .val (.ref b5), .val (.int (1 : Int32)), .val (.int (1 : Int32)), .val (.int (1 : Int32)), .val (.int (0 : Int32)), .val (.int (1 : Int32)), .val (.int (1 : Int32)), .unset, .unset] []))
        refine own_ofw (fun tt_ => XS.iconst X46.here hx rfl (hb hby at_173)) ?_
        show own_gw p e below s _ _ _ (T46.setTop (mkF m 174 #[.val (.long q1), .second, .val (.long q2), .second, .val (.int p3), .val (.long t2), .second, .val (.ref md), .val (.ref b1), .val (.ref b3), .val (.ref b5), .val (.int (1 : Int32)), .val (.int (1 : Int32)), .val (.int (1 : Int32)), .val (.int (0 : Int32)), .val (.int (1 : Int32)), .val (.int (1 : Int32)), .unset, .unset] [(.int (1 : Int32))]))
        refine own_ofw (fun tt_ => XS.goto X46.here hx rfl (pc0 := 174) (pc' := 178) rfl (hb hby at_174) (by decide) (by decide)) ?_
        show own_gw p e below s _ _ _ (T46.setTop (mkF m 178 #[.val (.long q1), .second, .val (.long q2), .second, .val (.int p3), .val (.long t2), .second, .val (.ref md), .val (.ref b1), .val (.ref b3), .val (.ref b5), .val (.int (1 : Int32)), .val (.int (1 : Int32)), .val (.int (1 : Int32)), .val (.int (0 : Int32)), .val (.int (1 : Int32)), .val (.int (1 : Int32)), .unset, .unset] [(.int (1 : Int32))]))
        refine own_ofw (fun tt_ => XS.istore X46.here hx rfl (hb hby at_178) rfl (l' := #[.val (.long q1), .second, .val (.long q2), .second, .val (.int p3), .val (.long t2), .second, .val (.ref md), .val (.ref b1), .val (.ref b3), .val (.ref b5), .val (.int (1 : Int32)), .val (.int (1 : Int32)), .val (.int (1 : Int32)), .val (.int (0 : Int32)), .val (.int (1 : Int32)), .val (.int (1 : Int32)), .val (.int (1 : Int32)), .unset]) rfl) ?_
        show own_gw p e below s _ _ _ (T46.setTop (mkF m 180 #[.val (.long q1), .second, .val (.long q2), .second, .val (.int p3), .val (.long t2), .second, .val (.ref md), .val (.ref b1), .val (.ref b3), .val (.ref b5), .val (.int (1 : Int32)), .val (.int (1 : Int32)), .val (.int (1 : Int32)), .val (.int (0 : Int32)), .val (.int (1 : Int32)), .val (.int (1 : Int32)), .val (.int (1 : Int32)), .unset] []))
        refine own_ofw (fun tt_ => XS.lload X46.here hx rfl (hb hby at_180) rfl) ?_
        show own_gw p e below s _ _ _ (T46.setTop (mkF m 182 #[.val (.long q1), .second, .val (.long q2), .second, .val (.int p3), .val (.long t2), .second, .val (.ref md), .val (.ref b1), .val (.ref b3), .val (.ref b5), .val (.int (1 : Int32)), .val (.int (1 : Int32)), .val (.int (1 : Int32)), .val (.int (0 : Int32)), .val (.int (1 : Int32)), .val (.int (1 : Int32)), .val (.int (1 : Int32)), .unset] [(.long t2)]))
        obtain ⟨_, _, ⟨T48, L48, k48, n48⟩, -, X48, ⟨Lc48, hQ48, l48, y48, z48⟩, st48⟩ := Jvm.LawKit.callS X46 hx (y := (⟨"com/example/plumeline/plumeline/TraceAddPinLaw", "inWindow", "(J)Z"⟩ : MethodName)) hown4 (mvT hZ4 (hW 74 _ rfl)) (mvT hZ4 (hW 75 _ rfl)) (mvT hZ4 (hW 76 _ rfl)) (mvT hZ4 (hW 77 _ rfl)) (by decide) (backOf (W := 0) (rm8_in l Z a0 hw [] t2 T33.heap n0 O33 lo_2 hi_2) hZ4 (hW 77 _ rfl) (hW 76 _ rfl) (by decide) (by decide)) (g := (mkF m 182 #[.val (.long q1), .second, .val (.long q2), .second, .val (.int p3), .val (.long t2), .second, .val (.ref md), .val (.ref b1), .val (.ref b3), .val (.ref b5), .val (.int (1 : Int32)), .val (.int (1 : Int32)), .val (.int (1 : Int32)), .val (.int (0 : Int32)), .val (.int (1 : Int32)), .val (.int (1 : Int32)), .val (.int (1 : Int32)), .unset] [(.long t2)])) rfl (by rw [hml]; rfl) (argsL := [(.long t2)]) (rest := []) (lenOf pd_5 rfl) rfl (by show 2 * 0 + _ ≤ _; exact Nat.le_of_eq rfl) (hb hby at_182) (fun _ _ => ⟨rfl, eh46, (by decide : 8 + 0 ≤ _), (by decide : 130 + 0 ≤ _)⟩)
        dsimp only [Pt.U, Pt.locs, Pt.cells, Pt.slots] at X48 l48 y48 z48 st48 hQ48
        subst l48 y48 z48
        obtain ⟨rfl, Nq48, eh48⟩ := hQ48
        have N48 := Fr.app N46 Nq48
        refine own_ofw st48 ?_
        show own_gw p e below s _ _ _ (T48.setTop (mkF m 185 #[.val (.long q1), .second, .val (.long q2), .second, .val (.int p3), .val (.long t2), .second, .val (.ref md), .val (.ref b1), .val (.ref b3), .val (.ref b5), .val (.int (1 : Int32)), .val (.int (1 : Int32)), .val (.int (1 : Int32)), .val (.int (0 : Int32)), .val (.int (1 : Int32)), .val (.int (1 : Int32)), .val (.int (1 : Int32)), .unset] [(.int (1 : Int32))]))
        have hb185_49 : ¬ ((1 : Int32) = (0 : Int32)) := by decide
        refine own_ofw (fun tt_ => XS.ifYes X48.here hx rfl (pc0 := 185) (pc' := 192) rfl (hb hby at_185) rfl ((if0 _ _).trans (feq hb185_49).2) (by decide) (by decide)) ?_
        show own_gw p e below s _ _ _ (T48.setTop (mkF m 192 #[.val (.long q1), .second, .val (.long q2), .second, .val (.int p3), .val (.long t2), .second, .val (.ref md), .val (.ref b1), .val (.ref b3), .val (.ref b5), .val (.int (1 : Int32)), .val (.int (1 : Int32)), .val (.int (1 : Int32)), .val (.int (0 : Int32)), .val (.int (1 : Int32)), .val (.int (1 : Int32)), .val (.int (1 : Int32)), .unset] []))
        refine own_ofw (fun tt_ => XS.iconst X48.here hx rfl (hb hby at_192)) ?_
        show own_gw p e below s _ _ _ (T48.setTop (mkF m 193 #[.val (.long q1), .second, .val (.long q2), .second, .val (.int p3), .val (.long t2), .second, .val (.ref md), .val (.ref b1), .val (.ref b3), .val (.ref b5), .val (.int (1 : Int32)), .val (.int (1 : Int32)), .val (.int (1 : Int32)), .val (.int (0 : Int32)), .val (.int (1 : Int32)), .val (.int (1 : Int32)), .val (.int (1 : Int32)), .unset] [(.int (0 : Int32))]))
        refine own_ofw (fun tt_ => XS.istore X48.here hx rfl (hb hby at_193) rfl (l' := #[.val (.long q1), .second, .val (.long q2), .second, .val (.int p3), .val (.long t2), .second, .val (.ref md), .val (.ref b1), .val (.ref b3), .val (.ref b5), .val (.int (1 : Int32)), .val (.int (1 : Int32)), .val (.int (1 : Int32)), .val (.int (0 : Int32)), .val (.int (1 : Int32)), .val (.int (1 : Int32)), .val (.int (1 : Int32)), .val (.int (0 : Int32))]) rfl) ?_
        show own_gw p e below s _ _ _ (T48.setTop (mkF m 195 #[.val (.long q1), .second, .val (.long q2), .second, .val (.int p3), .val (.long t2), .second, .val (.ref md), .val (.ref b1), .val (.ref b3), .val (.ref b5), .val (.int (1 : Int32)), .val (.int (1 : Int32)), .val (.int (1 : Int32)), .val (.int (0 : Int32)), .val (.int (1 : Int32)), .val (.int (1 : Int32)), .val (.int (1 : Int32)), .val (.int (0 : Int32))] []))
        refine own_ofw (fun tt_ => XS.iload X48.here hx rfl (hb hby at_195) rfl) ?_
        show own_gw p e below s _ _ _ (T48.setTop (mkF m 197 #[.val (.long q1), .second, .val (.long q2), .second, .val (.int p3), .val (.long t2), .second, .val (.ref md), .val (.ref b1), .val (.ref b3), .val (.ref b5), .val (.int (1 : Int32)), .val (.int (1 : Int32)), .val (.int (1 : Int32)), .val (.int (0 : Int32)), .val (.int (1 : Int32)), .val (.int (1 : Int32)), .val (.int (1 : Int32)), .val (.int (0 : Int32))] [(.int (1 : Int32))]))
        refine own_ofw (fun tt_ => XS.iload X48.here hx rfl (hb hby at_197) rfl) ?_
        show own_gw p e below s _ _ _ (T48.setTop (mkF m 199 #[.val (.long q1), .second, .val (.long q2), .second, .val (.int p3), .val (.long t2), .second, .val (.ref md), .val (.ref b1), .val (.ref b3), .val (.ref b5), .val (.int (1 : Int32)), .val (.int (1 : Int32)), .val (.int (1 : Int32)), .val (.int (0 : Int32)), .val (.int (1 : Int32)), .val (.int (1 : Int32)), .val (.int (1 : Int32)), .val (.int (0 : Int32))] [(.int (1 : Int32)), (.int (1 : Int32))]))
        have hb199_50 : (1 : Int32) = (1 : Int32) := by decide
        refine own_ofw (fun tt_ => XS.icmpNo X48.here hx rfl (hb hby at_199) rfl (teq hb199_50).2) ?_
        show own_gw p e below s _ _ _ (T48.setTop (mkF m 202 #[.val (.long q1), .second, .val (.long q2), .second, .val (.int p3), .val (.long t2), .second, .val (.ref md), .val (.ref b1), .val (.ref b3), .val (.ref b5), .val (.int (1 : Int32)), .val (.int (1 : Int32)), .val (.int (1 : Int32)), .val (.int (0 : Int32)), .val (.int (1 : Int32)), .val (.int (1 : Int32)), .val (.int (1 : Int32)), .val (.int (0 : Int32))] []))
        refine own_ofw (fun tt_ => XS.iload X48.here hx rfl (hb hby at_202) rfl) ?_
        show own_gw p e below s _ _ _ (T48.setTop (mkF m 204 #[.val (.long q1), .second, .val (.long q2), .second, .val (.int p3), .val (.long t2), .second, .val (.ref md), .val (.ref b1), .val (.ref b3), .val (.ref b5), .val (.int (1 : Int32)), .val (.int (1 : Int32)), .val (.int (1 : Int32)), .val (.int (0 : Int32)), .val (.int (1 : Int32)), .val (.int (1 : Int32)), .val (.int (1 : Int32)), .val (.int (0 : Int32))] [(.int (1 : Int32))]))
        refine own_ofw (fun tt_ => XS.iload X48.here hx rfl (hb hby at_204) rfl) ?_
        show own_gw p e below s _ _ _ (T48.setTop (mkF m 206 #[.val (.long q1), .second, .val (.long q2), .second, .val (.int p3), .val (.long t2), .second, .val (.ref md), .val (.ref b1), .val (.ref b3), .val (.ref b5), .val (.int (1 : Int32)), .val (.int (1 : Int32)), .val (.int (1 : Int32)), .val (.int (0 : Int32)), .val (.int (1 : Int32)), .val (.int (1 : Int32)), .val (.int (1 : Int32)), .val (.int (0 : Int32))] [(.int (1 : Int32)), (.int (1 : Int32))]))
        have hb206_51 : (1 : Int32) = (1 : Int32) := by decide
        refine own_ofw (fun tt_ => XS.icmpNo X48.here hx rfl (hb hby at_206) rfl (teq hb206_51).2) ?_
        show own_gw p e below s _ _ _ (T48.setTop (mkF m 209 #[.val (.long q1), .second, .val (.long q2), .second, .val (.int p3), .val (.long t2), .second, .val (.ref md), .val (.ref b1), .val (.ref b3), .val (.ref b5), .val (.int (1 : Int32)), .val (.int (1 : Int32)), .val (.int (1 : Int32)), .val (.int (0 : Int32)), .val (.int (1 : Int32)), .val (.int (1 : Int32)), .val (.int (1 : Int32)), .val (.int (0 : Int32))] []))
        refine own_ofw (fun tt_ => XS.iload X48.here hx rfl (hb hby at_209) rfl) ?_
        show own_gw p e below s _ _ _ (T48.setTop (mkF m 211 #[.val (.long q1), .second, .val (.long q2), .second, .val (.int p3), .val (.long t2), .second, .val (.ref md), .val (.ref b1), .val (.ref b3), .val (.ref b5), .val (.int (1 : Int32)), .val (.int (1 : Int32)), .val (.int (1 : Int32)), .val (.int (0 : Int32)), .val (.int (1 : Int32)), .val (.int (1 : Int32)), .val (.int (1 : Int32)), .val (.int (0 : Int32))] [(.int (1 : Int32))]))
        refine own_ofw (fun tt_ => XS.iload X48.here hx rfl (hb hby at_211) rfl) ?_
        show own_gw p e below s _ _ _ (T48.setTop (mkF m 213 #[.val (.long q1), .second, .val (.long q2), .second, .val (.int p3), .val (.long t2), .second, .val (.ref md), .val (.ref b1), .val (.ref b3), .val (.ref b5), .val (.int (1 : Int32)), .val (.int (1 : Int32)), .val (.int (1 : Int32)), .val (.int (0 : Int32)), .val (.int (1 : Int32)), .val (.int (1 : Int32)), .val (.int (1 : Int32)), .val (.int (0 : Int32))] [(.int (1 : Int32)), (.int (1 : Int32))]))
        have hb213_52 : (1 : Int32) = (1 : Int32) := by decide
        refine own_ofw (fun tt_ => XS.icmpNo X48.here hx rfl (hb hby at_213) rfl (teq hb213_52).2) ?_
        show own_gw p e below s _ _ _ (T48.setTop (mkF m 216 #[.val (.long q1), .second, .val (.long q2), .second, .val (.int p3), .val (.long t2), .second, .val (.ref md), .val (.ref b1), .val (.ref b3), .val (.ref b5), .val (.int (1 : Int32)), .val (.int (1 : Int32)), .val (.int (1 : Int32)), .val (.int (0 : Int32)), .val (.int (1 : Int32)), .val (.int (1 : Int32)), .val (.int (1 : Int32)), .val (.int (0 : Int32))] []))
        refine own_ofw (fun tt_ => XS.iload X48.here hx rfl (hb hby at_216) rfl) ?_
        show own_gw p e below s _ _ _ (T48.setTop (mkF m 218 #[.val (.long q1), .second, .val (.long q2), .second, .val (.int p3), .val (.long t2), .second, .val (.ref md), .val (.ref b1), .val (.ref b3), .val (.ref b5), .val (.int (1 : Int32)), .val (.int (1 : Int32)), .val (.int (1 : Int32)), .val (.int (0 : Int32)), .val (.int (1 : Int32)), .val (.int (1 : Int32)), .val (.int (1 : Int32)), .val (.int (0 : Int32))] [(.int (0 : Int32))]))
        refine own_ofw (fun tt_ => XS.iload X48.here hx rfl (hb hby at_218) rfl) ?_
        show own_gw p e below s _ _ _ (T48.setTop (mkF m 220 #[.val (.long q1), .second, .val (.long q2), .second, .val (.int p3), .val (.long t2), .second, .val (.ref md), .val (.ref b1), .val (.ref b3), .val (.ref b5), .val (.int (1 : Int32)), .val (.int (1 : Int32)), .val (.int (1 : Int32)), .val (.int (0 : Int32)), .val (.int (1 : Int32)), .val (.int (1 : Int32)), .val (.int (1 : Int32)), .val (.int (0 : Int32))] [(.int (0 : Int32)), (.int (0 : Int32))]))
        have hb220_53 : (0 : Int32) = (0 : Int32) := by decide
        refine own_ofw (fun tt_ => XS.icmpNo X48.here hx rfl (hb hby at_220) rfl (teq hb220_53).2) ?_
        show own_gw p e below s _ _ _ (T48.setTop (mkF m 223 #[.val (.long q1), .second, .val (.long q2), .second, .val (.int p3), .val (.long t2), .second, .val (.ref md), .val (.ref b1), .val (.ref b3), .val (.ref b5), .val (.int (1 : Int32)), .val (.int (1 : Int32)), .val (.int (1 : Int32)), .val (.int (0 : Int32)), .val (.int (1 : Int32)), .val (.int (1 : Int32)), .val (.int (1 : Int32)), .val (.int (0 : Int32))] []))
        refine own_ofw (fun tt_ => XS.iconst X48.here hx rfl (hb hby at_223)) ?_
        show own_gw p e below s _ _ _ (T48.setTop (mkF m 224 #[.val (.long q1), .second, .val (.long q2), .second, .val (.int p3), .val (.long t2), .second, .val (.ref md), .val (.ref b1), .val (.ref b3), .val (.ref b5), .val (.int (1 : Int32)), .val (.int (1 : Int32)), .val (.int (1 : Int32)), .val (.int (0 : Int32)), .val (.int (1 : Int32)), .val (.int (1 : Int32)), .val (.int (1 : Int32)), .val (.int (0 : Int32))] [(.int (1 : Int32))]))
        refine own_ofw (fun tt_ => XS.goto X48.here hx rfl (pc0 := 224) (pc' := 228) rfl (hb hby at_224) (by decide) (by decide)) ?_
        show own_gw p e below s _ _ _ (T48.setTop (mkF m 228 #[.val (.long q1), .second, .val (.long q2), .second, .val (.int p3), .val (.long t2), .second, .val (.ref md), .val (.ref b1), .val (.ref b3), .val (.ref b5), .val (.int (1 : Int32)), .val (.int (1 : Int32)), .val (.int (1 : Int32)), .val (.int (0 : Int32)), .val (.int (1 : Int32)), .val (.int (1 : Int32)), .val (.int (1 : Int32)), .val (.int (0 : Int32))] [(.int (1 : Int32))]))
        refine own_retw X48 hx hlk hS4 (by rw [eh48]; omega : T4.heap.size ≤ T48.heap.size) Bd.returns rfl (Or.inl ⟨rfl, by simp, _, rfl⟩) (hb hby at_228) (by decide) (by decide) ?_
        rw [eh48]
        exact ⟨rfl, N48⟩
    · rcases own_win t2 with out_2 | ⟨lo_2, hi_2⟩
      · show own_gw p e below s _ _ _ (T6.setTop (mkF m 105 #[.val (.long q1), .second, .val (.long q2), .second, .val (.int p3), .val (.long t2), .second, .val (.ref md), .val (.ref b1), .val (.ref b3), .val (.ref b5), .unset, .unset, .unset, .unset, .unset, .unset, .unset, .unset] []))
        refine own_ofw (fun tt_ => XS.aload X6.here hx rfl (hb hby at_105) rfl rfl) ?_
        show own_gw p e below s _ _ _ (T6.setTop (mkF m 107 #[.val (.long q1), .second, .val (.long q2), .second, .val (.int p3), .val (.long t2), .second, .val (.ref md), .val (.ref b1), .val (.ref b3), .val (.ref b5), .unset, .unset, .unset, .unset, .unset, .unset, .unset, .unset] [(.ref b5)]))
        refine own_ofw (fun tt_ => XS.aload X6.here hx rfl (hb hby at_107) rfl rfl) ?_
        show own_gw p e below s _ _ _ (T6.setTop (mkF m 109 #[.val (.long q1), .second, .val (.long q2), .second, .val (.int p3), .val (.long t2), .second, .val (.ref md), .val (.ref b1), .val (.ref b3), .val (.ref b5), .unset, .unset, .unset, .unset, .unset, .unset, .unset, .unset] [(.ref b1), (.ref b5)]))
        have f54 : Exa Z T6.heap b1 "com/example/plumeline/plumeline/AsmSample" := (((((A1.keep Kp2).ext E3).keep Kp4).ext E5).keep Kp6)
        have f55 : Fld Z T6.heap b1 "com/example/plumeline/plumeline/AsmSample" "tS" "J" (.long q1) := ((((Ft2.ext E3).keep Kp4 (ninS (own_ne (by omega)) nin0)).ext E5).keep Kp6 (ninS (own_ne (by omega)) nin0))
        have at56 : ((List.replicate 75 Value.null) : List Value).getD (q1.toInt - 16).toNat Value.null = Value.null := by
          exact own_rep _
        have f58 : Exa Z T6.heap b5 "com/example/plumeline/plumeline/LoadedMode$Trace" := (A5.keep Kp6)
        obtain ⟨cq57, kq57, q57a, q57b, q57c⟩ := isOf hZ4 rfl f58
        obtain ⟨_, _, ⟨T57, L57, k57, n57⟩, -, X57, ⟨Lc57, hQ57, l57, y57, z57⟩, st57⟩ := X6.virtualBack hx (y := (⟨"com/example/plumeline/plumeline/LoadedMode$Trace", "add", "(Lcom/example/plumeline/plumeline/AsmSample;)Z"⟩ : MethodName)) (z := (⟨"com/example/plumeline/plumeline/LoadedMode$Trace", "add", "(Lcom/example/plumeline/plumeline/AsmSample;)Z"⟩ : MethodName)) hown4 (mvT hZ4 (hW 63 _ rfl)) (mvT hZ4 (hW 64 _ rfl)) (notFace_of_selects (args := #[]) (mvT hZ4 (hW 66 _ rfl))) (mvT hZ4 (hW 66 _ rfl)) (mvT hZ4 (hW 65 _ rfl)) (by decide) (backOf (W := 0) (rm6_n l Z a0 hw [] b5 b1 q1 bs6 ks6 (List.replicate 75 Value.null) 0 T6.heap n0 O6 f54 f55 Fs6 Vs6 Ov6 hl6 (by omega) lo_1 hi_1 at56) hZ4 (hW 67 _ rfl) (hW 54 _ rfl) (by decide) (by decide)) q57a q57c (g := (mkF m 109 #[.val (.long q1), .second, .val (.long q2), .second, .val (.int p3), .val (.long t2), .second, .val (.ref md), .val (.ref b1), .val (.ref b3), .val (.ref b5), .unset, .unset, .unset, .unset, .unset, .unset, .unset, .unset] [(.ref b1), (.ref b5)])) rfl (by rw [hml]; rfl) (Steps.refl _) (argsL := [(.ref b1)]) (rest := []) (lenOf pd_4 rfl) rfl (by show 2 * 0 + _ ≤ _; exact Nat.le_of_eq rfl) (hb hby at_109) (fun _ _ => ⟨rfl, rfl, (by decide : 8 + 0 ≤ _), (by decide : 130 + 0 ≤ _)⟩)
        dsimp only [Pt.U, Pt.locs, Pt.cells, Pt.slots] at X57 l57 y57 z57 st57 hQ57
        subst l57 y57 z57
        obtain ⟨rfl, Nq57, Kp57, Vn57⟩ := hQ57
        have N57 := Fr.app N6 Nq57
        refine own_ofw (fun tt_ kk_ => st57.trans kk_) ?_
        have sz57 : T6.heap.size ≤ T57.heap.size := Kp57.1
        have O57 : Old Z n0 T57.heap := O6.keep Kp57 (allS (by omega) all0)
        have hl57 : (((List.replicate 75 Value.null).set (q1.toInt - 16).toNat (.ref b1)) : List Value).length = 75 := by rw [List.length_set]; exact hl6
        show own_gw p e below s _ _ _ (T57.setTop (mkF m 112 #[.val (.long q1), .second, .val (.long q2), .second, .val (.int p3), .val (.long t2), .second, .val (.ref md), .val (.ref b1), .val (.ref b3), .val (.ref b5), .unset, .unset, .unset, .unset, .unset, .unset, .unset, .unset] [(.int (1 : Int32))]))
        refine own_ofw (fun tt_ => XS.istore X57.here hx rfl (hb hby at_112) rfl (l' := #[.val (.long q1), .second, .val (.long q2), .second, .val (.int p3), .val (.long t2), .second, .val (.ref md), .val (.ref b1), .val (.ref b3), .val (.ref b5), .val (.int (1 : Int32)), .unset, .unset, .unset, .unset, .unset, .unset, .unset]) rfl) ?_
        show own_gw p e below s _ _ _ (T57.setTop (mkF m 114 #[.val (.long q1), .second, .val (.long q2), .second, .val (.int p3), .val (.long t2), .second, .val (.ref md), .val (.ref b1), .val (.ref b3), .val (.ref b5), .val (.int (1 : Int32)), .unset, .unset, .unset, .unset, .unset, .unset, .unset] []))
        refine own_ofw (fun tt_ => XS.aload X57.here hx rfl (hb hby at_114) rfl rfl) ?_
        show own_gw p e below s _ _ _ (T57.setTop (mkF m 116 #[.val (.long q1), .second, .val (.long q2), .second, .val (.int p3), .val (.long t2), .second, .val (.ref md), .val (.ref b1), .val (.ref b3), .val (.ref b5), .val (.int (1 : Int32)), .unset, .unset, .unset, .unset, .unset, .unset, .unset] [(.ref b5)]))
        refine own_ofw (fun tt_ => XS.aload X57.here hx rfl (hb hby at_116) rfl rfl) ?_
        show own_gw p e below s _ _ _ (T57.setTop (mkF m 118 #[.val (.long q1), .second, .val (.long q2), .second, .val (.int p3), .val (.long t2), .second, .val (.ref md), .val (.ref b1), .val (.ref b3), .val (.ref b5), .val (.int (1 : Int32)), .unset, .unset, .unset, .unset, .unset, .unset, .unset] [(.ref b3), (.ref b5)]))
        have f59 : Exa Z T57.heap b3 "com/example/plumeline/plumeline/AsmSample" := ((((A3.keep Kp4).ext E5).keep Kp6).keep Kp57)
        have f60 : Fld Z T57.heap b3 "com/example/plumeline/plumeline/AsmSample" "tS" "J" (.long t2) := (((Ft4.ext E5).keep Kp6 (ninS (own_ne (by omega)) nin0)).keep Kp57 (ninS (own_ne (by omega)) nin0))
        have f61 : Fld Z T57.heap b5 "com/example/plumeline/plumeline/LoadedMode$Trace" "samples" "[Lcom/example/plumeline/plumeline/AsmSample;" (.ref bs6) := (Fs6.keep Kp57 (ninS (own_ne (by omega)) nin0))
        have f63 : Exa Z T57.heap b5 "com/example/plumeline/plumeline/LoadedMode$Trace" := (f58.keep Kp57)
        obtain ⟨cq62, kq62, q62a, q62b, q62c⟩ := isOf hZ4 rfl f63
        obtain ⟨_, _, ⟨T62, L62, k62, n62⟩, -, X62, ⟨Lc62, hQ62, l62, y62, z62⟩, st62⟩ := X57.virtualBack hx (y := (⟨"com/example/plumeline/plumeline/LoadedMode$Trace", "add", "(Lcom/example/plumeline/plumeline/AsmSample;)Z"⟩ : MethodName)) (z := (⟨"com/example/plumeline/plumeline/LoadedMode$Trace", "add", "(Lcom/example/plumeline/plumeline/AsmSample;)Z"⟩ : MethodName)) hown4 (mvT hZ4 (hW 63 _ rfl)) (mvT hZ4 (hW 64 _ rfl)) (notFace_of_selects (args := #[]) (mvT hZ4 (hW 66 _ rfl))) (mvT hZ4 (hW 66 _ rfl)) (mvT hZ4 (hW 65 _ rfl)) (by decide) (backOf (W := 0) (rm6_o l Z a0 hw [] b5 b3 t2 bs6 ks6 ((List.replicate 75 Value.null).set (q1.toInt - 16).toNat (.ref b1)) 0 T57.heap n0 O57 f59 f60 f61 Vn57 Ov6 hl57 (by omega) out_2) hZ4 (hW 67 _ rfl) (hW 54 _ rfl) (by decide) (by decide)) q62a q62c (g := (mkF m 118 #[.val (.long q1), .second, .val (.long q2), .second, .val (.int p3), .val (.long t2), .second, .val (.ref md), .val (.ref b1), .val (.ref b3), .val (.ref b5), .val (.int (1 : Int32)), .unset, .unset, .unset, .unset, .unset, .unset, .unset] [(.ref b3), (.ref b5)])) rfl (by rw [hml]; rfl) (Steps.refl _) (argsL := [(.ref b3)]) (rest := []) (lenOf pd_4 rfl) rfl (by show 2 * 0 + _ ≤ _; exact Nat.le_of_eq rfl) (hb hby at_118) (fun _ _ => ⟨rfl, rfl, (by decide : 8 + 0 ≤ _), (by decide : 130 + 0 ≤ _)⟩)
        dsimp only [Pt.U, Pt.locs, Pt.cells, Pt.slots] at X62 l62 y62 z62 st62 hQ62
        subst l62 y62 z62
        obtain ⟨rfl, Nq62, eh62⟩ := hQ62
        have N62 := Fr.app N57 Nq62
        refine own_ofw (fun tt_ kk_ => st62.trans kk_) ?_
        show own_gw p e below s _ _ _ (T62.setTop (mkF m 121 #[.val (.long q1), .second, .val (.long q2), .second, .val (.int p3), .val (.long t2), .second, .val (.ref md), .val (.ref b1), .val (.ref b3), .val (.ref b5), .val (.int (1 : Int32)), .unset, .unset, .unset, .unset, .unset, .unset, .unset] [(.int (1 : Int32))]))
        refine own_ofw (fun tt_ => XS.istore X62.here hx rfl (hb hby at_121) rfl (l' := #[.val (.long q1), .second, .val (.long q2), .second, .val (.int p3), .val (.long t2), .second, .val (.ref md), .val (.ref b1), .val (.ref b3), .val (.ref b5), .val (.int (1 : Int32)), .val (.int (1 : Int32)), .unset, .unset, .unset, .unset, .unset, .unset]) rfl) ?_
        show own_gw p e below s _ _ _ (T62.setTop (mkF m 123 #[.val (.long q1), .second, .val (.long q2), .second, .val (.int p3), .val (.long t2), .second, .val (.ref md), .val (.ref b1), .val (.ref b3), .val (.ref b5), .val (.int (1 : Int32)), .val (.int (1 : Int32)), .unset, .unset, .unset, .unset, .unset, .unset] []))
        refine own_ofw (fun tt_ => XS.aload X62.here hx rfl (hb hby at_123) rfl rfl) ?_
        show own_gw p e below s _ _ _ (T62.setTop (mkF m 125 #[.val (.long q1), .second, .val (.long q2), .second, .val (.int p3), .val (.long t2), .second, .val (.ref md), .val (.ref b1), .val (.ref b3), .val (.ref b5), .val (.int (1 : Int32)), .val (.int (1 : Int32)), .unset, .unset, .unset, .unset, .unset, .unset] [(.ref b5)]))
        refine own_ofw (fun tt_ => XS.aload X62.here hx rfl (hb hby at_125) rfl rfl) ?_
        show own_gw p e below s _ _ _ (T62.setTop (mkF m 127 #[.val (.long q1), .second, .val (.long q2), .second, .val (.int p3), .val (.long t2), .second, .val (.ref md), .val (.ref b1), .val (.ref b3), .val (.ref b5), .val (.int (1 : Int32)), .val (.int (1 : Int32)), .unset, .unset, .unset, .unset, .unset, .unset] [(.ref b1), (.ref b5)]))
        have f64 : Exa Z T57.heap b1 "com/example/plumeline/plumeline/AsmSample" := (f54.keep Kp57)
        have f65 : Fld Z T57.heap b1 "com/example/plumeline/plumeline/AsmSample" "tS" "J" (.long q1) := (f55.keep Kp57 (ninS (own_ne (by omega)) nin0))
        have at66 : (((List.replicate 75 Value.null).set (q1.toInt - 16).toNat (.ref b1)) : List Value).getD (q1.toInt - 16).toNat Value.null = Value.ref b1 := by
          exact own_setAt _ _ _ _ (by simpa using own_lt75 lo_1 hi_1)
        obtain ⟨cq67, kq67, q67a, q67b, q67c⟩ := isOf hZ4 eh62 f63
        obtain ⟨_, _, ⟨T67, L67, k67, n67⟩, -, X67, ⟨Lc67, hQ67, l67, y67, z67⟩, st67⟩ := X62.virtualBack hx (y := (⟨"com/example/plumeline/plumeline/LoadedMode$Trace", "add", "(Lcom/example/plumeline/plumeline/AsmSample;)Z"⟩ : MethodName)) (z := (⟨"com/example/plumeline/plumeline/LoadedMode$Trace", "add", "(Lcom/example/plumeline/plumeline/AsmSample;)Z"⟩ : MethodName)) hown4 (mvT hZ4 (hW 63 _ rfl)) (mvT hZ4 (hW 64 _ rfl)) (notFace_of_selects (args := #[]) (mvT hZ4 (hW 66 _ rfl))) (mvT hZ4 (hW 66 _ rfl)) (mvT hZ4 (hW 65 _ rfl)) (by decide) (backOf (W := 0) (rm6_r l Z a0 hw [] b5 b1 q1 bs6 ks6 ((List.replicate 75 Value.null).set (q1.toInt - 16).toNat (.ref b1)) b1 T57.heap n0 O57 f64 f65 f61 Vn57 Ov6 hl57 (by omega) lo_1 hi_1 at66) hZ4 (hW 67 _ rfl) (hW 54 _ rfl) (by decide) (by decide)) q67a q67c (g := (mkF m 127 #[.val (.long q1), .second, .val (.long q2), .second, .val (.int p3), .val (.long t2), .second, .val (.ref md), .val (.ref b1), .val (.ref b3), .val (.ref b5), .val (.int (1 : Int32)), .val (.int (1 : Int32)), .unset, .unset, .unset, .unset, .unset, .unset] [(.ref b1), (.ref b5)])) rfl (by rw [hml]; rfl) (Steps.refl _) (argsL := [(.ref b1)]) (rest := []) (lenOf pd_4 rfl) rfl (by show 2 * 0 + _ ≤ _; exact Nat.le_of_eq rfl) (hb hby at_127) (fun _ _ => ⟨rfl, eh62, (by decide : 8 + 0 ≤ _), (by decide : 130 + 0 ≤ _)⟩)
        dsimp only [Pt.U, Pt.locs, Pt.cells, Pt.slots] at X67 l67 y67 z67 st67 hQ67
        subst l67 y67 z67
        obtain ⟨rfl, Nq67, eh67⟩ := hQ67
        have N67 := Fr.app N62 Nq67
        refine own_ofw (fun tt_ kk_ => st67.trans kk_) ?_
        show own_gw p e below s _ _ _ (T67.setTop (mkF m 130 #[.val (.long q1), .second, .val (.long q2), .second, .val (.int p3), .val (.long t2), .second, .val (.ref md), .val (.ref b1), .val (.ref b3), .val (.ref b5), .val (.int (1 : Int32)), .val (.int (1 : Int32)), .unset, .unset, .unset, .unset, .unset, .unset] [(.int (0 : Int32))]))
        refine own_ofw (fun tt_ => XS.istore X67.here hx rfl (hb hby at_130) rfl (l' := #[.val (.long q1), .second, .val (.long q2), .second, .val (.int p3), .val (.long t2), .second, .val (.ref md), .val (.ref b1), .val (.ref b3), .val (.ref b5), .val (.int (1 : Int32)), .val (.int (1 : Int32)), .val (.int (0 : Int32)), .unset, .unset, .unset, .unset, .unset]) rfl) ?_
        show own_gw p e below s _ _ _ (T67.setTop (mkF m 132 #[.val (.long q1), .second, .val (.long q2), .second, .val (.int p3), .val (.long t2), .second, .val (.ref md), .val (.ref b1), .val (.ref b3), .val (.ref b5), .val (.int (1 : Int32)), .val (.int (1 : Int32)), .val (.int (0 : Int32)), .unset, .unset, .unset, .unset, .unset] []))
        refine own_ofw (fun tt_ => XS.aload X67.here hx rfl (hb hby at_132) rfl rfl) ?_
        show own_gw p e below s _ _ _ (T67.setTop (mkF m 134 #[.val (.long q1), .second, .val (.long q2), .second, .val (.int p3), .val (.long t2), .second, .val (.ref md), .val (.ref b1), .val (.ref b3), .val (.ref b5), .val (.int (1 : Int32)), .val (.int (1 : Int32)), .val (.int (0 : Int32)), .unset, .unset, .unset, .unset, .unset] [(.ref b5)]))
        refine own_ofw (fun tt_ => XS.aload X67.here hx rfl (hb hby at_134) rfl rfl) ?_
        show own_gw p e below s _ _ _ (T67.setTop (mkF m 136 #[.val (.long q1), .second, .val (.long q2), .second, .val (.int p3), .val (.long t2), .second, .val (.ref md), .val (.ref b1), .val (.ref b3), .val (.ref b5), .val (.int (1 : Int32)), .val (.int (1 : Int32)), .val (.int (0 : Int32)), .unset, .unset, .unset, .unset, .unset] [(.ref b3), (.ref b5)]))
        obtain ⟨cq68, kq68, q68a, q68b, q68c⟩ := isOf hZ4 eh67 f63
        obtain ⟨_, _, ⟨T68, L68, k68, n68⟩, -, X68, ⟨Lc68, hQ68, l68, y68, z68⟩, st68⟩ := X67.virtualBack hx (y := (⟨"com/example/plumeline/plumeline/LoadedMode$Trace", "add", "(Lcom/example/plumeline/plumeline/AsmSample;)Z"⟩ : MethodName)) (z := (⟨"com/example/plumeline/plumeline/LoadedMode$Trace", "add", "(Lcom/example/plumeline/plumeline/AsmSample;)Z"⟩ : MethodName)) hown4 (mvT hZ4 (hW 63 _ rfl)) (mvT hZ4 (hW 64 _ rfl)) (notFace_of_selects (args := #[]) (mvT hZ4 (hW 66 _ rfl))) (mvT hZ4 (hW 66 _ rfl)) (mvT hZ4 (hW 65 _ rfl)) (by decide) (backOf (W := 0) (rm6_o l Z a0 hw [] b5 b3 t2 bs6 ks6 ((List.replicate 75 Value.null).set (q1.toInt - 16).toNat (.ref b1)) 0 T57.heap n0 O57 f59 f60 f61 Vn57 Ov6 hl57 (by omega) out_2) hZ4 (hW 67 _ rfl) (hW 54 _ rfl) (by decide) (by decide)) q68a q68c (g := (mkF m 136 #[.val (.long q1), .second, .val (.long q2), .second, .val (.int p3), .val (.long t2), .second, .val (.ref md), .val (.ref b1), .val (.ref b3), .val (.ref b5), .val (.int (1 : Int32)), .val (.int (1 : Int32)), .val (.int (0 : Int32)), .unset, .unset, .unset, .unset, .unset] [(.ref b3), (.ref b5)])) rfl (by rw [hml]; rfl) (Steps.refl _) (argsL := [(.ref b3)]) (rest := []) (lenOf pd_4 rfl) rfl (by show 2 * 0 + _ ≤ _; exact Nat.le_of_eq rfl) (hb hby at_136) (fun _ _ => ⟨rfl, eh67, (by decide : 8 + 0 ≤ _), (by decide : 130 + 0 ≤ _)⟩)
        dsimp only [Pt.U, Pt.locs, Pt.cells, Pt.slots] at X68 l68 y68 z68 st68 hQ68
        subst l68 y68 z68
        obtain ⟨rfl, Nq68, eh68⟩ := hQ68
        have N68 := Fr.app N67 Nq68
        refine own_ofw (fun tt_ kk_ => st68.trans kk_) ?_
        show own_gw p e below s _ _ _ (T68.setTop (mkF m 139 #[.val (.long q1), .second, .val (.long q2), .second, .val (.int p3), .val (.long t2), .second, .val (.ref md), .val (.ref b1), .val (.ref b3), .val (.ref b5), .val (.int (1 : Int32)), .val (.int (1 : Int32)), .val (.int (0 : Int32)), .unset, .unset, .unset, .unset, .unset] [(.int (1 : Int32))]))
        refine own_ofw (fun tt_ => XS.istore X68.here hx rfl (hb hby at_139) rfl (l' := #[.val (.long q1), .second, .val (.long q2), .second, .val (.int p3), .val (.long t2), .second, .val (.ref md), .val (.ref b1), .val (.ref b3), .val (.ref b5), .val (.int (1 : Int32)), .val (.int (1 : Int32)), .val (.int (0 : Int32)), .val (.int (1 : Int32)), .unset, .unset, .unset, .unset]) rfl) ?_
        show own_gw p e below s _ _ _ (T68.setTop (mkF m 141 #[.val (.long q1), .second, .val (.long q2), .second, .val (.int p3), .val (.long t2), .second, .val (.ref md), .val (.ref b1), .val (.ref b3), .val (.ref b5), .val (.int (1 : Int32)), .val (.int (1 : Int32)), .val (.int (0 : Int32)), .val (.int (1 : Int32)), .unset, .unset, .unset, .unset] []))
        refine own_ofw (fun tt_ => XS.iconst X68.here hx rfl (hb hby at_141)) ?_
        show own_gw p e below s _ _ _ (T68.setTop (mkF m 142 #[.val (.long q1), .second, .val (.long q2), .second, .val (.int p3), .val (.long t2), .second, .val (.ref md), .val (.ref b1), .val (.ref b3), .val (.ref b5), .val (.int (1 : Int32)), .val (.int (1 : Int32)), .val (.int (0 : Int32)), .val (.int (1 : Int32)), .unset, .unset, .unset, .unset] [(.int (1 : Int32))]))
        refine own_ofw (fun tt_ => XS.istore X68.here hx rfl (hb hby at_142) rfl (l' := #[.val (.long q1), .second, .val (.long q2), .second, .val (.int p3), .val (.long t2), .second, .val (.ref md), .val (.ref b1), .val (.ref b3), .val (.ref b5), .val (.int (1 : Int32)), .val (.int (1 : Int32)), .val (.int (0 : Int32)), .val (.int (1 : Int32)), .val (.int (1 : Int32)), .unset, .unset, .unset]) rfl) ?_
        show own_gw p e below s _ _ _ (T68.setTop (mkF m 144 #[.val (.long q1), .second, .val (.long q2), .second, .val (.int p3), .val (.long t2), .second, .val (.ref md), .val (.ref b1), .val (.ref b3), .val (.ref b5), .val (.int (1 : Int32)), .val (.int (1 : Int32)), .val (.int (0 : Int32)), .val (.int (1 : Int32)), .val (.int (1 : Int32)), .unset, .unset, .unset] []))
        refine own_ofw (fun tt_ => XS.lload X68.here hx rfl (hb hby at_144) rfl) ?_
        show own_gw p e below s _ _ _ (T68.setTop (mkF m 146 #[.val (.long q1), .second, .val (.long q2), .second, .val (.int p3), .val (.long t2), .second, .val (.ref md), .val (.ref b1), .val (.ref b3), .val (.ref b5), .val (.int (1 : Int32)), .val (.int (1 : Int32)), .val (.int (0 : Int32)), .val (.int (1 : Int32)), .val (.int (1 : Int32)), .unset, .unset, .unset] [(.long t2)]))
        obtain ⟨_, _, ⟨T69, L69, k69, n69⟩, -, X69, ⟨Lc69, hQ69, l69, y69, z69⟩, st69⟩ := Jvm.LawKit.callS X68 hx (y := (⟨"com/example/plumeline/plumeline/TraceAddPinLaw", "inWindow", "(J)Z"⟩ : MethodName)) hown4 (mvT hZ4 (hW 74 _ rfl)) (mvT hZ4 (hW 75 _ rfl)) (mvT hZ4 (hW 76 _ rfl)) (mvT hZ4 (hW 77 _ rfl)) (by decide) (backOf (W := 0) (rm8_o l Z a0 hw [] t2 T57.heap n0 O57 out_2) hZ4 (hW 77 _ rfl) (hW 76 _ rfl) (by decide) (by decide)) (g := (mkF m 146 #[.val (.long q1), .second, .val (.long q2), .second, .val (.int p3), .val (.long t2), .second, .val (.ref md), .val (.ref b1), .val (.ref b3), .val (.ref b5), .val (.int (1 : Int32)), .val (.int (1 : Int32)), .val (.int (0 : Int32)), .val (.int (1 : Int32)), .val (.int (1 : Int32)), .unset, .unset, .unset] [(.long t2)])) rfl (by rw [hml]; rfl) (argsL := [(.long t2)]) (rest := []) (lenOf pd_5 rfl) rfl (by show 2 * 0 + _ ≤ _; exact Nat.le_of_eq rfl) (hb hby at_146) (fun _ _ => ⟨rfl, eh68, (by decide : 8 + 0 ≤ _), (by decide : 130 + 0 ≤ _)⟩)
        dsimp only [Pt.U, Pt.locs, Pt.cells, Pt.slots] at X69 l69 y69 z69 st69 hQ69
        subst l69 y69 z69
        obtain ⟨rfl, Nq69, eh69⟩ := hQ69
        have N69 := Fr.app N68 Nq69
        refine own_ofw st69 ?_
        show own_gw p e below s _ _ _ (T69.setTop (mkF m 149 #[.val (.long q1), .second, .val (.long q2), .second, .val (.int p3), .val (.long t2), .second, .val (.ref md), .val (.ref b1), .val (.ref b3), .val (.ref b5), .val (.int (1 : Int32)), .val (.int (1 : Int32)), .val (.int (0 : Int32)), .val (.int (1 : Int32)), .val (.int (1 : Int32)), .unset, .unset, .unset] [(.int (0 : Int32))]))
        have hb149_70 : (0 : Int32) = (0 : Int32) := by decide
        refine own_ofw (fun tt_ => XS.ifYes X69.here hx rfl (pc0 := 149) (pc' := 159) rfl (hb hby at_149) rfl ((if0 _ _).trans (teq hb149_70).1) (by decide) (by decide)) ?_
        show own_gw p e below s _ _ _ (T69.setTop (mkF m 159 #[.val (.long q1), .second, .val (.long q2), .second, .val (.int p3), .val (.long t2), .second, .val (.ref md), .val (.ref b1), .val (.ref b3), .val (.ref b5), .val (.int (1 : Int32)), .val (.int (1 : Int32)), .val (.int (0 : Int32)), .val (.int (1 : Int32)), .val (.int (1 : Int32)), .unset, .unset, .unset] []))
        refine own_ofw (fun tt_ => XS.iconst X69.here hx rfl (hb hby at_159)) ?_
        show own_gw p e below s _ _ _ (T69.setTop (mkF m 160 #[.val (.long q1), .second, .val (.long q2), .second, .val (.int p3), .val (.long t2), .second, .val (.ref md), .val (.ref b1), .val (.ref b3), .val (.ref b5), .val (.int (1 : Int32)), .val (.int (1 : Int32)), .val (.int (0 : Int32)), .val (.int (1 : Int32)), .val (.int (1 : Int32)), .unset, .unset, .unset] [(.int (1 : Int32))]))
        refine own_ofw (fun tt_ => XS.goto X69.here hx rfl (pc0 := 160) (pc' := 164) rfl (hb hby at_160) (by decide) (by decide)) ?_
        show own_gw p e below s _ _ _ (T69.setTop (mkF m 164 #[.val (.long q1), .second, .val (.long q2), .second, .val (.int p3), .val (.long t2), .second, .val (.ref md), .val (.ref b1), .val (.ref b3), .val (.ref b5), .val (.int (1 : Int32)), .val (.int (1 : Int32)), .val (.int (0 : Int32)), .val (.int (1 : Int32)), .val (.int (1 : Int32)), .unset, .unset, .unset] [(.int (1 : Int32))]))
        refine own_ofw (fun tt_ => XS.istore X69.here hx rfl (hb hby at_164) rfl (l' := #[.val (.long q1), .second, .val (.long q2), .second, .val (.int p3), .val (.long t2), .second, .val (.ref md), .val (.ref b1), .val (.ref b3), .val (.ref b5), .val (.int (1 : Int32)), .val (.int (1 : Int32)), .val (.int (0 : Int32)), .val (.int (1 : Int32)), .val (.int (1 : Int32)), .val (.int (1 : Int32)), .unset, .unset]) rfl) ?_
        show own_gw p e below s _ _ _ (T69.setTop (mkF m 166 #[.val (.long q1), .second, .val (.long q2), .second, .val (.int p3), .val (.long t2), .second, .val (.ref md), .val (.ref b1), .val (.ref b3), .val (.ref b5), .val (.int (1 : Int32)), .val (.int (1 : Int32)), .val (.int (0 : Int32)), .val (.int (1 : Int32)), .val (.int (1 : Int32)), .val (.int (1 : Int32)), .unset, .unset] []))
        refine own_ofw (fun tt_ => XS.lloadN X69.here hx rfl (hb hby at_166) rfl) ?_
        show own_gw p e below s _ _ _ (T69.setTop (mkF m 167 #[.val (.long q1), .second, .val (.long q2), .second, .val (.int p3), .val (.long t2), .second, .val (.ref md), .val (.ref b1), .val (.ref b3), .val (.ref b5), .val (.int (1 : Int32)), .val (.int (1 : Int32)), .val (.int (0 : Int32)), .val (.int (1 : Int32)), .val (.int (1 : Int32)), .val (.int (1 : Int32)), .unset, .unset] [(.long q1)]))
        obtain ⟨_, _, ⟨T71, L71, k71, n71⟩, -, X71, ⟨Lc71, hQ71, l71, y71, z71⟩, st71⟩ := Jvm.LawKit.callS X69 hx (y := (⟨"com/example/plumeline/plumeline/TraceAddPinLaw", "inWindow", "(J)Z"⟩ : MethodName)) hown4 (mvT hZ4 (hW 74 _ rfl)) (mvT hZ4 (hW 75 _ rfl)) (mvT hZ4 (hW 76 _ rfl)) (mvT hZ4 (hW 77 _ rfl)) (by decide) (backOf (W := 0) (rm8_in l Z a0 hw [] q1 T57.heap n0 O57 lo_1 hi_1) hZ4 (hW 77 _ rfl) (hW 76 _ rfl) (by decide) (by decide)) (g := (mkF m 167 #[.val (.long q1), .second, .val (.long q2), .second, .val (.int p3), .val (.long t2), .second, .val (.ref md), .val (.ref b1), .val (.ref b3), .val (.ref b5), .val (.int (1 : Int32)), .val (.int (1 : Int32)), .val (.int (0 : Int32)), .val (.int (1 : Int32)), .val (.int (1 : Int32)), .val (.int (1 : Int32)), .unset, .unset] [(.long q1)])) rfl (by rw [hml]; rfl) (argsL := [(.long q1)]) (rest := []) (lenOf pd_5 rfl) rfl (by show 2 * 0 + _ ≤ _; exact Nat.le_of_eq rfl) (hb hby at_167) (fun _ _ => ⟨rfl, eh69, (by decide : 8 + 0 ≤ _), (by decide : 130 + 0 ≤ _)⟩)
        dsimp only [Pt.U, Pt.locs, Pt.cells, Pt.slots] at X71 l71 y71 z71 st71 hQ71
        subst l71 y71 z71
        obtain ⟨rfl, Nq71, eh71⟩ := hQ71
        have N71 := Fr.app N69 Nq71
        refine own_ofw st71 ?_
        show own_gw p e below s _ _ _ (T71.setTop (mkF m 170 #[.val (.long q1), .second, .val (.long q2), .second, .val (.int p3), .val (.long t2), .second, .val (.ref md), .val (.ref b1), .val (.ref b3), .val (.ref b5), .val (.int (1 : Int32)), .val (.int (1 : Int32)), .val (.int (0 : Int32)), .val (.int (1 : Int32)), .val (.int (1 : Int32)), .val (.int (1 : Int32)), .unset, .unset] [(.int (1 : Int32))]))
        have hb170_72 : ¬ ((1 : Int32) = (0 : Int32)) := by decide
        refine own_ofw (fun tt_ => XS.ifYes X71.here hx rfl (pc0 := 170) (pc' := 177) rfl (hb hby at_170) rfl ((if0 _ _).trans (feq hb170_72).2) (by decide) (by decide)) ?_
        show own_gw p e below s _ _ _ (T71.setTop (mkF m 177 #[.val (.long q1), .second, .val (.long q2), .second, .val (.int p3), .val (.long t2), .second, .val (.ref md), .val (.ref b1), .val (.ref b3), .val (.ref b5), .val (.int (1 : Int32)), .val (.int (1 : Int32)), .val (.int (0 : Int32)), .val (.int (1 : Int32)), .val (.int (1 : Int32)), .val (.int (1 : Int32)), .unset, .unset] []))
        refine own_ofw (fun tt_ => XS.iconst X71.here hx rfl (hb hby at_177)) ?_
        show own_gw p e below s _ _ _ (T71.setTop (mkF m 178 #[.val (.long q1), .second, .val (.long q2), .second, .val (.int p3), .val (.long t2), .second, .val (.ref md), .val (.ref b1), .val (.ref b3), .val (.ref b5), .val (.int (1 : Int32)), .val (.int (1 : Int32)), .val (.int (0 : Int32)), .val (.int (1 : Int32)), .val (.int (1 : Int32)), .val (.int (1 : Int32)), .unset, .unset] [(.int (0 : Int32))]))
        refine own_ofw (fun tt_ => XS.istore X71.here hx rfl (hb hby at_178) rfl (l' := #[.val (.long q1), .second, .val (.long q2), .second, .val (.int p3), .val (.long t2), .second, .val (.ref md), .val (.ref b1), .val (.ref b3), .val (.ref b5), .val (.int (1 : Int32)), .val (.int (1 : Int32)), .val (.int (0 : Int32)), .val (.int (1 : Int32)), .val (.int (1 : Int32)), .val (.int (1 : Int32)), .val (.int (0 : Int32)), .unset]) rfl) ?_
        show own_gw p e below s _ _ _ (T71.setTop (mkF m 180 #[.val (.long q1), .second, .val (.long q2), .second, .val (.int p3), .val (.long t2), .second, .val (.ref md), .val (.ref b1), .val (.ref b3), .val (.ref b5), .val (.int (1 : Int32)), .val (.int (1 : Int32)), .val (.int (0 : Int32)), .val (.int (1 : Int32)), .val (.int (1 : Int32)), .val (.int (1 : Int32)), .val (.int (0 : Int32)), .unset] []))
        refine own_ofw (fun tt_ => XS.lload X71.here hx rfl (hb hby at_180) rfl) ?_
        show own_gw p e below s _ _ _ (T71.setTop (mkF m 182 #[.val (.long q1), .second, .val (.long q2), .second, .val (.int p3), .val (.long t2), .second, .val (.ref md), .val (.ref b1), .val (.ref b3), .val (.ref b5), .val (.int (1 : Int32)), .val (.int (1 : Int32)), .val (.int (0 : Int32)), .val (.int (1 : Int32)), .val (.int (1 : Int32)), .val (.int (1 : Int32)), .val (.int (0 : Int32)), .unset] [(.long t2)]))
        obtain ⟨_, _, ⟨T73, L73, k73, n73⟩, -, X73, ⟨Lc73, hQ73, l73, y73, z73⟩, st73⟩ := Jvm.LawKit.callS X71 hx (y := (⟨"com/example/plumeline/plumeline/TraceAddPinLaw", "inWindow", "(J)Z"⟩ : MethodName)) hown4 (mvT hZ4 (hW 74 _ rfl)) (mvT hZ4 (hW 75 _ rfl)) (mvT hZ4 (hW 76 _ rfl)) (mvT hZ4 (hW 77 _ rfl)) (by decide) (backOf (W := 0) (rm8_o l Z a0 hw [] t2 T57.heap n0 O57 out_2) hZ4 (hW 77 _ rfl) (hW 76 _ rfl) (by decide) (by decide)) (g := (mkF m 182 #[.val (.long q1), .second, .val (.long q2), .second, .val (.int p3), .val (.long t2), .second, .val (.ref md), .val (.ref b1), .val (.ref b3), .val (.ref b5), .val (.int (1 : Int32)), .val (.int (1 : Int32)), .val (.int (0 : Int32)), .val (.int (1 : Int32)), .val (.int (1 : Int32)), .val (.int (1 : Int32)), .val (.int (0 : Int32)), .unset] [(.long t2)])) rfl (by rw [hml]; rfl) (argsL := [(.long t2)]) (rest := []) (lenOf pd_5 rfl) rfl (by show 2 * 0 + _ ≤ _; exact Nat.le_of_eq rfl) (hb hby at_182) (fun _ _ => ⟨rfl, eh71, (by decide : 8 + 0 ≤ _), (by decide : 130 + 0 ≤ _)⟩)
        dsimp only [Pt.U, Pt.locs, Pt.cells, Pt.slots] at X73 l73 y73 z73 st73 hQ73
        subst l73 y73 z73
        obtain ⟨rfl, Nq73, eh73⟩ := hQ73
        have N73 := Fr.app N71 Nq73
        refine own_ofw st73 ?_
        show own_gw p e below s _ _ _ (T73.setTop (mkF m 185 #[.val (.long q1), .second, .val (.long q2), .second, .val (.int p3), .val (.long t2), .second, .val (.ref md), .val (.ref b1), .val (.ref b3), .val (.ref b5), .val (.int (1 : Int32)), .val (.int (1 : Int32)), .val (.int (0 : Int32)), .val (.int (1 : Int32)), .val (.int (1 : Int32)), .val (.int (1 : Int32)), .val (.int (0 : Int32)), .unset] [(.int (0 : Int32))]))
        have hb185_74 : (0 : Int32) = (0 : Int32) := by decide
        refine own_ofw (fun tt_ => XS.ifNo X73.here hx rfl (hb hby at_185) rfl ((if0 _ _).trans (teq hb185_74).2)) ?_
        show own_gw p e below s _ _ _ (T73.setTop (mkF m 188 #[.val (.long q1), .second, .val (.long q2), .second, .val (.int p3), .val (.long t2), .second, .val (.ref md), .val (.ref b1), .val (.ref b3), .val (.ref b5), .val (.int (1 : Int32)), .val (.int (1 : Int32)), .val (.int (0 : Int32)), .val (.int (1 : Int32)), .val (.int (1 : Int32)), .val (.int (1 : Int32)), .val (.int (0 : Int32)), .unset] []))
        refine own_ofw (fun tt_ => XS.iconst X73.here hx rfl (hb hby at_188)) ?_
        show own_gw p e below s _ _ _ (T73.setTop (mkF m 189 #[.val (.long q1), .second, .val (.long q2), .second, .val (.int p3), .val (.long t2), .second, .val (.ref md), .val (.ref b1), .val (.ref b3), .val (.ref b5), .val (.int (1 : Int32)), .val (.int (1 : Int32)), .val (.int (0 : Int32)), .val (.int (1 : Int32)), .val (.int (1 : Int32)), .val (.int (1 : Int32)), .val (.int (0 : Int32)), .unset] [(.int (1 : Int32))]))
        refine own_ofw (fun tt_ => XS.goto X73.here hx rfl (pc0 := 189) (pc' := 193) rfl (hb hby at_189) (by decide) (by decide)) ?_
        show own_gw p e below s _ _ _ (T73.setTop (mkF m 193 #[.val (.long q1), .second, .val (.long q2), .second, .val (.int p3), .val (.long t2), .second, .val (.ref md), .val (.ref b1), .val (.ref b3), .val (.ref b5), .val (.int (1 : Int32)), .val (.int (1 : Int32)), .val (.int (0 : Int32)), .val (.int (1 : Int32)), .val (.int (1 : Int32)), .val (.int (1 : Int32)), .val (.int (0 : Int32)), .unset] [(.int (1 : Int32))]))
        refine own_ofw (fun tt_ => XS.istore X73.here hx rfl (hb hby at_193) rfl (l' := #[.val (.long q1), .second, .val (.long q2), .second, .val (.int p3), .val (.long t2), .second, .val (.ref md), .val (.ref b1), .val (.ref b3), .val (.ref b5), .val (.int (1 : Int32)), .val (.int (1 : Int32)), .val (.int (0 : Int32)), .val (.int (1 : Int32)), .val (.int (1 : Int32)), .val (.int (1 : Int32)), .val (.int (0 : Int32)), .val (.int (1 : Int32))]) rfl) ?_
        show own_gw p e below s _ _ _ (T73.setTop (mkF m 195 #[.val (.long q1), .second, .val (.long q2), .second, .val (.int p3), .val (.long t2), .second, .val (.ref md), .val (.ref b1), .val (.ref b3), .val (.ref b5), .val (.int (1 : Int32)), .val (.int (1 : Int32)), .val (.int (0 : Int32)), .val (.int (1 : Int32)), .val (.int (1 : Int32)), .val (.int (1 : Int32)), .val (.int (0 : Int32)), .val (.int (1 : Int32))] []))
        refine own_ofw (fun tt_ => XS.iload X73.here hx rfl (hb hby at_195) rfl) ?_
        show own_gw p e below s _ _ _ (T73.setTop (mkF m 197 #[.val (.long q1), .second, .val (.long q2), .second, .val (.int p3), .val (.long t2), .second, .val (.ref md), .val (.ref b1), .val (.ref b3), .val (.ref b5), .val (.int (1 : Int32)), .val (.int (1 : Int32)), .val (.int (0 : Int32)), .val (.int (1 : Int32)), .val (.int (1 : Int32)), .val (.int (1 : Int32)), .val (.int (0 : Int32)), .val (.int (1 : Int32))] [(.int (1 : Int32))]))
        refine own_ofw (fun tt_ => XS.iload X73.here hx rfl (hb hby at_197) rfl) ?_
        show own_gw p e below s _ _ _ (T73.setTop (mkF m 199 #[.val (.long q1), .second, .val (.long q2), .second, .val (.int p3), .val (.long t2), .second, .val (.ref md), .val (.ref b1), .val (.ref b3), .val (.ref b5), .val (.int (1 : Int32)), .val (.int (1 : Int32)), .val (.int (0 : Int32)), .val (.int (1 : Int32)), .val (.int (1 : Int32)), .val (.int (1 : Int32)), .val (.int (0 : Int32)), .val (.int (1 : Int32))] [(.int (1 : Int32)), (.int (1 : Int32))]))
        have hb199_75 : (1 : Int32) = (1 : Int32) := by decide
        refine own_ofw (fun tt_ => XS.icmpNo X73.here hx rfl (hb hby at_199) rfl (teq hb199_75).2) ?_
        show own_gw p e below s _ _ _ (T73.setTop (mkF m 202 #[.val (.long q1), .second, .val (.long q2), .second, .val (.int p3), .val (.long t2), .second, .val (.ref md), .val (.ref b1), .val (.ref b3), .val (.ref b5), .val (.int (1 : Int32)), .val (.int (1 : Int32)), .val (.int (0 : Int32)), .val (.int (1 : Int32)), .val (.int (1 : Int32)), .val (.int (1 : Int32)), .val (.int (0 : Int32)), .val (.int (1 : Int32))] []))
        refine own_ofw (fun tt_ => XS.iload X73.here hx rfl (hb hby at_202) rfl) ?_
        show own_gw p e below s _ _ _ (T73.setTop (mkF m 204 #[.val (.long q1), .second, .val (.long q2), .second, .val (.int p3), .val (.long t2), .second, .val (.ref md), .val (.ref b1), .val (.ref b3), .val (.ref b5), .val (.int (1 : Int32)), .val (.int (1 : Int32)), .val (.int (0 : Int32)), .val (.int (1 : Int32)), .val (.int (1 : Int32)), .val (.int (1 : Int32)), .val (.int (0 : Int32)), .val (.int (1 : Int32))] [(.int (1 : Int32))]))
        refine own_ofw (fun tt_ => XS.iload X73.here hx rfl (hb hby at_204) rfl) ?_
        show own_gw p e below s _ _ _ (T73.setTop (mkF m 206 #[.val (.long q1), .second, .val (.long q2), .second, .val (.int p3), .val (.long t2), .second, .val (.ref md), .val (.ref b1), .val (.ref b3), .val (.ref b5), .val (.int (1 : Int32)), .val (.int (1 : Int32)), .val (.int (0 : Int32)), .val (.int (1 : Int32)), .val (.int (1 : Int32)), .val (.int (1 : Int32)), .val (.int (0 : Int32)), .val (.int (1 : Int32))] [(.int (1 : Int32)), (.int (1 : Int32))]))
        have hb206_76 : (1 : Int32) = (1 : Int32) := by decide
        refine own_ofw (fun tt_ => XS.icmpNo X73.here hx rfl (hb hby at_206) rfl (teq hb206_76).2) ?_
        show own_gw p e below s _ _ _ (T73.setTop (mkF m 209 #[.val (.long q1), .second, .val (.long q2), .second, .val (.int p3), .val (.long t2), .second, .val (.ref md), .val (.ref b1), .val (.ref b3), .val (.ref b5), .val (.int (1 : Int32)), .val (.int (1 : Int32)), .val (.int (0 : Int32)), .val (.int (1 : Int32)), .val (.int (1 : Int32)), .val (.int (1 : Int32)), .val (.int (0 : Int32)), .val (.int (1 : Int32))] []))
        refine own_ofw (fun tt_ => XS.iload X73.here hx rfl (hb hby at_209) rfl) ?_
        show own_gw p e below s _ _ _ (T73.setTop (mkF m 211 #[.val (.long q1), .second, .val (.long q2), .second, .val (.int p3), .val (.long t2), .second, .val (.ref md), .val (.ref b1), .val (.ref b3), .val (.ref b5), .val (.int (1 : Int32)), .val (.int (1 : Int32)), .val (.int (0 : Int32)), .val (.int (1 : Int32)), .val (.int (1 : Int32)), .val (.int (1 : Int32)), .val (.int (0 : Int32)), .val (.int (1 : Int32))] [(.int (0 : Int32))]))
        refine own_ofw (fun tt_ => XS.iload X73.here hx rfl (hb hby at_211) rfl) ?_
        show own_gw p e below s _ _ _ (T73.setTop (mkF m 213 #[.val (.long q1), .second, .val (.long q2), .second, .val (.int p3), .val (.long t2), .second, .val (.ref md), .val (.ref b1), .val (.ref b3), .val (.ref b5), .val (.int (1 : Int32)), .val (.int (1 : Int32)), .val (.int (0 : Int32)), .val (.int (1 : Int32)), .val (.int (1 : Int32)), .val (.int (1 : Int32)), .val (.int (0 : Int32)), .val (.int (1 : Int32))] [(.int (0 : Int32)), (.int (0 : Int32))]))
        have hb213_77 : (0 : Int32) = (0 : Int32) := by decide
        refine own_ofw (fun tt_ => XS.icmpNo X73.here hx rfl (hb hby at_213) rfl (teq hb213_77).2) ?_
        show own_gw p e below s _ _ _ (T73.setTop (mkF m 216 #[.val (.long q1), .second, .val (.long q2), .second, .val (.int p3), .val (.long t2), .second, .val (.ref md), .val (.ref b1), .val (.ref b3), .val (.ref b5), .val (.int (1 : Int32)), .val (.int (1 : Int32)), .val (.int (0 : Int32)), .val (.int (1 : Int32)), .val (.int (1 : Int32)), .val (.int (1 : Int32)), .val (.int (0 : Int32)), .val (.int (1 : Int32))] []))
        refine own_ofw (fun tt_ => XS.iload X73.here hx rfl (hb hby at_216) rfl) ?_
        show own_gw p e below s _ _ _ (T73.setTop (mkF m 218 #[.val (.long q1), .second, .val (.long q2), .second, .val (.int p3), .val (.long t2), .second, .val (.ref md), .val (.ref b1), .val (.ref b3), .val (.ref b5), .val (.int (1 : Int32)), .val (.int (1 : Int32)), .val (.int (0 : Int32)), .val (.int (1 : Int32)), .val (.int (1 : Int32)), .val (.int (1 : Int32)), .val (.int (0 : Int32)), .val (.int (1 : Int32))] [(.int (1 : Int32))]))
        refine own_ofw (fun tt_ => XS.iload X73.here hx rfl (hb hby at_218) rfl) ?_
        show own_gw p e below s _ _ _ (T73.setTop (mkF m 220 #[.val (.long q1), .second, .val (.long q2), .second, .val (.int p3), .val (.long t2), .second, .val (.ref md), .val (.ref b1), .val (.ref b3), .val (.ref b5), .val (.int (1 : Int32)), .val (.int (1 : Int32)), .val (.int (0 : Int32)), .val (.int (1 : Int32)), .val (.int (1 : Int32)), .val (.int (1 : Int32)), .val (.int (0 : Int32)), .val (.int (1 : Int32))] [(.int (1 : Int32)), (.int (1 : Int32))]))
        have hb220_78 : (1 : Int32) = (1 : Int32) := by decide
        refine own_ofw (fun tt_ => XS.icmpNo X73.here hx rfl (hb hby at_220) rfl (teq hb220_78).2) ?_
        show own_gw p e below s _ _ _ (T73.setTop (mkF m 223 #[.val (.long q1), .second, .val (.long q2), .second, .val (.int p3), .val (.long t2), .second, .val (.ref md), .val (.ref b1), .val (.ref b3), .val (.ref b5), .val (.int (1 : Int32)), .val (.int (1 : Int32)), .val (.int (0 : Int32)), .val (.int (1 : Int32)), .val (.int (1 : Int32)), .val (.int (1 : Int32)), .val (.int (0 : Int32)), .val (.int (1 : Int32))] []))
        refine own_ofw (fun tt_ => XS.iconst X73.here hx rfl (hb hby at_223)) ?_
        show own_gw p e below s _ _ _ (T73.setTop (mkF m 224 #[.val (.long q1), .second, .val (.long q2), .second, .val (.int p3), .val (.long t2), .second, .val (.ref md), .val (.ref b1), .val (.ref b3), .val (.ref b5), .val (.int (1 : Int32)), .val (.int (1 : Int32)), .val (.int (0 : Int32)), .val (.int (1 : Int32)), .val (.int (1 : Int32)), .val (.int (1 : Int32)), .val (.int (0 : Int32)), .val (.int (1 : Int32))] [(.int (1 : Int32))]))
        refine own_ofw (fun tt_ => XS.goto X73.here hx rfl (pc0 := 224) (pc' := 228) rfl (hb hby at_224) (by decide) (by decide)) ?_
        show own_gw p e below s _ _ _ (T73.setTop (mkF m 228 #[.val (.long q1), .second, .val (.long q2), .second, .val (.int p3), .val (.long t2), .second, .val (.ref md), .val (.ref b1), .val (.ref b3), .val (.ref b5), .val (.int (1 : Int32)), .val (.int (1 : Int32)), .val (.int (0 : Int32)), .val (.int (1 : Int32)), .val (.int (1 : Int32)), .val (.int (1 : Int32)), .val (.int (0 : Int32)), .val (.int (1 : Int32))] [(.int (1 : Int32))]))
        refine own_retw X73 hx hlk hS4 (by rw [eh73]; omega : T4.heap.size ≤ T73.heap.size) Bd.returns rfl (Or.inl ⟨rfl, by simp, _, rfl⟩) (hb hby at_228) (by decide) (by decide) ?_
        rw [eh73]
        exact ⟨rfl, N73⟩
      · by_cases eq : t2 = q1
        · show own_gw p e below s _ _ _ (T6.setTop (mkF m 105 #[.val (.long q1), .second, .val (.long q2), .second, .val (.int p3), .val (.long t2), .second, .val (.ref md), .val (.ref b1), .val (.ref b3), .val (.ref b5), .unset, .unset, .unset, .unset, .unset, .unset, .unset, .unset] []))
          refine own_ofw (fun tt_ => XS.aload X6.here hx rfl (hb hby at_105) rfl rfl) ?_
          show own_gw p e below s _ _ _ (T6.setTop (mkF m 107 #[.val (.long q1), .second, .val (.long q2), .second, .val (.int p3), .val (.long t2), .second, .val (.ref md), .val (.ref b1), .val (.ref b3), .val (.ref b5), .unset, .unset, .unset, .unset, .unset, .unset, .unset, .unset] [(.ref b5)]))
          refine own_ofw (fun tt_ => XS.aload X6.here hx rfl (hb hby at_107) rfl rfl) ?_
          show own_gw p e below s _ _ _ (T6.setTop (mkF m 109 #[.val (.long q1), .second, .val (.long q2), .second, .val (.int p3), .val (.long t2), .second, .val (.ref md), .val (.ref b1), .val (.ref b3), .val (.ref b5), .unset, .unset, .unset, .unset, .unset, .unset, .unset, .unset] [(.ref b1), (.ref b5)]))
          have f79 : Exa Z T6.heap b1 "com/example/plumeline/plumeline/AsmSample" := (((((A1.keep Kp2).ext E3).keep Kp4).ext E5).keep Kp6)
          have f80 : Fld Z T6.heap b1 "com/example/plumeline/plumeline/AsmSample" "tS" "J" (.long q1) := ((((Ft2.ext E3).keep Kp4 (ninS (own_ne (by omega)) nin0)).ext E5).keep Kp6 (ninS (own_ne (by omega)) nin0))
          have at81 : ((List.replicate 75 Value.null) : List Value).getD (q1.toInt - 16).toNat Value.null = Value.null := by
            exact own_rep _
          have f83 : Exa Z T6.heap b5 "com/example/plumeline/plumeline/LoadedMode$Trace" := (A5.keep Kp6)
          obtain ⟨cq82, kq82, q82a, q82b, q82c⟩ := isOf hZ4 rfl f83
          obtain ⟨_, _, ⟨T82, L82, k82, n82⟩, -, X82, ⟨Lc82, hQ82, l82, y82, z82⟩, st82⟩ := X6.virtualBack hx (y := (⟨"com/example/plumeline/plumeline/LoadedMode$Trace", "add", "(Lcom/example/plumeline/plumeline/AsmSample;)Z"⟩ : MethodName)) (z := (⟨"com/example/plumeline/plumeline/LoadedMode$Trace", "add", "(Lcom/example/plumeline/plumeline/AsmSample;)Z"⟩ : MethodName)) hown4 (mvT hZ4 (hW 63 _ rfl)) (mvT hZ4 (hW 64 _ rfl)) (notFace_of_selects (args := #[]) (mvT hZ4 (hW 66 _ rfl))) (mvT hZ4 (hW 66 _ rfl)) (mvT hZ4 (hW 65 _ rfl)) (by decide) (backOf (W := 0) (rm6_n l Z a0 hw [] b5 b1 q1 bs6 ks6 (List.replicate 75 Value.null) 0 T6.heap n0 O6 f79 f80 Fs6 Vs6 Ov6 hl6 (by omega) lo_1 hi_1 at81) hZ4 (hW 67 _ rfl) (hW 54 _ rfl) (by decide) (by decide)) q82a q82c (g := (mkF m 109 #[.val (.long q1), .second, .val (.long q2), .second, .val (.int p3), .val (.long t2), .second, .val (.ref md), .val (.ref b1), .val (.ref b3), .val (.ref b5), .unset, .unset, .unset, .unset, .unset, .unset, .unset, .unset] [(.ref b1), (.ref b5)])) rfl (by rw [hml]; rfl) (Steps.refl _) (argsL := [(.ref b1)]) (rest := []) (lenOf pd_4 rfl) rfl (by show 2 * 0 + _ ≤ _; exact Nat.le_of_eq rfl) (hb hby at_109) (fun _ _ => ⟨rfl, rfl, (by decide : 8 + 0 ≤ _), (by decide : 130 + 0 ≤ _)⟩)
          dsimp only [Pt.U, Pt.locs, Pt.cells, Pt.slots] at X82 l82 y82 z82 st82 hQ82
          subst l82 y82 z82
          obtain ⟨rfl, Nq82, Kp82, Vn82⟩ := hQ82
          have N82 := Fr.app N6 Nq82
          refine own_ofw (fun tt_ kk_ => st82.trans kk_) ?_
          have sz82 : T6.heap.size ≤ T82.heap.size := Kp82.1
          have O82 : Old Z n0 T82.heap := O6.keep Kp82 (allS (by omega) all0)
          have hl82 : (((List.replicate 75 Value.null).set (q1.toInt - 16).toNat (.ref b1)) : List Value).length = 75 := by rw [List.length_set]; exact hl6
          show own_gw p e below s _ _ _ (T82.setTop (mkF m 112 #[.val (.long q1), .second, .val (.long q2), .second, .val (.int p3), .val (.long t2), .second, .val (.ref md), .val (.ref b1), .val (.ref b3), .val (.ref b5), .unset, .unset, .unset, .unset, .unset, .unset, .unset, .unset] [(.int (1 : Int32))]))
          refine own_ofw (fun tt_ => XS.istore X82.here hx rfl (hb hby at_112) rfl (l' := #[.val (.long q1), .second, .val (.long q2), .second, .val (.int p3), .val (.long t2), .second, .val (.ref md), .val (.ref b1), .val (.ref b3), .val (.ref b5), .val (.int (1 : Int32)), .unset, .unset, .unset, .unset, .unset, .unset, .unset]) rfl) ?_
          show own_gw p e below s _ _ _ (T82.setTop (mkF m 114 #[.val (.long q1), .second, .val (.long q2), .second, .val (.int p3), .val (.long t2), .second, .val (.ref md), .val (.ref b1), .val (.ref b3), .val (.ref b5), .val (.int (1 : Int32)), .unset, .unset, .unset, .unset, .unset, .unset, .unset] []))
          refine own_ofw (fun tt_ => XS.aload X82.here hx rfl (hb hby at_114) rfl rfl) ?_
          show own_gw p e below s _ _ _ (T82.setTop (mkF m 116 #[.val (.long q1), .second, .val (.long q2), .second, .val (.int p3), .val (.long t2), .second, .val (.ref md), .val (.ref b1), .val (.ref b3), .val (.ref b5), .val (.int (1 : Int32)), .unset, .unset, .unset, .unset, .unset, .unset, .unset] [(.ref b5)]))
          refine own_ofw (fun tt_ => XS.aload X82.here hx rfl (hb hby at_116) rfl rfl) ?_
          show own_gw p e below s _ _ _ (T82.setTop (mkF m 118 #[.val (.long q1), .second, .val (.long q2), .second, .val (.int p3), .val (.long t2), .second, .val (.ref md), .val (.ref b1), .val (.ref b3), .val (.ref b5), .val (.int (1 : Int32)), .unset, .unset, .unset, .unset, .unset, .unset, .unset] [(.ref b3), (.ref b5)]))
          have f84 : Exa Z T82.heap b3 "com/example/plumeline/plumeline/AsmSample" := ((((A3.keep Kp4).ext E5).keep Kp6).keep Kp82)
          have f85 : Fld Z T82.heap b3 "com/example/plumeline/plumeline/AsmSample" "tS" "J" (.long t2) := (((Ft4.ext E5).keep Kp6 (ninS (own_ne (by omega)) nin0)).keep Kp82 (ninS (own_ne (by omega)) nin0))
          have f86 : Fld Z T82.heap b5 "com/example/plumeline/plumeline/LoadedMode$Trace" "samples" "[Lcom/example/plumeline/plumeline/AsmSample;" (.ref bs6) := (Fs6.keep Kp82 (ninS (own_ne (by omega)) nin0))
          have at87 : (((List.replicate 75 Value.null).set (q1.toInt - 16).toNat (.ref b1)) : List Value).getD (t2.toInt - 16).toNat Value.null = Value.ref b1 := by
            rw [eq]; exact own_setAt _ _ _ _ (by simpa using own_lt75 lo_1 hi_1)
          have f89 : Exa Z T82.heap b5 "com/example/plumeline/plumeline/LoadedMode$Trace" := (f83.keep Kp82)
          obtain ⟨cq88, kq88, q88a, q88b, q88c⟩ := isOf hZ4 rfl f89
          obtain ⟨_, _, ⟨T88, L88, k88, n88⟩, -, X88, ⟨Lc88, hQ88, l88, y88, z88⟩, st88⟩ := X82.virtualBack hx (y := (⟨"com/example/plumeline/plumeline/LoadedMode$Trace", "add", "(Lcom/example/plumeline/plumeline/AsmSample;)Z"⟩ : MethodName)) (z := (⟨"com/example/plumeline/plumeline/LoadedMode$Trace", "add", "(Lcom/example/plumeline/plumeline/AsmSample;)Z"⟩ : MethodName)) hown4 (mvT hZ4 (hW 63 _ rfl)) (mvT hZ4 (hW 64 _ rfl)) (notFace_of_selects (args := #[]) (mvT hZ4 (hW 66 _ rfl))) (mvT hZ4 (hW 66 _ rfl)) (mvT hZ4 (hW 65 _ rfl)) (by decide) (backOf (W := 0) (rm6_r l Z a0 hw [] b5 b3 t2 bs6 ks6 ((List.replicate 75 Value.null).set (q1.toInt - 16).toNat (.ref b1)) b1 T82.heap n0 O82 f84 f85 f86 Vn82 Ov6 hl82 (by omega) lo_2 hi_2 at87) hZ4 (hW 67 _ rfl) (hW 54 _ rfl) (by decide) (by decide)) q88a q88c (g := (mkF m 118 #[.val (.long q1), .second, .val (.long q2), .second, .val (.int p3), .val (.long t2), .second, .val (.ref md), .val (.ref b1), .val (.ref b3), .val (.ref b5), .val (.int (1 : Int32)), .unset, .unset, .unset, .unset, .unset, .unset, .unset] [(.ref b3), (.ref b5)])) rfl (by rw [hml]; rfl) (Steps.refl _) (argsL := [(.ref b3)]) (rest := []) (lenOf pd_4 rfl) rfl (by show 2 * 0 + _ ≤ _; exact Nat.le_of_eq rfl) (hb hby at_118) (fun _ _ => ⟨rfl, rfl, (by decide : 8 + 0 ≤ _), (by decide : 130 + 0 ≤ _)⟩)
          dsimp only [Pt.U, Pt.locs, Pt.cells, Pt.slots] at X88 l88 y88 z88 st88 hQ88
          subst l88 y88 z88
          obtain ⟨rfl, Nq88, eh88⟩ := hQ88
          have N88 := Fr.app N82 Nq88
          refine own_ofw (fun tt_ kk_ => st88.trans kk_) ?_
          show own_gw p e below s _ _ _ (T88.setTop (mkF m 121 #[.val (.long q1), .second, .val (.long q2), .second, .val (.int p3), .val (.long t2), .second, .val (.ref md), .val (.ref b1), .val (.ref b3), .val (.ref b5), .val (.int (1 : Int32)), .unset, .unset, .unset, .unset, .unset, .unset, .unset] [(.int (0 : Int32))]))
          refine own_ofw (fun tt_ => XS.istore X88.here hx rfl (hb hby at_121) rfl (l' := #[.val (.long q1), .second, .val (.long q2), .second, .val (.int p3), .val (.long t2), .second, .val (.ref md), .val (.ref b1), .val (.ref b3), .val (.ref b5), .val (.int (1 : Int32)), .val (.int (0 : Int32)), .unset, .unset, .unset, .unset, .unset, .unset]) rfl) ?_
          show own_gw p e below s _ _ _ (T88.setTop (mkF m 123 #[.val (.long q1), .second, .val (.long q2), .second, .val (.int p3), .val (.long t2), .second, .val (.ref md), .val (.ref b1), .val (.ref b3), .val (.ref b5), .val (.int (1 : Int32)), .val (.int (0 : Int32)), .unset, .unset, .unset, .unset, .unset, .unset] []))
          refine own_ofw (fun tt_ => XS.aload X88.here hx rfl (hb hby at_123) rfl rfl) ?_
          show own_gw p e below s _ _ _ (T88.setTop (mkF m 125 #[.val (.long q1), .second, .val (.long q2), .second, .val (.int p3), .val (.long t2), .second, .val (.ref md), .val (.ref b1), .val (.ref b3), .val (.ref b5), .val (.int (1 : Int32)), .val (.int (0 : Int32)), .unset, .unset, .unset, .unset, .unset, .unset] [(.ref b5)]))
          refine own_ofw (fun tt_ => XS.aload X88.here hx rfl (hb hby at_125) rfl rfl) ?_
          show own_gw p e below s _ _ _ (T88.setTop (mkF m 127 #[.val (.long q1), .second, .val (.long q2), .second, .val (.int p3), .val (.long t2), .second, .val (.ref md), .val (.ref b1), .val (.ref b3), .val (.ref b5), .val (.int (1 : Int32)), .val (.int (0 : Int32)), .unset, .unset, .unset, .unset, .unset, .unset] [(.ref b1), (.ref b5)]))
          have f90 : Exa Z T82.heap b1 "com/example/plumeline/plumeline/AsmSample" := (f79.keep Kp82)
          have f91 : Fld Z T82.heap b1 "com/example/plumeline/plumeline/AsmSample" "tS" "J" (.long q1) := (f80.keep Kp82 (ninS (own_ne (by omega)) nin0))
          have at92 : (((List.replicate 75 Value.null).set (q1.toInt - 16).toNat (.ref b1)) : List Value).getD (q1.toInt - 16).toNat Value.null = Value.ref b1 := by
            exact own_setAt _ _ _ _ (by simpa using own_lt75 lo_1 hi_1)
          obtain ⟨cq93, kq93, q93a, q93b, q93c⟩ := isOf hZ4 eh88 f89
          obtain ⟨_, _, ⟨T93, L93, k93, n93⟩, -, X93, ⟨Lc93, hQ93, l93, y93, z93⟩, st93⟩ := X88.virtualBack hx (y := (⟨"com/example/plumeline/plumeline/LoadedMode$Trace", "add", "(Lcom/example/plumeline/plumeline/AsmSample;)Z"⟩ : MethodName)) (z := (⟨"com/example/plumeline/plumeline/LoadedMode$Trace", "add", "(Lcom/example/plumeline/plumeline/AsmSample;)Z"⟩ : MethodName)) hown4 (mvT hZ4 (hW 63 _ rfl)) (mvT hZ4 (hW 64 _ rfl)) (notFace_of_selects (args := #[]) (mvT hZ4 (hW 66 _ rfl))) (mvT hZ4 (hW 66 _ rfl)) (mvT hZ4 (hW 65 _ rfl)) (by decide) (backOf (W := 0) (rm6_r l Z a0 hw [] b5 b1 q1 bs6 ks6 ((List.replicate 75 Value.null).set (q1.toInt - 16).toNat (.ref b1)) b1 T82.heap n0 O82 f90 f91 f86 Vn82 Ov6 hl82 (by omega) lo_1 hi_1 at92) hZ4 (hW 67 _ rfl) (hW 54 _ rfl) (by decide) (by decide)) q93a q93c (g := (mkF m 127 #[.val (.long q1), .second, .val (.long q2), .second, .val (.int p3), .val (.long t2), .second, .val (.ref md), .val (.ref b1), .val (.ref b3), .val (.ref b5), .val (.int (1 : Int32)), .val (.int (0 : Int32)), .unset, .unset, .unset, .unset, .unset, .unset] [(.ref b1), (.ref b5)])) rfl (by rw [hml]; rfl) (Steps.refl _) (argsL := [(.ref b1)]) (rest := []) (lenOf pd_4 rfl) rfl (by show 2 * 0 + _ ≤ _; exact Nat.le_of_eq rfl) (hb hby at_127) (fun _ _ => ⟨rfl, eh88, (by decide : 8 + 0 ≤ _), (by decide : 130 + 0 ≤ _)⟩)
          dsimp only [Pt.U, Pt.locs, Pt.cells, Pt.slots] at X93 l93 y93 z93 st93 hQ93
          subst l93 y93 z93
          obtain ⟨rfl, Nq93, eh93⟩ := hQ93
          have N93 := Fr.app N88 Nq93
          refine own_ofw (fun tt_ kk_ => st93.trans kk_) ?_
          show own_gw p e below s _ _ _ (T93.setTop (mkF m 130 #[.val (.long q1), .second, .val (.long q2), .second, .val (.int p3), .val (.long t2), .second, .val (.ref md), .val (.ref b1), .val (.ref b3), .val (.ref b5), .val (.int (1 : Int32)), .val (.int (0 : Int32)), .unset, .unset, .unset, .unset, .unset, .unset] [(.int (0 : Int32))]))
          refine own_ofw (fun tt_ => XS.istore X93.here hx rfl (hb hby at_130) rfl (l' := #[.val (.long q1), .second, .val (.long q2), .second, .val (.int p3), .val (.long t2), .second, .val (.ref md), .val (.ref b1), .val (.ref b3), .val (.ref b5), .val (.int (1 : Int32)), .val (.int (0 : Int32)), .val (.int (0 : Int32)), .unset, .unset, .unset, .unset, .unset]) rfl) ?_
          show own_gw p e below s _ _ _ (T93.setTop (mkF m 132 #[.val (.long q1), .second, .val (.long q2), .second, .val (.int p3), .val (.long t2), .second, .val (.ref md), .val (.ref b1), .val (.ref b3), .val (.ref b5), .val (.int (1 : Int32)), .val (.int (0 : Int32)), .val (.int (0 : Int32)), .unset, .unset, .unset, .unset, .unset] []))
          refine own_ofw (fun tt_ => XS.aload X93.here hx rfl (hb hby at_132) rfl rfl) ?_
          show own_gw p e below s _ _ _ (T93.setTop (mkF m 134 #[.val (.long q1), .second, .val (.long q2), .second, .val (.int p3), .val (.long t2), .second, .val (.ref md), .val (.ref b1), .val (.ref b3), .val (.ref b5), .val (.int (1 : Int32)), .val (.int (0 : Int32)), .val (.int (0 : Int32)), .unset, .unset, .unset, .unset, .unset] [(.ref b5)]))
          refine own_ofw (fun tt_ => XS.aload X93.here hx rfl (hb hby at_134) rfl rfl) ?_
          show own_gw p e below s _ _ _ (T93.setTop (mkF m 136 #[.val (.long q1), .second, .val (.long q2), .second, .val (.int p3), .val (.long t2), .second, .val (.ref md), .val (.ref b1), .val (.ref b3), .val (.ref b5), .val (.int (1 : Int32)), .val (.int (0 : Int32)), .val (.int (0 : Int32)), .unset, .unset, .unset, .unset, .unset] [(.ref b3), (.ref b5)]))
          have at94 : (((List.replicate 75 Value.null).set (q1.toInt - 16).toNat (.ref b1)) : List Value).getD (t2.toInt - 16).toNat Value.null = Value.ref b1 := by
            rw [eq]; exact own_setAt _ _ _ _ (by simpa using own_lt75 lo_1 hi_1)
          obtain ⟨cq95, kq95, q95a, q95b, q95c⟩ := isOf hZ4 eh93 f89
          obtain ⟨_, _, ⟨T95, L95, k95, n95⟩, -, X95, ⟨Lc95, hQ95, l95, y95, z95⟩, st95⟩ := X93.virtualBack hx (y := (⟨"com/example/plumeline/plumeline/LoadedMode$Trace", "add", "(Lcom/example/plumeline/plumeline/AsmSample;)Z"⟩ : MethodName)) (z := (⟨"com/example/plumeline/plumeline/LoadedMode$Trace", "add", "(Lcom/example/plumeline/plumeline/AsmSample;)Z"⟩ : MethodName)) hown4 (mvT hZ4 (hW 63 _ rfl)) (mvT hZ4 (hW 64 _ rfl)) (notFace_of_selects (args := #[]) (mvT hZ4 (hW 66 _ rfl))) (mvT hZ4 (hW 66 _ rfl)) (mvT hZ4 (hW 65 _ rfl)) (by decide) (backOf (W := 0) (rm6_r l Z a0 hw [] b5 b3 t2 bs6 ks6 ((List.replicate 75 Value.null).set (q1.toInt - 16).toNat (.ref b1)) b1 T82.heap n0 O82 f84 f85 f86 Vn82 Ov6 hl82 (by omega) lo_2 hi_2 at94) hZ4 (hW 67 _ rfl) (hW 54 _ rfl) (by decide) (by decide)) q95a q95c (g := (mkF m 136 #[.val (.long q1), .second, .val (.long q2), .second, .val (.int p3), .val (.long t2), .second, .val (.ref md), .val (.ref b1), .val (.ref b3), .val (.ref b5), .val (.int (1 : Int32)), .val (.int (0 : Int32)), .val (.int (0 : Int32)), .unset, .unset, .unset, .unset, .unset] [(.ref b3), (.ref b5)])) rfl (by rw [hml]; rfl) (Steps.refl _) (argsL := [(.ref b3)]) (rest := []) (lenOf pd_4 rfl) rfl (by show 2 * 0 + _ ≤ _; exact Nat.le_of_eq rfl) (hb hby at_136) (fun _ _ => ⟨rfl, eh93, (by decide : 8 + 0 ≤ _), (by decide : 130 + 0 ≤ _)⟩)
          dsimp only [Pt.U, Pt.locs, Pt.cells, Pt.slots] at X95 l95 y95 z95 st95 hQ95
          subst l95 y95 z95
          obtain ⟨rfl, Nq95, eh95⟩ := hQ95
          have N95 := Fr.app N93 Nq95
          refine own_ofw (fun tt_ kk_ => st95.trans kk_) ?_
          show own_gw p e below s _ _ _ (T95.setTop (mkF m 139 #[.val (.long q1), .second, .val (.long q2), .second, .val (.int p3), .val (.long t2), .second, .val (.ref md), .val (.ref b1), .val (.ref b3), .val (.ref b5), .val (.int (1 : Int32)), .val (.int (0 : Int32)), .val (.int (0 : Int32)), .unset, .unset, .unset, .unset, .unset] [(.int (0 : Int32))]))
          refine own_ofw (fun tt_ => XS.istore X95.here hx rfl (hb hby at_139) rfl (l' := #[.val (.long q1), .second, .val (.long q2), .second, .val (.int p3), .val (.long t2), .second, .val (.ref md), .val (.ref b1), .val (.ref b3), .val (.ref b5), .val (.int (1 : Int32)), .val (.int (0 : Int32)), .val (.int (0 : Int32)), .val (.int (0 : Int32)), .unset, .unset, .unset, .unset]) rfl) ?_
          show own_gw p e below s _ _ _ (T95.setTop (mkF m 141 #[.val (.long q1), .second, .val (.long q2), .second, .val (.int p3), .val (.long t2), .second, .val (.ref md), .val (.ref b1), .val (.ref b3), .val (.ref b5), .val (.int (1 : Int32)), .val (.int (0 : Int32)), .val (.int (0 : Int32)), .val (.int (0 : Int32)), .unset, .unset, .unset, .unset] []))
          refine own_ofw (fun tt_ => XS.iconst X95.here hx rfl (hb hby at_141)) ?_
          show own_gw p e below s _ _ _ (T95.setTop (mkF m 142 #[.val (.long q1), .second, .val (.long q2), .second, .val (.int p3), .val (.long t2), .second, .val (.ref md), .val (.ref b1), .val (.ref b3), .val (.ref b5), .val (.int (1 : Int32)), .val (.int (0 : Int32)), .val (.int (0 : Int32)), .val (.int (0 : Int32)), .unset, .unset, .unset, .unset] [(.int (1 : Int32))]))
          refine own_ofw (fun tt_ => XS.istore X95.here hx rfl (hb hby at_142) rfl (l' := #[.val (.long q1), .second, .val (.long q2), .second, .val (.int p3), .val (.long t2), .second, .val (.ref md), .val (.ref b1), .val (.ref b3), .val (.ref b5), .val (.int (1 : Int32)), .val (.int (0 : Int32)), .val (.int (0 : Int32)), .val (.int (0 : Int32)), .val (.int (1 : Int32)), .unset, .unset, .unset]) rfl) ?_
          show own_gw p e below s _ _ _ (T95.setTop (mkF m 144 #[.val (.long q1), .second, .val (.long q2), .second, .val (.int p3), .val (.long t2), .second, .val (.ref md), .val (.ref b1), .val (.ref b3), .val (.ref b5), .val (.int (1 : Int32)), .val (.int (0 : Int32)), .val (.int (0 : Int32)), .val (.int (0 : Int32)), .val (.int (1 : Int32)), .unset, .unset, .unset] []))
          refine own_ofw (fun tt_ => XS.lload X95.here hx rfl (hb hby at_144) rfl) ?_
          show own_gw p e below s _ _ _ (T95.setTop (mkF m 146 #[.val (.long q1), .second, .val (.long q2), .second, .val (.int p3), .val (.long t2), .second, .val (.ref md), .val (.ref b1), .val (.ref b3), .val (.ref b5), .val (.int (1 : Int32)), .val (.int (0 : Int32)), .val (.int (0 : Int32)), .val (.int (0 : Int32)), .val (.int (1 : Int32)), .unset, .unset, .unset] [(.long t2)]))
          obtain ⟨_, _, ⟨T96, L96, k96, n96⟩, -, X96, ⟨Lc96, hQ96, l96, y96, z96⟩, st96⟩ := Jvm.LawKit.callS X95 hx (y := (⟨"com/example/plumeline/plumeline/TraceAddPinLaw", "inWindow", "(J)Z"⟩ : MethodName)) hown4 (mvT hZ4 (hW 74 _ rfl)) (mvT hZ4 (hW 75 _ rfl)) (mvT hZ4 (hW 76 _ rfl)) (mvT hZ4 (hW 77 _ rfl)) (by decide) (backOf (W := 0) (rm8_in l Z a0 hw [] t2 T82.heap n0 O82 lo_2 hi_2) hZ4 (hW 77 _ rfl) (hW 76 _ rfl) (by decide) (by decide)) (g := (mkF m 146 #[.val (.long q1), .second, .val (.long q2), .second, .val (.int p3), .val (.long t2), .second, .val (.ref md), .val (.ref b1), .val (.ref b3), .val (.ref b5), .val (.int (1 : Int32)), .val (.int (0 : Int32)), .val (.int (0 : Int32)), .val (.int (0 : Int32)), .val (.int (1 : Int32)), .unset, .unset, .unset] [(.long t2)])) rfl (by rw [hml]; rfl) (argsL := [(.long t2)]) (rest := []) (lenOf pd_5 rfl) rfl (by show 2 * 0 + _ ≤ _; exact Nat.le_of_eq rfl) (hb hby at_146) (fun _ _ => ⟨rfl, eh95, (by decide : 8 + 0 ≤ _), (by decide : 130 + 0 ≤ _)⟩)
          dsimp only [Pt.U, Pt.locs, Pt.cells, Pt.slots] at X96 l96 y96 z96 st96 hQ96
          subst l96 y96 z96
          obtain ⟨rfl, Nq96, eh96⟩ := hQ96
          have N96 := Fr.app N95 Nq96
          refine own_ofw st96 ?_
          show own_gw p e below s _ _ _ (T96.setTop (mkF m 149 #[.val (.long q1), .second, .val (.long q2), .second, .val (.int p3), .val (.long t2), .second, .val (.ref md), .val (.ref b1), .val (.ref b3), .val (.ref b5), .val (.int (1 : Int32)), .val (.int (0 : Int32)), .val (.int (0 : Int32)), .val (.int (0 : Int32)), .val (.int (1 : Int32)), .unset, .unset, .unset] [(.int (1 : Int32))]))
          have hb149_97 : ¬ ((1 : Int32) = (0 : Int32)) := by decide
          refine own_ofw (fun tt_ => XS.ifNo X96.here hx rfl (hb hby at_149) rfl ((if0 _ _).trans (feq hb149_97).1)) ?_
          show own_gw p e below s _ _ _ (T96.setTop (mkF m 152 #[.val (.long q1), .second, .val (.long q2), .second, .val (.int p3), .val (.long t2), .second, .val (.ref md), .val (.ref b1), .val (.ref b3), .val (.ref b5), .val (.int (1 : Int32)), .val (.int (0 : Int32)), .val (.int (0 : Int32)), .val (.int (0 : Int32)), .val (.int (1 : Int32)), .unset, .unset, .unset] []))
          refine own_ofw (fun tt_ => XS.lload X96.here hx rfl (hb hby at_152) rfl) ?_
          show own_gw p e below s _ _ _ (T96.setTop (mkF m 154 #[.val (.long q1), .second, .val (.long q2), .second, .val (.int p3), .val (.long t2), .second, .val (.ref md), .val (.ref b1), .val (.ref b3), .val (.ref b5), .val (.int (1 : Int32)), .val (.int (0 : Int32)), .val (.int (0 : Int32)), .val (.int (0 : Int32)), .val (.int (1 : Int32)), .unset, .unset, .unset] [(.long t2)]))
          refine own_ofw (fun tt_ => XS.lloadN X96.here hx rfl (hb hby at_154) rfl) ?_
          show own_gw p e below s _ _ _ (T96.setTop (mkF m 155 #[.val (.long q1), .second, .val (.long q2), .second, .val (.int p3), .val (.long t2), .second, .val (.ref md), .val (.ref b1), .val (.ref b3), .val (.ref b5), .val (.int (1 : Int32)), .val (.int (0 : Int32)), .val (.int (0 : Int32)), .val (.int (0 : Int32)), .val (.int (1 : Int32)), .unset, .unset, .unset] [(.long q1), (.long t2)]))
          refine own_ofw (fun tt_ => XS.lcmp X96.here hx rfl (hb hby at_155) rfl) ?_
          show own_gw p e below s _ _ _ (T96.setTop (mkF m 156 #[.val (.long q1), .second, .val (.long q2), .second, .val (.int p3), .val (.long t2), .second, .val (.ref md), .val (.ref b1), .val (.ref b3), .val (.ref b5), .val (.int (1 : Int32)), .val (.int (0 : Int32)), .val (.int (0 : Int32)), .val (.int (0 : Int32)), .val (.int (1 : Int32)), .unset, .unset, .unset] [(.int (lcmpW t2 q1))]))
          have hb156_98 : (lcmpW t2 q1) = (0 : Int32) := (lw_eq _ _).mpr eq
          refine own_ofw (fun tt_ => XS.ifYes X96.here hx rfl (pc0 := 156) (pc' := 163) rfl (hb hby at_156) rfl ((if0 _ _).trans (teq hb156_98).1) (by decide) (by decide)) ?_
          show own_gw p e below s _ _ _ (T96.setTop (mkF m 163 #[.val (.long q1), .second, .val (.long q2), .second, .val (.int p3), .val (.long t2), .second, .val (.ref md), .val (.ref b1), .val (.ref b3), .val (.ref b5), .val (.int (1 : Int32)), .val (.int (0 : Int32)), .val (.int (0 : Int32)), .val (.int (0 : Int32)), .val (.int (1 : Int32)), .unset, .unset, .unset] []))
          refine own_ofw (fun tt_ => XS.iconst X96.here hx rfl (hb hby at_163)) ?_
          show own_gw p e below s _ _ _ (T96.setTop (mkF m 164 #[.val (.long q1), .second, .val (.long q2), .second, .val (.int p3), .val (.long t2), .second, .val (.ref md), .val (.ref b1), .val (.ref b3), .val (.ref b5), .val (.int (1 : Int32)), .val (.int (0 : Int32)), .val (.int (0 : Int32)), .val (.int (0 : Int32)), .val (.int (1 : Int32)), .unset, .unset, .unset] [(.int (0 : Int32))]))
          refine own_ofw (fun tt_ => XS.istore X96.here hx rfl (hb hby at_164) rfl (l' := #[.val (.long q1), .second, .val (.long q2), .second, .val (.int p3), .val (.long t2), .second, .val (.ref md), .val (.ref b1), .val (.ref b3), .val (.ref b5), .val (.int (1 : Int32)), .val (.int (0 : Int32)), .val (.int (0 : Int32)), .val (.int (0 : Int32)), .val (.int (1 : Int32)), .val (.int (0 : Int32)), .unset, .unset]) rfl) ?_
          show own_gw p e below s _ _ _ (T96.setTop (mkF m 166 #[.val (.long q1), .second, .val (.long q2), .second, .val (.int p3), .val (.long t2), .second, .val (.ref md), .val (.ref b1), .val (.ref b3), .val (.ref b5), .val (.int (1 : Int32)), .val (.int (0 : Int32)), .val (.int (0 : Int32)), .val (.int (0 : Int32)), .val (.int (1 : Int32)), .val (.int (0 : Int32)), .unset, .unset] []))
          refine own_ofw (fun tt_ => XS.lloadN X96.here hx rfl (hb hby at_166) rfl) ?_
          show own_gw p e below s _ _ _ (T96.setTop (mkF m 167 #[.val (.long q1), .second, .val (.long q2), .second, .val (.int p3), .val (.long t2), .second, .val (.ref md), .val (.ref b1), .val (.ref b3), .val (.ref b5), .val (.int (1 : Int32)), .val (.int (0 : Int32)), .val (.int (0 : Int32)), .val (.int (0 : Int32)), .val (.int (1 : Int32)), .val (.int (0 : Int32)), .unset, .unset] [(.long q1)]))
          obtain ⟨_, _, ⟨T99, L99, k99, n99⟩, -, X99, ⟨Lc99, hQ99, l99, y99, z99⟩, st99⟩ := Jvm.LawKit.callS X96 hx (y := (⟨"com/example/plumeline/plumeline/TraceAddPinLaw", "inWindow", "(J)Z"⟩ : MethodName)) hown4 (mvT hZ4 (hW 74 _ rfl)) (mvT hZ4 (hW 75 _ rfl)) (mvT hZ4 (hW 76 _ rfl)) (mvT hZ4 (hW 77 _ rfl)) (by decide) (backOf (W := 0) (rm8_in l Z a0 hw [] q1 T82.heap n0 O82 lo_1 hi_1) hZ4 (hW 77 _ rfl) (hW 76 _ rfl) (by decide) (by decide)) (g := (mkF m 167 #[.val (.long q1), .second, .val (.long q2), .second, .val (.int p3), .val (.long t2), .second, .val (.ref md), .val (.ref b1), .val (.ref b3), .val (.ref b5), .val (.int (1 : Int32)), .val (.int (0 : Int32)), .val (.int (0 : Int32)), .val (.int (0 : Int32)), .val (.int (1 : Int32)), .val (.int (0 : Int32)), .unset, .unset] [(.long q1)])) rfl (by rw [hml]; rfl) (argsL := [(.long q1)]) (rest := []) (lenOf pd_5 rfl) rfl (by show 2 * 0 + _ ≤ _; exact Nat.le_of_eq rfl) (hb hby at_167) (fun _ _ => ⟨rfl, eh96, (by decide : 8 + 0 ≤ _), (by decide : 130 + 0 ≤ _)⟩)
          dsimp only [Pt.U, Pt.locs, Pt.cells, Pt.slots] at X99 l99 y99 z99 st99 hQ99
          subst l99 y99 z99
          obtain ⟨rfl, Nq99, eh99⟩ := hQ99
          have N99 := Fr.app N96 Nq99
          refine own_ofw st99 ?_
          show own_gw p e below s _ _ _ (T99.setTop (mkF m 170 #[.val (.long q1), .second, .val (.long q2), .second, .val (.int p3), .val (.long t2), .second, .val (.ref md), .val (.ref b1), .val (.ref b3), .val (.ref b5), .val (.int (1 : Int32)), .val (.int (0 : Int32)), .val (.int (0 : Int32)), .val (.int (0 : Int32)), .val (.int (1 : Int32)), .val (.int (0 : Int32)), .unset, .unset] [(.int (1 : Int32))]))
          have hb170_100 : ¬ ((1 : Int32) = (0 : Int32)) := by decide
          refine own_ofw (fun tt_ => XS.ifYes X99.here hx rfl (pc0 := 170) (pc' := 177) rfl (hb hby at_170) rfl ((if0 _ _).trans (feq hb170_100).2) (by decide) (by decide)) ?_
          show own_gw p e below s _ _ _ (T99.setTop (mkF m 177 #[.val (.long q1), .second, .val (.long q2), .second, .val (.int p3), .val (.long t2), .second, .val (.ref md), .val (.ref b1), .val (.ref b3), .val (.ref b5), .val (.int (1 : Int32)), .val (.int (0 : Int32)), .val (.int (0 : Int32)), .val (.int (0 : Int32)), .val (.int (1 : Int32)), .val (.int (0 : Int32)), .unset, .unset] []))
          refine own_ofw (fun tt_ => XS.iconst X99.here hx rfl (hb hby at_177)) ?_
          show own_gw p e below s _ _ _ (T99.setTop (mkF m 178 #[.val (.long q1), .second, .val (.long q2), .second, .val (.int p3), .val (.long t2), .second, .val (.ref md), .val (.ref b1), .val (.ref b3), .val (.ref b5), .val (.int (1 : Int32)), .val (.int (0 : Int32)), .val (.int (0 : Int32)), .val (.int (0 : Int32)), .val (.int (1 : Int32)), .val (.int (0 : Int32)), .unset, .unset] [(.int (0 : Int32))]))
          refine own_ofw (fun tt_ => XS.istore X99.here hx rfl (hb hby at_178) rfl (l' := #[.val (.long q1), .second, .val (.long q2), .second, .val (.int p3), .val (.long t2), .second, .val (.ref md), .val (.ref b1), .val (.ref b3), .val (.ref b5), .val (.int (1 : Int32)), .val (.int (0 : Int32)), .val (.int (0 : Int32)), .val (.int (0 : Int32)), .val (.int (1 : Int32)), .val (.int (0 : Int32)), .val (.int (0 : Int32)), .unset]) rfl) ?_
          show own_gw p e below s _ _ _ (T99.setTop (mkF m 180 #[.val (.long q1), .second, .val (.long q2), .second, .val (.int p3), .val (.long t2), .second, .val (.ref md), .val (.ref b1), .val (.ref b3), .val (.ref b5), .val (.int (1 : Int32)), .val (.int (0 : Int32)), .val (.int (0 : Int32)), .val (.int (0 : Int32)), .val (.int (1 : Int32)), .val (.int (0 : Int32)), .val (.int (0 : Int32)), .unset] []))
          refine own_ofw (fun tt_ => XS.lload X99.here hx rfl (hb hby at_180) rfl) ?_
          show own_gw p e below s _ _ _ (T99.setTop (mkF m 182 #[.val (.long q1), .second, .val (.long q2), .second, .val (.int p3), .val (.long t2), .second, .val (.ref md), .val (.ref b1), .val (.ref b3), .val (.ref b5), .val (.int (1 : Int32)), .val (.int (0 : Int32)), .val (.int (0 : Int32)), .val (.int (0 : Int32)), .val (.int (1 : Int32)), .val (.int (0 : Int32)), .val (.int (0 : Int32)), .unset] [(.long t2)]))
          obtain ⟨_, _, ⟨T101, L101, k101, n101⟩, -, X101, ⟨Lc101, hQ101, l101, y101, z101⟩, st101⟩ := Jvm.LawKit.callS X99 hx (y := (⟨"com/example/plumeline/plumeline/TraceAddPinLaw", "inWindow", "(J)Z"⟩ : MethodName)) hown4 (mvT hZ4 (hW 74 _ rfl)) (mvT hZ4 (hW 75 _ rfl)) (mvT hZ4 (hW 76 _ rfl)) (mvT hZ4 (hW 77 _ rfl)) (by decide) (backOf (W := 0) (rm8_in l Z a0 hw [] t2 T82.heap n0 O82 lo_2 hi_2) hZ4 (hW 77 _ rfl) (hW 76 _ rfl) (by decide) (by decide)) (g := (mkF m 182 #[.val (.long q1), .second, .val (.long q2), .second, .val (.int p3), .val (.long t2), .second, .val (.ref md), .val (.ref b1), .val (.ref b3), .val (.ref b5), .val (.int (1 : Int32)), .val (.int (0 : Int32)), .val (.int (0 : Int32)), .val (.int (0 : Int32)), .val (.int (1 : Int32)), .val (.int (0 : Int32)), .val (.int (0 : Int32)), .unset] [(.long t2)])) rfl (by rw [hml]; rfl) (argsL := [(.long t2)]) (rest := []) (lenOf pd_5 rfl) rfl (by show 2 * 0 + _ ≤ _; exact Nat.le_of_eq rfl) (hb hby at_182) (fun _ _ => ⟨rfl, eh99, (by decide : 8 + 0 ≤ _), (by decide : 130 + 0 ≤ _)⟩)
          dsimp only [Pt.U, Pt.locs, Pt.cells, Pt.slots] at X101 l101 y101 z101 st101 hQ101
          subst l101 y101 z101
          obtain ⟨rfl, Nq101, eh101⟩ := hQ101
          have N101 := Fr.app N99 Nq101
          refine own_ofw st101 ?_
          show own_gw p e below s _ _ _ (T101.setTop (mkF m 185 #[.val (.long q1), .second, .val (.long q2), .second, .val (.int p3), .val (.long t2), .second, .val (.ref md), .val (.ref b1), .val (.ref b3), .val (.ref b5), .val (.int (1 : Int32)), .val (.int (0 : Int32)), .val (.int (0 : Int32)), .val (.int (0 : Int32)), .val (.int (1 : Int32)), .val (.int (0 : Int32)), .val (.int (0 : Int32)), .unset] [(.int (1 : Int32))]))
          have hb185_102 : ¬ ((1 : Int32) = (0 : Int32)) := by decide
          refine own_ofw (fun tt_ => XS.ifYes X101.here hx rfl (pc0 := 185) (pc' := 192) rfl (hb hby at_185) rfl ((if0 _ _).trans (feq hb185_102).2) (by decide) (by decide)) ?_
          show own_gw p e below s _ _ _ (T101.setTop (mkF m 192 #[.val (.long q1), .second, .val (.long q2), .second, .val (.int p3), .val (.long t2), .second, .val (.ref md), .val (.ref b1), .val (.ref b3), .val (.ref b5), .val (.int (1 : Int32)), .val (.int (0 : Int32)), .val (.int (0 : Int32)), .val (.int (0 : Int32)), .val (.int (1 : Int32)), .val (.int (0 : Int32)), .val (.int (0 : Int32)), .unset] []))
          refine own_ofw (fun tt_ => XS.iconst X101.here hx rfl (hb hby at_192)) ?_
          show own_gw p e below s _ _ _ (T101.setTop (mkF m 193 #[.val (.long q1), .second, .val (.long q2), .second, .val (.int p3), .val (.long t2), .second, .val (.ref md), .val (.ref b1), .val (.ref b3), .val (.ref b5), .val (.int (1 : Int32)), .val (.int (0 : Int32)), .val (.int (0 : Int32)), .val (.int (0 : Int32)), .val (.int (1 : Int32)), .val (.int (0 : Int32)), .val (.int (0 : Int32)), .unset] [(.int (0 : Int32))]))
          refine own_ofw (fun tt_ => XS.istore X101.here hx rfl (hb hby at_193) rfl (l' := #[.val (.long q1), .second, .val (.long q2), .second, .val (.int p3), .val (.long t2), .second, .val (.ref md), .val (.ref b1), .val (.ref b3), .val (.ref b5), .val (.int (1 : Int32)), .val (.int (0 : Int32)), .val (.int (0 : Int32)), .val (.int (0 : Int32)), .val (.int (1 : Int32)), .val (.int (0 : Int32)), .val (.int (0 : Int32)), .val (.int (0 : Int32))]) rfl) ?_
          show own_gw p e below s _ _ _ (T101.setTop (mkF m 195 #[.val (.long q1), .second, .val (.long q2), .second, .val (.int p3), .val (.long t2), .second, .val (.ref md), .val (.ref b1), .val (.ref b3), .val (.ref b5), .val (.int (1 : Int32)), .val (.int (0 : Int32)), .val (.int (0 : Int32)), .val (.int (0 : Int32)), .val (.int (1 : Int32)), .val (.int (0 : Int32)), .val (.int (0 : Int32)), .val (.int (0 : Int32))] []))
          refine own_ofw (fun tt_ => XS.iload X101.here hx rfl (hb hby at_195) rfl) ?_
          show own_gw p e below s _ _ _ (T101.setTop (mkF m 197 #[.val (.long q1), .second, .val (.long q2), .second, .val (.int p3), .val (.long t2), .second, .val (.ref md), .val (.ref b1), .val (.ref b3), .val (.ref b5), .val (.int (1 : Int32)), .val (.int (0 : Int32)), .val (.int (0 : Int32)), .val (.int (0 : Int32)), .val (.int (1 : Int32)), .val (.int (0 : Int32)), .val (.int (0 : Int32)), .val (.int (0 : Int32))] [(.int (1 : Int32))]))
          refine own_ofw (fun tt_ => XS.iload X101.here hx rfl (hb hby at_197) rfl) ?_
          show own_gw p e below s _ _ _ (T101.setTop (mkF m 199 #[.val (.long q1), .second, .val (.long q2), .second, .val (.int p3), .val (.long t2), .second, .val (.ref md), .val (.ref b1), .val (.ref b3), .val (.ref b5), .val (.int (1 : Int32)), .val (.int (0 : Int32)), .val (.int (0 : Int32)), .val (.int (0 : Int32)), .val (.int (1 : Int32)), .val (.int (0 : Int32)), .val (.int (0 : Int32)), .val (.int (0 : Int32))] [(.int (1 : Int32)), (.int (1 : Int32))]))
          have hb199_103 : (1 : Int32) = (1 : Int32) := by decide
          refine own_ofw (fun tt_ => XS.icmpNo X101.here hx rfl (hb hby at_199) rfl (teq hb199_103).2) ?_
          show own_gw p e below s _ _ _ (T101.setTop (mkF m 202 #[.val (.long q1), .second, .val (.long q2), .second, .val (.int p3), .val (.long t2), .second, .val (.ref md), .val (.ref b1), .val (.ref b3), .val (.ref b5), .val (.int (1 : Int32)), .val (.int (0 : Int32)), .val (.int (0 : Int32)), .val (.int (0 : Int32)), .val (.int (1 : Int32)), .val (.int (0 : Int32)), .val (.int (0 : Int32)), .val (.int (0 : Int32))] []))
          refine own_ofw (fun tt_ => XS.iload X101.here hx rfl (hb hby at_202) rfl) ?_
          show own_gw p e below s _ _ _ (T101.setTop (mkF m 204 #[.val (.long q1), .second, .val (.long q2), .second, .val (.int p3), .val (.long t2), .second, .val (.ref md), .val (.ref b1), .val (.ref b3), .val (.ref b5), .val (.int (1 : Int32)), .val (.int (0 : Int32)), .val (.int (0 : Int32)), .val (.int (0 : Int32)), .val (.int (1 : Int32)), .val (.int (0 : Int32)), .val (.int (0 : Int32)), .val (.int (0 : Int32))] [(.int (0 : Int32))]))
          refine own_ofw (fun tt_ => XS.iload X101.here hx rfl (hb hby at_204) rfl) ?_
          show own_gw p e below s _ _ _ (T101.setTop (mkF m 206 #[.val (.long q1), .second, .val (.long q2), .second, .val (.int p3), .val (.long t2), .second, .val (.ref md), .val (.ref b1), .val (.ref b3), .val (.ref b5), .val (.int (1 : Int32)), .val (.int (0 : Int32)), .val (.int (0 : Int32)), .val (.int (0 : Int32)), .val (.int (1 : Int32)), .val (.int (0 : Int32)), .val (.int (0 : Int32)), .val (.int (0 : Int32))] [(.int (0 : Int32)), (.int (0 : Int32))]))
          have hb206_104 : (0 : Int32) = (0 : Int32) := by decide
          refine own_ofw (fun tt_ => XS.icmpNo X101.here hx rfl (hb hby at_206) rfl (teq hb206_104).2) ?_
          show own_gw p e below s _ _ _ (T101.setTop (mkF m 209 #[.val (.long q1), .second, .val (.long q2), .second, .val (.int p3), .val (.long t2), .second, .val (.ref md), .val (.ref b1), .val (.ref b3), .val (.ref b5), .val (.int (1 : Int32)), .val (.int (0 : Int32)), .val (.int (0 : Int32)), .val (.int (0 : Int32)), .val (.int (1 : Int32)), .val (.int (0 : Int32)), .val (.int (0 : Int32)), .val (.int (0 : Int32))] []))
          refine own_ofw (fun tt_ => XS.iload X101.here hx rfl (hb hby at_209) rfl) ?_
          show own_gw p e below s _ _ _ (T101.setTop (mkF m 211 #[.val (.long q1), .second, .val (.long q2), .second, .val (.int p3), .val (.long t2), .second, .val (.ref md), .val (.ref b1), .val (.ref b3), .val (.ref b5), .val (.int (1 : Int32)), .val (.int (0 : Int32)), .val (.int (0 : Int32)), .val (.int (0 : Int32)), .val (.int (1 : Int32)), .val (.int (0 : Int32)), .val (.int (0 : Int32)), .val (.int (0 : Int32))] [(.int (0 : Int32))]))
          refine own_ofw (fun tt_ => XS.iload X101.here hx rfl (hb hby at_211) rfl) ?_
          show own_gw p e below s _ _ _ (T101.setTop (mkF m 213 #[.val (.long q1), .second, .val (.long q2), .second, .val (.int p3), .val (.long t2), .second, .val (.ref md), .val (.ref b1), .val (.ref b3), .val (.ref b5), .val (.int (1 : Int32)), .val (.int (0 : Int32)), .val (.int (0 : Int32)), .val (.int (0 : Int32)), .val (.int (1 : Int32)), .val (.int (0 : Int32)), .val (.int (0 : Int32)), .val (.int (0 : Int32))] [(.int (0 : Int32)), (.int (0 : Int32))]))
          have hb213_105 : (0 : Int32) = (0 : Int32) := by decide
          refine own_ofw (fun tt_ => XS.icmpNo X101.here hx rfl (hb hby at_213) rfl (teq hb213_105).2) ?_
          show own_gw p e below s _ _ _ (T101.setTop (mkF m 216 #[.val (.long q1), .second, .val (.long q2), .second, .val (.int p3), .val (.long t2), .second, .val (.ref md), .val (.ref b1), .val (.ref b3), .val (.ref b5), .val (.int (1 : Int32)), .val (.int (0 : Int32)), .val (.int (0 : Int32)), .val (.int (0 : Int32)), .val (.int (1 : Int32)), .val (.int (0 : Int32)), .val (.int (0 : Int32)), .val (.int (0 : Int32))] []))
          refine own_ofw (fun tt_ => XS.iload X101.here hx rfl (hb hby at_216) rfl) ?_
          show own_gw p e below s _ _ _ (T101.setTop (mkF m 218 #[.val (.long q1), .second, .val (.long q2), .second, .val (.int p3), .val (.long t2), .second, .val (.ref md), .val (.ref b1), .val (.ref b3), .val (.ref b5), .val (.int (1 : Int32)), .val (.int (0 : Int32)), .val (.int (0 : Int32)), .val (.int (0 : Int32)), .val (.int (1 : Int32)), .val (.int (0 : Int32)), .val (.int (0 : Int32)), .val (.int (0 : Int32))] [(.int (0 : Int32))]))
          refine own_ofw (fun tt_ => XS.iload X101.here hx rfl (hb hby at_218) rfl) ?_
          show own_gw p e below s _ _ _ (T101.setTop (mkF m 220 #[.val (.long q1), .second, .val (.long q2), .second, .val (.int p3), .val (.long t2), .second, .val (.ref md), .val (.ref b1), .val (.ref b3), .val (.ref b5), .val (.int (1 : Int32)), .val (.int (0 : Int32)), .val (.int (0 : Int32)), .val (.int (0 : Int32)), .val (.int (1 : Int32)), .val (.int (0 : Int32)), .val (.int (0 : Int32)), .val (.int (0 : Int32))] [(.int (0 : Int32)), (.int (0 : Int32))]))
          have hb220_106 : (0 : Int32) = (0 : Int32) := by decide
          refine own_ofw (fun tt_ => XS.icmpNo X101.here hx rfl (hb hby at_220) rfl (teq hb220_106).2) ?_
          show own_gw p e below s _ _ _ (T101.setTop (mkF m 223 #[.val (.long q1), .second, .val (.long q2), .second, .val (.int p3), .val (.long t2), .second, .val (.ref md), .val (.ref b1), .val (.ref b3), .val (.ref b5), .val (.int (1 : Int32)), .val (.int (0 : Int32)), .val (.int (0 : Int32)), .val (.int (0 : Int32)), .val (.int (1 : Int32)), .val (.int (0 : Int32)), .val (.int (0 : Int32)), .val (.int (0 : Int32))] []))
          refine own_ofw (fun tt_ => XS.iconst X101.here hx rfl (hb hby at_223)) ?_
          show own_gw p e below s _ _ _ (T101.setTop (mkF m 224 #[.val (.long q1), .second, .val (.long q2), .second, .val (.int p3), .val (.long t2), .second, .val (.ref md), .val (.ref b1), .val (.ref b3), .val (.ref b5), .val (.int (1 : Int32)), .val (.int (0 : Int32)), .val (.int (0 : Int32)), .val (.int (0 : Int32)), .val (.int (1 : Int32)), .val (.int (0 : Int32)), .val (.int (0 : Int32)), .val (.int (0 : Int32))] [(.int (1 : Int32))]))
          refine own_ofw (fun tt_ => XS.goto X101.here hx rfl (pc0 := 224) (pc' := 228) rfl (hb hby at_224) (by decide) (by decide)) ?_
          show own_gw p e below s _ _ _ (T101.setTop (mkF m 228 #[.val (.long q1), .second, .val (.long q2), .second, .val (.int p3), .val (.long t2), .second, .val (.ref md), .val (.ref b1), .val (.ref b3), .val (.ref b5), .val (.int (1 : Int32)), .val (.int (0 : Int32)), .val (.int (0 : Int32)), .val (.int (0 : Int32)), .val (.int (1 : Int32)), .val (.int (0 : Int32)), .val (.int (0 : Int32)), .val (.int (0 : Int32))] [(.int (1 : Int32))]))
          refine own_retw X101 hx hlk hS4 (by rw [eh101]; omega : T4.heap.size ≤ T101.heap.size) Bd.returns rfl (Or.inl ⟨rfl, by simp, _, rfl⟩) (hb hby at_228) (by decide) (by decide) ?_
          rw [eh101]
          exact ⟨rfl, N101⟩
        · show own_gw p e below s _ _ _ (T6.setTop (mkF m 105 #[.val (.long q1), .second, .val (.long q2), .second, .val (.int p3), .val (.long t2), .second, .val (.ref md), .val (.ref b1), .val (.ref b3), .val (.ref b5), .unset, .unset, .unset, .unset, .unset, .unset, .unset, .unset] []))
          refine own_ofw (fun tt_ => XS.aload X6.here hx rfl (hb hby at_105) rfl rfl) ?_
          show own_gw p e below s _ _ _ (T6.setTop (mkF m 107 #[.val (.long q1), .second, .val (.long q2), .second, .val (.int p3), .val (.long t2), .second, .val (.ref md), .val (.ref b1), .val (.ref b3), .val (.ref b5), .unset, .unset, .unset, .unset, .unset, .unset, .unset, .unset] [(.ref b5)]))
          refine own_ofw (fun tt_ => XS.aload X6.here hx rfl (hb hby at_107) rfl rfl) ?_
          show own_gw p e below s _ _ _ (T6.setTop (mkF m 109 #[.val (.long q1), .second, .val (.long q2), .second, .val (.int p3), .val (.long t2), .second, .val (.ref md), .val (.ref b1), .val (.ref b3), .val (.ref b5), .unset, .unset, .unset, .unset, .unset, .unset, .unset, .unset] [(.ref b1), (.ref b5)]))
          have f107 : Exa Z T6.heap b1 "com/example/plumeline/plumeline/AsmSample" := (((((A1.keep Kp2).ext E3).keep Kp4).ext E5).keep Kp6)
          have f108 : Fld Z T6.heap b1 "com/example/plumeline/plumeline/AsmSample" "tS" "J" (.long q1) := ((((Ft2.ext E3).keep Kp4 (ninS (own_ne (by omega)) nin0)).ext E5).keep Kp6 (ninS (own_ne (by omega)) nin0))
          have at109 : ((List.replicate 75 Value.null) : List Value).getD (q1.toInt - 16).toNat Value.null = Value.null := by
            exact own_rep _
          have f111 : Exa Z T6.heap b5 "com/example/plumeline/plumeline/LoadedMode$Trace" := (A5.keep Kp6)
          obtain ⟨cq110, kq110, q110a, q110b, q110c⟩ := isOf hZ4 rfl f111
          obtain ⟨_, _, ⟨T110, L110, k110, n110⟩, -, X110, ⟨Lc110, hQ110, l110, y110, z110⟩, st110⟩ := X6.virtualBack hx (y := (⟨"com/example/plumeline/plumeline/LoadedMode$Trace", "add", "(Lcom/example/plumeline/plumeline/AsmSample;)Z"⟩ : MethodName)) (z := (⟨"com/example/plumeline/plumeline/LoadedMode$Trace", "add", "(Lcom/example/plumeline/plumeline/AsmSample;)Z"⟩ : MethodName)) hown4 (mvT hZ4 (hW 63 _ rfl)) (mvT hZ4 (hW 64 _ rfl)) (notFace_of_selects (args := #[]) (mvT hZ4 (hW 66 _ rfl))) (mvT hZ4 (hW 66 _ rfl)) (mvT hZ4 (hW 65 _ rfl)) (by decide) (backOf (W := 0) (rm6_n l Z a0 hw [] b5 b1 q1 bs6 ks6 (List.replicate 75 Value.null) 0 T6.heap n0 O6 f107 f108 Fs6 Vs6 Ov6 hl6 (by omega) lo_1 hi_1 at109) hZ4 (hW 67 _ rfl) (hW 54 _ rfl) (by decide) (by decide)) q110a q110c (g := (mkF m 109 #[.val (.long q1), .second, .val (.long q2), .second, .val (.int p3), .val (.long t2), .second, .val (.ref md), .val (.ref b1), .val (.ref b3), .val (.ref b5), .unset, .unset, .unset, .unset, .unset, .unset, .unset, .unset] [(.ref b1), (.ref b5)])) rfl (by rw [hml]; rfl) (Steps.refl _) (argsL := [(.ref b1)]) (rest := []) (lenOf pd_4 rfl) rfl (by show 2 * 0 + _ ≤ _; exact Nat.le_of_eq rfl) (hb hby at_109) (fun _ _ => ⟨rfl, rfl, (by decide : 8 + 0 ≤ _), (by decide : 130 + 0 ≤ _)⟩)
          dsimp only [Pt.U, Pt.locs, Pt.cells, Pt.slots] at X110 l110 y110 z110 st110 hQ110
          subst l110 y110 z110
          obtain ⟨rfl, Nq110, Kp110, Vn110⟩ := hQ110
          have N110 := Fr.app N6 Nq110
          refine own_ofw (fun tt_ kk_ => st110.trans kk_) ?_
          have sz110 : T6.heap.size ≤ T110.heap.size := Kp110.1
          have O110 : Old Z n0 T110.heap := O6.keep Kp110 (allS (by omega) all0)
          have hl110 : (((List.replicate 75 Value.null).set (q1.toInt - 16).toNat (.ref b1)) : List Value).length = 75 := by rw [List.length_set]; exact hl6
          show own_gw p e below s _ _ _ (T110.setTop (mkF m 112 #[.val (.long q1), .second, .val (.long q2), .second, .val (.int p3), .val (.long t2), .second, .val (.ref md), .val (.ref b1), .val (.ref b3), .val (.ref b5), .unset, .unset, .unset, .unset, .unset, .unset, .unset, .unset] [(.int (1 : Int32))]))
          refine own_ofw (fun tt_ => XS.istore X110.here hx rfl (hb hby at_112) rfl (l' := #[.val (.long q1), .second, .val (.long q2), .second, .val (.int p3), .val (.long t2), .second, .val (.ref md), .val (.ref b1), .val (.ref b3), .val (.ref b5), .val (.int (1 : Int32)), .unset, .unset, .unset, .unset, .unset, .unset, .unset]) rfl) ?_
          show own_gw p e below s _ _ _ (T110.setTop (mkF m 114 #[.val (.long q1), .second, .val (.long q2), .second, .val (.int p3), .val (.long t2), .second, .val (.ref md), .val (.ref b1), .val (.ref b3), .val (.ref b5), .val (.int (1 : Int32)), .unset, .unset, .unset, .unset, .unset, .unset, .unset] []))
          refine own_ofw (fun tt_ => XS.aload X110.here hx rfl (hb hby at_114) rfl rfl) ?_
          show own_gw p e below s _ _ _ (T110.setTop (mkF m 116 #[.val (.long q1), .second, .val (.long q2), .second, .val (.int p3), .val (.long t2), .second, .val (.ref md), .val (.ref b1), .val (.ref b3), .val (.ref b5), .val (.int (1 : Int32)), .unset, .unset, .unset, .unset, .unset, .unset, .unset] [(.ref b5)]))
          refine own_ofw (fun tt_ => XS.aload X110.here hx rfl (hb hby at_116) rfl rfl) ?_
          show own_gw p e below s _ _ _ (T110.setTop (mkF m 118 #[.val (.long q1), .second, .val (.long q2), .second, .val (.int p3), .val (.long t2), .second, .val (.ref md), .val (.ref b1), .val (.ref b3), .val (.ref b5), .val (.int (1 : Int32)), .unset, .unset, .unset, .unset, .unset, .unset, .unset] [(.ref b3), (.ref b5)]))
          have f112 : Exa Z T110.heap b3 "com/example/plumeline/plumeline/AsmSample" := ((((A3.keep Kp4).ext E5).keep Kp6).keep Kp110)
          have f113 : Fld Z T110.heap b3 "com/example/plumeline/plumeline/AsmSample" "tS" "J" (.long t2) := (((Ft4.ext E5).keep Kp6 (ninS (own_ne (by omega)) nin0)).keep Kp110 (ninS (own_ne (by omega)) nin0))
          have f114 : Fld Z T110.heap b5 "com/example/plumeline/plumeline/LoadedMode$Trace" "samples" "[Lcom/example/plumeline/plumeline/AsmSample;" (.ref bs6) := (Fs6.keep Kp110 (ninS (own_ne (by omega)) nin0))
          have at115 : (((List.replicate 75 Value.null).set (q1.toInt - 16).toNat (.ref b1)) : List Value).getD (t2.toInt - 16).toNat Value.null = Value.null := by
            rw [own_setNe _ _ _ _ _ (own_far lo_1 lo_2 (Ne.symm eq))]
            exact own_rep _
          have f117 : Exa Z T110.heap b5 "com/example/plumeline/plumeline/LoadedMode$Trace" := (f111.keep Kp110)
          obtain ⟨cq116, kq116, q116a, q116b, q116c⟩ := isOf hZ4 rfl f117
          obtain ⟨_, _, ⟨T116, L116, k116, n116⟩, -, X116, ⟨Lc116, hQ116, l116, y116, z116⟩, st116⟩ := X110.virtualBack hx (y := (⟨"com/example/plumeline/plumeline/LoadedMode$Trace", "add", "(Lcom/example/plumeline/plumeline/AsmSample;)Z"⟩ : MethodName)) (z := (⟨"com/example/plumeline/plumeline/LoadedMode$Trace", "add", "(Lcom/example/plumeline/plumeline/AsmSample;)Z"⟩ : MethodName)) hown4 (mvT hZ4 (hW 63 _ rfl)) (mvT hZ4 (hW 64 _ rfl)) (notFace_of_selects (args := #[]) (mvT hZ4 (hW 66 _ rfl))) (mvT hZ4 (hW 66 _ rfl)) (mvT hZ4 (hW 65 _ rfl)) (by decide) (backOf (W := 0) (rm6_n l Z a0 hw [] b5 b3 t2 bs6 ks6 ((List.replicate 75 Value.null).set (q1.toInt - 16).toNat (.ref b1)) 0 T110.heap n0 O110 f112 f113 f114 Vn110 Ov6 hl110 (by omega) lo_2 hi_2 at115) hZ4 (hW 67 _ rfl) (hW 54 _ rfl) (by decide) (by decide)) q116a q116c (g := (mkF m 118 #[.val (.long q1), .second, .val (.long q2), .second, .val (.int p3), .val (.long t2), .second, .val (.ref md), .val (.ref b1), .val (.ref b3), .val (.ref b5), .val (.int (1 : Int32)), .unset, .unset, .unset, .unset, .unset, .unset, .unset] [(.ref b3), (.ref b5)])) rfl (by rw [hml]; rfl) (Steps.refl _) (argsL := [(.ref b3)]) (rest := []) (lenOf pd_4 rfl) rfl (by show 2 * 0 + _ ≤ _; exact Nat.le_of_eq rfl) (hb hby at_118) (fun _ _ => ⟨rfl, rfl, (by decide : 8 + 0 ≤ _), (by decide : 130 + 0 ≤ _)⟩)
          dsimp only [Pt.U, Pt.locs, Pt.cells, Pt.slots] at X116 l116 y116 z116 st116 hQ116
          subst l116 y116 z116
          obtain ⟨rfl, Nq116, Kp116, Vn116⟩ := hQ116
          have N116 := Fr.app N110 Nq116
          refine own_ofw (fun tt_ kk_ => st116.trans kk_) ?_
          have sz116 : T110.heap.size ≤ T116.heap.size := Kp116.1
          have O116 : Old Z n0 T116.heap := O110.keep Kp116 (allS (by omega) all0)
          have hl116 : ((((List.replicate 75 Value.null).set (q1.toInt - 16).toNat (.ref b1)).set (t2.toInt - 16).toNat (.ref b3)) : List Value).length = 75 := by rw [List.length_set]; exact hl110
          show own_gw p e below s _ _ _ (T116.setTop (mkF m 121 #[.val (.long q1), .second, .val (.long q2), .second, .val (.int p3), .val (.long t2), .second, .val (.ref md), .val (.ref b1), .val (.ref b3), .val (.ref b5), .val (.int (1 : Int32)), .unset, .unset, .unset, .unset, .unset, .unset, .unset] [(.int (1 : Int32))]))
          refine own_ofw (fun tt_ => XS.istore X116.here hx rfl (hb hby at_121) rfl (l' := #[.val (.long q1), .second, .val (.long q2), .second, .val (.int p3), .val (.long t2), .second, .val (.ref md), .val (.ref b1), .val (.ref b3), .val (.ref b5), .val (.int (1 : Int32)), .val (.int (1 : Int32)), .unset, .unset, .unset, .unset, .unset, .unset]) rfl) ?_
          show own_gw p e below s _ _ _ (T116.setTop (mkF m 123 #[.val (.long q1), .second, .val (.long q2), .second, .val (.int p3), .val (.long t2), .second, .val (.ref md), .val (.ref b1), .val (.ref b3), .val (.ref b5), .val (.int (1 : Int32)), .val (.int (1 : Int32)), .unset, .unset, .unset, .unset, .unset, .unset] []))
          refine own_ofw (fun tt_ => XS.aload X116.here hx rfl (hb hby at_123) rfl rfl) ?_
          show own_gw p e below s _ _ _ (T116.setTop (mkF m 125 #[.val (.long q1), .second, .val (.long q2), .second, .val (.int p3), .val (.long t2), .second, .val (.ref md), .val (.ref b1), .val (.ref b3), .val (.ref b5), .val (.int (1 : Int32)), .val (.int (1 : Int32)), .unset, .unset, .unset, .unset, .unset, .unset] [(.ref b5)]))
          refine own_ofw (fun tt_ => XS.aload X116.here hx rfl (hb hby at_125) rfl rfl) ?_
          show own_gw p e below s _ _ _ (T116.setTop (mkF m 127 #[.val (.long q1), .second, .val (.long q2), .second, .val (.int p3), .val (.long t2), .second, .val (.ref md), .val (.ref b1), .val (.ref b3), .val (.ref b5), .val (.int (1 : Int32)), .val (.int (1 : Int32)), .unset, .unset, .unset, .unset, .unset, .unset] [(.ref b1), (.ref b5)]))
          have f118 : Exa Z T116.heap b1 "com/example/plumeline/plumeline/AsmSample" := ((f107.keep Kp110).keep Kp116)
          have f119 : Fld Z T116.heap b1 "com/example/plumeline/plumeline/AsmSample" "tS" "J" (.long q1) := ((f108.keep Kp110 (ninS (own_ne (by omega)) nin0)).keep Kp116 (ninS (own_ne (by omega)) nin0))
          have f120 : Fld Z T116.heap b5 "com/example/plumeline/plumeline/LoadedMode$Trace" "samples" "[Lcom/example/plumeline/plumeline/AsmSample;" (.ref bs6) := (f114.keep Kp116 (ninS (own_ne (by omega)) nin0))
          have at121 : ((((List.replicate 75 Value.null).set (q1.toInt - 16).toNat (.ref b1)).set (t2.toInt - 16).toNat (.ref b3)) : List Value).getD (q1.toInt - 16).toNat Value.null = Value.ref b1 := by
            rw [own_setNe _ _ _ _ _ (own_far lo_2 lo_1 eq)]
            exact own_setAt _ _ _ _ (by simpa using own_lt75 lo_1 hi_1)
          have f123 : Exa Z T116.heap b5 "com/example/plumeline/plumeline/LoadedMode$Trace" := (f117.keep Kp116)
          obtain ⟨cq122, kq122, q122a, q122b, q122c⟩ := isOf hZ4 rfl f123
          obtain ⟨_, _, ⟨T122, L122, k122, n122⟩, -, X122, ⟨Lc122, hQ122, l122, y122, z122⟩, st122⟩ := X116.virtualBack hx (y := (⟨"com/example/plumeline/plumeline/LoadedMode$Trace", "add", "(Lcom/example/plumeline/plumeline/AsmSample;)Z"⟩ : MethodName)) (z := (⟨"com/example/plumeline/plumeline/LoadedMode$Trace", "add", "(Lcom/example/plumeline/plumeline/AsmSample;)Z"⟩ : MethodName)) hown4 (mvT hZ4 (hW 63 _ rfl)) (mvT hZ4 (hW 64 _ rfl)) (notFace_of_selects (args := #[]) (mvT hZ4 (hW 66 _ rfl))) (mvT hZ4 (hW 66 _ rfl)) (mvT hZ4 (hW 65 _ rfl)) (by decide) (backOf (W := 0) (rm6_r l Z a0 hw [] b5 b1 q1 bs6 ks6 (((List.replicate 75 Value.null).set (q1.toInt - 16).toNat (.ref b1)).set (t2.toInt - 16).toNat (.ref b3)) b1 T116.heap n0 O116 f118 f119 f120 Vn116 Ov6 hl116 (by omega) lo_1 hi_1 at121) hZ4 (hW 67 _ rfl) (hW 54 _ rfl) (by decide) (by decide)) q122a q122c (g := (mkF m 127 #[.val (.long q1), .second, .val (.long q2), .second, .val (.int p3), .val (.long t2), .second, .val (.ref md), .val (.ref b1), .val (.ref b3), .val (.ref b5), .val (.int (1 : Int32)), .val (.int (1 : Int32)), .unset, .unset, .unset, .unset, .unset, .unset] [(.ref b1), (.ref b5)])) rfl (by rw [hml]; rfl) (Steps.refl _) (argsL := [(.ref b1)]) (rest := []) (lenOf pd_4 rfl) rfl (by show 2 * 0 + _ ≤ _; exact Nat.le_of_eq rfl) (hb hby at_127) (fun _ _ => ⟨rfl, rfl, (by decide : 8 + 0 ≤ _), (by decide : 130 + 0 ≤ _)⟩)
          dsimp only [Pt.U, Pt.locs, Pt.cells, Pt.slots] at X122 l122 y122 z122 st122 hQ122
          subst l122 y122 z122
          obtain ⟨rfl, Nq122, eh122⟩ := hQ122
          have N122 := Fr.app N116 Nq122
          refine own_ofw (fun tt_ kk_ => st122.trans kk_) ?_
          show own_gw p e below s _ _ _ (T122.setTop (mkF m 130 #[.val (.long q1), .second, .val (.long q2), .second, .val (.int p3), .val (.long t2), .second, .val (.ref md), .val (.ref b1), .val (.ref b3), .val (.ref b5), .val (.int (1 : Int32)), .val (.int (1 : Int32)), .unset, .unset, .unset, .unset, .unset, .unset] [(.int (0 : Int32))]))
          refine own_ofw (fun tt_ => XS.istore X122.here hx rfl (hb hby at_130) rfl (l' := #[.val (.long q1), .second, .val (.long q2), .second, .val (.int p3), .val (.long t2), .second, .val (.ref md), .val (.ref b1), .val (.ref b3), .val (.ref b5), .val (.int (1 : Int32)), .val (.int (1 : Int32)), .val (.int (0 : Int32)), .unset, .unset, .unset, .unset, .unset]) rfl) ?_
          show own_gw p e below s _ _ _ (T122.setTop (mkF m 132 #[.val (.long q1), .second, .val (.long q2), .second, .val (.int p3), .val (.long t2), .second, .val (.ref md), .val (.ref b1), .val (.ref b3), .val (.ref b5), .val (.int (1 : Int32)), .val (.int (1 : Int32)), .val (.int (0 : Int32)), .unset, .unset, .unset, .unset, .unset] []))
          refine own_ofw (fun tt_ => XS.aload X122.here hx rfl (hb hby at_132) rfl rfl) ?_
          show own_gw p e below s _ _ _ (T122.setTop (mkF m 134 #[.val (.long q1), .second, .val (.long q2), .second, .val (.int p3), .val (.long t2), .second, .val (.ref md), .val (.ref b1), .val (.ref b3), .val (.ref b5), .val (.int (1 : Int32)), .val (.int (1 : Int32)), .val (.int (0 : Int32)), .unset, .unset, .unset, .unset, .unset] [(.ref b5)]))
          refine own_ofw (fun tt_ => XS.aload X122.here hx rfl (hb hby at_134) rfl rfl) ?_
          show own_gw p e below s _ _ _ (T122.setTop (mkF m 136 #[.val (.long q1), .second, .val (.long q2), .second, .val (.int p3), .val (.long t2), .second, .val (.ref md), .val (.ref b1), .val (.ref b3), .val (.ref b5), .val (.int (1 : Int32)), .val (.int (1 : Int32)), .val (.int (0 : Int32)), .unset, .unset, .unset, .unset, .unset] [(.ref b3), (.ref b5)]))
          have f124 : Exa Z T116.heap b3 "com/example/plumeline/plumeline/AsmSample" := (f112.keep Kp116)
          have f125 : Fld Z T116.heap b3 "com/example/plumeline/plumeline/AsmSample" "tS" "J" (.long t2) := (f113.keep Kp116 (ninS (own_ne (by omega)) nin0))
          have at126 : ((((List.replicate 75 Value.null).set (q1.toInt - 16).toNat (.ref b1)).set (t2.toInt - 16).toNat (.ref b3)) : List Value).getD (t2.toInt - 16).toNat Value.null = Value.ref b3 := by
            exact own_setAt _ _ _ _ (by simpa using own_lt75 lo_2 hi_2)
          obtain ⟨cq127, kq127, q127a, q127b, q127c⟩ := isOf hZ4 eh122 f123
          obtain ⟨_, _, ⟨T127, L127, k127, n127⟩, -, X127, ⟨Lc127, hQ127, l127, y127, z127⟩, st127⟩ := X122.virtualBack hx (y := (⟨"com/example/plumeline/plumeline/LoadedMode$Trace", "add", "(Lcom/example/plumeline/plumeline/AsmSample;)Z"⟩ : MethodName)) (z := (⟨"com/example/plumeline/plumeline/LoadedMode$Trace", "add", "(Lcom/example/plumeline/plumeline/AsmSample;)Z"⟩ : MethodName)) hown4 (mvT hZ4 (hW 63 _ rfl)) (mvT hZ4 (hW 64 _ rfl)) (notFace_of_selects (args := #[]) (mvT hZ4 (hW 66 _ rfl))) (mvT hZ4 (hW 66 _ rfl)) (mvT hZ4 (hW 65 _ rfl)) (by decide) (backOf (W := 0) (rm6_r l Z a0 hw [] b5 b3 t2 bs6 ks6 (((List.replicate 75 Value.null).set (q1.toInt - 16).toNat (.ref b1)).set (t2.toInt - 16).toNat (.ref b3)) b3 T116.heap n0 O116 f124 f125 f120 Vn116 Ov6 hl116 (by omega) lo_2 hi_2 at126) hZ4 (hW 67 _ rfl) (hW 54 _ rfl) (by decide) (by decide)) q127a q127c (g := (mkF m 136 #[.val (.long q1), .second, .val (.long q2), .second, .val (.int p3), .val (.long t2), .second, .val (.ref md), .val (.ref b1), .val (.ref b3), .val (.ref b5), .val (.int (1 : Int32)), .val (.int (1 : Int32)), .val (.int (0 : Int32)), .unset, .unset, .unset, .unset, .unset] [(.ref b3), (.ref b5)])) rfl (by rw [hml]; rfl) (Steps.refl _) (argsL := [(.ref b3)]) (rest := []) (lenOf pd_4 rfl) rfl (by show 2 * 0 + _ ≤ _; exact Nat.le_of_eq rfl) (hb hby at_136) (fun _ _ => ⟨rfl, eh122, (by decide : 8 + 0 ≤ _), (by decide : 130 + 0 ≤ _)⟩)
          dsimp only [Pt.U, Pt.locs, Pt.cells, Pt.slots] at X127 l127 y127 z127 st127 hQ127
          subst l127 y127 z127
          obtain ⟨rfl, Nq127, eh127⟩ := hQ127
          have N127 := Fr.app N122 Nq127
          refine own_ofw (fun tt_ kk_ => st127.trans kk_) ?_
          show own_gw p e below s _ _ _ (T127.setTop (mkF m 139 #[.val (.long q1), .second, .val (.long q2), .second, .val (.int p3), .val (.long t2), .second, .val (.ref md), .val (.ref b1), .val (.ref b3), .val (.ref b5), .val (.int (1 : Int32)), .val (.int (1 : Int32)), .val (.int (0 : Int32)), .unset, .unset, .unset, .unset, .unset] [(.int (0 : Int32))]))
          refine own_ofw (fun tt_ => XS.istore X127.here hx rfl (hb hby at_139) rfl (l' := #[.val (.long q1), .second, .val (.long q2), .second, .val (.int p3), .val (.long t2), .second, .val (.ref md), .val (.ref b1), .val (.ref b3), .val (.ref b5), .val (.int (1 : Int32)), .val (.int (1 : Int32)), .val (.int (0 : Int32)), .val (.int (0 : Int32)), .unset, .unset, .unset, .unset]) rfl) ?_
          show own_gw p e below s _ _ _ (T127.setTop (mkF m 141 #[.val (.long q1), .second, .val (.long q2), .second, .val (.int p3), .val (.long t2), .second, .val (.ref md), .val (.ref b1), .val (.ref b3), .val (.ref b5), .val (.int (1 : Int32)), .val (.int (1 : Int32)), .val (.int (0 : Int32)), .val (.int (0 : Int32)), .unset, .unset, .unset, .unset] []))
          refine own_ofw (fun tt_ => XS.iconst X127.here hx rfl (hb hby at_141)) ?_
          show own_gw p e below s _ _ _ (T127.setTop (mkF m 142 #[.val (.long q1), .second, .val (.long q2), .second, .val (.int p3), .val (.long t2), .second, .val (.ref md), .val (.ref b1), .val (.ref b3), .val (.ref b5), .val (.int (1 : Int32)), .val (.int (1 : Int32)), .val (.int (0 : Int32)), .val (.int (0 : Int32)), .unset, .unset, .unset, .unset] [(.int (1 : Int32))]))
          refine own_ofw (fun tt_ => XS.istore X127.here hx rfl (hb hby at_142) rfl (l' := #[.val (.long q1), .second, .val (.long q2), .second, .val (.int p3), .val (.long t2), .second, .val (.ref md), .val (.ref b1), .val (.ref b3), .val (.ref b5), .val (.int (1 : Int32)), .val (.int (1 : Int32)), .val (.int (0 : Int32)), .val (.int (0 : Int32)), .val (.int (1 : Int32)), .unset, .unset, .unset]) rfl) ?_
          show own_gw p e below s _ _ _ (T127.setTop (mkF m 144 #[.val (.long q1), .second, .val (.long q2), .second, .val (.int p3), .val (.long t2), .second, .val (.ref md), .val (.ref b1), .val (.ref b3), .val (.ref b5), .val (.int (1 : Int32)), .val (.int (1 : Int32)), .val (.int (0 : Int32)), .val (.int (0 : Int32)), .val (.int (1 : Int32)), .unset, .unset, .unset] []))
          refine own_ofw (fun tt_ => XS.lload X127.here hx rfl (hb hby at_144) rfl) ?_
          show own_gw p e below s _ _ _ (T127.setTop (mkF m 146 #[.val (.long q1), .second, .val (.long q2), .second, .val (.int p3), .val (.long t2), .second, .val (.ref md), .val (.ref b1), .val (.ref b3), .val (.ref b5), .val (.int (1 : Int32)), .val (.int (1 : Int32)), .val (.int (0 : Int32)), .val (.int (0 : Int32)), .val (.int (1 : Int32)), .unset, .unset, .unset] [(.long t2)]))
          obtain ⟨_, _, ⟨T128, L128, k128, n128⟩, -, X128, ⟨Lc128, hQ128, l128, y128, z128⟩, st128⟩ := Jvm.LawKit.callS X127 hx (y := (⟨"com/example/plumeline/plumeline/TraceAddPinLaw", "inWindow", "(J)Z"⟩ : MethodName)) hown4 (mvT hZ4 (hW 74 _ rfl)) (mvT hZ4 (hW 75 _ rfl)) (mvT hZ4 (hW 76 _ rfl)) (mvT hZ4 (hW 77 _ rfl)) (by decide) (backOf (W := 0) (rm8_in l Z a0 hw [] t2 T116.heap n0 O116 lo_2 hi_2) hZ4 (hW 77 _ rfl) (hW 76 _ rfl) (by decide) (by decide)) (g := (mkF m 146 #[.val (.long q1), .second, .val (.long q2), .second, .val (.int p3), .val (.long t2), .second, .val (.ref md), .val (.ref b1), .val (.ref b3), .val (.ref b5), .val (.int (1 : Int32)), .val (.int (1 : Int32)), .val (.int (0 : Int32)), .val (.int (0 : Int32)), .val (.int (1 : Int32)), .unset, .unset, .unset] [(.long t2)])) rfl (by rw [hml]; rfl) (argsL := [(.long t2)]) (rest := []) (lenOf pd_5 rfl) rfl (by show 2 * 0 + _ ≤ _; exact Nat.le_of_eq rfl) (hb hby at_146) (fun _ _ => ⟨rfl, eh127, (by decide : 8 + 0 ≤ _), (by decide : 130 + 0 ≤ _)⟩)
          dsimp only [Pt.U, Pt.locs, Pt.cells, Pt.slots] at X128 l128 y128 z128 st128 hQ128
          subst l128 y128 z128
          obtain ⟨rfl, Nq128, eh128⟩ := hQ128
          have N128 := Fr.app N127 Nq128
          refine own_ofw st128 ?_
          show own_gw p e below s _ _ _ (T128.setTop (mkF m 149 #[.val (.long q1), .second, .val (.long q2), .second, .val (.int p3), .val (.long t2), .second, .val (.ref md), .val (.ref b1), .val (.ref b3), .val (.ref b5), .val (.int (1 : Int32)), .val (.int (1 : Int32)), .val (.int (0 : Int32)), .val (.int (0 : Int32)), .val (.int (1 : Int32)), .unset, .unset, .unset] [(.int (1 : Int32))]))
          have hb149_129 : ¬ ((1 : Int32) = (0 : Int32)) := by decide
          refine own_ofw (fun tt_ => XS.ifNo X128.here hx rfl (hb hby at_149) rfl ((if0 _ _).trans (feq hb149_129).1)) ?_
          show own_gw p e below s _ _ _ (T128.setTop (mkF m 152 #[.val (.long q1), .second, .val (.long q2), .second, .val (.int p3), .val (.long t2), .second, .val (.ref md), .val (.ref b1), .val (.ref b3), .val (.ref b5), .val (.int (1 : Int32)), .val (.int (1 : Int32)), .val (.int (0 : Int32)), .val (.int (0 : Int32)), .val (.int (1 : Int32)), .unset, .unset, .unset] []))
          refine own_ofw (fun tt_ => XS.lload X128.here hx rfl (hb hby at_152) rfl) ?_
          show own_gw p e below s _ _ _ (T128.setTop (mkF m 154 #[.val (.long q1), .second, .val (.long q2), .second, .val (.int p3), .val (.long t2), .second, .val (.ref md), .val (.ref b1), .val (.ref b3), .val (.ref b5), .val (.int (1 : Int32)), .val (.int (1 : Int32)), .val (.int (0 : Int32)), .val (.int (0 : Int32)), .val (.int (1 : Int32)), .unset, .unset, .unset] [(.long t2)]))
          refine own_ofw (fun tt_ => XS.lloadN X128.here hx rfl (hb hby at_154) rfl) ?_
          show own_gw p e below s _ _ _ (T128.setTop (mkF m 155 #[.val (.long q1), .second, .val (.long q2), .second, .val (.int p3), .val (.long t2), .second, .val (.ref md), .val (.ref b1), .val (.ref b3), .val (.ref b5), .val (.int (1 : Int32)), .val (.int (1 : Int32)), .val (.int (0 : Int32)), .val (.int (0 : Int32)), .val (.int (1 : Int32)), .unset, .unset, .unset] [(.long q1), (.long t2)]))
          refine own_ofw (fun tt_ => XS.lcmp X128.here hx rfl (hb hby at_155) rfl) ?_
          show own_gw p e below s _ _ _ (T128.setTop (mkF m 156 #[.val (.long q1), .second, .val (.long q2), .second, .val (.int p3), .val (.long t2), .second, .val (.ref md), .val (.ref b1), .val (.ref b3), .val (.ref b5), .val (.int (1 : Int32)), .val (.int (1 : Int32)), .val (.int (0 : Int32)), .val (.int (0 : Int32)), .val (.int (1 : Int32)), .unset, .unset, .unset] [(.int (lcmpW t2 q1))]))
          have hb156_130 : ¬ ((lcmpW t2 q1) = (0 : Int32)) := fun q => eq ((lw_eq _ _).mp q)
          refine own_ofw (fun tt_ => XS.ifNo X128.here hx rfl (hb hby at_156) rfl ((if0 _ _).trans (feq hb156_130).1)) ?_
          show own_gw p e below s _ _ _ (T128.setTop (mkF m 159 #[.val (.long q1), .second, .val (.long q2), .second, .val (.int p3), .val (.long t2), .second, .val (.ref md), .val (.ref b1), .val (.ref b3), .val (.ref b5), .val (.int (1 : Int32)), .val (.int (1 : Int32)), .val (.int (0 : Int32)), .val (.int (0 : Int32)), .val (.int (1 : Int32)), .unset, .unset, .unset] []))
          refine own_ofw (fun tt_ => XS.iconst X128.here hx rfl (hb hby at_159)) ?_
          show own_gw p e below s _ _ _ (T128.setTop (mkF m 160 #[.val (.long q1), .second, .val (.long q2), .second, .val (.int p3), .val (.long t2), .second, .val (.ref md), .val (.ref b1), .val (.ref b3), .val (.ref b5), .val (.int (1 : Int32)), .val (.int (1 : Int32)), .val (.int (0 : Int32)), .val (.int (0 : Int32)), .val (.int (1 : Int32)), .unset, .unset, .unset] [(.int (1 : Int32))]))
          refine own_ofw (fun tt_ => XS.goto X128.here hx rfl (pc0 := 160) (pc' := 164) rfl (hb hby at_160) (by decide) (by decide)) ?_
          show own_gw p e below s _ _ _ (T128.setTop (mkF m 164 #[.val (.long q1), .second, .val (.long q2), .second, .val (.int p3), .val (.long t2), .second, .val (.ref md), .val (.ref b1), .val (.ref b3), .val (.ref b5), .val (.int (1 : Int32)), .val (.int (1 : Int32)), .val (.int (0 : Int32)), .val (.int (0 : Int32)), .val (.int (1 : Int32)), .unset, .unset, .unset] [(.int (1 : Int32))]))
          refine own_ofw (fun tt_ => XS.istore X128.here hx rfl (hb hby at_164) rfl (l' := #[.val (.long q1), .second, .val (.long q2), .second, .val (.int p3), .val (.long t2), .second, .val (.ref md), .val (.ref b1), .val (.ref b3), .val (.ref b5), .val (.int (1 : Int32)), .val (.int (1 : Int32)), .val (.int (0 : Int32)), .val (.int (0 : Int32)), .val (.int (1 : Int32)), .val (.int (1 : Int32)), .unset, .unset]) rfl) ?_
          show own_gw p e below s _ _ _ (T128.setTop (mkF m 166 #[.val (.long q1), .second, .val (.long q2), .second, .val (.int p3), .val (.long t2), .second, .val (.ref md), .val (.ref b1), .val (.ref b3), .val (.ref b5), .val (.int (1 : Int32)), .val (.int (1 : Int32)), .val (.int (0 : Int32)), .val (.int (0 : Int32)), .val (.int (1 : Int32)), .val (.int (1 : Int32)), .unset, .unset] []))
          refine own_ofw (fun tt_ => XS.lloadN X128.here hx rfl (hb hby at_166) rfl) ?_
          show own_gw p e below s _ _ _ (T128.setTop (mkF m 167 #[.val (.long q1), .second, .val (.long q2), .second, .val (.int p3), .val (.long t2), .second, .val (.ref md), .val (.ref b1), .val (.ref b3), .val (.ref b5), .val (.int (1 : Int32)), .val (.int (1 : Int32)), .val (.int (0 : Int32)), .val (.int (0 : Int32)), .val (.int (1 : Int32)), .val (.int (1 : Int32)), .unset, .unset] [(.long q1)]))
          obtain ⟨_, _, ⟨T131, L131, k131, n131⟩, -, X131, ⟨Lc131, hQ131, l131, y131, z131⟩, st131⟩ := Jvm.LawKit.callS X128 hx (y := (⟨"com/example/plumeline/plumeline/TraceAddPinLaw", "inWindow", "(J)Z"⟩ : MethodName)) hown4 (mvT hZ4 (hW 74 _ rfl)) (mvT hZ4 (hW 75 _ rfl)) (mvT hZ4 (hW 76 _ rfl)) (mvT hZ4 (hW 77 _ rfl)) (by decide) (backOf (W := 0) (rm8_in l Z a0 hw [] q1 T116.heap n0 O116 lo_1 hi_1) hZ4 (hW 77 _ rfl) (hW 76 _ rfl) (by decide) (by decide)) (g := (mkF m 167 #[.val (.long q1), .second, .val (.long q2), .second, .val (.int p3), .val (.long t2), .second, .val (.ref md), .val (.ref b1), .val (.ref b3), .val (.ref b5), .val (.int (1 : Int32)), .val (.int (1 : Int32)), .val (.int (0 : Int32)), .val (.int (0 : Int32)), .val (.int (1 : Int32)), .val (.int (1 : Int32)), .unset, .unset] [(.long q1)])) rfl (by rw [hml]; rfl) (argsL := [(.long q1)]) (rest := []) (lenOf pd_5 rfl) rfl (by show 2 * 0 + _ ≤ _; exact Nat.le_of_eq rfl) (hb hby at_167) (fun _ _ => ⟨rfl, eh128, (by decide : 8 + 0 ≤ _), (by decide : 130 + 0 ≤ _)⟩)
          dsimp only [Pt.U, Pt.locs, Pt.cells, Pt.slots] at X131 l131 y131 z131 st131 hQ131
          subst l131 y131 z131
          obtain ⟨rfl, Nq131, eh131⟩ := hQ131
          have N131 := Fr.app N128 Nq131
          refine own_ofw st131 ?_
          show own_gw p e below s _ _ _ (T131.setTop (mkF m 170 #[.val (.long q1), .second, .val (.long q2), .second, .val (.int p3), .val (.long t2), .second, .val (.ref md), .val (.ref b1), .val (.ref b3), .val (.ref b5), .val (.int (1 : Int32)), .val (.int (1 : Int32)), .val (.int (0 : Int32)), .val (.int (0 : Int32)), .val (.int (1 : Int32)), .val (.int (1 : Int32)), .unset, .unset] [(.int (1 : Int32))]))
          have hb170_132 : ¬ ((1 : Int32) = (0 : Int32)) := by decide
          refine own_ofw (fun tt_ => XS.ifYes X131.here hx rfl (pc0 := 170) (pc' := 177) rfl (hb hby at_170) rfl ((if0 _ _).trans (feq hb170_132).2) (by decide) (by decide)) ?_
          show own_gw p e below s _ _ _ (T131.setTop (mkF m 177 #[.val (.long q1), .second, .val (.long q2), .second, .val (.int p3), .val (.long t2), .second, .val (.ref md), .val (.ref b1), .val (.ref b3), .val (.ref b5), .val (.int (1 : Int32)), .val (.int (1 : Int32)), .val (.int (0 : Int32)), .val (.int (0 : Int32)), .val (.int (1 : Int32)), .val (.int (1 : Int32)), .unset, .unset] []))
          refine own_ofw (fun tt_ => XS.iconst X131.here hx rfl (hb hby at_177)) ?_
          show own_gw p e below s _ _ _ (T131.setTop (mkF m 178 #[.val (.long q1), .second, .val (.long q2), .second, .val (.int p3), .val (.long t2), .second, .val (.ref md), .val (.ref b1), .val (.ref b3), .val (.ref b5), .val (.int (1 : Int32)), .val (.int (1 : Int32)), .val (.int (0 : Int32)), .val (.int (0 : Int32)), .val (.int (1 : Int32)), .val (.int (1 : Int32)), .unset, .unset] [(.int (0 : Int32))]))
          refine own_ofw (fun tt_ => XS.istore X131.here hx rfl (hb hby at_178) rfl (l' := #[.val (.long q1), .second, .val (.long q2), .second, .val (.int p3), .val (.long t2), .second, .val (.ref md), .val (.ref b1), .val (.ref b3), .val (.ref b5), .val (.int (1 : Int32)), .val (.int (1 : Int32)), .val (.int (0 : Int32)), .val (.int (0 : Int32)), .val (.int (1 : Int32)), .val (.int (1 : Int32)), .val (.int (0 : Int32)), .unset]) rfl) ?_
          show own_gw p e below s _ _ _ (T131.setTop (mkF m 180 #[.val (.long q1), .second, .val (.long q2), .second, .val (.int p3), .val (.long t2), .second, .val (.ref md), .val (.ref b1), .val (.ref b3), .val (.ref b5), .val (.int (1 : Int32)), .val (.int (1 : Int32)), .val (.int (0 : Int32)), .val (.int (0 : Int32)), .val (.int (1 : Int32)), .val (.int (1 : Int32)), .val (.int (0 : Int32)), .unset] []))
          refine own_ofw (fun tt_ => XS.lload X131.here hx rfl (hb hby at_180) rfl) ?_
          show own_gw p e below s _ _ _ (T131.setTop (mkF m 182 #[.val (.long q1), .second, .val (.long q2), .second, .val (.int p3), .val (.long t2), .second, .val (.ref md), .val (.ref b1), .val (.ref b3), .val (.ref b5), .val (.int (1 : Int32)), .val (.int (1 : Int32)), .val (.int (0 : Int32)), .val (.int (0 : Int32)), .val (.int (1 : Int32)), .val (.int (1 : Int32)), .val (.int (0 : Int32)), .unset] [(.long t2)]))
          obtain ⟨_, _, ⟨T133, L133, k133, n133⟩, -, X133, ⟨Lc133, hQ133, l133, y133, z133⟩, st133⟩ := Jvm.LawKit.callS X131 hx (y := (⟨"com/example/plumeline/plumeline/TraceAddPinLaw", "inWindow", "(J)Z"⟩ : MethodName)) hown4 (mvT hZ4 (hW 74 _ rfl)) (mvT hZ4 (hW 75 _ rfl)) (mvT hZ4 (hW 76 _ rfl)) (mvT hZ4 (hW 77 _ rfl)) (by decide) (backOf (W := 0) (rm8_in l Z a0 hw [] t2 T116.heap n0 O116 lo_2 hi_2) hZ4 (hW 77 _ rfl) (hW 76 _ rfl) (by decide) (by decide)) (g := (mkF m 182 #[.val (.long q1), .second, .val (.long q2), .second, .val (.int p3), .val (.long t2), .second, .val (.ref md), .val (.ref b1), .val (.ref b3), .val (.ref b5), .val (.int (1 : Int32)), .val (.int (1 : Int32)), .val (.int (0 : Int32)), .val (.int (0 : Int32)), .val (.int (1 : Int32)), .val (.int (1 : Int32)), .val (.int (0 : Int32)), .unset] [(.long t2)])) rfl (by rw [hml]; rfl) (argsL := [(.long t2)]) (rest := []) (lenOf pd_5 rfl) rfl (by show 2 * 0 + _ ≤ _; exact Nat.le_of_eq rfl) (hb hby at_182) (fun _ _ => ⟨rfl, eh131, (by decide : 8 + 0 ≤ _), (by decide : 130 + 0 ≤ _)⟩)
          dsimp only [Pt.U, Pt.locs, Pt.cells, Pt.slots] at X133 l133 y133 z133 st133 hQ133
          subst l133 y133 z133
          obtain ⟨rfl, Nq133, eh133⟩ := hQ133
          have N133 := Fr.app N131 Nq133
          refine own_ofw st133 ?_
          show own_gw p e below s _ _ _ (T133.setTop (mkF m 185 #[.val (.long q1), .second, .val (.long q2), .second, .val (.int p3), .val (.long t2), .second, .val (.ref md), .val (.ref b1), .val (.ref b3), .val (.ref b5), .val (.int (1 : Int32)), .val (.int (1 : Int32)), .val (.int (0 : Int32)), .val (.int (0 : Int32)), .val (.int (1 : Int32)), .val (.int (1 : Int32)), .val (.int (0 : Int32)), .unset] [(.int (1 : Int32))]))
          have hb185_134 : ¬ ((1 : Int32) = (0 : Int32)) := by decide
          refine own_ofw (fun tt_ => XS.ifYes X133.here hx rfl (pc0 := 185) (pc' := 192) rfl (hb hby at_185) rfl ((if0 _ _).trans (feq hb185_134).2) (by decide) (by decide)) ?_
          show own_gw p e below s _ _ _ (T133.setTop (mkF m 192 #[.val (.long q1), .second, .val (.long q2), .second, .val (.int p3), .val (.long t2), .second, .val (.ref md), .val (.ref b1), .val (.ref b3), .val (.ref b5), .val (.int (1 : Int32)), .val (.int (1 : Int32)), .val (.int (0 : Int32)), .val (.int (0 : Int32)), .val (.int (1 : Int32)), .val (.int (1 : Int32)), .val (.int (0 : Int32)), .unset] []))
          refine own_ofw (fun tt_ => XS.iconst X133.here hx rfl (hb hby at_192)) ?_
          show own_gw p e below s _ _ _ (T133.setTop (mkF m 193 #[.val (.long q1), .second, .val (.long q2), .second, .val (.int p3), .val (.long t2), .second, .val (.ref md), .val (.ref b1), .val (.ref b3), .val (.ref b5), .val (.int (1 : Int32)), .val (.int (1 : Int32)), .val (.int (0 : Int32)), .val (.int (0 : Int32)), .val (.int (1 : Int32)), .val (.int (1 : Int32)), .val (.int (0 : Int32)), .unset] [(.int (0 : Int32))]))
          refine own_ofw (fun tt_ => XS.istore X133.here hx rfl (hb hby at_193) rfl (l' := #[.val (.long q1), .second, .val (.long q2), .second, .val (.int p3), .val (.long t2), .second, .val (.ref md), .val (.ref b1), .val (.ref b3), .val (.ref b5), .val (.int (1 : Int32)), .val (.int (1 : Int32)), .val (.int (0 : Int32)), .val (.int (0 : Int32)), .val (.int (1 : Int32)), .val (.int (1 : Int32)), .val (.int (0 : Int32)), .val (.int (0 : Int32))]) rfl) ?_
          show own_gw p e below s _ _ _ (T133.setTop (mkF m 195 #[.val (.long q1), .second, .val (.long q2), .second, .val (.int p3), .val (.long t2), .second, .val (.ref md), .val (.ref b1), .val (.ref b3), .val (.ref b5), .val (.int (1 : Int32)), .val (.int (1 : Int32)), .val (.int (0 : Int32)), .val (.int (0 : Int32)), .val (.int (1 : Int32)), .val (.int (1 : Int32)), .val (.int (0 : Int32)), .val (.int (0 : Int32))] []))
          refine own_ofw (fun tt_ => XS.iload X133.here hx rfl (hb hby at_195) rfl) ?_
          show own_gw p e below s _ _ _ (T133.setTop (mkF m 197 #[.val (.long q1), .second, .val (.long q2), .second, .val (.int p3), .val (.long t2), .second, .val (.ref md), .val (.ref b1), .val (.ref b3), .val (.ref b5), .val (.int (1 : Int32)), .val (.int (1 : Int32)), .val (.int (0 : Int32)), .val (.int (0 : Int32)), .val (.int (1 : Int32)), .val (.int (1 : Int32)), .val (.int (0 : Int32)), .val (.int (0 : Int32))] [(.int (1 : Int32))]))
          refine own_ofw (fun tt_ => XS.iload X133.here hx rfl (hb hby at_197) rfl) ?_
          show own_gw p e below s _ _ _ (T133.setTop (mkF m 199 #[.val (.long q1), .second, .val (.long q2), .second, .val (.int p3), .val (.long t2), .second, .val (.ref md), .val (.ref b1), .val (.ref b3), .val (.ref b5), .val (.int (1 : Int32)), .val (.int (1 : Int32)), .val (.int (0 : Int32)), .val (.int (0 : Int32)), .val (.int (1 : Int32)), .val (.int (1 : Int32)), .val (.int (0 : Int32)), .val (.int (0 : Int32))] [(.int (1 : Int32)), (.int (1 : Int32))]))
          have hb199_135 : (1 : Int32) = (1 : Int32) := by decide
          refine own_ofw (fun tt_ => XS.icmpNo X133.here hx rfl (hb hby at_199) rfl (teq hb199_135).2) ?_
          show own_gw p e below s _ _ _ (T133.setTop (mkF m 202 #[.val (.long q1), .second, .val (.long q2), .second, .val (.int p3), .val (.long t2), .second, .val (.ref md), .val (.ref b1), .val (.ref b3), .val (.ref b5), .val (.int (1 : Int32)), .val (.int (1 : Int32)), .val (.int (0 : Int32)), .val (.int (0 : Int32)), .val (.int (1 : Int32)), .val (.int (1 : Int32)), .val (.int (0 : Int32)), .val (.int (0 : Int32))] []))
          refine own_ofw (fun tt_ => XS.iload X133.here hx rfl (hb hby at_202) rfl) ?_
          show own_gw p e below s _ _ _ (T133.setTop (mkF m 204 #[.val (.long q1), .second, .val (.long q2), .second, .val (.int p3), .val (.long t2), .second, .val (.ref md), .val (.ref b1), .val (.ref b3), .val (.ref b5), .val (.int (1 : Int32)), .val (.int (1 : Int32)), .val (.int (0 : Int32)), .val (.int (0 : Int32)), .val (.int (1 : Int32)), .val (.int (1 : Int32)), .val (.int (0 : Int32)), .val (.int (0 : Int32))] [(.int (1 : Int32))]))
          refine own_ofw (fun tt_ => XS.iload X133.here hx rfl (hb hby at_204) rfl) ?_
          show own_gw p e below s _ _ _ (T133.setTop (mkF m 206 #[.val (.long q1), .second, .val (.long q2), .second, .val (.int p3), .val (.long t2), .second, .val (.ref md), .val (.ref b1), .val (.ref b3), .val (.ref b5), .val (.int (1 : Int32)), .val (.int (1 : Int32)), .val (.int (0 : Int32)), .val (.int (0 : Int32)), .val (.int (1 : Int32)), .val (.int (1 : Int32)), .val (.int (0 : Int32)), .val (.int (0 : Int32))] [(.int (1 : Int32)), (.int (1 : Int32))]))
          have hb206_136 : (1 : Int32) = (1 : Int32) := by decide
          refine own_ofw (fun tt_ => XS.icmpNo X133.here hx rfl (hb hby at_206) rfl (teq hb206_136).2) ?_
          show own_gw p e below s _ _ _ (T133.setTop (mkF m 209 #[.val (.long q1), .second, .val (.long q2), .second, .val (.int p3), .val (.long t2), .second, .val (.ref md), .val (.ref b1), .val (.ref b3), .val (.ref b5), .val (.int (1 : Int32)), .val (.int (1 : Int32)), .val (.int (0 : Int32)), .val (.int (0 : Int32)), .val (.int (1 : Int32)), .val (.int (1 : Int32)), .val (.int (0 : Int32)), .val (.int (0 : Int32))] []))
          refine own_ofw (fun tt_ => XS.iload X133.here hx rfl (hb hby at_209) rfl) ?_
          show own_gw p e below s _ _ _ (T133.setTop (mkF m 211 #[.val (.long q1), .second, .val (.long q2), .second, .val (.int p3), .val (.long t2), .second, .val (.ref md), .val (.ref b1), .val (.ref b3), .val (.ref b5), .val (.int (1 : Int32)), .val (.int (1 : Int32)), .val (.int (0 : Int32)), .val (.int (0 : Int32)), .val (.int (1 : Int32)), .val (.int (1 : Int32)), .val (.int (0 : Int32)), .val (.int (0 : Int32))] [(.int (0 : Int32))]))
          refine own_ofw (fun tt_ => XS.iload X133.here hx rfl (hb hby at_211) rfl) ?_
          show own_gw p e below s _ _ _ (T133.setTop (mkF m 213 #[.val (.long q1), .second, .val (.long q2), .second, .val (.int p3), .val (.long t2), .second, .val (.ref md), .val (.ref b1), .val (.ref b3), .val (.ref b5), .val (.int (1 : Int32)), .val (.int (1 : Int32)), .val (.int (0 : Int32)), .val (.int (0 : Int32)), .val (.int (1 : Int32)), .val (.int (1 : Int32)), .val (.int (0 : Int32)), .val (.int (0 : Int32))] [(.int (0 : Int32)), (.int (0 : Int32))]))
          have hb213_137 : (0 : Int32) = (0 : Int32) := by decide
          refine own_ofw (fun tt_ => XS.icmpNo X133.here hx rfl (hb hby at_213) rfl (teq hb213_137).2) ?_
          show own_gw p e below s _ _ _ (T133.setTop (mkF m 216 #[.val (.long q1), .second, .val (.long q2), .second, .val (.int p3), .val (.long t2), .second, .val (.ref md), .val (.ref b1), .val (.ref b3), .val (.ref b5), .val (.int (1 : Int32)), .val (.int (1 : Int32)), .val (.int (0 : Int32)), .val (.int (0 : Int32)), .val (.int (1 : Int32)), .val (.int (1 : Int32)), .val (.int (0 : Int32)), .val (.int (0 : Int32))] []))
          refine own_ofw (fun tt_ => XS.iload X133.here hx rfl (hb hby at_216) rfl) ?_
          show own_gw p e below s _ _ _ (T133.setTop (mkF m 218 #[.val (.long q1), .second, .val (.long q2), .second, .val (.int p3), .val (.long t2), .second, .val (.ref md), .val (.ref b1), .val (.ref b3), .val (.ref b5), .val (.int (1 : Int32)), .val (.int (1 : Int32)), .val (.int (0 : Int32)), .val (.int (0 : Int32)), .val (.int (1 : Int32)), .val (.int (1 : Int32)), .val (.int (0 : Int32)), .val (.int (0 : Int32))] [(.int (0 : Int32))]))
          refine own_ofw (fun tt_ => XS.iload X133.here hx rfl (hb hby at_218) rfl) ?_
          show own_gw p e below s _ _ _ (T133.setTop (mkF m 220 #[.val (.long q1), .second, .val (.long q2), .second, .val (.int p3), .val (.long t2), .second, .val (.ref md), .val (.ref b1), .val (.ref b3), .val (.ref b5), .val (.int (1 : Int32)), .val (.int (1 : Int32)), .val (.int (0 : Int32)), .val (.int (0 : Int32)), .val (.int (1 : Int32)), .val (.int (1 : Int32)), .val (.int (0 : Int32)), .val (.int (0 : Int32))] [(.int (0 : Int32)), (.int (0 : Int32))]))
          have hb220_138 : (0 : Int32) = (0 : Int32) := by decide
          refine own_ofw (fun tt_ => XS.icmpNo X133.here hx rfl (hb hby at_220) rfl (teq hb220_138).2) ?_
          show own_gw p e below s _ _ _ (T133.setTop (mkF m 223 #[.val (.long q1), .second, .val (.long q2), .second, .val (.int p3), .val (.long t2), .second, .val (.ref md), .val (.ref b1), .val (.ref b3), .val (.ref b5), .val (.int (1 : Int32)), .val (.int (1 : Int32)), .val (.int (0 : Int32)), .val (.int (0 : Int32)), .val (.int (1 : Int32)), .val (.int (1 : Int32)), .val (.int (0 : Int32)), .val (.int (0 : Int32))] []))
          refine own_ofw (fun tt_ => XS.iconst X133.here hx rfl (hb hby at_223)) ?_
          show own_gw p e below s _ _ _ (T133.setTop (mkF m 224 #[.val (.long q1), .second, .val (.long q2), .second, .val (.int p3), .val (.long t2), .second, .val (.ref md), .val (.ref b1), .val (.ref b3), .val (.ref b5), .val (.int (1 : Int32)), .val (.int (1 : Int32)), .val (.int (0 : Int32)), .val (.int (0 : Int32)), .val (.int (1 : Int32)), .val (.int (1 : Int32)), .val (.int (0 : Int32)), .val (.int (0 : Int32))] [(.int (1 : Int32))]))
          refine own_ofw (fun tt_ => XS.goto X133.here hx rfl (pc0 := 224) (pc' := 228) rfl (hb hby at_224) (by decide) (by decide)) ?_
          show own_gw p e below s _ _ _ (T133.setTop (mkF m 228 #[.val (.long q1), .second, .val (.long q2), .second, .val (.int p3), .val (.long t2), .second, .val (.ref md), .val (.ref b1), .val (.ref b3), .val (.ref b5), .val (.int (1 : Int32)), .val (.int (1 : Int32)), .val (.int (0 : Int32)), .val (.int (0 : Int32)), .val (.int (1 : Int32)), .val (.int (1 : Int32)), .val (.int (0 : Int32)), .val (.int (0 : Int32))] [(.int (1 : Int32))]))
          refine own_retw X133 hx hlk hS4 (by rw [eh133]; omega : T4.heap.size ≤ T133.heap.size) Bd.returns rfl (Or.inl ⟨rfl, by simp, _, rfl⟩) (hb hby at_228) (by decide) (by decide) ?_
          rw [eh133]
          exact ⟨rfl, N133⟩
  have j22 : ∀ t2 : Int64, own_gw p e below s (Q_rm0 Z q1 q2 p3 w5 w2 h0 n0) room_1.cells room_1.slots (s₁.setTop (mkF m 22 #[.val (.long q1), .second, .val (.long q2), .second, .val (.int p3), .unset, .unset, .unset, .unset, .unset, .unset, .unset, .unset, .unset, .unset, .unset, .unset, .unset, .unset] [(.long t2)])) := by
    intro t2
    refine own_ofw (fun tt_ => XS.lstore X0.here hx rfl (hb hby at_22) rfl (l' := #[.val (.long q1), .second, .val (.long q2), .second, .val (.int p3), .val (.long t2), .second, .unset, .unset, .unset, .unset, .unset, .unset, .unset, .unset, .unset, .unset, .unset, .unset]) rfl) ?_
    show own_gw p e below s _ _ _ (s₁.setTop (mkF m 24 #[.val (.long q1), .second, .val (.long q2), .second, .val (.int p3), .val (.long t2), .second, .unset, .unset, .unset, .unset, .unset, .unset, .unset, .unset, .unset, .unset, .unset, .unset] []))
    refine own_ofw (fun tt_ => XS.iload X0.here hx rfl (hb hby at_24) rfl) ?_
    show own_gw p e below s _ _ _ (s₁.setTop (mkF m 26 #[.val (.long q1), .second, .val (.long q2), .second, .val (.int p3), .val (.long t2), .second, .unset, .unset, .unset, .unset, .unset, .unset, .unset, .unset, .unset, .unset, .unset, .unset] [(.int p3)]))
    refine own_ofw (fun tt_ => XS.bipush X0.here hx rfl (hb hby at_26)) ?_
    show own_gw p e below s _ _ _ (s₁.setTop (mkF m 28 #[.val (.long q1), .second, .val (.long q2), .second, .val (.int p3), .val (.long t2), .second, .unset, .unset, .unset, .unset, .unset, .unset, .unset, .unset, .unset, .unset, .unset, .unset] [(.int (8 : Int32)), (.int p3)]))
    refine own_ofw (fun tt_ => XS.iand X0.here hx rfl (hb hby at_28) rfl) ?_
    show own_gw p e below s _ _ _ (s₁.setTop (mkF m 29 #[.val (.long q1), .second, .val (.long q2), .second, .val (.int p3), .val (.long t2), .second, .unset, .unset, .unset, .unset, .unset, .unset, .unset, .unset, .unset, .unset, .unset, .unset] [(.int (p3 &&& (8 : Int32)))]))
    by_cases hb29_139 : (p3 &&& (8 : Int32)) = (0 : Int32)
    · refine own_ofw (fun tt_ => XS.ifYes X0.here hx rfl (pc0 := 29) (pc' := 38) rfl (hb hby at_29) rfl ((if0 _ _).trans (teq hb29_139).1) (by decide) (by decide)) ?_
      show own_gw p e below s _ _ _ (s₁.setTop (mkF m 38 #[.val (.long q1), .second, .val (.long q2), .second, .val (.int p3), .val (.long t2), .second, .unset, .unset, .unset, .unset, .unset, .unset, .unset, .unset, .unset, .unset, .unset, .unset] []))
      obtain ⟨T140, X140, e140, st140⟩ := getS2 X0 hx hZ hown (host := "") (Or.inl (hW 0 _ rfl)) Via.refl e0 (S_ASM5025.ext XO0.2) (g := (mkF m 38 #[.val (.long q1), .second, .val (.long q2), .second, .val (.int p3), .val (.long t2), .second, .unset, .unset, .unset, .unset, .unset, .unset, .unset, .unset, .unset, .unset, .unset, .unset] [])) rfl (hb hby at_38)
      refine own_ofw st140 ?_
      show own_gw p e below s _ _ _ (T140.setTop (mkF m 41 #[.val (.long q1), .second, .val (.long q2), .second, .val (.int p3), .val (.long t2), .second, .unset, .unset, .unset, .unset, .unset, .unset, .unset, .unset, .unset, .unset, .unset, .unset] [(.ref w5)]))
      exact j41 _ _ _ X140 e140
    · refine own_ofw (fun tt_ => XS.ifNo X0.here hx rfl (hb hby at_29) rfl ((if0 _ _).trans (feq hb29_139).1)) ?_
      show own_gw p e below s _ _ _ (s₁.setTop (mkF m 32 #[.val (.long q1), .second, .val (.long q2), .second, .val (.int p3), .val (.long t2), .second, .unset, .unset, .unset, .unset, .unset, .unset, .unset, .unset, .unset, .unset, .unset, .unset] []))
      obtain ⟨T141, X141, e141, st141⟩ := getS2 X0 hx hZ hown (host := "") (Or.inl (hW 81 _ rfl)) Via.refl e0 (S_ASM2540.ext XO0.2) (g := (mkF m 32 #[.val (.long q1), .second, .val (.long q2), .second, .val (.int p3), .val (.long t2), .second, .unset, .unset, .unset, .unset, .unset, .unset, .unset, .unset, .unset, .unset, .unset, .unset] [])) rfl (hb hby at_32)
      refine own_ofw st141 ?_
      show own_gw p e below s _ _ _ (T141.setTop (mkF m 35 #[.val (.long q1), .second, .val (.long q2), .second, .val (.int p3), .val (.long t2), .second, .unset, .unset, .unset, .unset, .unset, .unset, .unset, .unset, .unset, .unset, .unset, .unset] [(.ref w2)]))
      refine own_ofw (fun tt_ => XS.goto X141.here hx rfl (pc0 := 35) (pc' := 41) rfl (hb hby at_35) (by decide) (by decide)) ?_
      show own_gw p e below s _ _ _ (T141.setTop (mkF m 41 #[.val (.long q1), .second, .val (.long q2), .second, .val (.int p3), .val (.long t2), .second, .unset, .unset, .unset, .unset, .unset, .unset, .unset, .unset, .unset, .unset, .unset, .unset] [(.ref w2)]))
      exact j41 _ _ _ X141 e141
  show own_gw p e below s _ _ _ (s₁.setTop (mkF m 0 #[.val (.long q1), .second, .val (.long q2), .second, .val (.int p3), .unset, .unset, .unset, .unset, .unset, .unset, .unset, .unset, .unset, .unset, .unset, .unset, .unset, .unset] []))
  refine own_ofw (fun tt_ => XS.iload X0.here hx rfl (hb hby at_0) rfl) ?_
  show own_gw p e below s _ _ _ (s₁.setTop (mkF m 2 #[.val (.long q1), .second, .val (.long q2), .second, .val (.int p3), .unset, .unset, .unset, .unset, .unset, .unset, .unset, .unset, .unset, .unset, .unset, .unset, .unset, .unset] [(.int p3)]))
  refine own_ofw (fun tt_ => XS.iconst X0.here hx rfl (hb hby at_2)) ?_
  show own_gw p e below s _ _ _ (s₁.setTop (mkF m 3 #[.val (.long q1), .second, .val (.long q2), .second, .val (.int p3), .unset, .unset, .unset, .unset, .unset, .unset, .unset, .unset, .unset, .unset, .unset, .unset, .unset, .unset] [(.int (1 : Int32)), (.int p3)]))
  refine own_ofw (fun tt_ => XS.iand X0.here hx rfl (hb hby at_3) rfl) ?_
  show own_gw p e below s _ _ _ (s₁.setTop (mkF m 4 #[.val (.long q1), .second, .val (.long q2), .second, .val (.int p3), .unset, .unset, .unset, .unset, .unset, .unset, .unset, .unset, .unset, .unset, .unset, .unset, .unset, .unset] [(.int (p3 &&& (1 : Int32)))]))
  by_cases hb4_142 : (p3 &&& (1 : Int32)) = (0 : Int32)
  · refine own_ofw (fun tt_ => XS.ifYes X0.here hx rfl (pc0 := 4) (pc' := 11) rfl (hb hby at_4) rfl ((if0 _ _).trans (teq hb4_142).1) (by decide) (by decide)) ?_
    show own_gw p e below s _ _ _ (s₁.setTop (mkF m 11 #[.val (.long q1), .second, .val (.long q2), .second, .val (.int p3), .unset, .unset, .unset, .unset, .unset, .unset, .unset, .unset, .unset, .unset, .unset, .unset, .unset, .unset] []))
    refine own_ofw (fun tt_ => XS.lloadN X0.here hx rfl (hb hby at_11) rfl) ?_
    show own_gw p e below s _ _ _ (s₁.setTop (mkF m 12 #[.val (.long q1), .second, .val (.long q2), .second, .val (.int p3), .unset, .unset, .unset, .unset, .unset, .unset, .unset, .unset, .unset, .unset, .unset, .unset, .unset, .unset] [(.long q1)]))
    refine own_ofw (fun tt_ => XS.iload X0.here hx rfl (hb hby at_12) rfl) ?_
    show own_gw p e below s _ _ _ (s₁.setTop (mkF m 14 #[.val (.long q1), .second, .val (.long q2), .second, .val (.int p3), .unset, .unset, .unset, .unset, .unset, .unset, .unset, .unset, .unset, .unset, .unset, .unset, .unset, .unset] [(.int p3), (.long q1)]))
    refine own_ofw (fun tt_ => XS.iconst X0.here hx rfl (hb hby at_14)) ?_
    show own_gw p e below s _ _ _ (s₁.setTop (mkF m 15 #[.val (.long q1), .second, .val (.long q2), .second, .val (.int p3), .unset, .unset, .unset, .unset, .unset, .unset, .unset, .unset, .unset, .unset, .unset, .unset, .unset, .unset] [(.int (1 : Int32)), (.int p3), (.long q1)]))
    refine own_ofw (fun tt_ => XS.ishr X0.here hx rfl (hb hby at_15) rfl) ?_
    show own_gw p e below s _ _ _ (s₁.setTop (mkF m 16 #[.val (.long q1), .second, .val (.long q2), .second, .val (.int p3), .unset, .unset, .unset, .unset, .unset, .unset, .unset, .unset, .unset, .unset, .unset, .unset, .unset, .unset] [(.int (p3 >>> ((1 : Int32) &&& 31))), (.long q1)]))
    refine own_ofw (fun tt_ => XS.iconst X0.here hx rfl (hb hby at_16)) ?_
    show own_gw p e below s _ _ _ (s₁.setTop (mkF m 17 #[.val (.long q1), .second, .val (.long q2), .second, .val (.int p3), .unset, .unset, .unset, .unset, .unset, .unset, .unset, .unset, .unset, .unset, .unset, .unset, .unset, .unset] [(.int (3 : Int32)), (.int (p3 >>> ((1 : Int32) &&& 31))), (.long q1)]))
    refine own_ofw (fun tt_ => XS.iand X0.here hx rfl (hb hby at_17) rfl) ?_
    show own_gw p e below s _ _ _ (s₁.setTop (mkF m 18 #[.val (.long q1), .second, .val (.long q2), .second, .val (.int p3), .unset, .unset, .unset, .unset, .unset, .unset, .unset, .unset, .unset, .unset, .unset, .unset, .unset, .unset] [(.int ((p3 >>> ((1 : Int32) &&& 31)) &&& (3 : Int32))), (.long q1)]))
    refine own_ofw (fun tt_ => XS.i2l X0.here hx rfl (hb hby at_18) rfl) ?_
    show own_gw p e below s _ _ _ (s₁.setTop (mkF m 19 #[.val (.long q1), .second, .val (.long q2), .second, .val (.int p3), .unset, .unset, .unset, .unset, .unset, .unset, .unset, .unset, .unset, .unset, .unset, .unset, .unset, .unset] [(.long (((p3 >>> ((1 : Int32) &&& 31)) &&& (3 : Int32)).toInt64)), (.long q1)]))
    refine own_ofw (fun tt_ => XS.ladd X0.here hx rfl (hb hby at_19) rfl) ?_
    show own_gw p e below s _ _ _ (s₁.setTop (mkF m 20 #[.val (.long q1), .second, .val (.long q2), .second, .val (.int p3), .unset, .unset, .unset, .unset, .unset, .unset, .unset, .unset, .unset, .unset, .unset, .unset, .unset, .unset] [(.long (q1 + (((p3 >>> ((1 : Int32) &&& 31)) &&& (3 : Int32)).toInt64)))]))
    refine own_ofw (fun tt_ => XS.lconst X0.here hx rfl (hb hby at_20)) ?_
    show own_gw p e below s _ _ _ (s₁.setTop (mkF m 21 #[.val (.long q1), .second, .val (.long q2), .second, .val (.int p3), .unset, .unset, .unset, .unset, .unset, .unset, .unset, .unset, .unset, .unset, .unset, .unset, .unset, .unset] [(.long (1 : Int64)), (.long (q1 + (((p3 >>> ((1 : Int32) &&& 31)) &&& (3 : Int32)).toInt64)))]))
    refine own_ofw (fun tt_ => XS.lsub X0.here hx rfl (hb hby at_21) rfl) ?_
    show own_gw p e below s _ _ _ (s₁.setTop (mkF m 22 #[.val (.long q1), .second, .val (.long q2), .second, .val (.int p3), .unset, .unset, .unset, .unset, .unset, .unset, .unset, .unset, .unset, .unset, .unset, .unset, .unset, .unset] [(.long ((q1 + (((p3 >>> ((1 : Int32) &&& 31)) &&& (3 : Int32)).toInt64)) - (1 : Int64)))]))
    exact j22 _
  · refine own_ofw (fun tt_ => XS.ifNo X0.here hx rfl (hb hby at_4) rfl ((if0 _ _).trans (feq hb4_142).1)) ?_
    show own_gw p e below s _ _ _ (s₁.setTop (mkF m 7 #[.val (.long q1), .second, .val (.long q2), .second, .val (.int p3), .unset, .unset, .unset, .unset, .unset, .unset, .unset, .unset, .unset, .unset, .unset, .unset, .unset, .unset] []))
    refine own_ofw (fun tt_ => XS.lloadN X0.here hx rfl (hb hby at_7) rfl) ?_
    show own_gw p e below s _ _ _ (s₁.setTop (mkF m 8 #[.val (.long q1), .second, .val (.long q2), .second, .val (.int p3), .unset, .unset, .unset, .unset, .unset, .unset, .unset, .unset, .unset, .unset, .unset, .unset, .unset, .unset] [(.long q2)]))
    refine own_ofw (fun tt_ => XS.goto X0.here hx rfl (pc0 := 8) (pc' := 22) rfl (hb hby at_8) (by decide) (by decide)) ?_
    show own_gw p e below s _ _ _ (s₁.setTop (mkF m 22 #[.val (.long q1), .second, .val (.long q2), .second, .val (.int p3), .unset, .unset, .unset, .unset, .unset, .unset, .unset, .unset, .unset, .unset, .unset, .unset, .unset, .unset] [(.long q2)]))
    exact j22 _
set_option maxRecDepth 65536 in
set_option maxHeartbeats 40000000 in
theorem comes_1 {Post : Tables → Env → Array Value → State → Outcome → State → Prop} (hpost : ∀ tb e args s v u, (limb_1_1.after args s (.returned v) u = true ∧ limb_1_2.after args s (.returned v) u = true ∧ True) → ReturnedEndW s (.returned v) u (Jvm.fieldLocs frame_1_writes args s ++ Jvm.arrayLocs frame_1_arrays args s ++ Jvm.staticLocs frame_1_statics s) 24 1280 → Post tb e args s (.returned v) u) :
    ArmFor flags0 classFile x code maxLocals ret World_1 tables_1 room_1 Calls_1 rest_1 Pre_1 Post := by
  intro l hfl _ _ p e ha hc hk s m args below hf hA hF happ hP
  obtain ⟨hcalls, hrest, hpre⟩ := hP
  obtain ⟨-, -, -, hnamed, -, -, -, hat⟩ := (Spec.applies_iff hf).mp happ
  obtain ⟨hg, hn⟩ := and_e (Cond.before_iff.mp (show (Jvm.Cond.and given_1 narrow_1).before args s = true from hpre))
  obtain ⟨g1, g2⟩ := and_e hg
  obtain ⟨g3, g4⟩ := and_e g2
  obtain ⟨g5, g6⟩ := and_e g4
  obtain ⟨g7, g8⟩ := and_e hn
  obtain ⟨w0, w1, w2, rfl⟩ : ∃ w0 w1 w2 : Value, args = #[w0, w1, w2] := by
    have hs : args.size = 3 := by simpa [Cond.value, given_1] using g1
    obtain ⟨L⟩ := args
    match L, hs with
    | [w0, w1, w2], _ => exact ⟨w0, w1, w2, rfl⟩
  have hw := fun d (hd : d ∈ tables_1) => atoms_spec (ws := Jvm.Cond.code x code maxLocals ret :: tables_1) hat d (List.mem_cons_of_mem _ hd)
  have hW : ∀ (i : Nat) (d : Jvm.Cond), tables_1[i]? = some d → d.before _ s = true := fun i d h => hw d (List.mem_of_getElem? h)
  have hfit : Fit s := fun {y c} hc i hi => by
    obtain ⟨ha, rfl⟩ := Array.getElem?_eq_some_iff.mp hc
    have q := List.all_eq_true.mp ((Array.all_eq_true_iff_forall_mem.mp hF) _ (Array.getElem_mem ha)) i (List.mem_range.mpr hi)
    simpa [Array.getElem?_eq_getElem hi] using q
  obtain ⟨i0, ei0⟩ := isL_v g3
  obtain rfl : w0 = (.long i0) := Option.some.inj ei0
  obtain ⟨i1, ei1⟩ := isL_v g5
  obtain rfl : w1 = (.long i1) := Option.some.inj ei1
  obtain ⟨i2, ei2⟩ := is_v g6
  obtain rfl : w2 = (.int i2) := Option.some.inj ei2
  obtain ⟨a_ASM5025, ev_ASM5025, E_ASM5025⟩ := own_ex g7
  have S_ASM5025 : Sta s s.heap "com/example/plumeline/plumeline/LoadedMode$Mode" "ASM5025" "Lcom/example/plumeline/plumeline/LoadedMode$Mode;" (.ref a_ASM5025) := Sta.start ev_ASM5025 (Or.inr ⟨(hW 1 _ rfl), (hW 2 _ rfl)⟩)
  obtain ⟨a_ASM2540, ev_ASM2540, E_ASM2540⟩ := own_ex g8
  have S_ASM2540 : Sta s s.heap "com/example/plumeline/plumeline/LoadedMode$Mode" "ASM2540" "Lcom/example/plumeline/plumeline/LoadedMode$Mode;" (.ref a_ASM2540) := Sta.start ev_ASM2540 (Or.inr ⟨(hW 1 _ rfl), (hW 82 _ rfl)⟩)
  obtain ⟨n, o, h1, h2, h3, _, L, rfl, ⟨rfl, N⟩, hq⟩ := rm0 l s _ hw tables_1 i0 i1 i2 a_ASM5025 a_ASM2540 s.heap s.heap.size (Old.start s) S_ASM5025 S_ASM2540 p e ha hc hk s m _ below hf ((Spec.applies_iff_loose hf).mp happ).1 ⟨rfl, State.Warmed39.refl s, rfl⟩ trivial
  refine ⟨n, _, h1, h2, h3, hpost _ _ _ _ _ _ ⟨Cond.after_iff.mpr rfl, Cond.after_iff.mpr (eq_i res_at (Term.int_eval (1)) rfl), trivial⟩ ⟨hq.1, hq.2.1, hq.2.2.1, (hq.2.2.2.sift fun y hy => Or.inr (N y hy)).mono (by decide) (by decide)⟩⟩
theorem main_1_1 : Claimed_1_1 := comes_1 fun _ _ _ _ _ _ h hF => ⟨h.1, hF⟩
theorem main_1_2 : Claimed_1_2 := comes_1 fun _ _ _ _ _ _ h hF => ⟨h.2.1, hF⟩
end Jvm.Pilot.@@N@@
namespace Jvm.Pilot.@@N@@
open Jvm Jvm.ClassFile Sem Op Lib Jvm.Free Jvm.Stand Jvm.Pilot.@@N@@.Jvm.D
/-! MADE BY PROGRAM (witnessworld.py) out of the Statement's table words and the real class files: 21 classes; the members and pool entries that the words name. The judged class is class 1, her method 2. -/
namespace start1
open Jvm.ClassFile
def u (s : String) : CpInfo := .utf8 (stringToUtf16 s)
/-- a pool by its gaps: so many unusable entries, then the entry; so many at the end -/
def gap : Nat → List CpInfo → List CpInfo
  | 0, r => r
  | n + 1, r => .unusable :: gap n r
def poolList (es : List (Nat × CpInfo)) (last : Nat) : List CpInfo := es.foldr (fun e r => gap e.1 (e.2 :: r)) (gap last [])
def pool (es : List (Nat × CpInfo)) (last : Nat) : Array CpInfo := ⟨poolList es last⟩
def fileOf (pool : Array CpInfo) (this : Nat) (attrs : Array Attribute := #[]) (ms : Array MethodInfo := #[]) (fl : Nat := 33) (sup : Nat := 0) (ifs : Array Nat := #[]) (fds : Array FieldInfo := #[]) : ClassFile where
  minorVersion := 0
  majorVersion := 65
  constantPool := pool
  accessFlags := fl
  thisClass := this
  superClass := sup
  interfaces := ifs
  fields := fds
  methods := ms
  attributes := attrs
def plain (name : String) (sup : Option ClassId) : Class where
  name := name
  kind := .ordinary
  loader := none
  accessFlags := 33
  super := sup
  interfaces := #[]
  cf := none
  fields := #[]
  methods := #[]
  instanceTypes := #[]
  staticTypes := #[]
  resolved := #[]
  callSites := []
  init := .initialized
  statics := none
  mirror := none

def pool0 : Array CpInfo := pool [(5, u "<init>"), (0, u "()V"), (1, .class_ 10), (1, u "java/lang/Object")] 113

def k0c0 : Code := { maxStack := 0, maxLocals := 1, code := object_method_1_code, exceptionTable := #[], attributes := #[] }
def k0m0 : Method := { name := "<init>", desc := "()V", sig := { parameters := [], returnType := none }, accessFlags := 1, code := some k0c0 }
/-- java/lang/Object -/
def k0 : Class := { plain "java/lang/Object" none with
  accessFlags := 33
  interfaces := #[]
  cf := some (fileOf pool0 8 #[] #[{ accessFlags := 1, nameIndex := 5, descriptorIndex := 6, attributes := #[] }] 33 0 #[] #[])
  fields := #[]
  methods := #[k0m0]
  instanceTypes := #[]
  staticTypes := #[]
  resolved := Array.replicate 124 none
  statics := none }

def pool1 : Array CpInfo := pool [(2, .class_ 4), (0, .nameAndType 5 6), (0, u "java/lang/Object"), (0, u "<init>"), (0, u "()V"), (0, .long 16), (1, .long 90), (1, .fieldref 12 13), (0, .class_ 14), (0, .nameAndType 15 16), (0, u "com/example/plumeline/plumeline/LoadedMode$Mode"), (0, u "ASM2540"), (0, u "Lcom/example/plumeline/plumeline/LoadedMode$Mode;"), (0, .fieldref 12 18), (0, .nameAndType 19 16), (0, u "ASM5025"), (0, .class_ 21), (0, u "com/example/plumeline/plumeline/AsmSample"), (0, .double 4630826316843712512), (1, .double 4624070917402656768), (1, .double 4636737291354636288), (1, .double 4647503709213818880), (1, .methodref 20 31), (0, .nameAndType 5 32), (0, u "(Lcom/example/plumeline/plumeline/LoadedMode$Mode;JDDDDD)V"), (0, .double 4630967054332067840), (1, .double 4611686018427387904), (1, .double 4623507967449235456), (1, .double 4632233691727265792), (1, .double 4643985272004935680), (1, .class_ 44), (0, u "com/example/plumeline/plumeline/LoadedMode$Trace"), (0, .methodref 43 3), (0, .methodref 43 47), (0, .nameAndType 48 49), (0, u "add"), (0, u "(Lcom/example/plumeline/plumeline/AsmSample;)Z"), (0, .methodref 51 52), (0, .class_ 53), (0, .nameAndType 54 55), (0, u "com/example/plumeline/plumeline/TraceAddPinLaw"), (0, u "inWindow"), (0, u "(J)Z"), (3, u "law"), (0, u "(JJI)Z")] 7

def k1m0 : Method := { name := "<init>", desc := "()V", sig := { parameters := [], returnType := none }, accessFlags := 1, code := none }
def k1c1 : Code := { maxStack := 4, maxLocals := 2, code := method_2_code, exceptionTable := #[], attributes := #[] }
def k1m1 : Method := { name := "inWindow", desc := "(J)Z", sig := { parameters := [.long], returnType := some .boolean }, accessFlags := 10, code := some k1c1 }
def k1c2 : Code := { maxStack := 15, maxLocals := 19, code := code, exceptionTable := #[], attributes := #[] }
def k1m2 : Method := { name := "law", desc := "(JJI)Z", sig := { parameters := [.long, .long, .int], returnType := some .boolean }, accessFlags := 9, code := some k1c2 }
/-- com/example/plumeline/plumeline/TraceAddPinLaw -/
def k1 : Class := { plain "com/example/plumeline/plumeline/TraceAddPinLaw" (some 0) with
  accessFlags := 49
  interfaces := #[]
  cf := some (fileOf pool1 51 #[] #[{ accessFlags := 1, nameIndex := 5, descriptorIndex := 6, attributes := #[] }, { accessFlags := 10, nameIndex := 54, descriptorIndex := 55, attributes := #[] }, { accessFlags := 9, nameIndex := 59, descriptorIndex := 60, attributes := #[] }] 49 2 #[] #[])
  fields := #[]
  methods := #[k1m0, k1m1, k1m2]
  instanceTypes := #[]
  staticTypes := #[]
  resolved := Array.replicate 68 none
  statics := none }

def pool2 : Array CpInfo := pool [(1, .class_ 2), (0, u "java/lang/constant/Constable"), (0, .class_ 4), (0, u "java/lang/Object")] 6

/-- java/lang/constant/Constable -/
def k2 : Class := { plain "java/lang/constant/Constable" (some 0) with
  accessFlags := 1537
  interfaces := #[]
  cf := some (fileOf pool2 1 #[] #[] 1537 3 #[] #[])
  fields := #[]
  methods := #[]
  instanceTypes := #[]
  staticTypes := #[]
  resolved := Array.replicate 11 none
  statics := none }

def pool3 : Array CpInfo := pool [(1, .class_ 2), (0, u "java/lang/Comparable"), (0, .class_ 4), (0, u "java/lang/Object")] 7

/-- java/lang/Comparable -/
def k3 : Class := { plain "java/lang/Comparable" (some 0) with
  accessFlags := 1537
  interfaces := #[]
  cf := some (fileOf pool3 1 #[] #[] 1537 3 #[] #[])
  fields := #[]
  methods := #[]
  instanceTypes := #[]
  staticTypes := #[]
  resolved := Array.replicate 12 none
  statics := none }

def pool4 : Array CpInfo := pool [(1, .class_ 2), (0, u "java/io/Serializable"), (0, .class_ 4), (0, u "java/lang/Object")] 2

/-- java/io/Serializable -/
def k4 : Class := { plain "java/io/Serializable" (some 0) with
  accessFlags := 1537
  interfaces := #[]
  cf := some (fileOf pool4 1 #[] #[] 1537 3 #[] #[])
  fields := #[]
  methods := #[]
  instanceTypes := #[]
  staticTypes := #[]
  resolved := Array.replicate 7 none
  statics := none }

def pool5 : Array CpInfo := pool [(2, .class_ 4), (1, u "java/lang/Enum"), (0, u "name"), (0, u "Ljava/lang/String;"), (2, u "ordinal"), (0, u "I"), (1, .class_ 14), (1, u "java/lang/Object"), (4, u "hash"), (86, .class_ 108), (1, u "java/lang/Enum$EnumDesc"), (2, .class_ 112), (0, u "java/lang/constant/Constable"), (0, .class_ 114), (0, u "java/lang/Comparable"), (0, .class_ 116), (0, u "java/io/Serializable")] 87

/-- java/lang/Enum -/
def k5 : Class := { plain "java/lang/Enum" (some 0) with
  accessFlags := 1057
  interfaces := #[2, 3, 4]
  cf := some (fileOf pool5 2 #[.nestMembers #[106]] #[] 1057 12 #[111, 113, 115] #[{ accessFlags := 18, nameIndex := 5, descriptorIndex := 6, attributes := #[] }, { accessFlags := 18, nameIndex := 9, descriptorIndex := 10, attributes := #[] }, { accessFlags := 2, nameIndex := 19, descriptorIndex := 10, attributes := #[] }])
  fields := #[{ name := "name", type := (.object "java/lang/String"), accessFlags := 18, slot := 0, constantValue := 0 }, { name := "ordinal", type := .int, accessFlags := 18, slot := 1, constantValue := 0 }, { name := "hash", type := .int, accessFlags := 2, slot := 2, constantValue := 0 }]
  methods := #[]
  instanceTypes := #[(.object "java/lang/String"), .int, .int]
  staticTypes := #[]
  resolved := Array.replicate 204 none
  statics := none }

def pool6 : Array CpInfo := pool [(27, .class_ 28), (0, u "com/example/plumeline/plumeline/Coded"), (10, .class_ 40), (0, u "java/lang/Object")] 30

/-- com/example/plumeline/plumeline/Coded -/
def k6 : Class := { plain "com/example/plumeline/plumeline/Coded" (some 0) with
  accessFlags := 1536
  interfaces := #[]
  cf := some (fileOf pool6 27 #[] #[] 1536 39 #[] #[])
  fields := #[]
  methods := #[]
  instanceTypes := #[]
  staticTypes := #[]
  resolved := Array.replicate 71 none
  statics := none }

def pool7 : Array CpInfo := pool [(1, .class_ 2), (0, u "com/example/plumeline/plumeline/LoadedMode$Mode"), (2, u "ASM5025"), (0, u "Lcom/example/plumeline/plumeline/LoadedMode$Mode;"), (2, u "ASM2540"), (2, u "$VALUES"), (0, u "[Lcom/example/plumeline/plumeline/LoadedMode$Mode;"), (6, .class_ 22), (1, u "java/lang/Enum"), (8, u "code"), (0, u "Ljava/lang/String;"), (13, .class_ 47), (0, u "com/example/plumeline/plumeline/Coded"), (14, .class_ 63), (0, u "com/example/plumeline/plumeline/LoadedMode")] 2

/-- com/example/plumeline/plumeline/LoadedMode$Mode -/
def k7 : Class := { plain "com/example/plumeline/plumeline/LoadedMode$Mode" (some 5) with
  accessFlags := 16433
  interfaces := #[6]
  cf := some (fileOf pool7 1 #[.nestHost 62] #[] 16433 20 #[46] #[{ accessFlags := 16409, nameIndex := 5, descriptorIndex := 6, attributes := #[] }, { accessFlags := 16409, nameIndex := 9, descriptorIndex := 6, attributes := #[] }, { accessFlags := 18, nameIndex := 31, descriptorIndex := 32, attributes := #[] }, { accessFlags := 4122, nameIndex := 12, descriptorIndex := 13, attributes := #[] }])
  fields := #[{ name := "ASM5025", type := (.object "com/example/plumeline/plumeline/LoadedMode$Mode"), accessFlags := 16409, slot := 0, constantValue := 0 }, { name := "ASM2540", type := (.object "com/example/plumeline/plumeline/LoadedMode$Mode"), accessFlags := 16409, slot := 1, constantValue := 0 }, { name := "code", type := (.object "java/lang/String"), accessFlags := 18, slot := 3, constantValue := 0 }, { name := "$VALUES", type := (.array (.object "com/example/plumeline/plumeline/LoadedMode$Mode")), accessFlags := 4122, slot := 2, constantValue := 0 }]
  methods := #[]
  instanceTypes := #[(.object "java/lang/String"), .int, .int, (.object "java/lang/String")]
  staticTypes := #[(.object "com/example/plumeline/plumeline/LoadedMode$Mode"), (.object "com/example/plumeline/plumeline/LoadedMode$Mode"), (.array (.object "com/example/plumeline/plumeline/LoadedMode$Mode"))]
  resolved := Array.replicate 66 none
  statics := some 0 }

def pool8 : Array CpInfo := pool [(1, .methodref 2 3), (0, .class_ 4), (0, .nameAndType 5 6), (0, u "java/lang/Object"), (0, u "<init>"), (0, u "()V"), (0, .class_ 8), (0, u "java/lang/Record")] 13

def k8c0 : Code := { maxStack := 1, maxLocals := 1, code := jdk_30_method_1_code, exceptionTable := #[], attributes := #[] }
def k8m0 : Method := { name := "<init>", desc := "()V", sig := { parameters := [], returnType := none }, accessFlags := 4, code := some k8c0 }
/-- java/lang/Record -/
def k8 : Class := { plain "java/lang/Record" (some 0) with
  accessFlags := 1057
  interfaces := #[]
  cf := some (fileOf pool8 7 #[] #[{ accessFlags := 4, nameIndex := 5, descriptorIndex := 6, attributes := #[] }] 1057 2 #[] #[])
  fields := #[]
  methods := #[k8m0]
  instanceTypes := #[]
  staticTypes := #[]
  resolved := Array.replicate 22 none
  statics := none }

def pool9 : Array CpInfo := pool [(1, .methodref 2 3), (0, .class_ 4), (0, .nameAndType 5 6), (0, u "java/lang/Record"), (0, u "<init>"), (0, u "()V"), (0, .string 8), (0, u "mode"), (0, .methodref 10 11), (0, .class_ 12), (0, .nameAndType 13 14), (0, u "java/util/Objects"), (0, u "requireNonNull"), (0, u "(Ljava/lang/Object;Ljava/lang/String;)Ljava/lang/Object;"), (0, .fieldref 16 17), (0, .class_ 18), (0, .nameAndType 8 19), (0, u "com/example/plumeline/plumeline/AsmSample"), (0, u "Lcom/example/plumeline/plumeline/LoadedMode$Mode;"), (0, .fieldref 16 21), (0, .nameAndType 22 23), (0, u "tS"), (0, u "J"), (0, .fieldref 16 25), (0, .nameAndType 26 27), (0, u "speedKmh"), (0, u "D"), (0, .fieldref 16 29), (0, .nameAndType 30 27), (0, u "coPct"), (0, .fieldref 16 32), (0, .nameAndType 33 27), (0, u "co2Pct"), (0, .fieldref 16 35), (0, .nameAndType 36 27), (0, u "hcPpm"), (0, .fieldref 16 38), (0, .nameAndType 39 27), (0, u "noPpm"), (12, u "(Lcom/example/plumeline/plumeline/LoadedMode$Mode;JDDDDD)V"), (7, u "()J")] 32

def k9c0 : Code := { maxStack := 3, maxLocals := 14, code := prog_11_method_1_code, exceptionTable := #[], attributes := #[] }
def k9m0 : Method := { name := "<init>", desc := "(Lcom/example/plumeline/plumeline/LoadedMode$Mode;JDDDDD)V", sig := { parameters := [(.object "com/example/plumeline/plumeline/LoadedMode$Mode"), .long, .double, .double, .double, .double, .double], returnType := none }, accessFlags := 1, code := some k9c0 }
def k9c1 : Code := { maxStack := 2, maxLocals := 1, code := prog_11_method_6_code, exceptionTable := #[], attributes := #[] }
def k9m1 : Method := { name := "tS", desc := "()J", sig := { parameters := [], returnType := some .long }, accessFlags := 1, code := some k9c1 }
/-- com/example/plumeline/plumeline/AsmSample -/
def k9 : Class := { plain "com/example/plumeline/plumeline/AsmSample" (some 8) with
  accessFlags := 49
  interfaces := #[]
  cf := some (fileOf pool9 16 #[] #[{ accessFlags := 1, nameIndex := 5, descriptorIndex := 52, attributes := #[] }, { accessFlags := 1, nameIndex := 22, descriptorIndex := 60, attributes := #[] }] 49 2 #[] #[{ accessFlags := 18, nameIndex := 8, descriptorIndex := 19, attributes := #[] }, { accessFlags := 18, nameIndex := 22, descriptorIndex := 23, attributes := #[] }, { accessFlags := 18, nameIndex := 26, descriptorIndex := 27, attributes := #[] }, { accessFlags := 18, nameIndex := 30, descriptorIndex := 27, attributes := #[] }, { accessFlags := 18, nameIndex := 33, descriptorIndex := 27, attributes := #[] }, { accessFlags := 18, nameIndex := 36, descriptorIndex := 27, attributes := #[] }, { accessFlags := 18, nameIndex := 39, descriptorIndex := 27, attributes := #[] }])
  fields := #[{ name := "mode", type := (.object "com/example/plumeline/plumeline/LoadedMode$Mode"), accessFlags := 18, slot := 0, constantValue := 0 }, { name := "tS", type := .long, accessFlags := 18, slot := 1, constantValue := 0 }, { name := "speedKmh", type := .double, accessFlags := 18, slot := 2, constantValue := 0 }, { name := "coPct", type := .double, accessFlags := 18, slot := 3, constantValue := 0 }, { name := "co2Pct", type := .double, accessFlags := 18, slot := 4, constantValue := 0 }, { name := "hcPpm", type := .double, accessFlags := 18, slot := 5, constantValue := 0 }, { name := "noPpm", type := .double, accessFlags := 18, slot := 6, constantValue := 0 }]
  methods := #[k9m0, k9m1]
  instanceTypes := #[(.object "com/example/plumeline/plumeline/LoadedMode$Mode"), .long, .double, .double, .double, .double, .double]
  staticTypes := #[]
  resolved := Array.replicate 93 none
  statics := none }

def pool10 : Array CpInfo := pool [(2, .class_ 4), (1, u "java/lang/CharSequence"), (42, .class_ 48), (0, u "java/lang/CharSequence$1CodePointIterator"), (10, .class_ 60), (0, u "java/lang/CharSequence$1CharIterator"), (5, .class_ 67), (0, u "java/lang/Object")] 63

/-- java/lang/CharSequence -/
def k10 : Class := { plain "java/lang/CharSequence" (some 0) with
  accessFlags := 1537
  interfaces := #[]
  cf := some (fileOf pool10 2 #[.nestMembers #[47, 59]] #[] 1537 66 #[] #[])
  fields := #[]
  methods := #[]
  instanceTypes := #[]
  staticTypes := #[]
  resolved := Array.replicate 131 none
  statics := none }

def pool11 : Array CpInfo := pool [(1, .class_ 2), (0, u "java/lang/constant/ConstantDesc"), (0, .class_ 4), (0, u "java/lang/Object")] 32

/-- java/lang/constant/ConstantDesc -/
def k11 : Class := { plain "java/lang/constant/ConstantDesc" (some 0) with
  accessFlags := 1537
  interfaces := #[]
  cf := some (fileOf pool11 1 #[] #[] 1537 3 #[] #[])
  fields := #[]
  methods := #[]
  instanceTypes := #[]
  staticTypes := #[]
  resolved := Array.replicate 37 none
  statics := none }

def pool12 : Array CpInfo := pool [(2, .class_ 4), (1, u "java/lang/Object"), (0, u "<init>"), (0, u "()V"), (3, .class_ 12), (1, u "java/lang/String"), (0, u "value"), (0, u "[B"), (2, u "coder"), (0, u "B"), (2, u "hash"), (0, u "I"), (2, u "hashIsZero"), (0, u "Z"), (13, u "COMPACT_STRINGS"), (534, .class_ 576), (0, u "java/lang/CharSequence"), (22, u "CASE_INSENSITIVE_ORDER"), (0, u "Ljava/util/Comparator;"), (500, u "serialPersistentFields"), (0, u "[Ljava/io/ObjectStreamField;"), (0, .class_ 1104), (0, u "java/lang/String$CaseInsensitiveComparator"), (1, .class_ 1107), (0, u "java/io/Serializable"), (0, .class_ 1109), (0, u "java/lang/Comparable"), (0, .class_ 1111), (0, u "java/lang/constant/Constable"), (0, .class_ 1113), (0, u "java/lang/constant/ConstantDesc"), (2, u "serialVersionUID"), (0, u "J"), (3, u "REPL"), (0, u "C"), (2, u "LATIN1"), (1, u "UTF16")] 323

def k12m0 : Method := { name := "<init>", desc := "()V", sig := { parameters := [], returnType := none }, accessFlags := 1, code := none }
/-- java/lang/String -/
def k12 : Class := { plain "java/lang/String" (some 0) with
  accessFlags := 49
  interfaces := #[4, 3, 10, 2, 11]
  cf := some (fileOf pool12 10 #[.nestMembers #[1103]] #[{ accessFlags := 1, nameIndex := 5, descriptorIndex := 6, attributes := #[] }] 49 2 #[1106, 1108, 575, 1110, 1112] #[{ accessFlags := 18, nameIndex := 13, descriptorIndex := 14, attributes := #[] }, { accessFlags := 18, nameIndex := 17, descriptorIndex := 18, attributes := #[] }, { accessFlags := 2, nameIndex := 21, descriptorIndex := 22, attributes := #[] }, { accessFlags := 2, nameIndex := 25, descriptorIndex := 26, attributes := #[] }, { accessFlags := 26, nameIndex := 1116, descriptorIndex := 1117, attributes := #[] }, { accessFlags := 24, nameIndex := 40, descriptorIndex := 26, attributes := #[] }, { accessFlags := 26, nameIndex := 1101, descriptorIndex := 1102, attributes := #[] }, { accessFlags := 26, nameIndex := 1121, descriptorIndex := 1122, attributes := #[] }, { accessFlags := 25, nameIndex := 599, descriptorIndex := 600, attributes := #[] }, { accessFlags := 24, nameIndex := 1125, descriptorIndex := 18, attributes := #[] }, { accessFlags := 24, nameIndex := 1127, descriptorIndex := 18, attributes := #[] }])
  fields := #[{ name := "value", type := (.array .byte), accessFlags := 18, slot := 0, constantValue := 0 }, { name := "coder", type := .byte, accessFlags := 18, slot := 1, constantValue := 0 }, { name := "hash", type := .int, accessFlags := 2, slot := 2, constantValue := 0 }, { name := "hashIsZero", type := .boolean, accessFlags := 2, slot := 3, constantValue := 0 }, { name := "serialVersionUID", type := .long, accessFlags := 26, slot := 0, constantValue := 0 }, { name := "COMPACT_STRINGS", type := .boolean, accessFlags := 24, slot := 1, constantValue := 0 }, { name := "serialPersistentFields", type := (.array (.object "java/io/ObjectStreamField")), accessFlags := 26, slot := 2, constantValue := 0 }, { name := "REPL", type := .char, accessFlags := 26, slot := 3, constantValue := 0 }, { name := "CASE_INSENSITIVE_ORDER", type := (.object "java/util/Comparator"), accessFlags := 25, slot := 4, constantValue := 0 }, { name := "LATIN1", type := .byte, accessFlags := 24, slot := 5, constantValue := 0 }, { name := "UTF16", type := .byte, accessFlags := 24, slot := 6, constantValue := 0 }]
  methods := #[k12m0]
  instanceTypes := #[(.array .byte), .byte, .int, .boolean]
  staticTypes := #[.long, .boolean, (.array (.object "java/io/ObjectStreamField")), .char, (.object "java/util/Comparator"), .byte, .byte]
  resolved := Array.replicate 1451 none
  statics := none }

def pool13 : Array CpInfo := pool [(2, .class_ 4), (1, u "java/lang/Object"), (0, u "<init>"), (0, u "()V"), (35, .class_ 44), (1, u "java/util/Objects"), (0, u "requireNonNull"), (48, u "(Ljava/lang/Object;Ljava/lang/String;)Ljava/lang/Object;")] 89

def k13m0 : Method := { name := "<init>", desc := "()V", sig := { parameters := [], returnType := none }, accessFlags := 2, code := none }
def k13c1 : Code := { maxStack := 3, maxLocals := 2, code := jdk_31_method_11_code, exceptionTable := #[], attributes := #[] }
def k13m1 : Method := { name := "requireNonNull", desc := "(Ljava/lang/Object;Ljava/lang/String;)Ljava/lang/Object;", sig := { parameters := [(.object "java/lang/Object"), (.object "java/lang/String")], returnType := some (.object "java/lang/Object") }, accessFlags := 9, code := some k13c1 }
/-- java/util/Objects -/
def k13 : Class := { plain "java/util/Objects" (some 0) with
  accessFlags := 49
  interfaces := #[]
  cf := some (fileOf pool13 42 #[] #[{ accessFlags := 2, nameIndex := 5, descriptorIndex := 6, attributes := #[] }, { accessFlags := 9, nameIndex := 45, descriptorIndex := 94, attributes := #[] }] 49 2 #[] #[])
  fields := #[]
  methods := #[k13m0, k13m1]
  instanceTypes := #[]
  staticTypes := #[]
  resolved := Array.replicate 184 none
  statics := none }

def pool14 : Array CpInfo := pool [(1, .class_ 2), (0, u "com/example/plumeline/plumeline/LoadedMode"), (0, .methodref 4 5), (0, .class_ 6), (0, .nameAndType 7 8), (0, u "java/lang/Object"), (0, u "<init>"), (0, u "()V"), (0, .class_ 10), (0, u "com/example/plumeline/plumeline/AsmSample"), (0, .fieldref 12 13), (0, .class_ 14), (0, .nameAndType 15 16), (0, u "com/example/plumeline/plumeline/LoadedMode$Trace"), (0, u "samples"), (0, u "[Lcom/example/plumeline/plumeline/AsmSample;"), (0, .methodref 9 18), (0, .nameAndType 19 20), (0, u "tS"), (0, u "()J"), (0, .long 16), (1, .long 90), (164, u "add"), (0, u "(Lcom/example/plumeline/plumeline/AsmSample;)Z")] 21

def k14c0 : Code := { maxStack := 2, maxLocals := 1, code := prog_56_method_1_code, exceptionTable := #[], attributes := #[] }
def k14m0 : Method := { name := "<init>", desc := "()V", sig := { parameters := [], returnType := none }, accessFlags := 0, code := some k14c0 }
def k14c1 : Code := { maxStack := 4, maxLocals := 6, code := prog_56_method_2_code, exceptionTable := #[], attributes := #[] }
def k14m1 : Method := { name := "add", desc := "(Lcom/example/plumeline/plumeline/AsmSample;)Z", sig := { parameters := [(.object "com/example/plumeline/plumeline/AsmSample")], returnType := some .boolean }, accessFlags := 0, code := some k14c1 }
/-- com/example/plumeline/plumeline/LoadedMode$Trace -/
def k14 : Class := { plain "com/example/plumeline/plumeline/LoadedMode$Trace" (some 0) with
  accessFlags := 48
  interfaces := #[]
  cf := some (fileOf pool14 12 #[.nestHost 1] #[{ accessFlags := 0, nameIndex := 7, descriptorIndex := 8, attributes := #[] }, { accessFlags := 0, nameIndex := 188, descriptorIndex := 189, attributes := #[] }] 48 4 #[] #[{ accessFlags := 18, nameIndex := 15, descriptorIndex := 16, attributes := #[] }])
  fields := #[{ name := "samples", type := (.array (.object "com/example/plumeline/plumeline/AsmSample")), accessFlags := 18, slot := 0, constantValue := 0 }]
  methods := #[k14m0, k14m1]
  instanceTypes := #[(.array (.object "com/example/plumeline/plumeline/AsmSample"))]
  staticTypes := #[]
  resolved := Array.replicate 211 none
  statics := none }

def pool15 : Array CpInfo := pool [(1, u "java/lang/Cloneable"), (0, .class_ 1), (0, u "java/lang/Object"), (0, .class_ 3)] 3

/-- java/lang/Cloneable -/
def k15 : Class := { plain "java/lang/Cloneable" (some 0) with
  accessFlags := 1537
  interfaces := #[]
  cf := some (fileOf pool15 2 #[] #[] 1537 4 #[] #[])
  fields := #[]
  methods := #[]
  instanceTypes := #[]
  staticTypes := #[]
  resolved := Array.replicate 8 none
  statics := none }

/-- the primitive byte -/
def k16 : Class := { plain "byte" none with kind := .primitive 'B', accessFlags := 0x411 }
/-- [B -/
def k17 : Class := { plain "[B" (some 0) with kind := .array 16 .byte, interfaces := #[15, 4], accessFlags := 1041 }

/-- the primitive int -/
def k18 : Class := { plain "int" none with kind := .primitive 'I', accessFlags := 0x411 }
/-- [I -/
def k19 : Class := { plain "[I" (some 0) with kind := .array 18 .int, interfaces := #[15, 4], accessFlags := 1041 }

/-- [Lcom/example/plumeline/plumeline/AsmSample; -/
def k20 : Class := { plain "[Lcom/example/plumeline/plumeline/AsmSample;" (some 0) with kind := .array 9 (.object "com/example/plumeline/plumeline/AsmSample"), interfaces := #[15, 4], accessFlags := 1041 }

def heap : Heap := #[{ cls := 7, slots := #[.ref 1, .ref 2, .null], vm := .statics 7 },
  { cls := 7, slots := #[.null, .int 0, .int 0, .null], vm := .none },
  { cls := 7, slots := #[.null, .int 1, .int 0, .null], vm := .none }]
def classes : Array Class := #[k0, k1, k2, k3, k4, k5, k6, k7, k8, k9, k10, k11, k12, k13, k14, k15, k16, k17, k18, k19, k20]
def interned : List (Array UInt16 × Addr) := []
def slotsUsed : Nat := 11
def theMethod : MethodId := ⟨1, 2⟩
def args0 : Array Value := #[.long 20, .long 30, .int 3]
def aboutOver (below : List Frame) : State where
  vm := { classes := classes, interned := interned.toArray }
  heap := heap
  slotsUsed := slotsUsed
  threads := #[{ frames := .invoking theMethod args0 :: below }]
def below0 : List Frame := [.native { method := ⟨0, 0⟩, args := #[] }]
def about1 : State := aboutOver below0
def p0 : Program := .bare "" "" ""
def e0 : Env := launch0.env 0 0 0
theorem w_frames : about1.frames = Frame.invoking theMethod args0 :: below0 := rfl
set_option maxRecDepth 65536 in
theorem w_args : argsFit about1.vm theMethod args0 = true := by decide +kernel
set_option maxRecDepth 65536 in
theorem w_heap : heapFits about1 = true := by decide +kernel
set_option maxRecDepth 65536 in
theorem w_runnable : about1.curStatus? = some .runnable := by decide +kernel
set_option maxRecDepth 65536 in
theorem w_alone : about1.alone = true := by decide +kernel
set_option maxRecDepth 65536 in
theorem w_named : about1.methodNamed? x = some theMethod := by decide +kernel
set_option maxRecDepth 65536 in
theorem w_hears : about1.hears theMethod below0 = true := by decide +kernel
set_option maxRecDepth 65536 in
theorem w_ripe : about1.ripe theMethod args0 below0 = true := by decide +kernel
theorem w_running : about1.status = .running := rfl
set_option maxRecDepth 65536 in
theorem w_room : about1.hasRoom e0.platform room_1 = true :=
  launch0.hasRoom_least _ room_1 (by decide +kernel) (by decide +kernel) (by decide +kernel) (by decide +kernel) (by decide +kernel) (by decide +kernel)
theorem allAtoms_all (ts : List Jvm.Cond) (a : Array Jvm.Value) (st : Jvm.State) : (allAtoms ts).before a st = ts.all (fun c => c.before a st) := by
  induction ts with
  | nil => rfl
  | cons c t ih =>
    show (Jvm.Cond.and c (allAtoms t)).before a st = _
    rw [Jvm.Cond.before_and, ih, List.all_cons]
def words1 : List Jvm.Cond := Jvm.Cond.code x code maxLocals ret :: tables_1
/-- a 'code' word, met by the world's own term for the bytes: nothing is compared byte by byte -/
theorem code_word {y : MethodName} {bytes : ByteArray} {mx : Nat} {rt : Option FieldType} {a : Array Value} {s : State} {m : MethodId} {meth : Method} {c : Code} (h1 : s.methodNamed? y = some m) (h2 : s.vm.method? m = some meth) (h3 : meth.code = some c) (h4 : c.code = bytes)
    (h5 : (c.maxLocals == mx && c.exceptionTable.isEmpty && decide (c.maxStack ≤ mostOperands) && decide (meth.sig.returnType = rt) && !meth.locks && decide (parseMethodDescriptor y.desc = some meth.sig)) = true) : (Jvm.Cond.code y bytes mx rt).before a s = true := by
  simp only [Bool.and_eq_true, beq_iff_eq, Bool.not_eq_true', decide_eq_true_eq] at h5
  obtain ⟨⟨⟨⟨⟨g1, g2⟩, g3⟩, g4⟩, g5⟩, g6⟩ := h5
  simp [Cond.before, Cond.holds, Cond.value, h1, h2, h3, h4, g1, g2, g3, g4, g5, g6]
def isCode : Jvm.Cond → Bool
  | .code _ _ _ _ => true
  | _ => false
theorem all_split {L : List Jvm.Cond} {P : Jvm.Cond → Bool} (h1 : L.all (fun c => isCode c || P c) = true) (h2 : ∀ c ∈ L.filter isCode, P c = true) : L.all P = true := by
  refine List.all_eq_true.mpr fun c hc => ?_
  have h := List.all_eq_true.mp h1 c hc
  rcases Bool.eq_false_or_eq_true (isCode c) with hi | hi
  · exact h2 c (List.mem_filter.mpr ⟨hc, hi⟩)
  · simpa [hi] using h
set_option maxRecDepth 65536 in
theorem w_c0 : (Jvm.Cond.code x code maxLocals ret).before args0 about1 = true := code_word (m := ⟨1, 2⟩) (meth := k1m2) (c := k1c2) (by decide +kernel) rfl rfl rfl (by decide +kernel)
set_option maxRecDepth 65536 in
theorem w_c1 : (Jvm.Cond.code ({ cls := "com/example/plumeline/plumeline/AsmSample", name := "<init>", desc := "(Lcom/example/plumeline/plumeline/LoadedMode$Mode;JDDDDD)V" } : Jvm.MethodName) prog_11_method_1_code (14 : Nat) (Option.none : Option Jvm.ClassFile.FieldType)).before args0 about1 = true := code_word (m := ⟨9, 0⟩) (meth := k9m0) (c := k9c0) (by decide +kernel) rfl rfl rfl (by decide +kernel)
set_option maxRecDepth 65536 in
theorem w_c2 : (Jvm.Cond.code ({ cls := "java/lang/Record", name := "<init>", desc := "()V" } : Jvm.MethodName) jdk_30_method_1_code (1 : Nat) (Option.none : Option Jvm.ClassFile.FieldType)).before args0 about1 = true := code_word (m := ⟨8, 0⟩) (meth := k8m0) (c := k8c0) (by decide +kernel) rfl rfl rfl (by decide +kernel)
set_option maxRecDepth 65536 in
theorem w_c3 : (Jvm.Cond.code ({ cls := "java/lang/Object", name := "<init>", desc := "()V" } : Jvm.MethodName) object_method_1_code (1 : Nat) (Option.none : Option Jvm.ClassFile.FieldType)).before args0 about1 = true := code_word (m := ⟨0, 0⟩) (meth := k0m0) (c := k0c0) (by decide +kernel) rfl rfl rfl (by decide +kernel)
set_option maxRecDepth 65536 in
theorem w_c4 : (Jvm.Cond.code ({ cls := "java/util/Objects", name := "requireNonNull", desc := "(Ljava/lang/Object;Ljava/lang/String;)Ljava/lang/Object;" } : Jvm.MethodName) jdk_31_method_11_code (2 : Nat) (Option.some (Jvm.ClassFile.FieldType.object "java/lang/Object"))).before args0 about1 = true := code_word (m := ⟨13, 1⟩) (meth := k13m1) (c := k13c1) (by decide +kernel) rfl rfl rfl (by decide +kernel)
set_option maxRecDepth 65536 in
theorem w_c5 : (Jvm.Cond.code ({ cls := "com/example/plumeline/plumeline/LoadedMode$Trace", name := "<init>", desc := "()V" } : Jvm.MethodName) prog_56_method_1_code (1 : Nat) (Option.none : Option Jvm.ClassFile.FieldType)).before args0 about1 = true := code_word (m := ⟨14, 0⟩) (meth := k14m0) (c := k14c0) (by decide +kernel) rfl rfl rfl (by decide +kernel)
set_option maxRecDepth 65536 in
theorem w_c6 : (Jvm.Cond.code ({ cls := "com/example/plumeline/plumeline/LoadedMode$Trace", name := "add", desc := "(Lcom/example/plumeline/plumeline/AsmSample;)Z" } : Jvm.MethodName) prog_56_method_2_code (6 : Nat) (Option.some Jvm.ClassFile.FieldType.boolean)).before args0 about1 = true := code_word (m := ⟨14, 1⟩) (meth := k14m1) (c := k14c1) (by decide +kernel) rfl rfl rfl (by decide +kernel)
set_option maxRecDepth 65536 in
theorem w_c7 : (Jvm.Cond.code ({ cls := "com/example/plumeline/plumeline/AsmSample", name := "tS", desc := "()J" } : Jvm.MethodName) prog_11_method_6_code (1 : Nat) (Option.some Jvm.ClassFile.FieldType.long)).before args0 about1 = true := code_word (m := ⟨9, 1⟩) (meth := k9m1) (c := k9c1) (by decide +kernel) rfl rfl rfl (by decide +kernel)
set_option maxRecDepth 65536 in
theorem w_c8 : (Jvm.Cond.code ({ cls := "com/example/plumeline/plumeline/TraceAddPinLaw", name := "inWindow", desc := "(J)Z" } : Jvm.MethodName) method_2_code (2 : Nat) (Option.some Jvm.ClassFile.FieldType.boolean)).before args0 about1 = true := code_word (m := ⟨1, 1⟩) (meth := k1m1) (c := k1c1) (by decide +kernel) rfl rfl rfl (by decide +kernel)
def codes1 : List Jvm.Cond := [Jvm.Cond.code x code maxLocals ret, Jvm.Cond.code ({ cls := "com/example/plumeline/plumeline/AsmSample", name := "<init>", desc := "(Lcom/example/plumeline/plumeline/LoadedMode$Mode;JDDDDD)V" } : Jvm.MethodName) prog_11_method_1_code (14 : Nat) (Option.none : Option Jvm.ClassFile.FieldType), Jvm.Cond.code ({ cls := "java/lang/Record", name := "<init>", desc := "()V" } : Jvm.MethodName) jdk_30_method_1_code (1 : Nat) (Option.none : Option Jvm.ClassFile.FieldType), Jvm.Cond.code ({ cls := "java/lang/Object", name := "<init>", desc := "()V" } : Jvm.MethodName) object_method_1_code (1 : Nat) (Option.none : Option Jvm.ClassFile.FieldType), Jvm.Cond.code ({ cls := "java/util/Objects", name := "requireNonNull", desc := "(Ljava/lang/Object;Ljava/lang/String;)Ljava/lang/Object;" } : Jvm.MethodName) jdk_31_method_11_code (2 : Nat) (Option.some (Jvm.ClassFile.FieldType.object "java/lang/Object")), Jvm.Cond.code ({ cls := "com/example/plumeline/plumeline/LoadedMode$Trace", name := "<init>", desc := "()V" } : Jvm.MethodName) prog_56_method_1_code (1 : Nat) (Option.none : Option Jvm.ClassFile.FieldType), Jvm.Cond.code ({ cls := "com/example/plumeline/plumeline/LoadedMode$Trace", name := "add", desc := "(Lcom/example/plumeline/plumeline/AsmSample;)Z" } : Jvm.MethodName) prog_56_method_2_code (6 : Nat) (Option.some Jvm.ClassFile.FieldType.boolean), Jvm.Cond.code ({ cls := "com/example/plumeline/plumeline/AsmSample", name := "tS", desc := "()J" } : Jvm.MethodName) prog_11_method_6_code (1 : Nat) (Option.some Jvm.ClassFile.FieldType.long), Jvm.Cond.code ({ cls := "com/example/plumeline/plumeline/TraceAddPinLaw", name := "inWindow", desc := "(J)Z" } : Jvm.MethodName) method_2_code (2 : Nat) (Option.some Jvm.ClassFile.FieldType.boolean)]
set_option maxRecDepth 65536 in
theorem codes_eq : words1.filter isCode = codes1 := rfl
theorem w_codes : ∀ c ∈ words1.filter isCode, c.before args0 about1 = true := by
  rw [codes_eq]
  intro c hc
  simp only [codes1, List.mem_cons, List.not_mem_nil, or_false] at hc
  rcases hc with rfl | rfl | rfl | rfl | rfl | rfl | rfl | rfl | rfl
  · exact w_c0
  · exact w_c1
  · exact w_c2
  · exact w_c3
  · exact w_c4
  · exact w_c5
  · exact w_c6
  · exact w_c7
  · exact w_c8
set_option maxRecDepth 65536 in
theorem w_t1 : (words1.take 24).all (fun c => isCode c || c.before args0 about1) = true := by decide +kernel
set_option maxRecDepth 65536 in
theorem w_t2 : ((words1.drop 24).take 24).all (fun c => isCode c || c.before args0 about1) = true := by decide +kernel
set_option maxRecDepth 65536 in
theorem w_t3 : (((words1.drop 24).drop 24).take 24).all (fun c => isCode c || c.before args0 about1) = true := by decide +kernel
set_option maxRecDepth 65536 in
theorem w_t4 : (((words1.drop 24).drop 24).drop 24).all (fun c => isCode c || c.before args0 about1) = true := by decide +kernel
theorem w_tables : (allAtoms (Jvm.Cond.code x code maxLocals ret :: tables_1)).before args0 about1 = true := by
  rw [allAtoms_all]
  show words1.all (fun c => c.before args0 about1) = true
  refine all_split ?_ w_codes
  rw [← List.take_append_drop 24 words1, List.all_append, w_t1, ← List.take_append_drop 24 (words1.drop 24), List.all_append, w_t2, ← List.take_append_drop 24 ((words1.drop 24).drop 24), List.all_append, w_t3, w_t4]
  rfl
set_option maxRecDepth 65536 in
theorem w_case : (Jvm.Cond.and given_1 narrow_1).before args0 about1 = true := by decide +kernel
theorem w_applies : (headSpec (Jvm.Cond.code x code maxLocals ret :: tables_1) room_1).applies x e0.platform about1 = true :=
  (Spec.applies_iff w_frames).mpr ⟨w_running, w_runnable, w_alone, w_named, w_hears, w_ripe, w_room, w_tables⟩
theorem atStart : AtStart classFile x code maxLocals ret World_1 tables_1 room_1 Calls_1 rest_1 Pre_1 launch0 p0 e0 about1 theMethod args0 below0 :=
  ⟨lists_1, trivial, launch0.admits_env _ _ _, launch0.least_env, fairChoices_fair.cas, fairChoices_fair.clock, w_frames, w_args, w_heap, w_applies, trivial, trivial, w_case⟩
end start1
theorem witness_1 : WitnessClaimed_1 := ⟨start1.p0, start1.e0, start1.about1, start1.theMethod, start1.args0, start1.below0, start1.atStart⟩
end Jvm.Pilot.@@N@@
