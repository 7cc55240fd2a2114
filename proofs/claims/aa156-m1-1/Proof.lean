import JvmDerived
import JvmDerived.Pilot.@@N@@Statement
import JvmDerived.Pilot.@@N@@Code
set_option linter.unusedVariables false
set_option linter.unusedSimpArgs false
@@BLOCK:NumsL.lean.txt@@
namespace Jvm.Pilot.@@N@@
open Jvm Jvm.ClassFile Sem Op Lib Jvm.Free Jvm.Stand Jvm.LawKit Jvm.RoadKit Bundle Jvm.Pilot.@@N@@.Jvm.D
section Own
variable {p : Program} {l : Launch} {e : Env} {R : Room} {s : State} {m : MethodId} {args : Array Value} {below : List Frame} {meth : Method} {c : Code} {T : State} {locs : List Loc} {cells slots : Nat}
/-- from A the run ends, and what it leaves is as Q says -/
def own_go (p : Program) (e : Env) (below : List Frame) (s : State) (Q : Option Value → Heap → List Loc → Prop) (C S : Nat) (A : State) : Prop :=
  ∃ t o, Steps p.tables e below A t ∧ t.status = .running ∧ Ended t below o ∧ ∃ v L, o = .returned v ∧ Q v t.heap L ∧ FrameEnd s o t L C S
variable {Q : Option Value → Heap → List Loc → Prop} {C S : Nat} {A B : State}
theorem own_in (h : own_go p e below s Q C S A) : ∃ t o, Steps p.tables e below A t ∧ t.status = .running ∧ Ended t below o ∧ ∃ v L, o = .returned v ∧ Q v t.heap L ∧ FrameEnd s o t L C S := h
theorem own_of (k : ∀ t, Steps p.tables e below B t → Steps p.tables e below A t) (h : own_go p e below s Q C S B) : own_go p e below s Q C S A := by
  obtain ⟨t, o, h1, h2⟩ := h
  exact ⟨t, o, k t h1, h2⟩
theorem own_use {α : Type} (X : Stand p l e R s m args below meth c T locs cells slots) {h : Heap} {g : α → JFrame} {G : State → Prop} (k : ∀ (r : α) (T' : State), Stand p l e R s m args below meth c T' locs cells slots → T'.heap = h → G (T'.setTop (g r)))
    (b : (∀ (r : α) (T' : State), Stand p l e R s m args below meth c T' locs cells slots → T'.heap = h → G (T'.setTop (g r))) → G A) : G A := b k
theorem own_ret (X : Stand p l e R s m args below meth c T locs cells slots) (hx : p.tables.exec = Jvm.exec) (hlk : meth.locks = false) {pc : Nat} {Ls : Array Slot} {w : Value} {t : FieldType} {i : Instr} {rest : List Value} (hret : meth.sig.returnType = some t) (hn : narrow t w = w)
    (hi : (i = .ireturn ∧ (t = .int ∨ t = .boolean ∨ t = .byte ∨ t = .char ∨ t = .short) ∧ ∃ z, w = .int z) ∨ (i = .lreturn ∧ t = .long ∧ ∃ z, w = .long z) ∨ (i = .dreturn ∧ t = .double ∧ ∃ z, w = .double z) ∨ (i = .freturn ∧ t = .float ∧ ∃ z, w = .float z) ∨ (i = .areturn ∧ t.isReference = true ∧ w.isRef = true))
    (hd : decode c.code pc = .ok (i, 1)) (hc : cells ≤ C) (hs : slots ≤ S) (hQ : Q (some w) T.heap locs) : own_go p e below s Q C S (T.setTop (mkF m pc Ls (w :: rest))) := by
  obtain ⟨fs, hr, hrun, hended, hW, hsame⟩ := X.leave (v := some w) (fun h => by rw [hret] at h; cases h) hlk
  exact ⟨_, _, retOut X hx hret hn hi hd hr, hrun, hended, _, _, rfl, hQ, ⟨_, rfl⟩, hW, hsame.mono hc hs⟩
theorem own_retV (X : Stand p l e R s m args below meth c T locs cells slots) (hx : p.tables.exec = Jvm.exec) (hlk : meth.locks = false) {pc : Nat} {Ls : Array Slot} (hret : meth.sig.returnType = none)
    (hd : decode c.code pc = .ok (.return_, 1)) (hc : cells ≤ C) (hs : slots ≤ S) (hQ : Q none T.heap locs) : own_go p e below s Q C S (T.setTop (mkF m pc Ls [])) := by
  obtain ⟨fs, hr, hrun, hended, hW, hsame⟩ := X.leave (v := none) (fun _ => rfl) hlk
  exact ⟨_, _, X.returnOut hx hret hd hr, hrun, hended, _, _, rfl, hQ, ⟨_, rfl⟩, hW, hsame.mono hc hs⟩
/-- the same where String constants may have been loaded -/
def own_gw (p : Program) (e : Env) (below : List Frame) (s : State) (Q : Option Value → Heap → List Loc → Prop) (C S : Nat) (A : State) : Prop :=
  ∃ t o, Steps p.tables e below A t ∧ t.status = .running ∧ Ended t below o ∧ ∃ v L, o = .returned v ∧ Q v t.heap L ∧ ReturnedEndW s o t L C S
theorem own_inw (h : own_gw p e below s Q C S A) : ∃ t o, Steps p.tables e below A t ∧ t.status = .running ∧ Ended t below o ∧ ∃ v L, o = .returned v ∧ Q v t.heap L ∧ ReturnedEndW s o t L C S := h
theorem own_ofw (k : ∀ t, Steps p.tables e below B t → Steps p.tables e below A t) (h : own_gw p e below s Q C S B) : own_gw p e below s Q C S A := by
  obtain ⟨t, o, h1, h2⟩ := h
  exact ⟨t, o, k t h1, h2⟩
theorem own_retw {vm0 : Vm} {k0 : Nat} (X : Stand p l e R (s.setVm vm0) m args below meth c T locs cells slots) (hx : p.tables.exec = Jvm.exec) (hlk : meth.locks = false) (hS : s.Since vm0 k0) (hk : k0 ≤ T.heap.size) {pc : Nat} {Ls : Array Slot} {w : Value} {t : FieldType} {i : Instr} {rest : List Value} (hret : meth.sig.returnType = some t) (hn : narrow t w = w)
    (hi : (i = .ireturn ∧ (t = .int ∨ t = .boolean ∨ t = .byte ∨ t = .char ∨ t = .short) ∧ ∃ z, w = .int z) ∨ (i = .lreturn ∧ t = .long ∧ ∃ z, w = .long z) ∨ (i = .dreturn ∧ t = .double ∧ ∃ z, w = .double z) ∨ (i = .freturn ∧ t = .float ∧ ∃ z, w = .float z) ∨ (i = .areturn ∧ t.isReference = true ∧ w.isRef = true))
    (hd : decode c.code pc = .ok (i, 1)) (hc : cells ≤ C) (hs : slots ≤ S) (hQ : Q (some w) T.heap locs) : own_gw p e below s Q C S (T.setTop (mkF m pc Ls (w :: rest))) := by
  obtain ⟨fs, hr, hrun, hended, h1, h2, h3, h4⟩ := X.leaveW hS hk (v := some w) (fun h => by rw [hret] at h; cases h) hlk
  exact ⟨_, _, retOut X hx hret hn hi hd hr, hrun, hended, _, _, rfl, hQ, h1, h2, h3, h4.mono hc hs⟩
theorem own_retVw {vm0 : Vm} {k0 : Nat} (X : Stand p l e R (s.setVm vm0) m args below meth c T locs cells slots) (hx : p.tables.exec = Jvm.exec) (hlk : meth.locks = false) (hS : s.Since vm0 k0) (hk : k0 ≤ T.heap.size) {pc : Nat} {Ls : Array Slot} (hret : meth.sig.returnType = none)
    (hd : decode c.code pc = .ok (.return_, 1)) (hc : cells ≤ C) (hs : slots ≤ S) (hQ : Q none T.heap locs) : own_gw p e below s Q C S (T.setTop (mkF m pc Ls [])) := by
  obtain ⟨fs, hr, hrun, hended, h1, h2, h3, h4⟩ := X.leaveW hS hk (v := none) (fun _ => rfl) hlk
  exact ⟨_, _, X.returnOut hx hret hd hr, hrun, hended, _, _, rfl, hQ, h1, h2, h3, h4.mono hc hs⟩
/-- the same, with what the JVM holds for the constants of EL -/
def own_gc (p : Program) (e : Env) (below : List Frame) (s : State) (Z : State) (EL : List (String × Nat)) (Q : Option Value → Heap → List Loc → Prop) (C S : Nat) (A : State) : Prop :=
  ∃ t o, Steps p.tables e below A t ∧ t.status = .running ∧ Ended t below o ∧ ∃ v L, o = .returned v ∧ Q v t.heap L ∧ CHr Z EL s.vm s.heap t.vm t.heap ∧ ReturnedEndW s o t L C S
variable {Z : State} {EL : List (String × Nat)} {a0 : Array Value}
theorem own_inc (h : own_gc p e below s Z EL Q C S A) : ∃ t o, Steps p.tables e below A t ∧ t.status = .running ∧ Ended t below o ∧ ∃ v L, o = .returned v ∧ Q v t.heap L ∧ CHr Z EL s.vm s.heap t.vm t.heap ∧ ReturnedEndW s o t L C S := h
theorem own_ofc (k : ∀ t, Steps p.tables e below B t → Steps p.tables e below A t) (h : own_gc p e below s Z EL Q C S B) : own_gc p e below s Z EL Q C S A := by
  obtain ⟨t, o, h1, h2⟩ := h
  exact ⟨t, o, k t h1, h2⟩
theorem own_retc {vm0 : Vm} {k0 : Nat} (X : Stand p l e R (s.setVm vm0) m args below meth c T locs cells slots) (hx : p.tables.exec = Jvm.exec) (hlk : meth.locks = false) (hS : s.Since vm0 k0) (hk : k0 ≤ T.heap.size) (hZ : Z.Warmed39 vm0) (hEL : EW Z a0 EL) (H : CHr Z EL s.vm s.heap vm0 T.heap) {pc : Nat} {Ls : Array Slot} {w : Value} {t : FieldType} {i : Instr} {rest : List Value} (hret : meth.sig.returnType = some t) (hn : narrow t w = w)
    (hi : (i = .ireturn ∧ (t = .int ∨ t = .boolean ∨ t = .byte ∨ t = .char ∨ t = .short) ∧ ∃ z, w = .int z) ∨ (i = .lreturn ∧ t = .long ∧ ∃ z, w = .long z) ∨ (i = .dreturn ∧ t = .double ∧ ∃ z, w = .double z) ∨ (i = .freturn ∧ t = .float ∧ ∃ z, w = .float z) ∨ (i = .areturn ∧ t.isReference = true ∧ w.isRef = true))
    (hd : decode c.code pc = .ok (i, 1)) (hc : cells ≤ C) (hs : slots ≤ S) (hQ : Q (some w) T.heap locs) : own_gc p e below s Z EL Q C S (T.setTop (mkF m pc Ls (w :: rest))) := by
  obtain ⟨fs, hr, hrun, hended, h1, h2, h3, h4⟩ := X.leaveW hS hk (v := some w) (fun h => by rw [hret] at h; cases h) hlk
  have q : CHr Z EL s.vm s.heap T.vm T.heap := H.trans (CHv.at X hZ hEL H.1)
  exact ⟨_, _, retOut X hx hret hn hi hd hr, hrun, hended, _, _, rfl, hQ, q, h1, h2, h3, h4.mono hc hs⟩
theorem own_retVc {vm0 : Vm} {k0 : Nat} (X : Stand p l e R (s.setVm vm0) m args below meth c T locs cells slots) (hx : p.tables.exec = Jvm.exec) (hlk : meth.locks = false) (hS : s.Since vm0 k0) (hk : k0 ≤ T.heap.size) (hZ : Z.Warmed39 vm0) (hEL : EW Z a0 EL) (H : CHr Z EL s.vm s.heap vm0 T.heap) {pc : Nat} {Ls : Array Slot} (hret : meth.sig.returnType = none)
    (hd : decode c.code pc = .ok (.return_, 1)) (hc : cells ≤ C) (hs : slots ≤ S) (hQ : Q none T.heap locs) : own_gc p e below s Z EL Q C S (T.setTop (mkF m pc Ls [])) := by
  obtain ⟨fs, hr, hrun, hended, h1, h2, h3, h4⟩ := X.leaveW hS hk (v := none) (fun _ => rfl) hlk
  have q : CHr Z EL s.vm s.heap T.vm T.heap := H.trans (CHv.at X hZ hEL H.1)
  exact ⟨_, _, X.returnOut hx hret hd hr, hrun, hended, _, _, rfl, hQ, q, h1, h2, h3, h4.mono hc hs⟩
open Jvm.Free.SB Jvm.Free.SBG in
/-- a String that has no array yet is no constant's -/
theorem own_safe_null {vm : Vm} {h : Heap} {x : Addr} (hal : Z.vm.Alike vm) (E : Exa Z h x "java/lang/String") (F : Fld Z h x "java/lang/String" "value" "[B" .null) : Safe Z EL vm h x := fun B => by
  obtain ⟨p, -, u, a, -, q, -, F', rfl | rfl⟩ := B
  · obtain ⟨cS, ⟨⟨s1, s2, s3, ⟨cv, kv, iv, s4, s4'⟩, s5, s6, s7, s8, -⟩, -, -⟩, -⟩ := F'
    obtain ⟨cell, cf, k, i, f, h1, h2, h3, -, -, -, h7⟩ := F
    cases (show h[q.sa]? = some q.sC from s1).symm.trans h1
    obtain ⟨kv', z4⟩ := ff_back (U := Wst Z vm h) hal s4
    have e4 := z4.symm.trans h2
    simp only [Option.some.injEq, Prod.mk.injEq] at e4
    rw [e4.2.2.2] at s8
    have := s8.symm.trans h7
    simp at this
  · obtain ⟨cell, k, e1, e2, e3, -, -⟩ := E
    cases (show h[q.sd]? = some q.SA from F'.hd).symm.trans e1
    obtain ⟨cS, -, -, f, -⟩ := F'
    have f' : vm.findClass "[B" = some q.SA.cls := f
    rw [hal.findClass] at f'
    obtain ⟨k1, q1, q2⟩ := Vm.findClass_spec f'
    obtain ⟨k2, q3, q4⟩ := Vm.findClass_spec e2
    cases q1.symm.trans q3
    have := q2.symm.trans q4
    simp at this
theorem own_ex {t : Term} {K : String} (h : (Jvm.Cond.exactly t K).value args s none s [] = some true) : ∃ a, t.eval args s none [] s = some (.ref a) ∧ Exa s s.heap a K := by
  obtain ⟨a, ha⟩ := exa_v h
  exact ⟨a, ha, Exa.start ha h⟩
theorem own_fi {t : Term} {K n d : String} {a : Addr} {k : Int32} (ht : t.eval args s none [] s = some (.ref a)) (h : (Jvm.Cond.eq (Term.field t K n d) (Term.int k)).value args s none s [] = some true) : Fld s s.heap a K n d (.int k) := by
  obtain ⟨x, y, h1, h2, h3, h4⟩ := cmp_v (Or.inl h)
  have e2 := Option.some.inj ((Term.int_eval k).symm.trans h2)
  subst e2
  rw [fld_at ht] at h1
  obtain ⟨z, rfl⟩ := h4
  have hz : s.fieldOf? a K n d = some (.int z) := h1
  have : z = k := by
    have h5 : (Term.field t K n d).eval args s none [] s = some (.int z) := (fld_at ht).trans hz
    simpa [Cond.value, h5, Term.int_eval] using h
  subst this
  exact Fld.start hz
end Own
theorem ef_rm1_0 (m : MethodId) (x0 : Int32) : entryFrame m #[(.int x0)] 2 = mkF m 0 #[.val (.int x0), .unset] [] := by first | (simp [entryFrame, mkF, argsToLocals, Value.category]; done) | rfl
theorem pn_0 : plainName "com/example/sachfeld/sachfeld/SchemeFollowsMainGroupPinLaw" = true := by first | (simp [plainName, overriddenIn]; done) | decide +kernel
theorem d1_0 : decode method_2_code 0 = .ok (.iload_n 0, 1) := by decide +kernel
theorem d1_1 : decode method_2_code 1 = .ok (.ifCond .ne 10, 3) := by decide +kernel
theorem d1_4 : decode method_2_code 4 = .ok (.getstatic 7, 3) := by decide +kernel
theorem d1_7 : decode method_2_code 7 = .ok (.astore_n 1, 1) := by decide +kernel
theorem d1_8 : decode method_2_code 8 = .ok (.goto 43, 3) := by decide +kernel
theorem d1_51 : decode method_2_code 51 = .ok (.aload_n 1, 1) := by decide +kernel
theorem d1_52 : decode method_2_code 52 = .ok (.areturn, 1) := by decide +kernel
def Q_rm1_0 (Z : State) (w : Addr) (h0 : Heap) (n0 : Nat) (v : Option Value) (h : Heap) (L : List Loc) : Prop := v = some (.ref w) ∧ Fr n0 L ∧ h = h0
set_option maxRecDepth 65536 in
set_option maxHeartbeats 40000000 in
theorem rm1_0 (l : Launch) (Z : State) (a0 : Array Value) (hw : ∀ d ∈ tables_1, d.before a0 Z = true) (ws : List Jvm.Cond) (w : Addr) (h0 : Heap) (n0 : Nat) (S_DDC : Sta Z Z.heap "com/example/sachfeld/sachfeld/SubjectGroup$Scheme" "DDC" "Lcom/example/sachfeld/sachfeld/SubjectGroup$Scheme;" (.ref w)) (XO0 : Old Z n0 h0) :
    MetFree l (⟨"com/example/sachfeld/sachfeld/SchemeFollowsMainGroupPinLaw", "pick", "(I)Lcom/example/sachfeld/sachfeld/SubjectGroup$Scheme;"⟩ : MethodName) (head1 (Jvm.Cond.code (⟨"com/example/sachfeld/sachfeld/SchemeFollowsMainGroupPinLaw", "pick", "(I)Lcom/example/sachfeld/sachfeld/SubjectGroup$Scheme;"⟩ : MethodName) method_2_code 2 (some (.object "com/example/sachfeld/sachfeld/SubjectGroup$Scheme")) :: ws) ({ frames := 0, cells := 0, slots := 0, locals := 0 } : Room)) (fun zz_ U => zz_ = #[(.int (0 : Int32))] ∧ Z.Warmed39 U.vm ∧ U.heap = h0) (fun _ _ _ _ _ => True) (fun _ U o U' => ∃ v L, o = .returned v ∧ Q_rm1_0 Z w h0 n0 v U'.heap L ∧ FrameEnd U o U' L ({ frames := 0, cells := 0, slots := 0, locals := 0 } : Room).cells ({ frames := 0, cells := 0, slots := 0, locals := 0 } : Room).slots) := by
  refine MetFree.of_bodySF (plainFor_of_name pn_0) hisR ?_
  intro p e s m args below meth c s₁ Bd hml0 hP hK
  obtain ⟨rfl, hZ, hh⟩ := hP
  have hx := Bd.exec
  have hby := Bd.bytes
  have hlk := Bd.notSynchronized
  have hW : ∀ (i : Nat) (d : Jvm.Cond), tables_1[i]? = some d → d.before a0 Z = true := fun i d h => hw d (List.mem_of_getElem? h)
  have hml : c.maxLocals = 2 := hml0
  have hown : s.vm.findClass "com/example/sachfeld/sachfeld/SchemeFollowsMainGroupPinLaw" = some m.cls := findClass_of_methodNamed Bd.named
  have hnm := (name_of_methodNamed Bd.named Bd.method).1
  have X0 : Stand p l e ({ frames := 0, cells := 0, slots := 0, locals := 0 } : Room) s m #[(.int (0 : Int32))] below meth c s₁ [] 0 0 := Stand.of_body Bd
  have e0 : s₁.heap = h0 := by rw [← hh, Bd.state]; rfl
  have N0 := Fr.nil n0
  refine own_in ?_
  refine own_of (fun t k => castTop (ef_rm1_0 m (0 : Int32)) k) ?_
  show own_go p e below s _ _ _ (s₁.setTop (mkF m 0 #[.val (.int (0 : Int32)), .unset] []))
  refine own_of (fun t => XS.iloadN X0.here hx rfl (hb hby d1_0) rfl) ?_
  show own_go p e below s _ _ _ (s₁.setTop (mkF m 1 #[.val (.int (0 : Int32)), .unset] [(.int (0 : Int32))]))
  have hb1_1 : (0 : Int32) = (0 : Int32) := by decide
  refine own_of (fun t => XS.ifNo X0.here hx rfl (hb hby d1_1) rfl ((if0 _ _).trans (teq hb1_1).2)) ?_
  show own_go p e below s _ _ _ (s₁.setTop (mkF m 4 #[.val (.int (0 : Int32)), .unset] []))
  obtain ⟨T2, X2, e2, st2⟩ := getS2 X0 hx hZ hown (host := "") (Or.inl (hW 5 _ rfl)) Via.refl e0 (S_DDC.ext XO0.2) (g := (mkF m 4 #[.val (.int (0 : Int32)), .unset] [])) rfl (hb hby d1_4)
  refine own_of st2 ?_
  show own_go p e below s _ _ _ (T2.setTop (mkF m 7 #[.val (.int (0 : Int32)), .unset] [(.ref w)]))
  refine own_of (fun t => XS.astoreN X2.here hx rfl (hb hby d1_7) rfl rfl (l' := #[.val (.int (0 : Int32)), .val (.ref w)]) rfl) ?_
  show own_go p e below s _ _ _ (T2.setTop (mkF m 8 #[.val (.int (0 : Int32)), .val (.ref w)] []))
  refine own_of (fun t => XS.goto X2.here hx rfl (pc0 := 8) (pc' := 51) rfl (hb hby d1_8) (by decide) (by decide)) ?_
  show own_go p e below s _ _ _ (T2.setTop (mkF m 51 #[.val (.int (0 : Int32)), .val (.ref w)] []))
  refine own_of (fun t => XS.aloadN X2.here hx rfl (hb hby d1_51) rfl rfl) ?_
  show own_go p e below s _ _ _ (T2.setTop (mkF m 52 #[.val (.int (0 : Int32)), .val (.ref w)] [(.ref w)]))
  refine own_ret X2 hx hlk Bd.returns rfl (Or.inr (Or.inr (Or.inr (Or.inr ⟨rfl, rfl, rfl⟩)))) (hb hby d1_52) (by decide) (by decide) ?_
  rw [e2]
  exact ⟨rfl, N0, rfl⟩
theorem ef_rm1_1 (m : MethodId) (x0 : Int32) : entryFrame m #[(.int x0)] 2 = mkF m 0 #[.val (.int x0), .unset] [] := by first | (simp [entryFrame, mkF, argsToLocals, Value.category]; done) | rfl
theorem d1_11 : decode method_2_code 11 = .ok (.iload_n 0, 1) := by decide +kernel
theorem d1_12 : decode method_2_code 12 = .ok (.iconst 1, 1) := by decide +kernel
theorem d1_13 : decode method_2_code 13 = .ok (.if_icmp .ne 10, 3) := by decide +kernel
theorem d1_16 : decode method_2_code 16 = .ok (.getstatic 13, 3) := by decide +kernel
theorem d1_19 : decode method_2_code 19 = .ok (.astore_n 1, 1) := by decide +kernel
theorem d1_20 : decode method_2_code 20 = .ok (.goto 31, 3) := by decide +kernel
def Q_rm1_1 (Z : State) (w : Addr) (h0 : Heap) (n0 : Nat) (v : Option Value) (h : Heap) (L : List Loc) : Prop := v = some (.ref w) ∧ Fr n0 L ∧ h = h0
set_option maxRecDepth 65536 in
set_option maxHeartbeats 40000000 in
theorem rm1_1 (l : Launch) (Z : State) (a0 : Array Value) (hw : ∀ d ∈ tables_1, d.before a0 Z = true) (ws : List Jvm.Cond) (w : Addr) (h0 : Heap) (n0 : Nat) (S_DNB1982 : Sta Z Z.heap "com/example/sachfeld/sachfeld/SubjectGroup$Scheme" "DNB1982" "Lcom/example/sachfeld/sachfeld/SubjectGroup$Scheme;" (.ref w)) (XO0 : Old Z n0 h0) :
    MetFree l (⟨"com/example/sachfeld/sachfeld/SchemeFollowsMainGroupPinLaw", "pick", "(I)Lcom/example/sachfeld/sachfeld/SubjectGroup$Scheme;"⟩ : MethodName) (head1 (Jvm.Cond.code (⟨"com/example/sachfeld/sachfeld/SchemeFollowsMainGroupPinLaw", "pick", "(I)Lcom/example/sachfeld/sachfeld/SubjectGroup$Scheme;"⟩ : MethodName) method_2_code 2 (some (.object "com/example/sachfeld/sachfeld/SubjectGroup$Scheme")) :: ws) ({ frames := 0, cells := 0, slots := 0, locals := 0 } : Room)) (fun zz_ U => zz_ = #[(.int (1 : Int32))] ∧ Z.Warmed39 U.vm ∧ U.heap = h0) (fun _ _ _ _ _ => True) (fun _ U o U' => ∃ v L, o = .returned v ∧ Q_rm1_1 Z w h0 n0 v U'.heap L ∧ FrameEnd U o U' L ({ frames := 0, cells := 0, slots := 0, locals := 0 } : Room).cells ({ frames := 0, cells := 0, slots := 0, locals := 0 } : Room).slots) := by
  refine MetFree.of_bodySF (plainFor_of_name pn_0) hisR ?_
  intro p e s m args below meth c s₁ Bd hml0 hP hK
  obtain ⟨rfl, hZ, hh⟩ := hP
  have hx := Bd.exec
  have hby := Bd.bytes
  have hlk := Bd.notSynchronized
  have hW : ∀ (i : Nat) (d : Jvm.Cond), tables_1[i]? = some d → d.before a0 Z = true := fun i d h => hw d (List.mem_of_getElem? h)
  have hml : c.maxLocals = 2 := hml0
  have hown : s.vm.findClass "com/example/sachfeld/sachfeld/SchemeFollowsMainGroupPinLaw" = some m.cls := findClass_of_methodNamed Bd.named
  have hnm := (name_of_methodNamed Bd.named Bd.method).1
  have X0 : Stand p l e ({ frames := 0, cells := 0, slots := 0, locals := 0 } : Room) s m #[(.int (1 : Int32))] below meth c s₁ [] 0 0 := Stand.of_body Bd
  have e0 : s₁.heap = h0 := by rw [← hh, Bd.state]; rfl
  have N0 := Fr.nil n0
  refine own_in ?_
  refine own_of (fun t k => castTop (ef_rm1_1 m (1 : Int32)) k) ?_
  show own_go p e below s _ _ _ (s₁.setTop (mkF m 0 #[.val (.int (1 : Int32)), .unset] []))
  refine own_of (fun t => XS.iloadN X0.here hx rfl (hb hby d1_0) rfl) ?_
  show own_go p e below s _ _ _ (s₁.setTop (mkF m 1 #[.val (.int (1 : Int32)), .unset] [(.int (1 : Int32))]))
  have hb1_1 : ¬ ((1 : Int32) = (0 : Int32)) := by decide
  refine own_of (fun t => XS.ifYes X0.here hx rfl (pc0 := 1) (pc' := 11) rfl (hb hby d1_1) rfl ((if0 _ _).trans (feq hb1_1).2) (by decide) (by decide)) ?_
  show own_go p e below s _ _ _ (s₁.setTop (mkF m 11 #[.val (.int (1 : Int32)), .unset] []))
  refine own_of (fun t => XS.iloadN X0.here hx rfl (hb hby d1_11) rfl) ?_
  show own_go p e below s _ _ _ (s₁.setTop (mkF m 12 #[.val (.int (1 : Int32)), .unset] [(.int (1 : Int32))]))
  refine own_of (fun t => XS.iconst X0.here hx rfl (hb hby d1_12)) ?_
  show own_go p e below s _ _ _ (s₁.setTop (mkF m 13 #[.val (.int (1 : Int32)), .unset] [(.int (1 : Int32)), (.int (1 : Int32))]))
  have hb13_2 : (1 : Int32) = (1 : Int32) := by decide
  refine own_of (fun t => XS.icmpNo X0.here hx rfl (hb hby d1_13) rfl (teq hb13_2).2) ?_
  show own_go p e below s _ _ _ (s₁.setTop (mkF m 16 #[.val (.int (1 : Int32)), .unset] []))
  obtain ⟨T3, X3, e3, st3⟩ := getS2 X0 hx hZ hown (host := "") (Or.inl (hW 17 _ rfl)) Via.refl e0 (S_DNB1982.ext XO0.2) (g := (mkF m 16 #[.val (.int (1 : Int32)), .unset] [])) rfl (hb hby d1_16)
  refine own_of st3 ?_
  show own_go p e below s _ _ _ (T3.setTop (mkF m 19 #[.val (.int (1 : Int32)), .unset] [(.ref w)]))
  refine own_of (fun t => XS.astoreN X3.here hx rfl (hb hby d1_19) rfl rfl (l' := #[.val (.int (1 : Int32)), .val (.ref w)]) rfl) ?_
  show own_go p e below s _ _ _ (T3.setTop (mkF m 20 #[.val (.int (1 : Int32)), .val (.ref w)] []))
  refine own_of (fun t => XS.goto X3.here hx rfl (pc0 := 20) (pc' := 51) rfl (hb hby d1_20) (by decide) (by decide)) ?_
  show own_go p e below s _ _ _ (T3.setTop (mkF m 51 #[.val (.int (1 : Int32)), .val (.ref w)] []))
  refine own_of (fun t => XS.aloadN X3.here hx rfl (hb hby d1_51) rfl rfl) ?_
  show own_go p e below s _ _ _ (T3.setTop (mkF m 52 #[.val (.int (1 : Int32)), .val (.ref w)] [(.ref w)]))
  refine own_ret X3 hx hlk Bd.returns rfl (Or.inr (Or.inr (Or.inr (Or.inr ⟨rfl, rfl, rfl⟩)))) (hb hby d1_52) (by decide) (by decide) ?_
  rw [e3]
  exact ⟨rfl, N0, rfl⟩
theorem ef_rm1_2 (m : MethodId) (x0 : Int32) : entryFrame m #[(.int x0)] 2 = mkF m 0 #[.val (.int x0), .unset] [] := by first | (simp [entryFrame, mkF, argsToLocals, Value.category]; done) | rfl
theorem d1_23 : decode method_2_code 23 = .ok (.iload_n 0, 1) := by decide +kernel
theorem d1_24 : decode method_2_code 24 = .ok (.iconst 2, 1) := by decide +kernel
theorem d1_25 : decode method_2_code 25 = .ok (.if_icmp .ne 10, 3) := by decide +kernel
theorem d1_28 : decode method_2_code 28 = .ok (.getstatic 16, 3) := by decide +kernel
theorem d1_31 : decode method_2_code 31 = .ok (.astore_n 1, 1) := by decide +kernel
theorem d1_32 : decode method_2_code 32 = .ok (.goto 19, 3) := by decide +kernel
def Q_rm1_2 (Z : State) (w : Addr) (h0 : Heap) (n0 : Nat) (v : Option Value) (h : Heap) (L : List Loc) : Prop := v = some (.ref w) ∧ Fr n0 L ∧ h = h0
set_option maxRecDepth 65536 in
set_option maxHeartbeats 40000000 in
theorem rm1_2 (l : Launch) (Z : State) (a0 : Array Value) (hw : ∀ d ∈ tables_1, d.before a0 Z = true) (ws : List Jvm.Cond) (w : Addr) (h0 : Heap) (n0 : Nat) (S_DB1981 : Sta Z Z.heap "com/example/sachfeld/sachfeld/SubjectGroup$Scheme" "DB1981" "Lcom/example/sachfeld/sachfeld/SubjectGroup$Scheme;" (.ref w)) (XO0 : Old Z n0 h0) :
    MetFree l (⟨"com/example/sachfeld/sachfeld/SchemeFollowsMainGroupPinLaw", "pick", "(I)Lcom/example/sachfeld/sachfeld/SubjectGroup$Scheme;"⟩ : MethodName) (head1 (Jvm.Cond.code (⟨"com/example/sachfeld/sachfeld/SchemeFollowsMainGroupPinLaw", "pick", "(I)Lcom/example/sachfeld/sachfeld/SubjectGroup$Scheme;"⟩ : MethodName) method_2_code 2 (some (.object "com/example/sachfeld/sachfeld/SubjectGroup$Scheme")) :: ws) ({ frames := 0, cells := 0, slots := 0, locals := 0 } : Room)) (fun zz_ U => zz_ = #[(.int (2 : Int32))] ∧ Z.Warmed39 U.vm ∧ U.heap = h0) (fun _ _ _ _ _ => True) (fun _ U o U' => ∃ v L, o = .returned v ∧ Q_rm1_2 Z w h0 n0 v U'.heap L ∧ FrameEnd U o U' L ({ frames := 0, cells := 0, slots := 0, locals := 0 } : Room).cells ({ frames := 0, cells := 0, slots := 0, locals := 0 } : Room).slots) := by
  refine MetFree.of_bodySF (plainFor_of_name pn_0) hisR ?_
  intro p e s m args below meth c s₁ Bd hml0 hP hK
  obtain ⟨rfl, hZ, hh⟩ := hP
  have hx := Bd.exec
  have hby := Bd.bytes
  have hlk := Bd.notSynchronized
  have hW : ∀ (i : Nat) (d : Jvm.Cond), tables_1[i]? = some d → d.before a0 Z = true := fun i d h => hw d (List.mem_of_getElem? h)
  have hml : c.maxLocals = 2 := hml0
  have hown : s.vm.findClass "com/example/sachfeld/sachfeld/SchemeFollowsMainGroupPinLaw" = some m.cls := findClass_of_methodNamed Bd.named
  have hnm := (name_of_methodNamed Bd.named Bd.method).1
  have X0 : Stand p l e ({ frames := 0, cells := 0, slots := 0, locals := 0 } : Room) s m #[(.int (2 : Int32))] below meth c s₁ [] 0 0 := Stand.of_body Bd
  have e0 : s₁.heap = h0 := by rw [← hh, Bd.state]; rfl
  have N0 := Fr.nil n0
  refine own_in ?_
  refine own_of (fun t k => castTop (ef_rm1_2 m (2 : Int32)) k) ?_
  show own_go p e below s _ _ _ (s₁.setTop (mkF m 0 #[.val (.int (2 : Int32)), .unset] []))
  refine own_of (fun t => XS.iloadN X0.here hx rfl (hb hby d1_0) rfl) ?_
  show own_go p e below s _ _ _ (s₁.setTop (mkF m 1 #[.val (.int (2 : Int32)), .unset] [(.int (2 : Int32))]))
  have hb1_1 : ¬ ((2 : Int32) = (0 : Int32)) := by decide
  refine own_of (fun t => XS.ifYes X0.here hx rfl (pc0 := 1) (pc' := 11) rfl (hb hby d1_1) rfl ((if0 _ _).trans (feq hb1_1).2) (by decide) (by decide)) ?_
  show own_go p e below s _ _ _ (s₁.setTop (mkF m 11 #[.val (.int (2 : Int32)), .unset] []))
  refine own_of (fun t => XS.iloadN X0.here hx rfl (hb hby d1_11) rfl) ?_
  show own_go p e below s _ _ _ (s₁.setTop (mkF m 12 #[.val (.int (2 : Int32)), .unset] [(.int (2 : Int32))]))
  refine own_of (fun t => XS.iconst X0.here hx rfl (hb hby d1_12)) ?_
  show own_go p e below s _ _ _ (s₁.setTop (mkF m 13 #[.val (.int (2 : Int32)), .unset] [(.int (1 : Int32)), (.int (2 : Int32))]))
  have hb13_2 : ¬ ((2 : Int32) = (1 : Int32)) := by decide
  refine own_of (fun t => XS.icmpYes X0.here hx rfl (pc0 := 13) (pc' := 23) rfl (hb hby d1_13) rfl (feq hb13_2).2 (by decide) (by decide)) ?_
  show own_go p e below s _ _ _ (s₁.setTop (mkF m 23 #[.val (.int (2 : Int32)), .unset] []))
  refine own_of (fun t => XS.iloadN X0.here hx rfl (hb hby d1_23) rfl) ?_
  show own_go p e below s _ _ _ (s₁.setTop (mkF m 24 #[.val (.int (2 : Int32)), .unset] [(.int (2 : Int32))]))
  refine own_of (fun t => XS.iconst X0.here hx rfl (hb hby d1_24)) ?_
  show own_go p e below s _ _ _ (s₁.setTop (mkF m 25 #[.val (.int (2 : Int32)), .unset] [(.int (2 : Int32)), (.int (2 : Int32))]))
  have hb25_3 : (2 : Int32) = (2 : Int32) := by decide
  refine own_of (fun t => XS.icmpNo X0.here hx rfl (hb hby d1_25) rfl (teq hb25_3).2) ?_
  show own_go p e below s _ _ _ (s₁.setTop (mkF m 28 #[.val (.int (2 : Int32)), .unset] []))
  obtain ⟨T4, X4, e4, st4⟩ := getS2 X0 hx hZ hown (host := "") (Or.inl (hW 20 _ rfl)) Via.refl e0 (S_DB1981.ext XO0.2) (g := (mkF m 28 #[.val (.int (2 : Int32)), .unset] [])) rfl (hb hby d1_28)
  refine own_of st4 ?_
  show own_go p e below s _ _ _ (T4.setTop (mkF m 31 #[.val (.int (2 : Int32)), .unset] [(.ref w)]))
  refine own_of (fun t => XS.astoreN X4.here hx rfl (hb hby d1_31) rfl rfl (l' := #[.val (.int (2 : Int32)), .val (.ref w)]) rfl) ?_
  show own_go p e below s _ _ _ (T4.setTop (mkF m 32 #[.val (.int (2 : Int32)), .val (.ref w)] []))
  refine own_of (fun t => XS.goto X4.here hx rfl (pc0 := 32) (pc' := 51) rfl (hb hby d1_32) (by decide) (by decide)) ?_
  show own_go p e below s _ _ _ (T4.setTop (mkF m 51 #[.val (.int (2 : Int32)), .val (.ref w)] []))
  refine own_of (fun t => XS.aloadN X4.here hx rfl (hb hby d1_51) rfl rfl) ?_
  show own_go p e below s _ _ _ (T4.setTop (mkF m 52 #[.val (.int (2 : Int32)), .val (.ref w)] [(.ref w)]))
  refine own_ret X4 hx hlk Bd.returns rfl (Or.inr (Or.inr (Or.inr (Or.inr ⟨rfl, rfl, rfl⟩)))) (hb hby d1_52) (by decide) (by decide) ?_
  rw [e4]
  exact ⟨rfl, N0, rfl⟩
theorem ef_rm1_3 (m : MethodId) (x0 : Int32) : entryFrame m #[(.int x0)] 2 = mkF m 0 #[.val (.int x0), .unset] [] := by first | (simp [entryFrame, mkF, argsToLocals, Value.category]; done) | rfl
theorem d1_35 : decode method_2_code 35 = .ok (.iload_n 0, 1) := by decide +kernel
theorem d1_36 : decode method_2_code 36 = .ok (.iconst 3, 1) := by decide +kernel
theorem d1_37 : decode method_2_code 37 = .ok (.if_icmp .ne 10, 3) := by decide +kernel
theorem d1_40 : decode method_2_code 40 = .ok (.getstatic 19, 3) := by decide +kernel
theorem d1_43 : decode method_2_code 43 = .ok (.astore_n 1, 1) := by decide +kernel
theorem d1_44 : decode method_2_code 44 = .ok (.goto 7, 3) := by decide +kernel
def Q_rm1_3 (Z : State) (w : Addr) (h0 : Heap) (n0 : Nat) (v : Option Value) (h : Heap) (L : List Loc) : Prop := v = some (.ref w) ∧ Fr n0 L ∧ h = h0
set_option maxRecDepth 65536 in
set_option maxHeartbeats 40000000 in
theorem rm1_3 (l : Launch) (Z : State) (a0 : Array Value) (hw : ∀ d ∈ tables_1, d.before a0 Z = true) (ws : List Jvm.Cond) (w : Addr) (h0 : Heap) (n0 : Nat) (S_DDR : Sta Z Z.heap "com/example/sachfeld/sachfeld/SubjectGroup$Scheme" "DDR" "Lcom/example/sachfeld/sachfeld/SubjectGroup$Scheme;" (.ref w)) (XO0 : Old Z n0 h0) :
    MetFree l (⟨"com/example/sachfeld/sachfeld/SchemeFollowsMainGroupPinLaw", "pick", "(I)Lcom/example/sachfeld/sachfeld/SubjectGroup$Scheme;"⟩ : MethodName) (head1 (Jvm.Cond.code (⟨"com/example/sachfeld/sachfeld/SchemeFollowsMainGroupPinLaw", "pick", "(I)Lcom/example/sachfeld/sachfeld/SubjectGroup$Scheme;"⟩ : MethodName) method_2_code 2 (some (.object "com/example/sachfeld/sachfeld/SubjectGroup$Scheme")) :: ws) ({ frames := 0, cells := 0, slots := 0, locals := 0 } : Room)) (fun zz_ U => zz_ = #[(.int (3 : Int32))] ∧ Z.Warmed39 U.vm ∧ U.heap = h0) (fun _ _ _ _ _ => True) (fun _ U o U' => ∃ v L, o = .returned v ∧ Q_rm1_3 Z w h0 n0 v U'.heap L ∧ FrameEnd U o U' L ({ frames := 0, cells := 0, slots := 0, locals := 0 } : Room).cells ({ frames := 0, cells := 0, slots := 0, locals := 0 } : Room).slots) := by
  refine MetFree.of_bodySF (plainFor_of_name pn_0) hisR ?_
  intro p e s m args below meth c s₁ Bd hml0 hP hK
  obtain ⟨rfl, hZ, hh⟩ := hP
  have hx := Bd.exec
  have hby := Bd.bytes
  have hlk := Bd.notSynchronized
  have hW : ∀ (i : Nat) (d : Jvm.Cond), tables_1[i]? = some d → d.before a0 Z = true := fun i d h => hw d (List.mem_of_getElem? h)
  have hml : c.maxLocals = 2 := hml0
  have hown : s.vm.findClass "com/example/sachfeld/sachfeld/SchemeFollowsMainGroupPinLaw" = some m.cls := findClass_of_methodNamed Bd.named
  have hnm := (name_of_methodNamed Bd.named Bd.method).1
  have X0 : Stand p l e ({ frames := 0, cells := 0, slots := 0, locals := 0 } : Room) s m #[(.int (3 : Int32))] below meth c s₁ [] 0 0 := Stand.of_body Bd
  have e0 : s₁.heap = h0 := by rw [← hh, Bd.state]; rfl
  have N0 := Fr.nil n0
  refine own_in ?_
  refine own_of (fun t k => castTop (ef_rm1_3 m (3 : Int32)) k) ?_
  show own_go p e below s _ _ _ (s₁.setTop (mkF m 0 #[.val (.int (3 : Int32)), .unset] []))
  refine own_of (fun t => XS.iloadN X0.here hx rfl (hb hby d1_0) rfl) ?_
  show own_go p e below s _ _ _ (s₁.setTop (mkF m 1 #[.val (.int (3 : Int32)), .unset] [(.int (3 : Int32))]))
  have hb1_1 : ¬ ((3 : Int32) = (0 : Int32)) := by decide
  refine own_of (fun t => XS.ifYes X0.here hx rfl (pc0 := 1) (pc' := 11) rfl (hb hby d1_1) rfl ((if0 _ _).trans (feq hb1_1).2) (by decide) (by decide)) ?_
  show own_go p e below s _ _ _ (s₁.setTop (mkF m 11 #[.val (.int (3 : Int32)), .unset] []))
  refine own_of (fun t => XS.iloadN X0.here hx rfl (hb hby d1_11) rfl) ?_
  show own_go p e below s _ _ _ (s₁.setTop (mkF m 12 #[.val (.int (3 : Int32)), .unset] [(.int (3 : Int32))]))
  refine own_of (fun t => XS.iconst X0.here hx rfl (hb hby d1_12)) ?_
  show own_go p e below s _ _ _ (s₁.setTop (mkF m 13 #[.val (.int (3 : Int32)), .unset] [(.int (1 : Int32)), (.int (3 : Int32))]))
  have hb13_2 : ¬ ((3 : Int32) = (1 : Int32)) := by decide
  refine own_of (fun t => XS.icmpYes X0.here hx rfl (pc0 := 13) (pc' := 23) rfl (hb hby d1_13) rfl (feq hb13_2).2 (by decide) (by decide)) ?_
  show own_go p e below s _ _ _ (s₁.setTop (mkF m 23 #[.val (.int (3 : Int32)), .unset] []))
  refine own_of (fun t => XS.iloadN X0.here hx rfl (hb hby d1_23) rfl) ?_
  show own_go p e below s _ _ _ (s₁.setTop (mkF m 24 #[.val (.int (3 : Int32)), .unset] [(.int (3 : Int32))]))
  refine own_of (fun t => XS.iconst X0.here hx rfl (hb hby d1_24)) ?_
  show own_go p e below s _ _ _ (s₁.setTop (mkF m 25 #[.val (.int (3 : Int32)), .unset] [(.int (2 : Int32)), (.int (3 : Int32))]))
  have hb25_3 : ¬ ((3 : Int32) = (2 : Int32)) := by decide
  refine own_of (fun t => XS.icmpYes X0.here hx rfl (pc0 := 25) (pc' := 35) rfl (hb hby d1_25) rfl (feq hb25_3).2 (by decide) (by decide)) ?_
  show own_go p e below s _ _ _ (s₁.setTop (mkF m 35 #[.val (.int (3 : Int32)), .unset] []))
  refine own_of (fun t => XS.iloadN X0.here hx rfl (hb hby d1_35) rfl) ?_
  show own_go p e below s _ _ _ (s₁.setTop (mkF m 36 #[.val (.int (3 : Int32)), .unset] [(.int (3 : Int32))]))
  refine own_of (fun t => XS.iconst X0.here hx rfl (hb hby d1_36)) ?_
  show own_go p e below s _ _ _ (s₁.setTop (mkF m 37 #[.val (.int (3 : Int32)), .unset] [(.int (3 : Int32)), (.int (3 : Int32))]))
  have hb37_4 : (3 : Int32) = (3 : Int32) := by decide
  refine own_of (fun t => XS.icmpNo X0.here hx rfl (hb hby d1_37) rfl (teq hb37_4).2) ?_
  show own_go p e below s _ _ _ (s₁.setTop (mkF m 40 #[.val (.int (3 : Int32)), .unset] []))
  obtain ⟨T5, X5, e5, st5⟩ := getS2 X0 hx hZ hown (host := "") (Or.inl (hW 15 _ rfl)) Via.refl e0 (S_DDR.ext XO0.2) (g := (mkF m 40 #[.val (.int (3 : Int32)), .unset] [])) rfl (hb hby d1_40)
  refine own_of st5 ?_
  show own_go p e below s _ _ _ (T5.setTop (mkF m 43 #[.val (.int (3 : Int32)), .unset] [(.ref w)]))
  refine own_of (fun t => XS.astoreN X5.here hx rfl (hb hby d1_43) rfl rfl (l' := #[.val (.int (3 : Int32)), .val (.ref w)]) rfl) ?_
  show own_go p e below s _ _ _ (T5.setTop (mkF m 44 #[.val (.int (3 : Int32)), .val (.ref w)] []))
  refine own_of (fun t => XS.goto X5.here hx rfl (pc0 := 44) (pc' := 51) rfl (hb hby d1_44) (by decide) (by decide)) ?_
  show own_go p e below s _ _ _ (T5.setTop (mkF m 51 #[.val (.int (3 : Int32)), .val (.ref w)] []))
  refine own_of (fun t => XS.aloadN X5.here hx rfl (hb hby d1_51) rfl rfl) ?_
  show own_go p e below s _ _ _ (T5.setTop (mkF m 52 #[.val (.int (3 : Int32)), .val (.ref w)] [(.ref w)]))
  refine own_ret X5 hx hlk Bd.returns rfl (Or.inr (Or.inr (Or.inr (Or.inr ⟨rfl, rfl, rfl⟩)))) (hb hby d1_52) (by decide) (by decide) ?_
  rw [e5]
  exact ⟨rfl, N0, rfl⟩
theorem ef_rm1_4 (m : MethodId) (x0 : Int32) : entryFrame m #[(.int x0)] 2 = mkF m 0 #[.val (.int x0), .unset] [] := by first | (simp [entryFrame, mkF, argsToLocals, Value.category]; done) | rfl
theorem d1_47 : decode method_2_code 47 = .ok (.getstatic 22, 3) := by decide +kernel
theorem d1_50 : decode method_2_code 50 = .ok (.astore_n 1, 1) := by decide +kernel
def Q_rm1_4 (Z : State) (w : Addr) (h0 : Heap) (n0 : Nat) (v : Option Value) (h : Heap) (L : List Loc) : Prop := v = some (.ref w) ∧ Fr n0 L ∧ h = h0
set_option maxRecDepth 65536 in
set_option maxHeartbeats 40000000 in
theorem rm1_4 (l : Launch) (Z : State) (a0 : Array Value) (hw : ∀ d ∈ tables_1, d.before a0 Z = true) (ws : List Jvm.Cond) (w : Addr) (h0 : Heap) (n0 : Nat) (S_DDC2007 : Sta Z Z.heap "com/example/sachfeld/sachfeld/SubjectGroup$Scheme" "DDC2007" "Lcom/example/sachfeld/sachfeld/SubjectGroup$Scheme;" (.ref w)) (XO0 : Old Z n0 h0) :
    MetFree l (⟨"com/example/sachfeld/sachfeld/SchemeFollowsMainGroupPinLaw", "pick", "(I)Lcom/example/sachfeld/sachfeld/SubjectGroup$Scheme;"⟩ : MethodName) (head1 (Jvm.Cond.code (⟨"com/example/sachfeld/sachfeld/SchemeFollowsMainGroupPinLaw", "pick", "(I)Lcom/example/sachfeld/sachfeld/SubjectGroup$Scheme;"⟩ : MethodName) method_2_code 2 (some (.object "com/example/sachfeld/sachfeld/SubjectGroup$Scheme")) :: ws) ({ frames := 0, cells := 0, slots := 0, locals := 0 } : Room)) (fun zz_ U => zz_ = #[(.int (4 : Int32))] ∧ Z.Warmed39 U.vm ∧ U.heap = h0) (fun _ _ _ _ _ => True) (fun _ U o U' => ∃ v L, o = .returned v ∧ Q_rm1_4 Z w h0 n0 v U'.heap L ∧ FrameEnd U o U' L ({ frames := 0, cells := 0, slots := 0, locals := 0 } : Room).cells ({ frames := 0, cells := 0, slots := 0, locals := 0 } : Room).slots) := by
  refine MetFree.of_bodySF (plainFor_of_name pn_0) hisR ?_
  intro p e s m args below meth c s₁ Bd hml0 hP hK
  obtain ⟨rfl, hZ, hh⟩ := hP
  have hx := Bd.exec
  have hby := Bd.bytes
  have hlk := Bd.notSynchronized
  have hW : ∀ (i : Nat) (d : Jvm.Cond), tables_1[i]? = some d → d.before a0 Z = true := fun i d h => hw d (List.mem_of_getElem? h)
  have hml : c.maxLocals = 2 := hml0
  have hown : s.vm.findClass "com/example/sachfeld/sachfeld/SchemeFollowsMainGroupPinLaw" = some m.cls := findClass_of_methodNamed Bd.named
  have hnm := (name_of_methodNamed Bd.named Bd.method).1
  have X0 : Stand p l e ({ frames := 0, cells := 0, slots := 0, locals := 0 } : Room) s m #[(.int (4 : Int32))] below meth c s₁ [] 0 0 := Stand.of_body Bd
  have e0 : s₁.heap = h0 := by rw [← hh, Bd.state]; rfl
  have N0 := Fr.nil n0
  refine own_in ?_
  refine own_of (fun t k => castTop (ef_rm1_4 m (4 : Int32)) k) ?_
  show own_go p e below s _ _ _ (s₁.setTop (mkF m 0 #[.val (.int (4 : Int32)), .unset] []))
  refine own_of (fun t => XS.iloadN X0.here hx rfl (hb hby d1_0) rfl) ?_
  show own_go p e below s _ _ _ (s₁.setTop (mkF m 1 #[.val (.int (4 : Int32)), .unset] [(.int (4 : Int32))]))
  have hb1_1 : ¬ ((4 : Int32) = (0 : Int32)) := by decide
  refine own_of (fun t => XS.ifYes X0.here hx rfl (pc0 := 1) (pc' := 11) rfl (hb hby d1_1) rfl ((if0 _ _).trans (feq hb1_1).2) (by decide) (by decide)) ?_
  show own_go p e below s _ _ _ (s₁.setTop (mkF m 11 #[.val (.int (4 : Int32)), .unset] []))
  refine own_of (fun t => XS.iloadN X0.here hx rfl (hb hby d1_11) rfl) ?_
  show own_go p e below s _ _ _ (s₁.setTop (mkF m 12 #[.val (.int (4 : Int32)), .unset] [(.int (4 : Int32))]))
  refine own_of (fun t => XS.iconst X0.here hx rfl (hb hby d1_12)) ?_
  show own_go p e below s _ _ _ (s₁.setTop (mkF m 13 #[.val (.int (4 : Int32)), .unset] [(.int (1 : Int32)), (.int (4 : Int32))]))
  have hb13_2 : ¬ ((4 : Int32) = (1 : Int32)) := by decide
  refine own_of (fun t => XS.icmpYes X0.here hx rfl (pc0 := 13) (pc' := 23) rfl (hb hby d1_13) rfl (feq hb13_2).2 (by decide) (by decide)) ?_
  show own_go p e below s _ _ _ (s₁.setTop (mkF m 23 #[.val (.int (4 : Int32)), .unset] []))
  refine own_of (fun t => XS.iloadN X0.here hx rfl (hb hby d1_23) rfl) ?_
  show own_go p e below s _ _ _ (s₁.setTop (mkF m 24 #[.val (.int (4 : Int32)), .unset] [(.int (4 : Int32))]))
  refine own_of (fun t => XS.iconst X0.here hx rfl (hb hby d1_24)) ?_
  show own_go p e below s _ _ _ (s₁.setTop (mkF m 25 #[.val (.int (4 : Int32)), .unset] [(.int (2 : Int32)), (.int (4 : Int32))]))
  have hb25_3 : ¬ ((4 : Int32) = (2 : Int32)) := by decide
  refine own_of (fun t => XS.icmpYes X0.here hx rfl (pc0 := 25) (pc' := 35) rfl (hb hby d1_25) rfl (feq hb25_3).2 (by decide) (by decide)) ?_
  show own_go p e below s _ _ _ (s₁.setTop (mkF m 35 #[.val (.int (4 : Int32)), .unset] []))
  refine own_of (fun t => XS.iloadN X0.here hx rfl (hb hby d1_35) rfl) ?_
  show own_go p e below s _ _ _ (s₁.setTop (mkF m 36 #[.val (.int (4 : Int32)), .unset] [(.int (4 : Int32))]))
  refine own_of (fun t => XS.iconst X0.here hx rfl (hb hby d1_36)) ?_
  show own_go p e below s _ _ _ (s₁.setTop (mkF m 37 #[.val (.int (4 : Int32)), .unset] [(.int (3 : Int32)), (.int (4 : Int32))]))
  have hb37_4 : ¬ ((4 : Int32) = (3 : Int32)) := by decide
  refine own_of (fun t => XS.icmpYes X0.here hx rfl (pc0 := 37) (pc' := 47) rfl (hb hby d1_37) rfl (feq hb37_4).2 (by decide) (by decide)) ?_
  show own_go p e below s _ _ _ (s₁.setTop (mkF m 47 #[.val (.int (4 : Int32)), .unset] []))
  obtain ⟨T5, X5, e5, st5⟩ := getS2 X0 hx hZ hown (host := "") (Or.inl (hW 19 _ rfl)) Via.refl e0 (S_DDC2007.ext XO0.2) (g := (mkF m 47 #[.val (.int (4 : Int32)), .unset] [])) rfl (hb hby d1_47)
  refine own_of st5 ?_
  show own_go p e below s _ _ _ (T5.setTop (mkF m 50 #[.val (.int (4 : Int32)), .unset] [(.ref w)]))
  refine own_of (fun t => XS.astoreN X5.here hx rfl (hb hby d1_50) rfl rfl (l' := #[.val (.int (4 : Int32)), .val (.ref w)]) rfl) ?_
  show own_go p e below s _ _ _ (T5.setTop (mkF m 51 #[.val (.int (4 : Int32)), .val (.ref w)] []))
  refine own_of (fun t => XS.aloadN X5.here hx rfl (hb hby d1_51) rfl rfl) ?_
  show own_go p e below s _ _ _ (T5.setTop (mkF m 52 #[.val (.int (4 : Int32)), .val (.ref w)] [(.ref w)]))
  refine own_ret X5 hx hlk Bd.returns rfl (Or.inr (Or.inr (Or.inr (Or.inr ⟨rfl, rfl, rfl⟩)))) (hb hby d1_52) (by decide) (by decide) ?_
  rw [e5]
  exact ⟨rfl, N0, rfl⟩
theorem ef_rm2_s (m : MethodId) (x0 : Addr) : entryFrame m #[(.ref x0)] 1 = mkF m 0 #[.val (.ref x0)] [] := by first | (simp [entryFrame, mkF, argsToLocals, Value.category]; done) | rfl
theorem pn_1 : plainName "com/example/sachfeld/sachfeld/SubjectGroup$Scheme" = true := by first | (simp [plainName, overriddenIn]; done) | decide +kernel
theorem d2_0 : decode prog_53_method_7_code 0 = .ok (.aload_n 0, 1) := by decide +kernel
theorem d2_1 : decode prog_53_method_7_code 1 = .ok (.getstatic 16, 3) := by decide +kernel
theorem d2_4 : decode prog_53_method_7_code 4 = .ok (.if_acmp .ne 7, 3) := by decide +kernel
theorem d2_7 : decode prog_53_method_7_code 7 = .ok (.iconst 1, 1) := by decide +kernel
theorem d2_8 : decode prog_53_method_7_code 8 = .ok (.goto 4, 3) := by decide +kernel
theorem d2_12 : decode prog_53_method_7_code 12 = .ok (.ireturn, 1) := by decide +kernel
def Q_rm2_s (Z : State) (w : Addr) (h0 : Heap) (n0 : Nat) (v : Option Value) (h : Heap) (L : List Loc) : Prop := v = some (.int 1) ∧ Fr n0 L ∧ h = h0
set_option maxRecDepth 65536 in
set_option maxHeartbeats 40000000 in
theorem rm2_s (l : Launch) (Z : State) (a0 : Array Value) (hw : ∀ d ∈ tables_1, d.before a0 Z = true) (ws : List Jvm.Cond) (w : Addr) (h0 : Heap) (n0 : Nat) (S_DDC2007 : Sta Z Z.heap "com/example/sachfeld/sachfeld/SubjectGroup$Scheme" "DDC2007" "Lcom/example/sachfeld/sachfeld/SubjectGroup$Scheme;" (.ref w)) (XO0 : Old Z n0 h0) :
    MetFree l (⟨"com/example/sachfeld/sachfeld/SubjectGroup$Scheme", "followsMainGroup", "()Z"⟩ : MethodName) (head1 (Jvm.Cond.code (⟨"com/example/sachfeld/sachfeld/SubjectGroup$Scheme", "followsMainGroup", "()Z"⟩ : MethodName) prog_53_method_7_code 1 (some .boolean) :: ws) ({ frames := 0, cells := 0, slots := 0, locals := 0 } : Room)) (fun zz_ U => zz_ = #[(.ref w)] ∧ Z.Warmed39 U.vm ∧ U.heap = h0) (fun _ _ _ _ _ => True) (fun _ U o U' => ∃ v L, o = .returned v ∧ Q_rm2_s Z w h0 n0 v U'.heap L ∧ FrameEnd U o U' L ({ frames := 0, cells := 0, slots := 0, locals := 0 } : Room).cells ({ frames := 0, cells := 0, slots := 0, locals := 0 } : Room).slots) := by
  refine MetFree.of_bodySF (plainFor_of_name pn_1) hisR ?_
  intro p e s m args below meth c s₁ Bd hml0 hP hK
  obtain ⟨rfl, hZ, hh⟩ := hP
  have hx := Bd.exec
  have hby := Bd.bytes
  have hlk := Bd.notSynchronized
  have hW : ∀ (i : Nat) (d : Jvm.Cond), tables_1[i]? = some d → d.before a0 Z = true := fun i d h => hw d (List.mem_of_getElem? h)
  have hml : c.maxLocals = 1 := hml0
  have hown : s.vm.findClass "com/example/sachfeld/sachfeld/SubjectGroup$Scheme" = some m.cls := findClass_of_methodNamed Bd.named
  have hnm := (name_of_methodNamed Bd.named Bd.method).1
  have X0 : Stand p l e ({ frames := 0, cells := 0, slots := 0, locals := 0 } : Room) s m #[(.ref w)] below meth c s₁ [] 0 0 := Stand.of_body Bd
  have e0 : s₁.heap = h0 := by rw [← hh, Bd.state]; rfl
  have N0 := Fr.nil n0
  refine own_in ?_
  refine own_of (fun t k => castTop (ef_rm2_s m w) k) ?_
  show own_go p e below s _ _ _ (s₁.setTop (mkF m 0 #[.val (.ref w)] []))
  refine own_of (fun t => XS.aloadN X0.here hx rfl (hb hby d2_0) rfl rfl) ?_
  show own_go p e below s _ _ _ (s₁.setTop (mkF m 1 #[.val (.ref w)] [(.ref w)]))
  obtain ⟨T1, X1, e1, st1⟩ := getS2 X0 hx hZ hown (host := "") (Or.inl (hW 13 _ rfl)) Via.refl e0 (S_DDC2007.ext XO0.2) (g := (mkF m 1 #[.val (.ref w)] [(.ref w)])) rfl (hb hby d2_1)
  refine own_of st1 ?_
  show own_go p e below s _ _ _ (T1.setTop (mkF m 4 #[.val (.ref w)] [(.ref w), (.ref w)]))
  refine own_of (fun t => Jvm.RoadKit.acmp (g := (mkF m 4 #[.val (.ref w)] [(.ref w), (.ref w)])) X1 hx rfl rfl rfl (pc0 := 4) (pc' := 7) (same := true) rfl (hb hby d2_4) rfl (decide_eq_true rfl) (by decide) (by decide)) ?_
  show own_go p e below s _ _ _ (T1.setTop (mkF m 7 #[.val (.ref w)] []))
  refine own_of (fun t => XS.iconst X1.here hx rfl (hb hby d2_7)) ?_
  show own_go p e below s _ _ _ (T1.setTop (mkF m 8 #[.val (.ref w)] [(.int (1 : Int32))]))
  refine own_of (fun t => XS.goto X1.here hx rfl (pc0 := 8) (pc' := 12) rfl (hb hby d2_8) (by decide) (by decide)) ?_
  show own_go p e below s _ _ _ (T1.setTop (mkF m 12 #[.val (.ref w)] [(.int (1 : Int32))]))
  refine own_ret X1 hx hlk Bd.returns rfl (Or.inl ⟨rfl, by simp, _, rfl⟩) (hb hby d2_12) (by decide) (by decide) ?_
  rw [e1]
  exact ⟨rfl, N0, rfl⟩
theorem ef_rm2_d (m : MethodId) (x0 : Addr) : entryFrame m #[(.ref x0)] 1 = mkF m 0 #[.val (.ref x0)] [] := by first | (simp [entryFrame, mkF, argsToLocals, Value.category]; done) | rfl
theorem d2_11 : decode prog_53_method_7_code 11 = .ok (.iconst 0, 1) := by decide +kernel
def Q_rm2_d (Z : State) (a : Addr) (w : Addr) (h0 : Heap) (n0 : Nat) (v : Option Value) (h : Heap) (L : List Loc) : Prop := v = some (.int 0) ∧ Fr n0 L ∧ h = h0
set_option maxRecDepth 65536 in
set_option maxHeartbeats 40000000 in
theorem rm2_d (l : Launch) (Z : State) (a0 : Array Value) (hw : ∀ d ∈ tables_1, d.before a0 Z = true) (ws : List Jvm.Cond) (a : Addr) (w : Addr) (h0 : Heap) (n0 : Nat) (S_DDC2007 : Sta Z Z.heap "com/example/sachfeld/sachfeld/SubjectGroup$Scheme" "DDC2007" "Lcom/example/sachfeld/sachfeld/SubjectGroup$Scheme;" (.ref w)) (XO0 : Old Z n0 h0) (hne : ¬ (a = w)) :
    MetFree l (⟨"com/example/sachfeld/sachfeld/SubjectGroup$Scheme", "followsMainGroup", "()Z"⟩ : MethodName) (head1 (Jvm.Cond.code (⟨"com/example/sachfeld/sachfeld/SubjectGroup$Scheme", "followsMainGroup", "()Z"⟩ : MethodName) prog_53_method_7_code 1 (some .boolean) :: ws) ({ frames := 0, cells := 0, slots := 0, locals := 0 } : Room)) (fun zz_ U => zz_ = #[(.ref a)] ∧ Z.Warmed39 U.vm ∧ U.heap = h0) (fun _ _ _ _ _ => True) (fun _ U o U' => ∃ v L, o = .returned v ∧ Q_rm2_d Z a w h0 n0 v U'.heap L ∧ FrameEnd U o U' L ({ frames := 0, cells := 0, slots := 0, locals := 0 } : Room).cells ({ frames := 0, cells := 0, slots := 0, locals := 0 } : Room).slots) := by
  refine MetFree.of_bodySF (plainFor_of_name pn_1) hisR ?_
  intro p e s m args below meth c s₁ Bd hml0 hP hK
  obtain ⟨rfl, hZ, hh⟩ := hP
  have hx := Bd.exec
  have hby := Bd.bytes
  have hlk := Bd.notSynchronized
  have hW : ∀ (i : Nat) (d : Jvm.Cond), tables_1[i]? = some d → d.before a0 Z = true := fun i d h => hw d (List.mem_of_getElem? h)
  have hml : c.maxLocals = 1 := hml0
  have hown : s.vm.findClass "com/example/sachfeld/sachfeld/SubjectGroup$Scheme" = some m.cls := findClass_of_methodNamed Bd.named
  have hnm := (name_of_methodNamed Bd.named Bd.method).1
  have X0 : Stand p l e ({ frames := 0, cells := 0, slots := 0, locals := 0 } : Room) s m #[(.ref a)] below meth c s₁ [] 0 0 := Stand.of_body Bd
  have e0 : s₁.heap = h0 := by rw [← hh, Bd.state]; rfl
  have N0 := Fr.nil n0
  refine own_in ?_
  refine own_of (fun t k => castTop (ef_rm2_d m a) k) ?_
  show own_go p e below s _ _ _ (s₁.setTop (mkF m 0 #[.val (.ref a)] []))
  refine own_of (fun t => XS.aloadN X0.here hx rfl (hb hby d2_0) rfl rfl) ?_
  show own_go p e below s _ _ _ (s₁.setTop (mkF m 1 #[.val (.ref a)] [(.ref a)]))
  obtain ⟨T1, X1, e1, st1⟩ := getS2 X0 hx hZ hown (host := "") (Or.inl (hW 13 _ rfl)) Via.refl e0 (S_DDC2007.ext XO0.2) (g := (mkF m 1 #[.val (.ref a)] [(.ref a)])) rfl (hb hby d2_1)
  refine own_of st1 ?_
  show own_go p e below s _ _ _ (T1.setTop (mkF m 4 #[.val (.ref a)] [(.ref w), (.ref a)]))
  have hb4_2 : ¬ (a = w) := hne
  refine own_of (fun t => Jvm.RoadKit.acmp (g := (mkF m 4 #[.val (.ref a)] [(.ref w), (.ref a)])) X1 hx rfl rfl rfl (pc0 := 4) (pc' := 11) (same := false) rfl (hb hby d2_4) rfl (decide_eq_false fun q => hb4_2 (Value.ref.inj q)) (by decide) (by decide)) ?_
  show own_go p e below s _ _ _ (T1.setTop (mkF m 11 #[.val (.ref a)] []))
  refine own_of (fun t => XS.iconst X1.here hx rfl (hb hby d2_11)) ?_
  show own_go p e below s _ _ _ (T1.setTop (mkF m 12 #[.val (.ref a)] [(.int (0 : Int32))]))
  refine own_ret X1 hx hlk Bd.returns rfl (Or.inl ⟨rfl, by simp, _, rfl⟩) (hb hby d2_12) (by decide) (by decide) ?_
  rw [e1]
  exact ⟨rfl, N0, rfl⟩
theorem own_mod5 (x : Int32) : (x &&& 2147483647) % 5 = 0 ∨ (x &&& 2147483647) % 5 = 1 ∨ (x &&& 2147483647) % 5 = 2 ∨ (x &&& 2147483647) % 5 = 3 ∨ (x &&& 2147483647) % 5 = 4 := by
  have e1 : (x &&& 2147483647).toInt = x.toInt % 2 ^ 31 := Jvm.Kit.i32_mask x 2147483647 (k := 31) (by decide) (by decide)
  have e2 : ((x &&& 2147483647) % 5).toInt = (x &&& 2147483647).toInt.tmod 5 := Int32.toInt_mod _ _
  rw [e1] at e2
  have e3 : (x.toInt % 2 ^ 31).tmod 5 = (x.toInt % 2 ^ 31) % 5 := Int.tmod_eq_emod_of_nonneg (by omega)
  rw [e3] at e2
  simp only [← Int32.toInt_inj, show (0 : Int32).toInt = 0 from rfl, show (1 : Int32).toInt = 1 from rfl, show (2 : Int32).toInt = 2 from rfl, show (3 : Int32).toInt = 3 from rfl, show (4 : Int32).toInt = 4 from rfl]
  omega
theorem ef_rm0 (m : MethodId) (x0 : Int32) : entryFrame m #[(.int x0)] maxLocals = mkF m 0 #[.val (.int x0), .unset, .unset, .unset] [] := by first | (simp [entryFrame, mkF, argsToLocals, Value.category, maxLocals]; done) | rfl
theorem pd_0 : parseMethodDescriptor "(I)Lcom/example/sachfeld/sachfeld/SubjectGroup$Scheme;" = some ⟨[.int], some (.object "com/example/sachfeld/sachfeld/SubjectGroup$Scheme")⟩ := by decide +kernel
theorem pd_1 : parseMethodDescriptor "()Z" = some ⟨[], some .boolean⟩ := by decide +kernel
def Q_rm0 (Z : State) (p1 : Int32) (w0 : Addr) (w1 : Addr) (w2 : Addr) (w3 : Addr) (w4 : Addr) (h0 : Heap) (n0 : Nat) (v : Option Value) (h : Heap) (L : List Loc) : Prop := v = some (.int 1) ∧ Fr n0 L
set_option maxRecDepth 65536 in
set_option maxHeartbeats 40000000 in
theorem rm0 (l : Launch) (Z : State) (a0 : Array Value) (hw : ∀ d ∈ tables_1, d.before a0 Z = true) (ws : List Jvm.Cond) (p1 : Int32) (w0 : Addr) (w1 : Addr) (w2 : Addr) (w3 : Addr) (w4 : Addr) (h0 : Heap) (n0 : Nat) (XO0 : Old Z n0 h0) (S_DDC : Sta Z Z.heap "com/example/sachfeld/sachfeld/SubjectGroup$Scheme" "DDC" "Lcom/example/sachfeld/sachfeld/SubjectGroup$Scheme;" (.ref w0)) (S_DNB1982 : Sta Z Z.heap "com/example/sachfeld/sachfeld/SubjectGroup$Scheme" "DNB1982" "Lcom/example/sachfeld/sachfeld/SubjectGroup$Scheme;" (.ref w1)) (S_DB1981 : Sta Z Z.heap "com/example/sachfeld/sachfeld/SubjectGroup$Scheme" "DB1981" "Lcom/example/sachfeld/sachfeld/SubjectGroup$Scheme;" (.ref w2)) (S_DDR : Sta Z Z.heap "com/example/sachfeld/sachfeld/SubjectGroup$Scheme" "DDR" "Lcom/example/sachfeld/sachfeld/SubjectGroup$Scheme;" (.ref w3)) (S_DDC2007 : Sta Z Z.heap "com/example/sachfeld/sachfeld/SubjectGroup$Scheme" "DDC2007" "Lcom/example/sachfeld/sachfeld/SubjectGroup$Scheme;" (.ref w4)) (E0_0 : Exa Z Z.heap w0 "com/example/sachfeld/sachfeld/SubjectGroup$Scheme") (E0_1 : Exa Z Z.heap w1 "com/example/sachfeld/sachfeld/SubjectGroup$Scheme") (E0_2 : Exa Z Z.heap w2 "com/example/sachfeld/sachfeld/SubjectGroup$Scheme") (E0_3 : Exa Z Z.heap w3 "com/example/sachfeld/sachfeld/SubjectGroup$Scheme") (E0_4 : Exa Z Z.heap w4 "com/example/sachfeld/sachfeld/SubjectGroup$Scheme") (ne0 : ¬ (w0 = w4)) (ne1 : ¬ (w1 = w4)) (ne2 : ¬ (w2 = w4)) (ne3 : ¬ (w3 = w4)) :
    MetFree l x (head1 (Jvm.Cond.code x code maxLocals ret :: ws) room_1) (fun zz_ U => zz_ = #[(.int p1)] ∧ Z.Warmed39 U.vm ∧ U.heap = h0) (fun _ _ _ _ _ => True) (fun _ U o U' => ∃ v L, o = .returned v ∧ Q_rm0 Z p1 w0 w1 w2 w3 w4 h0 n0 v U'.heap L ∧ FrameEnd U o U' L room_1.cells room_1.slots) := by
  refine MetFree.of_bodySF (plainFor_of_name pn_0) hisR ?_
  intro p e s m args below meth c s₁ Bd hml0 hP hK
  obtain ⟨rfl, hZ, hh⟩ := hP
  have hx := Bd.exec
  have hby := Bd.bytes
  have hlk := Bd.notSynchronized
  have hW : ∀ (i : Nat) (d : Jvm.Cond), tables_1[i]? = some d → d.before a0 Z = true := fun i d h => hw d (List.mem_of_getElem? h)
  have hml : c.maxLocals = 4 := hml0
  have hown : s.vm.findClass "com/example/sachfeld/sachfeld/SchemeFollowsMainGroupPinLaw" = some m.cls := findClass_of_methodNamed Bd.named
  have hnm := (name_of_methodNamed Bd.named Bd.method).1
  have X0 : Stand p l e room_1 s m #[(.int p1)] below meth c s₁ [] 0 0 := Stand.of_body Bd
  have e0 : s₁.heap = h0 := by rw [← hh, Bd.state]; rfl
  have N0 := Fr.nil n0
  refine own_in ?_
  refine own_of (fun t k => castTop (ef_rm0 m p1) k) ?_
  show own_go p e below s _ _ _ (s₁.setTop (mkF m 0 #[.val (.int p1), .unset, .unset, .unset] []))
  refine own_of (fun t => XS.iloadN X0.here hx rfl (hb hby at_0) rfl) ?_
  show own_go p e below s _ _ _ (s₁.setTop (mkF m 1 #[.val (.int p1), .unset, .unset, .unset] [(.int p1)]))
  refine own_of (fun t => X0.ldcI hx hown (mvT hZ (hW 0 _ rfl)) rfl (hb hby at_1)) ?_
  show own_go p e below s _ _ _ (s₁.setTop (mkF m 3 #[.val (.int p1), .unset, .unset, .unset] [(.int (2147483647 : Int32)), (.int p1)]))
  refine own_of (fun t => XS.iand X0.here hx rfl (hb hby at_3) rfl) ?_
  show own_go p e below s _ _ _ (s₁.setTop (mkF m 4 #[.val (.int p1), .unset, .unset, .unset] [(.int (p1 &&& (2147483647 : Int32)))]))
  refine own_of (fun t => XS.iconst X0.here hx rfl (hb hby at_4)) ?_
  show own_go p e below s _ _ _ (s₁.setTop (mkF m 5 #[.val (.int p1), .unset, .unset, .unset] [(.int (5 : Int32)), (.int (p1 &&& (2147483647 : Int32)))]))
  refine own_of (fun t => iremM X0 hx rfl (hb hby at_5) rfl (by decide)) ?_
  show own_go p e below s _ _ _ (s₁.setTop (mkF m 6 #[.val (.int p1), .unset, .unset, .unset] [(.int ((p1 &&& (2147483647 : Int32)) % (5 : Int32)))]))
  rcases own_mod5 p1 with hi | hi | hi | hi | hi
  · rw [hi]
    show own_go p e below s _ _ _ (s₁.setTop (mkF m 6 #[.val (.int p1), .unset, .unset, .unset] [(.int (0 : Int32))]))
    refine own_of (fun t => XS.istoreN X0.here hx rfl (hb hby at_6) rfl (l' := #[.val (.int p1), .val (.int (0 : Int32)), .unset, .unset]) rfl) ?_
    show own_go p e below s _ _ _ (s₁.setTop (mkF m 7 #[.val (.int p1), .val (.int (0 : Int32)), .unset, .unset] []))
    refine own_of (fun t => XS.iloadN X0.here hx rfl (hb hby at_7) rfl) ?_
    show own_go p e below s _ _ _ (s₁.setTop (mkF m 8 #[.val (.int p1), .val (.int (0 : Int32)), .unset, .unset] [(.int (0 : Int32))]))
    obtain ⟨_, _, ⟨T1, L1, k1, n1⟩, -, X1, ⟨Lc1, hQ1, l1, y1, z1⟩, st1⟩ := Jvm.LawKit.callS X0 hx (y := (⟨"com/example/sachfeld/sachfeld/SchemeFollowsMainGroupPinLaw", "pick", "(I)Lcom/example/sachfeld/sachfeld/SubjectGroup$Scheme;"⟩ : MethodName)) hown (mvT hZ (hW 1 _ rfl)) (mvT hZ (hW 2 _ rfl)) (mvT hZ (hW 3 _ rfl)) (mvT hZ (hW 4 _ rfl)) (by decide) (backOf (W := 0) (rm1_0 l Z a0 hw [] w0 h0 n0 S_DDC XO0) hZ (hW 4 _ rfl) (hW 3 _ rfl) (by decide) (by decide)) (g := (mkF m 8 #[.val (.int p1), .val (.int (0 : Int32)), .unset, .unset] [(.int (0 : Int32))])) rfl (by rw [hml]; rfl) (argsL := [(.int (0 : Int32))]) (rest := []) (lenOf pd_0 rfl) rfl (by show 2 * 0 + _ ≤ _; exact Nat.le_of_eq rfl) (hb hby at_8) (fun _ _ => ⟨rfl, e0, (by decide : 0 + 0 ≤ _), (by decide : 0 + 0 ≤ _)⟩)
    dsimp only [Pt.U, Pt.locs, Pt.cells, Pt.slots] at X1 l1 y1 z1 st1 hQ1
    subst l1 y1 z1
    obtain ⟨rfl, Nq1, eh1⟩ := hQ1
    have N1 := Fr.app N0 Nq1
    refine own_of st1 ?_
    show own_go p e below s _ _ _ (T1.setTop (mkF m 11 #[.val (.int p1), .val (.int (0 : Int32)), .unset, .unset] [(.ref w0)]))
    refine own_of (fun t => XS.astoreN X1.here hx rfl (hb hby at_11) rfl rfl (l' := #[.val (.int p1), .val (.int (0 : Int32)), .val (.ref w0), .unset]) rfl) ?_
    show own_go p e below s _ _ _ (T1.setTop (mkF m 12 #[.val (.int p1), .val (.int (0 : Int32)), .val (.ref w0), .unset] []))
    refine own_of (fun t => XS.iloadN X1.here hx rfl (hb hby at_12) rfl) ?_
    show own_go p e below s _ _ _ (T1.setTop (mkF m 13 #[.val (.int p1), .val (.int (0 : Int32)), .val (.ref w0), .unset] [(.int (0 : Int32))]))
    refine own_of (fun t => XS.iconst X1.here hx rfl (hb hby at_13)) ?_
    show own_go p e below s _ _ _ (T1.setTop (mkF m 14 #[.val (.int p1), .val (.int (0 : Int32)), .val (.ref w0), .unset] [(.int (4 : Int32)), (.int (0 : Int32))]))
    have hb14_2 : ¬ ((0 : Int32) = (4 : Int32)) := by decide
    refine own_of (fun t => XS.icmpYes X1.here hx rfl (pc0 := 14) (pc' := 21) rfl (hb hby at_14) rfl (feq hb14_2).2 (by decide) (by decide)) ?_
    show own_go p e below s _ _ _ (T1.setTop (mkF m 21 #[.val (.int p1), .val (.int (0 : Int32)), .val (.ref w0), .unset] []))
    refine own_of (fun t => XS.iconst X1.here hx rfl (hb hby at_21)) ?_
    show own_go p e below s _ _ _ (T1.setTop (mkF m 22 #[.val (.int p1), .val (.int (0 : Int32)), .val (.ref w0), .unset] [(.int (0 : Int32))]))
    refine own_of (fun t => XS.istoreN X1.here hx rfl (hb hby at_22) rfl (l' := #[.val (.int p1), .val (.int (0 : Int32)), .val (.ref w0), .val (.int (0 : Int32))]) rfl) ?_
    show own_go p e below s _ _ _ (T1.setTop (mkF m 23 #[.val (.int p1), .val (.int (0 : Int32)), .val (.ref w0), .val (.int (0 : Int32))] []))
    refine own_of (fun t => XS.aloadN X1.here hx rfl (hb hby at_23) rfl rfl) ?_
    show own_go p e below s _ _ _ (T1.setTop (mkF m 24 #[.val (.int p1), .val (.int (0 : Int32)), .val (.ref w0), .val (.int (0 : Int32))] [(.ref w0)]))
    have E_0 := E0_0.ext XO0.2
    obtain ⟨cq3, kq3, q3a, q3b, q3c⟩ := isOf hZ eh1 E_0
    obtain ⟨_, _, ⟨T3, L3, k3, n3⟩, -, X3, ⟨Lc3, hQ3, l3, y3, z3⟩, st3⟩ := X1.virtualBack hx (y := (⟨"com/example/sachfeld/sachfeld/SubjectGroup$Scheme", "followsMainGroup", "()Z"⟩ : MethodName)) (z := (⟨"com/example/sachfeld/sachfeld/SubjectGroup$Scheme", "followsMainGroup", "()Z"⟩ : MethodName)) hown (mvT hZ (hW 8 _ rfl)) (mvT hZ (hW 9 _ rfl)) (notFace_of_selects (args := #[]) (mvT hZ (hW 11 _ rfl))) (mvT hZ (hW 11 _ rfl)) (mvT hZ (hW 10 _ rfl)) (by decide) (backOf (W := 0) (rm2_d l Z a0 hw [] w0 w4 h0 n0 S_DDC2007 XO0 ne0) hZ (hW 12 _ rfl) (hW 6 _ rfl) (by decide) (by decide)) q3a q3c (g := (mkF m 24 #[.val (.int p1), .val (.int (0 : Int32)), .val (.ref w0), .val (.int (0 : Int32))] [(.ref w0)])) rfl (by rw [hml]; rfl) (Steps.refl _) (argsL := []) (rest := []) (lenOf pd_1 rfl) rfl (by show 2 * 0 + _ ≤ _; exact Nat.le_of_eq rfl) (hb hby at_24) (fun _ _ => ⟨rfl, eh1, (by decide : 0 + 0 ≤ _), (by decide : 0 + 0 ≤ _)⟩)
    dsimp only [Pt.U, Pt.locs, Pt.cells, Pt.slots] at X3 l3 y3 z3 st3 hQ3
    subst l3 y3 z3
    obtain ⟨rfl, Nq3, eh3⟩ := hQ3
    have N3 := Fr.app N1 Nq3
    refine own_of (fun t k => st3.trans k) ?_
    show own_go p e below s _ _ _ (T3.setTop (mkF m 27 #[.val (.int p1), .val (.int (0 : Int32)), .val (.ref w0), .val (.int (0 : Int32))] [(.int (0 : Int32))]))
    refine own_of (fun t => XS.iloadN X3.here hx rfl (hb hby at_27) rfl) ?_
    show own_go p e below s _ _ _ (T3.setTop (mkF m 28 #[.val (.int p1), .val (.int (0 : Int32)), .val (.ref w0), .val (.int (0 : Int32))] [(.int (0 : Int32)), (.int (0 : Int32))]))
    have hb28_4 : (0 : Int32) = (0 : Int32) := by decide
    refine own_of (fun t => XS.icmpNo X3.here hx rfl (hb hby at_28) rfl (teq hb28_4).2) ?_
    show own_go p e below s _ _ _ (T3.setTop (mkF m 31 #[.val (.int p1), .val (.int (0 : Int32)), .val (.ref w0), .val (.int (0 : Int32))] []))
    refine own_of (fun t => XS.iconst X3.here hx rfl (hb hby at_31)) ?_
    show own_go p e below s _ _ _ (T3.setTop (mkF m 32 #[.val (.int p1), .val (.int (0 : Int32)), .val (.ref w0), .val (.int (0 : Int32))] [(.int (1 : Int32))]))
    refine own_of (fun t => XS.goto X3.here hx rfl (pc0 := 32) (pc' := 36) rfl (hb hby at_32) (by decide) (by decide)) ?_
    show own_go p e below s _ _ _ (T3.setTop (mkF m 36 #[.val (.int p1), .val (.int (0 : Int32)), .val (.ref w0), .val (.int (0 : Int32))] [(.int (1 : Int32))]))
    refine own_ret X3 hx hlk Bd.returns rfl (Or.inl ⟨rfl, by simp, _, rfl⟩) (hb hby at_36) (by decide) (by decide) ?_
    rw [eh3]
    exact ⟨rfl, N3⟩
  · rw [hi]
    show own_go p e below s _ _ _ (s₁.setTop (mkF m 6 #[.val (.int p1), .unset, .unset, .unset] [(.int (1 : Int32))]))
    refine own_of (fun t => XS.istoreN X0.here hx rfl (hb hby at_6) rfl (l' := #[.val (.int p1), .val (.int (1 : Int32)), .unset, .unset]) rfl) ?_
    show own_go p e below s _ _ _ (s₁.setTop (mkF m 7 #[.val (.int p1), .val (.int (1 : Int32)), .unset, .unset] []))
    refine own_of (fun t => XS.iloadN X0.here hx rfl (hb hby at_7) rfl) ?_
    show own_go p e below s _ _ _ (s₁.setTop (mkF m 8 #[.val (.int p1), .val (.int (1 : Int32)), .unset, .unset] [(.int (1 : Int32))]))
    obtain ⟨_, _, ⟨T5, L5, k5, n5⟩, -, X5, ⟨Lc5, hQ5, l5, y5, z5⟩, st5⟩ := Jvm.LawKit.callS X0 hx (y := (⟨"com/example/sachfeld/sachfeld/SchemeFollowsMainGroupPinLaw", "pick", "(I)Lcom/example/sachfeld/sachfeld/SubjectGroup$Scheme;"⟩ : MethodName)) hown (mvT hZ (hW 1 _ rfl)) (mvT hZ (hW 2 _ rfl)) (mvT hZ (hW 3 _ rfl)) (mvT hZ (hW 4 _ rfl)) (by decide) (backOf (W := 0) (rm1_1 l Z a0 hw [] w1 h0 n0 S_DNB1982 XO0) hZ (hW 4 _ rfl) (hW 3 _ rfl) (by decide) (by decide)) (g := (mkF m 8 #[.val (.int p1), .val (.int (1 : Int32)), .unset, .unset] [(.int (1 : Int32))])) rfl (by rw [hml]; rfl) (argsL := [(.int (1 : Int32))]) (rest := []) (lenOf pd_0 rfl) rfl (by show 2 * 0 + _ ≤ _; exact Nat.le_of_eq rfl) (hb hby at_8) (fun _ _ => ⟨rfl, e0, (by decide : 0 + 0 ≤ _), (by decide : 0 + 0 ≤ _)⟩)
    dsimp only [Pt.U, Pt.locs, Pt.cells, Pt.slots] at X5 l5 y5 z5 st5 hQ5
    subst l5 y5 z5
    obtain ⟨rfl, Nq5, eh5⟩ := hQ5
    have N5 := Fr.app N0 Nq5
    refine own_of st5 ?_
    show own_go p e below s _ _ _ (T5.setTop (mkF m 11 #[.val (.int p1), .val (.int (1 : Int32)), .unset, .unset] [(.ref w1)]))
    refine own_of (fun t => XS.astoreN X5.here hx rfl (hb hby at_11) rfl rfl (l' := #[.val (.int p1), .val (.int (1 : Int32)), .val (.ref w1), .unset]) rfl) ?_
    show own_go p e below s _ _ _ (T5.setTop (mkF m 12 #[.val (.int p1), .val (.int (1 : Int32)), .val (.ref w1), .unset] []))
    refine own_of (fun t => XS.iloadN X5.here hx rfl (hb hby at_12) rfl) ?_
    show own_go p e below s _ _ _ (T5.setTop (mkF m 13 #[.val (.int p1), .val (.int (1 : Int32)), .val (.ref w1), .unset] [(.int (1 : Int32))]))
    refine own_of (fun t => XS.iconst X5.here hx rfl (hb hby at_13)) ?_
    show own_go p e below s _ _ _ (T5.setTop (mkF m 14 #[.val (.int p1), .val (.int (1 : Int32)), .val (.ref w1), .unset] [(.int (4 : Int32)), (.int (1 : Int32))]))
    have hb14_6 : ¬ ((1 : Int32) = (4 : Int32)) := by decide
    refine own_of (fun t => XS.icmpYes X5.here hx rfl (pc0 := 14) (pc' := 21) rfl (hb hby at_14) rfl (feq hb14_6).2 (by decide) (by decide)) ?_
    show own_go p e below s _ _ _ (T5.setTop (mkF m 21 #[.val (.int p1), .val (.int (1 : Int32)), .val (.ref w1), .unset] []))
    refine own_of (fun t => XS.iconst X5.here hx rfl (hb hby at_21)) ?_
    show own_go p e below s _ _ _ (T5.setTop (mkF m 22 #[.val (.int p1), .val (.int (1 : Int32)), .val (.ref w1), .unset] [(.int (0 : Int32))]))
    refine own_of (fun t => XS.istoreN X5.here hx rfl (hb hby at_22) rfl (l' := #[.val (.int p1), .val (.int (1 : Int32)), .val (.ref w1), .val (.int (0 : Int32))]) rfl) ?_
    show own_go p e below s _ _ _ (T5.setTop (mkF m 23 #[.val (.int p1), .val (.int (1 : Int32)), .val (.ref w1), .val (.int (0 : Int32))] []))
    refine own_of (fun t => XS.aloadN X5.here hx rfl (hb hby at_23) rfl rfl) ?_
    show own_go p e below s _ _ _ (T5.setTop (mkF m 24 #[.val (.int p1), .val (.int (1 : Int32)), .val (.ref w1), .val (.int (0 : Int32))] [(.ref w1)]))
    have E_1 := E0_1.ext XO0.2
    obtain ⟨cq7, kq7, q7a, q7b, q7c⟩ := isOf hZ eh5 E_1
    obtain ⟨_, _, ⟨T7, L7, k7, n7⟩, -, X7, ⟨Lc7, hQ7, l7, y7, z7⟩, st7⟩ := X5.virtualBack hx (y := (⟨"com/example/sachfeld/sachfeld/SubjectGroup$Scheme", "followsMainGroup", "()Z"⟩ : MethodName)) (z := (⟨"com/example/sachfeld/sachfeld/SubjectGroup$Scheme", "followsMainGroup", "()Z"⟩ : MethodName)) hown (mvT hZ (hW 8 _ rfl)) (mvT hZ (hW 9 _ rfl)) (notFace_of_selects (args := #[]) (mvT hZ (hW 11 _ rfl))) (mvT hZ (hW 11 _ rfl)) (mvT hZ (hW 10 _ rfl)) (by decide) (backOf (W := 0) (rm2_d l Z a0 hw [] w1 w4 h0 n0 S_DDC2007 XO0 ne1) hZ (hW 12 _ rfl) (hW 6 _ rfl) (by decide) (by decide)) q7a q7c (g := (mkF m 24 #[.val (.int p1), .val (.int (1 : Int32)), .val (.ref w1), .val (.int (0 : Int32))] [(.ref w1)])) rfl (by rw [hml]; rfl) (Steps.refl _) (argsL := []) (rest := []) (lenOf pd_1 rfl) rfl (by show 2 * 0 + _ ≤ _; exact Nat.le_of_eq rfl) (hb hby at_24) (fun _ _ => ⟨rfl, eh5, (by decide : 0 + 0 ≤ _), (by decide : 0 + 0 ≤ _)⟩)
    dsimp only [Pt.U, Pt.locs, Pt.cells, Pt.slots] at X7 l7 y7 z7 st7 hQ7
    subst l7 y7 z7
    obtain ⟨rfl, Nq7, eh7⟩ := hQ7
    have N7 := Fr.app N5 Nq7
    refine own_of (fun t k => st7.trans k) ?_
    show own_go p e below s _ _ _ (T7.setTop (mkF m 27 #[.val (.int p1), .val (.int (1 : Int32)), .val (.ref w1), .val (.int (0 : Int32))] [(.int (0 : Int32))]))
    refine own_of (fun t => XS.iloadN X7.here hx rfl (hb hby at_27) rfl) ?_
    show own_go p e below s _ _ _ (T7.setTop (mkF m 28 #[.val (.int p1), .val (.int (1 : Int32)), .val (.ref w1), .val (.int (0 : Int32))] [(.int (0 : Int32)), (.int (0 : Int32))]))
    have hb28_8 : (0 : Int32) = (0 : Int32) := by decide
    refine own_of (fun t => XS.icmpNo X7.here hx rfl (hb hby at_28) rfl (teq hb28_8).2) ?_
    show own_go p e below s _ _ _ (T7.setTop (mkF m 31 #[.val (.int p1), .val (.int (1 : Int32)), .val (.ref w1), .val (.int (0 : Int32))] []))
    refine own_of (fun t => XS.iconst X7.here hx rfl (hb hby at_31)) ?_
    show own_go p e below s _ _ _ (T7.setTop (mkF m 32 #[.val (.int p1), .val (.int (1 : Int32)), .val (.ref w1), .val (.int (0 : Int32))] [(.int (1 : Int32))]))
    refine own_of (fun t => XS.goto X7.here hx rfl (pc0 := 32) (pc' := 36) rfl (hb hby at_32) (by decide) (by decide)) ?_
    show own_go p e below s _ _ _ (T7.setTop (mkF m 36 #[.val (.int p1), .val (.int (1 : Int32)), .val (.ref w1), .val (.int (0 : Int32))] [(.int (1 : Int32))]))
    refine own_ret X7 hx hlk Bd.returns rfl (Or.inl ⟨rfl, by simp, _, rfl⟩) (hb hby at_36) (by decide) (by decide) ?_
    rw [eh7]
    exact ⟨rfl, N7⟩
  · rw [hi]
    show own_go p e below s _ _ _ (s₁.setTop (mkF m 6 #[.val (.int p1), .unset, .unset, .unset] [(.int (2 : Int32))]))
    refine own_of (fun t => XS.istoreN X0.here hx rfl (hb hby at_6) rfl (l' := #[.val (.int p1), .val (.int (2 : Int32)), .unset, .unset]) rfl) ?_
    show own_go p e below s _ _ _ (s₁.setTop (mkF m 7 #[.val (.int p1), .val (.int (2 : Int32)), .unset, .unset] []))
    refine own_of (fun t => XS.iloadN X0.here hx rfl (hb hby at_7) rfl) ?_
    show own_go p e below s _ _ _ (s₁.setTop (mkF m 8 #[.val (.int p1), .val (.int (2 : Int32)), .unset, .unset] [(.int (2 : Int32))]))
    obtain ⟨_, _, ⟨T9, L9, k9, n9⟩, -, X9, ⟨Lc9, hQ9, l9, y9, z9⟩, st9⟩ := Jvm.LawKit.callS X0 hx (y := (⟨"com/example/sachfeld/sachfeld/SchemeFollowsMainGroupPinLaw", "pick", "(I)Lcom/example/sachfeld/sachfeld/SubjectGroup$Scheme;"⟩ : MethodName)) hown (mvT hZ (hW 1 _ rfl)) (mvT hZ (hW 2 _ rfl)) (mvT hZ (hW 3 _ rfl)) (mvT hZ (hW 4 _ rfl)) (by decide) (backOf (W := 0) (rm1_2 l Z a0 hw [] w2 h0 n0 S_DB1981 XO0) hZ (hW 4 _ rfl) (hW 3 _ rfl) (by decide) (by decide)) (g := (mkF m 8 #[.val (.int p1), .val (.int (2 : Int32)), .unset, .unset] [(.int (2 : Int32))])) rfl (by rw [hml]; rfl) (argsL := [(.int (2 : Int32))]) (rest := []) (lenOf pd_0 rfl) rfl (by show 2 * 0 + _ ≤ _; exact Nat.le_of_eq rfl) (hb hby at_8) (fun _ _ => ⟨rfl, e0, (by decide : 0 + 0 ≤ _), (by decide : 0 + 0 ≤ _)⟩)
    dsimp only [Pt.U, Pt.locs, Pt.cells, Pt.slots] at X9 l9 y9 z9 st9 hQ9
    subst l9 y9 z9
    obtain ⟨rfl, Nq9, eh9⟩ := hQ9
    have N9 := Fr.app N0 Nq9
    refine own_of st9 ?_
    show own_go p e below s _ _ _ (T9.setTop (mkF m 11 #[.val (.int p1), .val (.int (2 : Int32)), .unset, .unset] [(.ref w2)]))
    refine own_of (fun t => XS.astoreN X9.here hx rfl (hb hby at_11) rfl rfl (l' := #[.val (.int p1), .val (.int (2 : Int32)), .val (.ref w2), .unset]) rfl) ?_
    show own_go p e below s _ _ _ (T9.setTop (mkF m 12 #[.val (.int p1), .val (.int (2 : Int32)), .val (.ref w2), .unset] []))
    refine own_of (fun t => XS.iloadN X9.here hx rfl (hb hby at_12) rfl) ?_
    show own_go p e below s _ _ _ (T9.setTop (mkF m 13 #[.val (.int p1), .val (.int (2 : Int32)), .val (.ref w2), .unset] [(.int (2 : Int32))]))
    refine own_of (fun t => XS.iconst X9.here hx rfl (hb hby at_13)) ?_
    show own_go p e below s _ _ _ (T9.setTop (mkF m 14 #[.val (.int p1), .val (.int (2 : Int32)), .val (.ref w2), .unset] [(.int (4 : Int32)), (.int (2 : Int32))]))
    have hb14_10 : ¬ ((2 : Int32) = (4 : Int32)) := by decide
    refine own_of (fun t => XS.icmpYes X9.here hx rfl (pc0 := 14) (pc' := 21) rfl (hb hby at_14) rfl (feq hb14_10).2 (by decide) (by decide)) ?_
    show own_go p e below s _ _ _ (T9.setTop (mkF m 21 #[.val (.int p1), .val (.int (2 : Int32)), .val (.ref w2), .unset] []))
    refine own_of (fun t => XS.iconst X9.here hx rfl (hb hby at_21)) ?_
    show own_go p e below s _ _ _ (T9.setTop (mkF m 22 #[.val (.int p1), .val (.int (2 : Int32)), .val (.ref w2), .unset] [(.int (0 : Int32))]))
    refine own_of (fun t => XS.istoreN X9.here hx rfl (hb hby at_22) rfl (l' := #[.val (.int p1), .val (.int (2 : Int32)), .val (.ref w2), .val (.int (0 : Int32))]) rfl) ?_
    show own_go p e below s _ _ _ (T9.setTop (mkF m 23 #[.val (.int p1), .val (.int (2 : Int32)), .val (.ref w2), .val (.int (0 : Int32))] []))
    refine own_of (fun t => XS.aloadN X9.here hx rfl (hb hby at_23) rfl rfl) ?_
    show own_go p e below s _ _ _ (T9.setTop (mkF m 24 #[.val (.int p1), .val (.int (2 : Int32)), .val (.ref w2), .val (.int (0 : Int32))] [(.ref w2)]))
    have E_2 := E0_2.ext XO0.2
    obtain ⟨cq11, kq11, q11a, q11b, q11c⟩ := isOf hZ eh9 E_2
    obtain ⟨_, _, ⟨T11, L11, k11, n11⟩, -, X11, ⟨Lc11, hQ11, l11, y11, z11⟩, st11⟩ := X9.virtualBack hx (y := (⟨"com/example/sachfeld/sachfeld/SubjectGroup$Scheme", "followsMainGroup", "()Z"⟩ : MethodName)) (z := (⟨"com/example/sachfeld/sachfeld/SubjectGroup$Scheme", "followsMainGroup", "()Z"⟩ : MethodName)) hown (mvT hZ (hW 8 _ rfl)) (mvT hZ (hW 9 _ rfl)) (notFace_of_selects (args := #[]) (mvT hZ (hW 11 _ rfl))) (mvT hZ (hW 11 _ rfl)) (mvT hZ (hW 10 _ rfl)) (by decide) (backOf (W := 0) (rm2_d l Z a0 hw [] w2 w4 h0 n0 S_DDC2007 XO0 ne2) hZ (hW 12 _ rfl) (hW 6 _ rfl) (by decide) (by decide)) q11a q11c (g := (mkF m 24 #[.val (.int p1), .val (.int (2 : Int32)), .val (.ref w2), .val (.int (0 : Int32))] [(.ref w2)])) rfl (by rw [hml]; rfl) (Steps.refl _) (argsL := []) (rest := []) (lenOf pd_1 rfl) rfl (by show 2 * 0 + _ ≤ _; exact Nat.le_of_eq rfl) (hb hby at_24) (fun _ _ => ⟨rfl, eh9, (by decide : 0 + 0 ≤ _), (by decide : 0 + 0 ≤ _)⟩)
    dsimp only [Pt.U, Pt.locs, Pt.cells, Pt.slots] at X11 l11 y11 z11 st11 hQ11
    subst l11 y11 z11
    obtain ⟨rfl, Nq11, eh11⟩ := hQ11
    have N11 := Fr.app N9 Nq11
    refine own_of (fun t k => st11.trans k) ?_
    show own_go p e below s _ _ _ (T11.setTop (mkF m 27 #[.val (.int p1), .val (.int (2 : Int32)), .val (.ref w2), .val (.int (0 : Int32))] [(.int (0 : Int32))]))
    refine own_of (fun t => XS.iloadN X11.here hx rfl (hb hby at_27) rfl) ?_
    show own_go p e below s _ _ _ (T11.setTop (mkF m 28 #[.val (.int p1), .val (.int (2 : Int32)), .val (.ref w2), .val (.int (0 : Int32))] [(.int (0 : Int32)), (.int (0 : Int32))]))
    have hb28_12 : (0 : Int32) = (0 : Int32) := by decide
    refine own_of (fun t => XS.icmpNo X11.here hx rfl (hb hby at_28) rfl (teq hb28_12).2) ?_
    show own_go p e below s _ _ _ (T11.setTop (mkF m 31 #[.val (.int p1), .val (.int (2 : Int32)), .val (.ref w2), .val (.int (0 : Int32))] []))
    refine own_of (fun t => XS.iconst X11.here hx rfl (hb hby at_31)) ?_
    show own_go p e below s _ _ _ (T11.setTop (mkF m 32 #[.val (.int p1), .val (.int (2 : Int32)), .val (.ref w2), .val (.int (0 : Int32))] [(.int (1 : Int32))]))
    refine own_of (fun t => XS.goto X11.here hx rfl (pc0 := 32) (pc' := 36) rfl (hb hby at_32) (by decide) (by decide)) ?_
    show own_go p e below s _ _ _ (T11.setTop (mkF m 36 #[.val (.int p1), .val (.int (2 : Int32)), .val (.ref w2), .val (.int (0 : Int32))] [(.int (1 : Int32))]))
    refine own_ret X11 hx hlk Bd.returns rfl (Or.inl ⟨rfl, by simp, _, rfl⟩) (hb hby at_36) (by decide) (by decide) ?_
    rw [eh11]
    exact ⟨rfl, N11⟩
  · rw [hi]
    show own_go p e below s _ _ _ (s₁.setTop (mkF m 6 #[.val (.int p1), .unset, .unset, .unset] [(.int (3 : Int32))]))
    refine own_of (fun t => XS.istoreN X0.here hx rfl (hb hby at_6) rfl (l' := #[.val (.int p1), .val (.int (3 : Int32)), .unset, .unset]) rfl) ?_
    show own_go p e below s _ _ _ (s₁.setTop (mkF m 7 #[.val (.int p1), .val (.int (3 : Int32)), .unset, .unset] []))
    refine own_of (fun t => XS.iloadN X0.here hx rfl (hb hby at_7) rfl) ?_
    show own_go p e below s _ _ _ (s₁.setTop (mkF m 8 #[.val (.int p1), .val (.int (3 : Int32)), .unset, .unset] [(.int (3 : Int32))]))
    obtain ⟨_, _, ⟨T13, L13, k13, n13⟩, -, X13, ⟨Lc13, hQ13, l13, y13, z13⟩, st13⟩ := Jvm.LawKit.callS X0 hx (y := (⟨"com/example/sachfeld/sachfeld/SchemeFollowsMainGroupPinLaw", "pick", "(I)Lcom/example/sachfeld/sachfeld/SubjectGroup$Scheme;"⟩ : MethodName)) hown (mvT hZ (hW 1 _ rfl)) (mvT hZ (hW 2 _ rfl)) (mvT hZ (hW 3 _ rfl)) (mvT hZ (hW 4 _ rfl)) (by decide) (backOf (W := 0) (rm1_3 l Z a0 hw [] w3 h0 n0 S_DDR XO0) hZ (hW 4 _ rfl) (hW 3 _ rfl) (by decide) (by decide)) (g := (mkF m 8 #[.val (.int p1), .val (.int (3 : Int32)), .unset, .unset] [(.int (3 : Int32))])) rfl (by rw [hml]; rfl) (argsL := [(.int (3 : Int32))]) (rest := []) (lenOf pd_0 rfl) rfl (by show 2 * 0 + _ ≤ _; exact Nat.le_of_eq rfl) (hb hby at_8) (fun _ _ => ⟨rfl, e0, (by decide : 0 + 0 ≤ _), (by decide : 0 + 0 ≤ _)⟩)
    dsimp only [Pt.U, Pt.locs, Pt.cells, Pt.slots] at X13 l13 y13 z13 st13 hQ13
    subst l13 y13 z13
    obtain ⟨rfl, Nq13, eh13⟩ := hQ13
    have N13 := Fr.app N0 Nq13
    refine own_of st13 ?_
    show own_go p e below s _ _ _ (T13.setTop (mkF m 11 #[.val (.int p1), .val (.int (3 : Int32)), .unset, .unset] [(.ref w3)]))
    refine own_of (fun t => XS.astoreN X13.here hx rfl (hb hby at_11) rfl rfl (l' := #[.val (.int p1), .val (.int (3 : Int32)), .val (.ref w3), .unset]) rfl) ?_
    show own_go p e below s _ _ _ (T13.setTop (mkF m 12 #[.val (.int p1), .val (.int (3 : Int32)), .val (.ref w3), .unset] []))
    refine own_of (fun t => XS.iloadN X13.here hx rfl (hb hby at_12) rfl) ?_
    show own_go p e below s _ _ _ (T13.setTop (mkF m 13 #[.val (.int p1), .val (.int (3 : Int32)), .val (.ref w3), .unset] [(.int (3 : Int32))]))
    refine own_of (fun t => XS.iconst X13.here hx rfl (hb hby at_13)) ?_
    show own_go p e below s _ _ _ (T13.setTop (mkF m 14 #[.val (.int p1), .val (.int (3 : Int32)), .val (.ref w3), .unset] [(.int (4 : Int32)), (.int (3 : Int32))]))
    have hb14_14 : ¬ ((3 : Int32) = (4 : Int32)) := by decide
    refine own_of (fun t => XS.icmpYes X13.here hx rfl (pc0 := 14) (pc' := 21) rfl (hb hby at_14) rfl (feq hb14_14).2 (by decide) (by decide)) ?_
    show own_go p e below s _ _ _ (T13.setTop (mkF m 21 #[.val (.int p1), .val (.int (3 : Int32)), .val (.ref w3), .unset] []))
    refine own_of (fun t => XS.iconst X13.here hx rfl (hb hby at_21)) ?_
    show own_go p e below s _ _ _ (T13.setTop (mkF m 22 #[.val (.int p1), .val (.int (3 : Int32)), .val (.ref w3), .unset] [(.int (0 : Int32))]))
    refine own_of (fun t => XS.istoreN X13.here hx rfl (hb hby at_22) rfl (l' := #[.val (.int p1), .val (.int (3 : Int32)), .val (.ref w3), .val (.int (0 : Int32))]) rfl) ?_
    show own_go p e below s _ _ _ (T13.setTop (mkF m 23 #[.val (.int p1), .val (.int (3 : Int32)), .val (.ref w3), .val (.int (0 : Int32))] []))
    refine own_of (fun t => XS.aloadN X13.here hx rfl (hb hby at_23) rfl rfl) ?_
    show own_go p e below s _ _ _ (T13.setTop (mkF m 24 #[.val (.int p1), .val (.int (3 : Int32)), .val (.ref w3), .val (.int (0 : Int32))] [(.ref w3)]))
    have E_3 := E0_3.ext XO0.2
    obtain ⟨cq15, kq15, q15a, q15b, q15c⟩ := isOf hZ eh13 E_3
    obtain ⟨_, _, ⟨T15, L15, k15, n15⟩, -, X15, ⟨Lc15, hQ15, l15, y15, z15⟩, st15⟩ := X13.virtualBack hx (y := (⟨"com/example/sachfeld/sachfeld/SubjectGroup$Scheme", "followsMainGroup", "()Z"⟩ : MethodName)) (z := (⟨"com/example/sachfeld/sachfeld/SubjectGroup$Scheme", "followsMainGroup", "()Z"⟩ : MethodName)) hown (mvT hZ (hW 8 _ rfl)) (mvT hZ (hW 9 _ rfl)) (notFace_of_selects (args := #[]) (mvT hZ (hW 11 _ rfl))) (mvT hZ (hW 11 _ rfl)) (mvT hZ (hW 10 _ rfl)) (by decide) (backOf (W := 0) (rm2_d l Z a0 hw [] w3 w4 h0 n0 S_DDC2007 XO0 ne3) hZ (hW 12 _ rfl) (hW 6 _ rfl) (by decide) (by decide)) q15a q15c (g := (mkF m 24 #[.val (.int p1), .val (.int (3 : Int32)), .val (.ref w3), .val (.int (0 : Int32))] [(.ref w3)])) rfl (by rw [hml]; rfl) (Steps.refl _) (argsL := []) (rest := []) (lenOf pd_1 rfl) rfl (by show 2 * 0 + _ ≤ _; exact Nat.le_of_eq rfl) (hb hby at_24) (fun _ _ => ⟨rfl, eh13, (by decide : 0 + 0 ≤ _), (by decide : 0 + 0 ≤ _)⟩)
    dsimp only [Pt.U, Pt.locs, Pt.cells, Pt.slots] at X15 l15 y15 z15 st15 hQ15
    subst l15 y15 z15
    obtain ⟨rfl, Nq15, eh15⟩ := hQ15
    have N15 := Fr.app N13 Nq15
    refine own_of (fun t k => st15.trans k) ?_
    show own_go p e below s _ _ _ (T15.setTop (mkF m 27 #[.val (.int p1), .val (.int (3 : Int32)), .val (.ref w3), .val (.int (0 : Int32))] [(.int (0 : Int32))]))
    refine own_of (fun t => XS.iloadN X15.here hx rfl (hb hby at_27) rfl) ?_
    show own_go p e below s _ _ _ (T15.setTop (mkF m 28 #[.val (.int p1), .val (.int (3 : Int32)), .val (.ref w3), .val (.int (0 : Int32))] [(.int (0 : Int32)), (.int (0 : Int32))]))
    have hb28_16 : (0 : Int32) = (0 : Int32) := by decide
    refine own_of (fun t => XS.icmpNo X15.here hx rfl (hb hby at_28) rfl (teq hb28_16).2) ?_
    show own_go p e below s _ _ _ (T15.setTop (mkF m 31 #[.val (.int p1), .val (.int (3 : Int32)), .val (.ref w3), .val (.int (0 : Int32))] []))
    refine own_of (fun t => XS.iconst X15.here hx rfl (hb hby at_31)) ?_
    show own_go p e below s _ _ _ (T15.setTop (mkF m 32 #[.val (.int p1), .val (.int (3 : Int32)), .val (.ref w3), .val (.int (0 : Int32))] [(.int (1 : Int32))]))
    refine own_of (fun t => XS.goto X15.here hx rfl (pc0 := 32) (pc' := 36) rfl (hb hby at_32) (by decide) (by decide)) ?_
    show own_go p e below s _ _ _ (T15.setTop (mkF m 36 #[.val (.int p1), .val (.int (3 : Int32)), .val (.ref w3), .val (.int (0 : Int32))] [(.int (1 : Int32))]))
    refine own_ret X15 hx hlk Bd.returns rfl (Or.inl ⟨rfl, by simp, _, rfl⟩) (hb hby at_36) (by decide) (by decide) ?_
    rw [eh15]
    exact ⟨rfl, N15⟩
  · rw [hi]
    show own_go p e below s _ _ _ (s₁.setTop (mkF m 6 #[.val (.int p1), .unset, .unset, .unset] [(.int (4 : Int32))]))
    refine own_of (fun t => XS.istoreN X0.here hx rfl (hb hby at_6) rfl (l' := #[.val (.int p1), .val (.int (4 : Int32)), .unset, .unset]) rfl) ?_
    show own_go p e below s _ _ _ (s₁.setTop (mkF m 7 #[.val (.int p1), .val (.int (4 : Int32)), .unset, .unset] []))
    refine own_of (fun t => XS.iloadN X0.here hx rfl (hb hby at_7) rfl) ?_
    show own_go p e below s _ _ _ (s₁.setTop (mkF m 8 #[.val (.int p1), .val (.int (4 : Int32)), .unset, .unset] [(.int (4 : Int32))]))
    obtain ⟨_, _, ⟨T17, L17, k17, n17⟩, -, X17, ⟨Lc17, hQ17, l17, y17, z17⟩, st17⟩ := Jvm.LawKit.callS X0 hx (y := (⟨"com/example/sachfeld/sachfeld/SchemeFollowsMainGroupPinLaw", "pick", "(I)Lcom/example/sachfeld/sachfeld/SubjectGroup$Scheme;"⟩ : MethodName)) hown (mvT hZ (hW 1 _ rfl)) (mvT hZ (hW 2 _ rfl)) (mvT hZ (hW 3 _ rfl)) (mvT hZ (hW 4 _ rfl)) (by decide) (backOf (W := 0) (rm1_4 l Z a0 hw [] w4 h0 n0 S_DDC2007 XO0) hZ (hW 4 _ rfl) (hW 3 _ rfl) (by decide) (by decide)) (g := (mkF m 8 #[.val (.int p1), .val (.int (4 : Int32)), .unset, .unset] [(.int (4 : Int32))])) rfl (by rw [hml]; rfl) (argsL := [(.int (4 : Int32))]) (rest := []) (lenOf pd_0 rfl) rfl (by show 2 * 0 + _ ≤ _; exact Nat.le_of_eq rfl) (hb hby at_8) (fun _ _ => ⟨rfl, e0, (by decide : 0 + 0 ≤ _), (by decide : 0 + 0 ≤ _)⟩)
    dsimp only [Pt.U, Pt.locs, Pt.cells, Pt.slots] at X17 l17 y17 z17 st17 hQ17
    subst l17 y17 z17
    obtain ⟨rfl, Nq17, eh17⟩ := hQ17
    have N17 := Fr.app N0 Nq17
    refine own_of st17 ?_
    show own_go p e below s _ _ _ (T17.setTop (mkF m 11 #[.val (.int p1), .val (.int (4 : Int32)), .unset, .unset] [(.ref w4)]))
    refine own_of (fun t => XS.astoreN X17.here hx rfl (hb hby at_11) rfl rfl (l' := #[.val (.int p1), .val (.int (4 : Int32)), .val (.ref w4), .unset]) rfl) ?_
    show own_go p e below s _ _ _ (T17.setTop (mkF m 12 #[.val (.int p1), .val (.int (4 : Int32)), .val (.ref w4), .unset] []))
    refine own_of (fun t => XS.iloadN X17.here hx rfl (hb hby at_12) rfl) ?_
    show own_go p e below s _ _ _ (T17.setTop (mkF m 13 #[.val (.int p1), .val (.int (4 : Int32)), .val (.ref w4), .unset] [(.int (4 : Int32))]))
    refine own_of (fun t => XS.iconst X17.here hx rfl (hb hby at_13)) ?_
    show own_go p e below s _ _ _ (T17.setTop (mkF m 14 #[.val (.int p1), .val (.int (4 : Int32)), .val (.ref w4), .unset] [(.int (4 : Int32)), (.int (4 : Int32))]))
    have hb14_18 : (4 : Int32) = (4 : Int32) := by decide
    refine own_of (fun t => XS.icmpNo X17.here hx rfl (hb hby at_14) rfl (teq hb14_18).2) ?_
    show own_go p e below s _ _ _ (T17.setTop (mkF m 17 #[.val (.int p1), .val (.int (4 : Int32)), .val (.ref w4), .unset] []))
    refine own_of (fun t => XS.iconst X17.here hx rfl (hb hby at_17)) ?_
    show own_go p e below s _ _ _ (T17.setTop (mkF m 18 #[.val (.int p1), .val (.int (4 : Int32)), .val (.ref w4), .unset] [(.int (1 : Int32))]))
    refine own_of (fun t => XS.goto X17.here hx rfl (pc0 := 18) (pc' := 22) rfl (hb hby at_18) (by decide) (by decide)) ?_
    show own_go p e below s _ _ _ (T17.setTop (mkF m 22 #[.val (.int p1), .val (.int (4 : Int32)), .val (.ref w4), .unset] [(.int (1 : Int32))]))
    refine own_of (fun t => XS.istoreN X17.here hx rfl (hb hby at_22) rfl (l' := #[.val (.int p1), .val (.int (4 : Int32)), .val (.ref w4), .val (.int (1 : Int32))]) rfl) ?_
    show own_go p e below s _ _ _ (T17.setTop (mkF m 23 #[.val (.int p1), .val (.int (4 : Int32)), .val (.ref w4), .val (.int (1 : Int32))] []))
    refine own_of (fun t => XS.aloadN X17.here hx rfl (hb hby at_23) rfl rfl) ?_
    show own_go p e below s _ _ _ (T17.setTop (mkF m 24 #[.val (.int p1), .val (.int (4 : Int32)), .val (.ref w4), .val (.int (1 : Int32))] [(.ref w4)]))
    have E_4 := E0_4.ext XO0.2
    obtain ⟨cq19, kq19, q19a, q19b, q19c⟩ := isOf hZ eh17 E_4
    obtain ⟨_, _, ⟨T19, L19, k19, n19⟩, -, X19, ⟨Lc19, hQ19, l19, y19, z19⟩, st19⟩ := X17.virtualBack hx (y := (⟨"com/example/sachfeld/sachfeld/SubjectGroup$Scheme", "followsMainGroup", "()Z"⟩ : MethodName)) (z := (⟨"com/example/sachfeld/sachfeld/SubjectGroup$Scheme", "followsMainGroup", "()Z"⟩ : MethodName)) hown (mvT hZ (hW 8 _ rfl)) (mvT hZ (hW 9 _ rfl)) (notFace_of_selects (args := #[]) (mvT hZ (hW 11 _ rfl))) (mvT hZ (hW 11 _ rfl)) (mvT hZ (hW 10 _ rfl)) (by decide) (backOf (W := 0) (rm2_s l Z a0 hw [] w4 h0 n0 S_DDC2007 XO0) hZ (hW 12 _ rfl) (hW 6 _ rfl) (by decide) (by decide)) q19a q19c (g := (mkF m 24 #[.val (.int p1), .val (.int (4 : Int32)), .val (.ref w4), .val (.int (1 : Int32))] [(.ref w4)])) rfl (by rw [hml]; rfl) (Steps.refl _) (argsL := []) (rest := []) (lenOf pd_1 rfl) rfl (by show 2 * 0 + _ ≤ _; exact Nat.le_of_eq rfl) (hb hby at_24) (fun _ _ => ⟨rfl, eh17, (by decide : 0 + 0 ≤ _), (by decide : 0 + 0 ≤ _)⟩)
    dsimp only [Pt.U, Pt.locs, Pt.cells, Pt.slots] at X19 l19 y19 z19 st19 hQ19
    subst l19 y19 z19
    obtain ⟨rfl, Nq19, eh19⟩ := hQ19
    have N19 := Fr.app N17 Nq19
    refine own_of (fun t k => st19.trans k) ?_
    show own_go p e below s _ _ _ (T19.setTop (mkF m 27 #[.val (.int p1), .val (.int (4 : Int32)), .val (.ref w4), .val (.int (1 : Int32))] [(.int (1 : Int32))]))
    refine own_of (fun t => XS.iloadN X19.here hx rfl (hb hby at_27) rfl) ?_
    show own_go p e below s _ _ _ (T19.setTop (mkF m 28 #[.val (.int p1), .val (.int (4 : Int32)), .val (.ref w4), .val (.int (1 : Int32))] [(.int (1 : Int32)), (.int (1 : Int32))]))
    have hb28_20 : (1 : Int32) = (1 : Int32) := by decide
    refine own_of (fun t => XS.icmpNo X19.here hx rfl (hb hby at_28) rfl (teq hb28_20).2) ?_
    show own_go p e below s _ _ _ (T19.setTop (mkF m 31 #[.val (.int p1), .val (.int (4 : Int32)), .val (.ref w4), .val (.int (1 : Int32))] []))
    refine own_of (fun t => XS.iconst X19.here hx rfl (hb hby at_31)) ?_
    show own_go p e below s _ _ _ (T19.setTop (mkF m 32 #[.val (.int p1), .val (.int (4 : Int32)), .val (.ref w4), .val (.int (1 : Int32))] [(.int (1 : Int32))]))
    refine own_of (fun t => XS.goto X19.here hx rfl (pc0 := 32) (pc' := 36) rfl (hb hby at_32) (by decide) (by decide)) ?_
    show own_go p e below s _ _ _ (T19.setTop (mkF m 36 #[.val (.int p1), .val (.int (4 : Int32)), .val (.ref w4), .val (.int (1 : Int32))] [(.int (1 : Int32))]))
    refine own_ret X19 hx hlk Bd.returns rfl (Or.inl ⟨rfl, by simp, _, rfl⟩) (hb hby at_36) (by decide) (by decide) ?_
    rw [eh19]
    exact ⟨rfl, N19⟩
set_option maxRecDepth 65536 in
set_option maxHeartbeats 40000000 in
theorem comes_1 {Post : Tables → Env → Array Value → State → Outcome → State → Prop} (hpost : ∀ tb e args s v u, (limb_1_1.after args s (.returned v) u = true ∧ limb_1_2.after args s (.returned v) u = true ∧ True) → FrameEnd s (.returned v) u (Jvm.fieldLocs frame_1_writes args s ++ Jvm.arrayLocs frame_1_arrays args s ++ Jvm.staticLocs frame_1_statics s) 0 0 → Post tb e args s (.returned v) u) :
    ArmFor flags0 classFile x code maxLocals ret World_1 tables_1 room_1 Calls_1 rest_1 Pre_1 Post := by
  intro l hfl _ _ p e ha hc hk s m args below hf hA hF happ hP
  obtain ⟨hcalls, hrest, hpre⟩ := hP
  obtain ⟨-, -, -, hnamed, -, -, -, hat⟩ := (Spec.applies_iff hf).mp happ
  obtain ⟨hg, hn⟩ := and_e (Cond.before_iff.mp (show (Jvm.Cond.and given_1 narrow_1).before args s = true from hpre))
  obtain ⟨g1, g2⟩ := and_e hg
  obtain ⟨g3, g4⟩ := and_e hn
  obtain ⟨g5, g6⟩ := and_e g4
  obtain ⟨g7, g8⟩ := and_e g6
  obtain ⟨g9, g10⟩ := and_e g8
  obtain ⟨g11, g12⟩ := and_e g10
  obtain ⟨g13, g14⟩ := and_e g12
  obtain ⟨g15, g16⟩ := and_e g14
  obtain ⟨g17, g18⟩ := and_e g16
  obtain ⟨g19, g20⟩ := and_e g18
  obtain ⟨w0, rfl⟩ : ∃ w0 : Value, args = #[w0] := by
    have hs : args.size = 1 := by simpa [Cond.value, given_1] using g1
    obtain ⟨L⟩ := args
    match L, hs with
    | [w0], _ => exact ⟨w0, rfl⟩
  have hw := fun d (hd : d ∈ tables_1) => atoms_spec (ws := Jvm.Cond.code x code maxLocals ret :: tables_1) hat d (List.mem_cons_of_mem _ hd)
  have hW : ∀ (i : Nat) (d : Jvm.Cond), tables_1[i]? = some d → d.before _ s = true := fun i d h => hw d (List.mem_of_getElem? h)
  have hfit : Fit s := fun {y c} hc i hi => by
    obtain ⟨ha, rfl⟩ := Array.getElem?_eq_some_iff.mp hc
    have q := List.all_eq_true.mp ((Array.all_eq_true_iff_forall_mem.mp hF) _ (Array.getElem_mem ha)) i (List.mem_range.mpr hi)
    simpa [Array.getElem?_eq_getElem hi] using q
  obtain ⟨i0, ei0⟩ := is_v g2
  obtain rfl : w0 = (.int i0) := Option.some.inj ei0
  obtain ⟨a_DDC, ev_DDC, E_DDC⟩ := own_ex g3
  have S_DDC : Sta s s.heap "com/example/sachfeld/sachfeld/SubjectGroup$Scheme" "DDC" "Lcom/example/sachfeld/sachfeld/SubjectGroup$Scheme;" (.ref a_DDC) := Sta.start ev_DDC (Or.inr ⟨(hW 6 _ rfl), (hW 7 _ rfl)⟩)
  obtain ⟨a_DDC2007, ev_DDC2007, E_DDC2007⟩ := own_ex g5
  have S_DDC2007 : Sta s s.heap "com/example/sachfeld/sachfeld/SubjectGroup$Scheme" "DDC2007" "Lcom/example/sachfeld/sachfeld/SubjectGroup$Scheme;" (.ref a_DDC2007) := Sta.start ev_DDC2007 (Or.inr ⟨(hW 6 _ rfl), (hW 14 _ rfl)⟩)
  obtain ⟨a_DDR, ev_DDR, E_DDR⟩ := own_ex g11
  have S_DDR : Sta s s.heap "com/example/sachfeld/sachfeld/SubjectGroup$Scheme" "DDR" "Lcom/example/sachfeld/sachfeld/SubjectGroup$Scheme;" (.ref a_DDR) := Sta.start ev_DDR (Or.inr ⟨(hW 6 _ rfl), (hW 16 _ rfl)⟩)
  obtain ⟨a_DNB1982, ev_DNB1982, E_DNB1982⟩ := own_ex g15
  have S_DNB1982 : Sta s s.heap "com/example/sachfeld/sachfeld/SubjectGroup$Scheme" "DNB1982" "Lcom/example/sachfeld/sachfeld/SubjectGroup$Scheme;" (.ref a_DNB1982) := Sta.start ev_DNB1982 (Or.inr ⟨(hW 6 _ rfl), (hW 18 _ rfl)⟩)
  obtain ⟨a_DB1981, ev_DB1981, E_DB1981⟩ := own_ex g19
  have S_DB1981 : Sta s s.heap "com/example/sachfeld/sachfeld/SubjectGroup$Scheme" "DB1981" "Lcom/example/sachfeld/sachfeld/SubjectGroup$Scheme;" (.ref a_DB1981) := Sta.start ev_DB1981 (Or.inr ⟨(hW 6 _ rfl), (hW 21 _ rfl)⟩)
  have O_DDC := own_fi ev_DDC g7
  have O_DDC2007 := own_fi ev_DDC2007 g9
  have O_DDR := own_fi ev_DDR g13
  have O_DNB1982 := own_fi ev_DNB1982 g17
  have O_DB1981 := own_fi ev_DB1981 g20
  obtain ⟨n, o, h1, h2, h3, _, L, rfl, ⟨rfl, N⟩, hq⟩ := rm0 l s _ hw tables_1 i0 a_DDC a_DNB1982 a_DB1981 a_DDR a_DDC2007 s.heap s.heap.size (Old.start s) S_DDC S_DNB1982 S_DB1981 S_DDR S_DDC2007 E_DDC E_DNB1982 E_DB1981 E_DDR E_DDC2007 (Fld.ne O_DDC O_DDC2007 (by decide)) (Fld.ne O_DNB1982 O_DDC2007 (by decide)) (Fld.ne O_DB1981 O_DDC2007 (by decide)) (Fld.ne O_DDR O_DDC2007 (by decide)) p e ha hc hk s m _ below hf ((Spec.applies_iff_loose hf).mp happ).1 ⟨rfl, State.Warmed39.refl s, rfl⟩ trivial
  refine ⟨n, _, h1, h2, h3, hpost _ _ _ _ _ _ ⟨Cond.after_iff.mpr rfl, Cond.after_iff.mpr (eq_i res_at (Term.int_eval (1)) rfl), trivial⟩ ⟨hq.1, hq.2.1, (hq.2.2.sift fun y hy => Or.inr (N y hy)).mono (by decide) (by decide)⟩⟩
theorem main_1_1 : Claimed_1_1 := comes_1 fun _ _ _ _ _ _ h hF => ⟨h.1, hF⟩
theorem main_1_2 : Claimed_1_2 := comes_1 fun _ _ _ _ _ _ h hF => ⟨h.2.1, hF⟩
end Jvm.Pilot.@@N@@
namespace Jvm.Pilot.@@N@@
open Jvm Jvm.ClassFile Sem Op Lib Jvm.Free Jvm.Stand Jvm.Pilot.@@N@@.Jvm.D
/-! MADE BY PROGRAM (witnessworld.py) out of the Statement's table words and the real class files: 12 classes; the members and pool entries that the words name. The judged class is class 1, her method 2. -/
namespace start1
open Jvm.ClassFile
def u (s : String) : CpInfo := .utf8 (stringToUtf16 s)
/-- a pool by its gaps: so many unusable entries, then the entry; so many at the end -/
def gap : Nat → List CpInfo → List CpInfo
  | 0, r => r
  | n + 1, r => .unusable :: gap n r
def poolList (es : List (Nat × CpInfo)) (last : Nat) : List CpInfo := es.foldr (fun e r => gap e.1 (e.2 :: r)) (gap last [])
def pool (es : List (Nat × CpInfo)) (last : Nat) : Array CpInfo := ⟨poolList es last⟩
def fileOf (pool : Array CpInfo) (this : Nat) (attrs : Array Attribute := #[]) (ms : Array MethodInfo := #[]) (fl : Nat := 33) (sup : Nat := 0) (ifs : Array Nat := #[]) (fds : Array FieldInfo := #[]) : ClassFile where
  minorVersion := 0
  majorVersion := 65
  constantPool := pool
  accessFlags := fl
  thisClass := this
  superClass := sup
  interfaces := ifs
  fields := fds
  methods := ms
  attributes := attrs
def plain (name : String) (sup : Option ClassId) : Class where
  name := name
  kind := .ordinary
  loader := none
  accessFlags := 33
  super := sup
  interfaces := #[]
  cf := none
  fields := #[]
  methods := #[]
  instanceTypes := #[]
  staticTypes := #[]
  resolved := #[]
  callSites := []
  init := .initialized
  statics := none
  mirror := none

def pool0 : Array CpInfo := pool [(5, u "<init>"), (0, u "()V"), (1, .class_ 10), (1, u "java/lang/Object")] 113

def k0m0 : Method := { name := "<init>", desc := "()V", sig := { parameters := [], returnType := none }, accessFlags := 1, code := none }
/-- java/lang/Object -/
def k0 : Class := { plain "java/lang/Object" none with
  accessFlags := 33
  interfaces := #[]
  cf := some (fileOf pool0 8 #[] #[{ accessFlags := 1, nameIndex := 5, descriptorIndex := 6, attributes := #[] }] 33 0 #[] #[])
  fields := #[]
  methods := #[k0m0]
  instanceTypes := #[]
  staticTypes := #[]
  resolved := Array.replicate 124 none
  statics := none }

def pool1 : Array CpInfo := pool [(2, .class_ 4), (1, u "java/lang/Object"), (0, u "<init>"), (0, u "()V"), (0, .fieldref 8 9), (0, .class_ 10), (0, .nameAndType 11 12), (0, u "com/example/sachfeld/sachfeld/SubjectGroup$Scheme"), (0, u "DDC"), (0, u "Lcom/example/sachfeld/sachfeld/SubjectGroup$Scheme;"), (0, .fieldref 8 14), (0, .nameAndType 15 12), (0, u "DNB1982"), (0, .fieldref 8 17), (0, .nameAndType 18 12), (0, u "DB1981"), (0, .fieldref 8 20), (0, .nameAndType 21 12), (0, u "DDR"), (0, .fieldref 8 23), (0, .nameAndType 24 12), (0, u "DDC2007"), (0, .integer 2147483647), (0, .methodref 27 28), (0, .class_ 29), (0, .nameAndType 30 31), (0, u "com/example/sachfeld/sachfeld/SchemeFollowsMainGroupPinLaw"), (0, u "pick"), (0, u "(I)Lcom/example/sachfeld/sachfeld/SubjectGroup$Scheme;"), (0, .methodref 8 33), (0, .nameAndType 34 35), (0, u "followsMainGroup"), (0, u "()Z"), (3, u "law"), (0, u "(I)Z")] 6

def k1m0 : Method := { name := "<init>", desc := "()V", sig := { parameters := [], returnType := none }, accessFlags := 2, code := none }
def k1c1 : Code := { maxStack := 2, maxLocals := 2, code := method_2_code, exceptionTable := #[], attributes := #[] }
def k1m1 : Method := { name := "pick", desc := "(I)Lcom/example/sachfeld/sachfeld/SubjectGroup$Scheme;", sig := { parameters := [.int], returnType := some (.object "com/example/sachfeld/sachfeld/SubjectGroup$Scheme") }, accessFlags := 10, code := some k1c1 }
def k1c2 : Code := { maxStack := 2, maxLocals := 4, code := code, exceptionTable := #[], attributes := #[] }
def k1m2 : Method := { name := "law", desc := "(I)Z", sig := { parameters := [.int], returnType := some .boolean }, accessFlags := 9, code := some k1c2 }
/-- com/example/sachfeld/sachfeld/SchemeFollowsMainGroupPinLaw -/
def k1 : Class := { plain "com/example/sachfeld/sachfeld/SchemeFollowsMainGroupPinLaw" (some 0) with
  accessFlags := 49
  interfaces := #[]
  cf := some (fileOf pool1 27 #[] #[{ accessFlags := 2, nameIndex := 5, descriptorIndex := 6, attributes := #[] }, { accessFlags := 10, nameIndex := 30, descriptorIndex := 31, attributes := #[] }, { accessFlags := 9, nameIndex := 39, descriptorIndex := 40, attributes := #[] }] 49 2 #[] #[])
  fields := #[]
  methods := #[k1m0, k1m1, k1m2]
  instanceTypes := #[]
  staticTypes := #[]
  resolved := Array.replicate 47 none
  statics := none }

def pool2 : Array CpInfo := pool [(1, .class_ 2), (0, u "java/lang/constant/Constable"), (0, .class_ 4), (0, u "java/lang/Object")] 6

/-- java/lang/constant/Constable -/
def k2 : Class := { plain "java/lang/constant/Constable" (some 0) with
  accessFlags := 1537
  interfaces := #[]
  cf := some (fileOf pool2 1 #[] #[] 1537 3 #[] #[])
  fields := #[]
  methods := #[]
  instanceTypes := #[]
  staticTypes := #[]
  resolved := Array.replicate 11 none
  statics := none }

def pool3 : Array CpInfo := pool [(1, .class_ 2), (0, u "java/lang/Comparable"), (0, .class_ 4), (0, u "java/lang/Object")] 7

/-- java/lang/Comparable -/
def k3 : Class := { plain "java/lang/Comparable" (some 0) with
  accessFlags := 1537
  interfaces := #[]
  cf := some (fileOf pool3 1 #[] #[] 1537 3 #[] #[])
  fields := #[]
  methods := #[]
  instanceTypes := #[]
  staticTypes := #[]
  resolved := Array.replicate 12 none
  statics := none }

def pool4 : Array CpInfo := pool [(1, .class_ 2), (0, u "java/io/Serializable"), (0, .class_ 4), (0, u "java/lang/Object")] 2

/-- java/io/Serializable -/
def k4 : Class := { plain "java/io/Serializable" (some 0) with
  accessFlags := 1537
  interfaces := #[]
  cf := some (fileOf pool4 1 #[] #[] 1537 3 #[] #[])
  fields := #[]
  methods := #[]
  instanceTypes := #[]
  staticTypes := #[]
  resolved := Array.replicate 7 none
  statics := none }

def pool5 : Array CpInfo := pool [(2, .class_ 4), (1, u "java/lang/Enum"), (0, u "name"), (0, u "Ljava/lang/String;"), (2, u "ordinal"), (0, u "I"), (1, .class_ 14), (1, u "java/lang/Object"), (4, u "hash"), (86, .class_ 108), (1, u "java/lang/Enum$EnumDesc"), (2, .class_ 112), (0, u "java/lang/constant/Constable"), (0, .class_ 114), (0, u "java/lang/Comparable"), (0, .class_ 116), (0, u "java/io/Serializable")] 87

/-- java/lang/Enum -/
def k5 : Class := { plain "java/lang/Enum" (some 0) with
  accessFlags := 1057
  interfaces := #[2, 3, 4]
  cf := some (fileOf pool5 2 #[.nestMembers #[106]] #[] 1057 12 #[111, 113, 115] #[{ accessFlags := 18, nameIndex := 5, descriptorIndex := 6, attributes := #[] }, { accessFlags := 18, nameIndex := 9, descriptorIndex := 10, attributes := #[] }, { accessFlags := 2, nameIndex := 19, descriptorIndex := 10, attributes := #[] }])
  fields := #[{ name := "name", type := (.object "java/lang/String"), accessFlags := 18, slot := 0, constantValue := 0 }, { name := "ordinal", type := .int, accessFlags := 18, slot := 1, constantValue := 0 }, { name := "hash", type := .int, accessFlags := 2, slot := 2, constantValue := 0 }]
  methods := #[]
  instanceTypes := #[(.object "java/lang/String"), .int, .int]
  staticTypes := #[]
  resolved := Array.replicate 204 none
  statics := none }

def pool6 : Array CpInfo := pool [(1, .class_ 2), (0, u "com/example/sachfeld/sachfeld/SubjectGroup$Scheme"), (2, u "DDC"), (0, u "Lcom/example/sachfeld/sachfeld/SubjectGroup$Scheme;"), (2, u "DNB1982"), (2, u "DB1981"), (2, u "DDR"), (0, .fieldref 1 17), (0, .nameAndType 18 6), (0, u "DDC2007"), (2, u "$VALUES"), (0, u "[Lcom/example/sachfeld/sachfeld/SubjectGroup$Scheme;"), (6, .class_ 31), (1, u "java/lang/Enum"), (8, u "label"), (0, u "Ljava/lang/String;"), (2, u "codeForm"), (0, u "Lcom/example/sachfeld/sachfeld/SubjectGroup$CodeForm;"), (2, u "ddcSubjectGroups"), (0, u "Z"), (49, u "followsMainGroup"), (0, u "()Z"), (6, .class_ 108), (0, u "com/example/sachfeld/sachfeld/SubjectGroup")] 3

def k6c0 : Code := { maxStack := 2, maxLocals := 1, code := prog_53_method_7_code, exceptionTable := #[], attributes := #[] }
def k6m0 : Method := { name := "followsMainGroup", desc := "()Z", sig := { parameters := [], returnType := some .boolean }, accessFlags := 0, code := some k6c0 }
/-- com/example/sachfeld/sachfeld/SubjectGroup$Scheme -/
def k6 : Class := { plain "com/example/sachfeld/sachfeld/SubjectGroup$Scheme" (some 5) with
  accessFlags := 16433
  interfaces := #[]
  cf := some (fileOf pool6 1 #[.nestHost 107] #[{ accessFlags := 0, nameIndex := 99, descriptorIndex := 100, attributes := #[] }] 16433 29 #[] #[{ accessFlags := 16409, nameIndex := 5, descriptorIndex := 6, attributes := #[] }, { accessFlags := 16409, nameIndex := 9, descriptorIndex := 6, attributes := #[] }, { accessFlags := 16409, nameIndex := 12, descriptorIndex := 6, attributes := #[] }, { accessFlags := 16409, nameIndex := 15, descriptorIndex := 6, attributes := #[] }, { accessFlags := 16409, nameIndex := 18, descriptorIndex := 6, attributes := #[] }, { accessFlags := 18, nameIndex := 40, descriptorIndex := 41, attributes := #[] }, { accessFlags := 18, nameIndex := 44, descriptorIndex := 45, attributes := #[] }, { accessFlags := 18, nameIndex := 48, descriptorIndex := 49, attributes := #[] }, { accessFlags := 4122, nameIndex := 21, descriptorIndex := 22, attributes := #[] }])
  fields := #[{ name := "DDC", type := (.object "com/example/sachfeld/sachfeld/SubjectGroup$Scheme"), accessFlags := 16409, slot := 0, constantValue := 0 }, { name := "DNB1982", type := (.object "com/example/sachfeld/sachfeld/SubjectGroup$Scheme"), accessFlags := 16409, slot := 1, constantValue := 0 }, { name := "DB1981", type := (.object "com/example/sachfeld/sachfeld/SubjectGroup$Scheme"), accessFlags := 16409, slot := 2, constantValue := 0 }, { name := "DDR", type := (.object "com/example/sachfeld/sachfeld/SubjectGroup$Scheme"), accessFlags := 16409, slot := 3, constantValue := 0 }, { name := "DDC2007", type := (.object "com/example/sachfeld/sachfeld/SubjectGroup$Scheme"), accessFlags := 16409, slot := 4, constantValue := 0 }, { name := "label", type := (.object "java/lang/String"), accessFlags := 18, slot := 3, constantValue := 0 }, { name := "codeForm", type := (.object "com/example/sachfeld/sachfeld/SubjectGroup$CodeForm"), accessFlags := 18, slot := 4, constantValue := 0 }, { name := "ddcSubjectGroups", type := .boolean, accessFlags := 18, slot := 5, constantValue := 0 }, { name := "$VALUES", type := (.array (.object "com/example/sachfeld/sachfeld/SubjectGroup$Scheme")), accessFlags := 4122, slot := 5, constantValue := 0 }]
  methods := #[k6m0]
  instanceTypes := #[(.object "java/lang/String"), .int, .int, (.object "java/lang/String"), (.object "com/example/sachfeld/sachfeld/SubjectGroup$CodeForm"), .boolean]
  staticTypes := #[(.object "com/example/sachfeld/sachfeld/SubjectGroup$Scheme"), (.object "com/example/sachfeld/sachfeld/SubjectGroup$Scheme"), (.object "com/example/sachfeld/sachfeld/SubjectGroup$Scheme"), (.object "com/example/sachfeld/sachfeld/SubjectGroup$Scheme"), (.object "com/example/sachfeld/sachfeld/SubjectGroup$Scheme"), (.array (.object "com/example/sachfeld/sachfeld/SubjectGroup$Scheme"))]
  resolved := Array.replicate 112 none
  statics := some 0 }

def pool7 : Array CpInfo := pool [(1, u "java/lang/Cloneable"), (0, .class_ 1), (0, u "java/lang/Object"), (0, .class_ 3)] 3

/-- java/lang/Cloneable -/
def k7 : Class := { plain "java/lang/Cloneable" (some 0) with
  accessFlags := 1537
  interfaces := #[]
  cf := some (fileOf pool7 2 #[] #[] 1537 4 #[] #[])
  fields := #[]
  methods := #[]
  instanceTypes := #[]
  staticTypes := #[]
  resolved := Array.replicate 8 none
  statics := none }

/-- the primitive byte -/
def k8 : Class := { plain "byte" none with kind := .primitive 'B', accessFlags := 0x411 }
/-- [B -/
def k9 : Class := { plain "[B" (some 0) with kind := .array 8 .byte, interfaces := #[7, 4], accessFlags := 1041 }

/-- the primitive int -/
def k10 : Class := { plain "int" none with kind := .primitive 'I', accessFlags := 0x411 }
/-- [I -/
def k11 : Class := { plain "[I" (some 0) with kind := .array 10 .int, interfaces := #[7, 4], accessFlags := 1041 }

def heap : Heap := #[{ cls := 6, slots := #[.ref 1, .ref 2, .ref 3, .ref 4, .ref 5, .null], vm := .statics 6 },
  { cls := 6, slots := #[.null, .int 0, .int 0, .null, .null, .int 0], vm := .none },
  { cls := 6, slots := #[.null, .int 1, .int 0, .null, .null, .int 0], vm := .none },
  { cls := 6, slots := #[.null, .int 2, .int 0, .null, .null, .int 0], vm := .none },
  { cls := 6, slots := #[.null, .int 3, .int 0, .null, .null, .int 0], vm := .none },
  { cls := 6, slots := #[.null, .int 4, .int 0, .null, .null, .int 0], vm := .none }]
def classes : Array Class := #[k0, k1, k2, k3, k4, k5, k6, k7, k8, k9, k10, k11]
def interned : List (Array UInt16 × Addr) := []
def slotsUsed : Nat := 36
def theMethod : MethodId := ⟨1, 2⟩
def args0 : Array Value := #[.int 5]
def aboutOver (below : List Frame) : State where
  vm := { classes := classes, interned := interned.toArray }
  heap := heap
  slotsUsed := slotsUsed
  threads := #[{ frames := .invoking theMethod args0 :: below }]
def below0 : List Frame := [.native { method := ⟨0, 0⟩, args := #[] }]
def about1 : State := aboutOver below0
def p0 : Program := .bare "" "" ""
def e0 : Env := launch0.env 0 0 0
theorem w_frames : about1.frames = Frame.invoking theMethod args0 :: below0 := rfl
set_option maxRecDepth 65536 in
theorem w_args : argsFit about1.vm theMethod args0 = true := by decide +kernel
set_option maxRecDepth 65536 in
theorem w_heap : heapFits about1 = true := by decide +kernel
set_option maxRecDepth 65536 in
theorem w_runnable : about1.curStatus? = some .runnable := by decide +kernel
set_option maxRecDepth 65536 in
theorem w_alone : about1.alone = true := by decide +kernel
set_option maxRecDepth 65536 in
theorem w_named : about1.methodNamed? x = some theMethod := by decide +kernel
set_option maxRecDepth 65536 in
theorem w_hears : about1.hears theMethod below0 = true := by decide +kernel
set_option maxRecDepth 65536 in
theorem w_ripe : about1.ripe theMethod args0 below0 = true := by decide +kernel
theorem w_running : about1.status = .running := rfl
set_option maxRecDepth 65536 in
theorem w_room : about1.hasRoom e0.platform room_1 = true :=
  launch0.hasRoom_least _ room_1 (by decide +kernel) (by decide +kernel) (by decide +kernel) (by decide +kernel) (by decide +kernel) (by decide +kernel)
theorem allAtoms_all (ts : List Jvm.Cond) (a : Array Jvm.Value) (st : Jvm.State) : (allAtoms ts).before a st = ts.all (fun c => c.before a st) := by
  induction ts with
  | nil => rfl
  | cons c t ih =>
    show (Jvm.Cond.and c (allAtoms t)).before a st = _
    rw [Jvm.Cond.before_and, ih, List.all_cons]
def words1 : List Jvm.Cond := Jvm.Cond.code x code maxLocals ret :: tables_1
/-- a 'code' word, met by the world's own term for the bytes: nothing is compared byte by byte -/
theorem code_word {y : MethodName} {bytes : ByteArray} {mx : Nat} {rt : Option FieldType} {a : Array Value} {s : State} {m : MethodId} {meth : Method} {c : Code} (h1 : s.methodNamed? y = some m) (h2 : s.vm.method? m = some meth) (h3 : meth.code = some c) (h4 : c.code = bytes)
    (h5 : (c.maxLocals == mx && c.exceptionTable.isEmpty && decide (c.maxStack ≤ mostOperands) && decide (meth.sig.returnType = rt) && !meth.locks && decide (parseMethodDescriptor y.desc = some meth.sig)) = true) : (Jvm.Cond.code y bytes mx rt).before a s = true := by
  simp only [Bool.and_eq_true, beq_iff_eq, Bool.not_eq_true', decide_eq_true_eq] at h5
  obtain ⟨⟨⟨⟨⟨g1, g2⟩, g3⟩, g4⟩, g5⟩, g6⟩ := h5
  simp [Cond.before, Cond.holds, Cond.value, h1, h2, h3, h4, g1, g2, g3, g4, g5, g6]
def isCode : Jvm.Cond → Bool
  | .code _ _ _ _ => true
  | _ => false
theorem all_split {L : List Jvm.Cond} {P : Jvm.Cond → Bool} (h1 : L.all (fun c => isCode c || P c) = true) (h2 : ∀ c ∈ L.filter isCode, P c = true) : L.all P = true := by
  refine List.all_eq_true.mpr fun c hc => ?_
  have h := List.all_eq_true.mp h1 c hc
  rcases Bool.eq_false_or_eq_true (isCode c) with hi | hi
  · exact h2 c (List.mem_filter.mpr ⟨hc, hi⟩)
  · simpa [hi] using h
set_option maxRecDepth 65536 in
theorem w_c0 : (Jvm.Cond.code x code maxLocals ret).before args0 about1 = true := code_word (m := ⟨1, 2⟩) (meth := k1m2) (c := k1c2) (by decide +kernel) rfl rfl rfl (by decide +kernel)
set_option maxRecDepth 65536 in
theorem w_c1 : (Jvm.Cond.code ({ cls := "com/example/sachfeld/sachfeld/SchemeFollowsMainGroupPinLaw", name := "pick", desc := "(I)Lcom/example/sachfeld/sachfeld/SubjectGroup$Scheme;" } : Jvm.MethodName) method_2_code (2 : Nat) (Option.some (Jvm.ClassFile.FieldType.object "com/example/sachfeld/sachfeld/SubjectGroup$Scheme"))).before args0 about1 = true := code_word (m := ⟨1, 1⟩) (meth := k1m1) (c := k1c1) (by decide +kernel) rfl rfl rfl (by decide +kernel)
set_option maxRecDepth 65536 in
theorem w_c2 : (Jvm.Cond.code ({ cls := "com/example/sachfeld/sachfeld/SubjectGroup$Scheme", name := "followsMainGroup", desc := "()Z" } : Jvm.MethodName) prog_53_method_7_code (1 : Nat) (Option.some Jvm.ClassFile.FieldType.boolean)).before args0 about1 = true := code_word (m := ⟨6, 0⟩) (meth := k6m0) (c := k6c0) (by decide +kernel) rfl rfl rfl (by decide +kernel)
def codes1 : List Jvm.Cond := [Jvm.Cond.code x code maxLocals ret, Jvm.Cond.code ({ cls := "com/example/sachfeld/sachfeld/SchemeFollowsMainGroupPinLaw", name := "pick", desc := "(I)Lcom/example/sachfeld/sachfeld/SubjectGroup$Scheme;" } : Jvm.MethodName) method_2_code (2 : Nat) (Option.some (Jvm.ClassFile.FieldType.object "com/example/sachfeld/sachfeld/SubjectGroup$Scheme")), Jvm.Cond.code ({ cls := "com/example/sachfeld/sachfeld/SubjectGroup$Scheme", name := "followsMainGroup", desc := "()Z" } : Jvm.MethodName) prog_53_method_7_code (1 : Nat) (Option.some Jvm.ClassFile.FieldType.boolean)]
set_option maxRecDepth 65536 in
theorem codes_eq : words1.filter isCode = codes1 := rfl
theorem w_codes : ∀ c ∈ words1.filter isCode, c.before args0 about1 = true := by
  rw [codes_eq]
  intro c hc
  simp only [codes1, List.mem_cons, List.not_mem_nil, or_false] at hc
  rcases hc with rfl | rfl | rfl
  · exact w_c0
  · exact w_c1
  · exact w_c2
set_option maxRecDepth 65536 in
theorem w_t1 : words1.all (fun c => isCode c || c.before args0 about1) = true := by decide +kernel
theorem w_tables : (allAtoms (Jvm.Cond.code x code maxLocals ret :: tables_1)).before args0 about1 = true := by
  rw [allAtoms_all]
  show words1.all (fun c => c.before args0 about1) = true
  refine all_split ?_ w_codes
  rw [w_t1]
set_option maxRecDepth 65536 in
theorem w_case : (Jvm.Cond.and given_1 narrow_1).before args0 about1 = true := by decide +kernel
theorem w_applies : (headSpec (Jvm.Cond.code x code maxLocals ret :: tables_1) room_1).applies x e0.platform about1 = true :=
  (Spec.applies_iff w_frames).mpr ⟨w_running, w_runnable, w_alone, w_named, w_hears, w_ripe, w_room, w_tables⟩
theorem atStart : AtStart classFile x code maxLocals ret World_1 tables_1 room_1 Calls_1 rest_1 Pre_1 launch0 p0 e0 about1 theMethod args0 below0 :=
  ⟨lists_1, trivial, launch0.admits_env _ _ _, launch0.least_env, fairChoices_fair.cas, fairChoices_fair.clock, w_frames, w_args, w_heap, w_applies, trivial, trivial, w_case⟩
end start1
theorem witness_1 : WitnessClaimed_1 := ⟨start1.p0, start1.e0, start1.about1, start1.theMethod, start1.args0, start1.below0, start1.atStart⟩
end Jvm.Pilot.@@N@@
