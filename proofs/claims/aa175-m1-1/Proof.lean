import JvmDerived
import JvmDerived.Pilot.@@N@@Statement
import JvmDerived.Pilot.@@N@@Code
set_option linter.unusedVariables false
set_option linter.unusedSimpArgs false
@@BLOCK:NumsL.lean.txt@@
namespace Jvm.Pilot.@@N@@
open Jvm Jvm.ClassFile Sem Op Lib Jvm.Free Jvm.Stand Jvm.LawKit Jvm.RoadKit Bundle Jvm.Pilot.@@N@@.Jvm.D
section Own
variable {p : Program} {l : Launch} {e : Env} {R : Room} {s : State} {m : MethodId} {args : Array Value} {below : List Frame} {meth : Method} {c : Code} {T : State} {locs : List Loc} {cells slots : Nat}
/-- from A the run ends, and what it leaves is as Q says -/
def own_go (p : Program) (e : Env) (below : List Frame) (s : State) (Q : Option Value → Heap → List Loc → Prop) (C S : Nat) (A : State) : Prop :=
  ∃ t o, Steps p.tables e below A t ∧ t.status = .running ∧ Ended t below o ∧ ∃ v L, o = .returned v ∧ Q v t.heap L ∧ FrameEnd s o t L C S
variable {Q : Option Value → Heap → List Loc → Prop} {C S : Nat} {A B : State}
theorem own_in (h : own_go p e below s Q C S A) : ∃ t o, Steps p.tables e below A t ∧ t.status = .running ∧ Ended t below o ∧ ∃ v L, o = .returned v ∧ Q v t.heap L ∧ FrameEnd s o t L C S := h
theorem own_of (k : ∀ t, Steps p.tables e below B t → Steps p.tables e below A t) (h : own_go p e below s Q C S B) : own_go p e below s Q C S A := by
  obtain ⟨t, o, h1, h2⟩ := h
  exact ⟨t, o, k t h1, h2⟩
theorem own_use {α : Type} (X : Stand p l e R s m args below meth c T locs cells slots) {h : Heap} {g : α → JFrame} {G : State → Prop} (k : ∀ (r : α) (T' : State), Stand p l e R s m args below meth c T' locs cells slots → T'.heap = h → G (T'.setTop (g r)))
    (b : (∀ (r : α) (T' : State), Stand p l e R s m args below meth c T' locs cells slots → T'.heap = h → G (T'.setTop (g r))) → G A) : G A := b k
theorem own_ret (X : Stand p l e R s m args below meth c T locs cells slots) (hx : p.tables.exec = Jvm.exec) (hlk : meth.locks = false) {pc : Nat} {Ls : Array Slot} {w : Value} {t : FieldType} {i : Instr} {rest : List Value} (hret : meth.sig.returnType = some t) (hn : narrow t w = w)
    (hi : (i = .ireturn ∧ (t = .int ∨ t = .boolean ∨ t = .byte ∨ t = .char ∨ t = .short) ∧ ∃ z, w = .int z) ∨ (i = .lreturn ∧ t = .long ∧ ∃ z, w = .long z) ∨ (i = .dreturn ∧ t = .double ∧ ∃ z, w = .double z) ∨ (i = .freturn ∧ t = .float ∧ ∃ z, w = .float z) ∨ (i = .areturn ∧ t.isReference = true ∧ w.isRef = true))
    (hd : decode c.code pc = .ok (i, 1)) (hc : cells ≤ C) (hs : slots ≤ S) (hQ : Q (some w) T.heap locs) : own_go p e below s Q C S (T.setTop (mkF m pc Ls (w :: rest))) := by
  obtain ⟨fs, hr, hrun, hended, hW, hsame⟩ := X.leave (v := some w) (fun h => by rw [hret] at h; cases h) hlk
  exact ⟨_, _, retOut X hx hret hn hi hd hr, hrun, hended, _, _, rfl, hQ, ⟨_, rfl⟩, hW, hsame.mono hc hs⟩
theorem own_retV (X : Stand p l e R s m args below meth c T locs cells slots) (hx : p.tables.exec = Jvm.exec) (hlk : meth.locks = false) {pc : Nat} {Ls : Array Slot} (hret : meth.sig.returnType = none)
    (hd : decode c.code pc = .ok (.return_, 1)) (hc : cells ≤ C) (hs : slots ≤ S) (hQ : Q none T.heap locs) : own_go p e below s Q C S (T.setTop (mkF m pc Ls [])) := by
  obtain ⟨fs, hr, hrun, hended, hW, hsame⟩ := X.leave (v := none) (fun _ => rfl) hlk
  exact ⟨_, _, X.returnOut hx hret hd hr, hrun, hended, _, _, rfl, hQ, ⟨_, rfl⟩, hW, hsame.mono hc hs⟩
/-- the same where String constants may have been loaded -/
def own_gw (p : Program) (e : Env) (below : List Frame) (s : State) (Q : Option Value → Heap → List Loc → Prop) (C S : Nat) (A : State) : Prop :=
  ∃ t o, Steps p.tables e below A t ∧ t.status = .running ∧ Ended t below o ∧ ∃ v L, o = .returned v ∧ Q v t.heap L ∧ ReturnedEndW s o t L C S
theorem own_inw (h : own_gw p e below s Q C S A) : ∃ t o, Steps p.tables e below A t ∧ t.status = .running ∧ Ended t below o ∧ ∃ v L, o = .returned v ∧ Q v t.heap L ∧ ReturnedEndW s o t L C S := h
theorem own_ofw (k : ∀ t, Steps p.tables e below B t → Steps p.tables e below A t) (h : own_gw p e below s Q C S B) : own_gw p e below s Q C S A := by
  obtain ⟨t, o, h1, h2⟩ := h
  exact ⟨t, o, k t h1, h2⟩
theorem own_retw {vm0 : Vm} {k0 : Nat} (X : Stand p l e R (s.setVm vm0) m args below meth c T locs cells slots) (hx : p.tables.exec = Jvm.exec) (hlk : meth.locks = false) (hS : s.Since vm0 k0) (hk : k0 ≤ T.heap.size) {pc : Nat} {Ls : Array Slot} {w : Value} {t : FieldType} {i : Instr} {rest : List Value} (hret : meth.sig.returnType = some t) (hn : narrow t w = w)
    (hi : (i = .ireturn ∧ (t = .int ∨ t = .boolean ∨ t = .byte ∨ t = .char ∨ t = .short) ∧ ∃ z, w = .int z) ∨ (i = .lreturn ∧ t = .long ∧ ∃ z, w = .long z) ∨ (i = .dreturn ∧ t = .double ∧ ∃ z, w = .double z) ∨ (i = .freturn ∧ t = .float ∧ ∃ z, w = .float z) ∨ (i = .areturn ∧ t.isReference = true ∧ w.isRef = true))
    (hd : decode c.code pc = .ok (i, 1)) (hc : cells ≤ C) (hs : slots ≤ S) (hQ : Q (some w) T.heap locs) : own_gw p e below s Q C S (T.setTop (mkF m pc Ls (w :: rest))) := by
  obtain ⟨fs, hr, hrun, hended, h1, h2, h3, h4⟩ := X.leaveW hS hk (v := some w) (fun h => by rw [hret] at h; cases h) hlk
  exact ⟨_, _, retOut X hx hret hn hi hd hr, hrun, hended, _, _, rfl, hQ, h1, h2, h3, h4.mono hc hs⟩
theorem own_retVw {vm0 : Vm} {k0 : Nat} (X : Stand p l e R (s.setVm vm0) m args below meth c T locs cells slots) (hx : p.tables.exec = Jvm.exec) (hlk : meth.locks = false) (hS : s.Since vm0 k0) (hk : k0 ≤ T.heap.size) {pc : Nat} {Ls : Array Slot} (hret : meth.sig.returnType = none)
    (hd : decode c.code pc = .ok (.return_, 1)) (hc : cells ≤ C) (hs : slots ≤ S) (hQ : Q none T.heap locs) : own_gw p e below s Q C S (T.setTop (mkF m pc Ls [])) := by
  obtain ⟨fs, hr, hrun, hended, h1, h2, h3, h4⟩ := X.leaveW hS hk (v := none) (fun _ => rfl) hlk
  exact ⟨_, _, X.returnOut hx hret hd hr, hrun, hended, _, _, rfl, hQ, h1, h2, h3, h4.mono hc hs⟩
/-- the same, with what the JVM holds for the constants of EL -/
def own_gc (p : Program) (e : Env) (below : List Frame) (s : State) (Z : State) (EL : List (String × Nat)) (Q : Option Value → Heap → List Loc → Prop) (C S : Nat) (A : State) : Prop :=
  ∃ t o, Steps p.tables e below A t ∧ t.status = .running ∧ Ended t below o ∧ ∃ v L, o = .returned v ∧ Q v t.heap L ∧ CHr Z EL s.vm s.heap t.vm t.heap ∧ ReturnedEndW s o t L C S
variable {Z : State} {EL : List (String × Nat)} {a0 : Array Value}
theorem own_inc (h : own_gc p e below s Z EL Q C S A) : ∃ t o, Steps p.tables e below A t ∧ t.status = .running ∧ Ended t below o ∧ ∃ v L, o = .returned v ∧ Q v t.heap L ∧ CHr Z EL s.vm s.heap t.vm t.heap ∧ ReturnedEndW s o t L C S := h
theorem own_ofc (k : ∀ t, Steps p.tables e below B t → Steps p.tables e below A t) (h : own_gc p e below s Z EL Q C S B) : own_gc p e below s Z EL Q C S A := by
  obtain ⟨t, o, h1, h2⟩ := h
  exact ⟨t, o, k t h1, h2⟩
theorem own_retc {vm0 : Vm} {k0 : Nat} (X : Stand p l e R (s.setVm vm0) m args below meth c T locs cells slots) (hx : p.tables.exec = Jvm.exec) (hlk : meth.locks = false) (hS : s.Since vm0 k0) (hk : k0 ≤ T.heap.size) (hZ : Z.Warmed39 vm0) (hEL : EW Z a0 EL) (H : CHr Z EL s.vm s.heap vm0 T.heap) {pc : Nat} {Ls : Array Slot} {w : Value} {t : FieldType} {i : Instr} {rest : List Value} (hret : meth.sig.returnType = some t) (hn : narrow t w = w)
    (hi : (i = .ireturn ∧ (t = .int ∨ t = .boolean ∨ t = .byte ∨ t = .char ∨ t = .short) ∧ ∃ z, w = .int z) ∨ (i = .lreturn ∧ t = .long ∧ ∃ z, w = .long z) ∨ (i = .dreturn ∧ t = .double ∧ ∃ z, w = .double z) ∨ (i = .freturn ∧ t = .float ∧ ∃ z, w = .float z) ∨ (i = .areturn ∧ t.isReference = true ∧ w.isRef = true))
    (hd : decode c.code pc = .ok (i, 1)) (hc : cells ≤ C) (hs : slots ≤ S) (hQ : Q (some w) T.heap locs) : own_gc p e below s Z EL Q C S (T.setTop (mkF m pc Ls (w :: rest))) := by
  obtain ⟨fs, hr, hrun, hended, h1, h2, h3, h4⟩ := X.leaveW hS hk (v := some w) (fun h => by rw [hret] at h; cases h) hlk
  have q : CHr Z EL s.vm s.heap T.vm T.heap := H.trans (CHv.at X hZ hEL H.1)
  exact ⟨_, _, retOut X hx hret hn hi hd hr, hrun, hended, _, _, rfl, hQ, q, h1, h2, h3, h4.mono hc hs⟩
theorem own_retVc {vm0 : Vm} {k0 : Nat} (X : Stand p l e R (s.setVm vm0) m args below meth c T locs cells slots) (hx : p.tables.exec = Jvm.exec) (hlk : meth.locks = false) (hS : s.Since vm0 k0) (hk : k0 ≤ T.heap.size) (hZ : Z.Warmed39 vm0) (hEL : EW Z a0 EL) (H : CHr Z EL s.vm s.heap vm0 T.heap) {pc : Nat} {Ls : Array Slot} (hret : meth.sig.returnType = none)
    (hd : decode c.code pc = .ok (.return_, 1)) (hc : cells ≤ C) (hs : slots ≤ S) (hQ : Q none T.heap locs) : own_gc p e below s Z EL Q C S (T.setTop (mkF m pc Ls [])) := by
  obtain ⟨fs, hr, hrun, hended, h1, h2, h3, h4⟩ := X.leaveW hS hk (v := none) (fun _ => rfl) hlk
  have q : CHr Z EL s.vm s.heap T.vm T.heap := H.trans (CHv.at X hZ hEL H.1)
  exact ⟨_, _, X.returnOut hx hret hd hr, hrun, hended, _, _, rfl, hQ, q, h1, h2, h3, h4.mono hc hs⟩
open Jvm.Free.SB Jvm.Free.SBG in
/-- a String that has no array yet is no constant's -/
theorem own_safe_null {vm : Vm} {h : Heap} {x : Addr} (hal : Z.vm.Alike vm) (E : Exa Z h x "java/lang/String") (F : Fld Z h x "java/lang/String" "value" "[B" .null) : Safe Z EL vm h x := fun B => by
  obtain ⟨p, -, u, a, -, q, -, F', rfl | rfl⟩ := B
  · obtain ⟨cS, ⟨⟨s1, s2, s3, ⟨cv, kv, iv, s4, s4'⟩, s5, s6, s7, s8, -⟩, -, -⟩, -⟩ := F'
    obtain ⟨cell, cf, k, i, f, h1, h2, h3, -, -, -, h7⟩ := F
    cases (show h[q.sa]? = some q.sC from s1).symm.trans h1
    obtain ⟨kv', z4⟩ := ff_back (U := Wst Z vm h) hal s4
    have e4 := z4.symm.trans h2
    simp only [Option.some.injEq, Prod.mk.injEq] at e4
    rw [e4.2.2.2] at s8
    have := s8.symm.trans h7
    simp at this
  · obtain ⟨cell, k, e1, e2, e3, -, -⟩ := E
    cases (show h[q.sd]? = some q.SA from F'.hd).symm.trans e1
    obtain ⟨cS, -, -, f, -⟩ := F'
    have f' : vm.findClass "[B" = some q.SA.cls := f
    rw [hal.findClass] at f'
    obtain ⟨k1, q1, q2⟩ := Vm.findClass_spec f'
    obtain ⟨k2, q3, q4⟩ := Vm.findClass_spec e2
    cases q1.symm.trans q3
    have := q2.symm.trans q4
    simp at this
theorem own_ex {t : Term} {K : String} (h : (Jvm.Cond.exactly t K).value args s none s [] = some true) : ∃ a, t.eval args s none [] s = some (.ref a) ∧ Exa s s.heap a K := by
  obtain ⟨a, ha⟩ := exa_v h
  exact ⟨a, ha, Exa.start ha h⟩
theorem own_fi {t : Term} {K n d : String} {a : Addr} {k : Int32} (ht : t.eval args s none [] s = some (.ref a)) (h : (Jvm.Cond.eq (Term.field t K n d) (Term.int k)).value args s none s [] = some true) : Fld s s.heap a K n d (.int k) := by
  obtain ⟨x, y, h1, h2, h3, h4⟩ := cmp_v (Or.inl h)
  have e2 := Option.some.inj ((Term.int_eval k).symm.trans h2)
  subst e2
  rw [fld_at ht] at h1
  obtain ⟨z, rfl⟩ := h4
  have hz : s.fieldOf? a K n d = some (.int z) := h1
  have : z = k := by
    have h5 : (Term.field t K n d).eval args s none [] s = some (.int z) := (fld_at ht).trans hz
    simpa [Cond.value, h5, Term.int_eval] using h
  subst this
  exact Fld.start hz
end Own
theorem ef_rm1_0 (m : MethodId) (x0 : Int32) : entryFrame m #[(.int x0)] 1 = mkF m 0 #[.val (.int x0)] [] := by first | (simp [entryFrame, mkF, argsToLocals, Value.category]; done) | rfl
theorem pn_0 : plainName "com/example/bo3/bo3/core/EventTypeEndsRunPinLaw" = true := by first | (simp [plainName, overriddenIn]; done) | decide +kernel
theorem d1_0 : decode method_2_code 0 = .ok (.iload_n 0, 1) := by decide +kernel
theorem d1_1 : decode method_2_code 1 = .ok (.ifCond .ne 7, 3) := by decide +kernel
theorem d1_4 : decode method_2_code 4 = .ok (.getstatic 7, 3) := by decide +kernel
theorem d1_7 : decode method_2_code 7 = .ok (.areturn, 1) := by decide +kernel
def Q_rm1_0 (Z : State) (w : Addr) (h0 : Heap) (n0 : Nat) (v : Option Value) (h : Heap) (L : List Loc) : Prop := v = some (.ref w) ∧ Fr n0 L ∧ h = h0
set_option maxRecDepth 65536 in
set_option maxHeartbeats 40000000 in
theorem rm1_0 (l : Launch) (Z : State) (a0 : Array Value) (hw : ∀ d ∈ tables_1, d.before a0 Z = true) (ws : List Jvm.Cond) (w : Addr) (h0 : Heap) (n0 : Nat) (S_ACTION_STARTED : Sta Z Z.heap "com/example/bo3/bo3/core/EventType" "ACTION_STARTED" "Lcom/example/bo3/bo3/core/EventType;" (.ref w)) (XO0 : Old Z n0 h0) :
    MetFree l (⟨"com/example/bo3/bo3/core/EventTypeEndsRunPinLaw", "pick", "(I)Lcom/example/bo3/bo3/core/EventType;"⟩ : MethodName) (head1 (Jvm.Cond.code (⟨"com/example/bo3/bo3/core/EventTypeEndsRunPinLaw", "pick", "(I)Lcom/example/bo3/bo3/core/EventType;"⟩ : MethodName) method_2_code 1 (some (.object "com/example/bo3/bo3/core/EventType")) :: ws) ({ frames := 0, cells := 0, slots := 0, locals := 0 } : Room)) (fun zz_ U => zz_ = #[(.int (0 : Int32))] ∧ Z.Warmed39 U.vm ∧ U.heap = h0) (fun _ _ _ _ _ => True) (fun _ U o U' => ∃ v L, o = .returned v ∧ Q_rm1_0 Z w h0 n0 v U'.heap L ∧ FrameEnd U o U' L ({ frames := 0, cells := 0, slots := 0, locals := 0 } : Room).cells ({ frames := 0, cells := 0, slots := 0, locals := 0 } : Room).slots) := by
  refine MetFree.of_bodySF (plainFor_of_name pn_0) hisR ?_
  intro p e s m args below meth c s₁ Bd hml0 hP hK
  obtain ⟨rfl, hZ, hh⟩ := hP
  have hx := Bd.exec
  have hby := Bd.bytes
  have hlk := Bd.notSynchronized
  have hW : ∀ (i : Nat) (d : Jvm.Cond), tables_1[i]? = some d → d.before a0 Z = true := fun i d h => hw d (List.mem_of_getElem? h)
  have hml : c.maxLocals = 1 := hml0
  have hown : s.vm.findClass "com/example/bo3/bo3/core/EventTypeEndsRunPinLaw" = some m.cls := findClass_of_methodNamed Bd.named
  have hnm := (name_of_methodNamed Bd.named Bd.method).1
  have X0 : Stand p l e ({ frames := 0, cells := 0, slots := 0, locals := 0 } : Room) s m #[(.int (0 : Int32))] below meth c s₁ [] 0 0 := Stand.of_body Bd
  have e0 : s₁.heap = h0 := by rw [← hh, Bd.state]; rfl
  have N0 := Fr.nil n0
  refine own_in ?_
  refine own_of (fun t k => castTop (ef_rm1_0 m (0 : Int32)) k) ?_
  show own_go p e below s _ _ _ (s₁.setTop (mkF m 0 #[.val (.int (0 : Int32))] []))
  refine own_of (fun t => XS.iloadN X0.here hx rfl (hb hby d1_0) rfl) ?_
  show own_go p e below s _ _ _ (s₁.setTop (mkF m 1 #[.val (.int (0 : Int32))] [(.int (0 : Int32))]))
  have hb1_1 : (0 : Int32) = (0 : Int32) := by decide
  refine own_of (fun t => XS.ifNo X0.here hx rfl (hb hby d1_1) rfl ((if0 _ _).trans (teq hb1_1).2)) ?_
  show own_go p e below s _ _ _ (s₁.setTop (mkF m 4 #[.val (.int (0 : Int32))] []))
  obtain ⟨T2, X2, e2, st2⟩ := getS2 X0 hx hZ hown (host := "") (Or.inl (hW 5 _ rfl)) Via.refl e0 (S_ACTION_STARTED.ext XO0.2) (g := (mkF m 4 #[.val (.int (0 : Int32))] [])) rfl (hb hby d1_4)
  refine own_of st2 ?_
  show own_go p e below s _ _ _ (T2.setTop (mkF m 7 #[.val (.int (0 : Int32))] [(.ref w)]))
  refine own_ret X2 hx hlk Bd.returns rfl (Or.inr (Or.inr (Or.inr (Or.inr ⟨rfl, rfl, rfl⟩)))) (hb hby d1_7) (by decide) (by decide) ?_
  rw [e2]
  exact ⟨rfl, N0, rfl⟩
theorem ef_rm3_0 (m : MethodId) (x0 : Int32) : entryFrame m #[(.int x0)] 1 = mkF m 0 #[.val (.int x0)] [] := by first | (simp [entryFrame, mkF, argsToLocals, Value.category]; done) | rfl
theorem d3_0 : decode method_3_code 0 = .ok (.iload_n 0, 1) := by decide +kernel
theorem d3_1 : decode method_3_code 1 = .ok (.ifCond .ne 5, 3) := by decide +kernel
theorem d3_4 : decode method_3_code 4 = .ok (.iconst 0, 1) := by decide +kernel
theorem d3_5 : decode method_3_code 5 = .ok (.ireturn, 1) := by decide +kernel
def Q_rm3_0 (Z : State)  (h0 : Heap) (n0 : Nat) (v : Option Value) (h : Heap) (L : List Loc) : Prop := v = some (.int 0) ∧ Fr n0 L ∧ h = h0
set_option maxRecDepth 65536 in
set_option maxHeartbeats 40000000 in
theorem rm3_0 (l : Launch) (Z : State) (a0 : Array Value) (hw : ∀ d ∈ tables_1, d.before a0 Z = true) (ws : List Jvm.Cond)  (h0 : Heap) (n0 : Nat) (XO0 : Old Z n0 h0) :
    MetFree l (⟨"com/example/bo3/bo3/core/EventTypeEndsRunPinLaw", "expected", "(I)Z"⟩ : MethodName) (head1 (Jvm.Cond.code (⟨"com/example/bo3/bo3/core/EventTypeEndsRunPinLaw", "expected", "(I)Z"⟩ : MethodName) method_3_code 1 (some .boolean) :: ws) ({ frames := 0, cells := 0, slots := 0, locals := 0 } : Room)) (fun zz_ U => zz_ = #[(.int (0 : Int32))] ∧ Z.Warmed39 U.vm ∧ U.heap = h0) (fun _ _ _ _ _ => True) (fun _ U o U' => ∃ v L, o = .returned v ∧ Q_rm3_0 Z  h0 n0 v U'.heap L ∧ FrameEnd U o U' L ({ frames := 0, cells := 0, slots := 0, locals := 0 } : Room).cells ({ frames := 0, cells := 0, slots := 0, locals := 0 } : Room).slots) := by
  refine MetFree.of_bodySF (plainFor_of_name pn_0) hisR ?_
  intro p e s m args below meth c s₁ Bd hml0 hP hK
  obtain ⟨rfl, hZ, hh⟩ := hP
  have hx := Bd.exec
  have hby := Bd.bytes
  have hlk := Bd.notSynchronized
  have hW : ∀ (i : Nat) (d : Jvm.Cond), tables_1[i]? = some d → d.before a0 Z = true := fun i d h => hw d (List.mem_of_getElem? h)
  have hml : c.maxLocals = 1 := hml0
  have hown : s.vm.findClass "com/example/bo3/bo3/core/EventTypeEndsRunPinLaw" = some m.cls := findClass_of_methodNamed Bd.named
  have hnm := (name_of_methodNamed Bd.named Bd.method).1
  have X0 : Stand p l e ({ frames := 0, cells := 0, slots := 0, locals := 0 } : Room) s m #[(.int (0 : Int32))] below meth c s₁ [] 0 0 := Stand.of_body Bd
  have e0 : s₁.heap = h0 := by rw [← hh, Bd.state]; rfl
  have N0 := Fr.nil n0
  refine own_in ?_
  refine own_of (fun t k => castTop (ef_rm3_0 m (0 : Int32)) k) ?_
  show own_go p e below s _ _ _ (s₁.setTop (mkF m 0 #[.val (.int (0 : Int32))] []))
  refine own_of (fun t => XS.iloadN X0.here hx rfl (hb hby d3_0) rfl) ?_
  show own_go p e below s _ _ _ (s₁.setTop (mkF m 1 #[.val (.int (0 : Int32))] [(.int (0 : Int32))]))
  have hb1_1 : (0 : Int32) = (0 : Int32) := by decide
  refine own_of (fun t => XS.ifNo X0.here hx rfl (hb hby d3_1) rfl ((if0 _ _).trans (teq hb1_1).2)) ?_
  show own_go p e below s _ _ _ (s₁.setTop (mkF m 4 #[.val (.int (0 : Int32))] []))
  refine own_of (fun t => XS.iconst X0.here hx rfl (hb hby d3_4)) ?_
  show own_go p e below s _ _ _ (s₁.setTop (mkF m 5 #[.val (.int (0 : Int32))] [(.int (0 : Int32))]))
  refine own_ret X0 hx hlk Bd.returns rfl (Or.inl ⟨rfl, by simp, _, rfl⟩) (hb hby d3_5) (by decide) (by decide) ?_
  rw [e0]
  exact ⟨rfl, N0, rfl⟩
theorem ef_rm1_1 (m : MethodId) (x0 : Int32) : entryFrame m #[(.int x0)] 1 = mkF m 0 #[.val (.int x0)] [] := by first | (simp [entryFrame, mkF, argsToLocals, Value.category]; done) | rfl
theorem d1_8 : decode method_2_code 8 = .ok (.iload_n 0, 1) := by decide +kernel
theorem d1_9 : decode method_2_code 9 = .ok (.iconst 1, 1) := by decide +kernel
theorem d1_10 : decode method_2_code 10 = .ok (.if_icmp .ne 7, 3) := by decide +kernel
theorem d1_13 : decode method_2_code 13 = .ok (.getstatic 13, 3) := by decide +kernel
theorem d1_16 : decode method_2_code 16 = .ok (.areturn, 1) := by decide +kernel
def Q_rm1_1 (Z : State) (w : Addr) (h0 : Heap) (n0 : Nat) (v : Option Value) (h : Heap) (L : List Loc) : Prop := v = some (.ref w) ∧ Fr n0 L ∧ h = h0
set_option maxRecDepth 65536 in
set_option maxHeartbeats 40000000 in
theorem rm1_1 (l : Launch) (Z : State) (a0 : Array Value) (hw : ∀ d ∈ tables_1, d.before a0 Z = true) (ws : List Jvm.Cond) (w : Addr) (h0 : Heap) (n0 : Nat) (S_ACTION_COMPLETED : Sta Z Z.heap "com/example/bo3/bo3/core/EventType" "ACTION_COMPLETED" "Lcom/example/bo3/bo3/core/EventType;" (.ref w)) (XO0 : Old Z n0 h0) :
    MetFree l (⟨"com/example/bo3/bo3/core/EventTypeEndsRunPinLaw", "pick", "(I)Lcom/example/bo3/bo3/core/EventType;"⟩ : MethodName) (head1 (Jvm.Cond.code (⟨"com/example/bo3/bo3/core/EventTypeEndsRunPinLaw", "pick", "(I)Lcom/example/bo3/bo3/core/EventType;"⟩ : MethodName) method_2_code 1 (some (.object "com/example/bo3/bo3/core/EventType")) :: ws) ({ frames := 0, cells := 0, slots := 0, locals := 0 } : Room)) (fun zz_ U => zz_ = #[(.int (1 : Int32))] ∧ Z.Warmed39 U.vm ∧ U.heap = h0) (fun _ _ _ _ _ => True) (fun _ U o U' => ∃ v L, o = .returned v ∧ Q_rm1_1 Z w h0 n0 v U'.heap L ∧ FrameEnd U o U' L ({ frames := 0, cells := 0, slots := 0, locals := 0 } : Room).cells ({ frames := 0, cells := 0, slots := 0, locals := 0 } : Room).slots) := by
  refine MetFree.of_bodySF (plainFor_of_name pn_0) hisR ?_
  intro p e s m args below meth c s₁ Bd hml0 hP hK
  obtain ⟨rfl, hZ, hh⟩ := hP
  have hx := Bd.exec
  have hby := Bd.bytes
  have hlk := Bd.notSynchronized
  have hW : ∀ (i : Nat) (d : Jvm.Cond), tables_1[i]? = some d → d.before a0 Z = true := fun i d h => hw d (List.mem_of_getElem? h)
  have hml : c.maxLocals = 1 := hml0
  have hown : s.vm.findClass "com/example/bo3/bo3/core/EventTypeEndsRunPinLaw" = some m.cls := findClass_of_methodNamed Bd.named
  have hnm := (name_of_methodNamed Bd.named Bd.method).1
  have X0 : Stand p l e ({ frames := 0, cells := 0, slots := 0, locals := 0 } : Room) s m #[(.int (1 : Int32))] below meth c s₁ [] 0 0 := Stand.of_body Bd
  have e0 : s₁.heap = h0 := by rw [← hh, Bd.state]; rfl
  have N0 := Fr.nil n0
  refine own_in ?_
  refine own_of (fun t k => castTop (ef_rm1_1 m (1 : Int32)) k) ?_
  show own_go p e below s _ _ _ (s₁.setTop (mkF m 0 #[.val (.int (1 : Int32))] []))
  refine own_of (fun t => XS.iloadN X0.here hx rfl (hb hby d1_0) rfl) ?_
  show own_go p e below s _ _ _ (s₁.setTop (mkF m 1 #[.val (.int (1 : Int32))] [(.int (1 : Int32))]))
  have hb1_1 : ¬ ((1 : Int32) = (0 : Int32)) := by decide
  refine own_of (fun t => XS.ifYes X0.here hx rfl (pc0 := 1) (pc' := 8) rfl (hb hby d1_1) rfl ((if0 _ _).trans (feq hb1_1).2) (by decide) (by decide)) ?_
  show own_go p e below s _ _ _ (s₁.setTop (mkF m 8 #[.val (.int (1 : Int32))] []))
  refine own_of (fun t => XS.iloadN X0.here hx rfl (hb hby d1_8) rfl) ?_
  show own_go p e below s _ _ _ (s₁.setTop (mkF m 9 #[.val (.int (1 : Int32))] [(.int (1 : Int32))]))
  refine own_of (fun t => XS.iconst X0.here hx rfl (hb hby d1_9)) ?_
  show own_go p e below s _ _ _ (s₁.setTop (mkF m 10 #[.val (.int (1 : Int32))] [(.int (1 : Int32)), (.int (1 : Int32))]))
  have hb10_2 : (1 : Int32) = (1 : Int32) := by decide
  refine own_of (fun t => XS.icmpNo X0.here hx rfl (hb hby d1_10) rfl (teq hb10_2).2) ?_
  show own_go p e below s _ _ _ (s₁.setTop (mkF m 13 #[.val (.int (1 : Int32))] []))
  obtain ⟨T3, X3, e3, st3⟩ := getS2 X0 hx hZ hown (host := "") (Or.inl (hW 24 _ rfl)) Via.refl e0 (S_ACTION_COMPLETED.ext XO0.2) (g := (mkF m 13 #[.val (.int (1 : Int32))] [])) rfl (hb hby d1_13)
  refine own_of st3 ?_
  show own_go p e below s _ _ _ (T3.setTop (mkF m 16 #[.val (.int (1 : Int32))] [(.ref w)]))
  refine own_ret X3 hx hlk Bd.returns rfl (Or.inr (Or.inr (Or.inr (Or.inr ⟨rfl, rfl, rfl⟩)))) (hb hby d1_16) (by decide) (by decide) ?_
  rw [e3]
  exact ⟨rfl, N0, rfl⟩
theorem ef_rm3_1 (m : MethodId) (x0 : Int32) : entryFrame m #[(.int x0)] 1 = mkF m 0 #[.val (.int x0)] [] := by first | (simp [entryFrame, mkF, argsToLocals, Value.category]; done) | rfl
theorem d3_6 : decode method_3_code 6 = .ok (.iload_n 0, 1) := by decide +kernel
theorem d3_7 : decode method_3_code 7 = .ok (.iconst 1, 1) := by decide +kernel
theorem d3_8 : decode method_3_code 8 = .ok (.if_icmp .ne 5, 3) := by decide +kernel
theorem d3_11 : decode method_3_code 11 = .ok (.iconst 0, 1) := by decide +kernel
theorem d3_12 : decode method_3_code 12 = .ok (.ireturn, 1) := by decide +kernel
def Q_rm3_1 (Z : State)  (h0 : Heap) (n0 : Nat) (v : Option Value) (h : Heap) (L : List Loc) : Prop := v = some (.int 0) ∧ Fr n0 L ∧ h = h0
set_option maxRecDepth 65536 in
set_option maxHeartbeats 40000000 in
theorem rm3_1 (l : Launch) (Z : State) (a0 : Array Value) (hw : ∀ d ∈ tables_1, d.before a0 Z = true) (ws : List Jvm.Cond)  (h0 : Heap) (n0 : Nat) (XO0 : Old Z n0 h0) :
    MetFree l (⟨"com/example/bo3/bo3/core/EventTypeEndsRunPinLaw", "expected", "(I)Z"⟩ : MethodName) (head1 (Jvm.Cond.code (⟨"com/example/bo3/bo3/core/EventTypeEndsRunPinLaw", "expected", "(I)Z"⟩ : MethodName) method_3_code 1 (some .boolean) :: ws) ({ frames := 0, cells := 0, slots := 0, locals := 0 } : Room)) (fun zz_ U => zz_ = #[(.int (1 : Int32))] ∧ Z.Warmed39 U.vm ∧ U.heap = h0) (fun _ _ _ _ _ => True) (fun _ U o U' => ∃ v L, o = .returned v ∧ Q_rm3_1 Z  h0 n0 v U'.heap L ∧ FrameEnd U o U' L ({ frames := 0, cells := 0, slots := 0, locals := 0 } : Room).cells ({ frames := 0, cells := 0, slots := 0, locals := 0 } : Room).slots) := by
  refine MetFree.of_bodySF (plainFor_of_name pn_0) hisR ?_
  intro p e s m args below meth c s₁ Bd hml0 hP hK
  obtain ⟨rfl, hZ, hh⟩ := hP
  have hx := Bd.exec
  have hby := Bd.bytes
  have hlk := Bd.notSynchronized
  have hW : ∀ (i : Nat) (d : Jvm.Cond), tables_1[i]? = some d → d.before a0 Z = true := fun i d h => hw d (List.mem_of_getElem? h)
  have hml : c.maxLocals = 1 := hml0
  have hown : s.vm.findClass "com/example/bo3/bo3/core/EventTypeEndsRunPinLaw" = some m.cls := findClass_of_methodNamed Bd.named
  have hnm := (name_of_methodNamed Bd.named Bd.method).1
  have X0 : Stand p l e ({ frames := 0, cells := 0, slots := 0, locals := 0 } : Room) s m #[(.int (1 : Int32))] below meth c s₁ [] 0 0 := Stand.of_body Bd
  have e0 : s₁.heap = h0 := by rw [← hh, Bd.state]; rfl
  have N0 := Fr.nil n0
  refine own_in ?_
  refine own_of (fun t k => castTop (ef_rm3_1 m (1 : Int32)) k) ?_
  show own_go p e below s _ _ _ (s₁.setTop (mkF m 0 #[.val (.int (1 : Int32))] []))
  refine own_of (fun t => XS.iloadN X0.here hx rfl (hb hby d3_0) rfl) ?_
  show own_go p e below s _ _ _ (s₁.setTop (mkF m 1 #[.val (.int (1 : Int32))] [(.int (1 : Int32))]))
  have hb1_1 : ¬ ((1 : Int32) = (0 : Int32)) := by decide
  refine own_of (fun t => XS.ifYes X0.here hx rfl (pc0 := 1) (pc' := 6) rfl (hb hby d3_1) rfl ((if0 _ _).trans (feq hb1_1).2) (by decide) (by decide)) ?_
  show own_go p e below s _ _ _ (s₁.setTop (mkF m 6 #[.val (.int (1 : Int32))] []))
  refine own_of (fun t => XS.iloadN X0.here hx rfl (hb hby d3_6) rfl) ?_
  show own_go p e below s _ _ _ (s₁.setTop (mkF m 7 #[.val (.int (1 : Int32))] [(.int (1 : Int32))]))
  refine own_of (fun t => XS.iconst X0.here hx rfl (hb hby d3_7)) ?_
  show own_go p e below s _ _ _ (s₁.setTop (mkF m 8 #[.val (.int (1 : Int32))] [(.int (1 : Int32)), (.int (1 : Int32))]))
  have hb8_2 : (1 : Int32) = (1 : Int32) := by decide
  refine own_of (fun t => XS.icmpNo X0.here hx rfl (hb hby d3_8) rfl (teq hb8_2).2) ?_
  show own_go p e below s _ _ _ (s₁.setTop (mkF m 11 #[.val (.int (1 : Int32))] []))
  refine own_of (fun t => XS.iconst X0.here hx rfl (hb hby d3_11)) ?_
  show own_go p e below s _ _ _ (s₁.setTop (mkF m 12 #[.val (.int (1 : Int32))] [(.int (0 : Int32))]))
  refine own_ret X0 hx hlk Bd.returns rfl (Or.inl ⟨rfl, by simp, _, rfl⟩) (hb hby d3_12) (by decide) (by decide) ?_
  rw [e0]
  exact ⟨rfl, N0, rfl⟩
theorem ef_rm1_2 (m : MethodId) (x0 : Int32) : entryFrame m #[(.int x0)] 1 = mkF m 0 #[.val (.int x0)] [] := by first | (simp [entryFrame, mkF, argsToLocals, Value.category]; done) | rfl
theorem d1_17 : decode method_2_code 17 = .ok (.iload_n 0, 1) := by decide +kernel
theorem d1_18 : decode method_2_code 18 = .ok (.iconst 2, 1) := by decide +kernel
theorem d1_19 : decode method_2_code 19 = .ok (.if_icmp .ne 7, 3) := by decide +kernel
theorem d1_22 : decode method_2_code 22 = .ok (.getstatic 16, 3) := by decide +kernel
theorem d1_25 : decode method_2_code 25 = .ok (.areturn, 1) := by decide +kernel
def Q_rm1_2 (Z : State) (w : Addr) (h0 : Heap) (n0 : Nat) (v : Option Value) (h : Heap) (L : List Loc) : Prop := v = some (.ref w) ∧ Fr n0 L ∧ h = h0
set_option maxRecDepth 65536 in
set_option maxHeartbeats 40000000 in
theorem rm1_2 (l : Launch) (Z : State) (a0 : Array Value) (hw : ∀ d ∈ tables_1, d.before a0 Z = true) (ws : List Jvm.Cond) (w : Addr) (h0 : Heap) (n0 : Nat) (S_ACTION_ERROR : Sta Z Z.heap "com/example/bo3/bo3/core/EventType" "ACTION_ERROR" "Lcom/example/bo3/bo3/core/EventType;" (.ref w)) (XO0 : Old Z n0 h0) :
    MetFree l (⟨"com/example/bo3/bo3/core/EventTypeEndsRunPinLaw", "pick", "(I)Lcom/example/bo3/bo3/core/EventType;"⟩ : MethodName) (head1 (Jvm.Cond.code (⟨"com/example/bo3/bo3/core/EventTypeEndsRunPinLaw", "pick", "(I)Lcom/example/bo3/bo3/core/EventType;"⟩ : MethodName) method_2_code 1 (some (.object "com/example/bo3/bo3/core/EventType")) :: ws) ({ frames := 0, cells := 0, slots := 0, locals := 0 } : Room)) (fun zz_ U => zz_ = #[(.int (2 : Int32))] ∧ Z.Warmed39 U.vm ∧ U.heap = h0) (fun _ _ _ _ _ => True) (fun _ U o U' => ∃ v L, o = .returned v ∧ Q_rm1_2 Z w h0 n0 v U'.heap L ∧ FrameEnd U o U' L ({ frames := 0, cells := 0, slots := 0, locals := 0 } : Room).cells ({ frames := 0, cells := 0, slots := 0, locals := 0 } : Room).slots) := by
  refine MetFree.of_bodySF (plainFor_of_name pn_0) hisR ?_
  intro p e s m args below meth c s₁ Bd hml0 hP hK
  obtain ⟨rfl, hZ, hh⟩ := hP
  have hx := Bd.exec
  have hby := Bd.bytes
  have hlk := Bd.notSynchronized
  have hW : ∀ (i : Nat) (d : Jvm.Cond), tables_1[i]? = some d → d.before a0 Z = true := fun i d h => hw d (List.mem_of_getElem? h)
  have hml : c.maxLocals = 1 := hml0
  have hown : s.vm.findClass "com/example/bo3/bo3/core/EventTypeEndsRunPinLaw" = some m.cls := findClass_of_methodNamed Bd.named
  have hnm := (name_of_methodNamed Bd.named Bd.method).1
  have X0 : Stand p l e ({ frames := 0, cells := 0, slots := 0, locals := 0 } : Room) s m #[(.int (2 : Int32))] below meth c s₁ [] 0 0 := Stand.of_body Bd
  have e0 : s₁.heap = h0 := by rw [← hh, Bd.state]; rfl
  have N0 := Fr.nil n0
  refine own_in ?_
  refine own_of (fun t k => castTop (ef_rm1_2 m (2 : Int32)) k) ?_
  show own_go p e below s _ _ _ (s₁.setTop (mkF m 0 #[.val (.int (2 : Int32))] []))
  refine own_of (fun t => XS.iloadN X0.here hx rfl (hb hby d1_0) rfl) ?_
  show own_go p e below s _ _ _ (s₁.setTop (mkF m 1 #[.val (.int (2 : Int32))] [(.int (2 : Int32))]))
  have hb1_1 : ¬ ((2 : Int32) = (0 : Int32)) := by decide
  refine own_of (fun t => XS.ifYes X0.here hx rfl (pc0 := 1) (pc' := 8) rfl (hb hby d1_1) rfl ((if0 _ _).trans (feq hb1_1).2) (by decide) (by decide)) ?_
  show own_go p e below s _ _ _ (s₁.setTop (mkF m 8 #[.val (.int (2 : Int32))] []))
  refine own_of (fun t => XS.iloadN X0.here hx rfl (hb hby d1_8) rfl) ?_
  show own_go p e below s _ _ _ (s₁.setTop (mkF m 9 #[.val (.int (2 : Int32))] [(.int (2 : Int32))]))
  refine own_of (fun t => XS.iconst X0.here hx rfl (hb hby d1_9)) ?_
  show own_go p e below s _ _ _ (s₁.setTop (mkF m 10 #[.val (.int (2 : Int32))] [(.int (1 : Int32)), (.int (2 : Int32))]))
  have hb10_2 : ¬ ((2 : Int32) = (1 : Int32)) := by decide
  refine own_of (fun t => XS.icmpYes X0.here hx rfl (pc0 := 10) (pc' := 17) rfl (hb hby d1_10) rfl (feq hb10_2).2 (by decide) (by decide)) ?_
  show own_go p e below s _ _ _ (s₁.setTop (mkF m 17 #[.val (.int (2 : Int32))] []))
  refine own_of (fun t => XS.iloadN X0.here hx rfl (hb hby d1_17) rfl) ?_
  show own_go p e below s _ _ _ (s₁.setTop (mkF m 18 #[.val (.int (2 : Int32))] [(.int (2 : Int32))]))
  refine own_of (fun t => XS.iconst X0.here hx rfl (hb hby d1_18)) ?_
  show own_go p e below s _ _ _ (s₁.setTop (mkF m 19 #[.val (.int (2 : Int32))] [(.int (2 : Int32)), (.int (2 : Int32))]))
  have hb19_3 : (2 : Int32) = (2 : Int32) := by decide
  refine own_of (fun t => XS.icmpNo X0.here hx rfl (hb hby d1_19) rfl (teq hb19_3).2) ?_
  show own_go p e below s _ _ _ (s₁.setTop (mkF m 22 #[.val (.int (2 : Int32))] []))
  obtain ⟨T4, X4, e4, st4⟩ := getS2 X0 hx hZ hown (host := "") (Or.inl (hW 22 _ rfl)) Via.refl e0 (S_ACTION_ERROR.ext XO0.2) (g := (mkF m 22 #[.val (.int (2 : Int32))] [])) rfl (hb hby d1_22)
  refine own_of st4 ?_
  show own_go p e below s _ _ _ (T4.setTop (mkF m 25 #[.val (.int (2 : Int32))] [(.ref w)]))
  refine own_ret X4 hx hlk Bd.returns rfl (Or.inr (Or.inr (Or.inr (Or.inr ⟨rfl, rfl, rfl⟩)))) (hb hby d1_25) (by decide) (by decide) ?_
  rw [e4]
  exact ⟨rfl, N0, rfl⟩
theorem ef_rm3_2 (m : MethodId) (x0 : Int32) : entryFrame m #[(.int x0)] 1 = mkF m 0 #[.val (.int x0)] [] := by first | (simp [entryFrame, mkF, argsToLocals, Value.category]; done) | rfl
theorem d3_13 : decode method_3_code 13 = .ok (.iload_n 0, 1) := by decide +kernel
theorem d3_14 : decode method_3_code 14 = .ok (.iconst 2, 1) := by decide +kernel
theorem d3_15 : decode method_3_code 15 = .ok (.if_icmp .ne 5, 3) := by decide +kernel
theorem d3_18 : decode method_3_code 18 = .ok (.iconst 0, 1) := by decide +kernel
theorem d3_19 : decode method_3_code 19 = .ok (.ireturn, 1) := by decide +kernel
def Q_rm3_2 (Z : State)  (h0 : Heap) (n0 : Nat) (v : Option Value) (h : Heap) (L : List Loc) : Prop := v = some (.int 0) ∧ Fr n0 L ∧ h = h0
set_option maxRecDepth 65536 in
set_option maxHeartbeats 40000000 in
theorem rm3_2 (l : Launch) (Z : State) (a0 : Array Value) (hw : ∀ d ∈ tables_1, d.before a0 Z = true) (ws : List Jvm.Cond)  (h0 : Heap) (n0 : Nat) (XO0 : Old Z n0 h0) :
    MetFree l (⟨"com/example/bo3/bo3/core/EventTypeEndsRunPinLaw", "expected", "(I)Z"⟩ : MethodName) (head1 (Jvm.Cond.code (⟨"com/example/bo3/bo3/core/EventTypeEndsRunPinLaw", "expected", "(I)Z"⟩ : MethodName) method_3_code 1 (some .boolean) :: ws) ({ frames := 0, cells := 0, slots := 0, locals := 0 } : Room)) (fun zz_ U => zz_ = #[(.int (2 : Int32))] ∧ Z.Warmed39 U.vm ∧ U.heap = h0) (fun _ _ _ _ _ => True) (fun _ U o U' => ∃ v L, o = .returned v ∧ Q_rm3_2 Z  h0 n0 v U'.heap L ∧ FrameEnd U o U' L ({ frames := 0, cells := 0, slots := 0, locals := 0 } : Room).cells ({ frames := 0, cells := 0, slots := 0, locals := 0 } : Room).slots) := by
  refine MetFree.of_bodySF (plainFor_of_name pn_0) hisR ?_
  intro p e s m args below meth c s₁ Bd hml0 hP hK
  obtain ⟨rfl, hZ, hh⟩ := hP
  have hx := Bd.exec
  have hby := Bd.bytes
  have hlk := Bd.notSynchronized
  have hW : ∀ (i : Nat) (d : Jvm.Cond), tables_1[i]? = some d → d.before a0 Z = true := fun i d h => hw d (List.mem_of_getElem? h)
  have hml : c.maxLocals = 1 := hml0
  have hown : s.vm.findClass "com/example/bo3/bo3/core/EventTypeEndsRunPinLaw" = some m.cls := findClass_of_methodNamed Bd.named
  have hnm := (name_of_methodNamed Bd.named Bd.method).1
  have X0 : Stand p l e ({ frames := 0, cells := 0, slots := 0, locals := 0 } : Room) s m #[(.int (2 : Int32))] below meth c s₁ [] 0 0 := Stand.of_body Bd
  have e0 : s₁.heap = h0 := by rw [← hh, Bd.state]; rfl
  have N0 := Fr.nil n0
  refine own_in ?_
  refine own_of (fun t k => castTop (ef_rm3_2 m (2 : Int32)) k) ?_
  show own_go p e below s _ _ _ (s₁.setTop (mkF m 0 #[.val (.int (2 : Int32))] []))
  refine own_of (fun t => XS.iloadN X0.here hx rfl (hb hby d3_0) rfl) ?_
  show own_go p e below s _ _ _ (s₁.setTop (mkF m 1 #[.val (.int (2 : Int32))] [(.int (2 : Int32))]))
  have hb1_1 : ¬ ((2 : Int32) = (0 : Int32)) := by decide
  refine own_of (fun t => XS.ifYes X0.here hx rfl (pc0 := 1) (pc' := 6) rfl (hb hby d3_1) rfl ((if0 _ _).trans (feq hb1_1).2) (by decide) (by decide)) ?_
  show own_go p e below s _ _ _ (s₁.setTop (mkF m 6 #[.val (.int (2 : Int32))] []))
  refine own_of (fun t => XS.iloadN X0.here hx rfl (hb hby d3_6) rfl) ?_
  show own_go p e below s _ _ _ (s₁.setTop (mkF m 7 #[.val (.int (2 : Int32))] [(.int (2 : Int32))]))
  refine own_of (fun t => XS.iconst X0.here hx rfl (hb hby d3_7)) ?_
  show own_go p e below s _ _ _ (s₁.setTop (mkF m 8 #[.val (.int (2 : Int32))] [(.int (1 : Int32)), (.int (2 : Int32))]))
  have hb8_2 : ¬ ((2 : Int32) = (1 : Int32)) := by decide
  refine own_of (fun t => XS.icmpYes X0.here hx rfl (pc0 := 8) (pc' := 13) rfl (hb hby d3_8) rfl (feq hb8_2).2 (by decide) (by decide)) ?_
  show own_go p e below s _ _ _ (s₁.setTop (mkF m 13 #[.val (.int (2 : Int32))] []))
  refine own_of (fun t => XS.iloadN X0.here hx rfl (hb hby d3_13) rfl) ?_
  show own_go p e below s _ _ _ (s₁.setTop (mkF m 14 #[.val (.int (2 : Int32))] [(.int (2 : Int32))]))
  refine own_of (fun t => XS.iconst X0.here hx rfl (hb hby d3_14)) ?_
  show own_go p e below s _ _ _ (s₁.setTop (mkF m 15 #[.val (.int (2 : Int32))] [(.int (2 : Int32)), (.int (2 : Int32))]))
  have hb15_3 : (2 : Int32) = (2 : Int32) := by decide
  refine own_of (fun t => XS.icmpNo X0.here hx rfl (hb hby d3_15) rfl (teq hb15_3).2) ?_
  show own_go p e below s _ _ _ (s₁.setTop (mkF m 18 #[.val (.int (2 : Int32))] []))
  refine own_of (fun t => XS.iconst X0.here hx rfl (hb hby d3_18)) ?_
  show own_go p e below s _ _ _ (s₁.setTop (mkF m 19 #[.val (.int (2 : Int32))] [(.int (0 : Int32))]))
  refine own_ret X0 hx hlk Bd.returns rfl (Or.inl ⟨rfl, by simp, _, rfl⟩) (hb hby d3_19) (by decide) (by decide) ?_
  rw [e0]
  exact ⟨rfl, N0, rfl⟩
theorem ef_rm1_3 (m : MethodId) (x0 : Int32) : entryFrame m #[(.int x0)] 1 = mkF m 0 #[.val (.int x0)] [] := by first | (simp [entryFrame, mkF, argsToLocals, Value.category]; done) | rfl
theorem d1_26 : decode method_2_code 26 = .ok (.iload_n 0, 1) := by decide +kernel
theorem d1_27 : decode method_2_code 27 = .ok (.iconst 3, 1) := by decide +kernel
theorem d1_28 : decode method_2_code 28 = .ok (.if_icmp .ne 7, 3) := by decide +kernel
theorem d1_31 : decode method_2_code 31 = .ok (.getstatic 19, 3) := by decide +kernel
theorem d1_34 : decode method_2_code 34 = .ok (.areturn, 1) := by decide +kernel
def Q_rm1_3 (Z : State) (w : Addr) (h0 : Heap) (n0 : Nat) (v : Option Value) (h : Heap) (L : List Loc) : Prop := v = some (.ref w) ∧ Fr n0 L ∧ h = h0
set_option maxRecDepth 65536 in
set_option maxHeartbeats 40000000 in
theorem rm1_3 (l : Launch) (Z : State) (a0 : Array Value) (hw : ∀ d ∈ tables_1, d.before a0 Z = true) (ws : List Jvm.Cond) (w : Addr) (h0 : Heap) (n0 : Nat) (S_STEP_RETRY : Sta Z Z.heap "com/example/bo3/bo3/core/EventType" "STEP_RETRY" "Lcom/example/bo3/bo3/core/EventType;" (.ref w)) (XO0 : Old Z n0 h0) :
    MetFree l (⟨"com/example/bo3/bo3/core/EventTypeEndsRunPinLaw", "pick", "(I)Lcom/example/bo3/bo3/core/EventType;"⟩ : MethodName) (head1 (Jvm.Cond.code (⟨"com/example/bo3/bo3/core/EventTypeEndsRunPinLaw", "pick", "(I)Lcom/example/bo3/bo3/core/EventType;"⟩ : MethodName) method_2_code 1 (some (.object "com/example/bo3/bo3/core/EventType")) :: ws) ({ frames := 0, cells := 0, slots := 0, locals := 0 } : Room)) (fun zz_ U => zz_ = #[(.int (3 : Int32))] ∧ Z.Warmed39 U.vm ∧ U.heap = h0) (fun _ _ _ _ _ => True) (fun _ U o U' => ∃ v L, o = .returned v ∧ Q_rm1_3 Z w h0 n0 v U'.heap L ∧ FrameEnd U o U' L ({ frames := 0, cells := 0, slots := 0, locals := 0 } : Room).cells ({ frames := 0, cells := 0, slots := 0, locals := 0 } : Room).slots) := by
  refine MetFree.of_bodySF (plainFor_of_name pn_0) hisR ?_
  intro p e s m args below meth c s₁ Bd hml0 hP hK
  obtain ⟨rfl, hZ, hh⟩ := hP
  have hx := Bd.exec
  have hby := Bd.bytes
  have hlk := Bd.notSynchronized
  have hW : ∀ (i : Nat) (d : Jvm.Cond), tables_1[i]? = some d → d.before a0 Z = true := fun i d h => hw d (List.mem_of_getElem? h)
  have hml : c.maxLocals = 1 := hml0
  have hown : s.vm.findClass "com/example/bo3/bo3/core/EventTypeEndsRunPinLaw" = some m.cls := findClass_of_methodNamed Bd.named
  have hnm := (name_of_methodNamed Bd.named Bd.method).1
  have X0 : Stand p l e ({ frames := 0, cells := 0, slots := 0, locals := 0 } : Room) s m #[(.int (3 : Int32))] below meth c s₁ [] 0 0 := Stand.of_body Bd
  have e0 : s₁.heap = h0 := by rw [← hh, Bd.state]; rfl
  have N0 := Fr.nil n0
  refine own_in ?_
  refine own_of (fun t k => castTop (ef_rm1_3 m (3 : Int32)) k) ?_
  show own_go p e below s _ _ _ (s₁.setTop (mkF m 0 #[.val (.int (3 : Int32))] []))
  refine own_of (fun t => XS.iloadN X0.here hx rfl (hb hby d1_0) rfl) ?_
  show own_go p e below s _ _ _ (s₁.setTop (mkF m 1 #[.val (.int (3 : Int32))] [(.int (3 : Int32))]))
  have hb1_1 : ¬ ((3 : Int32) = (0 : Int32)) := by decide
  refine own_of (fun t => XS.ifYes X0.here hx rfl (pc0 := 1) (pc' := 8) rfl (hb hby d1_1) rfl ((if0 _ _).trans (feq hb1_1).2) (by decide) (by decide)) ?_
  show own_go p e below s _ _ _ (s₁.setTop (mkF m 8 #[.val (.int (3 : Int32))] []))
  refine own_of (fun t => XS.iloadN X0.here hx rfl (hb hby d1_8) rfl) ?_
  show own_go p e below s _ _ _ (s₁.setTop (mkF m 9 #[.val (.int (3 : Int32))] [(.int (3 : Int32))]))
  refine own_of (fun t => XS.iconst X0.here hx rfl (hb hby d1_9)) ?_
  show own_go p e below s _ _ _ (s₁.setTop (mkF m 10 #[.val (.int (3 : Int32))] [(.int (1 : Int32)), (.int (3 : Int32))]))
  have hb10_2 : ¬ ((3 : Int32) = (1 : Int32)) := by decide
  refine own_of (fun t => XS.icmpYes X0.here hx rfl (pc0 := 10) (pc' := 17) rfl (hb hby d1_10) rfl (feq hb10_2).2 (by decide) (by decide)) ?_
  show own_go p e below s _ _ _ (s₁.setTop (mkF m 17 #[.val (.int (3 : Int32))] []))
  refine own_of (fun t => XS.iloadN X0.here hx rfl (hb hby d1_17) rfl) ?_
  show own_go p e below s _ _ _ (s₁.setTop (mkF m 18 #[.val (.int (3 : Int32))] [(.int (3 : Int32))]))
  refine own_of (fun t => XS.iconst X0.here hx rfl (hb hby d1_18)) ?_
  show own_go p e below s _ _ _ (s₁.setTop (mkF m 19 #[.val (.int (3 : Int32))] [(.int (2 : Int32)), (.int (3 : Int32))]))
  have hb19_3 : ¬ ((3 : Int32) = (2 : Int32)) := by decide
  refine own_of (fun t => XS.icmpYes X0.here hx rfl (pc0 := 19) (pc' := 26) rfl (hb hby d1_19) rfl (feq hb19_3).2 (by decide) (by decide)) ?_
  show own_go p e below s _ _ _ (s₁.setTop (mkF m 26 #[.val (.int (3 : Int32))] []))
  refine own_of (fun t => XS.iloadN X0.here hx rfl (hb hby d1_26) rfl) ?_
  show own_go p e below s _ _ _ (s₁.setTop (mkF m 27 #[.val (.int (3 : Int32))] [(.int (3 : Int32))]))
  refine own_of (fun t => XS.iconst X0.here hx rfl (hb hby d1_27)) ?_
  show own_go p e below s _ _ _ (s₁.setTop (mkF m 28 #[.val (.int (3 : Int32))] [(.int (3 : Int32)), (.int (3 : Int32))]))
  have hb28_4 : (3 : Int32) = (3 : Int32) := by decide
  refine own_of (fun t => XS.icmpNo X0.here hx rfl (hb hby d1_28) rfl (teq hb28_4).2) ?_
  show own_go p e below s _ _ _ (s₁.setTop (mkF m 31 #[.val (.int (3 : Int32))] []))
  obtain ⟨T5, X5, e5, st5⟩ := getS2 X0 hx hZ hown (host := "") (Or.inl (hW 20 _ rfl)) Via.refl e0 (S_STEP_RETRY.ext XO0.2) (g := (mkF m 31 #[.val (.int (3 : Int32))] [])) rfl (hb hby d1_31)
  refine own_of st5 ?_
  show own_go p e below s _ _ _ (T5.setTop (mkF m 34 #[.val (.int (3 : Int32))] [(.ref w)]))
  refine own_ret X5 hx hlk Bd.returns rfl (Or.inr (Or.inr (Or.inr (Or.inr ⟨rfl, rfl, rfl⟩)))) (hb hby d1_34) (by decide) (by decide) ?_
  rw [e5]
  exact ⟨rfl, N0, rfl⟩
theorem ef_rm3_3 (m : MethodId) (x0 : Int32) : entryFrame m #[(.int x0)] 1 = mkF m 0 #[.val (.int x0)] [] := by first | (simp [entryFrame, mkF, argsToLocals, Value.category]; done) | rfl
theorem d3_20 : decode method_3_code 20 = .ok (.iload_n 0, 1) := by decide +kernel
theorem d3_21 : decode method_3_code 21 = .ok (.iconst 3, 1) := by decide +kernel
theorem d3_22 : decode method_3_code 22 = .ok (.if_icmp .ne 5, 3) := by decide +kernel
theorem d3_25 : decode method_3_code 25 = .ok (.iconst 0, 1) := by decide +kernel
theorem d3_26 : decode method_3_code 26 = .ok (.ireturn, 1) := by decide +kernel
def Q_rm3_3 (Z : State)  (h0 : Heap) (n0 : Nat) (v : Option Value) (h : Heap) (L : List Loc) : Prop := v = some (.int 0) ∧ Fr n0 L ∧ h = h0
set_option maxRecDepth 65536 in
set_option maxHeartbeats 40000000 in
theorem rm3_3 (l : Launch) (Z : State) (a0 : Array Value) (hw : ∀ d ∈ tables_1, d.before a0 Z = true) (ws : List Jvm.Cond)  (h0 : Heap) (n0 : Nat) (XO0 : Old Z n0 h0) :
    MetFree l (⟨"com/example/bo3/bo3/core/EventTypeEndsRunPinLaw", "expected", "(I)Z"⟩ : MethodName) (head1 (Jvm.Cond.code (⟨"com/example/bo3/bo3/core/EventTypeEndsRunPinLaw", "expected", "(I)Z"⟩ : MethodName) method_3_code 1 (some .boolean) :: ws) ({ frames := 0, cells := 0, slots := 0, locals := 0 } : Room)) (fun zz_ U => zz_ = #[(.int (3 : Int32))] ∧ Z.Warmed39 U.vm ∧ U.heap = h0) (fun _ _ _ _ _ => True) (fun _ U o U' => ∃ v L, o = .returned v ∧ Q_rm3_3 Z  h0 n0 v U'.heap L ∧ FrameEnd U o U' L ({ frames := 0, cells := 0, slots := 0, locals := 0 } : Room).cells ({ frames := 0, cells := 0, slots := 0, locals := 0 } : Room).slots) := by
  refine MetFree.of_bodySF (plainFor_of_name pn_0) hisR ?_
  intro p e s m args below meth c s₁ Bd hml0 hP hK
  obtain ⟨rfl, hZ, hh⟩ := hP
  have hx := Bd.exec
  have hby := Bd.bytes
  have hlk := Bd.notSynchronized
  have hW : ∀ (i : Nat) (d : Jvm.Cond), tables_1[i]? = some d → d.before a0 Z = true := fun i d h => hw d (List.mem_of_getElem? h)
  have hml : c.maxLocals = 1 := hml0
  have hown : s.vm.findClass "com/example/bo3/bo3/core/EventTypeEndsRunPinLaw" = some m.cls := findClass_of_methodNamed Bd.named
  have hnm := (name_of_methodNamed Bd.named Bd.method).1
  have X0 : Stand p l e ({ frames := 0, cells := 0, slots := 0, locals := 0 } : Room) s m #[(.int (3 : Int32))] below meth c s₁ [] 0 0 := Stand.of_body Bd
  have e0 : s₁.heap = h0 := by rw [← hh, Bd.state]; rfl
  have N0 := Fr.nil n0
  refine own_in ?_
  refine own_of (fun t k => castTop (ef_rm3_3 m (3 : Int32)) k) ?_
  show own_go p e below s _ _ _ (s₁.setTop (mkF m 0 #[.val (.int (3 : Int32))] []))
  refine own_of (fun t => XS.iloadN X0.here hx rfl (hb hby d3_0) rfl) ?_
  show own_go p e below s _ _ _ (s₁.setTop (mkF m 1 #[.val (.int (3 : Int32))] [(.int (3 : Int32))]))
  have hb1_1 : ¬ ((3 : Int32) = (0 : Int32)) := by decide
  refine own_of (fun t => XS.ifYes X0.here hx rfl (pc0 := 1) (pc' := 6) rfl (hb hby d3_1) rfl ((if0 _ _).trans (feq hb1_1).2) (by decide) (by decide)) ?_
  show own_go p e below s _ _ _ (s₁.setTop (mkF m 6 #[.val (.int (3 : Int32))] []))
  refine own_of (fun t => XS.iloadN X0.here hx rfl (hb hby d3_6) rfl) ?_
  show own_go p e below s _ _ _ (s₁.setTop (mkF m 7 #[.val (.int (3 : Int32))] [(.int (3 : Int32))]))
  refine own_of (fun t => XS.iconst X0.here hx rfl (hb hby d3_7)) ?_
  show own_go p e below s _ _ _ (s₁.setTop (mkF m 8 #[.val (.int (3 : Int32))] [(.int (1 : Int32)), (.int (3 : Int32))]))
  have hb8_2 : ¬ ((3 : Int32) = (1 : Int32)) := by decide
  refine own_of (fun t => XS.icmpYes X0.here hx rfl (pc0 := 8) (pc' := 13) rfl (hb hby d3_8) rfl (feq hb8_2).2 (by decide) (by decide)) ?_
  show own_go p e below s _ _ _ (s₁.setTop (mkF m 13 #[.val (.int (3 : Int32))] []))
  refine own_of (fun t => XS.iloadN X0.here hx rfl (hb hby d3_13) rfl) ?_
  show own_go p e below s _ _ _ (s₁.setTop (mkF m 14 #[.val (.int (3 : Int32))] [(.int (3 : Int32))]))
  refine own_of (fun t => XS.iconst X0.here hx rfl (hb hby d3_14)) ?_
  show own_go p e below s _ _ _ (s₁.setTop (mkF m 15 #[.val (.int (3 : Int32))] [(.int (2 : Int32)), (.int (3 : Int32))]))
  have hb15_3 : ¬ ((3 : Int32) = (2 : Int32)) := by decide
  refine own_of (fun t => XS.icmpYes X0.here hx rfl (pc0 := 15) (pc' := 20) rfl (hb hby d3_15) rfl (feq hb15_3).2 (by decide) (by decide)) ?_
  show own_go p e below s _ _ _ (s₁.setTop (mkF m 20 #[.val (.int (3 : Int32))] []))
  refine own_of (fun t => XS.iloadN X0.here hx rfl (hb hby d3_20) rfl) ?_
  show own_go p e below s _ _ _ (s₁.setTop (mkF m 21 #[.val (.int (3 : Int32))] [(.int (3 : Int32))]))
  refine own_of (fun t => XS.iconst X0.here hx rfl (hb hby d3_21)) ?_
  show own_go p e below s _ _ _ (s₁.setTop (mkF m 22 #[.val (.int (3 : Int32))] [(.int (3 : Int32)), (.int (3 : Int32))]))
  have hb22_4 : (3 : Int32) = (3 : Int32) := by decide
  refine own_of (fun t => XS.icmpNo X0.here hx rfl (hb hby d3_22) rfl (teq hb22_4).2) ?_
  show own_go p e below s _ _ _ (s₁.setTop (mkF m 25 #[.val (.int (3 : Int32))] []))
  refine own_of (fun t => XS.iconst X0.here hx rfl (hb hby d3_25)) ?_
  show own_go p e below s _ _ _ (s₁.setTop (mkF m 26 #[.val (.int (3 : Int32))] [(.int (0 : Int32))]))
  refine own_ret X0 hx hlk Bd.returns rfl (Or.inl ⟨rfl, by simp, _, rfl⟩) (hb hby d3_26) (by decide) (by decide) ?_
  rw [e0]
  exact ⟨rfl, N0, rfl⟩
theorem ef_rm1_4 (m : MethodId) (x0 : Int32) : entryFrame m #[(.int x0)] 1 = mkF m 0 #[.val (.int x0)] [] := by first | (simp [entryFrame, mkF, argsToLocals, Value.category]; done) | rfl
theorem d1_35 : decode method_2_code 35 = .ok (.iload_n 0, 1) := by decide +kernel
theorem d1_36 : decode method_2_code 36 = .ok (.iconst 4, 1) := by decide +kernel
theorem d1_37 : decode method_2_code 37 = .ok (.if_icmp .ne 7, 3) := by decide +kernel
theorem d1_40 : decode method_2_code 40 = .ok (.getstatic 22, 3) := by decide +kernel
theorem d1_43 : decode method_2_code 43 = .ok (.areturn, 1) := by decide +kernel
def Q_rm1_4 (Z : State) (w : Addr) (h0 : Heap) (n0 : Nat) (v : Option Value) (h : Heap) (L : List Loc) : Prop := v = some (.ref w) ∧ Fr n0 L ∧ h = h0
set_option maxRecDepth 65536 in
set_option maxHeartbeats 40000000 in
theorem rm1_4 (l : Launch) (Z : State) (a0 : Array Value) (hw : ∀ d ∈ tables_1, d.before a0 Z = true) (ws : List Jvm.Cond) (w : Addr) (h0 : Heap) (n0 : Nat) (S_STEP_RETRY_EXHAUSTED : Sta Z Z.heap "com/example/bo3/bo3/core/EventType" "STEP_RETRY_EXHAUSTED" "Lcom/example/bo3/bo3/core/EventType;" (.ref w)) (XO0 : Old Z n0 h0) :
    MetFree l (⟨"com/example/bo3/bo3/core/EventTypeEndsRunPinLaw", "pick", "(I)Lcom/example/bo3/bo3/core/EventType;"⟩ : MethodName) (head1 (Jvm.Cond.code (⟨"com/example/bo3/bo3/core/EventTypeEndsRunPinLaw", "pick", "(I)Lcom/example/bo3/bo3/core/EventType;"⟩ : MethodName) method_2_code 1 (some (.object "com/example/bo3/bo3/core/EventType")) :: ws) ({ frames := 0, cells := 0, slots := 0, locals := 0 } : Room)) (fun zz_ U => zz_ = #[(.int (4 : Int32))] ∧ Z.Warmed39 U.vm ∧ U.heap = h0) (fun _ _ _ _ _ => True) (fun _ U o U' => ∃ v L, o = .returned v ∧ Q_rm1_4 Z w h0 n0 v U'.heap L ∧ FrameEnd U o U' L ({ frames := 0, cells := 0, slots := 0, locals := 0 } : Room).cells ({ frames := 0, cells := 0, slots := 0, locals := 0 } : Room).slots) := by
  refine MetFree.of_bodySF (plainFor_of_name pn_0) hisR ?_
  intro p e s m args below meth c s₁ Bd hml0 hP hK
  obtain ⟨rfl, hZ, hh⟩ := hP
  have hx := Bd.exec
  have hby := Bd.bytes
  have hlk := Bd.notSynchronized
  have hW : ∀ (i : Nat) (d : Jvm.Cond), tables_1[i]? = some d → d.before a0 Z = true := fun i d h => hw d (List.mem_of_getElem? h)
  have hml : c.maxLocals = 1 := hml0
  have hown : s.vm.findClass "com/example/bo3/bo3/core/EventTypeEndsRunPinLaw" = some m.cls := findClass_of_methodNamed Bd.named
  have hnm := (name_of_methodNamed Bd.named Bd.method).1
  have X0 : Stand p l e ({ frames := 0, cells := 0, slots := 0, locals := 0 } : Room) s m #[(.int (4 : Int32))] below meth c s₁ [] 0 0 := Stand.of_body Bd
  have e0 : s₁.heap = h0 := by rw [← hh, Bd.state]; rfl
  have N0 := Fr.nil n0
  refine own_in ?_
  refine own_of (fun t k => castTop (ef_rm1_4 m (4 : Int32)) k) ?_
  show own_go p e below s _ _ _ (s₁.setTop (mkF m 0 #[.val (.int (4 : Int32))] []))
  refine own_of (fun t => XS.iloadN X0.here hx rfl (hb hby d1_0) rfl) ?_
  show own_go p e below s _ _ _ (s₁.setTop (mkF m 1 #[.val (.int (4 : Int32))] [(.int (4 : Int32))]))
  have hb1_1 : ¬ ((4 : Int32) = (0 : Int32)) := by decide
  refine own_of (fun t => XS.ifYes X0.here hx rfl (pc0 := 1) (pc' := 8) rfl (hb hby d1_1) rfl ((if0 _ _).trans (feq hb1_1).2) (by decide) (by decide)) ?_
  show own_go p e below s _ _ _ (s₁.setTop (mkF m 8 #[.val (.int (4 : Int32))] []))
  refine own_of (fun t => XS.iloadN X0.here hx rfl (hb hby d1_8) rfl) ?_
  show own_go p e below s _ _ _ (s₁.setTop (mkF m 9 #[.val (.int (4 : Int32))] [(.int (4 : Int32))]))
  refine own_of (fun t => XS.iconst X0.here hx rfl (hb hby d1_9)) ?_
  show own_go p e below s _ _ _ (s₁.setTop (mkF m 10 #[.val (.int (4 : Int32))] [(.int (1 : Int32)), (.int (4 : Int32))]))
  have hb10_2 : ¬ ((4 : Int32) = (1 : Int32)) := by decide
  refine own_of (fun t => XS.icmpYes X0.here hx rfl (pc0 := 10) (pc' := 17) rfl (hb hby d1_10) rfl (feq hb10_2).2 (by decide) (by decide)) ?_
  show own_go p e below s _ _ _ (s₁.setTop (mkF m 17 #[.val (.int (4 : Int32))] []))
  refine own_of (fun t => XS.iloadN X0.here hx rfl (hb hby d1_17) rfl) ?_
  show own_go p e below s _ _ _ (s₁.setTop (mkF m 18 #[.val (.int (4 : Int32))] [(.int (4 : Int32))]))
  refine own_of (fun t => XS.iconst X0.here hx rfl (hb hby d1_18)) ?_
  show own_go p e below s _ _ _ (s₁.setTop (mkF m 19 #[.val (.int (4 : Int32))] [(.int (2 : Int32)), (.int (4 : Int32))]))
  have hb19_3 : ¬ ((4 : Int32) = (2 : Int32)) := by decide
  refine own_of (fun t => XS.icmpYes X0.here hx rfl (pc0 := 19) (pc' := 26) rfl (hb hby d1_19) rfl (feq hb19_3).2 (by decide) (by decide)) ?_
  show own_go p e below s _ _ _ (s₁.setTop (mkF m 26 #[.val (.int (4 : Int32))] []))
  refine own_of (fun t => XS.iloadN X0.here hx rfl (hb hby d1_26) rfl) ?_
  show own_go p e below s _ _ _ (s₁.setTop (mkF m 27 #[.val (.int (4 : Int32))] [(.int (4 : Int32))]))
  refine own_of (fun t => XS.iconst X0.here hx rfl (hb hby d1_27)) ?_
  show own_go p e below s _ _ _ (s₁.setTop (mkF m 28 #[.val (.int (4 : Int32))] [(.int (3 : Int32)), (.int (4 : Int32))]))
  have hb28_4 : ¬ ((4 : Int32) = (3 : Int32)) := by decide
  refine own_of (fun t => XS.icmpYes X0.here hx rfl (pc0 := 28) (pc' := 35) rfl (hb hby d1_28) rfl (feq hb28_4).2 (by decide) (by decide)) ?_
  show own_go p e below s _ _ _ (s₁.setTop (mkF m 35 #[.val (.int (4 : Int32))] []))
  refine own_of (fun t => XS.iloadN X0.here hx rfl (hb hby d1_35) rfl) ?_
  show own_go p e below s _ _ _ (s₁.setTop (mkF m 36 #[.val (.int (4 : Int32))] [(.int (4 : Int32))]))
  refine own_of (fun t => XS.iconst X0.here hx rfl (hb hby d1_36)) ?_
  show own_go p e below s _ _ _ (s₁.setTop (mkF m 37 #[.val (.int (4 : Int32))] [(.int (4 : Int32)), (.int (4 : Int32))]))
  have hb37_5 : (4 : Int32) = (4 : Int32) := by decide
  refine own_of (fun t => XS.icmpNo X0.here hx rfl (hb hby d1_37) rfl (teq hb37_5).2) ?_
  show own_go p e below s _ _ _ (s₁.setTop (mkF m 40 #[.val (.int (4 : Int32))] []))
  obtain ⟨T6, X6, e6, st6⟩ := getS2 X0 hx hZ hown (host := "") (Or.inl (hW 27 _ rfl)) Via.refl e0 (S_STEP_RETRY_EXHAUSTED.ext XO0.2) (g := (mkF m 40 #[.val (.int (4 : Int32))] [])) rfl (hb hby d1_40)
  refine own_of st6 ?_
  show own_go p e below s _ _ _ (T6.setTop (mkF m 43 #[.val (.int (4 : Int32))] [(.ref w)]))
  refine own_ret X6 hx hlk Bd.returns rfl (Or.inr (Or.inr (Or.inr (Or.inr ⟨rfl, rfl, rfl⟩)))) (hb hby d1_43) (by decide) (by decide) ?_
  rw [e6]
  exact ⟨rfl, N0, rfl⟩
theorem ef_rm3_4 (m : MethodId) (x0 : Int32) : entryFrame m #[(.int x0)] 1 = mkF m 0 #[.val (.int x0)] [] := by first | (simp [entryFrame, mkF, argsToLocals, Value.category]; done) | rfl
theorem d3_27 : decode method_3_code 27 = .ok (.iload_n 0, 1) := by decide +kernel
theorem d3_28 : decode method_3_code 28 = .ok (.iconst 4, 1) := by decide +kernel
theorem d3_29 : decode method_3_code 29 = .ok (.if_icmp .ne 5, 3) := by decide +kernel
theorem d3_32 : decode method_3_code 32 = .ok (.iconst 0, 1) := by decide +kernel
theorem d3_33 : decode method_3_code 33 = .ok (.ireturn, 1) := by decide +kernel
def Q_rm3_4 (Z : State)  (h0 : Heap) (n0 : Nat) (v : Option Value) (h : Heap) (L : List Loc) : Prop := v = some (.int 0) ∧ Fr n0 L ∧ h = h0
set_option maxRecDepth 65536 in
set_option maxHeartbeats 40000000 in
theorem rm3_4 (l : Launch) (Z : State) (a0 : Array Value) (hw : ∀ d ∈ tables_1, d.before a0 Z = true) (ws : List Jvm.Cond)  (h0 : Heap) (n0 : Nat) (XO0 : Old Z n0 h0) :
    MetFree l (⟨"com/example/bo3/bo3/core/EventTypeEndsRunPinLaw", "expected", "(I)Z"⟩ : MethodName) (head1 (Jvm.Cond.code (⟨"com/example/bo3/bo3/core/EventTypeEndsRunPinLaw", "expected", "(I)Z"⟩ : MethodName) method_3_code 1 (some .boolean) :: ws) ({ frames := 0, cells := 0, slots := 0, locals := 0 } : Room)) (fun zz_ U => zz_ = #[(.int (4 : Int32))] ∧ Z.Warmed39 U.vm ∧ U.heap = h0) (fun _ _ _ _ _ => True) (fun _ U o U' => ∃ v L, o = .returned v ∧ Q_rm3_4 Z  h0 n0 v U'.heap L ∧ FrameEnd U o U' L ({ frames := 0, cells := 0, slots := 0, locals := 0 } : Room).cells ({ frames := 0, cells := 0, slots := 0, locals := 0 } : Room).slots) := by
  refine MetFree.of_bodySF (plainFor_of_name pn_0) hisR ?_
  intro p e s m args below meth c s₁ Bd hml0 hP hK
  obtain ⟨rfl, hZ, hh⟩ := hP
  have hx := Bd.exec
  have hby := Bd.bytes
  have hlk := Bd.notSynchronized
  have hW : ∀ (i : Nat) (d : Jvm.Cond), tables_1[i]? = some d → d.before a0 Z = true := fun i d h => hw d (List.mem_of_getElem? h)
  have hml : c.maxLocals = 1 := hml0
  have hown : s.vm.findClass "com/example/bo3/bo3/core/EventTypeEndsRunPinLaw" = some m.cls := findClass_of_methodNamed Bd.named
  have hnm := (name_of_methodNamed Bd.named Bd.method).1
  have X0 : Stand p l e ({ frames := 0, cells := 0, slots := 0, locals := 0 } : Room) s m #[(.int (4 : Int32))] below meth c s₁ [] 0 0 := Stand.of_body Bd
  have e0 : s₁.heap = h0 := by rw [← hh, Bd.state]; rfl
  have N0 := Fr.nil n0
  refine own_in ?_
  refine own_of (fun t k => castTop (ef_rm3_4 m (4 : Int32)) k) ?_
  show own_go p e below s _ _ _ (s₁.setTop (mkF m 0 #[.val (.int (4 : Int32))] []))
  refine own_of (fun t => XS.iloadN X0.here hx rfl (hb hby d3_0) rfl) ?_
  show own_go p e below s _ _ _ (s₁.setTop (mkF m 1 #[.val (.int (4 : Int32))] [(.int (4 : Int32))]))
  have hb1_1 : ¬ ((4 : Int32) = (0 : Int32)) := by decide
  refine own_of (fun t => XS.ifYes X0.here hx rfl (pc0 := 1) (pc' := 6) rfl (hb hby d3_1) rfl ((if0 _ _).trans (feq hb1_1).2) (by decide) (by decide)) ?_
  show own_go p e below s _ _ _ (s₁.setTop (mkF m 6 #[.val (.int (4 : Int32))] []))
  refine own_of (fun t => XS.iloadN X0.here hx rfl (hb hby d3_6) rfl) ?_
  show own_go p e below s _ _ _ (s₁.setTop (mkF m 7 #[.val (.int (4 : Int32))] [(.int (4 : Int32))]))
  refine own_of (fun t => XS.iconst X0.here hx rfl (hb hby d3_7)) ?_
  show own_go p e below s _ _ _ (s₁.setTop (mkF m 8 #[.val (.int (4 : Int32))] [(.int (1 : Int32)), (.int (4 : Int32))]))
  have hb8_2 : ¬ ((4 : Int32) = (1 : Int32)) := by decide
  refine own_of (fun t => XS.icmpYes X0.here hx rfl (pc0 := 8) (pc' := 13) rfl (hb hby d3_8) rfl (feq hb8_2).2 (by decide) (by decide)) ?_
  show own_go p e below s _ _ _ (s₁.setTop (mkF m 13 #[.val (.int (4 : Int32))] []))
  refine own_of (fun t => XS.iloadN X0.here hx rfl (hb hby d3_13) rfl) ?_
  show own_go p e below s _ _ _ (s₁.setTop (mkF m 14 #[.val (.int (4 : Int32))] [(.int (4 : Int32))]))
  refine own_of (fun t => XS.iconst X0.here hx rfl (hb hby d3_14)) ?_
  show own_go p e below s _ _ _ (s₁.setTop (mkF m 15 #[.val (.int (4 : Int32))] [(.int (2 : Int32)), (.int (4 : Int32))]))
  have hb15_3 : ¬ ((4 : Int32) = (2 : Int32)) := by decide
  refine own_of (fun t => XS.icmpYes X0.here hx rfl (pc0 := 15) (pc' := 20) rfl (hb hby d3_15) rfl (feq hb15_3).2 (by decide) (by decide)) ?_
  show own_go p e below s _ _ _ (s₁.setTop (mkF m 20 #[.val (.int (4 : Int32))] []))
  refine own_of (fun t => XS.iloadN X0.here hx rfl (hb hby d3_20) rfl) ?_
  show own_go p e below s _ _ _ (s₁.setTop (mkF m 21 #[.val (.int (4 : Int32))] [(.int (4 : Int32))]))
  refine own_of (fun t => XS.iconst X0.here hx rfl (hb hby d3_21)) ?_
  show own_go p e below s _ _ _ (s₁.setTop (mkF m 22 #[.val (.int (4 : Int32))] [(.int (3 : Int32)), (.int (4 : Int32))]))
  have hb22_4 : ¬ ((4 : Int32) = (3 : Int32)) := by decide
  refine own_of (fun t => XS.icmpYes X0.here hx rfl (pc0 := 22) (pc' := 27) rfl (hb hby d3_22) rfl (feq hb22_4).2 (by decide) (by decide)) ?_
  show own_go p e below s _ _ _ (s₁.setTop (mkF m 27 #[.val (.int (4 : Int32))] []))
  refine own_of (fun t => XS.iloadN X0.here hx rfl (hb hby d3_27) rfl) ?_
  show own_go p e below s _ _ _ (s₁.setTop (mkF m 28 #[.val (.int (4 : Int32))] [(.int (4 : Int32))]))
  refine own_of (fun t => XS.iconst X0.here hx rfl (hb hby d3_28)) ?_
  show own_go p e below s _ _ _ (s₁.setTop (mkF m 29 #[.val (.int (4 : Int32))] [(.int (4 : Int32)), (.int (4 : Int32))]))
  have hb29_5 : (4 : Int32) = (4 : Int32) := by decide
  refine own_of (fun t => XS.icmpNo X0.here hx rfl (hb hby d3_29) rfl (teq hb29_5).2) ?_
  show own_go p e below s _ _ _ (s₁.setTop (mkF m 32 #[.val (.int (4 : Int32))] []))
  refine own_of (fun t => XS.iconst X0.here hx rfl (hb hby d3_32)) ?_
  show own_go p e below s _ _ _ (s₁.setTop (mkF m 33 #[.val (.int (4 : Int32))] [(.int (0 : Int32))]))
  refine own_ret X0 hx hlk Bd.returns rfl (Or.inl ⟨rfl, by simp, _, rfl⟩) (hb hby d3_33) (by decide) (by decide) ?_
  rw [e0]
  exact ⟨rfl, N0, rfl⟩
theorem ef_rm1_5 (m : MethodId) (x0 : Int32) : entryFrame m #[(.int x0)] 1 = mkF m 0 #[.val (.int x0)] [] := by first | (simp [entryFrame, mkF, argsToLocals, Value.category]; done) | rfl
theorem d1_44 : decode method_2_code 44 = .ok (.iload_n 0, 1) := by decide +kernel
theorem d1_45 : decode method_2_code 45 = .ok (.iconst 5, 1) := by decide +kernel
theorem d1_46 : decode method_2_code 46 = .ok (.if_icmp .ne 7, 3) := by decide +kernel
theorem d1_49 : decode method_2_code 49 = .ok (.getstatic 25, 3) := by decide +kernel
theorem d1_52 : decode method_2_code 52 = .ok (.areturn, 1) := by decide +kernel
def Q_rm1_5 (Z : State) (w : Addr) (h0 : Heap) (n0 : Nat) (v : Option Value) (h : Heap) (L : List Loc) : Prop := v = some (.ref w) ∧ Fr n0 L ∧ h = h0
set_option maxRecDepth 65536 in
set_option maxHeartbeats 40000000 in
theorem rm1_5 (l : Launch) (Z : State) (a0 : Array Value) (hw : ∀ d ∈ tables_1, d.before a0 Z = true) (ws : List Jvm.Cond) (w : Addr) (h0 : Heap) (n0 : Nat) (S_STEP_COMPLETED : Sta Z Z.heap "com/example/bo3/bo3/core/EventType" "STEP_COMPLETED" "Lcom/example/bo3/bo3/core/EventType;" (.ref w)) (XO0 : Old Z n0 h0) :
    MetFree l (⟨"com/example/bo3/bo3/core/EventTypeEndsRunPinLaw", "pick", "(I)Lcom/example/bo3/bo3/core/EventType;"⟩ : MethodName) (head1 (Jvm.Cond.code (⟨"com/example/bo3/bo3/core/EventTypeEndsRunPinLaw", "pick", "(I)Lcom/example/bo3/bo3/core/EventType;"⟩ : MethodName) method_2_code 1 (some (.object "com/example/bo3/bo3/core/EventType")) :: ws) ({ frames := 0, cells := 0, slots := 0, locals := 0 } : Room)) (fun zz_ U => zz_ = #[(.int (5 : Int32))] ∧ Z.Warmed39 U.vm ∧ U.heap = h0) (fun _ _ _ _ _ => True) (fun _ U o U' => ∃ v L, o = .returned v ∧ Q_rm1_5 Z w h0 n0 v U'.heap L ∧ FrameEnd U o U' L ({ frames := 0, cells := 0, slots := 0, locals := 0 } : Room).cells ({ frames := 0, cells := 0, slots := 0, locals := 0 } : Room).slots) := by
  refine MetFree.of_bodySF (plainFor_of_name pn_0) hisR ?_
  intro p e s m args below meth c s₁ Bd hml0 hP hK
  obtain ⟨rfl, hZ, hh⟩ := hP
  have hx := Bd.exec
  have hby := Bd.bytes
  have hlk := Bd.notSynchronized
  have hW : ∀ (i : Nat) (d : Jvm.Cond), tables_1[i]? = some d → d.before a0 Z = true := fun i d h => hw d (List.mem_of_getElem? h)
  have hml : c.maxLocals = 1 := hml0
  have hown : s.vm.findClass "com/example/bo3/bo3/core/EventTypeEndsRunPinLaw" = some m.cls := findClass_of_methodNamed Bd.named
  have hnm := (name_of_methodNamed Bd.named Bd.method).1
  have X0 : Stand p l e ({ frames := 0, cells := 0, slots := 0, locals := 0 } : Room) s m #[(.int (5 : Int32))] below meth c s₁ [] 0 0 := Stand.of_body Bd
  have e0 : s₁.heap = h0 := by rw [← hh, Bd.state]; rfl
  have N0 := Fr.nil n0
  refine own_in ?_
  refine own_of (fun t k => castTop (ef_rm1_5 m (5 : Int32)) k) ?_
  show own_go p e below s _ _ _ (s₁.setTop (mkF m 0 #[.val (.int (5 : Int32))] []))
  refine own_of (fun t => XS.iloadN X0.here hx rfl (hb hby d1_0) rfl) ?_
  show own_go p e below s _ _ _ (s₁.setTop (mkF m 1 #[.val (.int (5 : Int32))] [(.int (5 : Int32))]))
  have hb1_1 : ¬ ((5 : Int32) = (0 : Int32)) := by decide
  refine own_of (fun t => XS.ifYes X0.here hx rfl (pc0 := 1) (pc' := 8) rfl (hb hby d1_1) rfl ((if0 _ _).trans (feq hb1_1).2) (by decide) (by decide)) ?_
  show own_go p e below s _ _ _ (s₁.setTop (mkF m 8 #[.val (.int (5 : Int32))] []))
  refine own_of (fun t => XS.iloadN X0.here hx rfl (hb hby d1_8) rfl) ?_
  show own_go p e below s _ _ _ (s₁.setTop (mkF m 9 #[.val (.int (5 : Int32))] [(.int (5 : Int32))]))
  refine own_of (fun t => XS.iconst X0.here hx rfl (hb hby d1_9)) ?_
  show own_go p e below s _ _ _ (s₁.setTop (mkF m 10 #[.val (.int (5 : Int32))] [(.int (1 : Int32)), (.int (5 : Int32))]))
  have hb10_2 : ¬ ((5 : Int32) = (1 : Int32)) := by decide
  refine own_of (fun t => XS.icmpYes X0.here hx rfl (pc0 := 10) (pc' := 17) rfl (hb hby d1_10) rfl (feq hb10_2).2 (by decide) (by decide)) ?_
  show own_go p e below s _ _ _ (s₁.setTop (mkF m 17 #[.val (.int (5 : Int32))] []))
  refine own_of (fun t => XS.iloadN X0.here hx rfl (hb hby d1_17) rfl) ?_
  show own_go p e below s _ _ _ (s₁.setTop (mkF m 18 #[.val (.int (5 : Int32))] [(.int (5 : Int32))]))
  refine own_of (fun t => XS.iconst X0.here hx rfl (hb hby d1_18)) ?_
  show own_go p e below s _ _ _ (s₁.setTop (mkF m 19 #[.val (.int (5 : Int32))] [(.int (2 : Int32)), (.int (5 : Int32))]))
  have hb19_3 : ¬ ((5 : Int32) = (2 : Int32)) := by decide
  refine own_of (fun t => XS.icmpYes X0.here hx rfl (pc0 := 19) (pc' := 26) rfl (hb hby d1_19) rfl (feq hb19_3).2 (by decide) (by decide)) ?_
  show own_go p e below s _ _ _ (s₁.setTop (mkF m 26 #[.val (.int (5 : Int32))] []))
  refine own_of (fun t => XS.iloadN X0.here hx rfl (hb hby d1_26) rfl) ?_
  show own_go p e below s _ _ _ (s₁.setTop (mkF m 27 #[.val (.int (5 : Int32))] [(.int (5 : Int32))]))
  refine own_of (fun t => XS.iconst X0.here hx rfl (hb hby d1_27)) ?_
  show own_go p e below s _ _ _ (s₁.setTop (mkF m 28 #[.val (.int (5 : Int32))] [(.int (3 : Int32)), (.int (5 : Int32))]))
  have hb28_4 : ¬ ((5 : Int32) = (3 : Int32)) := by decide
  refine own_of (fun t => XS.icmpYes X0.here hx rfl (pc0 := 28) (pc' := 35) rfl (hb hby d1_28) rfl (feq hb28_4).2 (by decide) (by decide)) ?_
  show own_go p e below s _ _ _ (s₁.setTop (mkF m 35 #[.val (.int (5 : Int32))] []))
  refine own_of (fun t => XS.iloadN X0.here hx rfl (hb hby d1_35) rfl) ?_
  show own_go p e below s _ _ _ (s₁.setTop (mkF m 36 #[.val (.int (5 : Int32))] [(.int (5 : Int32))]))
  refine own_of (fun t => XS.iconst X0.here hx rfl (hb hby d1_36)) ?_
  show own_go p e below s _ _ _ (s₁.setTop (mkF m 37 #[.val (.int (5 : Int32))] [(.int (4 : Int32)), (.int (5 : Int32))]))
  have hb37_5 : ¬ ((5 : Int32) = (4 : Int32)) := by decide
  refine own_of (fun t => XS.icmpYes X0.here hx rfl (pc0 := 37) (pc' := 44) rfl (hb hby d1_37) rfl (feq hb37_5).2 (by decide) (by decide)) ?_
  show own_go p e below s _ _ _ (s₁.setTop (mkF m 44 #[.val (.int (5 : Int32))] []))
  refine own_of (fun t => XS.iloadN X0.here hx rfl (hb hby d1_44) rfl) ?_
  show own_go p e below s _ _ _ (s₁.setTop (mkF m 45 #[.val (.int (5 : Int32))] [(.int (5 : Int32))]))
  refine own_of (fun t => XS.iconst X0.here hx rfl (hb hby d1_45)) ?_
  show own_go p e below s _ _ _ (s₁.setTop (mkF m 46 #[.val (.int (5 : Int32))] [(.int (5 : Int32)), (.int (5 : Int32))]))
  have hb46_6 : (5 : Int32) = (5 : Int32) := by decide
  refine own_of (fun t => XS.icmpNo X0.here hx rfl (hb hby d1_46) rfl (teq hb46_6).2) ?_
  show own_go p e below s _ _ _ (s₁.setTop (mkF m 49 #[.val (.int (5 : Int32))] []))
  obtain ⟨T7, X7, e7, st7⟩ := getS2 X0 hx hZ hown (host := "") (Or.inl (hW 32 _ rfl)) Via.refl e0 (S_STEP_COMPLETED.ext XO0.2) (g := (mkF m 49 #[.val (.int (5 : Int32))] [])) rfl (hb hby d1_49)
  refine own_of st7 ?_
  show own_go p e below s _ _ _ (T7.setTop (mkF m 52 #[.val (.int (5 : Int32))] [(.ref w)]))
  refine own_ret X7 hx hlk Bd.returns rfl (Or.inr (Or.inr (Or.inr (Or.inr ⟨rfl, rfl, rfl⟩)))) (hb hby d1_52) (by decide) (by decide) ?_
  rw [e7]
  exact ⟨rfl, N0, rfl⟩
theorem ef_rm3_5 (m : MethodId) (x0 : Int32) : entryFrame m #[(.int x0)] 1 = mkF m 0 #[.val (.int x0)] [] := by first | (simp [entryFrame, mkF, argsToLocals, Value.category]; done) | rfl
theorem d3_34 : decode method_3_code 34 = .ok (.iload_n 0, 1) := by decide +kernel
theorem d3_35 : decode method_3_code 35 = .ok (.iconst 5, 1) := by decide +kernel
theorem d3_36 : decode method_3_code 36 = .ok (.if_icmp .ne 5, 3) := by decide +kernel
theorem d3_39 : decode method_3_code 39 = .ok (.iconst 0, 1) := by decide +kernel
theorem d3_40 : decode method_3_code 40 = .ok (.ireturn, 1) := by decide +kernel
def Q_rm3_5 (Z : State)  (h0 : Heap) (n0 : Nat) (v : Option Value) (h : Heap) (L : List Loc) : Prop := v = some (.int 0) ∧ Fr n0 L ∧ h = h0
set_option maxRecDepth 65536 in
set_option maxHeartbeats 40000000 in
theorem rm3_5 (l : Launch) (Z : State) (a0 : Array Value) (hw : ∀ d ∈ tables_1, d.before a0 Z = true) (ws : List Jvm.Cond)  (h0 : Heap) (n0 : Nat) (XO0 : Old Z n0 h0) :
    MetFree l (⟨"com/example/bo3/bo3/core/EventTypeEndsRunPinLaw", "expected", "(I)Z"⟩ : MethodName) (head1 (Jvm.Cond.code (⟨"com/example/bo3/bo3/core/EventTypeEndsRunPinLaw", "expected", "(I)Z"⟩ : MethodName) method_3_code 1 (some .boolean) :: ws) ({ frames := 0, cells := 0, slots := 0, locals := 0 } : Room)) (fun zz_ U => zz_ = #[(.int (5 : Int32))] ∧ Z.Warmed39 U.vm ∧ U.heap = h0) (fun _ _ _ _ _ => True) (fun _ U o U' => ∃ v L, o = .returned v ∧ Q_rm3_5 Z  h0 n0 v U'.heap L ∧ FrameEnd U o U' L ({ frames := 0, cells := 0, slots := 0, locals := 0 } : Room).cells ({ frames := 0, cells := 0, slots := 0, locals := 0 } : Room).slots) := by
  refine MetFree.of_bodySF (plainFor_of_name pn_0) hisR ?_
  intro p e s m args below meth c s₁ Bd hml0 hP hK
  obtain ⟨rfl, hZ, hh⟩ := hP
  have hx := Bd.exec
  have hby := Bd.bytes
  have hlk := Bd.notSynchronized
  have hW : ∀ (i : Nat) (d : Jvm.Cond), tables_1[i]? = some d → d.before a0 Z = true := fun i d h => hw d (List.mem_of_getElem? h)
  have hml : c.maxLocals = 1 := hml0
  have hown : s.vm.findClass "com/example/bo3/bo3/core/EventTypeEndsRunPinLaw" = some m.cls := findClass_of_methodNamed Bd.named
  have hnm := (name_of_methodNamed Bd.named Bd.method).1
  have X0 : Stand p l e ({ frames := 0, cells := 0, slots := 0, locals := 0 } : Room) s m #[(.int (5 : Int32))] below meth c s₁ [] 0 0 := Stand.of_body Bd
  have e0 : s₁.heap = h0 := by rw [← hh, Bd.state]; rfl
  have N0 := Fr.nil n0
  refine own_in ?_
  refine own_of (fun t k => castTop (ef_rm3_5 m (5 : Int32)) k) ?_
  show own_go p e below s _ _ _ (s₁.setTop (mkF m 0 #[.val (.int (5 : Int32))] []))
  refine own_of (fun t => XS.iloadN X0.here hx rfl (hb hby d3_0) rfl) ?_
  show own_go p e below s _ _ _ (s₁.setTop (mkF m 1 #[.val (.int (5 : Int32))] [(.int (5 : Int32))]))
  have hb1_1 : ¬ ((5 : Int32) = (0 : Int32)) := by decide
  refine own_of (fun t => XS.ifYes X0.here hx rfl (pc0 := 1) (pc' := 6) rfl (hb hby d3_1) rfl ((if0 _ _).trans (feq hb1_1).2) (by decide) (by decide)) ?_
  show own_go p e below s _ _ _ (s₁.setTop (mkF m 6 #[.val (.int (5 : Int32))] []))
  refine own_of (fun t => XS.iloadN X0.here hx rfl (hb hby d3_6) rfl) ?_
  show own_go p e below s _ _ _ (s₁.setTop (mkF m 7 #[.val (.int (5 : Int32))] [(.int (5 : Int32))]))
  refine own_of (fun t => XS.iconst X0.here hx rfl (hb hby d3_7)) ?_
  show own_go p e below s _ _ _ (s₁.setTop (mkF m 8 #[.val (.int (5 : Int32))] [(.int (1 : Int32)), (.int (5 : Int32))]))
  have hb8_2 : ¬ ((5 : Int32) = (1 : Int32)) := by decide
  refine own_of (fun t => XS.icmpYes X0.here hx rfl (pc0 := 8) (pc' := 13) rfl (hb hby d3_8) rfl (feq hb8_2).2 (by decide) (by decide)) ?_
  show own_go p e below s _ _ _ (s₁.setTop (mkF m 13 #[.val (.int (5 : Int32))] []))
  refine own_of (fun t => XS.iloadN X0.here hx rfl (hb hby d3_13) rfl) ?_
  show own_go p e below s _ _ _ (s₁.setTop (mkF m 14 #[.val (.int (5 : Int32))] [(.int (5 : Int32))]))
  refine own_of (fun t => XS.iconst X0.here hx rfl (hb hby d3_14)) ?_
  show own_go p e below s _ _ _ (s₁.setTop (mkF m 15 #[.val (.int (5 : Int32))] [(.int (2 : Int32)), (.int (5 : Int32))]))
  have hb15_3 : ¬ ((5 : Int32) = (2 : Int32)) := by decide
  refine own_of (fun t => XS.icmpYes X0.here hx rfl (pc0 := 15) (pc' := 20) rfl (hb hby d3_15) rfl (feq hb15_3).2 (by decide) (by decide)) ?_
  show own_go p e below s _ _ _ (s₁.setTop (mkF m 20 #[.val (.int (5 : Int32))] []))
  refine own_of (fun t => XS.iloadN X0.here hx rfl (hb hby d3_20) rfl) ?_
  show own_go p e below s _ _ _ (s₁.setTop (mkF m 21 #[.val (.int (5 : Int32))] [(.int (5 : Int32))]))
  refine own_of (fun t => XS.iconst X0.here hx rfl (hb hby d3_21)) ?_
  show own_go p e below s _ _ _ (s₁.setTop (mkF m 22 #[.val (.int (5 : Int32))] [(.int (3 : Int32)), (.int (5 : Int32))]))
  have hb22_4 : ¬ ((5 : Int32) = (3 : Int32)) := by decide
  refine own_of (fun t => XS.icmpYes X0.here hx rfl (pc0 := 22) (pc' := 27) rfl (hb hby d3_22) rfl (feq hb22_4).2 (by decide) (by decide)) ?_
  show own_go p e below s _ _ _ (s₁.setTop (mkF m 27 #[.val (.int (5 : Int32))] []))
  refine own_of (fun t => XS.iloadN X0.here hx rfl (hb hby d3_27) rfl) ?_
  show own_go p e below s _ _ _ (s₁.setTop (mkF m 28 #[.val (.int (5 : Int32))] [(.int (5 : Int32))]))
  refine own_of (fun t => XS.iconst X0.here hx rfl (hb hby d3_28)) ?_
  show own_go p e below s _ _ _ (s₁.setTop (mkF m 29 #[.val (.int (5 : Int32))] [(.int (4 : Int32)), (.int (5 : Int32))]))
  have hb29_5 : ¬ ((5 : Int32) = (4 : Int32)) := by decide
  refine own_of (fun t => XS.icmpYes X0.here hx rfl (pc0 := 29) (pc' := 34) rfl (hb hby d3_29) rfl (feq hb29_5).2 (by decide) (by decide)) ?_
  show own_go p e below s _ _ _ (s₁.setTop (mkF m 34 #[.val (.int (5 : Int32))] []))
  refine own_of (fun t => XS.iloadN X0.here hx rfl (hb hby d3_34) rfl) ?_
  show own_go p e below s _ _ _ (s₁.setTop (mkF m 35 #[.val (.int (5 : Int32))] [(.int (5 : Int32))]))
  refine own_of (fun t => XS.iconst X0.here hx rfl (hb hby d3_35)) ?_
  show own_go p e below s _ _ _ (s₁.setTop (mkF m 36 #[.val (.int (5 : Int32))] [(.int (5 : Int32)), (.int (5 : Int32))]))
  have hb36_6 : (5 : Int32) = (5 : Int32) := by decide
  refine own_of (fun t => XS.icmpNo X0.here hx rfl (hb hby d3_36) rfl (teq hb36_6).2) ?_
  show own_go p e below s _ _ _ (s₁.setTop (mkF m 39 #[.val (.int (5 : Int32))] []))
  refine own_of (fun t => XS.iconst X0.here hx rfl (hb hby d3_39)) ?_
  show own_go p e below s _ _ _ (s₁.setTop (mkF m 40 #[.val (.int (5 : Int32))] [(.int (0 : Int32))]))
  refine own_ret X0 hx hlk Bd.returns rfl (Or.inl ⟨rfl, by simp, _, rfl⟩) (hb hby d3_40) (by decide) (by decide) ?_
  rw [e0]
  exact ⟨rfl, N0, rfl⟩
theorem ef_rm1_6 (m : MethodId) (x0 : Int32) : entryFrame m #[(.int x0)] 1 = mkF m 0 #[.val (.int x0)] [] := by first | (simp [entryFrame, mkF, argsToLocals, Value.category]; done) | rfl
theorem d1_53 : decode method_2_code 53 = .ok (.iload_n 0, 1) := by decide +kernel
theorem d1_54 : decode method_2_code 54 = .ok (.bipush 6, 2) := by decide +kernel
theorem d1_56 : decode method_2_code 56 = .ok (.if_icmp .ne 7, 3) := by decide +kernel
theorem d1_59 : decode method_2_code 59 = .ok (.getstatic 28, 3) := by decide +kernel
theorem d1_62 : decode method_2_code 62 = .ok (.areturn, 1) := by decide +kernel
def Q_rm1_6 (Z : State) (w : Addr) (h0 : Heap) (n0 : Nat) (v : Option Value) (h : Heap) (L : List Loc) : Prop := v = some (.ref w) ∧ Fr n0 L ∧ h = h0
set_option maxRecDepth 65536 in
set_option maxHeartbeats 40000000 in
theorem rm1_6 (l : Launch) (Z : State) (a0 : Array Value) (hw : ∀ d ∈ tables_1, d.before a0 Z = true) (ws : List Jvm.Cond) (w : Addr) (h0 : Heap) (n0 : Nat) (S_STEP_FAILED_TERMINAL : Sta Z Z.heap "com/example/bo3/bo3/core/EventType" "STEP_FAILED_TERMINAL" "Lcom/example/bo3/bo3/core/EventType;" (.ref w)) (XO0 : Old Z n0 h0) :
    MetFree l (⟨"com/example/bo3/bo3/core/EventTypeEndsRunPinLaw", "pick", "(I)Lcom/example/bo3/bo3/core/EventType;"⟩ : MethodName) (head1 (Jvm.Cond.code (⟨"com/example/bo3/bo3/core/EventTypeEndsRunPinLaw", "pick", "(I)Lcom/example/bo3/bo3/core/EventType;"⟩ : MethodName) method_2_code 1 (some (.object "com/example/bo3/bo3/core/EventType")) :: ws) ({ frames := 0, cells := 0, slots := 0, locals := 0 } : Room)) (fun zz_ U => zz_ = #[(.int (6 : Int32))] ∧ Z.Warmed39 U.vm ∧ U.heap = h0) (fun _ _ _ _ _ => True) (fun _ U o U' => ∃ v L, o = .returned v ∧ Q_rm1_6 Z w h0 n0 v U'.heap L ∧ FrameEnd U o U' L ({ frames := 0, cells := 0, slots := 0, locals := 0 } : Room).cells ({ frames := 0, cells := 0, slots := 0, locals := 0 } : Room).slots) := by
  refine MetFree.of_bodySF (plainFor_of_name pn_0) hisR ?_
  intro p e s m args below meth c s₁ Bd hml0 hP hK
  obtain ⟨rfl, hZ, hh⟩ := hP
  have hx := Bd.exec
  have hby := Bd.bytes
  have hlk := Bd.notSynchronized
  have hW : ∀ (i : Nat) (d : Jvm.Cond), tables_1[i]? = some d → d.before a0 Z = true := fun i d h => hw d (List.mem_of_getElem? h)
  have hml : c.maxLocals = 1 := hml0
  have hown : s.vm.findClass "com/example/bo3/bo3/core/EventTypeEndsRunPinLaw" = some m.cls := findClass_of_methodNamed Bd.named
  have hnm := (name_of_methodNamed Bd.named Bd.method).1
  have X0 : Stand p l e ({ frames := 0, cells := 0, slots := 0, locals := 0 } : Room) s m #[(.int (6 : Int32))] below meth c s₁ [] 0 0 := Stand.of_body Bd
  have e0 : s₁.heap = h0 := by rw [← hh, Bd.state]; rfl
  have N0 := Fr.nil n0
  refine own_in ?_
  refine own_of (fun t k => castTop (ef_rm1_6 m (6 : Int32)) k) ?_
  show own_go p e below s _ _ _ (s₁.setTop (mkF m 0 #[.val (.int (6 : Int32))] []))
  refine own_of (fun t => XS.iloadN X0.here hx rfl (hb hby d1_0) rfl) ?_
  show own_go p e below s _ _ _ (s₁.setTop (mkF m 1 #[.val (.int (6 : Int32))] [(.int (6 : Int32))]))
  have hb1_1 : ¬ ((6 : Int32) = (0 : Int32)) := by decide
  refine own_of (fun t => XS.ifYes X0.here hx rfl (pc0 := 1) (pc' := 8) rfl (hb hby d1_1) rfl ((if0 _ _).trans (feq hb1_1).2) (by decide) (by decide)) ?_
  show own_go p e below s _ _ _ (s₁.setTop (mkF m 8 #[.val (.int (6 : Int32))] []))
  refine own_of (fun t => XS.iloadN X0.here hx rfl (hb hby d1_8) rfl) ?_
  show own_go p e below s _ _ _ (s₁.setTop (mkF m 9 #[.val (.int (6 : Int32))] [(.int (6 : Int32))]))
  refine own_of (fun t => XS.iconst X0.here hx rfl (hb hby d1_9)) ?_
  show own_go p e below s _ _ _ (s₁.setTop (mkF m 10 #[.val (.int (6 : Int32))] [(.int (1 : Int32)), (.int (6 : Int32))]))
  have hb10_2 : ¬ ((6 : Int32) = (1 : Int32)) := by decide
  refine own_of (fun t => XS.icmpYes X0.here hx rfl (pc0 := 10) (pc' := 17) rfl (hb hby d1_10) rfl (feq hb10_2).2 (by decide) (by decide)) ?_
  show own_go p e below s _ _ _ (s₁.setTop (mkF m 17 #[.val (.int (6 : Int32))] []))
  refine own_of (fun t => XS.iloadN X0.here hx rfl (hb hby d1_17) rfl) ?_
  show own_go p e below s _ _ _ (s₁.setTop (mkF m 18 #[.val (.int (6 : Int32))] [(.int (6 : Int32))]))
  refine own_of (fun t => XS.iconst X0.here hx rfl (hb hby d1_18)) ?_
  show own_go p e below s _ _ _ (s₁.setTop (mkF m 19 #[.val (.int (6 : Int32))] [(.int (2 : Int32)), (.int (6 : Int32))]))
  have hb19_3 : ¬ ((6 : Int32) = (2 : Int32)) := by decide
  refine own_of (fun t => XS.icmpYes X0.here hx rfl (pc0 := 19) (pc' := 26) rfl (hb hby d1_19) rfl (feq hb19_3).2 (by decide) (by decide)) ?_
  show own_go p e below s _ _ _ (s₁.setTop (mkF m 26 #[.val (.int (6 : Int32))] []))
  refine own_of (fun t => XS.iloadN X0.here hx rfl (hb hby d1_26) rfl) ?_
  show own_go p e below s _ _ _ (s₁.setTop (mkF m 27 #[.val (.int (6 : Int32))] [(.int (6 : Int32))]))
  refine own_of (fun t => XS.iconst X0.here hx rfl (hb hby d1_27)) ?_
  show own_go p e below s _ _ _ (s₁.setTop (mkF m 28 #[.val (.int (6 : Int32))] [(.int (3 : Int32)), (.int (6 : Int32))]))
  have hb28_4 : ¬ ((6 : Int32) = (3 : Int32)) := by decide
  refine own_of (fun t => XS.icmpYes X0.here hx rfl (pc0 := 28) (pc' := 35) rfl (hb hby d1_28) rfl (feq hb28_4).2 (by decide) (by decide)) ?_
  show own_go p e below s _ _ _ (s₁.setTop (mkF m 35 #[.val (.int (6 : Int32))] []))
  refine own_of (fun t => XS.iloadN X0.here hx rfl (hb hby d1_35) rfl) ?_
  show own_go p e below s _ _ _ (s₁.setTop (mkF m 36 #[.val (.int (6 : Int32))] [(.int (6 : Int32))]))
  refine own_of (fun t => XS.iconst X0.here hx rfl (hb hby d1_36)) ?_
  show own_go p e below s _ _ _ (s₁.setTop (mkF m 37 #[.val (.int (6 : Int32))] [(.int (4 : Int32)), (.int (6 : Int32))]))
  have hb37_5 : ¬ ((6 : Int32) = (4 : Int32)) := by decide
  refine own_of (fun t => XS.icmpYes X0.here hx rfl (pc0 := 37) (pc' := 44) rfl (hb hby d1_37) rfl (feq hb37_5).2 (by decide) (by decide)) ?_
  show own_go p e below s _ _ _ (s₁.setTop (mkF m 44 #[.val (.int (6 : Int32))] []))
  refine own_of (fun t => XS.iloadN X0.here hx rfl (hb hby d1_44) rfl) ?_
  show own_go p e below s _ _ _ (s₁.setTop (mkF m 45 #[.val (.int (6 : Int32))] [(.int (6 : Int32))]))
  refine own_of (fun t => XS.iconst X0.here hx rfl (hb hby d1_45)) ?_
  show own_go p e below s _ _ _ (s₁.setTop (mkF m 46 #[.val (.int (6 : Int32))] [(.int (5 : Int32)), (.int (6 : Int32))]))
  have hb46_6 : ¬ ((6 : Int32) = (5 : Int32)) := by decide
  refine own_of (fun t => XS.icmpYes X0.here hx rfl (pc0 := 46) (pc' := 53) rfl (hb hby d1_46) rfl (feq hb46_6).2 (by decide) (by decide)) ?_
  show own_go p e below s _ _ _ (s₁.setTop (mkF m 53 #[.val (.int (6 : Int32))] []))
  refine own_of (fun t => XS.iloadN X0.here hx rfl (hb hby d1_53) rfl) ?_
  show own_go p e below s _ _ _ (s₁.setTop (mkF m 54 #[.val (.int (6 : Int32))] [(.int (6 : Int32))]))
  refine own_of (fun t => XS.bipush X0.here hx rfl (hb hby d1_54)) ?_
  show own_go p e below s _ _ _ (s₁.setTop (mkF m 56 #[.val (.int (6 : Int32))] [(.int (6 : Int32)), (.int (6 : Int32))]))
  have hb56_7 : (6 : Int32) = (6 : Int32) := by decide
  refine own_of (fun t => XS.icmpNo X0.here hx rfl (hb hby d1_56) rfl (teq hb56_7).2) ?_
  show own_go p e below s _ _ _ (s₁.setTop (mkF m 59 #[.val (.int (6 : Int32))] []))
  obtain ⟨T8, X8, e8, st8⟩ := getS2 X0 hx hZ hown (host := "") (Or.inl (hW 30 _ rfl)) Via.refl e0 (S_STEP_FAILED_TERMINAL.ext XO0.2) (g := (mkF m 59 #[.val (.int (6 : Int32))] [])) rfl (hb hby d1_59)
  refine own_of st8 ?_
  show own_go p e below s _ _ _ (T8.setTop (mkF m 62 #[.val (.int (6 : Int32))] [(.ref w)]))
  refine own_ret X8 hx hlk Bd.returns rfl (Or.inr (Or.inr (Or.inr (Or.inr ⟨rfl, rfl, rfl⟩)))) (hb hby d1_62) (by decide) (by decide) ?_
  rw [e8]
  exact ⟨rfl, N0, rfl⟩
theorem ef_rm3_6 (m : MethodId) (x0 : Int32) : entryFrame m #[(.int x0)] 1 = mkF m 0 #[.val (.int x0)] [] := by first | (simp [entryFrame, mkF, argsToLocals, Value.category]; done) | rfl
theorem d3_41 : decode method_3_code 41 = .ok (.iload_n 0, 1) := by decide +kernel
theorem d3_42 : decode method_3_code 42 = .ok (.bipush 6, 2) := by decide +kernel
theorem d3_44 : decode method_3_code 44 = .ok (.if_icmp .ne 5, 3) := by decide +kernel
theorem d3_47 : decode method_3_code 47 = .ok (.iconst 0, 1) := by decide +kernel
theorem d3_48 : decode method_3_code 48 = .ok (.ireturn, 1) := by decide +kernel
def Q_rm3_6 (Z : State)  (h0 : Heap) (n0 : Nat) (v : Option Value) (h : Heap) (L : List Loc) : Prop := v = some (.int 0) ∧ Fr n0 L ∧ h = h0
set_option maxRecDepth 65536 in
set_option maxHeartbeats 40000000 in
theorem rm3_6 (l : Launch) (Z : State) (a0 : Array Value) (hw : ∀ d ∈ tables_1, d.before a0 Z = true) (ws : List Jvm.Cond)  (h0 : Heap) (n0 : Nat) (XO0 : Old Z n0 h0) :
    MetFree l (⟨"com/example/bo3/bo3/core/EventTypeEndsRunPinLaw", "expected", "(I)Z"⟩ : MethodName) (head1 (Jvm.Cond.code (⟨"com/example/bo3/bo3/core/EventTypeEndsRunPinLaw", "expected", "(I)Z"⟩ : MethodName) method_3_code 1 (some .boolean) :: ws) ({ frames := 0, cells := 0, slots := 0, locals := 0 } : Room)) (fun zz_ U => zz_ = #[(.int (6 : Int32))] ∧ Z.Warmed39 U.vm ∧ U.heap = h0) (fun _ _ _ _ _ => True) (fun _ U o U' => ∃ v L, o = .returned v ∧ Q_rm3_6 Z  h0 n0 v U'.heap L ∧ FrameEnd U o U' L ({ frames := 0, cells := 0, slots := 0, locals := 0 } : Room).cells ({ frames := 0, cells := 0, slots := 0, locals := 0 } : Room).slots) := by
  refine MetFree.of_bodySF (plainFor_of_name pn_0) hisR ?_
  intro p e s m args below meth c s₁ Bd hml0 hP hK
  obtain ⟨rfl, hZ, hh⟩ := hP
  have hx := Bd.exec
  have hby := Bd.bytes
  have hlk := Bd.notSynchronized
  have hW : ∀ (i : Nat) (d : Jvm.Cond), tables_1[i]? = some d → d.before a0 Z = true := fun i d h => hw d (List.mem_of_getElem? h)
  have hml : c.maxLocals = 1 := hml0
  have hown : s.vm.findClass "com/example/bo3/bo3/core/EventTypeEndsRunPinLaw" = some m.cls := findClass_of_methodNamed Bd.named
  have hnm := (name_of_methodNamed Bd.named Bd.method).1
  have X0 : Stand p l e ({ frames := 0, cells := 0, slots := 0, locals := 0 } : Room) s m #[(.int (6 : Int32))] below meth c s₁ [] 0 0 := Stand.of_body Bd
  have e0 : s₁.heap = h0 := by rw [← hh, Bd.state]; rfl
  have N0 := Fr.nil n0
  refine own_in ?_
  refine own_of (fun t k => castTop (ef_rm3_6 m (6 : Int32)) k) ?_
  show own_go p e below s _ _ _ (s₁.setTop (mkF m 0 #[.val (.int (6 : Int32))] []))
  refine own_of (fun t => XS.iloadN X0.here hx rfl (hb hby d3_0) rfl) ?_
  show own_go p e below s _ _ _ (s₁.setTop (mkF m 1 #[.val (.int (6 : Int32))] [(.int (6 : Int32))]))
  have hb1_1 : ¬ ((6 : Int32) = (0 : Int32)) := by decide
  refine own_of (fun t => XS.ifYes X0.here hx rfl (pc0 := 1) (pc' := 6) rfl (hb hby d3_1) rfl ((if0 _ _).trans (feq hb1_1).2) (by decide) (by decide)) ?_
  show own_go p e below s _ _ _ (s₁.setTop (mkF m 6 #[.val (.int (6 : Int32))] []))
  refine own_of (fun t => XS.iloadN X0.here hx rfl (hb hby d3_6) rfl) ?_
  show own_go p e below s _ _ _ (s₁.setTop (mkF m 7 #[.val (.int (6 : Int32))] [(.int (6 : Int32))]))
  refine own_of (fun t => XS.iconst X0.here hx rfl (hb hby d3_7)) ?_
  show own_go p e below s _ _ _ (s₁.setTop (mkF m 8 #[.val (.int (6 : Int32))] [(.int (1 : Int32)), (.int (6 : Int32))]))
  have hb8_2 : ¬ ((6 : Int32) = (1 : Int32)) := by decide
  refine own_of (fun t => XS.icmpYes X0.here hx rfl (pc0 := 8) (pc' := 13) rfl (hb hby d3_8) rfl (feq hb8_2).2 (by decide) (by decide)) ?_
  show own_go p e below s _ _ _ (s₁.setTop (mkF m 13 #[.val (.int (6 : Int32))] []))
  refine own_of (fun t => XS.iloadN X0.here hx rfl (hb hby d3_13) rfl) ?_
  show own_go p e below s _ _ _ (s₁.setTop (mkF m 14 #[.val (.int (6 : Int32))] [(.int (6 : Int32))]))
  refine own_of (fun t => XS.iconst X0.here hx rfl (hb hby d3_14)) ?_
  show own_go p e below s _ _ _ (s₁.setTop (mkF m 15 #[.val (.int (6 : Int32))] [(.int (2 : Int32)), (.int (6 : Int32))]))
  have hb15_3 : ¬ ((6 : Int32) = (2 : Int32)) := by decide
  refine own_of (fun t => XS.icmpYes X0.here hx rfl (pc0 := 15) (pc' := 20) rfl (hb hby d3_15) rfl (feq hb15_3).2 (by decide) (by decide)) ?_
  show own_go p e below s _ _ _ (s₁.setTop (mkF m 20 #[.val (.int (6 : Int32))] []))
  refine own_of (fun t => XS.iloadN X0.here hx rfl (hb hby d3_20) rfl) ?_
  show own_go p e below s _ _ _ (s₁.setTop (mkF m 21 #[.val (.int (6 : Int32))] [(.int (6 : Int32))]))
  refine own_of (fun t => XS.iconst X0.here hx rfl (hb hby d3_21)) ?_
  show own_go p e below s _ _ _ (s₁.setTop (mkF m 22 #[.val (.int (6 : Int32))] [(.int (3 : Int32)), (.int (6 : Int32))]))
  have hb22_4 : ¬ ((6 : Int32) = (3 : Int32)) := by decide
  refine own_of (fun t => XS.icmpYes X0.here hx rfl (pc0 := 22) (pc' := 27) rfl (hb hby d3_22) rfl (feq hb22_4).2 (by decide) (by decide)) ?_
  show own_go p e below s _ _ _ (s₁.setTop (mkF m 27 #[.val (.int (6 : Int32))] []))
  refine own_of (fun t => XS.iloadN X0.here hx rfl (hb hby d3_27) rfl) ?_
  show own_go p e below s _ _ _ (s₁.setTop (mkF m 28 #[.val (.int (6 : Int32))] [(.int (6 : Int32))]))
  refine own_of (fun t => XS.iconst X0.here hx rfl (hb hby d3_28)) ?_
  show own_go p e below s _ _ _ (s₁.setTop (mkF m 29 #[.val (.int (6 : Int32))] [(.int (4 : Int32)), (.int (6 : Int32))]))
  have hb29_5 : ¬ ((6 : Int32) = (4 : Int32)) := by decide
  refine own_of (fun t => XS.icmpYes X0.here hx rfl (pc0 := 29) (pc' := 34) rfl (hb hby d3_29) rfl (feq hb29_5).2 (by decide) (by decide)) ?_
  show own_go p e below s _ _ _ (s₁.setTop (mkF m 34 #[.val (.int (6 : Int32))] []))
  refine own_of (fun t => XS.iloadN X0.here hx rfl (hb hby d3_34) rfl) ?_
  show own_go p e below s _ _ _ (s₁.setTop (mkF m 35 #[.val (.int (6 : Int32))] [(.int (6 : Int32))]))
  refine own_of (fun t => XS.iconst X0.here hx rfl (hb hby d3_35)) ?_
  show own_go p e below s _ _ _ (s₁.setTop (mkF m 36 #[.val (.int (6 : Int32))] [(.int (5 : Int32)), (.int (6 : Int32))]))
  have hb36_6 : ¬ ((6 : Int32) = (5 : Int32)) := by decide
  refine own_of (fun t => XS.icmpYes X0.here hx rfl (pc0 := 36) (pc' := 41) rfl (hb hby d3_36) rfl (feq hb36_6).2 (by decide) (by decide)) ?_
  show own_go p e below s _ _ _ (s₁.setTop (mkF m 41 #[.val (.int (6 : Int32))] []))
  refine own_of (fun t => XS.iloadN X0.here hx rfl (hb hby d3_41) rfl) ?_
  show own_go p e below s _ _ _ (s₁.setTop (mkF m 42 #[.val (.int (6 : Int32))] [(.int (6 : Int32))]))
  refine own_of (fun t => XS.bipush X0.here hx rfl (hb hby d3_42)) ?_
  show own_go p e below s _ _ _ (s₁.setTop (mkF m 44 #[.val (.int (6 : Int32))] [(.int (6 : Int32)), (.int (6 : Int32))]))
  have hb44_7 : (6 : Int32) = (6 : Int32) := by decide
  refine own_of (fun t => XS.icmpNo X0.here hx rfl (hb hby d3_44) rfl (teq hb44_7).2) ?_
  show own_go p e below s _ _ _ (s₁.setTop (mkF m 47 #[.val (.int (6 : Int32))] []))
  refine own_of (fun t => XS.iconst X0.here hx rfl (hb hby d3_47)) ?_
  show own_go p e below s _ _ _ (s₁.setTop (mkF m 48 #[.val (.int (6 : Int32))] [(.int (0 : Int32))]))
  refine own_ret X0 hx hlk Bd.returns rfl (Or.inl ⟨rfl, by simp, _, rfl⟩) (hb hby d3_48) (by decide) (by decide) ?_
  rw [e0]
  exact ⟨rfl, N0, rfl⟩
theorem ef_rm1_7 (m : MethodId) (x0 : Int32) : entryFrame m #[(.int x0)] 1 = mkF m 0 #[.val (.int x0)] [] := by first | (simp [entryFrame, mkF, argsToLocals, Value.category]; done) | rfl
theorem d1_63 : decode method_2_code 63 = .ok (.iload_n 0, 1) := by decide +kernel
theorem d1_64 : decode method_2_code 64 = .ok (.bipush 7, 2) := by decide +kernel
theorem d1_66 : decode method_2_code 66 = .ok (.if_icmp .ne 7, 3) := by decide +kernel
theorem d1_69 : decode method_2_code 69 = .ok (.getstatic 31, 3) := by decide +kernel
theorem d1_72 : decode method_2_code 72 = .ok (.areturn, 1) := by decide +kernel
def Q_rm1_7 (Z : State) (w : Addr) (h0 : Heap) (n0 : Nat) (v : Option Value) (h : Heap) (L : List Loc) : Prop := v = some (.ref w) ∧ Fr n0 L ∧ h = h0
set_option maxRecDepth 65536 in
set_option maxHeartbeats 40000000 in
theorem rm1_7 (l : Launch) (Z : State) (a0 : Array Value) (hw : ∀ d ∈ tables_1, d.before a0 Z = true) (ws : List Jvm.Cond) (w : Addr) (h0 : Heap) (n0 : Nat) (S_EXECUTION_COMPLETED : Sta Z Z.heap "com/example/bo3/bo3/core/EventType" "EXECUTION_COMPLETED" "Lcom/example/bo3/bo3/core/EventType;" (.ref w)) (XO0 : Old Z n0 h0) :
    MetFree l (⟨"com/example/bo3/bo3/core/EventTypeEndsRunPinLaw", "pick", "(I)Lcom/example/bo3/bo3/core/EventType;"⟩ : MethodName) (head1 (Jvm.Cond.code (⟨"com/example/bo3/bo3/core/EventTypeEndsRunPinLaw", "pick", "(I)Lcom/example/bo3/bo3/core/EventType;"⟩ : MethodName) method_2_code 1 (some (.object "com/example/bo3/bo3/core/EventType")) :: ws) ({ frames := 0, cells := 0, slots := 0, locals := 0 } : Room)) (fun zz_ U => zz_ = #[(.int (7 : Int32))] ∧ Z.Warmed39 U.vm ∧ U.heap = h0) (fun _ _ _ _ _ => True) (fun _ U o U' => ∃ v L, o = .returned v ∧ Q_rm1_7 Z w h0 n0 v U'.heap L ∧ FrameEnd U o U' L ({ frames := 0, cells := 0, slots := 0, locals := 0 } : Room).cells ({ frames := 0, cells := 0, slots := 0, locals := 0 } : Room).slots) := by
  refine MetFree.of_bodySF (plainFor_of_name pn_0) hisR ?_
  intro p e s m args below meth c s₁ Bd hml0 hP hK
  obtain ⟨rfl, hZ, hh⟩ := hP
  have hx := Bd.exec
  have hby := Bd.bytes
  have hlk := Bd.notSynchronized
  have hW : ∀ (i : Nat) (d : Jvm.Cond), tables_1[i]? = some d → d.before a0 Z = true := fun i d h => hw d (List.mem_of_getElem? h)
  have hml : c.maxLocals = 1 := hml0
  have hown : s.vm.findClass "com/example/bo3/bo3/core/EventTypeEndsRunPinLaw" = some m.cls := findClass_of_methodNamed Bd.named
  have hnm := (name_of_methodNamed Bd.named Bd.method).1
  have X0 : Stand p l e ({ frames := 0, cells := 0, slots := 0, locals := 0 } : Room) s m #[(.int (7 : Int32))] below meth c s₁ [] 0 0 := Stand.of_body Bd
  have e0 : s₁.heap = h0 := by rw [← hh, Bd.state]; rfl
  have N0 := Fr.nil n0
  refine own_in ?_
  refine own_of (fun t k => castTop (ef_rm1_7 m (7 : Int32)) k) ?_
  show own_go p e below s _ _ _ (s₁.setTop (mkF m 0 #[.val (.int (7 : Int32))] []))
  refine own_of (fun t => XS.iloadN X0.here hx rfl (hb hby d1_0) rfl) ?_
  show own_go p e below s _ _ _ (s₁.setTop (mkF m 1 #[.val (.int (7 : Int32))] [(.int (7 : Int32))]))
  have hb1_1 : ¬ ((7 : Int32) = (0 : Int32)) := by decide
  refine own_of (fun t => XS.ifYes X0.here hx rfl (pc0 := 1) (pc' := 8) rfl (hb hby d1_1) rfl ((if0 _ _).trans (feq hb1_1).2) (by decide) (by decide)) ?_
  show own_go p e below s _ _ _ (s₁.setTop (mkF m 8 #[.val (.int (7 : Int32))] []))
  refine own_of (fun t => XS.iloadN X0.here hx rfl (hb hby d1_8) rfl) ?_
  show own_go p e below s _ _ _ (s₁.setTop (mkF m 9 #[.val (.int (7 : Int32))] [(.int (7 : Int32))]))
  refine own_of (fun t => XS.iconst X0.here hx rfl (hb hby d1_9)) ?_
  show own_go p e below s _ _ _ (s₁.setTop (mkF m 10 #[.val (.int (7 : Int32))] [(.int (1 : Int32)), (.int (7 : Int32))]))
  have hb10_2 : ¬ ((7 : Int32) = (1 : Int32)) := by decide
  refine own_of (fun t => XS.icmpYes X0.here hx rfl (pc0 := 10) (pc' := 17) rfl (hb hby d1_10) rfl (feq hb10_2).2 (by decide) (by decide)) ?_
  show own_go p e below s _ _ _ (s₁.setTop (mkF m 17 #[.val (.int (7 : Int32))] []))
  refine own_of (fun t => XS.iloadN X0.here hx rfl (hb hby d1_17) rfl) ?_
  show own_go p e below s _ _ _ (s₁.setTop (mkF m 18 #[.val (.int (7 : Int32))] [(.int (7 : Int32))]))
  refine own_of (fun t => XS.iconst X0.here hx rfl (hb hby d1_18)) ?_
  show own_go p e below s _ _ _ (s₁.setTop (mkF m 19 #[.val (.int (7 : Int32))] [(.int (2 : Int32)), (.int (7 : Int32))]))
  have hb19_3 : ¬ ((7 : Int32) = (2 : Int32)) := by decide
  refine own_of (fun t => XS.icmpYes X0.here hx rfl (pc0 := 19) (pc' := 26) rfl (hb hby d1_19) rfl (feq hb19_3).2 (by decide) (by decide)) ?_
  show own_go p e below s _ _ _ (s₁.setTop (mkF m 26 #[.val (.int (7 : Int32))] []))
  refine own_of (fun t => XS.iloadN X0.here hx rfl (hb hby d1_26) rfl) ?_
  show own_go p e below s _ _ _ (s₁.setTop (mkF m 27 #[.val (.int (7 : Int32))] [(.int (7 : Int32))]))
  refine own_of (fun t => XS.iconst X0.here hx rfl (hb hby d1_27)) ?_
  show own_go p e below s _ _ _ (s₁.setTop (mkF m 28 #[.val (.int (7 : Int32))] [(.int (3 : Int32)), (.int (7 : Int32))]))
  have hb28_4 : ¬ ((7 : Int32) = (3 : Int32)) := by decide
  refine own_of (fun t => XS.icmpYes X0.here hx rfl (pc0 := 28) (pc' := 35) rfl (hb hby d1_28) rfl (feq hb28_4).2 (by decide) (by decide)) ?_
  show own_go p e below s _ _ _ (s₁.setTop (mkF m 35 #[.val (.int (7 : Int32))] []))
  refine own_of (fun t => XS.iloadN X0.here hx rfl (hb hby d1_35) rfl) ?_
  show own_go p e below s _ _ _ (s₁.setTop (mkF m 36 #[.val (.int (7 : Int32))] [(.int (7 : Int32))]))
  refine own_of (fun t => XS.iconst X0.here hx rfl (hb hby d1_36)) ?_
  show own_go p e below s _ _ _ (s₁.setTop (mkF m 37 #[.val (.int (7 : Int32))] [(.int (4 : Int32)), (.int (7 : Int32))]))
  have hb37_5 : ¬ ((7 : Int32) = (4 : Int32)) := by decide
  refine own_of (fun t => XS.icmpYes X0.here hx rfl (pc0 := 37) (pc' := 44) rfl (hb hby d1_37) rfl (feq hb37_5).2 (by decide) (by decide)) ?_
  show own_go p e below s _ _ _ (s₁.setTop (mkF m 44 #[.val (.int (7 : Int32))] []))
  refine own_of (fun t => XS.iloadN X0.here hx rfl (hb hby d1_44) rfl) ?_
  show own_go p e below s _ _ _ (s₁.setTop (mkF m 45 #[.val (.int (7 : Int32))] [(.int (7 : Int32))]))
  refine own_of (fun t => XS.iconst X0.here hx rfl (hb hby d1_45)) ?_
  show own_go p e below s _ _ _ (s₁.setTop (mkF m 46 #[.val (.int (7 : Int32))] [(.int (5 : Int32)), (.int (7 : Int32))]))
  have hb46_6 : ¬ ((7 : Int32) = (5 : Int32)) := by decide
  refine own_of (fun t => XS.icmpYes X0.here hx rfl (pc0 := 46) (pc' := 53) rfl (hb hby d1_46) rfl (feq hb46_6).2 (by decide) (by decide)) ?_
  show own_go p e below s _ _ _ (s₁.setTop (mkF m 53 #[.val (.int (7 : Int32))] []))
  refine own_of (fun t => XS.iloadN X0.here hx rfl (hb hby d1_53) rfl) ?_
  show own_go p e below s _ _ _ (s₁.setTop (mkF m 54 #[.val (.int (7 : Int32))] [(.int (7 : Int32))]))
  refine own_of (fun t => XS.bipush X0.here hx rfl (hb hby d1_54)) ?_
  show own_go p e below s _ _ _ (s₁.setTop (mkF m 56 #[.val (.int (7 : Int32))] [(.int (6 : Int32)), (.int (7 : Int32))]))
  have hb56_7 : ¬ ((7 : Int32) = (6 : Int32)) := by decide
  refine own_of (fun t => XS.icmpYes X0.here hx rfl (pc0 := 56) (pc' := 63) rfl (hb hby d1_56) rfl (feq hb56_7).2 (by decide) (by decide)) ?_
  show own_go p e below s _ _ _ (s₁.setTop (mkF m 63 #[.val (.int (7 : Int32))] []))
  refine own_of (fun t => XS.iloadN X0.here hx rfl (hb hby d1_63) rfl) ?_
  show own_go p e below s _ _ _ (s₁.setTop (mkF m 64 #[.val (.int (7 : Int32))] [(.int (7 : Int32))]))
  refine own_of (fun t => XS.bipush X0.here hx rfl (hb hby d1_64)) ?_
  show own_go p e below s _ _ _ (s₁.setTop (mkF m 66 #[.val (.int (7 : Int32))] [(.int (7 : Int32)), (.int (7 : Int32))]))
  have hb66_8 : (7 : Int32) = (7 : Int32) := by decide
  refine own_of (fun t => XS.icmpNo X0.here hx rfl (hb hby d1_66) rfl (teq hb66_8).2) ?_
  show own_go p e below s _ _ _ (s₁.setTop (mkF m 69 #[.val (.int (7 : Int32))] []))
  obtain ⟨T9, X9, e9, st9⟩ := getS2 X0 hx hZ hown (host := "") (Or.inl (hW 26 _ rfl)) Via.refl e0 (S_EXECUTION_COMPLETED.ext XO0.2) (g := (mkF m 69 #[.val (.int (7 : Int32))] [])) rfl (hb hby d1_69)
  refine own_of st9 ?_
  show own_go p e below s _ _ _ (T9.setTop (mkF m 72 #[.val (.int (7 : Int32))] [(.ref w)]))
  refine own_ret X9 hx hlk Bd.returns rfl (Or.inr (Or.inr (Or.inr (Or.inr ⟨rfl, rfl, rfl⟩)))) (hb hby d1_72) (by decide) (by decide) ?_
  rw [e9]
  exact ⟨rfl, N0, rfl⟩
theorem ef_rm3_7 (m : MethodId) (x0 : Int32) : entryFrame m #[(.int x0)] 1 = mkF m 0 #[.val (.int x0)] [] := by first | (simp [entryFrame, mkF, argsToLocals, Value.category]; done) | rfl
theorem d3_49 : decode method_3_code 49 = .ok (.iconst 1, 1) := by decide +kernel
theorem d3_50 : decode method_3_code 50 = .ok (.ireturn, 1) := by decide +kernel
def Q_rm3_7 (Z : State)  (h0 : Heap) (n0 : Nat) (v : Option Value) (h : Heap) (L : List Loc) : Prop := v = some (.int 1) ∧ Fr n0 L ∧ h = h0
set_option maxRecDepth 65536 in
set_option maxHeartbeats 40000000 in
theorem rm3_7 (l : Launch) (Z : State) (a0 : Array Value) (hw : ∀ d ∈ tables_1, d.before a0 Z = true) (ws : List Jvm.Cond)  (h0 : Heap) (n0 : Nat) (XO0 : Old Z n0 h0) :
    MetFree l (⟨"com/example/bo3/bo3/core/EventTypeEndsRunPinLaw", "expected", "(I)Z"⟩ : MethodName) (head1 (Jvm.Cond.code (⟨"com/example/bo3/bo3/core/EventTypeEndsRunPinLaw", "expected", "(I)Z"⟩ : MethodName) method_3_code 1 (some .boolean) :: ws) ({ frames := 0, cells := 0, slots := 0, locals := 0 } : Room)) (fun zz_ U => zz_ = #[(.int (7 : Int32))] ∧ Z.Warmed39 U.vm ∧ U.heap = h0) (fun _ _ _ _ _ => True) (fun _ U o U' => ∃ v L, o = .returned v ∧ Q_rm3_7 Z  h0 n0 v U'.heap L ∧ FrameEnd U o U' L ({ frames := 0, cells := 0, slots := 0, locals := 0 } : Room).cells ({ frames := 0, cells := 0, slots := 0, locals := 0 } : Room).slots) := by
  refine MetFree.of_bodySF (plainFor_of_name pn_0) hisR ?_
  intro p e s m args below meth c s₁ Bd hml0 hP hK
  obtain ⟨rfl, hZ, hh⟩ := hP
  have hx := Bd.exec
  have hby := Bd.bytes
  have hlk := Bd.notSynchronized
  have hW : ∀ (i : Nat) (d : Jvm.Cond), tables_1[i]? = some d → d.before a0 Z = true := fun i d h => hw d (List.mem_of_getElem? h)
  have hml : c.maxLocals = 1 := hml0
  have hown : s.vm.findClass "com/example/bo3/bo3/core/EventTypeEndsRunPinLaw" = some m.cls := findClass_of_methodNamed Bd.named
  have hnm := (name_of_methodNamed Bd.named Bd.method).1
  have X0 : Stand p l e ({ frames := 0, cells := 0, slots := 0, locals := 0 } : Room) s m #[(.int (7 : Int32))] below meth c s₁ [] 0 0 := Stand.of_body Bd
  have e0 : s₁.heap = h0 := by rw [← hh, Bd.state]; rfl
  have N0 := Fr.nil n0
  refine own_in ?_
  refine own_of (fun t k => castTop (ef_rm3_7 m (7 : Int32)) k) ?_
  show own_go p e below s _ _ _ (s₁.setTop (mkF m 0 #[.val (.int (7 : Int32))] []))
  refine own_of (fun t => XS.iloadN X0.here hx rfl (hb hby d3_0) rfl) ?_
  show own_go p e below s _ _ _ (s₁.setTop (mkF m 1 #[.val (.int (7 : Int32))] [(.int (7 : Int32))]))
  have hb1_1 : ¬ ((7 : Int32) = (0 : Int32)) := by decide
  refine own_of (fun t => XS.ifYes X0.here hx rfl (pc0 := 1) (pc' := 6) rfl (hb hby d3_1) rfl ((if0 _ _).trans (feq hb1_1).2) (by decide) (by decide)) ?_
  show own_go p e below s _ _ _ (s₁.setTop (mkF m 6 #[.val (.int (7 : Int32))] []))
  refine own_of (fun t => XS.iloadN X0.here hx rfl (hb hby d3_6) rfl) ?_
  show own_go p e below s _ _ _ (s₁.setTop (mkF m 7 #[.val (.int (7 : Int32))] [(.int (7 : Int32))]))
  refine own_of (fun t => XS.iconst X0.here hx rfl (hb hby d3_7)) ?_
  show own_go p e below s _ _ _ (s₁.setTop (mkF m 8 #[.val (.int (7 : Int32))] [(.int (1 : Int32)), (.int (7 : Int32))]))
  have hb8_2 : ¬ ((7 : Int32) = (1 : Int32)) := by decide
  refine own_of (fun t => XS.icmpYes X0.here hx rfl (pc0 := 8) (pc' := 13) rfl (hb hby d3_8) rfl (feq hb8_2).2 (by decide) (by decide)) ?_
  show own_go p e below s _ _ _ (s₁.setTop (mkF m 13 #[.val (.int (7 : Int32))] []))
  refine own_of (fun t => XS.iloadN X0.here hx rfl (hb hby d3_13) rfl) ?_
  show own_go p e below s _ _ _ (s₁.setTop (mkF m 14 #[.val (.int (7 : Int32))] [(.int (7 : Int32))]))
  refine own_of (fun t => XS.iconst X0.here hx rfl (hb hby d3_14)) ?_
  show own_go p e below s _ _ _ (s₁.setTop (mkF m 15 #[.val (.int (7 : Int32))] [(.int (2 : Int32)), (.int (7 : Int32))]))
  have hb15_3 : ¬ ((7 : Int32) = (2 : Int32)) := by decide
  refine own_of (fun t => XS.icmpYes X0.here hx rfl (pc0 := 15) (pc' := 20) rfl (hb hby d3_15) rfl (feq hb15_3).2 (by decide) (by decide)) ?_
  show own_go p e below s _ _ _ (s₁.setTop (mkF m 20 #[.val (.int (7 : Int32))] []))
  refine own_of (fun t => XS.iloadN X0.here hx rfl (hb hby d3_20) rfl) ?_
  show own_go p e below s _ _ _ (s₁.setTop (mkF m 21 #[.val (.int (7 : Int32))] [(.int (7 : Int32))]))
  refine own_of (fun t => XS.iconst X0.here hx rfl (hb hby d3_21)) ?_
  show own_go p e below s _ _ _ (s₁.setTop (mkF m 22 #[.val (.int (7 : Int32))] [(.int (3 : Int32)), (.int (7 : Int32))]))
  have hb22_4 : ¬ ((7 : Int32) = (3 : Int32)) := by decide
  refine own_of (fun t => XS.icmpYes X0.here hx rfl (pc0 := 22) (pc' := 27) rfl (hb hby d3_22) rfl (feq hb22_4).2 (by decide) (by decide)) ?_
  show own_go p e below s _ _ _ (s₁.setTop (mkF m 27 #[.val (.int (7 : Int32))] []))
  refine own_of (fun t => XS.iloadN X0.here hx rfl (hb hby d3_27) rfl) ?_
  show own_go p e below s _ _ _ (s₁.setTop (mkF m 28 #[.val (.int (7 : Int32))] [(.int (7 : Int32))]))
  refine own_of (fun t => XS.iconst X0.here hx rfl (hb hby d3_28)) ?_
  show own_go p e below s _ _ _ (s₁.setTop (mkF m 29 #[.val (.int (7 : Int32))] [(.int (4 : Int32)), (.int (7 : Int32))]))
  have hb29_5 : ¬ ((7 : Int32) = (4 : Int32)) := by decide
  refine own_of (fun t => XS.icmpYes X0.here hx rfl (pc0 := 29) (pc' := 34) rfl (hb hby d3_29) rfl (feq hb29_5).2 (by decide) (by decide)) ?_
  show own_go p e below s _ _ _ (s₁.setTop (mkF m 34 #[.val (.int (7 : Int32))] []))
  refine own_of (fun t => XS.iloadN X0.here hx rfl (hb hby d3_34) rfl) ?_
  show own_go p e below s _ _ _ (s₁.setTop (mkF m 35 #[.val (.int (7 : Int32))] [(.int (7 : Int32))]))
  refine own_of (fun t => XS.iconst X0.here hx rfl (hb hby d3_35)) ?_
  show own_go p e below s _ _ _ (s₁.setTop (mkF m 36 #[.val (.int (7 : Int32))] [(.int (5 : Int32)), (.int (7 : Int32))]))
  have hb36_6 : ¬ ((7 : Int32) = (5 : Int32)) := by decide
  refine own_of (fun t => XS.icmpYes X0.here hx rfl (pc0 := 36) (pc' := 41) rfl (hb hby d3_36) rfl (feq hb36_6).2 (by decide) (by decide)) ?_
  show own_go p e below s _ _ _ (s₁.setTop (mkF m 41 #[.val (.int (7 : Int32))] []))
  refine own_of (fun t => XS.iloadN X0.here hx rfl (hb hby d3_41) rfl) ?_
  show own_go p e below s _ _ _ (s₁.setTop (mkF m 42 #[.val (.int (7 : Int32))] [(.int (7 : Int32))]))
  refine own_of (fun t => XS.bipush X0.here hx rfl (hb hby d3_42)) ?_
  show own_go p e below s _ _ _ (s₁.setTop (mkF m 44 #[.val (.int (7 : Int32))] [(.int (6 : Int32)), (.int (7 : Int32))]))
  have hb44_7 : ¬ ((7 : Int32) = (6 : Int32)) := by decide
  refine own_of (fun t => XS.icmpYes X0.here hx rfl (pc0 := 44) (pc' := 49) rfl (hb hby d3_44) rfl (feq hb44_7).2 (by decide) (by decide)) ?_
  show own_go p e below s _ _ _ (s₁.setTop (mkF m 49 #[.val (.int (7 : Int32))] []))
  refine own_of (fun t => XS.iconst X0.here hx rfl (hb hby d3_49)) ?_
  show own_go p e below s _ _ _ (s₁.setTop (mkF m 50 #[.val (.int (7 : Int32))] [(.int (1 : Int32))]))
  refine own_ret X0 hx hlk Bd.returns rfl (Or.inl ⟨rfl, by simp, _, rfl⟩) (hb hby d3_50) (by decide) (by decide) ?_
  rw [e0]
  exact ⟨rfl, N0, rfl⟩
theorem ef_rm1_8 (m : MethodId) (x0 : Int32) : entryFrame m #[(.int x0)] 1 = mkF m 0 #[.val (.int x0)] [] := by first | (simp [entryFrame, mkF, argsToLocals, Value.category]; done) | rfl
theorem d1_73 : decode method_2_code 73 = .ok (.getstatic 34, 3) := by decide +kernel
theorem d1_76 : decode method_2_code 76 = .ok (.areturn, 1) := by decide +kernel
def Q_rm1_8 (Z : State) (w : Addr) (h0 : Heap) (n0 : Nat) (v : Option Value) (h : Heap) (L : List Loc) : Prop := v = some (.ref w) ∧ Fr n0 L ∧ h = h0
set_option maxRecDepth 65536 in
set_option maxHeartbeats 40000000 in
theorem rm1_8 (l : Launch) (Z : State) (a0 : Array Value) (hw : ∀ d ∈ tables_1, d.before a0 Z = true) (ws : List Jvm.Cond) (w : Addr) (h0 : Heap) (n0 : Nat) (S_EXECUTION_FAILED : Sta Z Z.heap "com/example/bo3/bo3/core/EventType" "EXECUTION_FAILED" "Lcom/example/bo3/bo3/core/EventType;" (.ref w)) (XO0 : Old Z n0 h0) :
    MetFree l (⟨"com/example/bo3/bo3/core/EventTypeEndsRunPinLaw", "pick", "(I)Lcom/example/bo3/bo3/core/EventType;"⟩ : MethodName) (head1 (Jvm.Cond.code (⟨"com/example/bo3/bo3/core/EventTypeEndsRunPinLaw", "pick", "(I)Lcom/example/bo3/bo3/core/EventType;"⟩ : MethodName) method_2_code 1 (some (.object "com/example/bo3/bo3/core/EventType")) :: ws) ({ frames := 0, cells := 0, slots := 0, locals := 0 } : Room)) (fun zz_ U => zz_ = #[(.int (8 : Int32))] ∧ Z.Warmed39 U.vm ∧ U.heap = h0) (fun _ _ _ _ _ => True) (fun _ U o U' => ∃ v L, o = .returned v ∧ Q_rm1_8 Z w h0 n0 v U'.heap L ∧ FrameEnd U o U' L ({ frames := 0, cells := 0, slots := 0, locals := 0 } : Room).cells ({ frames := 0, cells := 0, slots := 0, locals := 0 } : Room).slots) := by
  refine MetFree.of_bodySF (plainFor_of_name pn_0) hisR ?_
  intro p e s m args below meth c s₁ Bd hml0 hP hK
  obtain ⟨rfl, hZ, hh⟩ := hP
  have hx := Bd.exec
  have hby := Bd.bytes
  have hlk := Bd.notSynchronized
  have hW : ∀ (i : Nat) (d : Jvm.Cond), tables_1[i]? = some d → d.before a0 Z = true := fun i d h => hw d (List.mem_of_getElem? h)
  have hml : c.maxLocals = 1 := hml0
  have hown : s.vm.findClass "com/example/bo3/bo3/core/EventTypeEndsRunPinLaw" = some m.cls := findClass_of_methodNamed Bd.named
  have hnm := (name_of_methodNamed Bd.named Bd.method).1
  have X0 : Stand p l e ({ frames := 0, cells := 0, slots := 0, locals := 0 } : Room) s m #[(.int (8 : Int32))] below meth c s₁ [] 0 0 := Stand.of_body Bd
  have e0 : s₁.heap = h0 := by rw [← hh, Bd.state]; rfl
  have N0 := Fr.nil n0
  refine own_in ?_
  refine own_of (fun t k => castTop (ef_rm1_8 m (8 : Int32)) k) ?_
  show own_go p e below s _ _ _ (s₁.setTop (mkF m 0 #[.val (.int (8 : Int32))] []))
  refine own_of (fun t => XS.iloadN X0.here hx rfl (hb hby d1_0) rfl) ?_
  show own_go p e below s _ _ _ (s₁.setTop (mkF m 1 #[.val (.int (8 : Int32))] [(.int (8 : Int32))]))
  have hb1_1 : ¬ ((8 : Int32) = (0 : Int32)) := by decide
  refine own_of (fun t => XS.ifYes X0.here hx rfl (pc0 := 1) (pc' := 8) rfl (hb hby d1_1) rfl ((if0 _ _).trans (feq hb1_1).2) (by decide) (by decide)) ?_
  show own_go p e below s _ _ _ (s₁.setTop (mkF m 8 #[.val (.int (8 : Int32))] []))
  refine own_of (fun t => XS.iloadN X0.here hx rfl (hb hby d1_8) rfl) ?_
  show own_go p e below s _ _ _ (s₁.setTop (mkF m 9 #[.val (.int (8 : Int32))] [(.int (8 : Int32))]))
  refine own_of (fun t => XS.iconst X0.here hx rfl (hb hby d1_9)) ?_
  show own_go p e below s _ _ _ (s₁.setTop (mkF m 10 #[.val (.int (8 : Int32))] [(.int (1 : Int32)), (.int (8 : Int32))]))
  have hb10_2 : ¬ ((8 : Int32) = (1 : Int32)) := by decide
  refine own_of (fun t => XS.icmpYes X0.here hx rfl (pc0 := 10) (pc' := 17) rfl (hb hby d1_10) rfl (feq hb10_2).2 (by decide) (by decide)) ?_
  show own_go p e below s _ _ _ (s₁.setTop (mkF m 17 #[.val (.int (8 : Int32))] []))
  refine own_of (fun t => XS.iloadN X0.here hx rfl (hb hby d1_17) rfl) ?_
  show own_go p e below s _ _ _ (s₁.setTop (mkF m 18 #[.val (.int (8 : Int32))] [(.int (8 : Int32))]))
  refine own_of (fun t => XS.iconst X0.here hx rfl (hb hby d1_18)) ?_
  show own_go p e below s _ _ _ (s₁.setTop (mkF m 19 #[.val (.int (8 : Int32))] [(.int (2 : Int32)), (.int (8 : Int32))]))
  have hb19_3 : ¬ ((8 : Int32) = (2 : Int32)) := by decide
  refine own_of (fun t => XS.icmpYes X0.here hx rfl (pc0 := 19) (pc' := 26) rfl (hb hby d1_19) rfl (feq hb19_3).2 (by decide) (by decide)) ?_
  show own_go p e below s _ _ _ (s₁.setTop (mkF m 26 #[.val (.int (8 : Int32))] []))
  refine own_of (fun t => XS.iloadN X0.here hx rfl (hb hby d1_26) rfl) ?_
  show own_go p e below s _ _ _ (s₁.setTop (mkF m 27 #[.val (.int (8 : Int32))] [(.int (8 : Int32))]))
  refine own_of (fun t => XS.iconst X0.here hx rfl (hb hby d1_27)) ?_
  show own_go p e below s _ _ _ (s₁.setTop (mkF m 28 #[.val (.int (8 : Int32))] [(.int (3 : Int32)), (.int (8 : Int32))]))
  have hb28_4 : ¬ ((8 : Int32) = (3 : Int32)) := by decide
  refine own_of (fun t => XS.icmpYes X0.here hx rfl (pc0 := 28) (pc' := 35) rfl (hb hby d1_28) rfl (feq hb28_4).2 (by decide) (by decide)) ?_
  show own_go p e below s _ _ _ (s₁.setTop (mkF m 35 #[.val (.int (8 : Int32))] []))
  refine own_of (fun t => XS.iloadN X0.here hx rfl (hb hby d1_35) rfl) ?_
  show own_go p e below s _ _ _ (s₁.setTop (mkF m 36 #[.val (.int (8 : Int32))] [(.int (8 : Int32))]))
  refine own_of (fun t => XS.iconst X0.here hx rfl (hb hby d1_36)) ?_
  show own_go p e below s _ _ _ (s₁.setTop (mkF m 37 #[.val (.int (8 : Int32))] [(.int (4 : Int32)), (.int (8 : Int32))]))
  have hb37_5 : ¬ ((8 : Int32) = (4 : Int32)) := by decide
  refine own_of (fun t => XS.icmpYes X0.here hx rfl (pc0 := 37) (pc' := 44) rfl (hb hby d1_37) rfl (feq hb37_5).2 (by decide) (by decide)) ?_
  show own_go p e below s _ _ _ (s₁.setTop (mkF m 44 #[.val (.int (8 : Int32))] []))
  refine own_of (fun t => XS.iloadN X0.here hx rfl (hb hby d1_44) rfl) ?_
  show own_go p e below s _ _ _ (s₁.setTop (mkF m 45 #[.val (.int (8 : Int32))] [(.int (8 : Int32))]))
  refine own_of (fun t => XS.iconst X0.here hx rfl (hb hby d1_45)) ?_
  show own_go p e below s _ _ _ (s₁.setTop (mkF m 46 #[.val (.int (8 : Int32))] [(.int (5 : Int32)), (.int (8 : Int32))]))
  have hb46_6 : ¬ ((8 : Int32) = (5 : Int32)) := by decide
  refine own_of (fun t => XS.icmpYes X0.here hx rfl (pc0 := 46) (pc' := 53) rfl (hb hby d1_46) rfl (feq hb46_6).2 (by decide) (by decide)) ?_
  show own_go p e below s _ _ _ (s₁.setTop (mkF m 53 #[.val (.int (8 : Int32))] []))
  refine own_of (fun t => XS.iloadN X0.here hx rfl (hb hby d1_53) rfl) ?_
  show own_go p e below s _ _ _ (s₁.setTop (mkF m 54 #[.val (.int (8 : Int32))] [(.int (8 : Int32))]))
  refine own_of (fun t => XS.bipush X0.here hx rfl (hb hby d1_54)) ?_
  show own_go p e below s _ _ _ (s₁.setTop (mkF m 56 #[.val (.int (8 : Int32))] [(.int (6 : Int32)), (.int (8 : Int32))]))
  have hb56_7 : ¬ ((8 : Int32) = (6 : Int32)) := by decide
  refine own_of (fun t => XS.icmpYes X0.here hx rfl (pc0 := 56) (pc' := 63) rfl (hb hby d1_56) rfl (feq hb56_7).2 (by decide) (by decide)) ?_
  show own_go p e below s _ _ _ (s₁.setTop (mkF m 63 #[.val (.int (8 : Int32))] []))
  refine own_of (fun t => XS.iloadN X0.here hx rfl (hb hby d1_63) rfl) ?_
  show own_go p e below s _ _ _ (s₁.setTop (mkF m 64 #[.val (.int (8 : Int32))] [(.int (8 : Int32))]))
  refine own_of (fun t => XS.bipush X0.here hx rfl (hb hby d1_64)) ?_
  show own_go p e below s _ _ _ (s₁.setTop (mkF m 66 #[.val (.int (8 : Int32))] [(.int (7 : Int32)), (.int (8 : Int32))]))
  have hb66_8 : ¬ ((8 : Int32) = (7 : Int32)) := by decide
  refine own_of (fun t => XS.icmpYes X0.here hx rfl (pc0 := 66) (pc' := 73) rfl (hb hby d1_66) rfl (feq hb66_8).2 (by decide) (by decide)) ?_
  show own_go p e below s _ _ _ (s₁.setTop (mkF m 73 #[.val (.int (8 : Int32))] []))
  obtain ⟨T9, X9, e9, st9⟩ := getS2 X0 hx hZ hown (host := "") (Or.inl (hW 29 _ rfl)) Via.refl e0 (S_EXECUTION_FAILED.ext XO0.2) (g := (mkF m 73 #[.val (.int (8 : Int32))] [])) rfl (hb hby d1_73)
  refine own_of st9 ?_
  show own_go p e below s _ _ _ (T9.setTop (mkF m 76 #[.val (.int (8 : Int32))] [(.ref w)]))
  refine own_ret X9 hx hlk Bd.returns rfl (Or.inr (Or.inr (Or.inr (Or.inr ⟨rfl, rfl, rfl⟩)))) (hb hby d1_76) (by decide) (by decide) ?_
  rw [e9]
  exact ⟨rfl, N0, rfl⟩
theorem ef_rm3_8 (m : MethodId) (x0 : Int32) : entryFrame m #[(.int x0)] 1 = mkF m 0 #[.val (.int x0)] [] := by first | (simp [entryFrame, mkF, argsToLocals, Value.category]; done) | rfl
def Q_rm3_8 (Z : State)  (h0 : Heap) (n0 : Nat) (v : Option Value) (h : Heap) (L : List Loc) : Prop := v = some (.int 1) ∧ Fr n0 L ∧ h = h0
set_option maxRecDepth 65536 in
set_option maxHeartbeats 40000000 in
theorem rm3_8 (l : Launch) (Z : State) (a0 : Array Value) (hw : ∀ d ∈ tables_1, d.before a0 Z = true) (ws : List Jvm.Cond)  (h0 : Heap) (n0 : Nat) (XO0 : Old Z n0 h0) :
    MetFree l (⟨"com/example/bo3/bo3/core/EventTypeEndsRunPinLaw", "expected", "(I)Z"⟩ : MethodName) (head1 (Jvm.Cond.code (⟨"com/example/bo3/bo3/core/EventTypeEndsRunPinLaw", "expected", "(I)Z"⟩ : MethodName) method_3_code 1 (some .boolean) :: ws) ({ frames := 0, cells := 0, slots := 0, locals := 0 } : Room)) (fun zz_ U => zz_ = #[(.int (8 : Int32))] ∧ Z.Warmed39 U.vm ∧ U.heap = h0) (fun _ _ _ _ _ => True) (fun _ U o U' => ∃ v L, o = .returned v ∧ Q_rm3_8 Z  h0 n0 v U'.heap L ∧ FrameEnd U o U' L ({ frames := 0, cells := 0, slots := 0, locals := 0 } : Room).cells ({ frames := 0, cells := 0, slots := 0, locals := 0 } : Room).slots) := by
  refine MetFree.of_bodySF (plainFor_of_name pn_0) hisR ?_
  intro p e s m args below meth c s₁ Bd hml0 hP hK
  obtain ⟨rfl, hZ, hh⟩ := hP
  have hx := Bd.exec
  have hby := Bd.bytes
  have hlk := Bd.notSynchronized
  have hW : ∀ (i : Nat) (d : Jvm.Cond), tables_1[i]? = some d → d.before a0 Z = true := fun i d h => hw d (List.mem_of_getElem? h)
  have hml : c.maxLocals = 1 := hml0
  have hown : s.vm.findClass "com/example/bo3/bo3/core/EventTypeEndsRunPinLaw" = some m.cls := findClass_of_methodNamed Bd.named
  have hnm := (name_of_methodNamed Bd.named Bd.method).1
  have X0 : Stand p l e ({ frames := 0, cells := 0, slots := 0, locals := 0 } : Room) s m #[(.int (8 : Int32))] below meth c s₁ [] 0 0 := Stand.of_body Bd
  have e0 : s₁.heap = h0 := by rw [← hh, Bd.state]; rfl
  have N0 := Fr.nil n0
  refine own_in ?_
  refine own_of (fun t k => castTop (ef_rm3_8 m (8 : Int32)) k) ?_
  show own_go p e below s _ _ _ (s₁.setTop (mkF m 0 #[.val (.int (8 : Int32))] []))
  refine own_of (fun t => XS.iloadN X0.here hx rfl (hb hby d3_0) rfl) ?_
  show own_go p e below s _ _ _ (s₁.setTop (mkF m 1 #[.val (.int (8 : Int32))] [(.int (8 : Int32))]))
  have hb1_1 : ¬ ((8 : Int32) = (0 : Int32)) := by decide
  refine own_of (fun t => XS.ifYes X0.here hx rfl (pc0 := 1) (pc' := 6) rfl (hb hby d3_1) rfl ((if0 _ _).trans (feq hb1_1).2) (by decide) (by decide)) ?_
  show own_go p e below s _ _ _ (s₁.setTop (mkF m 6 #[.val (.int (8 : Int32))] []))
  refine own_of (fun t => XS.iloadN X0.here hx rfl (hb hby d3_6) rfl) ?_
  show own_go p e below s _ _ _ (s₁.setTop (mkF m 7 #[.val (.int (8 : Int32))] [(.int (8 : Int32))]))
  refine own_of (fun t => XS.iconst X0.here hx rfl (hb hby d3_7)) ?_
  show own_go p e below s _ _ _ (s₁.setTop (mkF m 8 #[.val (.int (8 : Int32))] [(.int (1 : Int32)), (.int (8 : Int32))]))
  have hb8_2 : ¬ ((8 : Int32) = (1 : Int32)) := by decide
  refine own_of (fun t => XS.icmpYes X0.here hx rfl (pc0 := 8) (pc' := 13) rfl (hb hby d3_8) rfl (feq hb8_2).2 (by decide) (by decide)) ?_
  show own_go p e below s _ _ _ (s₁.setTop (mkF m 13 #[.val (.int (8 : Int32))] []))
  refine own_of (fun t => XS.iloadN X0.here hx rfl (hb hby d3_13) rfl) ?_
  show own_go p e below s _ _ _ (s₁.setTop (mkF m 14 #[.val (.int (8 : Int32))] [(.int (8 : Int32))]))
  refine own_of (fun t => XS.iconst X0.here hx rfl (hb hby d3_14)) ?_
  show own_go p e below s _ _ _ (s₁.setTop (mkF m 15 #[.val (.int (8 : Int32))] [(.int (2 : Int32)), (.int (8 : Int32))]))
  have hb15_3 : ¬ ((8 : Int32) = (2 : Int32)) := by decide
  refine own_of (fun t => XS.icmpYes X0.here hx rfl (pc0 := 15) (pc' := 20) rfl (hb hby d3_15) rfl (feq hb15_3).2 (by decide) (by decide)) ?_
  show own_go p e below s _ _ _ (s₁.setTop (mkF m 20 #[.val (.int (8 : Int32))] []))
  refine own_of (fun t => XS.iloadN X0.here hx rfl (hb hby d3_20) rfl) ?_
  show own_go p e below s _ _ _ (s₁.setTop (mkF m 21 #[.val (.int (8 : Int32))] [(.int (8 : Int32))]))
  refine own_of (fun t => XS.iconst X0.here hx rfl (hb hby d3_21)) ?_
  show own_go p e below s _ _ _ (s₁.setTop (mkF m 22 #[.val (.int (8 : Int32))] [(.int (3 : Int32)), (.int (8 : Int32))]))
  have hb22_4 : ¬ ((8 : Int32) = (3 : Int32)) := by decide
  refine own_of (fun t => XS.icmpYes X0.here hx rfl (pc0 := 22) (pc' := 27) rfl (hb hby d3_22) rfl (feq hb22_4).2 (by decide) (by decide)) ?_
  show own_go p e below s _ _ _ (s₁.setTop (mkF m 27 #[.val (.int (8 : Int32))] []))
  refine own_of (fun t => XS.iloadN X0.here hx rfl (hb hby d3_27) rfl) ?_
  show own_go p e below s _ _ _ (s₁.setTop (mkF m 28 #[.val (.int (8 : Int32))] [(.int (8 : Int32))]))
  refine own_of (fun t => XS.iconst X0.here hx rfl (hb hby d3_28)) ?_
  show own_go p e below s _ _ _ (s₁.setTop (mkF m 29 #[.val (.int (8 : Int32))] [(.int (4 : Int32)), (.int (8 : Int32))]))
  have hb29_5 : ¬ ((8 : Int32) = (4 : Int32)) := by decide
  refine own_of (fun t => XS.icmpYes X0.here hx rfl (pc0 := 29) (pc' := 34) rfl (hb hby d3_29) rfl (feq hb29_5).2 (by decide) (by decide)) ?_
  show own_go p e below s _ _ _ (s₁.setTop (mkF m 34 #[.val (.int (8 : Int32))] []))
  refine own_of (fun t => XS.iloadN X0.here hx rfl (hb hby d3_34) rfl) ?_
  show own_go p e below s _ _ _ (s₁.setTop (mkF m 35 #[.val (.int (8 : Int32))] [(.int (8 : Int32))]))
  refine own_of (fun t => XS.iconst X0.here hx rfl (hb hby d3_35)) ?_
  show own_go p e below s _ _ _ (s₁.setTop (mkF m 36 #[.val (.int (8 : Int32))] [(.int (5 : Int32)), (.int (8 : Int32))]))
  have hb36_6 : ¬ ((8 : Int32) = (5 : Int32)) := by decide
  refine own_of (fun t => XS.icmpYes X0.here hx rfl (pc0 := 36) (pc' := 41) rfl (hb hby d3_36) rfl (feq hb36_6).2 (by decide) (by decide)) ?_
  show own_go p e below s _ _ _ (s₁.setTop (mkF m 41 #[.val (.int (8 : Int32))] []))
  refine own_of (fun t => XS.iloadN X0.here hx rfl (hb hby d3_41) rfl) ?_
  show own_go p e below s _ _ _ (s₁.setTop (mkF m 42 #[.val (.int (8 : Int32))] [(.int (8 : Int32))]))
  refine own_of (fun t => XS.bipush X0.here hx rfl (hb hby d3_42)) ?_
  show own_go p e below s _ _ _ (s₁.setTop (mkF m 44 #[.val (.int (8 : Int32))] [(.int (6 : Int32)), (.int (8 : Int32))]))
  have hb44_7 : ¬ ((8 : Int32) = (6 : Int32)) := by decide
  refine own_of (fun t => XS.icmpYes X0.here hx rfl (pc0 := 44) (pc' := 49) rfl (hb hby d3_44) rfl (feq hb44_7).2 (by decide) (by decide)) ?_
  show own_go p e below s _ _ _ (s₁.setTop (mkF m 49 #[.val (.int (8 : Int32))] []))
  refine own_of (fun t => XS.iconst X0.here hx rfl (hb hby d3_49)) ?_
  show own_go p e below s _ _ _ (s₁.setTop (mkF m 50 #[.val (.int (8 : Int32))] [(.int (1 : Int32))]))
  refine own_ret X0 hx hlk Bd.returns rfl (Or.inl ⟨rfl, by simp, _, rfl⟩) (hb hby d3_50) (by decide) (by decide) ?_
  rw [e0]
  exact ⟨rfl, N0, rfl⟩
theorem ef_rm2_7 (m : MethodId) (x0 : Addr) : entryFrame m #[(.ref x0)] 1 = mkF m 0 #[.val (.ref x0)] [] := by first | (simp [entryFrame, mkF, argsToLocals, Value.category]; done) | rfl
theorem pn_1 : plainName "com/example/bo3/bo3/core/EventType" = true := by first | (simp [plainName, overriddenIn]; done) | decide +kernel
theorem d2_0 : decode prog_19_method_5_code 0 = .ok (.aload_n 0, 1) := by decide +kernel
theorem d2_1 : decode prog_19_method_5_code 1 = .ok (.getstatic 25, 3) := by decide +kernel
theorem d2_4 : decode prog_19_method_5_code 4 = .ok (.if_acmp .eq 10, 3) := by decide +kernel
theorem d2_14 : decode prog_19_method_5_code 14 = .ok (.iconst 1, 1) := by decide +kernel
theorem d2_15 : decode prog_19_method_5_code 15 = .ok (.goto 4, 3) := by decide +kernel
theorem d2_19 : decode prog_19_method_5_code 19 = .ok (.ireturn, 1) := by decide +kernel
def Q_rm2_7 (Z : State) (w7 : Addr) (w8 : Addr) (h0 : Heap) (n0 : Nat) (v : Option Value) (h : Heap) (L : List Loc) : Prop := v = some (.int 1) ∧ Fr n0 L ∧ h = h0
set_option maxRecDepth 65536 in
set_option maxHeartbeats 40000000 in
theorem rm2_7 (l : Launch) (Z : State) (a0 : Array Value) (hw : ∀ d ∈ tables_1, d.before a0 Z = true) (ws : List Jvm.Cond) (w7 : Addr) (w8 : Addr) (h0 : Heap) (n0 : Nat) (S_EXECUTION_COMPLETED : Sta Z Z.heap "com/example/bo3/bo3/core/EventType" "EXECUTION_COMPLETED" "Lcom/example/bo3/bo3/core/EventType;" (.ref w7)) (S_EXECUTION_FAILED : Sta Z Z.heap "com/example/bo3/bo3/core/EventType" "EXECUTION_FAILED" "Lcom/example/bo3/bo3/core/EventType;" (.ref w8)) (XO0 : Old Z n0 h0) :
    MetFree l (⟨"com/example/bo3/bo3/core/EventType", "endsRun", "()Z"⟩ : MethodName) (head1 (Jvm.Cond.code (⟨"com/example/bo3/bo3/core/EventType", "endsRun", "()Z"⟩ : MethodName) prog_19_method_5_code 1 (some .boolean) :: ws) ({ frames := 0, cells := 0, slots := 0, locals := 0 } : Room)) (fun zz_ U => zz_ = #[(.ref w7)] ∧ Z.Warmed39 U.vm ∧ U.heap = h0) (fun _ _ _ _ _ => True) (fun _ U o U' => ∃ v L, o = .returned v ∧ Q_rm2_7 Z w7 w8 h0 n0 v U'.heap L ∧ FrameEnd U o U' L ({ frames := 0, cells := 0, slots := 0, locals := 0 } : Room).cells ({ frames := 0, cells := 0, slots := 0, locals := 0 } : Room).slots) := by
  refine MetFree.of_bodySF (plainFor_of_name pn_1) hisR ?_
  intro p e s m args below meth c s₁ Bd hml0 hP hK
  obtain ⟨rfl, hZ, hh⟩ := hP
  have hx := Bd.exec
  have hby := Bd.bytes
  have hlk := Bd.notSynchronized
  have hW : ∀ (i : Nat) (d : Jvm.Cond), tables_1[i]? = some d → d.before a0 Z = true := fun i d h => hw d (List.mem_of_getElem? h)
  have hml : c.maxLocals = 1 := hml0
  have hown : s.vm.findClass "com/example/bo3/bo3/core/EventType" = some m.cls := findClass_of_methodNamed Bd.named
  have hnm := (name_of_methodNamed Bd.named Bd.method).1
  have X0 : Stand p l e ({ frames := 0, cells := 0, slots := 0, locals := 0 } : Room) s m #[(.ref w7)] below meth c s₁ [] 0 0 := Stand.of_body Bd
  have e0 : s₁.heap = h0 := by rw [← hh, Bd.state]; rfl
  have N0 := Fr.nil n0
  refine own_in ?_
  refine own_of (fun t k => castTop (ef_rm2_7 m w7) k) ?_
  show own_go p e below s _ _ _ (s₁.setTop (mkF m 0 #[.val (.ref w7)] []))
  refine own_of (fun t => XS.aloadN X0.here hx rfl (hb hby d2_0) rfl rfl) ?_
  show own_go p e below s _ _ _ (s₁.setTop (mkF m 1 #[.val (.ref w7)] [(.ref w7)]))
  obtain ⟨T1, X1, e1, st1⟩ := getS2 X0 hx hZ hown (host := "") (Or.inl (hW 13 _ rfl)) Via.refl e0 (S_EXECUTION_COMPLETED.ext XO0.2) (g := (mkF m 1 #[.val (.ref w7)] [(.ref w7)])) rfl (hb hby d2_1)
  refine own_of st1 ?_
  show own_go p e below s _ _ _ (T1.setTop (mkF m 4 #[.val (.ref w7)] [(.ref w7), (.ref w7)]))
  refine own_of (fun t => Jvm.RoadKit.acmp (g := (mkF m 4 #[.val (.ref w7)] [(.ref w7), (.ref w7)])) X1 hx rfl rfl rfl (pc0 := 4) (pc' := 14) (same := true) rfl (hb hby d2_4) rfl (decide_eq_true rfl) (by decide) (by decide)) ?_
  show own_go p e below s _ _ _ (T1.setTop (mkF m 14 #[.val (.ref w7)] []))
  refine own_of (fun t => XS.iconst X1.here hx rfl (hb hby d2_14)) ?_
  show own_go p e below s _ _ _ (T1.setTop (mkF m 15 #[.val (.ref w7)] [(.int (1 : Int32))]))
  refine own_of (fun t => XS.goto X1.here hx rfl (pc0 := 15) (pc' := 19) rfl (hb hby d2_15) (by decide) (by decide)) ?_
  show own_go p e below s _ _ _ (T1.setTop (mkF m 19 #[.val (.ref w7)] [(.int (1 : Int32))]))
  refine own_ret X1 hx hlk Bd.returns rfl (Or.inl ⟨rfl, by simp, _, rfl⟩) (hb hby d2_19) (by decide) (by decide) ?_
  rw [e1]
  exact ⟨rfl, N0, rfl⟩
theorem ef_rm2_8 (m : MethodId) (x0 : Addr) : entryFrame m #[(.ref x0)] 1 = mkF m 0 #[.val (.ref x0)] [] := by first | (simp [entryFrame, mkF, argsToLocals, Value.category]; done) | rfl
theorem d2_7 : decode prog_19_method_5_code 7 = .ok (.aload_n 0, 1) := by decide +kernel
theorem d2_8 : decode prog_19_method_5_code 8 = .ok (.getstatic 28, 3) := by decide +kernel
theorem d2_11 : decode prog_19_method_5_code 11 = .ok (.if_acmp .ne 7, 3) := by decide +kernel
def Q_rm2_8 (Z : State) (w7 : Addr) (w8 : Addr) (h0 : Heap) (n0 : Nat) (v : Option Value) (h : Heap) (L : List Loc) : Prop := v = some (.int 1) ∧ Fr n0 L ∧ h = h0
set_option maxRecDepth 65536 in
set_option maxHeartbeats 40000000 in
theorem rm2_8 (l : Launch) (Z : State) (a0 : Array Value) (hw : ∀ d ∈ tables_1, d.before a0 Z = true) (ws : List Jvm.Cond) (w7 : Addr) (w8 : Addr) (h0 : Heap) (n0 : Nat) (S_EXECUTION_COMPLETED : Sta Z Z.heap "com/example/bo3/bo3/core/EventType" "EXECUTION_COMPLETED" "Lcom/example/bo3/bo3/core/EventType;" (.ref w7)) (S_EXECUTION_FAILED : Sta Z Z.heap "com/example/bo3/bo3/core/EventType" "EXECUTION_FAILED" "Lcom/example/bo3/bo3/core/EventType;" (.ref w8)) (XO0 : Old Z n0 h0) (h7 : ¬ (w8 = w7)) :
    MetFree l (⟨"com/example/bo3/bo3/core/EventType", "endsRun", "()Z"⟩ : MethodName) (head1 (Jvm.Cond.code (⟨"com/example/bo3/bo3/core/EventType", "endsRun", "()Z"⟩ : MethodName) prog_19_method_5_code 1 (some .boolean) :: ws) ({ frames := 0, cells := 0, slots := 0, locals := 0 } : Room)) (fun zz_ U => zz_ = #[(.ref w8)] ∧ Z.Warmed39 U.vm ∧ U.heap = h0) (fun _ _ _ _ _ => True) (fun _ U o U' => ∃ v L, o = .returned v ∧ Q_rm2_8 Z w7 w8 h0 n0 v U'.heap L ∧ FrameEnd U o U' L ({ frames := 0, cells := 0, slots := 0, locals := 0 } : Room).cells ({ frames := 0, cells := 0, slots := 0, locals := 0 } : Room).slots) := by
  refine MetFree.of_bodySF (plainFor_of_name pn_1) hisR ?_
  intro p e s m args below meth c s₁ Bd hml0 hP hK
  obtain ⟨rfl, hZ, hh⟩ := hP
  have hx := Bd.exec
  have hby := Bd.bytes
  have hlk := Bd.notSynchronized
  have hW : ∀ (i : Nat) (d : Jvm.Cond), tables_1[i]? = some d → d.before a0 Z = true := fun i d h => hw d (List.mem_of_getElem? h)
  have hml : c.maxLocals = 1 := hml0
  have hown : s.vm.findClass "com/example/bo3/bo3/core/EventType" = some m.cls := findClass_of_methodNamed Bd.named
  have hnm := (name_of_methodNamed Bd.named Bd.method).1
  have X0 : Stand p l e ({ frames := 0, cells := 0, slots := 0, locals := 0 } : Room) s m #[(.ref w8)] below meth c s₁ [] 0 0 := Stand.of_body Bd
  have e0 : s₁.heap = h0 := by rw [← hh, Bd.state]; rfl
  have N0 := Fr.nil n0
  refine own_in ?_
  refine own_of (fun t k => castTop (ef_rm2_8 m w8) k) ?_
  show own_go p e below s _ _ _ (s₁.setTop (mkF m 0 #[.val (.ref w8)] []))
  refine own_of (fun t => XS.aloadN X0.here hx rfl (hb hby d2_0) rfl rfl) ?_
  show own_go p e below s _ _ _ (s₁.setTop (mkF m 1 #[.val (.ref w8)] [(.ref w8)]))
  obtain ⟨T1, X1, e1, st1⟩ := getS2 X0 hx hZ hown (host := "") (Or.inl (hW 13 _ rfl)) Via.refl e0 (S_EXECUTION_COMPLETED.ext XO0.2) (g := (mkF m 1 #[.val (.ref w8)] [(.ref w8)])) rfl (hb hby d2_1)
  refine own_of st1 ?_
  show own_go p e below s _ _ _ (T1.setTop (mkF m 4 #[.val (.ref w8)] [(.ref w7), (.ref w8)]))
  have hb4_2 : ¬ (w8 = w7) := h7
  refine own_of (fun t => Jvm.RoadKit.acmp (g := (mkF m 4 #[.val (.ref w8)] [(.ref w7), (.ref w8)])) X1 hx rfl rfl rfl (pc0 := 4) (pc' := 7) (same := false) rfl (hb hby d2_4) rfl (decide_eq_false fun q => hb4_2 (Value.ref.inj q)) (by decide) (by decide)) ?_
  show own_go p e below s _ _ _ (T1.setTop (mkF m 7 #[.val (.ref w8)] []))
  refine own_of (fun t => XS.aloadN X1.here hx rfl (hb hby d2_7) rfl rfl) ?_
  show own_go p e below s _ _ _ (T1.setTop (mkF m 8 #[.val (.ref w8)] [(.ref w8)]))
  obtain ⟨T3, X3, e3, st3⟩ := getS2 X1 hx hZ hown (host := "") (Or.inl (hW 15 _ rfl)) Via.refl e1 (S_EXECUTION_FAILED.ext XO0.2) (g := (mkF m 8 #[.val (.ref w8)] [(.ref w8)])) rfl (hb hby d2_8)
  refine own_of st3 ?_
  show own_go p e below s _ _ _ (T3.setTop (mkF m 11 #[.val (.ref w8)] [(.ref w8), (.ref w8)]))
  refine own_of (fun t => Jvm.RoadKit.acmp (g := (mkF m 11 #[.val (.ref w8)] [(.ref w8), (.ref w8)])) X3 hx rfl rfl rfl (pc0 := 11) (pc' := 14) (same := true) rfl (hb hby d2_11) rfl (decide_eq_true rfl) (by decide) (by decide)) ?_
  show own_go p e below s _ _ _ (T3.setTop (mkF m 14 #[.val (.ref w8)] []))
  refine own_of (fun t => XS.iconst X3.here hx rfl (hb hby d2_14)) ?_
  show own_go p e below s _ _ _ (T3.setTop (mkF m 15 #[.val (.ref w8)] [(.int (1 : Int32))]))
  refine own_of (fun t => XS.goto X3.here hx rfl (pc0 := 15) (pc' := 19) rfl (hb hby d2_15) (by decide) (by decide)) ?_
  show own_go p e below s _ _ _ (T3.setTop (mkF m 19 #[.val (.ref w8)] [(.int (1 : Int32))]))
  refine own_ret X3 hx hlk Bd.returns rfl (Or.inl ⟨rfl, by simp, _, rfl⟩) (hb hby d2_19) (by decide) (by decide) ?_
  rw [e3]
  exact ⟨rfl, N0, rfl⟩
theorem ef_rm2_d (m : MethodId) (x0 : Addr) : entryFrame m #[(.ref x0)] 1 = mkF m 0 #[.val (.ref x0)] [] := by first | (simp [entryFrame, mkF, argsToLocals, Value.category]; done) | rfl
theorem d2_18 : decode prog_19_method_5_code 18 = .ok (.iconst 0, 1) := by decide +kernel
def Q_rm2_d (Z : State) (a : Addr) (w7 : Addr) (w8 : Addr) (h0 : Heap) (n0 : Nat) (v : Option Value) (h : Heap) (L : List Loc) : Prop := v = some (.int 0) ∧ Fr n0 L ∧ h = h0
set_option maxRecDepth 65536 in
set_option maxHeartbeats 40000000 in
theorem rm2_d (l : Launch) (Z : State) (a0 : Array Value) (hw : ∀ d ∈ tables_1, d.before a0 Z = true) (ws : List Jvm.Cond) (a : Addr) (w7 : Addr) (w8 : Addr) (h0 : Heap) (n0 : Nat) (S_EXECUTION_COMPLETED : Sta Z Z.heap "com/example/bo3/bo3/core/EventType" "EXECUTION_COMPLETED" "Lcom/example/bo3/bo3/core/EventType;" (.ref w7)) (S_EXECUTION_FAILED : Sta Z Z.heap "com/example/bo3/bo3/core/EventType" "EXECUTION_FAILED" "Lcom/example/bo3/bo3/core/EventType;" (.ref w8)) (XO0 : Old Z n0 h0) (h7 : ¬ (a = w7)) (h8 : ¬ (a = w8)) :
    MetFree l (⟨"com/example/bo3/bo3/core/EventType", "endsRun", "()Z"⟩ : MethodName) (head1 (Jvm.Cond.code (⟨"com/example/bo3/bo3/core/EventType", "endsRun", "()Z"⟩ : MethodName) prog_19_method_5_code 1 (some .boolean) :: ws) ({ frames := 0, cells := 0, slots := 0, locals := 0 } : Room)) (fun zz_ U => zz_ = #[(.ref a)] ∧ Z.Warmed39 U.vm ∧ U.heap = h0) (fun _ _ _ _ _ => True) (fun _ U o U' => ∃ v L, o = .returned v ∧ Q_rm2_d Z a w7 w8 h0 n0 v U'.heap L ∧ FrameEnd U o U' L ({ frames := 0, cells := 0, slots := 0, locals := 0 } : Room).cells ({ frames := 0, cells := 0, slots := 0, locals := 0 } : Room).slots) := by
  refine MetFree.of_bodySF (plainFor_of_name pn_1) hisR ?_
  intro p e s m args below meth c s₁ Bd hml0 hP hK
  obtain ⟨rfl, hZ, hh⟩ := hP
  have hx := Bd.exec
  have hby := Bd.bytes
  have hlk := Bd.notSynchronized
  have hW : ∀ (i : Nat) (d : Jvm.Cond), tables_1[i]? = some d → d.before a0 Z = true := fun i d h => hw d (List.mem_of_getElem? h)
  have hml : c.maxLocals = 1 := hml0
  have hown : s.vm.findClass "com/example/bo3/bo3/core/EventType" = some m.cls := findClass_of_methodNamed Bd.named
  have hnm := (name_of_methodNamed Bd.named Bd.method).1
  have X0 : Stand p l e ({ frames := 0, cells := 0, slots := 0, locals := 0 } : Room) s m #[(.ref a)] below meth c s₁ [] 0 0 := Stand.of_body Bd
  have e0 : s₁.heap = h0 := by rw [← hh, Bd.state]; rfl
  have N0 := Fr.nil n0
  refine own_in ?_
  refine own_of (fun t k => castTop (ef_rm2_d m a) k) ?_
  show own_go p e below s _ _ _ (s₁.setTop (mkF m 0 #[.val (.ref a)] []))
  refine own_of (fun t => XS.aloadN X0.here hx rfl (hb hby d2_0) rfl rfl) ?_
  show own_go p e below s _ _ _ (s₁.setTop (mkF m 1 #[.val (.ref a)] [(.ref a)]))
  obtain ⟨T1, X1, e1, st1⟩ := getS2 X0 hx hZ hown (host := "") (Or.inl (hW 13 _ rfl)) Via.refl e0 (S_EXECUTION_COMPLETED.ext XO0.2) (g := (mkF m 1 #[.val (.ref a)] [(.ref a)])) rfl (hb hby d2_1)
  refine own_of st1 ?_
  show own_go p e below s _ _ _ (T1.setTop (mkF m 4 #[.val (.ref a)] [(.ref w7), (.ref a)]))
  have hb4_2 : ¬ (a = w7) := h7
  refine own_of (fun t => Jvm.RoadKit.acmp (g := (mkF m 4 #[.val (.ref a)] [(.ref w7), (.ref a)])) X1 hx rfl rfl rfl (pc0 := 4) (pc' := 7) (same := false) rfl (hb hby d2_4) rfl (decide_eq_false fun q => hb4_2 (Value.ref.inj q)) (by decide) (by decide)) ?_
  show own_go p e below s _ _ _ (T1.setTop (mkF m 7 #[.val (.ref a)] []))
  refine own_of (fun t => XS.aloadN X1.here hx rfl (hb hby d2_7) rfl rfl) ?_
  show own_go p e below s _ _ _ (T1.setTop (mkF m 8 #[.val (.ref a)] [(.ref a)]))
  obtain ⟨T3, X3, e3, st3⟩ := getS2 X1 hx hZ hown (host := "") (Or.inl (hW 15 _ rfl)) Via.refl e1 (S_EXECUTION_FAILED.ext XO0.2) (g := (mkF m 8 #[.val (.ref a)] [(.ref a)])) rfl (hb hby d2_8)
  refine own_of st3 ?_
  show own_go p e below s _ _ _ (T3.setTop (mkF m 11 #[.val (.ref a)] [(.ref w8), (.ref a)]))
  have hb11_4 : ¬ (a = w8) := h8
  refine own_of (fun t => Jvm.RoadKit.acmp (g := (mkF m 11 #[.val (.ref a)] [(.ref w8), (.ref a)])) X3 hx rfl rfl rfl (pc0 := 11) (pc' := 18) (same := false) rfl (hb hby d2_11) rfl (decide_eq_false fun q => hb11_4 (Value.ref.inj q)) (by decide) (by decide)) ?_
  show own_go p e below s _ _ _ (T3.setTop (mkF m 18 #[.val (.ref a)] []))
  refine own_of (fun t => XS.iconst X3.here hx rfl (hb hby d2_18)) ?_
  show own_go p e below s _ _ _ (T3.setTop (mkF m 19 #[.val (.ref a)] [(.int (0 : Int32))]))
  refine own_ret X3 hx hlk Bd.returns rfl (Or.inl ⟨rfl, by simp, _, rfl⟩) (hb hby d2_19) (by decide) (by decide) ?_
  rw [e3]
  exact ⟨rfl, N0, rfl⟩
theorem own_mod9 (x : Int32) : (x &&& 2147483647) % 9 = 0 ∨ (x &&& 2147483647) % 9 = 1 ∨ (x &&& 2147483647) % 9 = 2 ∨ (x &&& 2147483647) % 9 = 3 ∨ (x &&& 2147483647) % 9 = 4 ∨ (x &&& 2147483647) % 9 = 5 ∨ (x &&& 2147483647) % 9 = 6 ∨ (x &&& 2147483647) % 9 = 7 ∨ (x &&& 2147483647) % 9 = 8 := by
  have e1 : (x &&& 2147483647).toInt = x.toInt % 2 ^ 31 := Jvm.Kit.i32_mask x 2147483647 (k := 31) (by decide) (by decide)
  have e2 : ((x &&& 2147483647) % 9).toInt = (x &&& 2147483647).toInt.tmod 9 := Int32.toInt_mod _ _
  rw [e1] at e2
  have e3 : (x.toInt % 2 ^ 31).tmod 9 = (x.toInt % 2 ^ 31) % 9 := Int.tmod_eq_emod_of_nonneg (by omega)
  rw [e3] at e2
  simp only [← Int32.toInt_inj, show (0 : Int32).toInt = 0 from rfl, show (1 : Int32).toInt = 1 from rfl, show (2 : Int32).toInt = 2 from rfl, show (3 : Int32).toInt = 3 from rfl, show (4 : Int32).toInt = 4 from rfl, show (5 : Int32).toInt = 5 from rfl, show (6 : Int32).toInt = 6 from rfl, show (7 : Int32).toInt = 7 from rfl, show (8 : Int32).toInt = 8 from rfl]
  omega
theorem ef_rm0 (m : MethodId) (x0 : Int32) : entryFrame m #[(.int x0)] maxLocals = mkF m 0 #[.val (.int x0), .unset, .unset] [] := by first | (simp [entryFrame, mkF, argsToLocals, Value.category, maxLocals]; done) | rfl
theorem pd_0 : parseMethodDescriptor "(I)Lcom/example/bo3/bo3/core/EventType;" = some ⟨[.int], some (.object "com/example/bo3/bo3/core/EventType")⟩ := by decide +kernel
theorem pd_1 : parseMethodDescriptor "()Z" = some ⟨[], some .boolean⟩ := by decide +kernel
theorem pd_2 : parseMethodDescriptor "(I)Z" = some ⟨[.int], some .boolean⟩ := by decide +kernel
def Q_rm0 (Z : State) (p1 : Int32) (w0 : Addr) (w1 : Addr) (w2 : Addr) (w3 : Addr) (w4 : Addr) (w5 : Addr) (w6 : Addr) (w7 : Addr) (w8 : Addr) (h0 : Heap) (n0 : Nat) (v : Option Value) (h : Heap) (L : List Loc) : Prop := v = some (.int 1) ∧ Fr n0 L
set_option maxRecDepth 65536 in
set_option maxHeartbeats 40000000 in
theorem rm0 (l : Launch) (Z : State) (a0 : Array Value) (hw : ∀ d ∈ tables_1, d.before a0 Z = true) (ws : List Jvm.Cond) (p1 : Int32) (w0 : Addr) (w1 : Addr) (w2 : Addr) (w3 : Addr) (w4 : Addr) (w5 : Addr) (w6 : Addr) (w7 : Addr) (w8 : Addr) (h0 : Heap) (n0 : Nat) (XO0 : Old Z n0 h0) (S_ACTION_STARTED : Sta Z Z.heap "com/example/bo3/bo3/core/EventType" "ACTION_STARTED" "Lcom/example/bo3/bo3/core/EventType;" (.ref w0)) (S_ACTION_COMPLETED : Sta Z Z.heap "com/example/bo3/bo3/core/EventType" "ACTION_COMPLETED" "Lcom/example/bo3/bo3/core/EventType;" (.ref w1)) (S_ACTION_ERROR : Sta Z Z.heap "com/example/bo3/bo3/core/EventType" "ACTION_ERROR" "Lcom/example/bo3/bo3/core/EventType;" (.ref w2)) (S_STEP_RETRY : Sta Z Z.heap "com/example/bo3/bo3/core/EventType" "STEP_RETRY" "Lcom/example/bo3/bo3/core/EventType;" (.ref w3)) (S_STEP_RETRY_EXHAUSTED : Sta Z Z.heap "com/example/bo3/bo3/core/EventType" "STEP_RETRY_EXHAUSTED" "Lcom/example/bo3/bo3/core/EventType;" (.ref w4)) (S_STEP_COMPLETED : Sta Z Z.heap "com/example/bo3/bo3/core/EventType" "STEP_COMPLETED" "Lcom/example/bo3/bo3/core/EventType;" (.ref w5)) (S_STEP_FAILED_TERMINAL : Sta Z Z.heap "com/example/bo3/bo3/core/EventType" "STEP_FAILED_TERMINAL" "Lcom/example/bo3/bo3/core/EventType;" (.ref w6)) (S_EXECUTION_COMPLETED : Sta Z Z.heap "com/example/bo3/bo3/core/EventType" "EXECUTION_COMPLETED" "Lcom/example/bo3/bo3/core/EventType;" (.ref w7)) (S_EXECUTION_FAILED : Sta Z Z.heap "com/example/bo3/bo3/core/EventType" "EXECUTION_FAILED" "Lcom/example/bo3/bo3/core/EventType;" (.ref w8)) (E0_0 : Exa Z Z.heap w0 "com/example/bo3/bo3/core/EventType") (E0_1 : Exa Z Z.heap w1 "com/example/bo3/bo3/core/EventType") (E0_2 : Exa Z Z.heap w2 "com/example/bo3/bo3/core/EventType") (E0_3 : Exa Z Z.heap w3 "com/example/bo3/bo3/core/EventType") (E0_4 : Exa Z Z.heap w4 "com/example/bo3/bo3/core/EventType") (E0_5 : Exa Z Z.heap w5 "com/example/bo3/bo3/core/EventType") (E0_6 : Exa Z Z.heap w6 "com/example/bo3/bo3/core/EventType") (E0_7 : Exa Z Z.heap w7 "com/example/bo3/bo3/core/EventType") (E0_8 : Exa Z Z.heap w8 "com/example/bo3/bo3/core/EventType") (ne07 : ¬ (w0 = w7)) (ne17 : ¬ (w1 = w7)) (ne27 : ¬ (w2 = w7)) (ne37 : ¬ (w3 = w7)) (ne47 : ¬ (w4 = w7)) (ne57 : ¬ (w5 = w7)) (ne67 : ¬ (w6 = w7)) (ne08 : ¬ (w0 = w8)) (ne18 : ¬ (w1 = w8)) (ne28 : ¬ (w2 = w8)) (ne38 : ¬ (w3 = w8)) (ne48 : ¬ (w4 = w8)) (ne58 : ¬ (w5 = w8)) (ne68 : ¬ (w6 = w8)) (ne78 : ¬ (w7 = w8)) :
    MetFree l x (head1 (Jvm.Cond.code x code maxLocals ret :: ws) room_1) (fun zz_ U => zz_ = #[(.int p1)] ∧ Z.Warmed39 U.vm ∧ U.heap = h0) (fun _ _ _ _ _ => True) (fun _ U o U' => ∃ v L, o = .returned v ∧ Q_rm0 Z p1 w0 w1 w2 w3 w4 w5 w6 w7 w8 h0 n0 v U'.heap L ∧ FrameEnd U o U' L room_1.cells room_1.slots) := by
  refine MetFree.of_bodySF (plainFor_of_name pn_0) hisR ?_
  intro p e s m args below meth c s₁ Bd hml0 hP hK
  obtain ⟨rfl, hZ, hh⟩ := hP
  have hx := Bd.exec
  have hby := Bd.bytes
  have hlk := Bd.notSynchronized
  have hW : ∀ (i : Nat) (d : Jvm.Cond), tables_1[i]? = some d → d.before a0 Z = true := fun i d h => hw d (List.mem_of_getElem? h)
  have hml : c.maxLocals = 3 := hml0
  have hown : s.vm.findClass "com/example/bo3/bo3/core/EventTypeEndsRunPinLaw" = some m.cls := findClass_of_methodNamed Bd.named
  have hnm := (name_of_methodNamed Bd.named Bd.method).1
  have X0 : Stand p l e room_1 s m #[(.int p1)] below meth c s₁ [] 0 0 := Stand.of_body Bd
  have e0 : s₁.heap = h0 := by rw [← hh, Bd.state]; rfl
  have N0 := Fr.nil n0
  refine own_in ?_
  refine own_of (fun t k => castTop (ef_rm0 m p1) k) ?_
  show own_go p e below s _ _ _ (s₁.setTop (mkF m 0 #[.val (.int p1), .unset, .unset] []))
  refine own_of (fun t => XS.iloadN X0.here hx rfl (hb hby at_0) rfl) ?_
  show own_go p e below s _ _ _ (s₁.setTop (mkF m 1 #[.val (.int p1), .unset, .unset] [(.int p1)]))
  refine own_of (fun t => X0.ldcI hx hown (mvT hZ (hW 0 _ rfl)) rfl (hb hby at_1)) ?_
  show own_go p e below s _ _ _ (s₁.setTop (mkF m 3 #[.val (.int p1), .unset, .unset] [(.int (2147483647 : Int32)), (.int p1)]))
  refine own_of (fun t => XS.iand X0.here hx rfl (hb hby at_3) rfl) ?_
  show own_go p e below s _ _ _ (s₁.setTop (mkF m 4 #[.val (.int p1), .unset, .unset] [(.int (p1 &&& (2147483647 : Int32)))]))
  refine own_of (fun t => XS.bipush X0.here hx rfl (hb hby at_4)) ?_
  show own_go p e below s _ _ _ (s₁.setTop (mkF m 6 #[.val (.int p1), .unset, .unset] [(.int (9 : Int32)), (.int (p1 &&& (2147483647 : Int32)))]))
  refine own_of (fun t => iremM X0 hx rfl (hb hby at_6) rfl (by decide)) ?_
  show own_go p e below s _ _ _ (s₁.setTop (mkF m 7 #[.val (.int p1), .unset, .unset] [(.int ((p1 &&& (2147483647 : Int32)) % (9 : Int32)))]))
  rcases own_mod9 p1 with hi | hi | hi | hi | hi | hi | hi | hi | hi
  · rw [hi]
    show own_go p e below s _ _ _ (s₁.setTop (mkF m 7 #[.val (.int p1), .unset, .unset] [(.int (0 : Int32))]))
    refine own_of (fun t => XS.istoreN X0.here hx rfl (hb hby at_7) rfl (l' := #[.val (.int p1), .val (.int (0 : Int32)), .unset]) rfl) ?_
    show own_go p e below s _ _ _ (s₁.setTop (mkF m 8 #[.val (.int p1), .val (.int (0 : Int32)), .unset] []))
    refine own_of (fun t => XS.iloadN X0.here hx rfl (hb hby at_8) rfl) ?_
    show own_go p e below s _ _ _ (s₁.setTop (mkF m 9 #[.val (.int p1), .val (.int (0 : Int32)), .unset] [(.int (0 : Int32))]))
    obtain ⟨_, _, ⟨T1, L1, k1, n1⟩, -, X1, ⟨Lc1, hQ1, l1, y1, z1⟩, st1⟩ := Jvm.LawKit.callS X0 hx (y := (⟨"com/example/bo3/bo3/core/EventTypeEndsRunPinLaw", "pick", "(I)Lcom/example/bo3/bo3/core/EventType;"⟩ : MethodName)) hown (mvT hZ (hW 1 _ rfl)) (mvT hZ (hW 2 _ rfl)) (mvT hZ (hW 3 _ rfl)) (mvT hZ (hW 4 _ rfl)) (by decide) (backOf (W := 0) (rm1_0 l Z a0 hw [] w0 h0 n0 S_ACTION_STARTED XO0) hZ (hW 4 _ rfl) (hW 3 _ rfl) (by decide) (by decide)) (g := (mkF m 9 #[.val (.int p1), .val (.int (0 : Int32)), .unset] [(.int (0 : Int32))])) rfl (by rw [hml]; rfl) (argsL := [(.int (0 : Int32))]) (rest := []) (lenOf pd_0 rfl) rfl (by show 2 * 0 + _ ≤ _; exact Nat.le_of_eq rfl) (hb hby at_9) (fun _ _ => ⟨rfl, e0, (by decide : 0 + 0 ≤ _), (by decide : 0 + 0 ≤ _)⟩)
    dsimp only [Pt.U, Pt.locs, Pt.cells, Pt.slots] at X1 l1 y1 z1 st1 hQ1
    subst l1 y1 z1
    obtain ⟨rfl, Nq1, eh1⟩ := hQ1
    have N1 := Fr.app N0 Nq1
    refine own_of st1 ?_
    show own_go p e below s _ _ _ (T1.setTop (mkF m 12 #[.val (.int p1), .val (.int (0 : Int32)), .unset] [(.ref w0)]))
    refine own_of (fun t => XS.astoreN X1.here hx rfl (hb hby at_12) rfl rfl (l' := #[.val (.int p1), .val (.int (0 : Int32)), .val (.ref w0)]) rfl) ?_
    show own_go p e below s _ _ _ (T1.setTop (mkF m 13 #[.val (.int p1), .val (.int (0 : Int32)), .val (.ref w0)] []))
    refine own_of (fun t => XS.aloadN X1.here hx rfl (hb hby at_13) rfl rfl) ?_
    show own_go p e below s _ _ _ (T1.setTop (mkF m 14 #[.val (.int p1), .val (.int (0 : Int32)), .val (.ref w0)] [(.ref w0)]))
    have E_0 := E0_0.ext XO0.2
    obtain ⟨cq2, kq2, q2a, q2b, q2c⟩ := isOf hZ eh1 E_0
    obtain ⟨_, _, ⟨T2, L2, k2, n2⟩, -, X2, ⟨Lc2, hQ2, l2, y2, z2⟩, st2⟩ := X1.virtualBack hx (y := (⟨"com/example/bo3/bo3/core/EventType", "endsRun", "()Z"⟩ : MethodName)) (z := (⟨"com/example/bo3/bo3/core/EventType", "endsRun", "()Z"⟩ : MethodName)) hown (mvT hZ (hW 8 _ rfl)) (mvT hZ (hW 9 _ rfl)) (notFace_of_selects (args := #[]) (mvT hZ (hW 11 _ rfl))) (mvT hZ (hW 11 _ rfl)) (mvT hZ (hW 10 _ rfl)) (by decide) (backOf (W := 0) (rm2_d l Z a0 hw [] w0 w7 w8 h0 n0 S_EXECUTION_COMPLETED S_EXECUTION_FAILED XO0 ne07 ne08) hZ (hW 12 _ rfl) (hW 6 _ rfl) (by decide) (by decide)) q2a q2c (g := (mkF m 14 #[.val (.int p1), .val (.int (0 : Int32)), .val (.ref w0)] [(.ref w0)])) rfl (by rw [hml]; rfl) (Steps.refl _) (argsL := []) (rest := []) (lenOf pd_1 rfl) rfl (by show 2 * 0 + _ ≤ _; exact Nat.le_of_eq rfl) (hb hby at_14) (fun _ _ => ⟨rfl, eh1, (by decide : 0 + 0 ≤ _), (by decide : 0 + 0 ≤ _)⟩)
    dsimp only [Pt.U, Pt.locs, Pt.cells, Pt.slots] at X2 l2 y2 z2 st2 hQ2
    subst l2 y2 z2
    obtain ⟨rfl, Nq2, eh2⟩ := hQ2
    have N2 := Fr.app N1 Nq2
    refine own_of (fun t k => st2.trans k) ?_
    show own_go p e below s _ _ _ (T2.setTop (mkF m 17 #[.val (.int p1), .val (.int (0 : Int32)), .val (.ref w0)] [(.int (0 : Int32))]))
    refine own_of (fun t => XS.iloadN X2.here hx rfl (hb hby at_17) rfl) ?_
    show own_go p e below s _ _ _ (T2.setTop (mkF m 18 #[.val (.int p1), .val (.int (0 : Int32)), .val (.ref w0)] [(.int (0 : Int32)), (.int (0 : Int32))]))
    obtain ⟨_, _, ⟨T3, L3, k3, n3⟩, -, X3, ⟨Lc3, hQ3, l3, y3, z3⟩, st3⟩ := Jvm.LawKit.callS X2 hx (y := (⟨"com/example/bo3/bo3/core/EventTypeEndsRunPinLaw", "expected", "(I)Z"⟩ : MethodName)) hown (mvT hZ (hW 17 _ rfl)) (mvT hZ (hW 18 _ rfl)) (mvT hZ (hW 3 _ rfl)) (mvT hZ (hW 19 _ rfl)) (by decide) (backOf (W := 1) (rm3_0 l Z a0 hw [] h0 n0 XO0) hZ (hW 19 _ rfl) (hW 3 _ rfl) (by decide) (by decide)) (g := (mkF m 18 #[.val (.int p1), .val (.int (0 : Int32)), .val (.ref w0)] [(.int (0 : Int32)), (.int (0 : Int32))])) rfl (by rw [hml]; rfl) (argsL := [(.int (0 : Int32))]) (rest := [(.int (0 : Int32))]) (lenOf pd_2 rfl) rfl (by show 2 * 0 + _ ≤ _; exact Nat.le_of_eq rfl) (hb hby at_18) (fun _ _ => ⟨rfl, eh2, (by decide : 0 + 0 ≤ _), (by decide : 0 + 0 ≤ _)⟩)
    dsimp only [Pt.U, Pt.locs, Pt.cells, Pt.slots] at X3 l3 y3 z3 st3 hQ3
    subst l3 y3 z3
    obtain ⟨rfl, Nq3, eh3⟩ := hQ3
    have N3 := Fr.app N2 Nq3
    refine own_of st3 ?_
    show own_go p e below s _ _ _ (T3.setTop (mkF m 21 #[.val (.int p1), .val (.int (0 : Int32)), .val (.ref w0)] [(.int (0 : Int32)), (.int (0 : Int32))]))
    have hb21_4 : (0 : Int32) = (0 : Int32) := by decide
    refine own_of (fun t => XS.icmpNo X3.here hx rfl (hb hby at_21) rfl (teq hb21_4).2) ?_
    show own_go p e below s _ _ _ (T3.setTop (mkF m 24 #[.val (.int p1), .val (.int (0 : Int32)), .val (.ref w0)] []))
    refine own_of (fun t => XS.iconst X3.here hx rfl (hb hby at_24)) ?_
    show own_go p e below s _ _ _ (T3.setTop (mkF m 25 #[.val (.int p1), .val (.int (0 : Int32)), .val (.ref w0)] [(.int (1 : Int32))]))
    refine own_of (fun t => XS.goto X3.here hx rfl (pc0 := 25) (pc' := 29) rfl (hb hby at_25) (by decide) (by decide)) ?_
    show own_go p e below s _ _ _ (T3.setTop (mkF m 29 #[.val (.int p1), .val (.int (0 : Int32)), .val (.ref w0)] [(.int (1 : Int32))]))
    refine own_ret X3 hx hlk Bd.returns rfl (Or.inl ⟨rfl, by simp, _, rfl⟩) (hb hby at_29) (by decide) (by decide) ?_
    rw [eh3]
    exact ⟨rfl, N3⟩
  · rw [hi]
    show own_go p e below s _ _ _ (s₁.setTop (mkF m 7 #[.val (.int p1), .unset, .unset] [(.int (1 : Int32))]))
    refine own_of (fun t => XS.istoreN X0.here hx rfl (hb hby at_7) rfl (l' := #[.val (.int p1), .val (.int (1 : Int32)), .unset]) rfl) ?_
    show own_go p e below s _ _ _ (s₁.setTop (mkF m 8 #[.val (.int p1), .val (.int (1 : Int32)), .unset] []))
    refine own_of (fun t => XS.iloadN X0.here hx rfl (hb hby at_8) rfl) ?_
    show own_go p e below s _ _ _ (s₁.setTop (mkF m 9 #[.val (.int p1), .val (.int (1 : Int32)), .unset] [(.int (1 : Int32))]))
    obtain ⟨_, _, ⟨T5, L5, k5, n5⟩, -, X5, ⟨Lc5, hQ5, l5, y5, z5⟩, st5⟩ := Jvm.LawKit.callS X0 hx (y := (⟨"com/example/bo3/bo3/core/EventTypeEndsRunPinLaw", "pick", "(I)Lcom/example/bo3/bo3/core/EventType;"⟩ : MethodName)) hown (mvT hZ (hW 1 _ rfl)) (mvT hZ (hW 2 _ rfl)) (mvT hZ (hW 3 _ rfl)) (mvT hZ (hW 4 _ rfl)) (by decide) (backOf (W := 0) (rm1_1 l Z a0 hw [] w1 h0 n0 S_ACTION_COMPLETED XO0) hZ (hW 4 _ rfl) (hW 3 _ rfl) (by decide) (by decide)) (g := (mkF m 9 #[.val (.int p1), .val (.int (1 : Int32)), .unset] [(.int (1 : Int32))])) rfl (by rw [hml]; rfl) (argsL := [(.int (1 : Int32))]) (rest := []) (lenOf pd_0 rfl) rfl (by show 2 * 0 + _ ≤ _; exact Nat.le_of_eq rfl) (hb hby at_9) (fun _ _ => ⟨rfl, e0, (by decide : 0 + 0 ≤ _), (by decide : 0 + 0 ≤ _)⟩)
    dsimp only [Pt.U, Pt.locs, Pt.cells, Pt.slots] at X5 l5 y5 z5 st5 hQ5
    subst l5 y5 z5
    obtain ⟨rfl, Nq5, eh5⟩ := hQ5
    have N5 := Fr.app N0 Nq5
    refine own_of st5 ?_
    show own_go p e below s _ _ _ (T5.setTop (mkF m 12 #[.val (.int p1), .val (.int (1 : Int32)), .unset] [(.ref w1)]))
    refine own_of (fun t => XS.astoreN X5.here hx rfl (hb hby at_12) rfl rfl (l' := #[.val (.int p1), .val (.int (1 : Int32)), .val (.ref w1)]) rfl) ?_
    show own_go p e below s _ _ _ (T5.setTop (mkF m 13 #[.val (.int p1), .val (.int (1 : Int32)), .val (.ref w1)] []))
    refine own_of (fun t => XS.aloadN X5.here hx rfl (hb hby at_13) rfl rfl) ?_
    show own_go p e below s _ _ _ (T5.setTop (mkF m 14 #[.val (.int p1), .val (.int (1 : Int32)), .val (.ref w1)] [(.ref w1)]))
    have E_1 := E0_1.ext XO0.2
    obtain ⟨cq6, kq6, q6a, q6b, q6c⟩ := isOf hZ eh5 E_1
    obtain ⟨_, _, ⟨T6, L6, k6, n6⟩, -, X6, ⟨Lc6, hQ6, l6, y6, z6⟩, st6⟩ := X5.virtualBack hx (y := (⟨"com/example/bo3/bo3/core/EventType", "endsRun", "()Z"⟩ : MethodName)) (z := (⟨"com/example/bo3/bo3/core/EventType", "endsRun", "()Z"⟩ : MethodName)) hown (mvT hZ (hW 8 _ rfl)) (mvT hZ (hW 9 _ rfl)) (notFace_of_selects (args := #[]) (mvT hZ (hW 11 _ rfl))) (mvT hZ (hW 11 _ rfl)) (mvT hZ (hW 10 _ rfl)) (by decide) (backOf (W := 0) (rm2_d l Z a0 hw [] w1 w7 w8 h0 n0 S_EXECUTION_COMPLETED S_EXECUTION_FAILED XO0 ne17 ne18) hZ (hW 12 _ rfl) (hW 6 _ rfl) (by decide) (by decide)) q6a q6c (g := (mkF m 14 #[.val (.int p1), .val (.int (1 : Int32)), .val (.ref w1)] [(.ref w1)])) rfl (by rw [hml]; rfl) (Steps.refl _) (argsL := []) (rest := []) (lenOf pd_1 rfl) rfl (by show 2 * 0 + _ ≤ _; exact Nat.le_of_eq rfl) (hb hby at_14) (fun _ _ => ⟨rfl, eh5, (by decide : 0 + 0 ≤ _), (by decide : 0 + 0 ≤ _)⟩)
    dsimp only [Pt.U, Pt.locs, Pt.cells, Pt.slots] at X6 l6 y6 z6 st6 hQ6
    subst l6 y6 z6
    obtain ⟨rfl, Nq6, eh6⟩ := hQ6
    have N6 := Fr.app N5 Nq6
    refine own_of (fun t k => st6.trans k) ?_
    show own_go p e below s _ _ _ (T6.setTop (mkF m 17 #[.val (.int p1), .val (.int (1 : Int32)), .val (.ref w1)] [(.int (0 : Int32))]))
    refine own_of (fun t => XS.iloadN X6.here hx rfl (hb hby at_17) rfl) ?_
    show own_go p e below s _ _ _ (T6.setTop (mkF m 18 #[.val (.int p1), .val (.int (1 : Int32)), .val (.ref w1)] [(.int (1 : Int32)), (.int (0 : Int32))]))
    obtain ⟨_, _, ⟨T7, L7, k7, n7⟩, -, X7, ⟨Lc7, hQ7, l7, y7, z7⟩, st7⟩ := Jvm.LawKit.callS X6 hx (y := (⟨"com/example/bo3/bo3/core/EventTypeEndsRunPinLaw", "expected", "(I)Z"⟩ : MethodName)) hown (mvT hZ (hW 17 _ rfl)) (mvT hZ (hW 18 _ rfl)) (mvT hZ (hW 3 _ rfl)) (mvT hZ (hW 19 _ rfl)) (by decide) (backOf (W := 1) (rm3_1 l Z a0 hw [] h0 n0 XO0) hZ (hW 19 _ rfl) (hW 3 _ rfl) (by decide) (by decide)) (g := (mkF m 18 #[.val (.int p1), .val (.int (1 : Int32)), .val (.ref w1)] [(.int (1 : Int32)), (.int (0 : Int32))])) rfl (by rw [hml]; rfl) (argsL := [(.int (1 : Int32))]) (rest := [(.int (0 : Int32))]) (lenOf pd_2 rfl) rfl (by show 2 * 0 + _ ≤ _; exact Nat.le_of_eq rfl) (hb hby at_18) (fun _ _ => ⟨rfl, eh6, (by decide : 0 + 0 ≤ _), (by decide : 0 + 0 ≤ _)⟩)
    dsimp only [Pt.U, Pt.locs, Pt.cells, Pt.slots] at X7 l7 y7 z7 st7 hQ7
    subst l7 y7 z7
    obtain ⟨rfl, Nq7, eh7⟩ := hQ7
    have N7 := Fr.app N6 Nq7
    refine own_of st7 ?_
    show own_go p e below s _ _ _ (T7.setTop (mkF m 21 #[.val (.int p1), .val (.int (1 : Int32)), .val (.ref w1)] [(.int (0 : Int32)), (.int (0 : Int32))]))
    have hb21_8 : (0 : Int32) = (0 : Int32) := by decide
    refine own_of (fun t => XS.icmpNo X7.here hx rfl (hb hby at_21) rfl (teq hb21_8).2) ?_
    show own_go p e below s _ _ _ (T7.setTop (mkF m 24 #[.val (.int p1), .val (.int (1 : Int32)), .val (.ref w1)] []))
    refine own_of (fun t => XS.iconst X7.here hx rfl (hb hby at_24)) ?_
    show own_go p e below s _ _ _ (T7.setTop (mkF m 25 #[.val (.int p1), .val (.int (1 : Int32)), .val (.ref w1)] [(.int (1 : Int32))]))
    refine own_of (fun t => XS.goto X7.here hx rfl (pc0 := 25) (pc' := 29) rfl (hb hby at_25) (by decide) (by decide)) ?_
    show own_go p e below s _ _ _ (T7.setTop (mkF m 29 #[.val (.int p1), .val (.int (1 : Int32)), .val (.ref w1)] [(.int (1 : Int32))]))
    refine own_ret X7 hx hlk Bd.returns rfl (Or.inl ⟨rfl, by simp, _, rfl⟩) (hb hby at_29) (by decide) (by decide) ?_
    rw [eh7]
    exact ⟨rfl, N7⟩
  · rw [hi]
    show own_go p e below s _ _ _ (s₁.setTop (mkF m 7 #[.val (.int p1), .unset, .unset] [(.int (2 : Int32))]))
    refine own_of (fun t => XS.istoreN X0.here hx rfl (hb hby at_7) rfl (l' := #[.val (.int p1), .val (.int (2 : Int32)), .unset]) rfl) ?_
    show own_go p e below s _ _ _ (s₁.setTop (mkF m 8 #[.val (.int p1), .val (.int (2 : Int32)), .unset] []))
    refine own_of (fun t => XS.iloadN X0.here hx rfl (hb hby at_8) rfl) ?_
    show own_go p e below s _ _ _ (s₁.setTop (mkF m 9 #[.val (.int p1), .val (.int (2 : Int32)), .unset] [(.int (2 : Int32))]))
    obtain ⟨_, _, ⟨T9, L9, k9, n9⟩, -, X9, ⟨Lc9, hQ9, l9, y9, z9⟩, st9⟩ := Jvm.LawKit.callS X0 hx (y := (⟨"com/example/bo3/bo3/core/EventTypeEndsRunPinLaw", "pick", "(I)Lcom/example/bo3/bo3/core/EventType;"⟩ : MethodName)) hown (mvT hZ (hW 1 _ rfl)) (mvT hZ (hW 2 _ rfl)) (mvT hZ (hW 3 _ rfl)) (mvT hZ (hW 4 _ rfl)) (by decide) (backOf (W := 0) (rm1_2 l Z a0 hw [] w2 h0 n0 S_ACTION_ERROR XO0) hZ (hW 4 _ rfl) (hW 3 _ rfl) (by decide) (by decide)) (g := (mkF m 9 #[.val (.int p1), .val (.int (2 : Int32)), .unset] [(.int (2 : Int32))])) rfl (by rw [hml]; rfl) (argsL := [(.int (2 : Int32))]) (rest := []) (lenOf pd_0 rfl) rfl (by show 2 * 0 + _ ≤ _; exact Nat.le_of_eq rfl) (hb hby at_9) (fun _ _ => ⟨rfl, e0, (by decide : 0 + 0 ≤ _), (by decide : 0 + 0 ≤ _)⟩)
    dsimp only [Pt.U, Pt.locs, Pt.cells, Pt.slots] at X9 l9 y9 z9 st9 hQ9
    subst l9 y9 z9
    obtain ⟨rfl, Nq9, eh9⟩ := hQ9
    have N9 := Fr.app N0 Nq9
    refine own_of st9 ?_
    show own_go p e below s _ _ _ (T9.setTop (mkF m 12 #[.val (.int p1), .val (.int (2 : Int32)), .unset] [(.ref w2)]))
    refine own_of (fun t => XS.astoreN X9.here hx rfl (hb hby at_12) rfl rfl (l' := #[.val (.int p1), .val (.int (2 : Int32)), .val (.ref w2)]) rfl) ?_
    show own_go p e below s _ _ _ (T9.setTop (mkF m 13 #[.val (.int p1), .val (.int (2 : Int32)), .val (.ref w2)] []))
    refine own_of (fun t => XS.aloadN X9.here hx rfl (hb hby at_13) rfl rfl) ?_
    show own_go p e below s _ _ _ (T9.setTop (mkF m 14 #[.val (.int p1), .val (.int (2 : Int32)), .val (.ref w2)] [(.ref w2)]))
    have E_2 := E0_2.ext XO0.2
    obtain ⟨cq10, kq10, q10a, q10b, q10c⟩ := isOf hZ eh9 E_2
    obtain ⟨_, _, ⟨T10, L10, k10, n10⟩, -, X10, ⟨Lc10, hQ10, l10, y10, z10⟩, st10⟩ := X9.virtualBack hx (y := (⟨"com/example/bo3/bo3/core/EventType", "endsRun", "()Z"⟩ : MethodName)) (z := (⟨"com/example/bo3/bo3/core/EventType", "endsRun", "()Z"⟩ : MethodName)) hown (mvT hZ (hW 8 _ rfl)) (mvT hZ (hW 9 _ rfl)) (notFace_of_selects (args := #[]) (mvT hZ (hW 11 _ rfl))) (mvT hZ (hW 11 _ rfl)) (mvT hZ (hW 10 _ rfl)) (by decide) (backOf (W := 0) (rm2_d l Z a0 hw [] w2 w7 w8 h0 n0 S_EXECUTION_COMPLETED S_EXECUTION_FAILED XO0 ne27 ne28) hZ (hW 12 _ rfl) (hW 6 _ rfl) (by decide) (by decide)) q10a q10c (g := (mkF m 14 #[.val (.int p1), .val (.int (2 : Int32)), .val (.ref w2)] [(.ref w2)])) rfl (by rw [hml]; rfl) (Steps.refl _) (argsL := []) (rest := []) (lenOf pd_1 rfl) rfl (by show 2 * 0 + _ ≤ _; exact Nat.le_of_eq rfl) (hb hby at_14) (fun _ _ => ⟨rfl, eh9, (by decide : 0 + 0 ≤ _), (by decide : 0 + 0 ≤ _)⟩)
    dsimp only [Pt.U, Pt.locs, Pt.cells, Pt.slots] at X10 l10 y10 z10 st10 hQ10
    subst l10 y10 z10
    obtain ⟨rfl, Nq10, eh10⟩ := hQ10
    have N10 := Fr.app N9 Nq10
    refine own_of (fun t k => st10.trans k) ?_
    show own_go p e below s _ _ _ (T10.setTop (mkF m 17 #[.val (.int p1), .val (.int (2 : Int32)), .val (.ref w2)] [(.int (0 : Int32))]))
    refine own_of (fun t => XS.iloadN X10.here hx rfl (hb hby at_17) rfl) ?_
    show own_go p e below s _ _ _ (T10.setTop (mkF m 18 #[.val (.int p1), .val (.int (2 : Int32)), .val (.ref w2)] [(.int (2 : Int32)), (.int (0 : Int32))]))
    obtain ⟨_, _, ⟨T11, L11, k11, n11⟩, -, X11, ⟨Lc11, hQ11, l11, y11, z11⟩, st11⟩ := Jvm.LawKit.callS X10 hx (y := (⟨"com/example/bo3/bo3/core/EventTypeEndsRunPinLaw", "expected", "(I)Z"⟩ : MethodName)) hown (mvT hZ (hW 17 _ rfl)) (mvT hZ (hW 18 _ rfl)) (mvT hZ (hW 3 _ rfl)) (mvT hZ (hW 19 _ rfl)) (by decide) (backOf (W := 1) (rm3_2 l Z a0 hw [] h0 n0 XO0) hZ (hW 19 _ rfl) (hW 3 _ rfl) (by decide) (by decide)) (g := (mkF m 18 #[.val (.int p1), .val (.int (2 : Int32)), .val (.ref w2)] [(.int (2 : Int32)), (.int (0 : Int32))])) rfl (by rw [hml]; rfl) (argsL := [(.int (2 : Int32))]) (rest := [(.int (0 : Int32))]) (lenOf pd_2 rfl) rfl (by show 2 * 0 + _ ≤ _; exact Nat.le_of_eq rfl) (hb hby at_18) (fun _ _ => ⟨rfl, eh10, (by decide : 0 + 0 ≤ _), (by decide : 0 + 0 ≤ _)⟩)
    dsimp only [Pt.U, Pt.locs, Pt.cells, Pt.slots] at X11 l11 y11 z11 st11 hQ11
    subst l11 y11 z11
    obtain ⟨rfl, Nq11, eh11⟩ := hQ11
    have N11 := Fr.app N10 Nq11
    refine own_of st11 ?_
    show own_go p e below s _ _ _ (T11.setTop (mkF m 21 #[.val (.int p1), .val (.int (2 : Int32)), .val (.ref w2)] [(.int (0 : Int32)), (.int (0 : Int32))]))
    have hb21_12 : (0 : Int32) = (0 : Int32) := by decide
    refine own_of (fun t => XS.icmpNo X11.here hx rfl (hb hby at_21) rfl (teq hb21_12).2) ?_
    show own_go p e below s _ _ _ (T11.setTop (mkF m 24 #[.val (.int p1), .val (.int (2 : Int32)), .val (.ref w2)] []))
    refine own_of (fun t => XS.iconst X11.here hx rfl (hb hby at_24)) ?_
    show own_go p e below s _ _ _ (T11.setTop (mkF m 25 #[.val (.int p1), .val (.int (2 : Int32)), .val (.ref w2)] [(.int (1 : Int32))]))
    refine own_of (fun t => XS.goto X11.here hx rfl (pc0 := 25) (pc' := 29) rfl (hb hby at_25) (by decide) (by decide)) ?_
    show own_go p e below s _ _ _ (T11.setTop (mkF m 29 #[.val (.int p1), .val (.int (2 : Int32)), .val (.ref w2)] [(.int (1 : Int32))]))
    refine own_ret X11 hx hlk Bd.returns rfl (Or.inl ⟨rfl, by simp, _, rfl⟩) (hb hby at_29) (by decide) (by decide) ?_
    rw [eh11]
    exact ⟨rfl, N11⟩
  · rw [hi]
    show own_go p e below s _ _ _ (s₁.setTop (mkF m 7 #[.val (.int p1), .unset, .unset] [(.int (3 : Int32))]))
    refine own_of (fun t => XS.istoreN X0.here hx rfl (hb hby at_7) rfl (l' := #[.val (.int p1), .val (.int (3 : Int32)), .unset]) rfl) ?_
    show own_go p e below s _ _ _ (s₁.setTop (mkF m 8 #[.val (.int p1), .val (.int (3 : Int32)), .unset] []))
    refine own_of (fun t => XS.iloadN X0.here hx rfl (hb hby at_8) rfl) ?_
    show own_go p e below s _ _ _ (s₁.setTop (mkF m 9 #[.val (.int p1), .val (.int (3 : Int32)), .unset] [(.int (3 : Int32))]))
    obtain ⟨_, _, ⟨T13, L13, k13, n13⟩, -, X13, ⟨Lc13, hQ13, l13, y13, z13⟩, st13⟩ := Jvm.LawKit.callS X0 hx (y := (⟨"com/example/bo3/bo3/core/EventTypeEndsRunPinLaw", "pick", "(I)Lcom/example/bo3/bo3/core/EventType;"⟩ : MethodName)) hown (mvT hZ (hW 1 _ rfl)) (mvT hZ (hW 2 _ rfl)) (mvT hZ (hW 3 _ rfl)) (mvT hZ (hW 4 _ rfl)) (by decide) (backOf (W := 0) (rm1_3 l Z a0 hw [] w3 h0 n0 S_STEP_RETRY XO0) hZ (hW 4 _ rfl) (hW 3 _ rfl) (by decide) (by decide)) (g := (mkF m 9 #[.val (.int p1), .val (.int (3 : Int32)), .unset] [(.int (3 : Int32))])) rfl (by rw [hml]; rfl) (argsL := [(.int (3 : Int32))]) (rest := []) (lenOf pd_0 rfl) rfl (by show 2 * 0 + _ ≤ _; exact Nat.le_of_eq rfl) (hb hby at_9) (fun _ _ => ⟨rfl, e0, (by decide : 0 + 0 ≤ _), (by decide : 0 + 0 ≤ _)⟩)
    dsimp only [Pt.U, Pt.locs, Pt.cells, Pt.slots] at X13 l13 y13 z13 st13 hQ13
    subst l13 y13 z13
    obtain ⟨rfl, Nq13, eh13⟩ := hQ13
    have N13 := Fr.app N0 Nq13
    refine own_of st13 ?_
    show own_go p e below s _ _ _ (T13.setTop (mkF m 12 #[.val (.int p1), .val (.int (3 : Int32)), .unset] [(.ref w3)]))
    refine own_of (fun t => XS.astoreN X13.here hx rfl (hb hby at_12) rfl rfl (l' := #[.val (.int p1), .val (.int (3 : Int32)), .val (.ref w3)]) rfl) ?_
    show own_go p e below s _ _ _ (T13.setTop (mkF m 13 #[.val (.int p1), .val (.int (3 : Int32)), .val (.ref w3)] []))
    refine own_of (fun t => XS.aloadN X13.here hx rfl (hb hby at_13) rfl rfl) ?_
    show own_go p e below s _ _ _ (T13.setTop (mkF m 14 #[.val (.int p1), .val (.int (3 : Int32)), .val (.ref w3)] [(.ref w3)]))
    have E_3 := E0_3.ext XO0.2
    obtain ⟨cq14, kq14, q14a, q14b, q14c⟩ := isOf hZ eh13 E_3
    obtain ⟨_, _, ⟨T14, L14, k14, n14⟩, -, X14, ⟨Lc14, hQ14, l14, y14, z14⟩, st14⟩ := X13.virtualBack hx (y := (⟨"com/example/bo3/bo3/core/EventType", "endsRun", "()Z"⟩ : MethodName)) (z := (⟨"com/example/bo3/bo3/core/EventType", "endsRun", "()Z"⟩ : MethodName)) hown (mvT hZ (hW 8 _ rfl)) (mvT hZ (hW 9 _ rfl)) (notFace_of_selects (args := #[]) (mvT hZ (hW 11 _ rfl))) (mvT hZ (hW 11 _ rfl)) (mvT hZ (hW 10 _ rfl)) (by decide) (backOf (W := 0) (rm2_d l Z a0 hw [] w3 w7 w8 h0 n0 S_EXECUTION_COMPLETED S_EXECUTION_FAILED XO0 ne37 ne38) hZ (hW 12 _ rfl) (hW 6 _ rfl) (by decide) (by decide)) q14a q14c (g := (mkF m 14 #[.val (.int p1), .val (.int (3 : Int32)), .val (.ref w3)] [(.ref w3)])) rfl (by rw [hml]; rfl) (Steps.refl _) (argsL := []) (rest := []) (lenOf pd_1 rfl) rfl (by show 2 * 0 + _ ≤ _; exact Nat.le_of_eq rfl) (hb hby at_14) (fun _ _ => ⟨rfl, eh13, (by decide : 0 + 0 ≤ _), (by decide : 0 + 0 ≤ _)⟩)
    dsimp only [Pt.U, Pt.locs, Pt.cells, Pt.slots] at X14 l14 y14 z14 st14 hQ14
    subst l14 y14 z14
    obtain ⟨rfl, Nq14, eh14⟩ := hQ14
    have N14 := Fr.app N13 Nq14
    refine own_of (fun t k => st14.trans k) ?_
    show own_go p e below s _ _ _ (T14.setTop (mkF m 17 #[.val (.int p1), .val (.int (3 : Int32)), .val (.ref w3)] [(.int (0 : Int32))]))
    refine own_of (fun t => XS.iloadN X14.here hx rfl (hb hby at_17) rfl) ?_
    show own_go p e below s _ _ _ (T14.setTop (mkF m 18 #[.val (.int p1), .val (.int (3 : Int32)), .val (.ref w3)] [(.int (3 : Int32)), (.int (0 : Int32))]))
    obtain ⟨_, _, ⟨T15, L15, k15, n15⟩, -, X15, ⟨Lc15, hQ15, l15, y15, z15⟩, st15⟩ := Jvm.LawKit.callS X14 hx (y := (⟨"com/example/bo3/bo3/core/EventTypeEndsRunPinLaw", "expected", "(I)Z"⟩ : MethodName)) hown (mvT hZ (hW 17 _ rfl)) (mvT hZ (hW 18 _ rfl)) (mvT hZ (hW 3 _ rfl)) (mvT hZ (hW 19 _ rfl)) (by decide) (backOf (W := 1) (rm3_3 l Z a0 hw [] h0 n0 XO0) hZ (hW 19 _ rfl) (hW 3 _ rfl) (by decide) (by decide)) (g := (mkF m 18 #[.val (.int p1), .val (.int (3 : Int32)), .val (.ref w3)] [(.int (3 : Int32)), (.int (0 : Int32))])) rfl (by rw [hml]; rfl) (argsL := [(.int (3 : Int32))]) (rest := [(.int (0 : Int32))]) (lenOf pd_2 rfl) rfl (by show 2 * 0 + _ ≤ _; exact Nat.le_of_eq rfl) (hb hby at_18) (fun _ _ => ⟨rfl, eh14, (by decide : 0 + 0 ≤ _), (by decide : 0 + 0 ≤ _)⟩)
    dsimp only [Pt.U, Pt.locs, Pt.cells, Pt.slots] at X15 l15 y15 z15 st15 hQ15
    subst l15 y15 z15
    obtain ⟨rfl, Nq15, eh15⟩ := hQ15
    have N15 := Fr.app N14 Nq15
    refine own_of st15 ?_
    show own_go p e below s _ _ _ (T15.setTop (mkF m 21 #[.val (.int p1), .val (.int (3 : Int32)), .val (.ref w3)] [(.int (0 : Int32)), (.int (0 : Int32))]))
    have hb21_16 : (0 : Int32) = (0 : Int32) := by decide
    refine own_of (fun t => XS.icmpNo X15.here hx rfl (hb hby at_21) rfl (teq hb21_16).2) ?_
    show own_go p e below s _ _ _ (T15.setTop (mkF m 24 #[.val (.int p1), .val (.int (3 : Int32)), .val (.ref w3)] []))
    refine own_of (fun t => XS.iconst X15.here hx rfl (hb hby at_24)) ?_
    show own_go p e below s _ _ _ (T15.setTop (mkF m 25 #[.val (.int p1), .val (.int (3 : Int32)), .val (.ref w3)] [(.int (1 : Int32))]))
    refine own_of (fun t => XS.goto X15.here hx rfl (pc0 := 25) (pc' := 29) rfl (hb hby at_25) (by decide) (by decide)) ?_
    show own_go p e below s _ _ _ (T15.setTop (mkF m 29 #[.val (.int p1), .val (.int (3 : Int32)), .val (.ref w3)] [(.int (1 : Int32))]))
    refine own_ret X15 hx hlk Bd.returns rfl (Or.inl ⟨rfl, by simp, _, rfl⟩) (hb hby at_29) (by decide) (by decide) ?_
    rw [eh15]
    exact ⟨rfl, N15⟩
  · rw [hi]
    show own_go p e below s _ _ _ (s₁.setTop (mkF m 7 #[.val (.int p1), .unset, .unset] [(.int (4 : Int32))]))
    refine own_of (fun t => XS.istoreN X0.here hx rfl (hb hby at_7) rfl (l' := #[.val (.int p1), .val (.int (4 : Int32)), .unset]) rfl) ?_
    show own_go p e below s _ _ _ (s₁.setTop (mkF m 8 #[.val (.int p1), .val (.int (4 : Int32)), .unset] []))
    refine own_of (fun t => XS.iloadN X0.here hx rfl (hb hby at_8) rfl) ?_
    show own_go p e below s _ _ _ (s₁.setTop (mkF m 9 #[.val (.int p1), .val (.int (4 : Int32)), .unset] [(.int (4 : Int32))]))
    obtain ⟨_, _, ⟨T17, L17, k17, n17⟩, -, X17, ⟨Lc17, hQ17, l17, y17, z17⟩, st17⟩ := Jvm.LawKit.callS X0 hx (y := (⟨"com/example/bo3/bo3/core/EventTypeEndsRunPinLaw", "pick", "(I)Lcom/example/bo3/bo3/core/EventType;"⟩ : MethodName)) hown (mvT hZ (hW 1 _ rfl)) (mvT hZ (hW 2 _ rfl)) (mvT hZ (hW 3 _ rfl)) (mvT hZ (hW 4 _ rfl)) (by decide) (backOf (W := 0) (rm1_4 l Z a0 hw [] w4 h0 n0 S_STEP_RETRY_EXHAUSTED XO0) hZ (hW 4 _ rfl) (hW 3 _ rfl) (by decide) (by decide)) (g := (mkF m 9 #[.val (.int p1), .val (.int (4 : Int32)), .unset] [(.int (4 : Int32))])) rfl (by rw [hml]; rfl) (argsL := [(.int (4 : Int32))]) (rest := []) (lenOf pd_0 rfl) rfl (by show 2 * 0 + _ ≤ _; exact Nat.le_of_eq rfl) (hb hby at_9) (fun _ _ => ⟨rfl, e0, (by decide : 0 + 0 ≤ _), (by decide : 0 + 0 ≤ _)⟩)
    dsimp only [Pt.U, Pt.locs, Pt.cells, Pt.slots] at X17 l17 y17 z17 st17 hQ17
    subst l17 y17 z17
    obtain ⟨rfl, Nq17, eh17⟩ := hQ17
    have N17 := Fr.app N0 Nq17
    refine own_of st17 ?_
    show own_go p e below s _ _ _ (T17.setTop (mkF m 12 #[.val (.int p1), .val (.int (4 : Int32)), .unset] [(.ref w4)]))
    refine own_of (fun t => XS.astoreN X17.here hx rfl (hb hby at_12) rfl rfl (l' := #[.val (.int p1), .val (.int (4 : Int32)), .val (.ref w4)]) rfl) ?_
    show own_go p e below s _ _ _ (T17.setTop (mkF m 13 #[.val (.int p1), .val (.int (4 : Int32)), .val (.ref w4)] []))
    refine own_of (fun t => XS.aloadN X17.here hx rfl (hb hby at_13) rfl rfl) ?_
    show own_go p e below s _ _ _ (T17.setTop (mkF m 14 #[.val (.int p1), .val (.int (4 : Int32)), .val (.ref w4)] [(.ref w4)]))
    have E_4 := E0_4.ext XO0.2
    obtain ⟨cq18, kq18, q18a, q18b, q18c⟩ := isOf hZ eh17 E_4
    obtain ⟨_, _, ⟨T18, L18, k18, n18⟩, -, X18, ⟨Lc18, hQ18, l18, y18, z18⟩, st18⟩ := X17.virtualBack hx (y := (⟨"com/example/bo3/bo3/core/EventType", "endsRun", "()Z"⟩ : MethodName)) (z := (⟨"com/example/bo3/bo3/core/EventType", "endsRun", "()Z"⟩ : MethodName)) hown (mvT hZ (hW 8 _ rfl)) (mvT hZ (hW 9 _ rfl)) (notFace_of_selects (args := #[]) (mvT hZ (hW 11 _ rfl))) (mvT hZ (hW 11 _ rfl)) (mvT hZ (hW 10 _ rfl)) (by decide) (backOf (W := 0) (rm2_d l Z a0 hw [] w4 w7 w8 h0 n0 S_EXECUTION_COMPLETED S_EXECUTION_FAILED XO0 ne47 ne48) hZ (hW 12 _ rfl) (hW 6 _ rfl) (by decide) (by decide)) q18a q18c (g := (mkF m 14 #[.val (.int p1), .val (.int (4 : Int32)), .val (.ref w4)] [(.ref w4)])) rfl (by rw [hml]; rfl) (Steps.refl _) (argsL := []) (rest := []) (lenOf pd_1 rfl) rfl (by show 2 * 0 + _ ≤ _; exact Nat.le_of_eq rfl) (hb hby at_14) (fun _ _ => ⟨rfl, eh17, (by decide : 0 + 0 ≤ _), (by decide : 0 + 0 ≤ _)⟩)
    dsimp only [Pt.U, Pt.locs, Pt.cells, Pt.slots] at X18 l18 y18 z18 st18 hQ18
    subst l18 y18 z18
    obtain ⟨rfl, Nq18, eh18⟩ := hQ18
    have N18 := Fr.app N17 Nq18
    refine own_of (fun t k => st18.trans k) ?_
    show own_go p e below s _ _ _ (T18.setTop (mkF m 17 #[.val (.int p1), .val (.int (4 : Int32)), .val (.ref w4)] [(.int (0 : Int32))]))
    refine own_of (fun t => XS.iloadN X18.here hx rfl (hb hby at_17) rfl) ?_
    show own_go p e below s _ _ _ (T18.setTop (mkF m 18 #[.val (.int p1), .val (.int (4 : Int32)), .val (.ref w4)] [(.int (4 : Int32)), (.int (0 : Int32))]))
    obtain ⟨_, _, ⟨T19, L19, k19, n19⟩, -, X19, ⟨Lc19, hQ19, l19, y19, z19⟩, st19⟩ := Jvm.LawKit.callS X18 hx (y := (⟨"com/example/bo3/bo3/core/EventTypeEndsRunPinLaw", "expected", "(I)Z"⟩ : MethodName)) hown (mvT hZ (hW 17 _ rfl)) (mvT hZ (hW 18 _ rfl)) (mvT hZ (hW 3 _ rfl)) (mvT hZ (hW 19 _ rfl)) (by decide) (backOf (W := 1) (rm3_4 l Z a0 hw [] h0 n0 XO0) hZ (hW 19 _ rfl) (hW 3 _ rfl) (by decide) (by decide)) (g := (mkF m 18 #[.val (.int p1), .val (.int (4 : Int32)), .val (.ref w4)] [(.int (4 : Int32)), (.int (0 : Int32))])) rfl (by rw [hml]; rfl) (argsL := [(.int (4 : Int32))]) (rest := [(.int (0 : Int32))]) (lenOf pd_2 rfl) rfl (by show 2 * 0 + _ ≤ _; exact Nat.le_of_eq rfl) (hb hby at_18) (fun _ _ => ⟨rfl, eh18, (by decide : 0 + 0 ≤ _), (by decide : 0 + 0 ≤ _)⟩)
    dsimp only [Pt.U, Pt.locs, Pt.cells, Pt.slots] at X19 l19 y19 z19 st19 hQ19
    subst l19 y19 z19
    obtain ⟨rfl, Nq19, eh19⟩ := hQ19
    have N19 := Fr.app N18 Nq19
    refine own_of st19 ?_
    show own_go p e below s _ _ _ (T19.setTop (mkF m 21 #[.val (.int p1), .val (.int (4 : Int32)), .val (.ref w4)] [(.int (0 : Int32)), (.int (0 : Int32))]))
    have hb21_20 : (0 : Int32) = (0 : Int32) := by decide
    refine own_of (fun t => XS.icmpNo X19.here hx rfl (hb hby at_21) rfl (teq hb21_20).2) ?_
    show own_go p e below s _ _ _ (T19.setTop (mkF m 24 #[.val (.int p1), .val (.int (4 : Int32)), .val (.ref w4)] []))
    refine own_of (fun t => XS.iconst X19.here hx rfl (hb hby at_24)) ?_
    show own_go p e below s _ _ _ (T19.setTop (mkF m 25 #[.val (.int p1), .val (.int (4 : Int32)), .val (.ref w4)] [(.int (1 : Int32))]))
    refine own_of (fun t => XS.goto X19.here hx rfl (pc0 := 25) (pc' := 29) rfl (hb hby at_25) (by decide) (by decide)) ?_
    show own_go p e below s _ _ _ (T19.setTop (mkF m 29 #[.val (.int p1), .val (.int (4 : Int32)), .val (.ref w4)] [(.int (1 : Int32))]))
    refine own_ret X19 hx hlk Bd.returns rfl (Or.inl ⟨rfl, by simp, _, rfl⟩) (hb hby at_29) (by decide) (by decide) ?_
    rw [eh19]
    exact ⟨rfl, N19⟩
  · rw [hi]
    show own_go p e below s _ _ _ (s₁.setTop (mkF m 7 #[.val (.int p1), .unset, .unset] [(.int (5 : Int32))]))
    refine own_of (fun t => XS.istoreN X0.here hx rfl (hb hby at_7) rfl (l' := #[.val (.int p1), .val (.int (5 : Int32)), .unset]) rfl) ?_
    show own_go p e below s _ _ _ (s₁.setTop (mkF m 8 #[.val (.int p1), .val (.int (5 : Int32)), .unset] []))
    refine own_of (fun t => XS.iloadN X0.here hx rfl (hb hby at_8) rfl) ?_
    show own_go p e below s _ _ _ (s₁.setTop (mkF m 9 #[.val (.int p1), .val (.int (5 : Int32)), .unset] [(.int (5 : Int32))]))
    obtain ⟨_, _, ⟨T21, L21, k21, n21⟩, -, X21, ⟨Lc21, hQ21, l21, y21, z21⟩, st21⟩ := Jvm.LawKit.callS X0 hx (y := (⟨"com/example/bo3/bo3/core/EventTypeEndsRunPinLaw", "pick", "(I)Lcom/example/bo3/bo3/core/EventType;"⟩ : MethodName)) hown (mvT hZ (hW 1 _ rfl)) (mvT hZ (hW 2 _ rfl)) (mvT hZ (hW 3 _ rfl)) (mvT hZ (hW 4 _ rfl)) (by decide) (backOf (W := 0) (rm1_5 l Z a0 hw [] w5 h0 n0 S_STEP_COMPLETED XO0) hZ (hW 4 _ rfl) (hW 3 _ rfl) (by decide) (by decide)) (g := (mkF m 9 #[.val (.int p1), .val (.int (5 : Int32)), .unset] [(.int (5 : Int32))])) rfl (by rw [hml]; rfl) (argsL := [(.int (5 : Int32))]) (rest := []) (lenOf pd_0 rfl) rfl (by show 2 * 0 + _ ≤ _; exact Nat.le_of_eq rfl) (hb hby at_9) (fun _ _ => ⟨rfl, e0, (by decide : 0 + 0 ≤ _), (by decide : 0 + 0 ≤ _)⟩)
    dsimp only [Pt.U, Pt.locs, Pt.cells, Pt.slots] at X21 l21 y21 z21 st21 hQ21
    subst l21 y21 z21
    obtain ⟨rfl, Nq21, eh21⟩ := hQ21
    have N21 := Fr.app N0 Nq21
    refine own_of st21 ?_
    show own_go p e below s _ _ _ (T21.setTop (mkF m 12 #[.val (.int p1), .val (.int (5 : Int32)), .unset] [(.ref w5)]))
    refine own_of (fun t => XS.astoreN X21.here hx rfl (hb hby at_12) rfl rfl (l' := #[.val (.int p1), .val (.int (5 : Int32)), .val (.ref w5)]) rfl) ?_
    show own_go p e below s _ _ _ (T21.setTop (mkF m 13 #[.val (.int p1), .val (.int (5 : Int32)), .val (.ref w5)] []))
    refine own_of (fun t => XS.aloadN X21.here hx rfl (hb hby at_13) rfl rfl) ?_
    show own_go p e below s _ _ _ (T21.setTop (mkF m 14 #[.val (.int p1), .val (.int (5 : Int32)), .val (.ref w5)] [(.ref w5)]))
    have E_5 := E0_5.ext XO0.2
    obtain ⟨cq22, kq22, q22a, q22b, q22c⟩ := isOf hZ eh21 E_5
    obtain ⟨_, _, ⟨T22, L22, k22, n22⟩, -, X22, ⟨Lc22, hQ22, l22, y22, z22⟩, st22⟩ := X21.virtualBack hx (y := (⟨"com/example/bo3/bo3/core/EventType", "endsRun", "()Z"⟩ : MethodName)) (z := (⟨"com/example/bo3/bo3/core/EventType", "endsRun", "()Z"⟩ : MethodName)) hown (mvT hZ (hW 8 _ rfl)) (mvT hZ (hW 9 _ rfl)) (notFace_of_selects (args := #[]) (mvT hZ (hW 11 _ rfl))) (mvT hZ (hW 11 _ rfl)) (mvT hZ (hW 10 _ rfl)) (by decide) (backOf (W := 0) (rm2_d l Z a0 hw [] w5 w7 w8 h0 n0 S_EXECUTION_COMPLETED S_EXECUTION_FAILED XO0 ne57 ne58) hZ (hW 12 _ rfl) (hW 6 _ rfl) (by decide) (by decide)) q22a q22c (g := (mkF m 14 #[.val (.int p1), .val (.int (5 : Int32)), .val (.ref w5)] [(.ref w5)])) rfl (by rw [hml]; rfl) (Steps.refl _) (argsL := []) (rest := []) (lenOf pd_1 rfl) rfl (by show 2 * 0 + _ ≤ _; exact Nat.le_of_eq rfl) (hb hby at_14) (fun _ _ => ⟨rfl, eh21, (by decide : 0 + 0 ≤ _), (by decide : 0 + 0 ≤ _)⟩)
    dsimp only [Pt.U, Pt.locs, Pt.cells, Pt.slots] at X22 l22 y22 z22 st22 hQ22
    subst l22 y22 z22
    obtain ⟨rfl, Nq22, eh22⟩ := hQ22
    have N22 := Fr.app N21 Nq22
    refine own_of (fun t k => st22.trans k) ?_
    show own_go p e below s _ _ _ (T22.setTop (mkF m 17 #[.val (.int p1), .val (.int (5 : Int32)), .val (.ref w5)] [(.int (0 : Int32))]))
    refine own_of (fun t => XS.iloadN X22.here hx rfl (hb hby at_17) rfl) ?_
    show own_go p e below s _ _ _ (T22.setTop (mkF m 18 #[.val (.int p1), .val (.int (5 : Int32)), .val (.ref w5)] [(.int (5 : Int32)), (.int (0 : Int32))]))
    obtain ⟨_, _, ⟨T23, L23, k23, n23⟩, -, X23, ⟨Lc23, hQ23, l23, y23, z23⟩, st23⟩ := Jvm.LawKit.callS X22 hx (y := (⟨"com/example/bo3/bo3/core/EventTypeEndsRunPinLaw", "expected", "(I)Z"⟩ : MethodName)) hown (mvT hZ (hW 17 _ rfl)) (mvT hZ (hW 18 _ rfl)) (mvT hZ (hW 3 _ rfl)) (mvT hZ (hW 19 _ rfl)) (by decide) (backOf (W := 1) (rm3_5 l Z a0 hw [] h0 n0 XO0) hZ (hW 19 _ rfl) (hW 3 _ rfl) (by decide) (by decide)) (g := (mkF m 18 #[.val (.int p1), .val (.int (5 : Int32)), .val (.ref w5)] [(.int (5 : Int32)), (.int (0 : Int32))])) rfl (by rw [hml]; rfl) (argsL := [(.int (5 : Int32))]) (rest := [(.int (0 : Int32))]) (lenOf pd_2 rfl) rfl (by show 2 * 0 + _ ≤ _; exact Nat.le_of_eq rfl) (hb hby at_18) (fun _ _ => ⟨rfl, eh22, (by decide : 0 + 0 ≤ _), (by decide : 0 + 0 ≤ _)⟩)
    dsimp only [Pt.U, Pt.locs, Pt.cells, Pt.slots] at X23 l23 y23 z23 st23 hQ23
    subst l23 y23 z23
    obtain ⟨rfl, Nq23, eh23⟩ := hQ23
    have N23 := Fr.app N22 Nq23
    refine own_of st23 ?_
    show own_go p e below s _ _ _ (T23.setTop (mkF m 21 #[.val (.int p1), .val (.int (5 : Int32)), .val (.ref w5)] [(.int (0 : Int32)), (.int (0 : Int32))]))
    have hb21_24 : (0 : Int32) = (0 : Int32) := by decide
    refine own_of (fun t => XS.icmpNo X23.here hx rfl (hb hby at_21) rfl (teq hb21_24).2) ?_
    show own_go p e below s _ _ _ (T23.setTop (mkF m 24 #[.val (.int p1), .val (.int (5 : Int32)), .val (.ref w5)] []))
    refine own_of (fun t => XS.iconst X23.here hx rfl (hb hby at_24)) ?_
    show own_go p e below s _ _ _ (T23.setTop (mkF m 25 #[.val (.int p1), .val (.int (5 : Int32)), .val (.ref w5)] [(.int (1 : Int32))]))
    refine own_of (fun t => XS.goto X23.here hx rfl (pc0 := 25) (pc' := 29) rfl (hb hby at_25) (by decide) (by decide)) ?_
    show own_go p e below s _ _ _ (T23.setTop (mkF m 29 #[.val (.int p1), .val (.int (5 : Int32)), .val (.ref w5)] [(.int (1 : Int32))]))
    refine own_ret X23 hx hlk Bd.returns rfl (Or.inl ⟨rfl, by simp, _, rfl⟩) (hb hby at_29) (by decide) (by decide) ?_
    rw [eh23]
    exact ⟨rfl, N23⟩
  · rw [hi]
    show own_go p e below s _ _ _ (s₁.setTop (mkF m 7 #[.val (.int p1), .unset, .unset] [(.int (6 : Int32))]))
    refine own_of (fun t => XS.istoreN X0.here hx rfl (hb hby at_7) rfl (l' := #[.val (.int p1), .val (.int (6 : Int32)), .unset]) rfl) ?_
    show own_go p e below s _ _ _ (s₁.setTop (mkF m 8 #[.val (.int p1), .val (.int (6 : Int32)), .unset] []))
    refine own_of (fun t => XS.iloadN X0.here hx rfl (hb hby at_8) rfl) ?_
    show own_go p e below s _ _ _ (s₁.setTop (mkF m 9 #[.val (.int p1), .val (.int (6 : Int32)), .unset] [(.int (6 : Int32))]))
    obtain ⟨_, _, ⟨T25, L25, k25, n25⟩, -, X25, ⟨Lc25, hQ25, l25, y25, z25⟩, st25⟩ := Jvm.LawKit.callS X0 hx (y := (⟨"com/example/bo3/bo3/core/EventTypeEndsRunPinLaw", "pick", "(I)Lcom/example/bo3/bo3/core/EventType;"⟩ : MethodName)) hown (mvT hZ (hW 1 _ rfl)) (mvT hZ (hW 2 _ rfl)) (mvT hZ (hW 3 _ rfl)) (mvT hZ (hW 4 _ rfl)) (by decide) (backOf (W := 0) (rm1_6 l Z a0 hw [] w6 h0 n0 S_STEP_FAILED_TERMINAL XO0) hZ (hW 4 _ rfl) (hW 3 _ rfl) (by decide) (by decide)) (g := (mkF m 9 #[.val (.int p1), .val (.int (6 : Int32)), .unset] [(.int (6 : Int32))])) rfl (by rw [hml]; rfl) (argsL := [(.int (6 : Int32))]) (rest := []) (lenOf pd_0 rfl) rfl (by show 2 * 0 + _ ≤ _; exact Nat.le_of_eq rfl) (hb hby at_9) (fun _ _ => ⟨rfl, e0, (by decide : 0 + 0 ≤ _), (by decide : 0 + 0 ≤ _)⟩)
    dsimp only [Pt.U, Pt.locs, Pt.cells, Pt.slots] at X25 l25 y25 z25 st25 hQ25
    subst l25 y25 z25
    obtain ⟨rfl, Nq25, eh25⟩ := hQ25
    have N25 := Fr.app N0 Nq25
    refine own_of st25 ?_
    show own_go p e below s _ _ _ (T25.setTop (mkF m 12 #[.val (.int p1), .val (.int (6 : Int32)), .unset] [(.ref w6)]))
    refine own_of (fun t => XS.astoreN X25.here hx rfl (hb hby at_12) rfl rfl (l' := #[.val (.int p1), .val (.int (6 : Int32)), .val (.ref w6)]) rfl) ?_
    show own_go p e below s _ _ _ (T25.setTop (mkF m 13 #[.val (.int p1), .val (.int (6 : Int32)), .val (.ref w6)] []))
    refine own_of (fun t => XS.aloadN X25.here hx rfl (hb hby at_13) rfl rfl) ?_
    show own_go p e below s _ _ _ (T25.setTop (mkF m 14 #[.val (.int p1), .val (.int (6 : Int32)), .val (.ref w6)] [(.ref w6)]))
    have E_6 := E0_6.ext XO0.2
    obtain ⟨cq26, kq26, q26a, q26b, q26c⟩ := isOf hZ eh25 E_6
    obtain ⟨_, _, ⟨T26, L26, k26, n26⟩, -, X26, ⟨Lc26, hQ26, l26, y26, z26⟩, st26⟩ := X25.virtualBack hx (y := (⟨"com/example/bo3/bo3/core/EventType", "endsRun", "()Z"⟩ : MethodName)) (z := (⟨"com/example/bo3/bo3/core/EventType", "endsRun", "()Z"⟩ : MethodName)) hown (mvT hZ (hW 8 _ rfl)) (mvT hZ (hW 9 _ rfl)) (notFace_of_selects (args := #[]) (mvT hZ (hW 11 _ rfl))) (mvT hZ (hW 11 _ rfl)) (mvT hZ (hW 10 _ rfl)) (by decide) (backOf (W := 0) (rm2_d l Z a0 hw [] w6 w7 w8 h0 n0 S_EXECUTION_COMPLETED S_EXECUTION_FAILED XO0 ne67 ne68) hZ (hW 12 _ rfl) (hW 6 _ rfl) (by decide) (by decide)) q26a q26c (g := (mkF m 14 #[.val (.int p1), .val (.int (6 : Int32)), .val (.ref w6)] [(.ref w6)])) rfl (by rw [hml]; rfl) (Steps.refl _) (argsL := []) (rest := []) (lenOf pd_1 rfl) rfl (by show 2 * 0 + _ ≤ _; exact Nat.le_of_eq rfl) (hb hby at_14) (fun _ _ => ⟨rfl, eh25, (by decide : 0 + 0 ≤ _), (by decide : 0 + 0 ≤ _)⟩)
    dsimp only [Pt.U, Pt.locs, Pt.cells, Pt.slots] at X26 l26 y26 z26 st26 hQ26
    subst l26 y26 z26
    obtain ⟨rfl, Nq26, eh26⟩ := hQ26
    have N26 := Fr.app N25 Nq26
    refine own_of (fun t k => st26.trans k) ?_
    show own_go p e below s _ _ _ (T26.setTop (mkF m 17 #[.val (.int p1), .val (.int (6 : Int32)), .val (.ref w6)] [(.int (0 : Int32))]))
    refine own_of (fun t => XS.iloadN X26.here hx rfl (hb hby at_17) rfl) ?_
    show own_go p e below s _ _ _ (T26.setTop (mkF m 18 #[.val (.int p1), .val (.int (6 : Int32)), .val (.ref w6)] [(.int (6 : Int32)), (.int (0 : Int32))]))
    obtain ⟨_, _, ⟨T27, L27, k27, n27⟩, -, X27, ⟨Lc27, hQ27, l27, y27, z27⟩, st27⟩ := Jvm.LawKit.callS X26 hx (y := (⟨"com/example/bo3/bo3/core/EventTypeEndsRunPinLaw", "expected", "(I)Z"⟩ : MethodName)) hown (mvT hZ (hW 17 _ rfl)) (mvT hZ (hW 18 _ rfl)) (mvT hZ (hW 3 _ rfl)) (mvT hZ (hW 19 _ rfl)) (by decide) (backOf (W := 1) (rm3_6 l Z a0 hw [] h0 n0 XO0) hZ (hW 19 _ rfl) (hW 3 _ rfl) (by decide) (by decide)) (g := (mkF m 18 #[.val (.int p1), .val (.int (6 : Int32)), .val (.ref w6)] [(.int (6 : Int32)), (.int (0 : Int32))])) rfl (by rw [hml]; rfl) (argsL := [(.int (6 : Int32))]) (rest := [(.int (0 : Int32))]) (lenOf pd_2 rfl) rfl (by show 2 * 0 + _ ≤ _; exact Nat.le_of_eq rfl) (hb hby at_18) (fun _ _ => ⟨rfl, eh26, (by decide : 0 + 0 ≤ _), (by decide : 0 + 0 ≤ _)⟩)
    dsimp only [Pt.U, Pt.locs, Pt.cells, Pt.slots] at X27 l27 y27 z27 st27 hQ27
    subst l27 y27 z27
    obtain ⟨rfl, Nq27, eh27⟩ := hQ27
    have N27 := Fr.app N26 Nq27
    refine own_of st27 ?_
    show own_go p e below s _ _ _ (T27.setTop (mkF m 21 #[.val (.int p1), .val (.int (6 : Int32)), .val (.ref w6)] [(.int (0 : Int32)), (.int (0 : Int32))]))
    have hb21_28 : (0 : Int32) = (0 : Int32) := by decide
    refine own_of (fun t => XS.icmpNo X27.here hx rfl (hb hby at_21) rfl (teq hb21_28).2) ?_
    show own_go p e below s _ _ _ (T27.setTop (mkF m 24 #[.val (.int p1), .val (.int (6 : Int32)), .val (.ref w6)] []))
    refine own_of (fun t => XS.iconst X27.here hx rfl (hb hby at_24)) ?_
    show own_go p e below s _ _ _ (T27.setTop (mkF m 25 #[.val (.int p1), .val (.int (6 : Int32)), .val (.ref w6)] [(.int (1 : Int32))]))
    refine own_of (fun t => XS.goto X27.here hx rfl (pc0 := 25) (pc' := 29) rfl (hb hby at_25) (by decide) (by decide)) ?_
    show own_go p e below s _ _ _ (T27.setTop (mkF m 29 #[.val (.int p1), .val (.int (6 : Int32)), .val (.ref w6)] [(.int (1 : Int32))]))
    refine own_ret X27 hx hlk Bd.returns rfl (Or.inl ⟨rfl, by simp, _, rfl⟩) (hb hby at_29) (by decide) (by decide) ?_
    rw [eh27]
    exact ⟨rfl, N27⟩
  · rw [hi]
    show own_go p e below s _ _ _ (s₁.setTop (mkF m 7 #[.val (.int p1), .unset, .unset] [(.int (7 : Int32))]))
    refine own_of (fun t => XS.istoreN X0.here hx rfl (hb hby at_7) rfl (l' := #[.val (.int p1), .val (.int (7 : Int32)), .unset]) rfl) ?_
    show own_go p e below s _ _ _ (s₁.setTop (mkF m 8 #[.val (.int p1), .val (.int (7 : Int32)), .unset] []))
    refine own_of (fun t => XS.iloadN X0.here hx rfl (hb hby at_8) rfl) ?_
    show own_go p e below s _ _ _ (s₁.setTop (mkF m 9 #[.val (.int p1), .val (.int (7 : Int32)), .unset] [(.int (7 : Int32))]))
    obtain ⟨_, _, ⟨T29, L29, k29, n29⟩, -, X29, ⟨Lc29, hQ29, l29, y29, z29⟩, st29⟩ := Jvm.LawKit.callS X0 hx (y := (⟨"com/example/bo3/bo3/core/EventTypeEndsRunPinLaw", "pick", "(I)Lcom/example/bo3/bo3/core/EventType;"⟩ : MethodName)) hown (mvT hZ (hW 1 _ rfl)) (mvT hZ (hW 2 _ rfl)) (mvT hZ (hW 3 _ rfl)) (mvT hZ (hW 4 _ rfl)) (by decide) (backOf (W := 0) (rm1_7 l Z a0 hw [] w7 h0 n0 S_EXECUTION_COMPLETED XO0) hZ (hW 4 _ rfl) (hW 3 _ rfl) (by decide) (by decide)) (g := (mkF m 9 #[.val (.int p1), .val (.int (7 : Int32)), .unset] [(.int (7 : Int32))])) rfl (by rw [hml]; rfl) (argsL := [(.int (7 : Int32))]) (rest := []) (lenOf pd_0 rfl) rfl (by show 2 * 0 + _ ≤ _; exact Nat.le_of_eq rfl) (hb hby at_9) (fun _ _ => ⟨rfl, e0, (by decide : 0 + 0 ≤ _), (by decide : 0 + 0 ≤ _)⟩)
    dsimp only [Pt.U, Pt.locs, Pt.cells, Pt.slots] at X29 l29 y29 z29 st29 hQ29
    subst l29 y29 z29
    obtain ⟨rfl, Nq29, eh29⟩ := hQ29
    have N29 := Fr.app N0 Nq29
    refine own_of st29 ?_
    show own_go p e below s _ _ _ (T29.setTop (mkF m 12 #[.val (.int p1), .val (.int (7 : Int32)), .unset] [(.ref w7)]))
    refine own_of (fun t => XS.astoreN X29.here hx rfl (hb hby at_12) rfl rfl (l' := #[.val (.int p1), .val (.int (7 : Int32)), .val (.ref w7)]) rfl) ?_
    show own_go p e below s _ _ _ (T29.setTop (mkF m 13 #[.val (.int p1), .val (.int (7 : Int32)), .val (.ref w7)] []))
    refine own_of (fun t => XS.aloadN X29.here hx rfl (hb hby at_13) rfl rfl) ?_
    show own_go p e below s _ _ _ (T29.setTop (mkF m 14 #[.val (.int p1), .val (.int (7 : Int32)), .val (.ref w7)] [(.ref w7)]))
    have E_7 := E0_7.ext XO0.2
    obtain ⟨cq30, kq30, q30a, q30b, q30c⟩ := isOf hZ eh29 E_7
    obtain ⟨_, _, ⟨T30, L30, k30, n30⟩, -, X30, ⟨Lc30, hQ30, l30, y30, z30⟩, st30⟩ := X29.virtualBack hx (y := (⟨"com/example/bo3/bo3/core/EventType", "endsRun", "()Z"⟩ : MethodName)) (z := (⟨"com/example/bo3/bo3/core/EventType", "endsRun", "()Z"⟩ : MethodName)) hown (mvT hZ (hW 8 _ rfl)) (mvT hZ (hW 9 _ rfl)) (notFace_of_selects (args := #[]) (mvT hZ (hW 11 _ rfl))) (mvT hZ (hW 11 _ rfl)) (mvT hZ (hW 10 _ rfl)) (by decide) (backOf (W := 0) (rm2_7 l Z a0 hw [] w7 w8 h0 n0 S_EXECUTION_COMPLETED S_EXECUTION_FAILED XO0) hZ (hW 12 _ rfl) (hW 6 _ rfl) (by decide) (by decide)) q30a q30c (g := (mkF m 14 #[.val (.int p1), .val (.int (7 : Int32)), .val (.ref w7)] [(.ref w7)])) rfl (by rw [hml]; rfl) (Steps.refl _) (argsL := []) (rest := []) (lenOf pd_1 rfl) rfl (by show 2 * 0 + _ ≤ _; exact Nat.le_of_eq rfl) (hb hby at_14) (fun _ _ => ⟨rfl, eh29, (by decide : 0 + 0 ≤ _), (by decide : 0 + 0 ≤ _)⟩)
    dsimp only [Pt.U, Pt.locs, Pt.cells, Pt.slots] at X30 l30 y30 z30 st30 hQ30
    subst l30 y30 z30
    obtain ⟨rfl, Nq30, eh30⟩ := hQ30
    have N30 := Fr.app N29 Nq30
    refine own_of (fun t k => st30.trans k) ?_
    show own_go p e below s _ _ _ (T30.setTop (mkF m 17 #[.val (.int p1), .val (.int (7 : Int32)), .val (.ref w7)] [(.int (1 : Int32))]))
    refine own_of (fun t => XS.iloadN X30.here hx rfl (hb hby at_17) rfl) ?_
    show own_go p e below s _ _ _ (T30.setTop (mkF m 18 #[.val (.int p1), .val (.int (7 : Int32)), .val (.ref w7)] [(.int (7 : Int32)), (.int (1 : Int32))]))
    obtain ⟨_, _, ⟨T31, L31, k31, n31⟩, -, X31, ⟨Lc31, hQ31, l31, y31, z31⟩, st31⟩ := Jvm.LawKit.callS X30 hx (y := (⟨"com/example/bo3/bo3/core/EventTypeEndsRunPinLaw", "expected", "(I)Z"⟩ : MethodName)) hown (mvT hZ (hW 17 _ rfl)) (mvT hZ (hW 18 _ rfl)) (mvT hZ (hW 3 _ rfl)) (mvT hZ (hW 19 _ rfl)) (by decide) (backOf (W := 1) (rm3_7 l Z a0 hw [] h0 n0 XO0) hZ (hW 19 _ rfl) (hW 3 _ rfl) (by decide) (by decide)) (g := (mkF m 18 #[.val (.int p1), .val (.int (7 : Int32)), .val (.ref w7)] [(.int (7 : Int32)), (.int (1 : Int32))])) rfl (by rw [hml]; rfl) (argsL := [(.int (7 : Int32))]) (rest := [(.int (1 : Int32))]) (lenOf pd_2 rfl) rfl (by show 2 * 0 + _ ≤ _; exact Nat.le_of_eq rfl) (hb hby at_18) (fun _ _ => ⟨rfl, eh30, (by decide : 0 + 0 ≤ _), (by decide : 0 + 0 ≤ _)⟩)
    dsimp only [Pt.U, Pt.locs, Pt.cells, Pt.slots] at X31 l31 y31 z31 st31 hQ31
    subst l31 y31 z31
    obtain ⟨rfl, Nq31, eh31⟩ := hQ31
    have N31 := Fr.app N30 Nq31
    refine own_of st31 ?_
    show own_go p e below s _ _ _ (T31.setTop (mkF m 21 #[.val (.int p1), .val (.int (7 : Int32)), .val (.ref w7)] [(.int (1 : Int32)), (.int (1 : Int32))]))
    have hb21_32 : (1 : Int32) = (1 : Int32) := by decide
    refine own_of (fun t => XS.icmpNo X31.here hx rfl (hb hby at_21) rfl (teq hb21_32).2) ?_
    show own_go p e below s _ _ _ (T31.setTop (mkF m 24 #[.val (.int p1), .val (.int (7 : Int32)), .val (.ref w7)] []))
    refine own_of (fun t => XS.iconst X31.here hx rfl (hb hby at_24)) ?_
    show own_go p e below s _ _ _ (T31.setTop (mkF m 25 #[.val (.int p1), .val (.int (7 : Int32)), .val (.ref w7)] [(.int (1 : Int32))]))
    refine own_of (fun t => XS.goto X31.here hx rfl (pc0 := 25) (pc' := 29) rfl (hb hby at_25) (by decide) (by decide)) ?_
    show own_go p e below s _ _ _ (T31.setTop (mkF m 29 #[.val (.int p1), .val (.int (7 : Int32)), .val (.ref w7)] [(.int (1 : Int32))]))
    refine own_ret X31 hx hlk Bd.returns rfl (Or.inl ⟨rfl, by simp, _, rfl⟩) (hb hby at_29) (by decide) (by decide) ?_
    rw [eh31]
    exact ⟨rfl, N31⟩
  · rw [hi]
    show own_go p e below s _ _ _ (s₁.setTop (mkF m 7 #[.val (.int p1), .unset, .unset] [(.int (8 : Int32))]))
    refine own_of (fun t => XS.istoreN X0.here hx rfl (hb hby at_7) rfl (l' := #[.val (.int p1), .val (.int (8 : Int32)), .unset]) rfl) ?_
    show own_go p e below s _ _ _ (s₁.setTop (mkF m 8 #[.val (.int p1), .val (.int (8 : Int32)), .unset] []))
    refine own_of (fun t => XS.iloadN X0.here hx rfl (hb hby at_8) rfl) ?_
    show own_go p e below s _ _ _ (s₁.setTop (mkF m 9 #[.val (.int p1), .val (.int (8 : Int32)), .unset] [(.int (8 : Int32))]))
    obtain ⟨_, _, ⟨T33, L33, k33, n33⟩, -, X33, ⟨Lc33, hQ33, l33, y33, z33⟩, st33⟩ := Jvm.LawKit.callS X0 hx (y := (⟨"com/example/bo3/bo3/core/EventTypeEndsRunPinLaw", "pick", "(I)Lcom/example/bo3/bo3/core/EventType;"⟩ : MethodName)) hown (mvT hZ (hW 1 _ rfl)) (mvT hZ (hW 2 _ rfl)) (mvT hZ (hW 3 _ rfl)) (mvT hZ (hW 4 _ rfl)) (by decide) (backOf (W := 0) (rm1_8 l Z a0 hw [] w8 h0 n0 S_EXECUTION_FAILED XO0) hZ (hW 4 _ rfl) (hW 3 _ rfl) (by decide) (by decide)) (g := (mkF m 9 #[.val (.int p1), .val (.int (8 : Int32)), .unset] [(.int (8 : Int32))])) rfl (by rw [hml]; rfl) (argsL := [(.int (8 : Int32))]) (rest := []) (lenOf pd_0 rfl) rfl (by show 2 * 0 + _ ≤ _; exact Nat.le_of_eq rfl) (hb hby at_9) (fun _ _ => ⟨rfl, e0, (by decide : 0 + 0 ≤ _), (by decide : 0 + 0 ≤ _)⟩)
    dsimp only [Pt.U, Pt.locs, Pt.cells, Pt.slots] at X33 l33 y33 z33 st33 hQ33
    subst l33 y33 z33
    obtain ⟨rfl, Nq33, eh33⟩ := hQ33
    have N33 := Fr.app N0 Nq33
    refine own_of st33 ?_
    show own_go p e below s _ _ _ (T33.setTop (mkF m 12 #[.val (.int p1), .val (.int (8 : Int32)), .unset] [(.ref w8)]))
    refine own_of (fun t => XS.astoreN X33.here hx rfl (hb hby at_12) rfl rfl (l' := #[.val (.int p1), .val (.int (8 : Int32)), .val (.ref w8)]) rfl) ?_
    show own_go p e below s _ _ _ (T33.setTop (mkF m 13 #[.val (.int p1), .val (.int (8 : Int32)), .val (.ref w8)] []))
    refine own_of (fun t => XS.aloadN X33.here hx rfl (hb hby at_13) rfl rfl) ?_
    show own_go p e below s _ _ _ (T33.setTop (mkF m 14 #[.val (.int p1), .val (.int (8 : Int32)), .val (.ref w8)] [(.ref w8)]))
    have E_8 := E0_8.ext XO0.2
    obtain ⟨cq34, kq34, q34a, q34b, q34c⟩ := isOf hZ eh33 E_8
    obtain ⟨_, _, ⟨T34, L34, k34, n34⟩, -, X34, ⟨Lc34, hQ34, l34, y34, z34⟩, st34⟩ := X33.virtualBack hx (y := (⟨"com/example/bo3/bo3/core/EventType", "endsRun", "()Z"⟩ : MethodName)) (z := (⟨"com/example/bo3/bo3/core/EventType", "endsRun", "()Z"⟩ : MethodName)) hown (mvT hZ (hW 8 _ rfl)) (mvT hZ (hW 9 _ rfl)) (notFace_of_selects (args := #[]) (mvT hZ (hW 11 _ rfl))) (mvT hZ (hW 11 _ rfl)) (mvT hZ (hW 10 _ rfl)) (by decide) (backOf (W := 0) (rm2_8 l Z a0 hw [] w7 w8 h0 n0 S_EXECUTION_COMPLETED S_EXECUTION_FAILED XO0 (Ne.symm ne78)) hZ (hW 12 _ rfl) (hW 6 _ rfl) (by decide) (by decide)) q34a q34c (g := (mkF m 14 #[.val (.int p1), .val (.int (8 : Int32)), .val (.ref w8)] [(.ref w8)])) rfl (by rw [hml]; rfl) (Steps.refl _) (argsL := []) (rest := []) (lenOf pd_1 rfl) rfl (by show 2 * 0 + _ ≤ _; exact Nat.le_of_eq rfl) (hb hby at_14) (fun _ _ => ⟨rfl, eh33, (by decide : 0 + 0 ≤ _), (by decide : 0 + 0 ≤ _)⟩)
    dsimp only [Pt.U, Pt.locs, Pt.cells, Pt.slots] at X34 l34 y34 z34 st34 hQ34
    subst l34 y34 z34
    obtain ⟨rfl, Nq34, eh34⟩ := hQ34
    have N34 := Fr.app N33 Nq34
    refine own_of (fun t k => st34.trans k) ?_
    show own_go p e below s _ _ _ (T34.setTop (mkF m 17 #[.val (.int p1), .val (.int (8 : Int32)), .val (.ref w8)] [(.int (1 : Int32))]))
    refine own_of (fun t => XS.iloadN X34.here hx rfl (hb hby at_17) rfl) ?_
    show own_go p e below s _ _ _ (T34.setTop (mkF m 18 #[.val (.int p1), .val (.int (8 : Int32)), .val (.ref w8)] [(.int (8 : Int32)), (.int (1 : Int32))]))
    obtain ⟨_, _, ⟨T35, L35, k35, n35⟩, -, X35, ⟨Lc35, hQ35, l35, y35, z35⟩, st35⟩ := Jvm.LawKit.callS X34 hx (y := (⟨"com/example/bo3/bo3/core/EventTypeEndsRunPinLaw", "expected", "(I)Z"⟩ : MethodName)) hown (mvT hZ (hW 17 _ rfl)) (mvT hZ (hW 18 _ rfl)) (mvT hZ (hW 3 _ rfl)) (mvT hZ (hW 19 _ rfl)) (by decide) (backOf (W := 1) (rm3_8 l Z a0 hw [] h0 n0 XO0) hZ (hW 19 _ rfl) (hW 3 _ rfl) (by decide) (by decide)) (g := (mkF m 18 #[.val (.int p1), .val (.int (8 : Int32)), .val (.ref w8)] [(.int (8 : Int32)), (.int (1 : Int32))])) rfl (by rw [hml]; rfl) (argsL := [(.int (8 : Int32))]) (rest := [(.int (1 : Int32))]) (lenOf pd_2 rfl) rfl (by show 2 * 0 + _ ≤ _; exact Nat.le_of_eq rfl) (hb hby at_18) (fun _ _ => ⟨rfl, eh34, (by decide : 0 + 0 ≤ _), (by decide : 0 + 0 ≤ _)⟩)
    dsimp only [Pt.U, Pt.locs, Pt.cells, Pt.slots] at X35 l35 y35 z35 st35 hQ35
    subst l35 y35 z35
    obtain ⟨rfl, Nq35, eh35⟩ := hQ35
    have N35 := Fr.app N34 Nq35
    refine own_of st35 ?_
    show own_go p e below s _ _ _ (T35.setTop (mkF m 21 #[.val (.int p1), .val (.int (8 : Int32)), .val (.ref w8)] [(.int (1 : Int32)), (.int (1 : Int32))]))
    have hb21_36 : (1 : Int32) = (1 : Int32) := by decide
    refine own_of (fun t => XS.icmpNo X35.here hx rfl (hb hby at_21) rfl (teq hb21_36).2) ?_
    show own_go p e below s _ _ _ (T35.setTop (mkF m 24 #[.val (.int p1), .val (.int (8 : Int32)), .val (.ref w8)] []))
    refine own_of (fun t => XS.iconst X35.here hx rfl (hb hby at_24)) ?_
    show own_go p e below s _ _ _ (T35.setTop (mkF m 25 #[.val (.int p1), .val (.int (8 : Int32)), .val (.ref w8)] [(.int (1 : Int32))]))
    refine own_of (fun t => XS.goto X35.here hx rfl (pc0 := 25) (pc' := 29) rfl (hb hby at_25) (by decide) (by decide)) ?_
    show own_go p e below s _ _ _ (T35.setTop (mkF m 29 #[.val (.int p1), .val (.int (8 : Int32)), .val (.ref w8)] [(.int (1 : Int32))]))
    refine own_ret X35 hx hlk Bd.returns rfl (Or.inl ⟨rfl, by simp, _, rfl⟩) (hb hby at_29) (by decide) (by decide) ?_
    rw [eh35]
    exact ⟨rfl, N35⟩
set_option maxRecDepth 65536 in
set_option maxHeartbeats 40000000 in
theorem comes_1 {Post : Tables → Env → Array Value → State → Outcome → State → Prop} (hpost : ∀ tb e args s v u, (limb_1_1.after args s (.returned v) u = true ∧ limb_1_2.after args s (.returned v) u = true ∧ True) → FrameEnd s (.returned v) u (Jvm.fieldLocs frame_1_writes args s ++ Jvm.arrayLocs frame_1_arrays args s ++ Jvm.staticLocs frame_1_statics s) 0 0 → Post tb e args s (.returned v) u) :
    ArmFor flags0 classFile x code maxLocals ret World_1 tables_1 room_1 Calls_1 rest_1 Pre_1 Post := by
  intro l hfl _ _ p e ha hc hk s m args below hf hA hF happ hP
  obtain ⟨hcalls, hrest, hpre⟩ := hP
  obtain ⟨-, -, -, hnamed, -, -, -, hat⟩ := (Spec.applies_iff hf).mp happ
  obtain ⟨hg, hn⟩ := and_e (Cond.before_iff.mp (show (Jvm.Cond.and given_1 narrow_1).before args s = true from hpre))
  obtain ⟨g1, g2⟩ := and_e hg
  obtain ⟨g3, g4⟩ := and_e hn
  obtain ⟨g5, g6⟩ := and_e g4
  obtain ⟨g7, g8⟩ := and_e g6
  obtain ⟨g9, g10⟩ := and_e g8
  obtain ⟨g11, g12⟩ := and_e g10
  obtain ⟨g13, g14⟩ := and_e g12
  obtain ⟨g15, g16⟩ := and_e g14
  obtain ⟨g17, g18⟩ := and_e g16
  obtain ⟨g19, g20⟩ := and_e g18
  obtain ⟨g21, g22⟩ := and_e g20
  obtain ⟨g23, g24⟩ := and_e g22
  obtain ⟨g25, g26⟩ := and_e g24
  obtain ⟨g27, g28⟩ := and_e g26
  obtain ⟨g29, g30⟩ := and_e g28
  obtain ⟨g31, g32⟩ := and_e g30
  obtain ⟨g33, g34⟩ := and_e g32
  obtain ⟨g35, g36⟩ := and_e g34
  obtain ⟨w0, rfl⟩ : ∃ w0 : Value, args = #[w0] := by
    have hs : args.size = 1 := by simpa [Cond.value, given_1] using g1
    obtain ⟨L⟩ := args
    match L, hs with
    | [w0], _ => exact ⟨w0, rfl⟩
  have hw := fun d (hd : d ∈ tables_1) => atoms_spec (ws := Jvm.Cond.code x code maxLocals ret :: tables_1) hat d (List.mem_cons_of_mem _ hd)
  have hW : ∀ (i : Nat) (d : Jvm.Cond), tables_1[i]? = some d → d.before _ s = true := fun i d h => hw d (List.mem_of_getElem? h)
  have hfit : Fit s := fun {y c} hc i hi => by
    obtain ⟨ha, rfl⟩ := Array.getElem?_eq_some_iff.mp hc
    have q := List.all_eq_true.mp ((Array.all_eq_true_iff_forall_mem.mp hF) _ (Array.getElem_mem ha)) i (List.mem_range.mpr hi)
    simpa [Array.getElem?_eq_getElem hi] using q
  obtain ⟨i0, ei0⟩ := is_v g2
  obtain rfl : w0 = (.int i0) := Option.some.inj ei0
  obtain ⟨a_ACTION_STARTED, ev_ACTION_STARTED, E_ACTION_STARTED⟩ := own_ex g3
  have S_ACTION_STARTED : Sta s s.heap "com/example/bo3/bo3/core/EventType" "ACTION_STARTED" "Lcom/example/bo3/bo3/core/EventType;" (.ref a_ACTION_STARTED) := Sta.start ev_ACTION_STARTED (Or.inr ⟨(hW 6 _ rfl), (hW 7 _ rfl)⟩)
  obtain ⟨a_EXECUTION_COMPLETED, ev_EXECUTION_COMPLETED, E_EXECUTION_COMPLETED⟩ := own_ex g5
  have S_EXECUTION_COMPLETED : Sta s s.heap "com/example/bo3/bo3/core/EventType" "EXECUTION_COMPLETED" "Lcom/example/bo3/bo3/core/EventType;" (.ref a_EXECUTION_COMPLETED) := Sta.start ev_EXECUTION_COMPLETED (Or.inr ⟨(hW 6 _ rfl), (hW 14 _ rfl)⟩)
  obtain ⟨a_EXECUTION_FAILED, ev_EXECUTION_FAILED, E_EXECUTION_FAILED⟩ := own_ex g11
  have S_EXECUTION_FAILED : Sta s s.heap "com/example/bo3/bo3/core/EventType" "EXECUTION_FAILED" "Lcom/example/bo3/bo3/core/EventType;" (.ref a_EXECUTION_FAILED) := Sta.start ev_EXECUTION_FAILED (Or.inr ⟨(hW 6 _ rfl), (hW 16 _ rfl)⟩)
  obtain ⟨a_STEP_RETRY, ev_STEP_RETRY, E_STEP_RETRY⟩ := own_ex g15
  have S_STEP_RETRY : Sta s s.heap "com/example/bo3/bo3/core/EventType" "STEP_RETRY" "Lcom/example/bo3/bo3/core/EventType;" (.ref a_STEP_RETRY) := Sta.start ev_STEP_RETRY (Or.inr ⟨(hW 6 _ rfl), (hW 21 _ rfl)⟩)
  obtain ⟨a_ACTION_ERROR, ev_ACTION_ERROR, E_ACTION_ERROR⟩ := own_ex g19
  have S_ACTION_ERROR : Sta s s.heap "com/example/bo3/bo3/core/EventType" "ACTION_ERROR" "Lcom/example/bo3/bo3/core/EventType;" (.ref a_ACTION_ERROR) := Sta.start ev_ACTION_ERROR (Or.inr ⟨(hW 6 _ rfl), (hW 23 _ rfl)⟩)
  obtain ⟨a_ACTION_COMPLETED, ev_ACTION_COMPLETED, E_ACTION_COMPLETED⟩ := own_ex g23
  have S_ACTION_COMPLETED : Sta s s.heap "com/example/bo3/bo3/core/EventType" "ACTION_COMPLETED" "Lcom/example/bo3/bo3/core/EventType;" (.ref a_ACTION_COMPLETED) := Sta.start ev_ACTION_COMPLETED (Or.inr ⟨(hW 6 _ rfl), (hW 25 _ rfl)⟩)
  obtain ⟨a_STEP_RETRY_EXHAUSTED, ev_STEP_RETRY_EXHAUSTED, E_STEP_RETRY_EXHAUSTED⟩ := own_ex g27
  have S_STEP_RETRY_EXHAUSTED : Sta s s.heap "com/example/bo3/bo3/core/EventType" "STEP_RETRY_EXHAUSTED" "Lcom/example/bo3/bo3/core/EventType;" (.ref a_STEP_RETRY_EXHAUSTED) := Sta.start ev_STEP_RETRY_EXHAUSTED (Or.inr ⟨(hW 6 _ rfl), (hW 28 _ rfl)⟩)
  obtain ⟨a_STEP_FAILED_TERMINAL, ev_STEP_FAILED_TERMINAL, E_STEP_FAILED_TERMINAL⟩ := own_ex g31
  have S_STEP_FAILED_TERMINAL : Sta s s.heap "com/example/bo3/bo3/core/EventType" "STEP_FAILED_TERMINAL" "Lcom/example/bo3/bo3/core/EventType;" (.ref a_STEP_FAILED_TERMINAL) := Sta.start ev_STEP_FAILED_TERMINAL (Or.inr ⟨(hW 6 _ rfl), (hW 31 _ rfl)⟩)
  obtain ⟨a_STEP_COMPLETED, ev_STEP_COMPLETED, E_STEP_COMPLETED⟩ := own_ex g35
  have S_STEP_COMPLETED : Sta s s.heap "com/example/bo3/bo3/core/EventType" "STEP_COMPLETED" "Lcom/example/bo3/bo3/core/EventType;" (.ref a_STEP_COMPLETED) := Sta.start ev_STEP_COMPLETED (Or.inr ⟨(hW 6 _ rfl), (hW 33 _ rfl)⟩)
  have O_ACTION_STARTED := own_fi ev_ACTION_STARTED g7
  have O_EXECUTION_COMPLETED := own_fi ev_EXECUTION_COMPLETED g9
  have O_EXECUTION_FAILED := own_fi ev_EXECUTION_FAILED g13
  have O_STEP_RETRY := own_fi ev_STEP_RETRY g17
  have O_ACTION_ERROR := own_fi ev_ACTION_ERROR g21
  have O_ACTION_COMPLETED := own_fi ev_ACTION_COMPLETED g25
  have O_STEP_RETRY_EXHAUSTED := own_fi ev_STEP_RETRY_EXHAUSTED g29
  have O_STEP_FAILED_TERMINAL := own_fi ev_STEP_FAILED_TERMINAL g33
  have O_STEP_COMPLETED := own_fi ev_STEP_COMPLETED g36
  obtain ⟨n, o, h1, h2, h3, _, L, rfl, ⟨rfl, N⟩, hq⟩ := rm0 l s _ hw tables_1 i0 a_ACTION_STARTED a_ACTION_COMPLETED a_ACTION_ERROR a_STEP_RETRY a_STEP_RETRY_EXHAUSTED a_STEP_COMPLETED a_STEP_FAILED_TERMINAL a_EXECUTION_COMPLETED a_EXECUTION_FAILED s.heap s.heap.size (Old.start s) S_ACTION_STARTED S_ACTION_COMPLETED S_ACTION_ERROR S_STEP_RETRY S_STEP_RETRY_EXHAUSTED S_STEP_COMPLETED S_STEP_FAILED_TERMINAL S_EXECUTION_COMPLETED S_EXECUTION_FAILED E_ACTION_STARTED E_ACTION_COMPLETED E_ACTION_ERROR E_STEP_RETRY E_STEP_RETRY_EXHAUSTED E_STEP_COMPLETED E_STEP_FAILED_TERMINAL E_EXECUTION_COMPLETED E_EXECUTION_FAILED (Fld.ne O_ACTION_STARTED O_EXECUTION_COMPLETED (by decide)) (Fld.ne O_ACTION_COMPLETED O_EXECUTION_COMPLETED (by decide)) (Fld.ne O_ACTION_ERROR O_EXECUTION_COMPLETED (by decide)) (Fld.ne O_STEP_RETRY O_EXECUTION_COMPLETED (by decide)) (Fld.ne O_STEP_RETRY_EXHAUSTED O_EXECUTION_COMPLETED (by decide)) (Fld.ne O_STEP_COMPLETED O_EXECUTION_COMPLETED (by decide)) (Fld.ne O_STEP_FAILED_TERMINAL O_EXECUTION_COMPLETED (by decide)) (Fld.ne O_ACTION_STARTED O_EXECUTION_FAILED (by decide)) (Fld.ne O_ACTION_COMPLETED O_EXECUTION_FAILED (by decide)) (Fld.ne O_ACTION_ERROR O_EXECUTION_FAILED (by decide)) (Fld.ne O_STEP_RETRY O_EXECUTION_FAILED (by decide)) (Fld.ne O_STEP_RETRY_EXHAUSTED O_EXECUTION_FAILED (by decide)) (Fld.ne O_STEP_COMPLETED O_EXECUTION_FAILED (by decide)) (Fld.ne O_STEP_FAILED_TERMINAL O_EXECUTION_FAILED (by decide)) (Fld.ne O_EXECUTION_COMPLETED O_EXECUTION_FAILED (by decide)) p e ha hc hk s m _ below hf ((Spec.applies_iff_loose hf).mp happ).1 ⟨rfl, State.Warmed39.refl s, rfl⟩ trivial
  refine ⟨n, _, h1, h2, h3, hpost _ _ _ _ _ _ ⟨Cond.after_iff.mpr rfl, Cond.after_iff.mpr (eq_i res_at (Term.int_eval (1)) rfl), trivial⟩ ⟨hq.1, hq.2.1, (hq.2.2.sift fun y hy => Or.inr (N y hy)).mono (by decide) (by decide)⟩⟩
theorem main_1_1 : Claimed_1_1 := comes_1 fun _ _ _ _ _ _ h hF => ⟨h.1, hF⟩
theorem main_1_2 : Claimed_1_2 := comes_1 fun _ _ _ _ _ _ h hF => ⟨h.2.1, hF⟩
end Jvm.Pilot.@@N@@
namespace Jvm.Pilot.@@N@@
open Jvm Jvm.ClassFile Sem Op Lib Jvm.Free Jvm.Stand Jvm.Pilot.@@N@@.Jvm.D
/-! MADE BY PROGRAM (witnessworld.py) out of the Statement's table words and the real class files: 12 classes; the members and pool entries that the words name. The judged class is class 1, her method 3. -/
namespace start1
open Jvm.ClassFile
def u (s : String) : CpInfo := .utf8 (stringToUtf16 s)
/-- a pool by its gaps: so many unusable entries, then the entry; so many at the end -/
def gap : Nat → List CpInfo → List CpInfo
  | 0, r => r
  | n + 1, r => .unusable :: gap n r
def poolList (es : List (Nat × CpInfo)) (last : Nat) : List CpInfo := es.foldr (fun e r => gap e.1 (e.2 :: r)) (gap last [])
def pool (es : List (Nat × CpInfo)) (last : Nat) : Array CpInfo := ⟨poolList es last⟩
def fileOf (pool : Array CpInfo) (this : Nat) (attrs : Array Attribute := #[]) (ms : Array MethodInfo := #[]) (fl : Nat := 33) (sup : Nat := 0) (ifs : Array Nat := #[]) (fds : Array FieldInfo := #[]) : ClassFile where
  minorVersion := 0
  majorVersion := 65
  constantPool := pool
  accessFlags := fl
  thisClass := this
  superClass := sup
  interfaces := ifs
  fields := fds
  methods := ms
  attributes := attrs
def plain (name : String) (sup : Option ClassId) : Class where
  name := name
  kind := .ordinary
  loader := none
  accessFlags := 33
  super := sup
  interfaces := #[]
  cf := none
  fields := #[]
  methods := #[]
  instanceTypes := #[]
  staticTypes := #[]
  resolved := #[]
  callSites := []
  init := .initialized
  statics := none
  mirror := none

def pool0 : Array CpInfo := pool [(5, u "<init>"), (0, u "()V"), (1, .class_ 10), (1, u "java/lang/Object")] 113

def k0m0 : Method := { name := "<init>", desc := "()V", sig := { parameters := [], returnType := none }, accessFlags := 1, code := none }
/-- java/lang/Object -/
def k0 : Class := { plain "java/lang/Object" none with
  accessFlags := 33
  interfaces := #[]
  cf := some (fileOf pool0 8 #[] #[{ accessFlags := 1, nameIndex := 5, descriptorIndex := 6, attributes := #[] }] 33 0 #[] #[])
  fields := #[]
  methods := #[k0m0]
  instanceTypes := #[]
  staticTypes := #[]
  resolved := Array.replicate 124 none
  statics := none }

def pool1 : Array CpInfo := pool [(2, .class_ 4), (1, u "java/lang/Object"), (0, u "<init>"), (0, u "()V"), (0, .fieldref 8 9), (0, .class_ 10), (0, .nameAndType 11 12), (0, u "com/example/bo3/bo3/core/EventType"), (0, u "ACTION_STARTED"), (0, u "Lcom/example/bo3/bo3/core/EventType;"), (0, .fieldref 8 14), (0, .nameAndType 15 12), (0, u "ACTION_COMPLETED"), (0, .fieldref 8 17), (0, .nameAndType 18 12), (0, u "ACTION_ERROR"), (0, .fieldref 8 20), (0, .nameAndType 21 12), (0, u "STEP_RETRY"), (0, .fieldref 8 23), (0, .nameAndType 24 12), (0, u "STEP_RETRY_EXHAUSTED"), (0, .fieldref 8 26), (0, .nameAndType 27 12), (0, u "STEP_COMPLETED"), (0, .fieldref 8 29), (0, .nameAndType 30 12), (0, u "STEP_FAILED_TERMINAL"), (0, .fieldref 8 32), (0, .nameAndType 33 12), (0, u "EXECUTION_COMPLETED"), (0, .fieldref 8 35), (0, .nameAndType 36 12), (0, u "EXECUTION_FAILED"), (0, .integer 2147483647), (0, .methodref 39 40), (0, .class_ 41), (0, .nameAndType 42 43), (0, u "com/example/bo3/bo3/core/EventTypeEndsRunPinLaw"), (0, u "pick"), (0, u "(I)Lcom/example/bo3/bo3/core/EventType;"), (0, .methodref 8 45), (0, .nameAndType 46 47), (0, u "endsRun"), (0, u "()Z"), (0, .methodref 39 49), (0, .nameAndType 50 51), (0, u "expected"), (0, u "(I)Z"), (3, u "law")] 2

def k1m0 : Method := { name := "<init>", desc := "()V", sig := { parameters := [], returnType := none }, accessFlags := 1, code := none }
def k1c1 : Code := { maxStack := 2, maxLocals := 1, code := method_2_code, exceptionTable := #[], attributes := #[] }
def k1m1 : Method := { name := "pick", desc := "(I)Lcom/example/bo3/bo3/core/EventType;", sig := { parameters := [.int], returnType := some (.object "com/example/bo3/bo3/core/EventType") }, accessFlags := 10, code := some k1c1 }
def k1c2 : Code := { maxStack := 2, maxLocals := 1, code := method_3_code, exceptionTable := #[], attributes := #[] }
def k1m2 : Method := { name := "expected", desc := "(I)Z", sig := { parameters := [.int], returnType := some .boolean }, accessFlags := 10, code := some k1c2 }
def k1c3 : Code := { maxStack := 2, maxLocals := 3, code := code, exceptionTable := #[], attributes := #[] }
def k1m3 : Method := { name := "law", desc := "(I)Z", sig := { parameters := [.int], returnType := some .boolean }, accessFlags := 9, code := some k1c3 }
/-- com/example/bo3/bo3/core/EventTypeEndsRunPinLaw -/
def k1 : Class := { plain "com/example/bo3/bo3/core/EventTypeEndsRunPinLaw" (some 0) with
  accessFlags := 49
  interfaces := #[]
  cf := some (fileOf pool1 39 #[] #[{ accessFlags := 1, nameIndex := 5, descriptorIndex := 6, attributes := #[] }, { accessFlags := 10, nameIndex := 42, descriptorIndex := 43, attributes := #[] }, { accessFlags := 10, nameIndex := 50, descriptorIndex := 51, attributes := #[] }, { accessFlags := 9, nameIndex := 55, descriptorIndex := 51, attributes := #[] }] 49 2 #[] #[])
  fields := #[]
  methods := #[k1m0, k1m1, k1m2, k1m3]
  instanceTypes := #[]
  staticTypes := #[]
  resolved := Array.replicate 58 none
  statics := none }

def pool2 : Array CpInfo := pool [(1, .class_ 2), (0, u "java/lang/constant/Constable"), (0, .class_ 4), (0, u "java/lang/Object")] 6

/-- java/lang/constant/Constable -/
def k2 : Class := { plain "java/lang/constant/Constable" (some 0) with
  accessFlags := 1537
  interfaces := #[]
  cf := some (fileOf pool2 1 #[] #[] 1537 3 #[] #[])
  fields := #[]
  methods := #[]
  instanceTypes := #[]
  staticTypes := #[]
  resolved := Array.replicate 11 none
  statics := none }

def pool3 : Array CpInfo := pool [(1, .class_ 2), (0, u "java/lang/Comparable"), (0, .class_ 4), (0, u "java/lang/Object")] 7

/-- java/lang/Comparable -/
def k3 : Class := { plain "java/lang/Comparable" (some 0) with
  accessFlags := 1537
  interfaces := #[]
  cf := some (fileOf pool3 1 #[] #[] 1537 3 #[] #[])
  fields := #[]
  methods := #[]
  instanceTypes := #[]
  staticTypes := #[]
  resolved := Array.replicate 12 none
  statics := none }

def pool4 : Array CpInfo := pool [(1, .class_ 2), (0, u "java/io/Serializable"), (0, .class_ 4), (0, u "java/lang/Object")] 2

/-- java/io/Serializable -/
def k4 : Class := { plain "java/io/Serializable" (some 0) with
  accessFlags := 1537
  interfaces := #[]
  cf := some (fileOf pool4 1 #[] #[] 1537 3 #[] #[])
  fields := #[]
  methods := #[]
  instanceTypes := #[]
  staticTypes := #[]
  resolved := Array.replicate 7 none
  statics := none }

def pool5 : Array CpInfo := pool [(2, .class_ 4), (1, u "java/lang/Enum"), (0, u "name"), (0, u "Ljava/lang/String;"), (2, u "ordinal"), (0, u "I"), (1, .class_ 14), (1, u "java/lang/Object"), (4, u "hash"), (86, .class_ 108), (1, u "java/lang/Enum$EnumDesc"), (2, .class_ 112), (0, u "java/lang/constant/Constable"), (0, .class_ 114), (0, u "java/lang/Comparable"), (0, .class_ 116), (0, u "java/io/Serializable")] 87

/-- java/lang/Enum -/
def k5 : Class := { plain "java/lang/Enum" (some 0) with
  accessFlags := 1057
  interfaces := #[2, 3, 4]
  cf := some (fileOf pool5 2 #[.nestMembers #[106]] #[] 1057 12 #[111, 113, 115] #[{ accessFlags := 18, nameIndex := 5, descriptorIndex := 6, attributes := #[] }, { accessFlags := 18, nameIndex := 9, descriptorIndex := 10, attributes := #[] }, { accessFlags := 2, nameIndex := 19, descriptorIndex := 10, attributes := #[] }])
  fields := #[{ name := "name", type := (.object "java/lang/String"), accessFlags := 18, slot := 0, constantValue := 0 }, { name := "ordinal", type := .int, accessFlags := 18, slot := 1, constantValue := 0 }, { name := "hash", type := .int, accessFlags := 2, slot := 2, constantValue := 0 }]
  methods := #[]
  instanceTypes := #[(.object "java/lang/String"), .int, .int]
  staticTypes := #[]
  resolved := Array.replicate 204 none
  statics := none }

def pool6 : Array CpInfo := pool [(1, .class_ 2), (0, u "com/example/bo3/bo3/core/EventType"), (2, u "ACTION_STARTED"), (0, u "Lcom/example/bo3/bo3/core/EventType;"), (2, u "ACTION_COMPLETED"), (2, u "ACTION_ERROR"), (2, u "STEP_RETRY"), (2, u "STEP_RETRY_EXHAUSTED"), (2, u "STEP_COMPLETED"), (2, u "STEP_FAILED_TERMINAL"), (0, .fieldref 1 26), (0, .nameAndType 27 6), (0, u "EXECUTION_COMPLETED"), (0, .fieldref 1 29), (0, .nameAndType 30 6), (0, u "EXECUTION_FAILED"), (2, u "$VALUES"), (0, u "[Lcom/example/bo3/bo3/core/EventType;"), (6, .class_ 43), (1, u "java/lang/Enum"), (24, u "eventName"), (0, u "Ljava/lang/String;"), (36, u "endsRun"), (0, u "()Z")] 21

def k6c0 : Code := { maxStack := 2, maxLocals := 1, code := prog_19_method_5_code, exceptionTable := #[], attributes := #[] }
def k6m0 : Method := { name := "endsRun", desc := "()Z", sig := { parameters := [], returnType := some .boolean }, accessFlags := 1, code := some k6c0 }
/-- com/example/bo3/bo3/core/EventType -/
def k6 : Class := { plain "com/example/bo3/bo3/core/EventType" (some 5) with
  accessFlags := 16433
  interfaces := #[]
  cf := some (fileOf pool6 1 #[] #[{ accessFlags := 1, nameIndex := 106, descriptorIndex := 107, attributes := #[] }] 16433 41 #[] #[{ accessFlags := 16409, nameIndex := 5, descriptorIndex := 6, attributes := #[] }, { accessFlags := 16409, nameIndex := 9, descriptorIndex := 6, attributes := #[] }, { accessFlags := 16409, nameIndex := 12, descriptorIndex := 6, attributes := #[] }, { accessFlags := 16409, nameIndex := 15, descriptorIndex := 6, attributes := #[] }, { accessFlags := 16409, nameIndex := 18, descriptorIndex := 6, attributes := #[] }, { accessFlags := 16409, nameIndex := 21, descriptorIndex := 6, attributes := #[] }, { accessFlags := 16409, nameIndex := 24, descriptorIndex := 6, attributes := #[] }, { accessFlags := 16409, nameIndex := 27, descriptorIndex := 6, attributes := #[] }, { accessFlags := 16409, nameIndex := 30, descriptorIndex := 6, attributes := #[] }, { accessFlags := 18, nameIndex := 68, descriptorIndex := 69, attributes := #[] }, { accessFlags := 4122, nameIndex := 33, descriptorIndex := 34, attributes := #[] }])
  fields := #[{ name := "ACTION_STARTED", type := (.object "com/example/bo3/bo3/core/EventType"), accessFlags := 16409, slot := 0, constantValue := 0 }, { name := "ACTION_COMPLETED", type := (.object "com/example/bo3/bo3/core/EventType"), accessFlags := 16409, slot := 1, constantValue := 0 }, { name := "ACTION_ERROR", type := (.object "com/example/bo3/bo3/core/EventType"), accessFlags := 16409, slot := 2, constantValue := 0 }, { name := "STEP_RETRY", type := (.object "com/example/bo3/bo3/core/EventType"), accessFlags := 16409, slot := 3, constantValue := 0 }, { name := "STEP_RETRY_EXHAUSTED", type := (.object "com/example/bo3/bo3/core/EventType"), accessFlags := 16409, slot := 4, constantValue := 0 }, { name := "STEP_COMPLETED", type := (.object "com/example/bo3/bo3/core/EventType"), accessFlags := 16409, slot := 5, constantValue := 0 }, { name := "STEP_FAILED_TERMINAL", type := (.object "com/example/bo3/bo3/core/EventType"), accessFlags := 16409, slot := 6, constantValue := 0 }, { name := "EXECUTION_COMPLETED", type := (.object "com/example/bo3/bo3/core/EventType"), accessFlags := 16409, slot := 7, constantValue := 0 }, { name := "EXECUTION_FAILED", type := (.object "com/example/bo3/bo3/core/EventType"), accessFlags := 16409, slot := 8, constantValue := 0 }, { name := "eventName", type := (.object "java/lang/String"), accessFlags := 18, slot := 3, constantValue := 0 }, { name := "$VALUES", type := (.array (.object "com/example/bo3/bo3/core/EventType")), accessFlags := 4122, slot := 9, constantValue := 0 }]
  methods := #[k6m0]
  instanceTypes := #[(.object "java/lang/String"), .int, .int, (.object "java/lang/String")]
  staticTypes := #[(.object "com/example/bo3/bo3/core/EventType"), (.object "com/example/bo3/bo3/core/EventType"), (.object "com/example/bo3/bo3/core/EventType"), (.object "com/example/bo3/bo3/core/EventType"), (.object "com/example/bo3/bo3/core/EventType"), (.object "com/example/bo3/bo3/core/EventType"), (.object "com/example/bo3/bo3/core/EventType"), (.object "com/example/bo3/bo3/core/EventType"), (.object "com/example/bo3/bo3/core/EventType"), (.array (.object "com/example/bo3/bo3/core/EventType"))]
  resolved := Array.replicate 129 none
  statics := some 0 }

def pool7 : Array CpInfo := pool [(1, u "java/lang/Cloneable"), (0, .class_ 1), (0, u "java/lang/Object"), (0, .class_ 3)] 3

/-- java/lang/Cloneable -/
def k7 : Class := { plain "java/lang/Cloneable" (some 0) with
  accessFlags := 1537
  interfaces := #[]
  cf := some (fileOf pool7 2 #[] #[] 1537 4 #[] #[])
  fields := #[]
  methods := #[]
  instanceTypes := #[]
  staticTypes := #[]
  resolved := Array.replicate 8 none
  statics := none }

/-- the primitive byte -/
def k8 : Class := { plain "byte" none with kind := .primitive 'B', accessFlags := 0x411 }
/-- [B -/
def k9 : Class := { plain "[B" (some 0) with kind := .array 8 .byte, interfaces := #[7, 4], accessFlags := 1041 }

/-- the primitive int -/
def k10 : Class := { plain "int" none with kind := .primitive 'I', accessFlags := 0x411 }
/-- [I -/
def k11 : Class := { plain "[I" (some 0) with kind := .array 10 .int, interfaces := #[7, 4], accessFlags := 1041 }

def heap : Heap := #[{ cls := 6, slots := #[.ref 1, .ref 2, .ref 3, .ref 4, .ref 5, .ref 6, .ref 7, .ref 8, .ref 9, .null], vm := .statics 6 },
  { cls := 6, slots := #[.null, .int 0, .int 0, .null], vm := .none },
  { cls := 6, slots := #[.null, .int 1, .int 0, .null], vm := .none },
  { cls := 6, slots := #[.null, .int 2, .int 0, .null], vm := .none },
  { cls := 6, slots := #[.null, .int 3, .int 0, .null], vm := .none },
  { cls := 6, slots := #[.null, .int 4, .int 0, .null], vm := .none },
  { cls := 6, slots := #[.null, .int 5, .int 0, .null], vm := .none },
  { cls := 6, slots := #[.null, .int 6, .int 0, .null], vm := .none },
  { cls := 6, slots := #[.null, .int 7, .int 0, .null], vm := .none },
  { cls := 6, slots := #[.null, .int 8, .int 0, .null], vm := .none }]
def classes : Array Class := #[k0, k1, k2, k3, k4, k5, k6, k7, k8, k9, k10, k11]
def interned : List (Array UInt16 × Addr) := []
def slotsUsed : Nat := 46
def theMethod : MethodId := ⟨1, 3⟩
def args0 : Array Value := #[.int 5]
def aboutOver (below : List Frame) : State where
  vm := { classes := classes, interned := interned.toArray }
  heap := heap
  slotsUsed := slotsUsed
  threads := #[{ frames := .invoking theMethod args0 :: below }]
def below0 : List Frame := [.native { method := ⟨0, 0⟩, args := #[] }]
def about1 : State := aboutOver below0
def p0 : Program := .bare "" "" ""
def e0 : Env := launch0.env 0 0 0
theorem w_frames : about1.frames = Frame.invoking theMethod args0 :: below0 := rfl
set_option maxRecDepth 65536 in
theorem w_args : argsFit about1.vm theMethod args0 = true := by decide +kernel
set_option maxRecDepth 65536 in
theorem w_heap : heapFits about1 = true := by decide +kernel
set_option maxRecDepth 65536 in
theorem w_runnable : about1.curStatus? = some .runnable := by decide +kernel
set_option maxRecDepth 65536 in
theorem w_alone : about1.alone = true := by decide +kernel
set_option maxRecDepth 65536 in
theorem w_named : about1.methodNamed? x = some theMethod := by decide +kernel
set_option maxRecDepth 65536 in
theorem w_hears : about1.hears theMethod below0 = true := by decide +kernel
set_option maxRecDepth 65536 in
theorem w_ripe : about1.ripe theMethod args0 below0 = true := by decide +kernel
theorem w_running : about1.status = .running := rfl
set_option maxRecDepth 65536 in
theorem w_room : about1.hasRoom e0.platform room_1 = true :=
  launch0.hasRoom_least _ room_1 (by decide +kernel) (by decide +kernel) (by decide +kernel) (by decide +kernel) (by decide +kernel) (by decide +kernel)
theorem allAtoms_all (ts : List Jvm.Cond) (a : Array Jvm.Value) (st : Jvm.State) : (allAtoms ts).before a st = ts.all (fun c => c.before a st) := by
  induction ts with
  | nil => rfl
  | cons c t ih =>
    show (Jvm.Cond.and c (allAtoms t)).before a st = _
    rw [Jvm.Cond.before_and, ih, List.all_cons]
def words1 : List Jvm.Cond := Jvm.Cond.code x code maxLocals ret :: tables_1
/-- a 'code' word, met by the world's own term for the bytes: nothing is compared byte by byte -/
theorem code_word {y : MethodName} {bytes : ByteArray} {mx : Nat} {rt : Option FieldType} {a : Array Value} {s : State} {m : MethodId} {meth : Method} {c : Code} (h1 : s.methodNamed? y = some m) (h2 : s.vm.method? m = some meth) (h3 : meth.code = some c) (h4 : c.code = bytes)
    (h5 : (c.maxLocals == mx && c.exceptionTable.isEmpty && decide (c.maxStack ≤ mostOperands) && decide (meth.sig.returnType = rt) && !meth.locks && decide (parseMethodDescriptor y.desc = some meth.sig)) = true) : (Jvm.Cond.code y bytes mx rt).before a s = true := by
  simp only [Bool.and_eq_true, beq_iff_eq, Bool.not_eq_true', decide_eq_true_eq] at h5
  obtain ⟨⟨⟨⟨⟨g1, g2⟩, g3⟩, g4⟩, g5⟩, g6⟩ := h5
  simp [Cond.before, Cond.holds, Cond.value, h1, h2, h3, h4, g1, g2, g3, g4, g5, g6]
def isCode : Jvm.Cond → Bool
  | .code _ _ _ _ => true
  | _ => false
theorem all_split {L : List Jvm.Cond} {P : Jvm.Cond → Bool} (h1 : L.all (fun c => isCode c || P c) = true) (h2 : ∀ c ∈ L.filter isCode, P c = true) : L.all P = true := by
  refine List.all_eq_true.mpr fun c hc => ?_
  have h := List.all_eq_true.mp h1 c hc
  rcases Bool.eq_false_or_eq_true (isCode c) with hi | hi
  · exact h2 c (List.mem_filter.mpr ⟨hc, hi⟩)
  · simpa [hi] using h
set_option maxRecDepth 65536 in
theorem w_c0 : (Jvm.Cond.code x code maxLocals ret).before args0 about1 = true := code_word (m := ⟨1, 3⟩) (meth := k1m3) (c := k1c3) (by decide +kernel) rfl rfl rfl (by decide +kernel)
set_option maxRecDepth 65536 in
theorem w_c1 : (Jvm.Cond.code ({ cls := "com/example/bo3/bo3/core/EventTypeEndsRunPinLaw", name := "pick", desc := "(I)Lcom/example/bo3/bo3/core/EventType;" } : Jvm.MethodName) method_2_code (1 : Nat) (Option.some (Jvm.ClassFile.FieldType.object "com/example/bo3/bo3/core/EventType"))).before args0 about1 = true := code_word (m := ⟨1, 1⟩) (meth := k1m1) (c := k1c1) (by decide +kernel) rfl rfl rfl (by decide +kernel)
set_option maxRecDepth 65536 in
theorem w_c2 : (Jvm.Cond.code ({ cls := "com/example/bo3/bo3/core/EventType", name := "endsRun", desc := "()Z" } : Jvm.MethodName) prog_19_method_5_code (1 : Nat) (Option.some Jvm.ClassFile.FieldType.boolean)).before args0 about1 = true := code_word (m := ⟨6, 0⟩) (meth := k6m0) (c := k6c0) (by decide +kernel) rfl rfl rfl (by decide +kernel)
set_option maxRecDepth 65536 in
theorem w_c3 : (Jvm.Cond.code ({ cls := "com/example/bo3/bo3/core/EventTypeEndsRunPinLaw", name := "expected", desc := "(I)Z" } : Jvm.MethodName) method_3_code (1 : Nat) (Option.some Jvm.ClassFile.FieldType.boolean)).before args0 about1 = true := code_word (m := ⟨1, 2⟩) (meth := k1m2) (c := k1c2) (by decide +kernel) rfl rfl rfl (by decide +kernel)
def codes1 : List Jvm.Cond := [Jvm.Cond.code x code maxLocals ret, Jvm.Cond.code ({ cls := "com/example/bo3/bo3/core/EventTypeEndsRunPinLaw", name := "pick", desc := "(I)Lcom/example/bo3/bo3/core/EventType;" } : Jvm.MethodName) method_2_code (1 : Nat) (Option.some (Jvm.ClassFile.FieldType.object "com/example/bo3/bo3/core/EventType")), Jvm.Cond.code ({ cls := "com/example/bo3/bo3/core/EventType", name := "endsRun", desc := "()Z" } : Jvm.MethodName) prog_19_method_5_code (1 : Nat) (Option.some Jvm.ClassFile.FieldType.boolean), Jvm.Cond.code ({ cls := "com/example/bo3/bo3/core/EventTypeEndsRunPinLaw", name := "expected", desc := "(I)Z" } : Jvm.MethodName) method_3_code (1 : Nat) (Option.some Jvm.ClassFile.FieldType.boolean)]
set_option maxRecDepth 65536 in
theorem codes_eq : words1.filter isCode = codes1 := rfl
theorem w_codes : ∀ c ∈ words1.filter isCode, c.before args0 about1 = true := by
  rw [codes_eq]
  intro c hc
  simp only [codes1, List.mem_cons, List.not_mem_nil, or_false] at hc
  rcases hc with rfl | rfl | rfl | rfl
  · exact w_c0
  · exact w_c1
  · exact w_c2
  · exact w_c3
set_option maxRecDepth 65536 in
theorem w_t1 : (words1.take 24).all (fun c => isCode c || c.before args0 about1) = true := by decide +kernel
set_option maxRecDepth 65536 in
theorem w_t2 : (words1.drop 24).all (fun c => isCode c || c.before args0 about1) = true := by decide +kernel
theorem w_tables : (allAtoms (Jvm.Cond.code x code maxLocals ret :: tables_1)).before args0 about1 = true := by
  rw [allAtoms_all]
  show words1.all (fun c => c.before args0 about1) = true
  refine all_split ?_ w_codes
  rw [← List.take_append_drop 24 words1, List.all_append, w_t1, w_t2]
  rfl
set_option maxRecDepth 65536 in
theorem w_case : (Jvm.Cond.and given_1 narrow_1).before args0 about1 = true := by decide +kernel
theorem w_applies : (headSpec (Jvm.Cond.code x code maxLocals ret :: tables_1) room_1).applies x e0.platform about1 = true :=
  (Spec.applies_iff w_frames).mpr ⟨w_running, w_runnable, w_alone, w_named, w_hears, w_ripe, w_room, w_tables⟩
theorem atStart : AtStart classFile x code maxLocals ret World_1 tables_1 room_1 Calls_1 rest_1 Pre_1 launch0 p0 e0 about1 theMethod args0 below0 :=
  ⟨lists_1, trivial, launch0.admits_env _ _ _, launch0.least_env, fairChoices_fair.cas, fairChoices_fair.clock, w_frames, w_args, w_heap, w_applies, trivial, trivial, w_case⟩
end start1
theorem witness_1 : WitnessClaimed_1 := ⟨start1.p0, start1.e0, start1.about1, start1.theMethod, start1.args0, start1.below0, start1.atStart⟩
end Jvm.Pilot.@@N@@
