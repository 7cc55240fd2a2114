import JvmDerived
import JvmDerived.Pilot.@@N@@Statement
import JvmDerived.Pilot.@@N@@Code
set_option linter.unusedVariables false
set_option linter.unusedSimpArgs false
@@BLOCK:NumsL.lean.txt@@
namespace Jvm.Pilot.@@N@@
open Jvm Jvm.ClassFile Sem Op Lib Jvm.Free Jvm.Stand Jvm.LawKit Jvm.RoadKit Bundle Jvm.Pilot.@@N@@.Jvm.D
abbrev ym0 : MethodName := ⟨"com/example/grantway/grantway/protocol/PackedSet", "contains", "([J)Z"⟩
abbrev ym1 : MethodName := ⟨"com/example/grantway/grantway/protocol/PackedSet", "add", "([J)V"⟩
abbrev ym2 : MethodName := ⟨"java/util/BitSet", "get", "(I)Z"⟩
abbrev ym3 : MethodName := ⟨"com/example/grantway/grantway/protocol/PackedSet", "find", "([J)I"⟩
abbrev ym4 : MethodName := ⟨"com/example/grantway/grantway/protocol/PackedSet", "checkWidth", "([J)V"⟩
abbrev ym5 : MethodName := ⟨"com/example/grantway/grantway/protocol/PackedSetContainsPinLaw", "pick", "(IJJJJ)J"⟩
abbrev ym6 : MethodName := ⟨"com/example/grantway/grantway/protocol/PackedSet", "holds", "(I[J)Z"⟩
abbrev ym7 : MethodName := ⟨"java/util/BitSet", "wordIndex", "(I)I"⟩
abbrev ym8 : MethodName := ⟨"java/util/BitSet", "set", "(I)V"⟩
abbrev ym9 : MethodName := ⟨"com/example/grantway/grantway/protocol/PackedSet", "put", "(I[J)V"⟩
abbrev ym10 : MethodName := ⟨"java/util/BitSet", "checkInvariants", "()V"⟩
abbrev ym11 : MethodName := ⟨"java/util/BitSet", "expandTo", "(I)V"⟩
abbrev ym12 : MethodName := ⟨"java/lang/Long", "numberOfLeadingZeros", "(J)I"⟩
section Own
variable {p : Program} {l : Launch} {e : Env} {R : Room} {s : State} {m : MethodId} {args : Array Value} {below : List Frame} {meth : Method} {c : Code} {T : State} {locs : List Loc} {cells slots : Nat}
/-- from A the run ends, and what it leaves is as Q says -/
def own_go (p : Program) (e : Env) (below : List Frame) (s : State) (Q : Option Value → Heap → List Loc → Prop) (C S : Nat) (A : State) : Prop :=
  ∃ t o, Steps p.tables e below A t ∧ t.status = .running ∧ Ended t below o ∧ ∃ v L, o = .returned v ∧ Q v t.heap L ∧ FrameEnd s o t L C S
variable {Q : Option Value → Heap → List Loc → Prop} {C S : Nat} {A B : State}
theorem own_in (h : own_go p e below s Q C S A) : ∃ t o, Steps p.tables e below A t ∧ t.status = .running ∧ Ended t below o ∧ ∃ v L, o = .returned v ∧ Q v t.heap L ∧ FrameEnd s o t L C S := h
theorem own_of (k : ∀ t, Steps p.tables e below B t → Steps p.tables e below A t) (h : own_go p e below s Q C S B) : own_go p e below s Q C S A := by
  obtain ⟨t, o, h1, h2⟩ := h
  exact ⟨t, o, k t h1, h2⟩
theorem own_lt {a b : Nat} (h : a < b) : a < b := h
theorem own_ne {a b : Nat} (h : a ≠ b) : a ≠ b := h
theorem own_use {α : Type} (X : Stand p l e R s m args below meth c T locs cells slots) {h : Heap} {g : α → JFrame} {G : State → Prop} (k : ∀ (r : α) (T' : State), Stand p l e R s m args below meth c T' locs cells slots → T'.heap = h → G (T'.setTop (g r)))
    (b : (∀ (r : α) (T' : State), Stand p l e R s m args below meth c T' locs cells slots → T'.heap = h → G (T'.setTop (g r))) → G A) : G A := b k
theorem own_ret (X : Stand p l e R s m args below meth c T locs cells slots) (hx : p.tables.exec = Jvm.exec) (hlk : meth.locks = false) {pc : Nat} {Ls : Array Slot} {w : Value} {t : FieldType} {i : Instr} {rest : List Value} (hret : meth.sig.returnType = some t) (hn : narrow t w = w)
    (hi : (i = .ireturn ∧ (t = .int ∨ t = .boolean ∨ t = .byte ∨ t = .char ∨ t = .short) ∧ ∃ z, w = .int z) ∨ (i = .lreturn ∧ t = .long ∧ ∃ z, w = .long z) ∨ (i = .dreturn ∧ t = .double ∧ ∃ z, w = .double z) ∨ (i = .freturn ∧ t = .float ∧ ∃ z, w = .float z) ∨ (i = .areturn ∧ t.isReference = true ∧ w.isRef = true))
    (hd : decode c.code pc = .ok (i, 1)) (hc : cells ≤ C) (hs : slots ≤ S) (hQ : Q (some w) T.heap locs) : own_go p e below s Q C S (T.setTop (mkF m pc Ls (w :: rest))) := by
  obtain ⟨fs, hr, hrun, hended, hW, hsame⟩ := X.leave (v := some w) (fun h => by rw [hret] at h; cases h) hlk
  exact ⟨_, _, retOut X hx hret hn hi hd hr, hrun, hended, _, _, rfl, hQ, ⟨_, rfl⟩, hW, hsame.mono hc hs⟩
theorem own_retV (X : Stand p l e R s m args below meth c T locs cells slots) (hx : p.tables.exec = Jvm.exec) (hlk : meth.locks = false) {pc : Nat} {Ls : Array Slot} (hret : meth.sig.returnType = none)
    (hd : decode c.code pc = .ok (.return_, 1)) (hc : cells ≤ C) (hs : slots ≤ S) (hQ : Q none T.heap locs) : own_go p e below s Q C S (T.setTop (mkF m pc Ls [])) := by
  obtain ⟨fs, hr, hrun, hended, hW, hsame⟩ := X.leave (v := none) (fun _ => rfl) hlk
  exact ⟨_, _, X.returnOut hx hret hd hr, hrun, hended, _, _, rfl, hQ, ⟨_, rfl⟩, hW, hsame.mono hc hs⟩
/-- the same where String constants may have been loaded -/
def own_gw (p : Program) (e : Env) (below : List Frame) (s : State) (Q : Option Value → Heap → List Loc → Prop) (C S : Nat) (A : State) : Prop :=
  ∃ t o, Steps p.tables e below A t ∧ t.status = .running ∧ Ended t below o ∧ ∃ v L, o = .returned v ∧ Q v t.heap L ∧ ReturnedEndW s o t L C S
theorem own_inw (h : own_gw p e below s Q C S A) : ∃ t o, Steps p.tables e below A t ∧ t.status = .running ∧ Ended t below o ∧ ∃ v L, o = .returned v ∧ Q v t.heap L ∧ ReturnedEndW s o t L C S := h
theorem own_ofw (k : ∀ t, Steps p.tables e below B t → Steps p.tables e below A t) (h : own_gw p e below s Q C S B) : own_gw p e below s Q C S A := by
  obtain ⟨t, o, h1, h2⟩ := h
  exact ⟨t, o, k t h1, h2⟩
theorem own_retw {vm0 : Vm} {k0 : Nat} (X : Stand p l e R (s.setVm vm0) m args below meth c T locs cells slots) (hx : p.tables.exec = Jvm.exec) (hlk : meth.locks = false) (hS : s.Since vm0 k0) (hk : k0 ≤ T.heap.size) {pc : Nat} {Ls : Array Slot} {w : Value} {t : FieldType} {i : Instr} {rest : List Value} (hret : meth.sig.returnType = some t) (hn : narrow t w = w)
    (hi : (i = .ireturn ∧ (t = .int ∨ t = .boolean ∨ t = .byte ∨ t = .char ∨ t = .short) ∧ ∃ z, w = .int z) ∨ (i = .lreturn ∧ t = .long ∧ ∃ z, w = .long z) ∨ (i = .dreturn ∧ t = .double ∧ ∃ z, w = .double z) ∨ (i = .freturn ∧ t = .float ∧ ∃ z, w = .float z) ∨ (i = .areturn ∧ t.isReference = true ∧ w.isRef = true))
    (hd : decode c.code pc = .ok (i, 1)) (hc : cells ≤ C) (hs : slots ≤ S) (hQ : Q (some w) T.heap locs) : own_gw p e below s Q C S (T.setTop (mkF m pc Ls (w :: rest))) := by
  obtain ⟨fs, hr, hrun, hended, h1, h2, h3, h4⟩ := X.leaveW hS hk (v := some w) (fun h => by rw [hret] at h; cases h) hlk
  exact ⟨_, _, retOut X hx hret hn hi hd hr, hrun, hended, _, _, rfl, hQ, h1, h2, h3, h4.mono hc hs⟩
theorem own_retVw {vm0 : Vm} {k0 : Nat} (X : Stand p l e R (s.setVm vm0) m args below meth c T locs cells slots) (hx : p.tables.exec = Jvm.exec) (hlk : meth.locks = false) (hS : s.Since vm0 k0) (hk : k0 ≤ T.heap.size) {pc : Nat} {Ls : Array Slot} (hret : meth.sig.returnType = none)
    (hd : decode c.code pc = .ok (.return_, 1)) (hc : cells ≤ C) (hs : slots ≤ S) (hQ : Q none T.heap locs) : own_gw p e below s Q C S (T.setTop (mkF m pc Ls [])) := by
  obtain ⟨fs, hr, hrun, hended, h1, h2, h3, h4⟩ := X.leaveW hS hk (v := none) (fun _ => rfl) hlk
  exact ⟨_, _, X.returnOut hx hret hd hr, hrun, hended, _, _, rfl, hQ, h1, h2, h3, h4.mono hc hs⟩
/-- the same, with what the JVM holds for the constants of EL -/
def own_gc (p : Program) (e : Env) (below : List Frame) (s : State) (Z : State) (EL : List (String × Nat)) (Q : Option Value → Heap → List Loc → Prop) (C S : Nat) (A : State) : Prop :=
  ∃ t o, Steps p.tables e below A t ∧ t.status = .running ∧ Ended t below o ∧ ∃ v L, o = .returned v ∧ Q v t.heap L ∧ CHr Z EL s.vm s.heap t.vm t.heap ∧ ReturnedEndW s o t L C S
variable {Z : State} {EL : List (String × Nat)} {a0 : Array Value}
theorem own_inc (h : own_gc p e below s Z EL Q C S A) : ∃ t o, Steps p.tables e below A t ∧ t.status = .running ∧ Ended t below o ∧ ∃ v L, o = .returned v ∧ Q v t.heap L ∧ CHr Z EL s.vm s.heap t.vm t.heap ∧ ReturnedEndW s o t L C S := h
theorem own_ofc (k : ∀ t, Steps p.tables e below B t → Steps p.tables e below A t) (h : own_gc p e below s Z EL Q C S B) : own_gc p e below s Z EL Q C S A := by
  obtain ⟨t, o, h1, h2⟩ := h
  exact ⟨t, o, k t h1, h2⟩
theorem own_retc {vm0 : Vm} {k0 : Nat} (X : Stand p l e R (s.setVm vm0) m args below meth c T locs cells slots) (hx : p.tables.exec = Jvm.exec) (hlk : meth.locks = false) (hS : s.Since vm0 k0) (hk : k0 ≤ T.heap.size) (hZ : Z.Warmed39 vm0) (hEL : EW Z a0 EL) (H : CHr Z EL s.vm s.heap vm0 T.heap) {pc : Nat} {Ls : Array Slot} {w : Value} {t : FieldType} {i : Instr} {rest : List Value} (hret : meth.sig.returnType = some t) (hn : narrow t w = w)
    (hi : (i = .ireturn ∧ (t = .int ∨ t = .boolean ∨ t = .byte ∨ t = .char ∨ t = .short) ∧ ∃ z, w = .int z) ∨ (i = .lreturn ∧ t = .long ∧ ∃ z, w = .long z) ∨ (i = .dreturn ∧ t = .double ∧ ∃ z, w = .double z) ∨ (i = .freturn ∧ t = .float ∧ ∃ z, w = .float z) ∨ (i = .areturn ∧ t.isReference = true ∧ w.isRef = true))
    (hd : decode c.code pc = .ok (i, 1)) (hc : cells ≤ C) (hs : slots ≤ S) (hQ : Q (some w) T.heap locs) : own_gc p e below s Z EL Q C S (T.setTop (mkF m pc Ls (w :: rest))) := by
  obtain ⟨fs, hr, hrun, hended, h1, h2, h3, h4⟩ := X.leaveW hS hk (v := some w) (fun h => by rw [hret] at h; cases h) hlk
  have q : CHr Z EL s.vm s.heap T.vm T.heap := H.trans (CHv.at X hZ hEL H.1)
  exact ⟨_, _, retOut X hx hret hn hi hd hr, hrun, hended, _, _, rfl, hQ, q, h1, h2, h3, h4.mono hc hs⟩
theorem own_retVc {vm0 : Vm} {k0 : Nat} (X : Stand p l e R (s.setVm vm0) m args below meth c T locs cells slots) (hx : p.tables.exec = Jvm.exec) (hlk : meth.locks = false) (hS : s.Since vm0 k0) (hk : k0 ≤ T.heap.size) (hZ : Z.Warmed39 vm0) (hEL : EW Z a0 EL) (H : CHr Z EL s.vm s.heap vm0 T.heap) {pc : Nat} {Ls : Array Slot} (hret : meth.sig.returnType = none)
    (hd : decode c.code pc = .ok (.return_, 1)) (hc : cells ≤ C) (hs : slots ≤ S) (hQ : Q none T.heap locs) : own_gc p e below s Z EL Q C S (T.setTop (mkF m pc Ls [])) := by
  obtain ⟨fs, hr, hrun, hended, h1, h2, h3, h4⟩ := X.leaveW hS hk (v := none) (fun _ => rfl) hlk
  have q : CHr Z EL s.vm s.heap T.vm T.heap := H.trans (CHv.at X hZ hEL H.1)
  exact ⟨_, _, X.returnOut hx hret hd hr, hrun, hended, _, _, rfl, hQ, q, h1, h2, h3, h4.mono hc hs⟩
open Jvm.Free.SB Jvm.Free.SBG in
/-- a String that has no array yet is no constant's -/
theorem own_safe_null {vm : Vm} {h : Heap} {x : Addr} (hal : Z.vm.Alike vm) (E : Exa Z h x "java/lang/String") (F : Fld Z h x "java/lang/String" "value" "[B" .null) : Safe Z EL vm h x := fun B => by
  obtain ⟨p, -, u, a, -, q, -, F', rfl | rfl⟩ := B
  · obtain ⟨cS, ⟨⟨s1, s2, s3, ⟨cv, kv, iv, s4, s4'⟩, s5, s6, s7, s8, -⟩, -, -⟩, -⟩ := F'
    obtain ⟨cell, cf, k, i, f, h1, h2, h3, -, -, -, h7⟩ := F
    cases (show h[q.sa]? = some q.sC from s1).symm.trans h1
    obtain ⟨kv', z4⟩ := ff_back (U := Wst Z vm h) hal s4
    have e4 := z4.symm.trans h2
    simp only [Option.some.injEq, Prod.mk.injEq] at e4
    rw [e4.2.2.2] at s8
    have := s8.symm.trans h7
    simp at this
  · obtain ⟨cell, k, e1, e2, e3, -, -⟩ := E
    cases (show h[q.sd]? = some q.SA from F'.hd).symm.trans e1
    obtain ⟨cS, -, -, f, -⟩ := F'
    have f' : vm.findClass "[B" = some q.SA.cls := f
    rw [hal.findClass] at f'
    obtain ⟨k1, q1, q2⟩ := Vm.findClass_spec f'
    obtain ⟨k2, q3, q4⟩ := Vm.findClass_spec e2
    cases q1.symm.trans q3
    have := q2.symm.trans q4
    simp at this
theorem own_ex {t : Term} {K : String} (h : (Jvm.Cond.exactly t K).value args s none s [] = some true) : ∃ a, t.eval args s none [] s = some (.ref a) ∧ Exa s s.heap a K := by
  obtain ⟨a, ha⟩ := exa_v h
  exact ⟨a, ha, Exa.start ha h⟩
theorem own_fi {t : Term} {K n d : String} {a : Addr} {k : Int32} (ht : t.eval args s none [] s = some (.ref a)) (h : (Jvm.Cond.eq (Term.field t K n d) (Term.int k)).value args s none s [] = some true) : Fld s s.heap a K n d (.int k) := by
  obtain ⟨x, y, h1, h2, h3, h4⟩ := cmp_v (Or.inl h)
  have e2 := Option.some.inj ((Term.int_eval k).symm.trans h2)
  subst e2
  rw [fld_at ht] at h1
  obtain ⟨z, rfl⟩ := h4
  have hz : s.fieldOf? a K n d = some (.int z) := h1
  have : z = k := by
    have h5 : (Term.field t K n d).eval args s none [] s = some (.int z) := (fld_at ht).trans hz
    simpa [Cond.value, h5, Term.int_eval] using h
  subst this
  exact Fld.start hz
end Own
abbrev own_R (a b c d : Nat) : Room := { frames := a, cells := b, slots := c, locals := d }
abbrev own_H (Z : State) (a0 : Array Value) : Prop := ∀ d ∈ tables_1, d.before a0 Z = true
theorem own_hW {Z : State} {a0 : Array Value} (hw : own_H Z a0) : ∀ (i : Nat) (d : Jvm.Cond), tables_1[i]? = some d → d.before a0 Z = true := fun i d h => hw d (List.mem_of_getElem? h)
abbrev own_M (l : Launch) (Z : State) (y : MethodName) (code : ByteArray) (ws : List Jvm.Cond) (ml : Nat) (ret : Option FieldType) (R : Room) (A : Array Value) (h0 : Heap) (Q : Option Value → Heap → List Loc → Prop) : Prop := MetFree l y (head1 (Jvm.Cond.code y code ml ret :: ws) R) (fun zz_ U => zz_ = A ∧ Z.Warmed39 U.vm ∧ U.heap = h0) (fun _ _ _ _ _ => True) (fun _ U o U' => ∃ v L, o = .returned v ∧ Q v U'.heap L ∧ FrameEnd U o U' L R.cells R.slots)
theorem own_open {l : Launch} {Z : State} {y : MethodName} {code : ByteArray} {ws : List Jvm.Cond} {ml : Nat} {ret : Option FieldType} {R : Room} {A : Array Value} {h0 : Heap} {Q : Option Value → Heap → List Loc → Prop} (hpl : plainFor y = true)
    (k : ∀ (p : Program) (e : Env) (s : State) (m : MethodId) (below : List Frame) (meth : Method) (c : Code) (s₁ : State), p.tables.exec = Jvm.exec → c.code = code → meth.locks = false → meth.sig.returnType = ret → c.maxLocals = ml → s.vm.findClass y.cls = some m.cls → meth.name = y.name → Z.Warmed39 s.vm → Stand p l e R s m A below meth c s₁ [] 0 0 → s₁.heap = h0 → own_go p e below s Q R.cells R.slots (s₁.setTop (entryFrame m A ml))) : own_M l Z y code ws ml ret R A h0 Q := by
  refine MetFree.of_bodySF hpl hisR ?_
  intro p e s m args below meth c s₁ Bd hml0 hP hK
  obtain ⟨rfl, hZ, hh⟩ := hP
  exact k p e s m below meth c s₁ Bd.exec Bd.bytes Bd.notSynchronized Bd.returns hml0 (findClass_of_methodNamed Bd.named) (name_of_methodNamed Bd.named Bd.method).1 hZ (Stand.of_body Bd) (by rw [← hh, Bd.state]; rfl)
theorem own_len {s : State} {args : Array Value} {t : Term} {a : Addr} {cl : Cell} {ty : FieldType} {k : Int32} (ht : t.eval args s none [] s = some (.ref a)) (A : Arr s s.heap a cl ty) (h : (Jvm.Cond.eq (Term.length t) (Term.int k)).value args s none s [] = some true) : cl.slots.size.toInt32 = k ∧ cl.slots.size < 2 ^ 31 := by
  obtain ⟨x, y, h1, h2, h3, h4⟩ := cmp_v (Or.inl h)
  have e2 := Option.some.inj ((Term.int_eval k).symm.trans h2)
  subst e2
  obtain ⟨z, rfl⟩ := h4
  have hA : s.arrayAt? a = some cl := A.fin (Vm.Alike.refl _)
  by_cases hl : cl.slots.size < 2 ^ 31
  · have h5 := len_f ht hA hl
    have h6 : cl.slots.size.toInt32 = z := by have := h5.symm.trans h1; simpa using this
    refine ⟨?_, hl⟩
    rw [h6]
    simpa [Cond.value, h1, Term.int_eval] using h
  · simp [Term.eval, ht, hA, hl] at h1
theorem own_el {s : State} {args : Array Value} {t : Term} {a : Addr} {cl : Cell} {ty : FieldType} {k j : Int32} (ht : t.eval args s none [] s = some (.ref a)) (A : Arr s s.heap a cl ty) (h : (Jvm.Cond.eq (Term.elem t (Term.int j)) (Term.int k)).value args s none s [] = some true) : cl.slots[j.toNatClampNeg]? = some (.int k) := by
  obtain ⟨x, y, h1, h2, h3, h4⟩ := cmp_v (Or.inl h)
  have e2 := Option.some.inj ((Term.int_eval k).symm.trans h2)
  subst e2
  obtain ⟨z, rfl⟩ := h4
  have h5 := (elem_in h1 ht (Term.int_eval j) A.1).2
  have : z = k := by simpa [Cond.value, h1, Term.int_eval] using h
  rw [h5, this]
theorem own_er {s : State} {args : Array Value} {t u : Term} {a b : Addr} {cl : Cell} {ty : FieldType} {j : Int32} (ht : t.eval args s none [] s = some (.ref a)) (hu : u.eval args s none [] s = some (.ref b)) (A : Arr s s.heap a cl ty) (h : (Jvm.Cond.eq (Term.elem t (Term.int j)) u).value args s none s [] = some true) : cl.slots[j.toNatClampNeg]? = some (.ref b) := by
  obtain ⟨x, y, h1, h2, h3, h4⟩ := cmp_v (Or.inl h)
  have e2 := Option.some.inj (hu.symm.trans h2)
  subst e2
  have h5 := (elem_in h1 ht (Term.int_eval j) A.1).2
  rw [h5]
  cases x <;> simp [Cond.value, h1, hu] at h ⊢
  exact h
theorem own_fr {s : State} {args : Array Value} {t : Term} {a b : Addr} {K n d : String} (ht : t.eval args s none [] s = some (.ref a)) (hf : (Term.field t K n d).eval args s none [] s = some (.ref b)) : Fld s s.heap a K n d (.ref b) := Fld.start ((fld_at ht).symm.trans hf)
theorem own_selp {Z : State} {a0 : Array Value} {y z : MethodName} (hs : (Jvm.Cond.selects y.cls z z).before a0 Z = true) (hc : z.cls = y.cls) (hp : (Jvm.Cond.privateMethod y).before a0 Z = true) (hi : (Jvm.Cond.instanceMethod y).before a0 Z = true) (hy : y.cls ≠ "java/lang/invoke/MethodHandle" ∧ y.cls ≠ "java/lang/invoke/VarHandle") : (Jvm.Cond.selects y.cls y y).before a0 Z = true := by
  obtain ⟨c2, r2, m2, q1, q2, q3, q4, kP, hkP, hkPi⟩ := Cond.selects_spec hs
  have q5 := findClass_of_methodNamed q3
  rw [hc] at q5
  cases q5.symm.trans q1
  exact Stand.selects_self_of_private q1 hkP hkPi (Cond.privateMethod_at hp) hi hy
theorem own_si {s : State} {args : Array Value} {t : Term} {k : Int32} (h : (Jvm.Cond.eq t (Term.int k)).value args s none s [] = some true) : t.eval args s none [] s = some (.int k) := by
  obtain ⟨x, y, h1, h2, h3, h4⟩ := cmp_v (Or.inl h)
  have e2 := Option.some.inj ((Term.int_eval k).symm.trans h2)
  subst e2
  obtain ⟨z, rfl⟩ := h4
  have : z = k := by simpa [Cond.value, h1, Term.int_eval] using h
  rw [h1, this]
theorem own_and3 (x : Int32) : x &&& 3 = 0 ∨ x &&& 3 = 1 ∨ x &&& 3 = 2 ∨ x &&& 3 = 3 := by
  have e1 : (x &&& 3).toInt = x.toInt % 2 ^ 2 := Jvm.Kit.i32_mask x 3 (k := 2) (by decide) (by decide)
  simp only [← Int32.toInt_inj, show (0 : Int32).toInt = 0 from rfl, show (1 : Int32).toInt = 1 from rfl, show (2 : Int32).toInt = 2 from rfl, show (3 : Int32).toInt = 3 from rfl]
  omega
def own_s (z : Int32) : Prop := ∃ k : Nat, k < 16 ∧ z = Int32.ofNat k
theorem own_s_all {P : Int32 → Prop} (h : ∀ k : Fin 16, P (Int32.ofNat k.val)) {z : Int32} (q : own_s z) : P z := by
  obtain ⟨k, hk, rfl⟩ := q
  exact h ⟨k, hk⟩
theorem own_s_ge {z : Int32} (q : own_s z) : ¬ z < (0 : Int32) := own_s_all (P := fun z => ¬ z < (0 : Int32)) (by decide) q
theorem own_s_wi {z : Int32} (q : own_s z) : z >>> ((6 : Int32) &&& 31) = 0 := own_s_all (P := fun z => z >>> ((6 : Int32) &&& 31) = 0) (by decide) q
theorem own_s_div {z : Int32} (q : own_s z) : z / (8192 : Int32) = 0 := own_s_all (P := fun z => z / (8192 : Int32) = 0) (by decide) q
theorem own_s_rem {z : Int32} (q : own_s z) : z % (8192 : Int32) = z := own_s_all (P := fun z => z % (8192 : Int32) = z) (by decide) q
theorem own_s_dp {z : Int32} (q : own_s z) : ¬ (z * (2 : Int32)) < 0 := own_s_all (P := fun z => ¬ (z * (2 : Int32)) < 0) (by decide) q
theorem own_s_dn {z : Int32} (q : own_s z) : (z * (2 : Int32)).toNatClampNeg + (2 : Int32).toNatClampNeg ≤ 32 := own_s_all (P := fun z => (z * (2 : Int32)).toNatClampNeg + (2 : Int32).toNatClampNeg ≤ 32) (by decide) q
theorem own_s_b0 {z : Int32} (q : own_s z) : ¬ (z * (2 : Int32) + (0 : Int32)) < 0 ∧ (z * (2 : Int32) + (0 : Int32)) < (32 : Int32) := own_s_all (P := fun z => ¬ (z * (2 : Int32) + (0 : Int32)) < 0 ∧ (z * (2 : Int32) + (0 : Int32)) < (32 : Int32)) (by decide) q
theorem own_s_b1 {z : Int32} (q : own_s z) : ¬ (z * (2 : Int32) + (1 : Int32)) < 0 ∧ (z * (2 : Int32) + (1 : Int32)) < (32 : Int32) := own_s_all (P := fun z => ¬ (z * (2 : Int32) + (1 : Int32)) < 0 ∧ (z * (2 : Int32) + (1 : Int32)) < (32 : Int32)) (by decide) q
def own_nx (z : Int32) : Int32 := (z + (1 : Int32)) &&& (15 : Int32)
theorem own_nx_s {z : Int32} (q : own_s z) : own_s (own_nx z) := by
  have t : ∀ k : Fin 16, own_nx (Int32.ofNat k.val) = Int32.ofNat ((k.val + 1) % 16) := by decide
  obtain ⟨k, hk, rfl⟩ := q
  exact ⟨(k + 1) % 16, Nat.mod_lt _ (by decide), t ⟨k, hk⟩⟩
theorem own_nx_ne {z : Int32} (q : own_s z) : z ≠ own_nx z ∧ z ≠ own_nx (own_nx z) ∧ z ≠ own_nx (own_nx (own_nx z)) := own_s_all (P := fun z => z ≠ own_nx z ∧ z ≠ own_nx (own_nx z) ∧ z ≠ own_nx (own_nx (own_nx z))) (by decide) q
def own_m (z : Int32) : Int64 := (1 : Int64) <<< (z &&& 0x3f).toInt64
def own_bit (W : Int64) (z : Int32) : Int32 := if lcmpW (W &&& own_m z) (0 : Int64) = 0 then 0 else 1
theorem own_bit01 (W : Int64) (z : Int32) : own_bit W z = 0 ∨ own_bit W z = 1 := by unfold own_bit; split <;> simp
theorem own_bit0 {W : Int64} {z : Int32} : own_bit W z = 0 ↔ W &&& own_m z = 0 := by
  unfold own_bit
  simp only [lw_eq]
  by_cases q : W &&& own_m z = 0 <;> simp [q]
theorem own_m_ne {z r : Int32} (qz : own_s z) (qr : own_s r) (h : z ≠ r) : own_m r &&& own_m z = 0 := by
  have t : ∀ k j : Fin 16, k ≠ j → own_m (Int32.ofNat j.val) &&& own_m (Int32.ofNat k.val) = 0 := by decide +kernel
  obtain ⟨k, hk, rfl⟩ := qz
  obtain ⟨j, hj, rfl⟩ := qr
  exact t ⟨k, hk⟩ ⟨j, hj⟩ (fun e => h (by rw [show k = j from congrArg Fin.val e]))
theorem own_m_0 {z : Int32} (qz : own_s z) : own_m z ≠ 0 := own_s_all (P := fun z => own_m z ≠ 0) (by decide +kernel) qz
theorem own_bit_or {W : Int64} {z r : Int32} (qz : own_s z) (qr : own_s r) (h : z ≠ r) : own_bit (W ||| own_m r) z = own_bit W z := by
  have e : (W ||| own_m r) &&& own_m z = W &&& own_m z := by
    have e2 : (W ||| own_m r) &&& own_m z = (W &&& own_m z) ||| (own_m r &&& own_m z) := by
      apply Int64.toBitVec_inj.mp
      simp only [Int64.toBitVec_and, Int64.toBitVec_or]
      ext i
      simp [Bool.and_or_distrib_right]
    rw [e2, own_m_ne qz qr h]
    simp
  unfold own_bit
  rw [e]
theorem own_bit_same {W : Int64} {r : Int32} (qr : own_s r) : ¬ own_bit (W ||| own_m r) r = 0 := by
  rw [own_bit0]
  intro q
  apply own_m_0 qr
  have e : own_m r = ((W ||| own_m r) &&& own_m r) := by
    apply Int64.toBitVec_inj.mp
    simp only [Int64.toBitVec_and, Int64.toBitVec_or]
    ext i
    simp only [BitVec.getElem_and, BitVec.getElem_or]
    cases (W.toBitVec[i]) <;> cases ((own_m r).toBitVec[i]) <;> rfl
  rw [e]
  exact q
theorem own_bit_z {z : Int32} : own_bit 0 z = 0 := by rw [own_bit0]; simp
def own_hold (K0 K1 : Int32 → Int64) (k0 k1 : Int64) (z : Int32) : Int32 := if lcmpW (K0 z) k0 = 0 then (if lcmpW (K1 z) k1 = 0 then 1 else 0) else 0
theorem own_hold1 {K0 K1 : Int32 → Int64} {k0 k1 : Int64} {z : Int32} : ¬ own_hold K0 K1 k0 k1 z = 0 ↔ (K0 z = k0 ∧ K1 z = k1) := by
  unfold own_hold
  simp only [lw_eq]
  by_cases q : K0 z = k0 <;> by_cases q2 : K1 z = k1 <;> simp [q, q2]
def own_pg (K0 K1 : Int32 → Int64) : List Value := (List.range 32).map fun j => Value.long (if j % 2 = 0 then K0 (Int32.ofNat (j / 2)) else K1 (Int32.ofNat (j / 2)))
theorem own_pg0 {K0 K1 : Int32 → Int64} {z : Int32} (q : own_s z) : (own_pg K0 K1).getD (z * (2 : Int32) + (0 : Int32)).toNatClampNeg (.long 0) = .long (K0 z) := by
  obtain ⟨k, hk, rfl⟩ := q
  have h : k = 0 ∨ k = 1 ∨ k = 2 ∨ k = 3 ∨ k = 4 ∨ k = 5 ∨ k = 6 ∨ k = 7 ∨ k = 8 ∨ k = 9 ∨ k = 10 ∨ k = 11 ∨ k = 12 ∨ k = 13 ∨ k = 14 ∨ k = 15 := by omega
  rcases h with rfl | rfl | rfl | rfl | rfl | rfl | rfl | rfl | rfl | rfl | rfl | rfl | rfl | rfl | rfl | rfl <;> rfl
theorem own_pg1 {K0 K1 : Int32 → Int64} {z : Int32} (q : own_s z) : (own_pg K0 K1).getD (z * (2 : Int32) + (1 : Int32)).toNatClampNeg (.long 0) = .long (K1 z) := by
  obtain ⟨k, hk, rfl⟩ := q
  have h : k = 0 ∨ k = 1 ∨ k = 2 ∨ k = 3 ∨ k = 4 ∨ k = 5 ∨ k = 6 ∨ k = 7 ∨ k = 8 ∨ k = 9 ∨ k = 10 ∨ k = 11 ∨ k = 12 ∨ k = 13 ∨ k = 14 ∨ k = 15 := by omega
  rcases h with rfl | rfl | rfl | rfl | rfl | rfl | rfl | rfl | rfl | rfl | rfl | rfl | rfl | rfl | rfl | rfl <;> rfl
def own_up (K : Int32 → Int64) (r : Int32) (k : Int64) : Int32 → Int64 := fun z => if z = r then k else K z
theorem own_pg_len (K0 K1 : Int32 → Int64) : (own_pg K0 K1).length = 32 := rfl
theorem own_pg_set {K0 K1 : Int32 → Int64} {k0 k1 : Int64} {r : Int32} (q : own_s r) : (own_pg K0 K1).take (r * (2 : Int32)).toNatClampNeg ++ [Value.long k0, Value.long k1] ++ (own_pg K0 K1).drop ((r * (2 : Int32)).toNatClampNeg + (2 : Int32).toNatClampNeg) = own_pg (own_up K0 r k0) (own_up K1 r k1) := by
  obtain ⟨k, hk, rfl⟩ := q
  have h : k = 0 ∨ k = 1 ∨ k = 2 ∨ k = 3 ∨ k = 4 ∨ k = 5 ∨ k = 6 ∨ k = 7 ∨ k = 8 ∨ k = 9 ∨ k = 10 ∨ k = 11 ∨ k = 12 ∨ k = 13 ∨ k = 14 ∨ k = 15 := by omega
  rcases h with rfl | rfl | rfl | rfl | rfl | rfl | rfl | rfl | rfl | rfl | rfl | rfl | rfl | rfl | rfl | rfl <;> rfl
def own_hash (k0 k1 : Int64) : Int32 := ((((((((0 : Int64) ^^^ k0) * (-7046029254386353131 : Int64)) ^^^ k1) * (-7046029254386353131 : Int64)).toUInt64 >>> ((60 : Int32) &&& 0x3f).toInt64.toUInt64).toInt64).toInt32)
theorem own_hash_s (k0 k1 : Int64) : own_s (own_hash k0 k1) := by
  unfold own_hash
  generalize (((((0 : Int64) ^^^ k0) * (-7046029254386353131 : Int64)) ^^^ k1) * (-7046029254386353131 : Int64)).toUInt64 = U
  have e : ((60 : Int32) &&& 0x3f).toInt64.toUInt64 = 60 := by decide
  rw [e]
  have hlt : (U >>> 60).toNat < 16 := by
    have := U.toNat_lt
    rw [UInt64.toNat_shiftRight]
    show U.toNat >>> (60 % 64) < 16
    rw [Nat.shiftRight_eq_div_pow, show (2 : Nat) ^ (60 % 64) = 1152921504606846976 from by decide]
    omega
  have t : ∀ k : Fin 16, (UInt64.ofNat k.val).toInt64.toInt32 = Int32.ofNat k.val := by decide
  refine ⟨(U >>> 60).toNat, hlt, ?_⟩
  have := t ⟨(U >>> 60).toNat, hlt⟩
  rwa [UInt64.ofNat_toNat] at this
def own_stop (W : Int64) (K0 K1 : Int32 → Int64) (k0 k1 : Int64) (z : Int32) : Prop := own_bit W z = 0 ∨ ¬ own_hold K0 K1 k0 k1 z = 0
def own_pass (W : Int64) (K0 K1 : Int32 → Int64) (k0 k1 : Int64) (z : Int32) : Prop := ¬ own_bit W z = 0 ∧ own_hold K0 K1 k0 k1 z = 0
def own_fnd (W : Int64) (K0 K1 : Int32 → Int64) (k0 k1 : Int64) : Nat → Int32 → Int32 → Prop
  | 0, z, r => r = z ∧ own_stop W K0 K1 k0 k1 z
  | n + 1, z, r => (r = z ∧ own_stop W K0 K1 k0 k1 z) ∨ (own_pass W K0 K1 k0 k1 z ∧ own_fnd W K0 K1 k0 k1 n (own_nx z) r)
theorem own_sp {W : Int64} {K0 K1 : Int32 → Int64} {k0 k1 : Int64} {z : Int32} (a : own_stop W K0 K1 k0 k1 z) (b : own_pass W K0 K1 k0 k1 z) : False := a.elim b.1 (fun q => q b.2)
theorem own_fnd_one {W : Int64} {K0 K1 : Int32 → Int64} {k0 k1 : Int64} : ∀ (n : Nat) {z r r' : Int32}, own_fnd W K0 K1 k0 k1 n z r → own_fnd W K0 K1 k0 k1 n z r' → r = r'
  | 0, z, r, r', a, b => a.1.trans b.1.symm
  | n + 1, z, r, r', a, b => by
    rcases a with a | a <;> rcases b with b | b
    · exact a.1.trans b.1.symm
    · exact (own_sp a.2 b.1).elim
    · exact (own_sp b.2 a.1).elim
    · exact own_fnd_one n a.2 b.2
theorem own_fnd_stop {W : Int64} {K0 K1 : Int32 → Int64} {k0 k1 : Int64} : ∀ (n : Nat) {z r : Int32}, own_fnd W K0 K1 k0 k1 n z r → own_stop W K0 K1 k0 k1 r
  | 0, z, r, a => a.1 ▸ a.2
  | n + 1, z, r, a => a.elim (fun a => a.1 ▸ a.2) (fun a => own_fnd_stop n a.2)
theorem own_fnd_up {W W' : Int64} {K0 K1 J0 J1 : Int32 → Int64} {k0 k1 : Int64} {r : Int32} (same : ∀ e, own_s e → e ≠ r → own_bit W' e = own_bit W e ∧ J0 e = K0 e ∧ J1 e = K1 e) (hr : own_bit W r = 0) : ∀ (n : Nat) {i z : Int32}, own_s i → own_fnd W K0 K1 k0 k1 n i z → (z = r → own_stop W' J0 J1 k0 k1 r) → own_fnd W' J0 J1 k0 k1 n i z := by
  have st : ∀ {z : Int32}, own_s z → own_stop W K0 K1 k0 k1 z → (z = r → own_stop W' J0 J1 k0 k1 r) → own_stop W' J0 J1 k0 k1 z := fun {z} hz q f => by
    by_cases e : z = r
    · rw [e]; exact f e
    · obtain ⟨e1, e2, e3⟩ := same z hz e
      unfold own_stop own_hold at q ⊢
      rw [e1, e2, e3]; exact q
  have ps : ∀ {z : Int32}, own_s z → own_pass W K0 K1 k0 k1 z → own_pass W' J0 J1 k0 k1 z := fun {z} hz q => by
    have e : z ≠ r := fun e => q.1 (e ▸ hr)
    obtain ⟨e1, e2, e3⟩ := same z hz e
    unfold own_pass own_hold at q ⊢
    rw [e1, e2, e3]; exact q
  intro n
  induction n with
  | zero => intro i z hi a f; exact ⟨a.1, st hi a.2 (fun e => f (a.1.trans e))⟩
  | succ n ih =>
    intro i z hi a f
    rcases a with a | a
    · exact Or.inl ⟨a.1, st hi a.2 (fun e => f (a.1.trans e))⟩
    · exact Or.inr ⟨ps hi a.1, ih (own_nx_s hi) a.2 f⟩
def own_inv (W : Int64) (K0 K1 : Int32 → Int64) (S : Int64 → Int64 → Prop) (T : List Int32) : Prop :=
  (∀ z, own_s z → ¬ own_bit W z = 0 → own_fnd W K0 K1 (K0 z) (K1 z) 3 (own_hash (K0 z) (K1 z)) z ∧ S (K0 z) (K1 z) ∧ z ∈ T) ∧ ∀ a b, S a b → ∃ z, own_s z ∧ ¬ own_bit W z = 0 ∧ K0 z = a ∧ K1 z = b
theorem own_inv0 (K0 K1 : Int32 → Int64) : own_inv 0 K0 K1 (fun _ _ => False) [] := ⟨fun z _ h => (h own_bit_z).elim, fun _ _ h => h.elim⟩
def own_added (W : Int64) (K0 K1 : Int32 → Int64) (k0 k1 : Int64) (W' : Int64) (J0 J1 : Int32 → Int64) : Prop :=
  ∃ r, own_s r ∧ own_fnd W K0 K1 k0 k1 3 (own_hash k0 k1) r ∧ ((¬ own_bit W r = 0 ∧ W' = W ∧ J0 = K0 ∧ J1 = K1) ∨ (own_bit W r = 0 ∧ W' = W ||| own_m r ∧ J0 = own_up K0 r k0 ∧ J1 = own_up K1 r k1))
theorem own_inv_add {W W' : Int64} {K0 K1 J0 J1 : Int32 → Int64} {k0 k1 : Int64} {S : Int64 → Int64 → Prop} {T : List Int32} (I : own_inv W K0 K1 S T) (A : own_added W K0 K1 k0 k1 W' J0 J1) : ∃ t, own_inv W' J0 J1 (fun a b => S a b ∨ (a = k0 ∧ b = k1)) (t :: T) := by
  obtain ⟨r, sr, F, ⟨h, rfl, rfl, rfl⟩ | ⟨h, rfl, rfl, rfl⟩⟩ := A
  · refine ⟨0, fun z sz hz => ?_, fun a b q => ?_⟩
    · obtain ⟨a1, a2, a3⟩ := I.1 z sz hz
      exact ⟨a1, Or.inl a2, List.mem_cons_of_mem _ a3⟩
    · rcases q with q | ⟨rfl, rfl⟩
      · exact I.2 a b q
      · have := (own_fnd_stop 3 F).resolve_left h
        exact ⟨r, sr, h, own_hold1.mp this⟩
  · have same : ∀ e, own_s e → e ≠ r → own_bit (W ||| own_m r) e = own_bit W e ∧ own_up K0 r k0 e = K0 e ∧ own_up K1 r k1 e = K1 e := fun e se ne => ⟨own_bit_or se sr ne, by simp [own_up, ne], by simp [own_up, ne]⟩
    have u0 : own_up K0 r k0 r = k0 := by simp [own_up]
    have u1 : own_up K1 r k1 r = k1 := by simp [own_up]
    refine ⟨r, fun z sz hz => ?_, fun a b q => ?_⟩
    · by_cases e : z = r
      · subst e
        rw [u0, u1]
        refine ⟨own_fnd_up same h 3 (own_hash_s _ _) F (fun _ => Or.inr (own_hold1.mpr ⟨u0, u1⟩)), Or.inr ⟨rfl, rfl⟩, List.mem_cons_self⟩
      · obtain ⟨e1, e2, e3⟩ := same z sz e
        rw [e1] at hz
        obtain ⟨a1, a2, a3⟩ := I.1 z sz hz
        rw [e2, e3]
        exact ⟨own_fnd_up same h 3 (own_hash_s _ _) a1 (fun q => (e q).elim), Or.inl a2, List.mem_cons_of_mem _ a3⟩
    · rcases q with q | ⟨rfl, rfl⟩
      · obtain ⟨z, sz, hz, q1, q2⟩ := I.2 a b q
        have e : z ≠ r := fun e => hz (e ▸ h)
        obtain ⟨e1, e2, e3⟩ := same z sz e
        exact ⟨z, sz, by rw [e1]; exact hz, e2.trans q1, e3.trans q2⟩
      · exact ⟨r, sr, own_bit_same sr, u0, u1⟩
theorem own_inv_has {W : Int64} {K0 K1 : Int32 → Int64} {k0 k1 : Int64} {S : Int64 → Int64 → Prop} {T : List Int32} (I : own_inv W K0 K1 S T) {r : Int32} (sr : own_s r) (F : own_fnd W K0 K1 k0 k1 3 (own_hash k0 k1) r) : ¬ own_bit W r = 0 ↔ S k0 k1 := by
  constructor
  · intro h
    obtain ⟨e0, e1⟩ := own_hold1.mp ((own_fnd_stop 3 F).resolve_left h)
    have := (I.1 r sr h).2.1
    rwa [e0, e1] at this
  · intro q
    obtain ⟨z, sz, hz, e0, e1⟩ := I.2 _ _ q
    have := (I.1 z sz hz).1
    rw [e0, e1] at this
    exact own_fnd_one 3 this F ▸ hz
theorem own_pigeon {T : List Int32} (hT : T.length ≤ 3) {a b c d : Int32} (ab : a ≠ b) (ac : a ≠ c) (ad : a ≠ d) (bc : b ≠ c) (bd : b ≠ d) (cd : c ≠ d) (ha : a ∈ T) (hb : b ∈ T) (hc : c ∈ T) (hd : d ∈ T) : False := by
  match T, hT with
  | [], _ => simp at ha
  | [x], _ => simp at ha hb; exact ab (ha.trans hb.symm)
  | [x, y], _ =>
    simp at ha hb hc
    rcases ha with rfl | rfl <;> rcases hb with rfl | rfl <;> rcases hc with rfl | rfl <;> simp_all
  | [x, y, w], _ =>
    simp at ha hb hc hd
    rcases ha with rfl | rfl | rfl <;> rcases hb with rfl | rfl | rfl <;> first | (exact absurd rfl ab) | (rcases hc with rfl | rfl | rfl <;> first | (exact absurd rfl ac) | (exact absurd rfl bc) | (rcases hd with rfl | rfl | rfl <;> first | (exact absurd rfl ad) | (exact absurd rfl bd) | (exact absurd rfl cd)))
  | _ :: _ :: _ :: _ :: _, h => simp at h
def own_free (W : Int64) (i : Int32) : Prop := ¬ (¬ own_bit W i = 0 ∧ ¬ own_bit W (own_nx i) = 0 ∧ ¬ own_bit W (own_nx (own_nx i)) = 0 ∧ ¬ own_bit W (own_nx (own_nx (own_nx i))) = 0)
theorem own_inv_free {W : Int64} {K0 K1 : Int32 → Int64} {S : Int64 → Int64 → Prop} {T : List Int32} (I : own_inv W K0 K1 S T) (hT : T.length ≤ 3) {i : Int32} (si : own_s i) : own_free W i := fun q => by
  obtain ⟨q1, q2, q3, q4⟩ := q
  have s1 := own_nx_s si
  have s2 := own_nx_s s1
  have s3 := own_nx_s s2
  obtain ⟨ab, ac, ad⟩ := own_nx_ne si
  obtain ⟨bc, bd, -⟩ := own_nx_ne s1
  obtain ⟨cd, -, -⟩ := own_nx_ne s2
  exact own_pigeon hT ab ac ad bc bd cd (I.1 _ si q1).2.2 (I.1 _ s1 q2).2.2 (I.1 _ s2 q3).2.2 (I.1 _ s3 q4).2.2
def own_p1 (Z : State) (h : Heap) (x pa bq wa pg : Nat) (ka kw kp : ClassId) (W : Int64) (K0 K1 : Int32 → Int64) (zz : Int32) : Prop := Exa Z h x "com/example/grantway/grantway/protocol/PackedSet" ∧ Fld Z h x "com/example/grantway/grantway/protocol/PackedSet" "width" "I" (.int 2) ∧ Fld Z h x "com/example/grantway/grantway/protocol/PackedSet" "slots" "I" (.int 16) ∧ Fld Z h x "com/example/grantway/grantway/protocol/PackedSet" "pages" "[[J" (.ref pa) ∧ Fld Z h x "com/example/grantway/grantway/protocol/PackedSet" "used" "Ljava/util/BitSet;" (.ref bq) ∧ Fld Z h x "com/example/grantway/grantway/protocol/PackedSet" "size" "I" (.int zz) ∧ Exa Z h bq "java/util/BitSet" ∧ Fld Z h bq "java/util/BitSet" "wordsInUse" "I" (.int 1) ∧ Fld Z h bq "java/util/BitSet" "words" "[J" (.ref wa) ∧ Arv Z h wa kw .long (1 : Int32) [(.long W)] (.long 0) ∧ Arv Z h pa ka (.array .long) (1 : Int32) [(.ref pg)] .null ∧ Arv Z h pg kp .long (32 : Int32) (own_pg K0 K1) (.long 0)
def own_p0 (Z : State) (h : Heap) (x pa bq wa : Nat) (ka kw : ClassId) (zz : Int32) : Prop := Exa Z h x "com/example/grantway/grantway/protocol/PackedSet" ∧ Fld Z h x "com/example/grantway/grantway/protocol/PackedSet" "width" "I" (.int 2) ∧ Fld Z h x "com/example/grantway/grantway/protocol/PackedSet" "slots" "I" (.int 16) ∧ Fld Z h x "com/example/grantway/grantway/protocol/PackedSet" "pages" "[[J" (.ref pa) ∧ Fld Z h x "com/example/grantway/grantway/protocol/PackedSet" "used" "Ljava/util/BitSet;" (.ref bq) ∧ Fld Z h x "com/example/grantway/grantway/protocol/PackedSet" "size" "I" (.int zz) ∧ Exa Z h bq "java/util/BitSet" ∧ Fld Z h bq "java/util/BitSet" "wordsInUse" "I" (.int 0) ∧ Fld Z h bq "java/util/BitSet" "words" "[J" (.ref wa) ∧ Arv Z h wa kw .long (1 : Int32) [(.long 0)] (.long 0) ∧ Arv Z h pa ka (.array .long) (1 : Int32) [.null] .null
theorem ef_rmWI (m : MethodId) (x0 : Int32) : entryFrame m #[(.int x0)] 1 = mkF m 0 #[.val (.int x0)] [] := by first | (simp [entryFrame, mkF, argsToLocals, Value.category]; done) | rfl
theorem pn_0 : plainName "java/util/BitSet" = true := by first | (simp [plainName, overriddenIn]; done) | decide +kernel
theorem d5_0 : decode jdk_92_method_1_code 0 = .ok (.iload_n 0, 1) := by decide +kernel
theorem d5_1 : decode jdk_92_method_1_code 1 = .ok (.bipush 6, 2) := by decide +kernel
theorem d5_3 : decode jdk_92_method_1_code 3 = .ok (.ishr, 1) := by decide +kernel
theorem d5_4 : decode jdk_92_method_1_code 4 = .ok (.ireturn, 1) := by decide +kernel
def Q_rmWI (Z : State) (ix : Int32) (h0 : Heap) (n0 : Nat) (v : Option Value) (h : Heap) (L : List Loc) : Prop := v = some (.int 0) ∧ Fr n0 L ∧ h = h0
set_option maxRecDepth 65536 in
set_option maxHeartbeats 40000000 in
theorem rmWI (l : Launch) (Z : State) (a0 : Array Value) (hw : own_H Z a0) (ws : List Jvm.Cond) (ix : Int32) (h0 : Heap) (n0 : Nat) (XO0 : Old Z n0 h0) (s_i : own_s ix) :
    own_M l Z ym7 jdk_92_method_1_code ws 1 (some .int) (own_R 0 0 0 0) #[(.int ix)] h0 (Q_rmWI Z ix h0 n0) := by
  refine own_open (plainFor_of_name pn_0) ?_
  intro p e s m below meth c s₁ hx hby hlk hret hml hown hnm hZ X0 e0
  have hW := own_hW hw
  have N0 := Fr.nil n0
  refine own_of (fun tt_ kk_ => castTop (ef_rmWI m ix) kk_) ?_
  show own_go p e below s _ _ _ (s₁.setTop (mkF m 0 #[.val (.int ix)] []))
  refine own_of (fun tt_ => XS.iloadN X0.here hx rfl (hb hby d5_0) rfl) ?_
  refine own_of (fun tt_ => XS.bipush X0.here hx rfl (hb hby d5_1)) ?_
  refine own_of (fun tt_ => XS.ishr X0.here hx rfl (hb hby d5_3) rfl) ?_
  show own_go p e below s _ _ _ (s₁.setTop (mkF m 4 #[.val (.int ix)] [(.int (ix >>> ((6 : Int32) &&& 31)))]))
  refine own_ret X0 hx hlk hret rfl (Or.inl ⟨rfl, by simp, _, rfl⟩) (hb hby d5_4) (by decide) (by decide) ?_
  rw [e0]
  exact ⟨by rw [own_s_wi s_i], N0, rfl⟩
theorem ef_rmCI (m : MethodId) (x0 : Nat) : entryFrame m #[(.ref x0)] 1 = mkF m 0 #[.val (.ref x0)] [] := by first | (simp [entryFrame, mkF, argsToLocals, Value.category]; done) | rfl
theorem d13_0 : decode jdk_92_method_2_code 0 = .ok (.getstatic 3, 3) := by decide +kernel
theorem d13_3 : decode jdk_92_method_2_code 3 = .ok (.ifCond .ne 34, 3) := by decide +kernel
theorem d13_37 : decode jdk_92_method_2_code 37 = .ok (.getstatic 3, 3) := by decide +kernel
theorem d13_40 : decode jdk_92_method_2_code 40 = .ok (.ifCond .ne 30, 3) := by decide +kernel
theorem d13_70 : decode jdk_92_method_2_code 70 = .ok (.getstatic 3, 3) := by decide +kernel
theorem d13_73 : decode jdk_92_method_2_code 73 = .ok (.ifCond .ne 37, 3) := by decide +kernel
theorem d13_110 : decode jdk_92_method_2_code 110 = .ok (.return_, 1) := by decide +kernel
def Q_rmCI (Z : State) (bq : Nat) (h0 : Heap) (n0 : Nat) (v : Option Value) (h : Heap) (L : List Loc) : Prop := v = none ∧ Fr n0 L ∧ h = h0
set_option maxRecDepth 65536 in
set_option maxHeartbeats 40000000 in
theorem rmCI (l : Launch) (Z : State) (a0 : Array Value) (hw : own_H Z a0) (ws : List Jvm.Cond) (bq : Nat) (h0 : Heap) (n0 : Nat) (XO0 : Old Z n0 h0) (S_ad : Sta Z Z.heap "java/util/BitSet" "$assertionsDisabled" "Z" (.int 1)) :
    own_M l Z ym10 jdk_92_method_2_code ws 1 none (own_R 0 0 0 0) #[(.ref bq)] h0 (Q_rmCI Z bq h0 n0) := by
  refine own_open (plainFor_of_name pn_0) ?_
  intro p e s m below meth c s₁ hx hby hlk hret hml hown hnm hZ X0 e0
  have hW := own_hW hw
  have N0 := Fr.nil n0
  refine own_of (fun tt_ kk_ => castTop (ef_rmCI m bq) kk_) ?_
  show own_go p e below s _ _ _ (s₁.setTop (mkF m 0 #[.val (.ref bq)] []))
  obtain ⟨T1, X1, e1, st1⟩ := getS2 X0 hx hZ hown (host := "") (Or.inl (hW 78 _ rfl)) Via.refl e0 (S_ad.ext XO0.2) (g := (mkF m 0 #[.val (.ref bq)] [])) rfl (hb hby d13_0)
  refine own_of st1 ?_
  show own_go p e below s _ _ _ (T1.setTop (mkF m 3 #[.val (.ref bq)] [(.int 1)]))
  have hb3_2 : ¬ ((1 : Int32) = (0 : Int32)) := by decide
  refine own_of (fun tt_ => XS.ifYes X1.here hx rfl (pc0 := 3) (pc' := 37) rfl (hb hby d13_3) rfl ((if0 _ _).trans (feq hb3_2).2) (by decide) (by decide)) ?_
  show own_go p e below s _ _ _ (T1.setTop (mkF m 37 #[.val (.ref bq)] []))
  obtain ⟨T3, X3, e3, st3⟩ := getS2 X1 hx hZ hown (host := "") (Or.inl (hW 78 _ rfl)) Via.refl e1 (S_ad.ext XO0.2) (g := (mkF m 37 #[.val (.ref bq)] [])) rfl (hb hby d13_37)
  refine own_of st3 ?_
  show own_go p e below s _ _ _ (T3.setTop (mkF m 40 #[.val (.ref bq)] [(.int 1)]))
  have hb40_4 : ¬ ((1 : Int32) = (0 : Int32)) := by decide
  refine own_of (fun tt_ => XS.ifYes X3.here hx rfl (pc0 := 40) (pc' := 70) rfl (hb hby d13_40) rfl ((if0 _ _).trans (feq hb40_4).2) (by decide) (by decide)) ?_
  show own_go p e below s _ _ _ (T3.setTop (mkF m 70 #[.val (.ref bq)] []))
  obtain ⟨T5, X5, e5, st5⟩ := getS2 X3 hx hZ hown (host := "") (Or.inl (hW 78 _ rfl)) Via.refl e3 (S_ad.ext XO0.2) (g := (mkF m 70 #[.val (.ref bq)] [])) rfl (hb hby d13_70)
  refine own_of st5 ?_
  show own_go p e below s _ _ _ (T5.setTop (mkF m 73 #[.val (.ref bq)] [(.int 1)]))
  have hb73_6 : ¬ ((1 : Int32) = (0 : Int32)) := by decide
  refine own_of (fun tt_ => XS.ifYes X5.here hx rfl (pc0 := 73) (pc' := 110) rfl (hb hby d13_73) rfl ((if0 _ _).trans (feq hb73_6).2) (by decide) (by decide)) ?_
  show own_go p e below s _ _ _ (T5.setTop (mkF m 110 #[.val (.ref bq)] []))
  refine own_retV X5 hx hlk hret (hb hby d13_110) (by decide) (by decide) ?_
  rw [e5]
  exact ⟨rfl, N0, rfl⟩
theorem ef_rmGet0 (m : MethodId) (x0 : Nat) (x1 : Int32) : entryFrame m #[(.ref x0), (.int x1)] 3 = mkF m 0 #[.val (.ref x0), .val (.int x1), .unset] [] := by first | (simp [entryFrame, mkF, argsToLocals, Value.category]; done) | rfl
theorem d12_0 : decode jdk_92_method_26_code 0 = .ok (.iload_n 1, 1) := by decide +kernel
theorem d12_1 : decode jdk_92_method_26_code 1 = .ok (.ifCond .ge 30, 3) := by decide +kernel
theorem d12_31 : decode jdk_92_method_26_code 31 = .ok (.aload_n 0, 1) := by decide +kernel
theorem d12_32 : decode jdk_92_method_26_code 32 = .ok (.invokevirtual 56, 3) := by decide +kernel
theorem pd_0 : parseMethodDescriptor "()V" = some ⟨[], none⟩ := by decide +kernel
theorem d12_35 : decode jdk_92_method_26_code 35 = .ok (.iload_n 1, 1) := by decide +kernel
theorem d12_36 : decode jdk_92_method_26_code 36 = .ok (.invokestatic 52, 3) := by decide +kernel
theorem pd_1 : parseMethodDescriptor "(I)I" = some ⟨[.int], some .int⟩ := by decide +kernel
theorem d12_39 : decode jdk_92_method_26_code 39 = .ok (.istore_n 2, 1) := by decide +kernel
theorem d12_40 : decode jdk_92_method_26_code 40 = .ok (.iload_n 2, 1) := by decide +kernel
theorem d12_41 : decode jdk_92_method_26_code 41 = .ok (.aload_n 0, 1) := by decide +kernel
theorem d12_42 : decode jdk_92_method_26_code 42 = .ok (.getfield 7, 3) := by decide +kernel
theorem d12_45 : decode jdk_92_method_26_code 45 = .ok (.if_icmp .ge 22, 3) := by decide +kernel
theorem d12_67 : decode jdk_92_method_26_code 67 = .ok (.iconst 0, 1) := by decide +kernel
theorem d12_68 : decode jdk_92_method_26_code 68 = .ok (.ireturn, 1) := by decide +kernel
def Q_rmGet0 (Z : State) (bq : Nat) (wa : Nat) (kw : ClassId) (ix : Int32) (h0 : Heap) (n0 : Nat) (v : Option Value) (h : Heap) (L : List Loc) : Prop := v = some (.int 0) ∧ Fr n0 L ∧ h = h0
set_option maxRecDepth 65536 in
set_option maxHeartbeats 40000000 in
theorem rmGet0 (l : Launch) (Z : State) (a0 : Array Value) (hw : own_H Z a0) (ws : List Jvm.Cond) (bq : Nat) (wa : Nat) (kw : ClassId) (ix : Int32) (h0 : Heap) (n0 : Nat) (XO0 : Old Z n0 h0) (S_ad : Sta Z Z.heap "java/util/BitSet" "$assertionsDisabled" "Z" (.int 1)) (E_b : Exa Z h0 bq "java/util/BitSet") (F_n : Fld Z h0 bq "java/util/BitSet" "wordsInUse" "I" (.int 0)) (F_d : Fld Z h0 bq "java/util/BitSet" "words" "[J" (.ref wa)) (V_w : Arv Z h0 wa kw .long (1 : Int32) [(.long 0)] (.long 0)) (s_i : own_s ix) :
    own_M l Z ym2 jdk_92_method_26_code ws 3 (some .boolean) (own_R 1 0 0 12) #[(.ref bq), (.int ix)] h0 (Q_rmGet0 Z bq wa kw ix h0 n0) := by
  refine own_open (plainFor_of_name pn_0) ?_
  intro p e s m below meth c s₁ hx hby hlk hret hml hown hnm hZ X0 e0
  have hW := own_hW hw
  have N0 := Fr.nil n0
  refine own_of (fun tt_ kk_ => castTop (ef_rmGet0 m bq ix) kk_) ?_
  show own_go p e below s _ _ _ (s₁.setTop (mkF m 0 #[.val (.ref bq), .val (.int ix), .unset] []))
  refine own_of (fun tt_ => XS.iloadN X0.here hx rfl (hb hby d12_0) rfl) ?_
  have hb1_1 : ¬ (ix < (0 : Int32)) := own_s_ge s_i
  refine own_of (fun tt_ => XS.ifYes X0.here hx rfl (pc0 := 1) (pc' := 31) rfl (hb hby d12_1) rfl ((if0 _ _).trans (flt hb1_1).2.1) (by decide) (by decide)) ?_
  show own_go p e below s _ _ _ (s₁.setTop (mkF m 31 #[.val (.ref bq), .val (.int ix), .unset] []))
  refine own_of (fun tt_ => XS.aloadN X0.here hx rfl (hb hby d12_31) rfl rfl) ?_
  show own_go p e below s _ _ _ (s₁.setTop (mkF m 32 #[.val (.ref bq), .val (.int ix), .unset] [(.ref bq)]))
  obtain ⟨cq2, q2, q2'⟩ := E_b.cell
  obtain ⟨_, _, ⟨T2, L2, k2, n2⟩, -, X2, ⟨Lc2, hQ2, l2, y2, z2⟩, st2⟩ := X0.privateBack hx (y := ym10) hown (mvT hZ (hW 73 _ rfl)) (mvT hZ (hW 74 _ rfl)) (mvT hZ (hW 76 _ rfl)) (Cond.privateMethod_at (mvP hZ (hW 75 _ rfl) (args := #[]))) (mvT hZ (hW 77 _ rfl)) (by decide) (backOf (W := 0) (rmCI l Z a0 hw [] bq h0 n0 XO0 S_ad) hZ (hW 77 _ rfl) (hW 19 _ rfl) (by decide) (by decide)) (g := (mkF m 32 #[.val (.ref bq), .val (.int ix), .unset] [(.ref bq)])) rfl (by rw [hml]; rfl) (Steps.refl _) (a := bq) (by rw [e0]; exact q2) q2' (argsL := []) (rest := []) (lenOf pd_0 rfl) rfl (by show 2 * 0 + _ ≤ _; exact Nat.le_of_eq rfl) (hb hby d12_32) (fun _ _ => ⟨rfl, e0, (by decide : 0 + 0 ≤ _), (by decide : 0 + 0 ≤ _)⟩)
  dsimp only [Pt.U, Pt.locs, Pt.cells, Pt.slots] at X2 l2 y2 z2 st2 hQ2
  subst l2 y2 z2
  obtain ⟨rfl, Nq2, eh2⟩ := hQ2
  have N2 := Fr.app N0 Nq2
  refine own_of (fun tt_ kk_ => st2.trans kk_) ?_
  show own_go p e below s _ _ _ (T2.setTop (mkF m 35 #[.val (.ref bq), .val (.int ix), .unset] []))
  refine own_of (fun tt_ => XS.iloadN X2.here hx rfl (hb hby d12_35) rfl) ?_
  show own_go p e below s _ _ _ (T2.setTop (mkF m 36 #[.val (.ref bq), .val (.int ix), .unset] [(.int ix)]))
  obtain ⟨_, _, ⟨T3, L3, k3, n3⟩, -, X3, ⟨Lc3, hQ3, l3, y3, z3⟩, st3⟩ := Jvm.LawKit.callS X2 hx (y := ym7) hown (mvT hZ (hW 33 _ rfl)) (mvT hZ (hW 34 _ rfl)) (mvT hZ (hW 19 _ rfl)) (mvT hZ (hW 35 _ rfl)) (by decide) (backOf (W := 0) (rmWI l Z a0 hw [] ix h0 n0 XO0 s_i) hZ (hW 35 _ rfl) (hW 19 _ rfl) (by decide) (by decide)) (g := (mkF m 36 #[.val (.ref bq), .val (.int ix), .unset] [(.int ix)])) rfl (by rw [hml]; rfl) (argsL := [(.int ix)]) (rest := []) (lenOf pd_1 rfl) rfl (by show 2 * 0 + _ ≤ _; exact Nat.le_of_eq rfl) (hb hby d12_36) (fun _ _ => ⟨rfl, eh2, (by decide : 0 + 0 ≤ _), (by decide : 0 + 0 ≤ _)⟩)
  dsimp only [Pt.U, Pt.locs, Pt.cells, Pt.slots] at X3 l3 y3 z3 st3 hQ3
  subst l3 y3 z3
  obtain ⟨rfl, Nq3, eh3⟩ := hQ3
  have N3 := Fr.app N2 Nq3
  refine own_of st3 ?_
  show own_go p e below s _ _ _ (T3.setTop (mkF m 39 #[.val (.ref bq), .val (.int ix), .unset] [(.int 0)]))
  refine own_of (fun tt_ => XS.istoreN X3.here hx rfl (hb hby d12_39) rfl (l' := #[.val (.ref bq), .val (.int ix), .val (.int 0)]) rfl) ?_
  refine own_of (fun tt_ => XS.iloadN X3.here hx rfl (hb hby d12_40) rfl) ?_
  refine own_of (fun tt_ => XS.aloadN X3.here hx rfl (hb hby d12_41) rfl rfl) ?_
  obtain ⟨T4, X4, e4, st4⟩ := getF X3 hx hZ hown (host := "") (Or.inl (hW 24 _ rfl)) Via.refl eh3 F_n (g := (mkF m 42 #[.val (.ref bq), .val (.int ix), .val (.int 0)] [(.ref bq), (.int 0)])) rfl rfl (hb hby d12_42)
  refine own_of st4 ?_
  show own_go p e below s _ _ _ (T4.setTop (mkF m 45 #[.val (.ref bq), .val (.int ix), .val (.int 0)] [(.int 0), (.int 0)]))
  have hb45_5 : ¬ ((0 : Int32) < (0 : Int32)) := by decide
  refine own_of (fun tt_ => XS.icmpYes X4.here hx rfl (pc0 := 45) (pc' := 67) rfl (hb hby d12_45) rfl (flt hb45_5).2.1 (by decide) (by decide)) ?_
  show own_go p e below s _ _ _ (T4.setTop (mkF m 67 #[.val (.ref bq), .val (.int ix), .val (.int 0)] []))
  refine own_of (fun tt_ => XS.iconst X4.here hx rfl (hb hby d12_67)) ?_
  show own_go p e below s _ _ _ (T4.setTop (mkF m 68 #[.val (.ref bq), .val (.int ix), .val (.int 0)] [(.int 0)]))
  refine own_ret X4 hx hlk hret rfl (Or.inl ⟨rfl, by simp, _, rfl⟩) (hb hby d12_68) (by decide) (by decide) ?_
  rw [e4]
  exact ⟨rfl, N3, rfl⟩
theorem ef_rmGet1 (m : MethodId) (x0 : Nat) (x1 : Int32) : entryFrame m #[(.ref x0), (.int x1)] 3 = mkF m 0 #[.val (.ref x0), .val (.int x1), .unset] [] := by first | (simp [entryFrame, mkF, argsToLocals, Value.category]; done) | rfl
theorem d12_48 : decode jdk_92_method_26_code 48 = .ok (.aload_n 0, 1) := by decide +kernel
theorem d12_49 : decode jdk_92_method_26_code 49 = .ok (.getfield 11, 3) := by decide +kernel
theorem d12_52 : decode jdk_92_method_26_code 52 = .ok (.iload_n 2, 1) := by decide +kernel
theorem d12_53 : decode jdk_92_method_26_code 53 = .ok (.laload, 1) := by decide +kernel
theorem d12_54 : decode jdk_92_method_26_code 54 = .ok (.lconst 1, 1) := by decide +kernel
theorem d12_55 : decode jdk_92_method_26_code 55 = .ok (.iload_n 1, 1) := by decide +kernel
theorem d12_56 : decode jdk_92_method_26_code 56 = .ok (.lshl, 1) := by decide +kernel
theorem d12_57 : decode jdk_92_method_26_code 57 = .ok (.land, 1) := by decide +kernel
theorem d12_58 : decode jdk_92_method_26_code 58 = .ok (.lconst 0, 1) := by decide +kernel
theorem d12_59 : decode jdk_92_method_26_code 59 = .ok (.lcmp, 1) := by decide +kernel
theorem d12_60 : decode jdk_92_method_26_code 60 = .ok (.ifCond .eq 7, 3) := by decide +kernel
theorem d12_63 : decode jdk_92_method_26_code 63 = .ok (.iconst 1, 1) := by decide +kernel
theorem d12_64 : decode jdk_92_method_26_code 64 = .ok (.goto 4, 3) := by decide +kernel
def Q_rmGet1 (Z : State) (bq : Nat) (wa : Nat) (kw : ClassId) (W : Int64) (ix : Int32) (h0 : Heap) (n0 : Nat) (v : Option Value) (h : Heap) (L : List Loc) : Prop := v = some (.int (own_bit W ix)) ∧ Fr n0 L ∧ h = h0
set_option maxRecDepth 65536 in
set_option maxHeartbeats 40000000 in
theorem rmGet1 (l : Launch) (Z : State) (a0 : Array Value) (hw : own_H Z a0) (ws : List Jvm.Cond) (bq : Nat) (wa : Nat) (kw : ClassId) (W : Int64) (ix : Int32) (h0 : Heap) (n0 : Nat) (XO0 : Old Z n0 h0) (S_ad : Sta Z Z.heap "java/util/BitSet" "$assertionsDisabled" "Z" (.int 1)) (E_b : Exa Z h0 bq "java/util/BitSet") (F_n : Fld Z h0 bq "java/util/BitSet" "wordsInUse" "I" (.int 1)) (F_d : Fld Z h0 bq "java/util/BitSet" "words" "[J" (.ref wa)) (V_w : Arv Z h0 wa kw .long (1 : Int32) [(.long W)] (.long 0)) (s_i : own_s ix) :
    own_M l Z ym2 jdk_92_method_26_code ws 3 (some .boolean) (own_R 1 0 0 12) #[(.ref bq), (.int ix)] h0 (Q_rmGet1 Z bq wa kw W ix h0 n0) := by
  refine own_open (plainFor_of_name pn_0) ?_
  intro p e s m below meth c s₁ hx hby hlk hret hml hown hnm hZ X0 e0
  have hW := own_hW hw
  have N0 := Fr.nil n0
  refine own_of (fun tt_ kk_ => castTop (ef_rmGet1 m bq ix) kk_) ?_
  show own_go p e below s _ _ _ (s₁.setTop (mkF m 0 #[.val (.ref bq), .val (.int ix), .unset] []))
  refine own_of (fun tt_ => XS.iloadN X0.here hx rfl (hb hby d12_0) rfl) ?_
  have hb1_1 : ¬ (ix < (0 : Int32)) := own_s_ge s_i
  refine own_of (fun tt_ => XS.ifYes X0.here hx rfl (pc0 := 1) (pc' := 31) rfl (hb hby d12_1) rfl ((if0 _ _).trans (flt hb1_1).2.1) (by decide) (by decide)) ?_
  show own_go p e below s _ _ _ (s₁.setTop (mkF m 31 #[.val (.ref bq), .val (.int ix), .unset] []))
  refine own_of (fun tt_ => XS.aloadN X0.here hx rfl (hb hby d12_31) rfl rfl) ?_
  show own_go p e below s _ _ _ (s₁.setTop (mkF m 32 #[.val (.ref bq), .val (.int ix), .unset] [(.ref bq)]))
  obtain ⟨cq2, q2, q2'⟩ := E_b.cell
  obtain ⟨_, _, ⟨T2, L2, k2, n2⟩, -, X2, ⟨Lc2, hQ2, l2, y2, z2⟩, st2⟩ := X0.privateBack hx (y := ym10) hown (mvT hZ (hW 73 _ rfl)) (mvT hZ (hW 74 _ rfl)) (mvT hZ (hW 76 _ rfl)) (Cond.privateMethod_at (mvP hZ (hW 75 _ rfl) (args := #[]))) (mvT hZ (hW 77 _ rfl)) (by decide) (backOf (W := 0) (rmCI l Z a0 hw [] bq h0 n0 XO0 S_ad) hZ (hW 77 _ rfl) (hW 19 _ rfl) (by decide) (by decide)) (g := (mkF m 32 #[.val (.ref bq), .val (.int ix), .unset] [(.ref bq)])) rfl (by rw [hml]; rfl) (Steps.refl _) (a := bq) (by rw [e0]; exact q2) q2' (argsL := []) (rest := []) (lenOf pd_0 rfl) rfl (by show 2 * 0 + _ ≤ _; exact Nat.le_of_eq rfl) (hb hby d12_32) (fun _ _ => ⟨rfl, e0, (by decide : 0 + 0 ≤ _), (by decide : 0 + 0 ≤ _)⟩)
  dsimp only [Pt.U, Pt.locs, Pt.cells, Pt.slots] at X2 l2 y2 z2 st2 hQ2
  subst l2 y2 z2
  obtain ⟨rfl, Nq2, eh2⟩ := hQ2
  have N2 := Fr.app N0 Nq2
  refine own_of (fun tt_ kk_ => st2.trans kk_) ?_
  show own_go p e below s _ _ _ (T2.setTop (mkF m 35 #[.val (.ref bq), .val (.int ix), .unset] []))
  refine own_of (fun tt_ => XS.iloadN X2.here hx rfl (hb hby d12_35) rfl) ?_
  show own_go p e below s _ _ _ (T2.setTop (mkF m 36 #[.val (.ref bq), .val (.int ix), .unset] [(.int ix)]))
  obtain ⟨_, _, ⟨T3, L3, k3, n3⟩, -, X3, ⟨Lc3, hQ3, l3, y3, z3⟩, st3⟩ := Jvm.LawKit.callS X2 hx (y := ym7) hown (mvT hZ (hW 33 _ rfl)) (mvT hZ (hW 34 _ rfl)) (mvT hZ (hW 19 _ rfl)) (mvT hZ (hW 35 _ rfl)) (by decide) (backOf (W := 0) (rmWI l Z a0 hw [] ix h0 n0 XO0 s_i) hZ (hW 35 _ rfl) (hW 19 _ rfl) (by decide) (by decide)) (g := (mkF m 36 #[.val (.ref bq), .val (.int ix), .unset] [(.int ix)])) rfl (by rw [hml]; rfl) (argsL := [(.int ix)]) (rest := []) (lenOf pd_1 rfl) rfl (by show 2 * 0 + _ ≤ _; exact Nat.le_of_eq rfl) (hb hby d12_36) (fun _ _ => ⟨rfl, eh2, (by decide : 0 + 0 ≤ _), (by decide : 0 + 0 ≤ _)⟩)
  dsimp only [Pt.U, Pt.locs, Pt.cells, Pt.slots] at X3 l3 y3 z3 st3 hQ3
  subst l3 y3 z3
  obtain ⟨rfl, Nq3, eh3⟩ := hQ3
  have N3 := Fr.app N2 Nq3
  refine own_of st3 ?_
  show own_go p e below s _ _ _ (T3.setTop (mkF m 39 #[.val (.ref bq), .val (.int ix), .unset] [(.int 0)]))
  refine own_of (fun tt_ => XS.istoreN X3.here hx rfl (hb hby d12_39) rfl (l' := #[.val (.ref bq), .val (.int ix), .val (.int 0)]) rfl) ?_
  refine own_of (fun tt_ => XS.iloadN X3.here hx rfl (hb hby d12_40) rfl) ?_
  refine own_of (fun tt_ => XS.aloadN X3.here hx rfl (hb hby d12_41) rfl rfl) ?_
  obtain ⟨T4, X4, e4, st4⟩ := getF X3 hx hZ hown (host := "") (Or.inl (hW 24 _ rfl)) Via.refl eh3 F_n (g := (mkF m 42 #[.val (.ref bq), .val (.int ix), .val (.int 0)] [(.ref bq), (.int 0)])) rfl rfl (hb hby d12_42)
  refine own_of st4 ?_
  show own_go p e below s _ _ _ (T4.setTop (mkF m 45 #[.val (.ref bq), .val (.int ix), .val (.int 0)] [(.int 1), (.int 0)]))
  have hb45_5 : (0 : Int32) < (1 : Int32) := by decide
  refine own_of (fun tt_ => XS.icmpNo X4.here hx rfl (hb hby d12_45) rfl (tlt hb45_5).2.1) ?_
  show own_go p e below s _ _ _ (T4.setTop (mkF m 48 #[.val (.ref bq), .val (.int ix), .val (.int 0)] []))
  refine own_of (fun tt_ => XS.aloadN X4.here hx rfl (hb hby d12_48) rfl rfl) ?_
  obtain ⟨T6, X6, e6, st6⟩ := getF X4 hx hZ hown (host := "") (Or.inl (hW 37 _ rfl)) Via.refl e4 F_d (g := (mkF m 49 #[.val (.ref bq), .val (.int ix), .val (.int 0)] [(.ref bq)])) rfl rfl (hb hby d12_49)
  refine own_of st6 ?_
  show own_go p e below s _ _ _ (T6.setTop (mkF m 52 #[.val (.ref bq), .val (.int ix), .val (.int 0)] [(.ref wa)]))
  refine own_of (fun tt_ => XS.iloadN X6.here hx rfl (hb hby d12_52) rfl) ?_
  obtain ⟨cl7, Ar7, q7, S7, Ng7, H7, G7⟩ := id V_w
  have hin7 : ¬ ((0 : Int32) < 0 ∨ cl7.slots.size ≤ ((0 : Int32)).toNatClampNeg) := inb_of S7 ⟨by decide, by decide⟩
  have hat7 : cl7.slots[((0 : Int32)).toNatClampNeg]? = some (.long W) := H7 0 (by rw [S7]; decide)
  refine own_of (fun tt_ => X6.laload hx (j := (0 : Int32)) (v := (.long W)) (by rw [e6]; exact Ar7.1) (State.isArrayOf_alike hZ.alike Ar7.2.1) Ar7.2.2 hin7 hat7 (g := (mkF m 53 #[.val (.ref bq), .val (.int ix), .val (.int 0)] [(.int 0), (.ref wa)])) rfl rfl (hb hby d12_53) _) ?_
  show own_go p e below s _ _ _ (T6.setTop (mkF m 54 #[.val (.ref bq), .val (.int ix), .val (.int 0)] [(.long W)]))
  refine own_of (fun tt_ => XS.lconst X6.here hx rfl (hb hby d12_54)) ?_
  refine own_of (fun tt_ => XS.iloadN X6.here hx rfl (hb hby d12_55) rfl) ?_
  refine own_of (fun tt_ => XS.lshl X6.here hx rfl (hb hby d12_56) rfl) ?_
  show own_go p e below s _ _ _ (T6.setTop (mkF m 57 #[.val (.ref bq), .val (.int ix), .val (.int 0)] [(.long ((1 : Int64) <<< (ix &&& 0x3f).toInt64)), (.long W)]))
  refine own_of (fun tt_ => XS.land X6.here hx rfl (hb hby d12_57) rfl) ?_
  show own_go p e below s _ _ _ (T6.setTop (mkF m 58 #[.val (.ref bq), .val (.int ix), .val (.int 0)] [(.long (W &&& ((1 : Int64) <<< (ix &&& 0x3f).toInt64)))]))
  refine own_of (fun tt_ => XS.lconst X6.here hx rfl (hb hby d12_58)) ?_
  refine own_of (fun tt_ => XS.lcmp X6.here hx rfl (hb hby d12_59) rfl) ?_
  show own_go p e below s _ _ _ (T6.setTop (mkF m 60 #[.val (.ref bq), .val (.int ix), .val (.int 0)] [(.int (lcmpW (W &&& ((1 : Int64) <<< (ix &&& 0x3f).toInt64)) (0 : Int64)))]))
  by_cases hb60_8 : (lcmpW (W &&& ((1 : Int64) <<< (ix &&& 0x3f).toInt64)) (0 : Int64)) = (0 : Int32)
  · refine own_of (fun tt_ => XS.ifYes X6.here hx rfl (pc0 := 60) (pc' := 67) rfl (hb hby d12_60) rfl ((if0 _ _).trans (teq hb60_8).1) (by decide) (by decide)) ?_
    show own_go p e below s _ _ _ (T6.setTop (mkF m 67 #[.val (.ref bq), .val (.int ix), .val (.int 0)] []))
    refine own_of (fun tt_ => XS.iconst X6.here hx rfl (hb hby d12_67)) ?_
    show own_go p e below s _ _ _ (T6.setTop (mkF m 68 #[.val (.ref bq), .val (.int ix), .val (.int 0)] [(.int 0)]))
    refine own_ret X6 hx hlk hret rfl (Or.inl ⟨rfl, by simp, _, rfl⟩) (hb hby d12_68) (by decide) (by decide) ?_
    rw [e6]
    exact ⟨by rw [show own_bit W ix = _ from if_pos hb60_8], N3, rfl⟩
  · refine own_of (fun tt_ => XS.ifNo X6.here hx rfl (hb hby d12_60) rfl ((if0 _ _).trans (feq hb60_8).1)) ?_
    show own_go p e below s _ _ _ (T6.setTop (mkF m 63 #[.val (.ref bq), .val (.int ix), .val (.int 0)] []))
    refine own_of (fun tt_ => XS.iconst X6.here hx rfl (hb hby d12_63)) ?_
    refine own_of (fun tt_ => XS.goto X6.here hx rfl (pc0 := 64) (pc' := 68) rfl (hb hby d12_64) (by decide) (by decide)) ?_
    show own_go p e below s _ _ _ (T6.setTop (mkF m 68 #[.val (.ref bq), .val (.int ix), .val (.int 0)] [(.int 1)]))
    refine own_ret X6 hx hlk hret rfl (Or.inl ⟨rfl, by simp, _, rfl⟩) (hb hby d12_68) (by decide) (by decide) ?_
    rw [e6]
    exact ⟨by rw [show own_bit W ix = _ from if_neg hb60_8], N3, rfl⟩
theorem ef_rmEC (m : MethodId) (x0 : Nat) (x1 : Int32) : entryFrame m #[(.ref x0), (.int x1)] 3 = mkF m 0 #[.val (.ref x0), .val (.int x1), .unset] [] := by first | (simp [entryFrame, mkF, argsToLocals, Value.category]; done) | rfl
theorem d18_0 : decode jdk_92_method_14_code 0 = .ok (.aload_n 0, 1) := by decide +kernel
theorem d18_1 : decode jdk_92_method_14_code 1 = .ok (.getfield 11, 3) := by decide +kernel
theorem d18_4 : decode jdk_92_method_14_code 4 = .ok (.arraylength, 1) := by decide +kernel
theorem d18_5 : decode jdk_92_method_14_code 5 = .ok (.iload_n 1, 1) := by decide +kernel
theorem d18_6 : decode jdk_92_method_14_code 6 = .ok (.if_icmp .ge 32, 3) := by decide +kernel
theorem d18_38 : decode jdk_92_method_14_code 38 = .ok (.return_, 1) := by decide +kernel
def Q_rmEC (Z : State) (bq : Nat) (wa : Nat) (kw : ClassId) (W : Int64) (h0 : Heap) (n0 : Nat) (v : Option Value) (h : Heap) (L : List Loc) : Prop := v = none ∧ Fr n0 L ∧ h = h0
set_option maxRecDepth 65536 in
set_option maxHeartbeats 40000000 in
theorem rmEC (l : Launch) (Z : State) (a0 : Array Value) (hw : own_H Z a0) (ws : List Jvm.Cond) (bq : Nat) (wa : Nat) (kw : ClassId) (W : Int64) (h0 : Heap) (n0 : Nat) (XO0 : Old Z n0 h0) (E_b : Exa Z h0 bq "java/util/BitSet") (F_n : Fld Z h0 bq "java/util/BitSet" "wordsInUse" "I" (.int 0)) (F_d : Fld Z h0 bq "java/util/BitSet" "words" "[J" (.ref wa)) (V_w : Arv Z h0 wa kw .long (1 : Int32) [(.long W)] (.long 0)) :
    own_M l Z (⟨"java/util/BitSet", "ensureCapacity", "(I)V"⟩ : MethodName) jdk_92_method_14_code ws 3 none (own_R 0 0 0 0) #[(.ref bq), (.int 1)] h0 (Q_rmEC Z bq wa kw W h0 n0) := by
  refine own_open (plainFor_of_name pn_0) ?_
  intro p e s m below meth c s₁ hx hby hlk hret hml hown hnm hZ X0 e0
  have hW := own_hW hw
  have N0 := Fr.nil n0
  refine own_of (fun tt_ kk_ => castTop (ef_rmEC m bq (1 : Int32)) kk_) ?_
  show own_go p e below s _ _ _ (s₁.setTop (mkF m 0 #[.val (.ref bq), .val (.int 1), .unset] []))
  refine own_of (fun tt_ => XS.aloadN X0.here hx rfl (hb hby d18_0) rfl rfl) ?_
  obtain ⟨T1, X1, e1, st1⟩ := getF X0 hx hZ hown (host := "") (Or.inl (hW 37 _ rfl)) Via.refl e0 F_d (g := (mkF m 1 #[.val (.ref bq), .val (.int 1), .unset] [(.ref bq)])) rfl rfl (hb hby d18_1)
  refine own_of st1 ?_
  show own_go p e below s _ _ _ (T1.setTop (mkF m 4 #[.val (.ref bq), .val (.int 1), .unset] [(.ref wa)]))
  obtain ⟨cl2, Ar2, q2, S2, Ng2, H2, G2⟩ := id V_w
  refine own_of (fun tt_ kk => X1.arraylength hx (by rw [e1]; exact Ar2.1) (State.isArrayOf_alike hZ.alike Ar2.2.1) (g := (mkF m 4 #[.val (.ref bq), .val (.int 1), .unset] [(.ref wa)])) rfl rfl (hb hby d18_4) _ (by rw [len_of S2 Ng2]; exact kk)) ?_
  show own_go p e below s _ _ _ (T1.setTop (mkF m 5 #[.val (.ref bq), .val (.int 1), .unset] [(.int 1)]))
  refine own_of (fun tt_ => XS.iloadN X1.here hx rfl (hb hby d18_5) rfl) ?_
  have hb6_3 : ¬ ((1 : Int32) < (1 : Int32)) := by decide
  refine own_of (fun tt_ => XS.icmpYes X1.here hx rfl (pc0 := 6) (pc' := 38) rfl (hb hby d18_6) rfl (flt hb6_3).2.1 (by decide) (by decide)) ?_
  show own_go p e below s _ _ _ (T1.setTop (mkF m 38 #[.val (.ref bq), .val (.int 1), .unset] []))
  refine own_retV X1 hx hlk hret (hb hby d18_38) (by decide) (by decide) ?_
  rw [e1]
  exact ⟨rfl, N0, rfl⟩
theorem ef_rmEx0 (m : MethodId) (x0 : Nat) (x1 : Int32) : entryFrame m #[(.ref x0), (.int x1)] 3 = mkF m 0 #[.val (.ref x0), .val (.int x1), .unset] [] := by first | (simp [entryFrame, mkF, argsToLocals, Value.category]; done) | rfl
theorem d17_0 : decode jdk_92_method_15_code 0 = .ok (.iload_n 1, 1) := by decide +kernel
theorem d17_1 : decode jdk_92_method_15_code 1 = .ok (.iconst 1, 1) := by decide +kernel
theorem d17_2 : decode jdk_92_method_15_code 2 = .ok (.iadd, 1) := by decide +kernel
theorem d17_3 : decode jdk_92_method_15_code 3 = .ok (.istore_n 2, 1) := by decide +kernel
theorem d17_4 : decode jdk_92_method_15_code 4 = .ok (.aload_n 0, 1) := by decide +kernel
theorem d17_5 : decode jdk_92_method_15_code 5 = .ok (.getfield 7, 3) := by decide +kernel
theorem d17_8 : decode jdk_92_method_15_code 8 = .ok (.iload_n 2, 1) := by decide +kernel
theorem d17_9 : decode jdk_92_method_15_code 9 = .ok (.if_icmp .ge 13, 3) := by decide +kernel
theorem d17_12 : decode jdk_92_method_15_code 12 = .ok (.aload_n 0, 1) := by decide +kernel
theorem d17_13 : decode jdk_92_method_15_code 13 = .ok (.iload_n 2, 1) := by decide +kernel
theorem d17_14 : decode jdk_92_method_15_code 14 = .ok (.invokevirtual 139, 3) := by decide +kernel
theorem pd_2 : parseMethodDescriptor "(I)V" = some ⟨[.int], none⟩ := by decide +kernel
theorem d17_17 : decode jdk_92_method_15_code 17 = .ok (.aload_n 0, 1) := by decide +kernel
theorem d17_18 : decode jdk_92_method_15_code 18 = .ok (.iload_n 2, 1) := by decide +kernel
theorem d17_19 : decode jdk_92_method_15_code 19 = .ok (.putfield 7, 3) := by decide +kernel
theorem pf_0 : parseFieldDescriptor "I" = some .int := by decide +kernel
theorem d17_22 : decode jdk_92_method_15_code 22 = .ok (.return_, 1) := by decide +kernel
theorem pf_1 : parseFieldDescriptor "[J" = some (.array .long) := by decide +kernel
def Q_rmEx0 (Z : State) (bq : Nat) (wa : Nat) (kw : ClassId) (h0 : Heap) (n0 : Nat) (v : Option Value) (h : Heap) (L : List Loc) : Prop := v = none ∧ Fr n0 L ∧ Keep h0 h [bq] ∧ Exa Z h bq "java/util/BitSet" ∧ Fld Z h bq "java/util/BitSet" "wordsInUse" "I" (.int 1) ∧ Fld Z h bq "java/util/BitSet" "words" "[J" (.ref wa) ∧ Arv Z h wa kw .long (1 : Int32) [(.long 0)] (.long 0)
set_option maxRecDepth 65536 in
set_option maxHeartbeats 40000000 in
theorem rmEx0 (l : Launch) (Z : State) (a0 : Array Value) (hw : own_H Z a0) (ws : List Jvm.Cond) (bq : Nat) (wa : Nat) (kw : ClassId) (h0 : Heap) (n0 : Nat) (XO0 : Old Z n0 h0) (E_b : Exa Z h0 bq "java/util/BitSet") (F_n : Fld Z h0 bq "java/util/BitSet" "wordsInUse" "I" (.int 0)) (F_d : Fld Z h0 bq "java/util/BitSet" "words" "[J" (.ref wa)) (V_w : Arv Z h0 wa kw .long (1 : Int32) [(.long 0)] (.long 0)) (g_b : n0 ≤ bq) (g_w : n0 ≤ wa) (n_bw : bq ≠ wa) :
    own_M l Z ym11 jdk_92_method_15_code ws 3 none (own_R 1 0 0 14) #[(.ref bq), (.int 0)] h0 (Q_rmEx0 Z bq wa kw h0 n0) := by
  refine own_open (plainFor_of_name pn_0) ?_
  intro p e s m below meth c s₁ hx hby hlk hret hml hown hnm hZ X0 e0
  have hW := own_hW hw
  have N0 := Fr.nil n0
  refine own_of (fun tt_ kk_ => castTop (ef_rmEx0 m bq (0 : Int32)) kk_) ?_
  show own_go p e below s _ _ _ (s₁.setTop (mkF m 0 #[.val (.ref bq), .val (.int 0), .unset] []))
  have K0_ : Keep h0 h0 [bq] := Keep.refl h0 [bq]
  have lt_bq := own_lt E_b.lt
  have lt_wa := own_lt V_w.lt
  refine own_of (fun tt_ => XS.iloadN X0.here hx rfl (hb hby d17_0) rfl) ?_
  refine own_of (fun tt_ => XS.iconst X0.here hx rfl (hb hby d17_1)) ?_
  refine own_of (fun tt_ => XS.iadd X0.here hx rfl (hb hby d17_2) rfl) ?_
  show own_go p e below s _ _ _ (s₁.setTop (mkF m 3 #[.val (.ref bq), .val (.int 0), .unset] [(.int 1)]))
  refine own_of (fun tt_ => XS.istoreN X0.here hx rfl (hb hby d17_3) rfl (l' := #[.val (.ref bq), .val (.int 0), .val (.int 1)]) rfl) ?_
  refine own_of (fun tt_ => XS.aloadN X0.here hx rfl (hb hby d17_4) rfl rfl) ?_
  obtain ⟨T1, X1, e1, st1⟩ := getF X0 hx hZ hown (host := "") (Or.inl (hW 24 _ rfl)) Via.refl e0 F_n (g := (mkF m 5 #[.val (.ref bq), .val (.int 0), .val (.int 1)] [(.ref bq)])) rfl rfl (hb hby d17_5)
  refine own_of st1 ?_
  show own_go p e below s _ _ _ (T1.setTop (mkF m 8 #[.val (.ref bq), .val (.int 0), .val (.int 1)] [(.int 0)]))
  refine own_of (fun tt_ => XS.iloadN X1.here hx rfl (hb hby d17_8) rfl) ?_
  have hb9_2 : (0 : Int32) < (1 : Int32) := by decide
  refine own_of (fun tt_ => XS.icmpNo X1.here hx rfl (hb hby d17_9) rfl (tlt hb9_2).2.1) ?_
  show own_go p e below s _ _ _ (T1.setTop (mkF m 12 #[.val (.ref bq), .val (.int 0), .val (.int 1)] []))
  refine own_of (fun tt_ => XS.aloadN X1.here hx rfl (hb hby d17_12) rfl rfl) ?_
  refine own_of (fun tt_ => XS.iloadN X1.here hx rfl (hb hby d17_13) rfl) ?_
  show own_go p e below s _ _ _ (T1.setTop (mkF m 14 #[.val (.ref bq), .val (.int 0), .val (.int 1)] [(.int 1), (.ref bq)]))
  obtain ⟨cq3, q3, q3'⟩ := E_b.cell
  obtain ⟨_, _, ⟨T3, L3, k3, n3⟩, -, X3, ⟨Lc3, hQ3, l3, y3, z3⟩, st3⟩ := X1.privateBack hx (y := (⟨"java/util/BitSet", "ensureCapacity", "(I)V"⟩ : MethodName)) hown (mvT hZ (hW 104 _ rfl)) (mvT hZ (hW 105 _ rfl)) (mvT hZ (hW 107 _ rfl)) (Cond.privateMethod_at (mvP hZ (hW 106 _ rfl) (args := #[]))) (mvT hZ (hW 108 _ rfl)) (by decide) (backOf (W := 0) (rmEC l Z a0 hw [] bq wa kw (0 : Int64) h0 n0 XO0 E_b F_n F_d V_w) hZ (hW 108 _ rfl) (hW 19 _ rfl) (by decide) (by decide)) (g := (mkF m 14 #[.val (.ref bq), .val (.int 0), .val (.int 1)] [(.int 1), (.ref bq)])) rfl (by rw [hml]; rfl) (Steps.refl _) (a := bq) (by rw [e1]; exact q3) q3' (argsL := [(.int 1)]) (rest := []) (lenOf pd_2 rfl) rfl (by show 2 * 0 + _ ≤ _; exact Nat.le_of_eq rfl) (hb hby d17_14) (fun _ _ => ⟨rfl, e1, (by decide : 0 + 0 ≤ _), (by decide : 0 + 0 ≤ _)⟩)
  dsimp only [Pt.U, Pt.locs, Pt.cells, Pt.slots] at X3 l3 y3 z3 st3 hQ3
  subst l3 y3 z3
  obtain ⟨rfl, Nq3, eh3⟩ := hQ3
  have N3 := Fr.app N0 Nq3
  refine own_of (fun tt_ kk_ => st3.trans kk_) ?_
  show own_go p e below s _ _ _ (T3.setTop (mkF m 17 #[.val (.ref bq), .val (.int 0), .val (.int 1)] []))
  refine own_of (fun tt_ => XS.aloadN X3.here hx rfl (hb hby d17_17) rfl rfl) ?_
  refine own_of (fun tt_ => XS.iloadN X3.here hx rfl (hb hby d17_18) rfl) ?_
  obtain ⟨T4, h4, X4, e4, W4, st4⟩ := putF X3 hx hZ hown (host := "") (Or.inl (hW 24 _ rfl)) Via.refl eh3 F_n E_b (Or.inl (hW 25 _ rfl)) (hW 18 _ rfl) (ty := .int) pf_0 rfl rfl (g := (mkF m 19 #[.val (.ref bq), .val (.int 0), .val (.int 1)] [(.int 1), (.ref bq)])) rfl rfl (hb hby d17_19)
  refine own_of st4 ?_
  have N4 := Fr.snoc X4 N3 (by omega : n0 ≤ bq)
  have sz4 : h4.size = h0.size := W4.size
  have O4 : Old Z n0 h4 := XO0.wr W4 (by omega)
  have K4 : Keep h0 h4 [bq] := K0_.wr W4 (Or.inl (List.mem_of_getElem? (i := 0) rfl))
  have Fw4 := F_n.same W4
  show own_go p e below s _ _ _ (T4.setTop (mkF m 22 #[.val (.ref bq), .val (.int 0), .val (.int 1)] []))
  refine own_retV X4 hx hlk hret (hb hby d17_22) (by decide) (by decide) ?_
  rw [e4]
  have f5 : Exa Z h4 bq "java/util/BitSet" := (E_b.wr W4)
  have f6 : Fld Z h4 bq "java/util/BitSet" "words" "[J" (.ref wa) := (F_d.other W4 (Or.inr (slot_ne (Or.inl (hW 38 _ rfl)) (Or.inl (hW 25 _ rfl)) (by decide) pf_1 pf_0)))
  have f7 : Arv Z h4 wa kw .long (1 : Int32) [(.long 0)] (.long 0) := (V_w.other W4 (own_ne (by omega)))
  exact ⟨rfl, N4, K4, f5, Fw4, f6, f7⟩
theorem ef_rmSet0 (m : MethodId) (x0 : Nat) (x1 : Int32) : entryFrame m #[(.ref x0), (.int x1)] 3 = mkF m 0 #[.val (.ref x0), .val (.int x1), .unset] [] := by first | (simp [entryFrame, mkF, argsToLocals, Value.category]; done) | rfl
theorem d16_0 : decode jdk_92_method_19_code 0 = .ok (.iload_n 1, 1) := by decide +kernel
theorem d16_1 : decode jdk_92_method_19_code 1 = .ok (.ifCond .ge 30, 3) := by decide +kernel
theorem d16_31 : decode jdk_92_method_19_code 31 = .ok (.iload_n 1, 1) := by decide +kernel
theorem d16_32 : decode jdk_92_method_19_code 32 = .ok (.invokestatic 52, 3) := by decide +kernel
theorem d16_35 : decode jdk_92_method_19_code 35 = .ok (.istore_n 2, 1) := by decide +kernel
theorem d16_36 : decode jdk_92_method_19_code 36 = .ok (.aload_n 0, 1) := by decide +kernel
theorem d16_37 : decode jdk_92_method_19_code 37 = .ok (.iload_n 2, 1) := by decide +kernel
theorem d16_38 : decode jdk_92_method_19_code 38 = .ok (.invokevirtual 155, 3) := by decide +kernel
theorem d16_41 : decode jdk_92_method_19_code 41 = .ok (.aload_n 0, 1) := by decide +kernel
theorem d16_42 : decode jdk_92_method_19_code 42 = .ok (.getfield 11, 3) := by decide +kernel
theorem d16_45 : decode jdk_92_method_19_code 45 = .ok (.iload_n 2, 1) := by decide +kernel
theorem d16_46 : decode jdk_92_method_19_code 46 = .ok (.dup2, 1) := by decide +kernel
theorem d16_47 : decode jdk_92_method_19_code 47 = .ok (.laload, 1) := by decide +kernel
theorem d16_48 : decode jdk_92_method_19_code 48 = .ok (.lconst 1, 1) := by decide +kernel
theorem d16_49 : decode jdk_92_method_19_code 49 = .ok (.iload_n 1, 1) := by decide +kernel
theorem d16_50 : decode jdk_92_method_19_code 50 = .ok (.lshl, 1) := by decide +kernel
theorem d16_51 : decode jdk_92_method_19_code 51 = .ok (.lor, 1) := by decide +kernel
theorem d16_52 : decode jdk_92_method_19_code 52 = .ok (.lastore, 1) := by decide +kernel
theorem d16_53 : decode jdk_92_method_19_code 53 = .ok (.aload_n 0, 1) := by decide +kernel
theorem d16_54 : decode jdk_92_method_19_code 54 = .ok (.invokevirtual 56, 3) := by decide +kernel
theorem d16_57 : decode jdk_92_method_19_code 57 = .ok (.return_, 1) := by decide +kernel
def Q_rmSet0 (Z : State) (bq : Nat) (wa : Nat) (kw : ClassId) (ix : Int32) (h0 : Heap) (n0 : Nat) (v : Option Value) (h : Heap) (L : List Loc) : Prop := v = none ∧ Fr n0 L ∧ Keep h0 h [bq, wa] ∧ Exa Z h bq "java/util/BitSet" ∧ Fld Z h bq "java/util/BitSet" "wordsInUse" "I" (.int 1) ∧ Fld Z h bq "java/util/BitSet" "words" "[J" (.ref wa) ∧ Arv Z h wa kw .long (1 : Int32) [(.long ((0 : Int64) ||| own_m ix))] (.long 0)
set_option maxRecDepth 65536 in
set_option maxHeartbeats 40000000 in
theorem rmSet0 (l : Launch) (Z : State) (a0 : Array Value) (hw : own_H Z a0) (ws : List Jvm.Cond) (bq : Nat) (wa : Nat) (kw : ClassId) (ix : Int32) (h0 : Heap) (n0 : Nat) (XO0 : Old Z n0 h0) (S_ad : Sta Z Z.heap "java/util/BitSet" "$assertionsDisabled" "Z" (.int 1)) (E_b : Exa Z h0 bq "java/util/BitSet") (F_n : Fld Z h0 bq "java/util/BitSet" "wordsInUse" "I" (.int 0)) (F_d : Fld Z h0 bq "java/util/BitSet" "words" "[J" (.ref wa)) (V_w : Arv Z h0 wa kw .long (1 : Int32) [(.long 0)] (.long 0)) (g_b : n0 ≤ bq) (g_w : n0 ≤ wa) (n_bw : bq ≠ wa) (s_i : own_s ix) :
    own_M l Z ym8 jdk_92_method_19_code ws 3 none (own_R 2 0 0 28) #[(.ref bq), (.int ix)] h0 (Q_rmSet0 Z bq wa kw ix h0 n0) := by
  refine own_open (plainFor_of_name pn_0) ?_
  intro p e s m below meth c s₁ hx hby hlk hret hml hown hnm hZ X0 e0
  have hW := own_hW hw
  have N0 := Fr.nil n0
  refine own_of (fun tt_ kk_ => castTop (ef_rmSet0 m bq ix) kk_) ?_
  show own_go p e below s _ _ _ (s₁.setTop (mkF m 0 #[.val (.ref bq), .val (.int ix), .unset] []))
  have K0_ : Keep h0 h0 [bq, wa] := Keep.refl h0 [bq, wa]
  have lt_bq := own_lt E_b.lt
  have lt_wa := own_lt V_w.lt
  refine own_of (fun tt_ => XS.iloadN X0.here hx rfl (hb hby d16_0) rfl) ?_
  have hb1_1 : ¬ (ix < (0 : Int32)) := own_s_ge s_i
  refine own_of (fun tt_ => XS.ifYes X0.here hx rfl (pc0 := 1) (pc' := 31) rfl (hb hby d16_1) rfl ((if0 _ _).trans (flt hb1_1).2.1) (by decide) (by decide)) ?_
  show own_go p e below s _ _ _ (s₁.setTop (mkF m 31 #[.val (.ref bq), .val (.int ix), .unset] []))
  refine own_of (fun tt_ => XS.iloadN X0.here hx rfl (hb hby d16_31) rfl) ?_
  show own_go p e below s _ _ _ (s₁.setTop (mkF m 32 #[.val (.ref bq), .val (.int ix), .unset] [(.int ix)]))
  obtain ⟨_, _, ⟨T2, L2, k2, n2⟩, -, X2, ⟨Lc2, hQ2, l2, y2, z2⟩, st2⟩ := Jvm.LawKit.callS X0 hx (y := ym7) hown (mvT hZ (hW 33 _ rfl)) (mvT hZ (hW 34 _ rfl)) (mvT hZ (hW 19 _ rfl)) (mvT hZ (hW 35 _ rfl)) (by decide) (backOf (W := 0) (rmWI l Z a0 hw [] ix h0 n0 XO0 s_i) hZ (hW 35 _ rfl) (hW 19 _ rfl) (by decide) (by decide)) (g := (mkF m 32 #[.val (.ref bq), .val (.int ix), .unset] [(.int ix)])) rfl (by rw [hml]; rfl) (argsL := [(.int ix)]) (rest := []) (lenOf pd_1 rfl) rfl (by show 2 * 0 + _ ≤ _; exact Nat.le_of_eq rfl) (hb hby d16_32) (fun _ _ => ⟨rfl, e0, (by decide : 0 + 0 ≤ _), (by decide : 0 + 0 ≤ _)⟩)
  dsimp only [Pt.U, Pt.locs, Pt.cells, Pt.slots] at X2 l2 y2 z2 st2 hQ2
  subst l2 y2 z2
  obtain ⟨rfl, Nq2, eh2⟩ := hQ2
  have N2 := Fr.app N0 Nq2
  refine own_of st2 ?_
  show own_go p e below s _ _ _ (T2.setTop (mkF m 35 #[.val (.ref bq), .val (.int ix), .unset] [(.int 0)]))
  refine own_of (fun tt_ => XS.istoreN X2.here hx rfl (hb hby d16_35) rfl (l' := #[.val (.ref bq), .val (.int ix), .val (.int 0)]) rfl) ?_
  refine own_of (fun tt_ => XS.aloadN X2.here hx rfl (hb hby d16_36) rfl rfl) ?_
  refine own_of (fun tt_ => XS.iloadN X2.here hx rfl (hb hby d16_37) rfl) ?_
  show own_go p e below s _ _ _ (T2.setTop (mkF m 38 #[.val (.ref bq), .val (.int ix), .val (.int 0)] [(.int 0), (.ref bq)]))
  obtain ⟨cq3, q3, q3'⟩ := E_b.cell
  obtain ⟨_, _, ⟨T3, L3, k3, n3⟩, -, X3, ⟨Lc3, hQ3, l3, y3, z3⟩, st3⟩ := X2.privateBack hx (y := ym11) hown (mvT hZ (hW 99 _ rfl)) (mvT hZ (hW 100 _ rfl)) (mvT hZ (hW 102 _ rfl)) (Cond.privateMethod_at (mvP hZ (hW 101 _ rfl) (args := #[]))) (mvT hZ (hW 103 _ rfl)) (by decide) (backOf (W := 0) (rmEx0 l Z a0 hw [] bq wa kw h0 n0 XO0 E_b F_n F_d V_w (by omega) (by omega) (by omega)) hZ (hW 103 _ rfl) (hW 19 _ rfl) (by decide) (by decide)) (g := (mkF m 38 #[.val (.ref bq), .val (.int ix), .val (.int 0)] [(.int 0), (.ref bq)])) rfl (by rw [hml]; rfl) (Steps.refl _) (a := bq) (by rw [eh2]; exact q3) q3' (argsL := [(.int 0)]) (rest := []) (lenOf pd_2 rfl) rfl (by show 2 * 0 + _ ≤ _; exact Nat.le_of_eq rfl) (hb hby d16_38) (fun _ _ => ⟨rfl, eh2, (by decide : 0 + 0 ≤ _), (by decide : 0 + 0 ≤ _)⟩)
  dsimp only [Pt.U, Pt.locs, Pt.cells, Pt.slots] at X3 l3 y3 z3 st3 hQ3
  subst l3 y3 z3
  obtain ⟨rfl, Nq3, Kp3, Eb3, Fn3, Fd3, Vw3⟩ := hQ3
  have N3 := Fr.app N2 Nq3
  refine own_of (fun tt_ kk_ => st3.trans kk_) ?_
  have sz3 : h0.size ≤ T3.heap.size := Kp3.1
  have O3 : Old Z n0 T3.heap := XO0.keep Kp3 (allS (by omega) all0)
  have K3 : Keep h0 T3.heap [bq, wa] := K0_.trans Kp3 (allS (Or.inl (List.mem_of_getElem? (i := 0) rfl)) all0)
  show own_go p e below s _ _ _ (T3.setTop (mkF m 41 #[.val (.ref bq), .val (.int ix), .val (.int 0)] []))
  refine own_of (fun tt_ => XS.aloadN X3.here hx rfl (hb hby d16_41) rfl rfl) ?_
  obtain ⟨T4, X4, e4, st4⟩ := getF X3 hx hZ hown (host := "") (Or.inl (hW 37 _ rfl)) Via.refl rfl Fd3 (g := (mkF m 42 #[.val (.ref bq), .val (.int ix), .val (.int 0)] [(.ref bq)])) rfl rfl (hb hby d16_42)
  refine own_of st4 ?_
  show own_go p e below s _ _ _ (T4.setTop (mkF m 45 #[.val (.ref bq), .val (.int ix), .val (.int 0)] [(.ref wa)]))
  refine own_of (fun tt_ => XS.iloadN X4.here hx rfl (hb hby d16_45) rfl) ?_
  refine own_of (fun tt_ kk => by jvm_step X4.here [X4.here.top, hx, (hb hby d16_46), Value.category]; exact kk) ?_
  show own_go p e below s _ _ _ (T4.setTop (mkF m 47 #[.val (.ref bq), .val (.int ix), .val (.int 0)] [(.int 0), (.ref wa), (.int 0), (.ref wa)]))
  obtain ⟨cl5, Ar5, q5, S5, Ng5, H5, G5⟩ := id Vw3
  have hin5 : ¬ ((0 : Int32) < 0 ∨ cl5.slots.size ≤ ((0 : Int32)).toNatClampNeg) := inb_of S5 ⟨by decide, by decide⟩
  have hat5 : cl5.slots[((0 : Int32)).toNatClampNeg]? = some (.long 0) := H5 0 (by rw [S5]; decide)
  refine own_of (fun tt_ => X4.laload hx (j := (0 : Int32)) (v := (.long 0)) (by rw [e4]; exact Ar5.1) (State.isArrayOf_alike hZ.alike Ar5.2.1) Ar5.2.2 hin5 hat5 (g := (mkF m 47 #[.val (.ref bq), .val (.int ix), .val (.int 0)] [(.int 0), (.ref wa), (.int 0), (.ref wa)])) rfl rfl (hb hby d16_47) _) ?_
  show own_go p e below s _ _ _ (T4.setTop (mkF m 48 #[.val (.ref bq), .val (.int ix), .val (.int 0)] [(.long 0), (.int 0), (.ref wa)]))
  refine own_of (fun tt_ => XS.lconst X4.here hx rfl (hb hby d16_48)) ?_
  refine own_of (fun tt_ => XS.iloadN X4.here hx rfl (hb hby d16_49) rfl) ?_
  refine own_of (fun tt_ => XS.lshl X4.here hx rfl (hb hby d16_50) rfl) ?_
  show own_go p e below s _ _ _ (T4.setTop (mkF m 51 #[.val (.ref bq), .val (.int ix), .val (.int 0)] [(.long ((1 : Int64) <<< (ix &&& 0x3f).toInt64)), (.long 0), (.int 0), (.ref wa)]))
  refine own_of (fun tt_ => XS.lor X4.here hx rfl (hb hby d16_51) rfl) ?_
  show own_go p e below s _ _ _ (T4.setTop (mkF m 52 #[.val (.ref bq), .val (.int ix), .val (.int 0)] [(.long ((0 : Int64) ||| ((1 : Int64) <<< (ix &&& 0x3f).toInt64))), (.int 0), (.ref wa)]))
  obtain ⟨cl6, Ar6, q6, S6, Ng6, H6, G6⟩ := Vw3
  obtain ⟨T6, h6, X6, e6, W6, st6⟩ := stJ X4 hx hZ e4 Ar6 (j := (0 : Int32)) (inb_of S6 ⟨by decide, by decide⟩) (g := (mkF m 52 #[.val (.ref bq), .val (.int ix), .val (.int 0)] [(.long ((0 : Int64) ||| ((1 : Int64) <<< (ix &&& 0x3f).toInt64))), (.int 0), (.ref wa)])) rfl rfl (hb hby d16_52)
  have V6 : Arv Z h6 wa kw .long (1 : Int32) [(.long ((0 : Int64) ||| ((1 : Int64) <<< (ix &&& 0x3f).toInt64)))] (.long 0) := Arv.set Ar6 q6 S6 Ng6 H6 G6 rfl W6 0 rfl (Nat.le_of_ble_eq_true rfl)
  refine own_of st6 ?_
  have N6 := Fr.snoc X6 N3 (by omega : n0 ≤ wa)
  have sz6 : h6.size = T3.heap.size := W6.size
  have O6 : Old Z n0 h6 := O3.wr W6 (by omega)
  have K6 : Keep h0 h6 [bq, wa] := K3.wr W6 (Or.inl (List.mem_of_getElem? (i := 1) rfl))
  show own_go p e below s _ _ _ (T6.setTop (mkF m 53 #[.val (.ref bq), .val (.int ix), .val (.int 0)] []))
  refine own_of (fun tt_ => XS.aloadN X6.here hx rfl (hb hby d16_53) rfl rfl) ?_
  show own_go p e below s _ _ _ (T6.setTop (mkF m 54 #[.val (.ref bq), .val (.int ix), .val (.int 0)] [(.ref bq)]))
  have f8 : Exa Z h6 bq "java/util/BitSet" := (Eb3.wr W6)
  obtain ⟨cq7, q7, q7'⟩ := f8.cell
  obtain ⟨_, _, ⟨T7, L7, k7, n7⟩, -, X7, ⟨Lc7, hQ7, l7, y7, z7⟩, st7⟩ := X6.privateBack hx (y := ym10) hown (mvT hZ (hW 73 _ rfl)) (mvT hZ (hW 74 _ rfl)) (mvT hZ (hW 76 _ rfl)) (Cond.privateMethod_at (mvP hZ (hW 75 _ rfl) (args := #[]))) (mvT hZ (hW 77 _ rfl)) (by decide) (backOf (W := 0) (rmCI l Z a0 hw [] bq h6 n0 O6 S_ad) hZ (hW 77 _ rfl) (hW 19 _ rfl) (by decide) (by decide)) (g := (mkF m 54 #[.val (.ref bq), .val (.int ix), .val (.int 0)] [(.ref bq)])) rfl (by rw [hml]; rfl) (Steps.refl _) (a := bq) (by rw [e6]; exact q7) q7' (argsL := []) (rest := []) (lenOf pd_0 rfl) rfl (by show 2 * 0 + _ ≤ _; exact Nat.le_of_eq rfl) (hb hby d16_54) (fun _ _ => ⟨rfl, e6, (by decide : 0 + 0 ≤ _), (by decide : 0 + 0 ≤ _)⟩)
  dsimp only [Pt.U, Pt.locs, Pt.cells, Pt.slots] at X7 l7 y7 z7 st7 hQ7
  subst l7 y7 z7
  obtain ⟨rfl, Nq7, eh7⟩ := hQ7
  have N7 := Fr.app N6 Nq7
  refine own_of (fun tt_ kk_ => st7.trans kk_) ?_
  show own_go p e below s _ _ _ (T7.setTop (mkF m 57 #[.val (.ref bq), .val (.int ix), .val (.int 0)] []))
  refine own_retV X7 hx hlk hret (hb hby d16_57) (by decide) (by decide) ?_
  rw [eh7]
  have f9 : Fld Z h6 bq "java/util/BitSet" "wordsInUse" "I" (.int 1) := (Fn3.other W6 (Or.inl (own_ne (by omega))))
  have f10 : Fld Z h6 bq "java/util/BitSet" "words" "[J" (.ref wa) := (Fd3.other W6 (Or.inl (own_ne (by omega))))
  exact ⟨rfl, N7, K6, f8, f9, f10, V6⟩
theorem ef_rmEx1 (m : MethodId) (x0 : Nat) (x1 : Int32) : entryFrame m #[(.ref x0), (.int x1)] 3 = mkF m 0 #[.val (.ref x0), .val (.int x1), .unset] [] := by first | (simp [entryFrame, mkF, argsToLocals, Value.category]; done) | rfl
def Q_rmEx1 (Z : State) (bq : Nat) (wa : Nat) (kw : ClassId) (W : Int64) (h0 : Heap) (n0 : Nat) (v : Option Value) (h : Heap) (L : List Loc) : Prop := v = none ∧ Fr n0 L ∧ Keep h0 h [bq] ∧ Exa Z h bq "java/util/BitSet" ∧ Fld Z h bq "java/util/BitSet" "wordsInUse" "I" (.int 1) ∧ Fld Z h bq "java/util/BitSet" "words" "[J" (.ref wa) ∧ Arv Z h wa kw .long (1 : Int32) [(.long W)] (.long 0)
set_option maxRecDepth 65536 in
set_option maxHeartbeats 40000000 in
theorem rmEx1 (l : Launch) (Z : State) (a0 : Array Value) (hw : own_H Z a0) (ws : List Jvm.Cond) (bq : Nat) (wa : Nat) (kw : ClassId) (W : Int64) (h0 : Heap) (n0 : Nat) (XO0 : Old Z n0 h0) (E_b : Exa Z h0 bq "java/util/BitSet") (F_n : Fld Z h0 bq "java/util/BitSet" "wordsInUse" "I" (.int 1)) (F_d : Fld Z h0 bq "java/util/BitSet" "words" "[J" (.ref wa)) (V_w : Arv Z h0 wa kw .long (1 : Int32) [(.long W)] (.long 0)) (g_b : n0 ≤ bq) (g_w : n0 ≤ wa) (n_bw : bq ≠ wa) :
    own_M l Z ym11 jdk_92_method_15_code ws 3 none (own_R 0 0 0 0) #[(.ref bq), (.int 0)] h0 (Q_rmEx1 Z bq wa kw W h0 n0) := by
  refine own_open (plainFor_of_name pn_0) ?_
  intro p e s m below meth c s₁ hx hby hlk hret hml hown hnm hZ X0 e0
  have hW := own_hW hw
  have N0 := Fr.nil n0
  refine own_of (fun tt_ kk_ => castTop (ef_rmEx1 m bq (0 : Int32)) kk_) ?_
  show own_go p e below s _ _ _ (s₁.setTop (mkF m 0 #[.val (.ref bq), .val (.int 0), .unset] []))
  have K0_ : Keep h0 h0 [bq] := Keep.refl h0 [bq]
  have lt_bq := own_lt E_b.lt
  have lt_wa := own_lt V_w.lt
  refine own_of (fun tt_ => XS.iloadN X0.here hx rfl (hb hby d17_0) rfl) ?_
  refine own_of (fun tt_ => XS.iconst X0.here hx rfl (hb hby d17_1)) ?_
  refine own_of (fun tt_ => XS.iadd X0.here hx rfl (hb hby d17_2) rfl) ?_
  show own_go p e below s _ _ _ (s₁.setTop (mkF m 3 #[.val (.ref bq), .val (.int 0), .unset] [(.int 1)]))
  refine own_of (fun tt_ => XS.istoreN X0.here hx rfl (hb hby d17_3) rfl (l' := #[.val (.ref bq), .val (.int 0), .val (.int 1)]) rfl) ?_
  refine own_of (fun tt_ => XS.aloadN X0.here hx rfl (hb hby d17_4) rfl rfl) ?_
  obtain ⟨T1, X1, e1, st1⟩ := getF X0 hx hZ hown (host := "") (Or.inl (hW 24 _ rfl)) Via.refl e0 F_n (g := (mkF m 5 #[.val (.ref bq), .val (.int 0), .val (.int 1)] [(.ref bq)])) rfl rfl (hb hby d17_5)
  refine own_of st1 ?_
  show own_go p e below s _ _ _ (T1.setTop (mkF m 8 #[.val (.ref bq), .val (.int 0), .val (.int 1)] [(.int 1)]))
  refine own_of (fun tt_ => XS.iloadN X1.here hx rfl (hb hby d17_8) rfl) ?_
  have hb9_2 : ¬ ((1 : Int32) < (1 : Int32)) := by decide
  refine own_of (fun tt_ => XS.icmpYes X1.here hx rfl (pc0 := 9) (pc' := 22) rfl (hb hby d17_9) rfl (flt hb9_2).2.1 (by decide) (by decide)) ?_
  show own_go p e below s _ _ _ (T1.setTop (mkF m 22 #[.val (.ref bq), .val (.int 0), .val (.int 1)] []))
  refine own_retV X1 hx hlk hret (hb hby d17_22) (by decide) (by decide) ?_
  rw [e1]
  exact ⟨rfl, N0, K0_, E_b, F_n, F_d, V_w⟩
theorem ef_rmSet1 (m : MethodId) (x0 : Nat) (x1 : Int32) : entryFrame m #[(.ref x0), (.int x1)] 3 = mkF m 0 #[.val (.ref x0), .val (.int x1), .unset] [] := by first | (simp [entryFrame, mkF, argsToLocals, Value.category]; done) | rfl
def Q_rmSet1 (Z : State) (bq : Nat) (wa : Nat) (kw : ClassId) (W : Int64) (ix : Int32) (h0 : Heap) (n0 : Nat) (v : Option Value) (h : Heap) (L : List Loc) : Prop := v = none ∧ Fr n0 L ∧ Keep h0 h [bq, wa] ∧ Exa Z h bq "java/util/BitSet" ∧ Fld Z h bq "java/util/BitSet" "wordsInUse" "I" (.int 1) ∧ Fld Z h bq "java/util/BitSet" "words" "[J" (.ref wa) ∧ Arv Z h wa kw .long (1 : Int32) [(.long (W ||| own_m ix))] (.long 0)
set_option maxRecDepth 65536 in
set_option maxHeartbeats 40000000 in
theorem rmSet1 (l : Launch) (Z : State) (a0 : Array Value) (hw : own_H Z a0) (ws : List Jvm.Cond) (bq : Nat) (wa : Nat) (kw : ClassId) (W : Int64) (ix : Int32) (h0 : Heap) (n0 : Nat) (XO0 : Old Z n0 h0) (S_ad : Sta Z Z.heap "java/util/BitSet" "$assertionsDisabled" "Z" (.int 1)) (E_b : Exa Z h0 bq "java/util/BitSet") (F_n : Fld Z h0 bq "java/util/BitSet" "wordsInUse" "I" (.int 1)) (F_d : Fld Z h0 bq "java/util/BitSet" "words" "[J" (.ref wa)) (V_w : Arv Z h0 wa kw .long (1 : Int32) [(.long W)] (.long 0)) (g_b : n0 ≤ bq) (g_w : n0 ≤ wa) (n_bw : bq ≠ wa) (s_i : own_s ix) :
    own_M l Z ym8 jdk_92_method_19_code ws 3 none (own_R 1 0 0 14) #[(.ref bq), (.int ix)] h0 (Q_rmSet1 Z bq wa kw W ix h0 n0) := by
  refine own_open (plainFor_of_name pn_0) ?_
  intro p e s m below meth c s₁ hx hby hlk hret hml hown hnm hZ X0 e0
  have hW := own_hW hw
  have N0 := Fr.nil n0
  refine own_of (fun tt_ kk_ => castTop (ef_rmSet1 m bq ix) kk_) ?_
  show own_go p e below s _ _ _ (s₁.setTop (mkF m 0 #[.val (.ref bq), .val (.int ix), .unset] []))
  have K0_ : Keep h0 h0 [bq, wa] := Keep.refl h0 [bq, wa]
  have lt_bq := own_lt E_b.lt
  have lt_wa := own_lt V_w.lt
  refine own_of (fun tt_ => XS.iloadN X0.here hx rfl (hb hby d16_0) rfl) ?_
  have hb1_1 : ¬ (ix < (0 : Int32)) := own_s_ge s_i
  refine own_of (fun tt_ => XS.ifYes X0.here hx rfl (pc0 := 1) (pc' := 31) rfl (hb hby d16_1) rfl ((if0 _ _).trans (flt hb1_1).2.1) (by decide) (by decide)) ?_
  show own_go p e below s _ _ _ (s₁.setTop (mkF m 31 #[.val (.ref bq), .val (.int ix), .unset] []))
  refine own_of (fun tt_ => XS.iloadN X0.here hx rfl (hb hby d16_31) rfl) ?_
  show own_go p e below s _ _ _ (s₁.setTop (mkF m 32 #[.val (.ref bq), .val (.int ix), .unset] [(.int ix)]))
  obtain ⟨_, _, ⟨T2, L2, k2, n2⟩, -, X2, ⟨Lc2, hQ2, l2, y2, z2⟩, st2⟩ := Jvm.LawKit.callS X0 hx (y := ym7) hown (mvT hZ (hW 33 _ rfl)) (mvT hZ (hW 34 _ rfl)) (mvT hZ (hW 19 _ rfl)) (mvT hZ (hW 35 _ rfl)) (by decide) (backOf (W := 0) (rmWI l Z a0 hw [] ix h0 n0 XO0 s_i) hZ (hW 35 _ rfl) (hW 19 _ rfl) (by decide) (by decide)) (g := (mkF m 32 #[.val (.ref bq), .val (.int ix), .unset] [(.int ix)])) rfl (by rw [hml]; rfl) (argsL := [(.int ix)]) (rest := []) (lenOf pd_1 rfl) rfl (by show 2 * 0 + _ ≤ _; exact Nat.le_of_eq rfl) (hb hby d16_32) (fun _ _ => ⟨rfl, e0, (by decide : 0 + 0 ≤ _), (by decide : 0 + 0 ≤ _)⟩)
  dsimp only [Pt.U, Pt.locs, Pt.cells, Pt.slots] at X2 l2 y2 z2 st2 hQ2
  subst l2 y2 z2
  obtain ⟨rfl, Nq2, eh2⟩ := hQ2
  have N2 := Fr.app N0 Nq2
  refine own_of st2 ?_
  show own_go p e below s _ _ _ (T2.setTop (mkF m 35 #[.val (.ref bq), .val (.int ix), .unset] [(.int 0)]))
  refine own_of (fun tt_ => XS.istoreN X2.here hx rfl (hb hby d16_35) rfl (l' := #[.val (.ref bq), .val (.int ix), .val (.int 0)]) rfl) ?_
  refine own_of (fun tt_ => XS.aloadN X2.here hx rfl (hb hby d16_36) rfl rfl) ?_
  refine own_of (fun tt_ => XS.iloadN X2.here hx rfl (hb hby d16_37) rfl) ?_
  show own_go p e below s _ _ _ (T2.setTop (mkF m 38 #[.val (.ref bq), .val (.int ix), .val (.int 0)] [(.int 0), (.ref bq)]))
  obtain ⟨cq3, q3, q3'⟩ := E_b.cell
  obtain ⟨_, _, ⟨T3, L3, k3, n3⟩, -, X3, ⟨Lc3, hQ3, l3, y3, z3⟩, st3⟩ := X2.privateBack hx (y := ym11) hown (mvT hZ (hW 99 _ rfl)) (mvT hZ (hW 100 _ rfl)) (mvT hZ (hW 102 _ rfl)) (Cond.privateMethod_at (mvP hZ (hW 101 _ rfl) (args := #[]))) (mvT hZ (hW 103 _ rfl)) (by decide) (backOf (W := 0) (rmEx1 l Z a0 hw [] bq wa kw W h0 n0 XO0 E_b F_n F_d V_w (by omega) (by omega) (by omega)) hZ (hW 103 _ rfl) (hW 19 _ rfl) (by decide) (by decide)) (g := (mkF m 38 #[.val (.ref bq), .val (.int ix), .val (.int 0)] [(.int 0), (.ref bq)])) rfl (by rw [hml]; rfl) (Steps.refl _) (a := bq) (by rw [eh2]; exact q3) q3' (argsL := [(.int 0)]) (rest := []) (lenOf pd_2 rfl) rfl (by show 2 * 0 + _ ≤ _; exact Nat.le_of_eq rfl) (hb hby d16_38) (fun _ _ => ⟨rfl, eh2, (by decide : 0 + 0 ≤ _), (by decide : 0 + 0 ≤ _)⟩)
  dsimp only [Pt.U, Pt.locs, Pt.cells, Pt.slots] at X3 l3 y3 z3 st3 hQ3
  subst l3 y3 z3
  obtain ⟨rfl, Nq3, Kp3, Eb3, Fn3, Fd3, Vw3⟩ := hQ3
  have N3 := Fr.app N2 Nq3
  refine own_of (fun tt_ kk_ => st3.trans kk_) ?_
  have sz3 : h0.size ≤ T3.heap.size := Kp3.1
  have O3 : Old Z n0 T3.heap := XO0.keep Kp3 (allS (by omega) all0)
  have K3 : Keep h0 T3.heap [bq, wa] := K0_.trans Kp3 (allS (Or.inl (List.mem_of_getElem? (i := 0) rfl)) all0)
  show own_go p e below s _ _ _ (T3.setTop (mkF m 41 #[.val (.ref bq), .val (.int ix), .val (.int 0)] []))
  refine own_of (fun tt_ => XS.aloadN X3.here hx rfl (hb hby d16_41) rfl rfl) ?_
  obtain ⟨T4, X4, e4, st4⟩ := getF X3 hx hZ hown (host := "") (Or.inl (hW 37 _ rfl)) Via.refl rfl Fd3 (g := (mkF m 42 #[.val (.ref bq), .val (.int ix), .val (.int 0)] [(.ref bq)])) rfl rfl (hb hby d16_42)
  refine own_of st4 ?_
  show own_go p e below s _ _ _ (T4.setTop (mkF m 45 #[.val (.ref bq), .val (.int ix), .val (.int 0)] [(.ref wa)]))
  refine own_of (fun tt_ => XS.iloadN X4.here hx rfl (hb hby d16_45) rfl) ?_
  refine own_of (fun tt_ kk => by jvm_step X4.here [X4.here.top, hx, (hb hby d16_46), Value.category]; exact kk) ?_
  show own_go p e below s _ _ _ (T4.setTop (mkF m 47 #[.val (.ref bq), .val (.int ix), .val (.int 0)] [(.int 0), (.ref wa), (.int 0), (.ref wa)]))
  obtain ⟨cl5, Ar5, q5, S5, Ng5, H5, G5⟩ := id Vw3
  have hin5 : ¬ ((0 : Int32) < 0 ∨ cl5.slots.size ≤ ((0 : Int32)).toNatClampNeg) := inb_of S5 ⟨by decide, by decide⟩
  have hat5 : cl5.slots[((0 : Int32)).toNatClampNeg]? = some (.long W) := H5 0 (by rw [S5]; decide)
  refine own_of (fun tt_ => X4.laload hx (j := (0 : Int32)) (v := (.long W)) (by rw [e4]; exact Ar5.1) (State.isArrayOf_alike hZ.alike Ar5.2.1) Ar5.2.2 hin5 hat5 (g := (mkF m 47 #[.val (.ref bq), .val (.int ix), .val (.int 0)] [(.int 0), (.ref wa), (.int 0), (.ref wa)])) rfl rfl (hb hby d16_47) _) ?_
  show own_go p e below s _ _ _ (T4.setTop (mkF m 48 #[.val (.ref bq), .val (.int ix), .val (.int 0)] [(.long W), (.int 0), (.ref wa)]))
  refine own_of (fun tt_ => XS.lconst X4.here hx rfl (hb hby d16_48)) ?_
  refine own_of (fun tt_ => XS.iloadN X4.here hx rfl (hb hby d16_49) rfl) ?_
  refine own_of (fun tt_ => XS.lshl X4.here hx rfl (hb hby d16_50) rfl) ?_
  show own_go p e below s _ _ _ (T4.setTop (mkF m 51 #[.val (.ref bq), .val (.int ix), .val (.int 0)] [(.long ((1 : Int64) <<< (ix &&& 0x3f).toInt64)), (.long W), (.int 0), (.ref wa)]))
  refine own_of (fun tt_ => XS.lor X4.here hx rfl (hb hby d16_51) rfl) ?_
  show own_go p e below s _ _ _ (T4.setTop (mkF m 52 #[.val (.ref bq), .val (.int ix), .val (.int 0)] [(.long (W ||| ((1 : Int64) <<< (ix &&& 0x3f).toInt64))), (.int 0), (.ref wa)]))
  obtain ⟨cl6, Ar6, q6, S6, Ng6, H6, G6⟩ := Vw3
  obtain ⟨T6, h6, X6, e6, W6, st6⟩ := stJ X4 hx hZ e4 Ar6 (j := (0 : Int32)) (inb_of S6 ⟨by decide, by decide⟩) (g := (mkF m 52 #[.val (.ref bq), .val (.int ix), .val (.int 0)] [(.long (W ||| ((1 : Int64) <<< (ix &&& 0x3f).toInt64))), (.int 0), (.ref wa)])) rfl rfl (hb hby d16_52)
  have V6 : Arv Z h6 wa kw .long (1 : Int32) [(.long (W ||| ((1 : Int64) <<< (ix &&& 0x3f).toInt64)))] (.long 0) := Arv.set Ar6 q6 S6 Ng6 H6 G6 rfl W6 0 rfl (Nat.le_of_ble_eq_true rfl)
  refine own_of st6 ?_
  have N6 := Fr.snoc X6 N3 (by omega : n0 ≤ wa)
  have sz6 : h6.size = T3.heap.size := W6.size
  have O6 : Old Z n0 h6 := O3.wr W6 (by omega)
  have K6 : Keep h0 h6 [bq, wa] := K3.wr W6 (Or.inl (List.mem_of_getElem? (i := 1) rfl))
  show own_go p e below s _ _ _ (T6.setTop (mkF m 53 #[.val (.ref bq), .val (.int ix), .val (.int 0)] []))
  refine own_of (fun tt_ => XS.aloadN X6.here hx rfl (hb hby d16_53) rfl rfl) ?_
  show own_go p e below s _ _ _ (T6.setTop (mkF m 54 #[.val (.ref bq), .val (.int ix), .val (.int 0)] [(.ref bq)]))
  have f8 : Exa Z h6 bq "java/util/BitSet" := (Eb3.wr W6)
  obtain ⟨cq7, q7, q7'⟩ := f8.cell
  obtain ⟨_, _, ⟨T7, L7, k7, n7⟩, -, X7, ⟨Lc7, hQ7, l7, y7, z7⟩, st7⟩ := X6.privateBack hx (y := ym10) hown (mvT hZ (hW 73 _ rfl)) (mvT hZ (hW 74 _ rfl)) (mvT hZ (hW 76 _ rfl)) (Cond.privateMethod_at (mvP hZ (hW 75 _ rfl) (args := #[]))) (mvT hZ (hW 77 _ rfl)) (by decide) (backOf (W := 0) (rmCI l Z a0 hw [] bq h6 n0 O6 S_ad) hZ (hW 77 _ rfl) (hW 19 _ rfl) (by decide) (by decide)) (g := (mkF m 54 #[.val (.ref bq), .val (.int ix), .val (.int 0)] [(.ref bq)])) rfl (by rw [hml]; rfl) (Steps.refl _) (a := bq) (by rw [e6]; exact q7) q7' (argsL := []) (rest := []) (lenOf pd_0 rfl) rfl (by show 2 * 0 + _ ≤ _; exact Nat.le_of_eq rfl) (hb hby d16_54) (fun _ _ => ⟨rfl, e6, (by decide : 0 + 0 ≤ _), (by decide : 0 + 0 ≤ _)⟩)
  dsimp only [Pt.U, Pt.locs, Pt.cells, Pt.slots] at X7 l7 y7 z7 st7 hQ7
  subst l7 y7 z7
  obtain ⟨rfl, Nq7, eh7⟩ := hQ7
  have N7 := Fr.app N6 Nq7
  refine own_of (fun tt_ kk_ => st7.trans kk_) ?_
  show own_go p e below s _ _ _ (T7.setTop (mkF m 57 #[.val (.ref bq), .val (.int ix), .val (.int 0)] []))
  refine own_retV X7 hx hlk hret (hb hby d16_57) (by decide) (by decide) ?_
  rw [eh7]
  have f9 : Fld Z h6 bq "java/util/BitSet" "wordsInUse" "I" (.int 1) := (Fn3.other W6 (Or.inl (own_ne (by omega))))
  have f10 : Fld Z h6 bq "java/util/BitSet" "words" "[J" (.ref wa) := (Fd3.other W6 (Or.inl (own_ne (by omega))))
  exact ⟨rfl, N7, K6, f8, f9, f10, V6⟩
theorem ef_rmIW (m : MethodId) (x0 : Nat) (x1 : Int32) : entryFrame m #[(.ref x0), (.int x1)] 2 = mkF m 0 #[.val (.ref x0), .val (.int x1)] [] := by first | (simp [entryFrame, mkF, argsToLocals, Value.category]; done) | rfl
theorem d4_0 : decode jdk_92_method_6_code 0 = .ok (.aload_n 0, 1) := by decide +kernel
theorem d4_1 : decode jdk_92_method_6_code 1 = .ok (.iload_n 1, 1) := by decide +kernel
theorem d4_2 : decode jdk_92_method_6_code 2 = .ok (.iconst 1, 1) := by decide +kernel
theorem d4_3 : decode jdk_92_method_6_code 3 = .ok (.isub, 1) := by decide +kernel
theorem d4_4 : decode jdk_92_method_6_code 4 = .ok (.invokestatic 52, 3) := by decide +kernel
theorem d4_7 : decode jdk_92_method_6_code 7 = .ok (.iconst 1, 1) := by decide +kernel
theorem d4_8 : decode jdk_92_method_6_code 8 = .ok (.iadd, 1) := by decide +kernel
theorem d4_9 : decode jdk_92_method_6_code 9 = .ok (.newarray .long, 2) := by decide +kernel
theorem d4_11 : decode jdk_92_method_6_code 11 = .ok (.putfield 11, 3) := by decide +kernel
theorem d4_14 : decode jdk_92_method_6_code 14 = .ok (.return_, 1) := by decide +kernel
theorem pf_2 : parseFieldDescriptor "Z" = some .boolean := by decide +kernel
def Q_rmIW (Z : State) (bq : Nat) (vz : Value) (h0 : Heap) (n0 : Nat) (v : Option Value) (h : Heap) (L : List Loc) : Prop := ∃ (wa : Nat) (kw : ClassId), v = none ∧ Fr n0 L ∧ Keep h0 h [bq] ∧ h0.size ≤ wa ∧ Fld Z h bq "java/util/BitSet" "words" "[J" (.ref wa) ∧ Arv Z h wa kw .long (1 : Int32) [(.long 0)] (.long 0) ∧ Fld Z h bq "java/util/BitSet" "wordsInUse" "I" (.int 0) ∧ Fld Z h bq "java/util/BitSet" "sizeIsSticky" "Z" vz
set_option maxRecDepth 65536 in
set_option maxHeartbeats 40000000 in
theorem rmIW (l : Launch) (Z : State) (a0 : Array Value) (hw : own_H Z a0) (ws : List Jvm.Cond) (bq : Nat) (vz : Value) (h0 : Heap) (n0 : Nat) (XO0 : Old Z n0 h0) (g_b : n0 ≤ bq) (E_b : Exa Z h0 bq "java/util/BitSet") (F_d : Fld Z h0 bq "java/util/BitSet" "words" "[J" .null) (F_n : Fld Z h0 bq "java/util/BitSet" "wordsInUse" "I" (.int 0)) (F_k : Fld Z h0 bq "java/util/BitSet" "sizeIsSticky" "Z" vz) :
    own_M l Z (⟨"java/util/BitSet", "initWords", "(I)V"⟩ : MethodName) jdk_92_method_6_code ws 2 none (own_R 1 1 1 13) #[(.ref bq), (.int 16)] h0 (Q_rmIW Z bq vz h0 n0) := by
  refine own_open (plainFor_of_name pn_0) ?_
  intro p e s m below meth c s₁ hx hby hlk hret hml hown hnm hZ X0 e0
  have hW := own_hW hw
  have N0 := Fr.nil n0
  refine own_of (fun tt_ kk_ => castTop (ef_rmIW m bq (16 : Int32)) kk_) ?_
  show own_go p e below s _ _ _ (s₁.setTop (mkF m 0 #[.val (.ref bq), .val (.int 16)] []))
  have K0_ : Keep h0 h0 [bq] := Keep.refl h0 [bq]
  have lt_bq := own_lt E_b.lt
  refine own_of (fun tt_ => XS.aloadN X0.here hx rfl (hb hby d4_0) rfl rfl) ?_
  refine own_of (fun tt_ => XS.iloadN X0.here hx rfl (hb hby d4_1) rfl) ?_
  refine own_of (fun tt_ => XS.iconst X0.here hx rfl (hb hby d4_2)) ?_
  refine own_of (fun tt_ => XS.isub X0.here hx rfl (hb hby d4_3) rfl) ?_
  show own_go p e below s _ _ _ (s₁.setTop (mkF m 4 #[.val (.ref bq), .val (.int 16)] [(.int 15), (.ref bq)]))
  obtain ⟨_, _, ⟨T1, L1, k1, n1⟩, -, X1, ⟨Lc1, hQ1, l1, y1, z1⟩, st1⟩ := Jvm.LawKit.callS X0 hx (y := ym7) hown (mvT hZ (hW 33 _ rfl)) (mvT hZ (hW 34 _ rfl)) (mvT hZ (hW 19 _ rfl)) (mvT hZ (hW 35 _ rfl)) (by decide) (backOf (W := 1) (rmWI l Z a0 hw [] (15 : Int32) h0 n0 XO0 ⟨15, by decide, rfl⟩) hZ (hW 35 _ rfl) (hW 19 _ rfl) (by decide) (by decide)) (g := (mkF m 4 #[.val (.ref bq), .val (.int 16)] [(.int 15), (.ref bq)])) rfl (by rw [hml]; rfl) (argsL := [(.int 15)]) (rest := [(.ref bq)]) (lenOf pd_1 rfl) rfl (by show 2 * 0 + _ ≤ _; exact Nat.le_of_eq rfl) (hb hby d4_4) (fun _ _ => ⟨rfl, e0, (by decide : 0 + 0 ≤ _), (by decide : 0 + 0 ≤ _)⟩)
  dsimp only [Pt.U, Pt.locs, Pt.cells, Pt.slots] at X1 l1 y1 z1 st1 hQ1
  subst l1 y1 z1
  obtain ⟨rfl, Nq1, eh1⟩ := hQ1
  have N1 := Fr.app N0 Nq1
  refine own_of st1 ?_
  show own_go p e below s _ _ _ (T1.setTop (mkF m 7 #[.val (.ref bq), .val (.int 16)] [(.int 0), (.ref bq)]))
  refine own_of (fun tt_ => XS.iconst X1.here hx rfl (hb hby d4_7)) ?_
  refine own_of (fun tt_ => XS.iadd X1.here hx rfl (hb hby d4_8) rfl) ?_
  show own_go p e below s _ _ _ (T1.setTop (mkF m 9 #[.val (.ref bq), .val (.int 16)] [(.int 1), (.ref bq)]))
  obtain ⟨T2, h2, k2, X2, e2, E2, A2, st2⟩ := newP X1 hx hZ (hW 36 _ rfl) eh1 (g := (mkF m 9 #[.val (.ref bq), .val (.int 16)] [(.int 1), (.ref bq)])) rfl (hb hby d4_9) rfl (by decide) (cap := 1) (by decide) (by decide) (by decide) (by decide)
  obtain ⟨b2, g2⟩ : ∃ z, z = h0.size := ⟨_, rfl⟩
  rw [← g2] at A2 st2
  refine own_of st2 ?_
  have lt2 := own_lt A2.lt
  have sz2 : h0.size ≤ h2.size := E2.1
  have O2 : Old Z n0 h2 := XO0.ext E2
  have z2 : n0 ≤ b2 := by have := XO0.1 ▸ XO0.2.1; omega
  have K2 : Keep h0 h2 [bq] := K0_.ext E2
  have V2 : Arv Z h2 b2 k2 .long (1 : Int32) [(.long 0)] (.long 0) := (Arv.new A2 (by decide)).pad (pad_rep [] (.long 0) 1)
  show own_go p e below s _ _ _ (T2.setTop (mkF m 11 #[.val (.ref bq), .val (.int 16)] [(.ref b2), (.ref bq)]))
  have f3 : Exa Z h2 bq "java/util/BitSet" := (E_b.ext E2)
  have f4 : Fld Z h2 bq "java/util/BitSet" "words" "[J" .null := (F_d.ext E2)
  obtain ⟨T5, h5, X5, e5, W5, st5⟩ := putF X2 hx hZ hown (host := "") (Or.inl (hW 37 _ rfl)) Via.refl e2 f4 f3 (Or.inl (hW 38 _ rfl)) (hW 18 _ rfl) (ty := (.array .long)) pf_1 rfl rfl (g := (mkF m 11 #[.val (.ref bq), .val (.int 16)] [(.ref b2), (.ref bq)])) rfl rfl (hb hby d4_11)
  refine own_of st5 ?_
  have N5 := Fr.snoc X5 N1 (by omega : n0 ≤ bq)
  have sz5 : h5.size = h2.size := W5.size
  have O5 : Old Z n0 h5 := O2.wr W5 (by omega)
  have K5 : Keep h0 h5 [bq] := K2.wr W5 (Or.inl (List.mem_of_getElem? (i := 0) rfl))
  have Fw5 := f4.same W5
  show own_go p e below s _ _ _ (T5.setTop (mkF m 14 #[.val (.ref bq), .val (.int 16)] []))
  refine own_retV X5 hx hlk hret (hb hby d4_14) (by decide) (by decide) ?_
  rw [e5]
  have f6 : Arv Z h5 b2 k2 .long (1 : Int32) [(.long 0)] (.long 0) := (V2.other W5 (own_ne (by omega)))
  have f7 : Fld Z h5 bq "java/util/BitSet" "wordsInUse" "I" (.int 0) := ((F_n.ext E2).other W5 (Or.inr (slot_ne (Or.inl (hW 25 _ rfl)) (Or.inl (hW 38 _ rfl)) (by decide) pf_0 pf_1)))
  have f8 : Fld Z h5 bq "java/util/BitSet" "sizeIsSticky" "Z" vz := ((F_k.ext E2).other W5 (Or.inr (slot_ne (Or.inl (hW 27 _ rfl)) (Or.inl (hW 38 _ rfl)) (by decide) pf_2 pf_1)))
  exact ⟨b2, k2, rfl, N5, K5, by omega, Fw5, f6, f7, f8⟩
theorem ef_rmBI (m : MethodId) (x0 : Nat) (x1 : Int32) : entryFrame m #[(.ref x0), (.int x1)] 2 = mkF m 0 #[.val (.ref x0), .val (.int x1)] [] := by first | (simp [entryFrame, mkF, argsToLocals, Value.category]; done) | rfl
theorem d3_0 : decode jdk_92_method_5_code 0 = .ok (.aload_n 0, 1) := by decide +kernel
theorem d3_1 : decode jdk_92_method_5_code 1 = .ok (.invokespecial 21, 3) := by decide +kernel
theorem d3_4 : decode jdk_92_method_5_code 4 = .ok (.aload_n 0, 1) := by decide +kernel
theorem d3_5 : decode jdk_92_method_5_code 5 = .ok (.iconst 0, 1) := by decide +kernel
theorem d3_6 : decode jdk_92_method_5_code 6 = .ok (.putfield 7, 3) := by decide +kernel
theorem d3_9 : decode jdk_92_method_5_code 9 = .ok (.aload_n 0, 1) := by decide +kernel
theorem d3_10 : decode jdk_92_method_5_code 10 = .ok (.iconst 0, 1) := by decide +kernel
theorem d3_11 : decode jdk_92_method_5_code 11 = .ok (.putfield 24, 3) := by decide +kernel
theorem d3_14 : decode jdk_92_method_5_code 14 = .ok (.iload_n 1, 1) := by decide +kernel
theorem d3_15 : decode jdk_92_method_5_code 15 = .ok (.ifCond .ge 30, 3) := by decide +kernel
theorem d3_45 : decode jdk_92_method_5_code 45 = .ok (.aload_n 0, 1) := by decide +kernel
theorem d3_46 : decode jdk_92_method_5_code 46 = .ok (.iload_n 1, 1) := by decide +kernel
theorem d3_47 : decode jdk_92_method_5_code 47 = .ok (.invokevirtual 27, 3) := by decide +kernel
theorem d3_50 : decode jdk_92_method_5_code 50 = .ok (.aload_n 0, 1) := by decide +kernel
theorem d3_51 : decode jdk_92_method_5_code 51 = .ok (.iconst 1, 1) := by decide +kernel
theorem d3_52 : decode jdk_92_method_5_code 52 = .ok (.putfield 24, 3) := by decide +kernel
theorem d3_55 : decode jdk_92_method_5_code 55 = .ok (.return_, 1) := by decide +kernel
def Q_rmBI (Z : State) (bq : Nat) (h0 : Heap) (n0 : Nat) (v : Option Value) (h : Heap) (L : List Loc) : Prop := ∃ (wa : Nat) (kw : ClassId), v = none ∧ Fr n0 L ∧ Keep h0 h [bq] ∧ h0.size ≤ wa ∧ Exa Z h bq "java/util/BitSet" ∧ Fld Z h bq "java/util/BitSet" "wordsInUse" "I" (.int 0) ∧ Fld Z h bq "java/util/BitSet" "words" "[J" (.ref wa) ∧ Arv Z h wa kw .long (1 : Int32) [(.long 0)] (.long 0)
set_option maxRecDepth 65536 in
set_option maxHeartbeats 40000000 in
theorem rmBI (l : Launch) (Z : State) (a0 : Array Value) (hw : own_H Z a0) (ws : List Jvm.Cond) (bq : Nat) (h0 : Heap) (n0 : Nat) (XO0 : Old Z n0 h0) (g_b : n0 ≤ bq) (E_b : Exa Z h0 bq "java/util/BitSet") (F_d : Fld Z h0 bq "java/util/BitSet" "words" "[J" .null) (F_n : Fld Z h0 bq "java/util/BitSet" "wordsInUse" "I" (.int 0)) (F_k : Fld Z h0 bq "java/util/BitSet" "sizeIsSticky" "Z" (.int 0)) :
    own_M l Z (⟨"java/util/BitSet", "<init>", "(I)V"⟩ : MethodName) jdk_92_method_5_code ws 2 none (own_R 2 1 1 26) #[(.ref bq), (.int 16)] h0 (Q_rmBI Z bq h0 n0) := by
  refine own_open (plainFor_of_name pn_0) ?_
  intro p e s m below meth c s₁ hx hby hlk hret hml hown hnm hZ X0 e0
  have hW := own_hW hw
  have N0 := Fr.nil n0
  refine own_of (fun tt_ kk_ => castTop (ef_rmBI m bq (16 : Int32)) kk_) ?_
  show own_go p e below s _ _ _ (s₁.setTop (mkF m 0 #[.val (.ref bq), .val (.int 16)] []))
  have K0_ : Keep h0 h0 [bq] := Keep.refl h0 [bq]
  have lt_bq := own_lt E_b.lt
  refine own_of (fun tt_ => XS.aloadN X0.here hx rfl (hb hby d3_0) rfl rfl) ?_
  obtain ⟨T1, X1, e1, st1⟩ := initO X0 hx hZ hown (hW 23 _ rfl) (hW 7 _ rfl) (hW 8 _ rfl) e0 (g := (mkF m 1 #[.val (.ref bq), .val (.int 16)] [(.ref bq)])) rfl (by rw [hml]; rfl) rfl (hb hby d3_1) (by decide) (W := 0) (by show 2 * 0 + _ ≤ _; exact Nat.le_of_eq rfl) (by decide)
  refine own_of st1 ?_
  show own_go p e below s _ _ _ (T1.setTop (mkF m 4 #[.val (.ref bq), .val (.int 16)] []))
  refine own_of (fun tt_ => XS.aloadN X1.here hx rfl (hb hby d3_4) rfl rfl) ?_
  refine own_of (fun tt_ => XS.iconst X1.here hx rfl (hb hby d3_5)) ?_
  obtain ⟨T2, h2, X2, e2, W2, st2⟩ := putF X1 hx hZ hown (host := "") (Or.inl (hW 24 _ rfl)) Via.refl e1 F_n E_b (Or.inl (hW 25 _ rfl)) (hW 18 _ rfl) (ty := .int) pf_0 rfl rfl (g := (mkF m 6 #[.val (.ref bq), .val (.int 16)] [(.int 0), (.ref bq)])) rfl rfl (hb hby d3_6)
  refine own_of st2 ?_
  have N2 := Fr.snoc X2 N0 (by omega : n0 ≤ bq)
  have sz2 : h2.size = h0.size := W2.size
  have O2 : Old Z n0 h2 := XO0.wr W2 (by omega)
  have K2 : Keep h0 h2 [bq] := K0_.wr W2 (Or.inl (List.mem_of_getElem? (i := 0) rfl))
  have Fw2 := F_n.same W2
  show own_go p e below s _ _ _ (T2.setTop (mkF m 9 #[.val (.ref bq), .val (.int 16)] []))
  refine own_of (fun tt_ => XS.aloadN X2.here hx rfl (hb hby d3_9) rfl rfl) ?_
  refine own_of (fun tt_ => XS.iconst X2.here hx rfl (hb hby d3_10)) ?_
  have f3 : Exa Z h2 bq "java/util/BitSet" := (E_b.wr W2)
  have f4 : Fld Z h2 bq "java/util/BitSet" "sizeIsSticky" "Z" (.int 0) := (F_k.other W2 (Or.inr (slot_ne (Or.inl (hW 27 _ rfl)) (Or.inl (hW 25 _ rfl)) (by decide) pf_2 pf_0)))
  obtain ⟨T5, h5, X5, e5, W5, st5⟩ := putFN X2 hx hZ hown (hW 26 _ rfl) Via.refl e2 f4 f3 (Or.inl (hW 27 _ rfl)) (hW 18 _ rfl) (ty := .boolean) (v' := .int (nar .boolean (0 : Int32))) pf_2 rfl (fits_nar_bool _) (g := (mkF m 11 #[.val (.ref bq), .val (.int 16)] [(.int 0), (.ref bq)])) rfl rfl (hb hby d3_11)
  refine own_of st5 ?_
  have N5 := Fr.snoc X5 N2 (by omega : n0 ≤ bq)
  have sz5 : h5.size = h2.size := W5.size
  have O5 : Old Z n0 h5 := O2.wr W5 (by omega)
  have K5 : Keep h0 h5 [bq] := K2.wr W5 (Or.inl (List.mem_of_getElem? (i := 0) rfl))
  have Fw5 := f4.same W5
  show own_go p e below s _ _ _ (T5.setTop (mkF m 14 #[.val (.ref bq), .val (.int 16)] []))
  refine own_of (fun tt_ => XS.iloadN X5.here hx rfl (hb hby d3_14) rfl) ?_
  have hb15_6 : ¬ ((16 : Int32) < (0 : Int32)) := by decide
  refine own_of (fun tt_ => XS.ifYes X5.here hx rfl (pc0 := 15) (pc' := 45) rfl (hb hby d3_15) rfl ((if0 _ _).trans (flt hb15_6).2.1) (by decide) (by decide)) ?_
  show own_go p e below s _ _ _ (T5.setTop (mkF m 45 #[.val (.ref bq), .val (.int 16)] []))
  refine own_of (fun tt_ => XS.aloadN X5.here hx rfl (hb hby d3_45) rfl rfl) ?_
  refine own_of (fun tt_ => XS.iloadN X5.here hx rfl (hb hby d3_46) rfl) ?_
  show own_go p e below s _ _ _ (T5.setTop (mkF m 47 #[.val (.ref bq), .val (.int 16)] [(.int 16), (.ref bq)]))
  have f7 : Exa Z h5 bq "java/util/BitSet" := (f3.wr W5)
  have f8 : Fld Z h5 bq "java/util/BitSet" "words" "[J" .null := ((F_d.other W2 (Or.inr (slot_ne (Or.inl (hW 38 _ rfl)) (Or.inl (hW 25 _ rfl)) (by decide) pf_1 pf_0))).other W5 (Or.inr (slot_ne (Or.inl (hW 38 _ rfl)) (Or.inl (hW 27 _ rfl)) (by decide) pf_1 pf_2)))
  have f9 : Fld Z h5 bq "java/util/BitSet" "wordsInUse" "I" (.int 0) := (Fw2.other W5 (Or.inr (slot_ne (Or.inl (hW 25 _ rfl)) (Or.inl (hW 27 _ rfl)) (by decide) pf_0 pf_2)))
  obtain ⟨cq10, q10, q10'⟩ := f7.cell
  obtain ⟨_, _, ⟨T10, L10, k10, n10⟩, -, X10, ⟨Lc10, hQ10, l10, y10, z10⟩, st10⟩ := X5.privateBack hx (y := (⟨"java/util/BitSet", "initWords", "(I)V"⟩ : MethodName)) hown (mvT hZ (hW 28 _ rfl)) (mvT hZ (hW 29 _ rfl)) (mvT hZ (hW 31 _ rfl)) (Cond.privateMethod_at (mvP hZ (hW 30 _ rfl) (args := #[]))) (mvT hZ (hW 32 _ rfl)) (by decide) (backOf (W := 0) (rmIW l Z a0 hw [] bq (.int (nar .boolean (0 : Int32))) h5 n0 O5 g_b f7 f8 f9 Fw5) hZ (hW 32 _ rfl) (hW 19 _ rfl) (by decide) (by decide)) (g := (mkF m 47 #[.val (.ref bq), .val (.int 16)] [(.int 16), (.ref bq)])) rfl (by rw [hml]; rfl) (Steps.refl _) (a := bq) (by rw [e5]; exact q10) q10' (argsL := [(.int 16)]) (rest := []) (lenOf pd_2 rfl) rfl (by show 2 * 0 + _ ≤ _; exact Nat.le_of_eq rfl) (hb hby d3_47) (fun _ _ => ⟨rfl, e5, (by decide : 0 + 1 ≤ _), (by decide : 0 + 1 ≤ _)⟩)
  dsimp only [Pt.U, Pt.locs, Pt.cells, Pt.slots] at X10 l10 y10 z10 st10 hQ10
  subst l10 y10 z10
  obtain ⟨wa10, kw10, rfl, Nq10, Kp10, gw10, Fd10, Vw10, Fn10, Fk10⟩ := hQ10
  have N10 := Fr.app N5 Nq10
  refine own_of (fun tt_ kk_ => st10.trans kk_) ?_
  have sz10 : h5.size ≤ T10.heap.size := Kp10.1
  have O10 : Old Z n0 T10.heap := O5.keep Kp10 (allS (by omega) all0)
  have K10 : Keep h0 T10.heap [bq] := K5.trans Kp10 (allS (Or.inl (List.mem_of_getElem? (i := 0) rfl)) all0)
  have ltw10 := own_lt Vw10.lt
  show own_go p e below s _ _ _ (T10.setTop (mkF m 50 #[.val (.ref bq), .val (.int 16)] []))
  refine own_of (fun tt_ => XS.aloadN X10.here hx rfl (hb hby d3_50) rfl rfl) ?_
  refine own_of (fun tt_ => XS.iconst X10.here hx rfl (hb hby d3_51)) ?_
  have f11 : Exa Z T10.heap bq "java/util/BitSet" := (f7.keep Kp10)
  obtain ⟨T12, h12, X12, e12, W12, st12⟩ := putFN X10 hx hZ hown (hW 26 _ rfl) Via.refl rfl Fk10 f11 (Or.inl (hW 27 _ rfl)) (hW 18 _ rfl) (ty := .boolean) (v' := .int (nar .boolean (1 : Int32))) pf_2 rfl (fits_nar_bool _) (g := (mkF m 52 #[.val (.ref bq), .val (.int 16)] [(.int 1), (.ref bq)])) rfl rfl (hb hby d3_52)
  refine own_of st12 ?_
  have N12 := Fr.snoc X12 N10 (by omega : n0 ≤ bq)
  have sz12 : h12.size = T10.heap.size := W12.size
  have O12 : Old Z n0 h12 := O10.wr W12 (by omega)
  have K12 : Keep h0 h12 [bq] := K10.wr W12 (Or.inl (List.mem_of_getElem? (i := 0) rfl))
  have Fw12 := Fk10.same W12
  show own_go p e below s _ _ _ (T12.setTop (mkF m 55 #[.val (.ref bq), .val (.int 16)] []))
  refine own_retV X12 hx hlk hret (hb hby d3_55) (by decide) (by decide) ?_
  rw [e12]
  have f13 : Exa Z h12 bq "java/util/BitSet" := (f11.wr W12)
  have f14 : Fld Z h12 bq "java/util/BitSet" "wordsInUse" "I" (.int 0) := (Fn10.other W12 (Or.inr (slot_ne (Or.inl (hW 25 _ rfl)) (Or.inl (hW 27 _ rfl)) (by decide) pf_0 pf_2)))
  have f15 : Fld Z h12 bq "java/util/BitSet" "words" "[J" (.ref wa10) := (Fd10.other W12 (Or.inr (slot_ne (Or.inl (hW 38 _ rfl)) (Or.inl (hW 27 _ rfl)) (by decide) pf_1 pf_2)))
  have f16 : Arv Z h12 wa10 kw10 .long (1 : Int32) [(.long 0)] (.long 0) := (Vw10.other W12 (own_ne (by omega)))
  exact ⟨wa10, kw10, rfl, N12, K12, by omega, f13, f14, f15, f16⟩
theorem ef_rmPI (m : MethodId) (x0 : Nat) (x1 : Int32) : entryFrame m #[(.ref x0), (.int x1)] 2 = mkF m 0 #[.val (.ref x0), .val (.int x1)] [] := by first | (simp [entryFrame, mkF, argsToLocals, Value.category]; done) | rfl
theorem pn_1 : plainName "com/example/grantway/grantway/protocol/PackedSet" = true := by first | (simp [plainName, overriddenIn]; done) | decide +kernel
theorem d1_0 : decode prog_28_method_1_code 0 = .ok (.aload_n 0, 1) := by decide +kernel
theorem d1_1 : decode prog_28_method_1_code 1 = .ok (.invokespecial 1, 3) := by decide +kernel
theorem d1_4 : decode prog_28_method_1_code 4 = .ok (.iload_n 1, 1) := by decide +kernel
theorem d1_5 : decode prog_28_method_1_code 5 = .ok (.iconst 1, 1) := by decide +kernel
theorem d1_6 : decode prog_28_method_1_code 6 = .ok (.if_icmp .ge 13, 3) := by decide +kernel
theorem d1_19 : decode prog_28_method_1_code 19 = .ok (.aload_n 0, 1) := by decide +kernel
theorem d1_20 : decode prog_28_method_1_code 20 = .ok (.iload_n 1, 1) := by decide +kernel
theorem d1_21 : decode prog_28_method_1_code 21 = .ok (.putfield 14, 3) := by decide +kernel
theorem d1_24 : decode prog_28_method_1_code 24 = .ok (.aload_n 0, 1) := by decide +kernel
theorem d1_25 : decode prog_28_method_1_code 25 = .ok (.bipush 16, 2) := by decide +kernel
theorem d1_27 : decode prog_28_method_1_code 27 = .ok (.putfield 20, 3) := by decide +kernel
theorem d1_30 : decode prog_28_method_1_code 30 = .ok (.aload_n 0, 1) := by decide +kernel
theorem d1_31 : decode prog_28_method_1_code 31 = .ok (.iconst 1, 1) := by decide +kernel
theorem d1_32 : decode prog_28_method_1_code 32 = .ok (.anewarray 23, 3) := by decide +kernel
theorem d1_35 : decode prog_28_method_1_code 35 = .ok (.putfield 25, 3) := by decide +kernel
theorem pf_3 : parseFieldDescriptor "[[J" = some (.array (.array .long)) := by decide +kernel
theorem d1_38 : decode prog_28_method_1_code 38 = .ok (.aload_n 0, 1) := by decide +kernel
theorem d1_39 : decode prog_28_method_1_code 39 = .ok (.new 29, 3) := by decide +kernel
theorem d1_42 : decode prog_28_method_1_code 42 = .ok (.dup, 1) := by decide +kernel
theorem d1_43 : decode prog_28_method_1_code 43 = .ok (.aload_n 0, 1) := by decide +kernel
theorem d1_44 : decode prog_28_method_1_code 44 = .ok (.getfield 20, 3) := by decide +kernel
theorem d1_47 : decode prog_28_method_1_code 47 = .ok (.invokespecial 31, 3) := by decide +kernel
theorem d1_50 : decode prog_28_method_1_code 50 = .ok (.putfield 34, 3) := by decide +kernel
theorem pf_4 : parseFieldDescriptor "Ljava/util/BitSet;" = some (.object "java/util/BitSet") := by decide +kernel
theorem d1_53 : decode prog_28_method_1_code 53 = .ok (.return_, 1) := by decide +kernel
def Q_rmPI (Z : State) (x : Nat) (h0 : Heap) (n0 : Nat) (v : Option Value) (h : Heap) (L : List Loc) : Prop := ∃ (pa bq wa : Nat) (ka kw : ClassId), v = none ∧ Fr n0 L ∧ Keep h0 h [x] ∧ own_p0 Z h x pa bq wa ka kw (0 : Int32) ∧ OvrA Z ka .long "[J" ∧ (h0.size ≤ pa ∧ h0.size ≤ bq ∧ h0.size ≤ wa ∧ pa ≠ bq ∧ pa ≠ wa ∧ bq ≠ wa ∧ pa < h.size ∧ bq < h.size ∧ wa < h.size)
set_option maxRecDepth 65536 in
set_option maxHeartbeats 40000000 in
theorem rmPI (l : Launch) (Z : State) (a0 : Array Value) (hw : own_H Z a0) (ws : List Jvm.Cond) (x : Nat) (h0 : Heap) (n0 : Nat) (XO0 : Old Z n0 h0) (g_x : n0 ≤ x) (E_x : Exa Z h0 x "com/example/grantway/grantway/protocol/PackedSet") (F_width : Fld Z h0 x "com/example/grantway/grantway/protocol/PackedSet" "width" "I" (.int 0)) (F_slots : Fld Z h0 x "com/example/grantway/grantway/protocol/PackedSet" "slots" "I" (.int 0)) (F_pages : Fld Z h0 x "com/example/grantway/grantway/protocol/PackedSet" "pages" "[[J" .null) (F_used : Fld Z h0 x "com/example/grantway/grantway/protocol/PackedSet" "used" "Ljava/util/BitSet;" .null) (F_size : Fld Z h0 x "com/example/grantway/grantway/protocol/PackedSet" "size" "I" (.int 0)) :
    own_M l Z (⟨"com/example/grantway/grantway/protocol/PackedSet", "<init>", "(I)V"⟩ : MethodName) prog_28_method_1_code ws 2 none (own_R 3 3 5 41) #[(.ref x), (.int 2)] h0 (Q_rmPI Z x h0 n0) := by
  refine own_open (plainFor_of_name pn_1) ?_
  intro p e s m below meth c s₁ hx hby hlk hret hml hown hnm hZ X0 e0
  have hW := own_hW hw
  have N0 := Fr.nil n0
  refine own_of (fun tt_ kk_ => castTop (ef_rmPI m x (2 : Int32)) kk_) ?_
  show own_go p e below s _ _ _ (s₁.setTop (mkF m 0 #[.val (.ref x), .val (.int 2)] []))
  have K0_ : Keep h0 h0 [x] := Keep.refl h0 [x]
  have lt_x := own_lt E_x.lt
  refine own_of (fun tt_ => XS.aloadN X0.here hx rfl (hb hby d1_0) rfl rfl) ?_
  obtain ⟨T1, X1, e1, st1⟩ := initO X0 hx hZ hown (hW 6 _ rfl) (hW 7 _ rfl) (hW 8 _ rfl) e0 (g := (mkF m 1 #[.val (.ref x), .val (.int 2)] [(.ref x)])) rfl (by rw [hml]; rfl) rfl (hb hby d1_1) (by decide) (W := 0) (by show 2 * 0 + _ ≤ _; exact Nat.le_of_eq rfl) (by decide)
  refine own_of st1 ?_
  show own_go p e below s _ _ _ (T1.setTop (mkF m 4 #[.val (.ref x), .val (.int 2)] []))
  refine own_of (fun tt_ => XS.iloadN X1.here hx rfl (hb hby d1_4) rfl) ?_
  refine own_of (fun tt_ => XS.iconst X1.here hx rfl (hb hby d1_5)) ?_
  have hb6_2 : ¬ ((2 : Int32) < (1 : Int32)) := by decide
  refine own_of (fun tt_ => XS.icmpYes X1.here hx rfl (pc0 := 6) (pc' := 19) rfl (hb hby d1_6) rfl (flt hb6_2).2.1 (by decide) (by decide)) ?_
  show own_go p e below s _ _ _ (T1.setTop (mkF m 19 #[.val (.ref x), .val (.int 2)] []))
  refine own_of (fun tt_ => XS.aloadN X1.here hx rfl (hb hby d1_19) rfl rfl) ?_
  refine own_of (fun tt_ => XS.iloadN X1.here hx rfl (hb hby d1_20) rfl) ?_
  obtain ⟨T3, h3, X3, e3, W3, st3⟩ := putF X1 hx hZ hown (host := "") (Or.inl (hW 9 _ rfl)) Via.refl e1 F_width E_x (Or.inr ⟨(hW 10 _ rfl), rfl, hnm⟩) (hW 1 _ rfl) (ty := .int) pf_0 rfl rfl (g := (mkF m 21 #[.val (.ref x), .val (.int 2)] [(.int 2), (.ref x)])) rfl rfl (hb hby d1_21)
  refine own_of st3 ?_
  have N3 := Fr.snoc X3 N0 (by omega : n0 ≤ x)
  have sz3 : h3.size = h0.size := W3.size
  have O3 : Old Z n0 h3 := XO0.wr W3 (by omega)
  have K3 : Keep h0 h3 [x] := K0_.wr W3 (Or.inl (List.mem_of_getElem? (i := 0) rfl))
  have Fw3 := F_width.same W3
  show own_go p e below s _ _ _ (T3.setTop (mkF m 24 #[.val (.ref x), .val (.int 2)] []))
  refine own_of (fun tt_ => XS.aloadN X3.here hx rfl (hb hby d1_24) rfl rfl) ?_
  refine own_of (fun tt_ => XS.bipush X3.here hx rfl (hb hby d1_25)) ?_
  have f4 : Exa Z h3 x "com/example/grantway/grantway/protocol/PackedSet" := (E_x.wr W3)
  have f5 : Fld Z h3 x "com/example/grantway/grantway/protocol/PackedSet" "slots" "I" (.int 0) := (F_slots.other W3 (Or.inr (slot_ne (Or.inl (hW 12 _ rfl)) (Or.inr (hW 10 _ rfl)) (by decide) pf_0 pf_0)))
  obtain ⟨T6, h6, X6, e6, W6, st6⟩ := putF X3 hx hZ hown (host := "") (Or.inl (hW 11 _ rfl)) Via.refl e3 f5 f4 (Or.inl (hW 12 _ rfl)) (hW 1 _ rfl) (ty := .int) pf_0 rfl rfl (g := (mkF m 27 #[.val (.ref x), .val (.int 2)] [(.int 16), (.ref x)])) rfl rfl (hb hby d1_27)
  refine own_of st6 ?_
  have N6 := Fr.snoc X6 N3 (by omega : n0 ≤ x)
  have sz6 : h6.size = h3.size := W6.size
  have O6 : Old Z n0 h6 := O3.wr W6 (by omega)
  have K6 : Keep h0 h6 [x] := K3.wr W6 (Or.inl (List.mem_of_getElem? (i := 0) rfl))
  have Fw6 := f5.same W6
  show own_go p e below s _ _ _ (T6.setTop (mkF m 30 #[.val (.ref x), .val (.int 2)] []))
  refine own_of (fun tt_ => XS.aloadN X6.here hx rfl (hb hby d1_30) rfl rfl) ?_
  refine own_of (fun tt_ => XS.iconst X6.here hx rfl (hb hby d1_31)) ?_
  obtain ⟨T7, h7, k7, X7, e7, E7, A7, Ea7, Ov7, st7⟩ := newRA X6 hx hZ (ty := .long) hown rfl (hW 13 _ rfl) (hW 14 _ rfl) e6 (g := (mkF m 32 #[.val (.ref x), .val (.int 2)] [(.int 1), (.ref x)])) rfl (hb hby d1_32) rfl (by decide) (cap := 1) (by decide) (by decide) (by decide) (by decide) rfl
  obtain ⟨b7, g7⟩ : ∃ z, z = h6.size := ⟨_, rfl⟩
  rw [← g7] at A7 Ea7 st7
  refine own_of st7 ?_
  have lt7 := own_lt A7.lt
  have sz7 : h6.size ≤ h7.size := E7.1
  have O7 : Old Z n0 h7 := O6.ext E7
  have z7 : n0 ≤ b7 := by have := O6.1 ▸ O6.2.1; omega
  have K7 : Keep h0 h7 [x] := K6.ext E7
  have V7 : Arv Z h7 b7 k7 (.array .long) (1 : Int32) [.null] .null := (Arv.new A7 (by decide)).pad (pad_rep [] .null 1)
  show own_go p e below s _ _ _ (T7.setTop (mkF m 35 #[.val (.ref x), .val (.int 2)] [(.ref b7), (.ref x)]))
  have f8 : Exa Z h7 x "com/example/grantway/grantway/protocol/PackedSet" := ((f4.wr W6).ext E7)
  have f9 : Fld Z h7 x "com/example/grantway/grantway/protocol/PackedSet" "pages" "[[J" .null := (((F_pages.other W3 (Or.inr (slot_ne (Or.inl (hW 16 _ rfl)) (Or.inr (hW 10 _ rfl)) (by decide) pf_3 pf_0))).other W6 (Or.inr (slot_ne (Or.inl (hW 16 _ rfl)) (Or.inl (hW 12 _ rfl)) (by decide) pf_3 pf_0))).ext E7)
  obtain ⟨T10, h10, X10, e10, W10, st10⟩ := putF X7 hx hZ hown (host := "") (Or.inl (hW 15 _ rfl)) Via.refl e7 f9 f8 (Or.inl (hW 16 _ rfl)) (hW 1 _ rfl) (ty := (.array (.array .long))) pf_3 rfl rfl (g := (mkF m 35 #[.val (.ref x), .val (.int 2)] [(.ref b7), (.ref x)])) rfl rfl (hb hby d1_35)
  refine own_of st10 ?_
  have N10 := Fr.snoc X10 N6 (by omega : n0 ≤ x)
  have sz10 : h10.size = h7.size := W10.size
  have O10 : Old Z n0 h10 := O7.wr W10 (by omega)
  have K10 : Keep h0 h10 [x] := K7.wr W10 (Or.inl (List.mem_of_getElem? (i := 0) rfl))
  have Fw10 := f9.same W10
  show own_go p e below s _ _ _ (T10.setTop (mkF m 38 #[.val (.ref x), .val (.int 2)] []))
  refine own_of (fun tt_ => XS.aloadN X10.here hx rfl (hb hby d1_38) rfl rfl) ?_
  obtain ⟨T11, h11, X11, e11, E11, A11, D11, -, st11⟩ := newO X10 hx hZ hown (hW 17 _ rfl) (hW 18 _ rfl) (hW 19 _ rfl) e10 (g := (mkF m 39 #[.val (.ref x), .val (.int 2)] [(.ref x)])) rfl (hb hby d1_39) (by decide) (by decide)
  obtain ⟨b11, g11⟩ : ∃ z, z = h10.size := ⟨_, rfl⟩
  rw [← g11] at A11 D11 st11
  refine own_of st11 ?_
  have lt11 := own_lt A11.lt
  have sz11 : h10.size ≤ h11.size := E11.1
  have O11 : Old Z n0 h11 := O10.ext E11
  have z11 : n0 ≤ b11 := by have := O10.1 ▸ O10.2.1; omega
  have K11 : Keep h0 h11 [x] := K10.ext E11
  have F11_wordsInUse : Fld Z h11 b11 "java/util/BitSet" "wordsInUse" "I" (.int 0) := D11 (Or.inl (hW 25 _ rfl)) (ty := .int) pf_0
  have F11_sizeIsSticky : Fld Z h11 b11 "java/util/BitSet" "sizeIsSticky" "Z" (.int 0) := D11 (Or.inl (hW 27 _ rfl)) (ty := .boolean) pf_2
  have F11_words : Fld Z h11 b11 "java/util/BitSet" "words" "[J" .null := D11 (Or.inl (hW 38 _ rfl)) (ty := (.array .long)) pf_1
  show own_go p e below s _ _ _ (T11.setTop (mkF m 42 #[.val (.ref x), .val (.int 2)] [(.ref b11), (.ref x)]))
  refine own_of (fun tt_ => XS.dup X11.here hx rfl (hb hby d1_42) rfl rfl) ?_
  refine own_of (fun tt_ => XS.aloadN X11.here hx rfl (hb hby d1_43) rfl rfl) ?_
  have f12 : Fld Z h11 x "com/example/grantway/grantway/protocol/PackedSet" "slots" "I" (.int 16) := (((Fw6.ext E7).other W10 (Or.inr (slot_ne (Or.inl (hW 12 _ rfl)) (Or.inl (hW 16 _ rfl)) (by decide) pf_0 pf_3))).ext E11)
  obtain ⟨T13, X13, e13, st13⟩ := getF X11 hx hZ hown (host := "") (Or.inl (hW 11 _ rfl)) Via.refl e11 f12 (g := (mkF m 44 #[.val (.ref x), .val (.int 2)] [(.ref x), (.ref b11), (.ref b11), (.ref x)])) rfl rfl (hb hby d1_44)
  refine own_of st13 ?_
  show own_go p e below s _ _ _ (T13.setTop (mkF m 47 #[.val (.ref x), .val (.int 2)] [(.int 16), (.ref b11), (.ref b11), (.ref x)]))
  obtain ⟨_, _, ⟨T14, L14, k14, n14⟩, -, X14, ⟨Lc14, hQ14, l14, y14, z14⟩, st14⟩ := X13.specialBack hx (y := (⟨"java/util/BitSet", "<init>", "(I)V"⟩ : MethodName)) rfl hown (mvT hZ (hW 20 _ rfl)) (mvT hZ (hW 21 _ rfl)) (mvT hZ (hW 22 _ rfl)) (by decide) (backOf (W := 2) (rmBI l Z a0 hw [] b11 h11 n0 O11 (by omega) A11 F11_words F11_wordsInUse F11_sizeIsSticky) hZ (hW 22 _ rfl) (hW 19 _ rfl) (by decide) (by decide)) (g := (mkF m 47 #[.val (.ref x), .val (.int 2)] [(.int 16), (.ref b11), (.ref b11), (.ref x)])) rfl (by rw [hml]; rfl) (Steps.refl _) (a := b11) (argsL := [(.int 16)]) (rest := [(.ref b11), (.ref x)]) (lenOf pd_2 rfl) rfl (by show 2 * 0 + _ ≤ _; exact Nat.le_of_eq rfl) (hb hby d1_47) (fun _ _ => ⟨rfl, e13, (by decide : 2 + 1 ≤ _), (by decide : 4 + 1 ≤ _)⟩)
  dsimp only [Pt.U, Pt.locs, Pt.cells, Pt.slots] at X14 l14 y14 z14 st14 hQ14
  subst l14 y14 z14
  obtain ⟨wa14, kw14, rfl, Nq14, Kp14, gw14, Eb14, Fn14, Fd14, Vw14⟩ := hQ14
  have N14 := Fr.app N10 Nq14
  refine own_of (fun tt_ kk_ => st14.trans kk_) ?_
  have sz14 : h11.size ≤ T14.heap.size := Kp14.1
  have O14 : Old Z n0 T14.heap := O11.keep Kp14 (allS (by omega) all0)
  have K14 : Keep h0 T14.heap [x] := K11.trans Kp14 (allS (Or.inr (by omega)) all0)
  have ltw14 := own_lt Vw14.lt
  show own_go p e below s _ _ _ (T14.setTop (mkF m 50 #[.val (.ref x), .val (.int 2)] [(.ref b11), (.ref x)]))
  have f15 : Exa Z T14.heap x "com/example/grantway/grantway/protocol/PackedSet" := (((f8.wr W10).ext E11).keep Kp14)
  have f16 : Fld Z T14.heap x "com/example/grantway/grantway/protocol/PackedSet" "used" "Ljava/util/BitSet;" .null := ((((((F_used.other W3 (Or.inr (slot_ne (Or.inl (hW 40 _ rfl)) (Or.inr (hW 10 _ rfl)) (by decide) pf_4 pf_0))).other W6 (Or.inr (slot_ne (Or.inl (hW 40 _ rfl)) (Or.inl (hW 12 _ rfl)) (by decide) pf_4 pf_0))).ext E7).other W10 (Or.inr (slot_ne (Or.inl (hW 40 _ rfl)) (Or.inl (hW 16 _ rfl)) (by decide) pf_4 pf_3))).ext E11).keep Kp14 (ninS (own_ne (by omega)) nin0))
  obtain ⟨T17, h17, X17, e17, W17, st17⟩ := putF X14 hx hZ hown (host := "") (Or.inl (hW 39 _ rfl)) Via.refl rfl f16 f15 (Or.inl (hW 40 _ rfl)) (hW 1 _ rfl) (ty := (.object "java/util/BitSet")) pf_4 rfl rfl (g := (mkF m 50 #[.val (.ref x), .val (.int 2)] [(.ref b11), (.ref x)])) rfl rfl (hb hby d1_50)
  refine own_of st17 ?_
  have N17 := Fr.snoc X17 N14 (by omega : n0 ≤ x)
  have sz17 : h17.size = T14.heap.size := W17.size
  have O17 : Old Z n0 h17 := O14.wr W17 (by omega)
  have K17 : Keep h0 h17 [x] := K14.wr W17 (Or.inl (List.mem_of_getElem? (i := 0) rfl))
  have Fw17 := f16.same W17
  show own_go p e below s _ _ _ (T17.setTop (mkF m 53 #[.val (.ref x), .val (.int 2)] []))
  refine own_retV X17 hx hlk hret (hb hby d1_53) (by decide) (by decide) ?_
  rw [e17]
  have f18 : Exa Z h17 x "com/example/grantway/grantway/protocol/PackedSet" := (f15.wr W17)
  have f19 : Fld Z h17 x "com/example/grantway/grantway/protocol/PackedSet" "width" "I" (.int 2) := ((((((Fw3.other W6 (Or.inr (slot_ne (Or.inr (hW 10 _ rfl)) (Or.inl (hW 12 _ rfl)) (by decide) pf_0 pf_0))).ext E7).other W10 (Or.inr (slot_ne (Or.inr (hW 10 _ rfl)) (Or.inl (hW 16 _ rfl)) (by decide) pf_0 pf_3))).ext E11).keep Kp14 (ninS (own_ne (by omega)) nin0)).other W17 (Or.inr (slot_ne (Or.inr (hW 10 _ rfl)) (Or.inl (hW 40 _ rfl)) (by decide) pf_0 pf_4)))
  have f20 : Fld Z h17 x "com/example/grantway/grantway/protocol/PackedSet" "slots" "I" (.int 16) := ((f12.keep Kp14 (ninS (own_ne (by omega)) nin0)).other W17 (Or.inr (slot_ne (Or.inl (hW 12 _ rfl)) (Or.inl (hW 40 _ rfl)) (by decide) pf_0 pf_4)))
  have f21 : Fld Z h17 x "com/example/grantway/grantway/protocol/PackedSet" "pages" "[[J" (.ref b7) := (((Fw10.ext E11).keep Kp14 (ninS (own_ne (by omega)) nin0)).other W17 (Or.inr (slot_ne (Or.inl (hW 16 _ rfl)) (Or.inl (hW 40 _ rfl)) (by decide) pf_3 pf_4)))
  have f22 : Fld Z h17 x "com/example/grantway/grantway/protocol/PackedSet" "size" "I" (.int 0) := (((((((F_size.other W3 (Or.inr (slot_ne (Or.inl (hW 80 _ rfl)) (Or.inr (hW 10 _ rfl)) (by decide) pf_0 pf_0))).other W6 (Or.inr (slot_ne (Or.inl (hW 80 _ rfl)) (Or.inl (hW 12 _ rfl)) (by decide) pf_0 pf_0))).ext E7).other W10 (Or.inr (slot_ne (Or.inl (hW 80 _ rfl)) (Or.inl (hW 16 _ rfl)) (by decide) pf_0 pf_3))).ext E11).keep Kp14 (ninS (own_ne (by omega)) nin0)).other W17 (Or.inr (slot_ne (Or.inl (hW 80 _ rfl)) (Or.inl (hW 40 _ rfl)) (by decide) pf_0 pf_4)))
  have f23 : Exa Z h17 b11 "java/util/BitSet" := (Eb14.wr W17)
  have f24 : Fld Z h17 b11 "java/util/BitSet" "wordsInUse" "I" (.int 0) := (Fn14.other W17 (Or.inl (own_ne (by omega))))
  have f25 : Fld Z h17 b11 "java/util/BitSet" "words" "[J" (.ref wa14) := (Fd14.other W17 (Or.inl (own_ne (by omega))))
  have f26 : Arv Z h17 wa14 kw14 .long (1 : Int32) [(.long 0)] (.long 0) := (Vw14.other W17 (own_ne (by omega)))
  have f27 : Arv Z h17 b7 k7 (.array .long) (1 : Int32) [.null] .null := ((((V7.other W10 (own_ne (by omega))).ext E11).keep Kp14 (ninS (own_ne (by omega)) nin0)).other W17 (own_ne (by omega)))
  exact ⟨b7, b11, wa14, k7, kw14, rfl, N17, K17, ⟨f18, f19, f20, f21, Fw17, f22, f23, f24, f25, f26, f27⟩, Ov7, by omega⟩
theorem ef_rmCW (m : MethodId) (x0 : Nat) (x1 : Nat) : entryFrame m #[(.ref x0), (.ref x1)] 2 = mkF m 0 #[.val (.ref x0), .val (.ref x1)] [] := by first | (simp [entryFrame, mkF, argsToLocals, Value.category]; done) | rfl
theorem d8_0 : decode prog_28_method_9_code 0 = .ok (.aload_n 1, 1) := by decide +kernel
theorem d8_1 : decode prog_28_method_9_code 1 = .ok (.arraylength, 1) := by decide +kernel
theorem d8_2 : decode prog_28_method_9_code 2 = .ok (.aload_n 0, 1) := by decide +kernel
theorem d8_3 : decode prog_28_method_9_code 3 = .ok (.getfield 14, 3) := by decide +kernel
theorem d8_6 : decode prog_28_method_9_code 6 = .ok (.if_icmp .eq 22, 3) := by decide +kernel
theorem d8_28 : decode prog_28_method_9_code 28 = .ok (.return_, 1) := by decide +kernel
def Q_rmCW (Z : State) (x : Nat) (ky : Nat) (kc : ClassId) (k0 : Int64) (k1 : Int64) (h0 : Heap) (n0 : Nat) (v : Option Value) (h : Heap) (L : List Loc) : Prop := v = none ∧ Fr n0 L ∧ h = h0
set_option maxRecDepth 65536 in
set_option maxHeartbeats 40000000 in
theorem rmCW (l : Launch) (Z : State) (a0 : Array Value) (hw : own_H Z a0) (ws : List Jvm.Cond) (x : Nat) (ky : Nat) (kc : ClassId) (k0 : Int64) (k1 : Int64) (h0 : Heap) (n0 : Nat) (XO0 : Old Z n0 h0) (F_w : Fld Z h0 x "com/example/grantway/grantway/protocol/PackedSet" "width" "I" (.int 2)) (V_k : Arv Z h0 ky kc .long (2 : Int32) [(.long k0), (.long k1)] (.long 0)) :
    own_M l Z ym4 prog_28_method_9_code ws 2 none (own_R 0 0 0 0) #[(.ref x), (.ref ky)] h0 (Q_rmCW Z x ky kc k0 k1 h0 n0) := by
  refine own_open (plainFor_of_name pn_1) ?_
  intro p e s m below meth c s₁ hx hby hlk hret hml hown hnm hZ X0 e0
  have hW := own_hW hw
  have N0 := Fr.nil n0
  refine own_of (fun tt_ kk_ => castTop (ef_rmCW m x ky) kk_) ?_
  show own_go p e below s _ _ _ (s₁.setTop (mkF m 0 #[.val (.ref x), .val (.ref ky)] []))
  refine own_of (fun tt_ => XS.aloadN X0.here hx rfl (hb hby d8_0) rfl rfl) ?_
  obtain ⟨cl1, Ar1, q1, S1, Ng1, H1, G1⟩ := id V_k
  refine own_of (fun tt_ kk => X0.arraylength hx (by rw [e0]; exact Ar1.1) (State.isArrayOf_alike hZ.alike Ar1.2.1) (g := (mkF m 1 #[.val (.ref x), .val (.ref ky)] [(.ref ky)])) rfl rfl (hb hby d8_1) _ (by rw [len_of S1 Ng1]; exact kk)) ?_
  show own_go p e below s _ _ _ (s₁.setTop (mkF m 2 #[.val (.ref x), .val (.ref ky)] [(.int 2)]))
  refine own_of (fun tt_ => XS.aloadN X0.here hx rfl (hb hby d8_2) rfl rfl) ?_
  obtain ⟨T2, X2, e2, st2⟩ := getF X0 hx hZ hown (host := "") (Or.inl (hW 9 _ rfl)) Via.refl e0 F_w (g := (mkF m 3 #[.val (.ref x), .val (.ref ky)] [(.ref x), (.int 2)])) rfl rfl (hb hby d8_3)
  refine own_of st2 ?_
  show own_go p e below s _ _ _ (T2.setTop (mkF m 6 #[.val (.ref x), .val (.ref ky)] [(.int 2), (.int 2)]))
  have hb6_3 : (2 : Int32) = (2 : Int32) := by decide
  refine own_of (fun tt_ => XS.icmpYes X2.here hx rfl (pc0 := 6) (pc' := 28) rfl (hb hby d8_6) rfl (teq hb6_3).1 (by decide) (by decide)) ?_
  show own_go p e below s _ _ _ (T2.setTop (mkF m 28 #[.val (.ref x), .val (.ref ky)] []))
  refine own_retV X2 hx hlk hret (hb hby d8_28) (by decide) (by decide) ?_
  rw [e2]
  exact ⟨rfl, N0, rfl⟩
theorem ef_rmNI (m : MethodId) (x0 : Int32) : entryFrame m #[(.int x0)] 2 = mkF m 0 #[.val (.int x0), .unset] [] := by first | (simp [entryFrame, mkF, argsToLocals, Value.category]; done) | rfl
theorem pn_2 : plainName "java/lang/Integer" = true := by first | (simp [plainName, overriddenIn]; done) | decide +kernel
theorem d11_0 : decode jdk_33_method_47_code 0 = .ok (.iload_n 0, 1) := by decide +kernel
theorem d11_1 : decode jdk_33_method_47_code 1 = .ok (.ifCond .gt 14, 3) := by decide +kernel
theorem d11_15 : decode jdk_33_method_47_code 15 = .ok (.bipush 31, 2) := by decide +kernel
theorem d11_17 : decode jdk_33_method_47_code 17 = .ok (.istore_n 1, 1) := by decide +kernel
theorem d11_18 : decode jdk_33_method_47_code 18 = .ok (.iload_n 0, 1) := by decide +kernel
theorem d11_19 : decode jdk_33_method_47_code 19 = .ok (.ldc_w 264, 3) := by decide +kernel
theorem d11_22 : decode jdk_33_method_47_code 22 = .ok (.if_icmp .lt 11, 3) := by decide +kernel
theorem d11_33 : decode jdk_33_method_47_code 33 = .ok (.iload_n 0, 1) := by decide +kernel
theorem d11_34 : decode jdk_33_method_47_code 34 = .ok (.sipush 256, 3) := by decide +kernel
theorem d11_37 : decode jdk_33_method_47_code 37 = .ok (.if_icmp .lt 11, 3) := by decide +kernel
theorem d11_48 : decode jdk_33_method_47_code 48 = .ok (.iload_n 0, 1) := by decide +kernel
theorem d11_49 : decode jdk_33_method_47_code 49 = .ok (.bipush 16, 2) := by decide +kernel
theorem d11_51 : decode jdk_33_method_47_code 51 = .ok (.if_icmp .lt 10, 3) := by decide +kernel
theorem d11_61 : decode jdk_33_method_47_code 61 = .ok (.iload_n 0, 1) := by decide +kernel
theorem d11_62 : decode jdk_33_method_47_code 62 = .ok (.iconst 4, 1) := by decide +kernel
theorem d11_63 : decode jdk_33_method_47_code 63 = .ok (.if_icmp .lt 10, 3) := by decide +kernel
theorem d11_66 : decode jdk_33_method_47_code 66 = .ok (.iinc 1 (-2), 3) := by decide +kernel
theorem d11_69 : decode jdk_33_method_47_code 69 = .ok (.iload_n 0, 1) := by decide +kernel
theorem d11_70 : decode jdk_33_method_47_code 70 = .ok (.iconst 2, 1) := by decide +kernel
theorem d11_71 : decode jdk_33_method_47_code 71 = .ok (.iushr, 1) := by decide +kernel
theorem d11_72 : decode jdk_33_method_47_code 72 = .ok (.istore_n 0, 1) := by decide +kernel
theorem d11_73 : decode jdk_33_method_47_code 73 = .ok (.iload_n 1, 1) := by decide +kernel
theorem d11_74 : decode jdk_33_method_47_code 74 = .ok (.iload_n 0, 1) := by decide +kernel
theorem d11_75 : decode jdk_33_method_47_code 75 = .ok (.iconst 1, 1) := by decide +kernel
theorem d11_76 : decode jdk_33_method_47_code 76 = .ok (.iushr, 1) := by decide +kernel
theorem d11_77 : decode jdk_33_method_47_code 77 = .ok (.isub, 1) := by decide +kernel
theorem d11_78 : decode jdk_33_method_47_code 78 = .ok (.ireturn, 1) := by decide +kernel
def Q_rmNI (Z : State)  (h0 : Heap) (n0 : Nat) (v : Option Value) (h : Heap) (L : List Loc) : Prop := v = some (.int 28) ∧ Fr n0 L ∧ h = h0
set_option maxRecDepth 65536 in
set_option maxHeartbeats 40000000 in
theorem rmNI (l : Launch) (Z : State) (a0 : Array Value) (hw : own_H Z a0) (ws : List Jvm.Cond)  (h0 : Heap) (n0 : Nat) (XO0 : Old Z n0 h0) :
    own_M l Z (⟨"java/lang/Integer", "numberOfLeadingZeros", "(I)I"⟩ : MethodName) jdk_33_method_47_code ws 2 (some .int) (own_R 0 0 0 0) #[(.int 15)] h0 (Q_rmNI Z  h0 n0) := by
  refine own_open (plainFor_of_name pn_2) ?_
  intro p e s m below meth c s₁ hx hby hlk hret hml hown hnm hZ X0 e0
  have hW := own_hW hw
  have N0 := Fr.nil n0
  refine own_of (fun tt_ kk_ => castTop (ef_rmNI m (15 : Int32)) kk_) ?_
  show own_go p e below s _ _ _ (s₁.setTop (mkF m 0 #[.val (.int 15), .unset] []))
  refine own_of (fun tt_ => XS.iloadN X0.here hx rfl (hb hby d11_0) rfl) ?_
  have hb1_1 : (0 : Int32) < (15 : Int32) := by decide
  refine own_of (fun tt_ => XS.ifYes X0.here hx rfl (pc0 := 1) (pc' := 15) rfl (hb hby d11_1) rfl ((if0 _ _).trans (tlt hb1_1).2.2.1) (by decide) (by decide)) ?_
  show own_go p e below s _ _ _ (s₁.setTop (mkF m 15 #[.val (.int 15), .unset] []))
  refine own_of (fun tt_ => XS.bipush X0.here hx rfl (hb hby d11_15)) ?_
  refine own_of (fun tt_ => XS.istoreN X0.here hx rfl (hb hby d11_17) rfl (l' := #[.val (.int 15), .val (.int 31)]) rfl) ?_
  refine own_of (fun tt_ => XS.iloadN X0.here hx rfl (hb hby d11_18) rfl) ?_
  refine own_of (fun tt_ => X0.ldcWI hx hown (mvT hZ (hW 67 _ rfl)) rfl (hb hby d11_19)) ?_
  show own_go p e below s _ _ _ (s₁.setTop (mkF m 22 #[.val (.int 15), .val (.int 31)] [(.int 65536), (.int 15)]))
  have hb22_2 : (15 : Int32) < (65536 : Int32) := by decide
  refine own_of (fun tt_ => XS.icmpYes X0.here hx rfl (pc0 := 22) (pc' := 33) rfl (hb hby d11_22) rfl (tlt hb22_2).1 (by decide) (by decide)) ?_
  show own_go p e below s _ _ _ (s₁.setTop (mkF m 33 #[.val (.int 15), .val (.int 31)] []))
  refine own_of (fun tt_ => XS.iloadN X0.here hx rfl (hb hby d11_33) rfl) ?_
  refine own_of (fun tt_ => XS.sipush X0.here hx rfl (hb hby d11_34)) ?_
  have hb37_3 : (15 : Int32) < (256 : Int32) := by decide
  refine own_of (fun tt_ => XS.icmpYes X0.here hx rfl (pc0 := 37) (pc' := 48) rfl (hb hby d11_37) rfl (tlt hb37_3).1 (by decide) (by decide)) ?_
  show own_go p e below s _ _ _ (s₁.setTop (mkF m 48 #[.val (.int 15), .val (.int 31)] []))
  refine own_of (fun tt_ => XS.iloadN X0.here hx rfl (hb hby d11_48) rfl) ?_
  refine own_of (fun tt_ => XS.bipush X0.here hx rfl (hb hby d11_49)) ?_
  have hb51_4 : (15 : Int32) < (16 : Int32) := by decide
  refine own_of (fun tt_ => XS.icmpYes X0.here hx rfl (pc0 := 51) (pc' := 61) rfl (hb hby d11_51) rfl (tlt hb51_4).1 (by decide) (by decide)) ?_
  show own_go p e below s _ _ _ (s₁.setTop (mkF m 61 #[.val (.int 15), .val (.int 31)] []))
  refine own_of (fun tt_ => XS.iloadN X0.here hx rfl (hb hby d11_61) rfl) ?_
  refine own_of (fun tt_ => XS.iconst X0.here hx rfl (hb hby d11_62)) ?_
  have hb63_5 : ¬ ((15 : Int32) < (4 : Int32)) := by decide
  refine own_of (fun tt_ => XS.icmpNo X0.here hx rfl (hb hby d11_63) rfl (flt hb63_5).1) ?_
  show own_go p e below s _ _ _ (s₁.setTop (mkF m 66 #[.val (.int 15), .val (.int 31)] []))
  refine own_of (fun tt_ => XS.iinc X0.here hx rfl (hb hby d11_66) rfl (l' := #[.val (.int 15), .val (.int 29)]) rfl) ?_
  refine own_of (fun tt_ => XS.iloadN X0.here hx rfl (hb hby d11_69) rfl) ?_
  refine own_of (fun tt_ => XS.iconst X0.here hx rfl (hb hby d11_70)) ?_
  refine own_of (fun tt_ => XS.iushr X0.here hx rfl (hb hby d11_71) rfl) ?_
  show own_go p e below s _ _ _ (s₁.setTop (mkF m 72 #[.val (.int 15), .val (.int 29)] [(.int 3)]))
  refine own_of (fun tt_ => XS.istoreN X0.here hx rfl (hb hby d11_72) rfl (l' := #[.val (.int 3), .val (.int 29)]) rfl) ?_
  refine own_of (fun tt_ => XS.iloadN X0.here hx rfl (hb hby d11_73) rfl) ?_
  refine own_of (fun tt_ => XS.iloadN X0.here hx rfl (hb hby d11_74) rfl) ?_
  refine own_of (fun tt_ => XS.iconst X0.here hx rfl (hb hby d11_75)) ?_
  refine own_of (fun tt_ => XS.iushr X0.here hx rfl (hb hby d11_76) rfl) ?_
  show own_go p e below s _ _ _ (s₁.setTop (mkF m 77 #[.val (.int 3), .val (.int 29)] [(.int 1), (.int 29)]))
  refine own_of (fun tt_ => XS.isub X0.here hx rfl (hb hby d11_77) rfl) ?_
  show own_go p e below s _ _ _ (s₁.setTop (mkF m 78 #[.val (.int 3), .val (.int 29)] [(.int 28)]))
  refine own_ret X0 hx hlk hret rfl (Or.inl ⟨rfl, by simp, _, rfl⟩) (hb hby d11_78) (by decide) (by decide) ?_
  rw [e0]
  exact ⟨rfl, N0, rfl⟩
theorem ef_rmNL (m : MethodId) (x0 : Int64) : entryFrame m #[(.long x0)] 3 = mkF m 0 #[.val (.long x0), .second, .unset] [] := by first | (simp [entryFrame, mkF, argsToLocals, Value.category]; done) | rfl
theorem pn_3 : plainName "java/lang/Long" = true := by first | (simp [plainName, overriddenIn]; done) | decide +kernel
theorem d10_0 : decode jdk_35_method_48_code 0 = .ok (.lload_n 0, 1) := by decide +kernel
theorem d10_1 : decode jdk_35_method_48_code 1 = .ok (.bipush 32, 2) := by decide +kernel
theorem d10_3 : decode jdk_35_method_48_code 3 = .ok (.lushr, 1) := by decide +kernel
theorem d10_4 : decode jdk_35_method_48_code 4 = .ok (.l2i, 1) := by decide +kernel
theorem d10_5 : decode jdk_35_method_48_code 5 = .ok (.istore_n 2, 1) := by decide +kernel
theorem d10_6 : decode jdk_35_method_48_code 6 = .ok (.iload_n 2, 1) := by decide +kernel
theorem d10_7 : decode jdk_35_method_48_code 7 = .ok (.ifCond .ne 14, 3) := by decide +kernel
theorem d10_10 : decode jdk_35_method_48_code 10 = .ok (.bipush 32, 2) := by decide +kernel
theorem d10_12 : decode jdk_35_method_48_code 12 = .ok (.lload_n 0, 1) := by decide +kernel
theorem d10_13 : decode jdk_35_method_48_code 13 = .ok (.l2i, 1) := by decide +kernel
theorem d10_14 : decode jdk_35_method_48_code 14 = .ok (.invokestatic 308, 3) := by decide +kernel
theorem d10_17 : decode jdk_35_method_48_code 17 = .ok (.iadd, 1) := by decide +kernel
theorem d10_18 : decode jdk_35_method_48_code 18 = .ok (.goto 7, 3) := by decide +kernel
theorem d10_25 : decode jdk_35_method_48_code 25 = .ok (.ireturn, 1) := by decide +kernel
def Q_rmNL (Z : State)  (h0 : Heap) (n0 : Nat) (v : Option Value) (h : Heap) (L : List Loc) : Prop := v = some (.int 60) ∧ Fr n0 L ∧ h = h0
set_option maxRecDepth 65536 in
set_option maxHeartbeats 40000000 in
theorem rmNL (l : Launch) (Z : State) (a0 : Array Value) (hw : own_H Z a0) (ws : List Jvm.Cond)  (h0 : Heap) (n0 : Nat) (XO0 : Old Z n0 h0) :
    own_M l Z ym12 jdk_35_method_48_code ws 3 (some .int) (own_R 1 0 0 14) #[(.long 15)] h0 (Q_rmNL Z  h0 n0) := by
  refine own_open (plainFor_of_name pn_3) ?_
  intro p e s m below meth c s₁ hx hby hlk hret hml hown hnm hZ X0 e0
  have hW := own_hW hw
  have N0 := Fr.nil n0
  refine own_of (fun tt_ kk_ => castTop (ef_rmNL m (15 : Int64)) kk_) ?_
  show own_go p e below s _ _ _ (s₁.setTop (mkF m 0 #[.val (.long 15), .second, .unset] []))
  refine own_of (fun tt_ => XS.lloadN X0.here hx rfl (hb hby d10_0) rfl) ?_
  refine own_of (fun tt_ => XS.bipush X0.here hx rfl (hb hby d10_1)) ?_
  refine own_of (fun tt_ => XS.lushr X0.here hx rfl (hb hby d10_3) rfl) ?_
  show own_go p e below s _ _ _ (s₁.setTop (mkF m 4 #[.val (.long 15), .second, .unset] [(.long 0)]))
  refine own_of (fun tt_ => XS.l2i X0.here hx rfl (hb hby d10_4) rfl) ?_
  show own_go p e below s _ _ _ (s₁.setTop (mkF m 5 #[.val (.long 15), .second, .unset] [(.int 0)]))
  refine own_of (fun tt_ => XS.istoreN X0.here hx rfl (hb hby d10_5) rfl (l' := #[.val (.long 15), .second, .val (.int 0)]) rfl) ?_
  refine own_of (fun tt_ => XS.iloadN X0.here hx rfl (hb hby d10_6) rfl) ?_
  have hb7_1 : (0 : Int32) = (0 : Int32) := by decide
  refine own_of (fun tt_ => XS.ifNo X0.here hx rfl (hb hby d10_7) rfl ((if0 _ _).trans (teq hb7_1).2)) ?_
  show own_go p e below s _ _ _ (s₁.setTop (mkF m 10 #[.val (.long 15), .second, .val (.int 0)] []))
  refine own_of (fun tt_ => XS.bipush X0.here hx rfl (hb hby d10_10)) ?_
  refine own_of (fun tt_ => XS.lloadN X0.here hx rfl (hb hby d10_12) rfl) ?_
  refine own_of (fun tt_ => XS.l2i X0.here hx rfl (hb hby d10_13) rfl) ?_
  show own_go p e below s _ _ _ (s₁.setTop (mkF m 14 #[.val (.long 15), .second, .val (.int 0)] [(.int 15), (.int 32)]))
  obtain ⟨_, _, ⟨T2, L2, k2, n2⟩, -, X2, ⟨Lc2, hQ2, l2, y2, z2⟩, st2⟩ := Jvm.LawKit.callS X0 hx (y := (⟨"java/lang/Integer", "numberOfLeadingZeros", "(I)I"⟩ : MethodName)) hown (mvT hZ (hW 63 _ rfl)) (mvT hZ (hW 64 _ rfl)) (mvT hZ (hW 65 _ rfl)) (mvT hZ (hW 66 _ rfl)) (by decide) (backOf (W := 1) (rmNI l Z a0 hw [] h0 n0 XO0) hZ (hW 66 _ rfl) (hW 65 _ rfl) (by decide) (by decide)) (g := (mkF m 14 #[.val (.long 15), .second, .val (.int 0)] [(.int 15), (.int 32)])) rfl (by rw [hml]; rfl) (argsL := [(.int 15)]) (rest := [(.int 32)]) (lenOf pd_1 rfl) rfl (by show 2 * 0 + _ ≤ _; exact Nat.le_of_eq rfl) (hb hby d10_14) (fun _ _ => ⟨rfl, e0, (by decide : 0 + 0 ≤ _), (by decide : 0 + 0 ≤ _)⟩)
  dsimp only [Pt.U, Pt.locs, Pt.cells, Pt.slots] at X2 l2 y2 z2 st2 hQ2
  subst l2 y2 z2
  obtain ⟨rfl, Nq2, eh2⟩ := hQ2
  have N2 := Fr.app N0 Nq2
  refine own_of st2 ?_
  show own_go p e below s _ _ _ (T2.setTop (mkF m 17 #[.val (.long 15), .second, .val (.int 0)] [(.int 28), (.int 32)]))
  refine own_of (fun tt_ => XS.iadd X2.here hx rfl (hb hby d10_17) rfl) ?_
  show own_go p e below s _ _ _ (T2.setTop (mkF m 18 #[.val (.long 15), .second, .val (.int 0)] [(.int 60)]))
  refine own_of (fun tt_ => XS.goto X2.here hx rfl (pc0 := 18) (pc' := 25) rfl (hb hby d10_18) (by decide) (by decide)) ?_
  show own_go p e below s _ _ _ (T2.setTop (mkF m 25 #[.val (.long 15), .second, .val (.int 0)] [(.int 60)]))
  refine own_ret X2 hx hlk hret rfl (Or.inl ⟨rfl, by simp, _, rfl⟩) (hb hby d10_25) (by decide) (by decide) ?_
  rw [eh2]
  exact ⟨rfl, N2, rfl⟩
theorem ef_rmMin (m : MethodId) (x0 : Int32) (x1 : Int32) : entryFrame m #[(.int x0), (.int x1)] 2 = mkF m 0 #[.val (.int x0), .val (.int x1)] [] := by first | (simp [entryFrame, mkF, argsToLocals, Value.category]; done) | rfl
theorem d15_0 : decode jdk_29_method_69_code 0 = .ok (.iload_n 0, 1) := by decide +kernel
theorem d15_1 : decode jdk_29_method_69_code 1 = .ok (.iload_n 1, 1) := by decide +kernel
theorem d15_2 : decode jdk_29_method_69_code 2 = .ok (.if_icmp .gt 7, 3) := by decide +kernel
theorem d15_5 : decode jdk_29_method_69_code 5 = .ok (.iload_n 0, 1) := by decide +kernel
theorem d15_6 : decode jdk_29_method_69_code 6 = .ok (.goto 4, 3) := by decide +kernel
theorem d15_10 : decode jdk_29_method_69_code 10 = .ok (.ireturn, 1) := by decide +kernel
def Q_rmMin (Z : State)  (h0 : Heap) (n0 : Nat) (v : Option Value) (h : Heap) (L : List Loc) : Prop := v = some (.int 16) ∧ Fr n0 L ∧ h = h0
set_option maxRecDepth 65536 in
set_option maxHeartbeats 40000000 in
theorem rmMin (l : Launch) (Z : State) (a0 : Array Value) (hw : own_H Z a0) (ws : List Jvm.Cond)  (h0 : Heap) (n0 : Nat) (XO0 : Old Z n0 h0) :
    own_M l Z (⟨"java/lang/Math", "min", "(II)I"⟩ : MethodName) jdk_29_method_69_code ws 2 (some .int) (own_R 0 0 0 0) #[(.int 16), (.int 8192)] h0 (Q_rmMin Z  h0 n0) := by
  refine own_open (Jvm.Free.JP.mathPlain rfl (by decide +kernel)) ?_
  intro p e s m below meth c s₁ hx hby hlk hret hml hown hnm hZ X0 e0
  have hW := own_hW hw
  have N0 := Fr.nil n0
  refine own_of (fun tt_ kk_ => castTop (ef_rmMin m (16 : Int32) (8192 : Int32)) kk_) ?_
  show own_go p e below s _ _ _ (s₁.setTop (mkF m 0 #[.val (.int 16), .val (.int 8192)] []))
  refine own_of (fun tt_ => XS.iloadN X0.here hx rfl (hb hby d15_0) rfl) ?_
  refine own_of (fun tt_ => XS.iloadN X0.here hx rfl (hb hby d15_1) rfl) ?_
  have hb2_1 : ¬ ((8192 : Int32) < (16 : Int32)) := by decide
  refine own_of (fun tt_ => XS.icmpNo X0.here hx rfl (hb hby d15_2) rfl (flt hb2_1).2.2.1) ?_
  show own_go p e below s _ _ _ (s₁.setTop (mkF m 5 #[.val (.int 16), .val (.int 8192)] []))
  refine own_of (fun tt_ => XS.iloadN X0.here hx rfl (hb hby d15_5) rfl) ?_
  refine own_of (fun tt_ => XS.goto X0.here hx rfl (pc0 := 6) (pc' := 10) rfl (hb hby d15_6) (by decide) (by decide)) ?_
  show own_go p e below s _ _ _ (s₁.setTop (mkF m 10 #[.val (.int 16), .val (.int 8192)] [(.int 16)]))
  refine own_ret X0 hx hlk hret rfl (Or.inl ⟨rfl, by simp, _, rfl⟩) (hb hby d15_10) (by decide) (by decide) ?_
  rw [e0]
  exact ⟨rfl, N0, rfl⟩
theorem ef_rmPick (m : MethodId) (x0 : Int32) (x1 : Int64) (x2 : Int64) (x3 : Int64) (x4 : Int64) : entryFrame m #[(.int x0), (.long x1), (.long x2), (.long x3), (.long x4)] 10 = mkF m 0 #[.val (.int x0), .val (.long x1), .second, .val (.long x2), .second, .val (.long x3), .second, .val (.long x4), .second, .unset] [] := by first | (simp [entryFrame, mkF, argsToLocals, Value.category]; done) | rfl
theorem pn_4 : plainName "com/example/grantway/grantway/protocol/PackedSetContainsPinLaw" = true := by first | (simp [plainName, overriddenIn]; done) | decide +kernel
theorem d6_0 : decode method_3_code 0 = .ok (.iload_n 0, 1) := by decide +kernel
theorem d6_1 : decode method_3_code 1 = .ok (.iconst 3, 1) := by decide +kernel
theorem d6_2 : decode method_3_code 2 = .ok (.iand, 1) := by decide +kernel
theorem d6_3 : decode method_3_code 3 = .ok (.istore 9, 2) := by decide +kernel
theorem d6_5 : decode method_3_code 5 = .ok (.iload 9, 2) := by decide +kernel
theorem d6_7 : decode method_3_code 7 = .ok (.ifCond .ne 5, 3) := by decide +kernel
theorem d6_10 : decode method_3_code 10 = .ok (.lload_n 1, 1) := by decide +kernel
theorem d6_11 : decode method_3_code 11 = .ok (.lreturn, 1) := by decide +kernel
theorem d6_12 : decode method_3_code 12 = .ok (.iload 9, 2) := by decide +kernel
theorem d6_14 : decode method_3_code 14 = .ok (.iconst 1, 1) := by decide +kernel
theorem d6_15 : decode method_3_code 15 = .ok (.if_icmp .ne 5, 3) := by decide +kernel
theorem d6_18 : decode method_3_code 18 = .ok (.lload_n 3, 1) := by decide +kernel
theorem d6_19 : decode method_3_code 19 = .ok (.lreturn, 1) := by decide +kernel
theorem d6_20 : decode method_3_code 20 = .ok (.iload 9, 2) := by decide +kernel
theorem d6_22 : decode method_3_code 22 = .ok (.iconst 2, 1) := by decide +kernel
theorem d6_23 : decode method_3_code 23 = .ok (.if_icmp .ne 6, 3) := by decide +kernel
theorem d6_26 : decode method_3_code 26 = .ok (.lload 5, 2) := by decide +kernel
theorem d6_28 : decode method_3_code 28 = .ok (.lreturn, 1) := by decide +kernel
theorem d6_29 : decode method_3_code 29 = .ok (.lload 7, 2) := by decide +kernel
theorem d6_31 : decode method_3_code 31 = .ok (.lreturn, 1) := by decide +kernel
def Q_rmPick (Z : State) (sl : Int32) (ja : Int64) (jb : Int64) (jc : Int64) (jd : Int64) (h0 : Heap) (n0 : Nat) (v : Option Value) (h : Heap) (L : List Loc) : Prop := ∃ z : Int64, v = some (.long z) ∧ Fr n0 L ∧ h = h0
set_option maxRecDepth 65536 in
set_option maxHeartbeats 40000000 in
theorem rmPick (l : Launch) (Z : State) (a0 : Array Value) (hw : own_H Z a0) (ws : List Jvm.Cond) (sl : Int32) (ja : Int64) (jb : Int64) (jc : Int64) (jd : Int64) (h0 : Heap) (n0 : Nat) (XO0 : Old Z n0 h0) :
    own_M l Z ym5 method_3_code ws 10 (some .long) (own_R 0 0 0 0) #[(.int sl), (.long ja), (.long jb), (.long jc), (.long jd)] h0 (Q_rmPick Z sl ja jb jc jd h0 n0) := by
  refine own_open (plainFor_of_name pn_4) ?_
  intro p e s m below meth c s₁ hx hby hlk hret hml hown hnm hZ X0 e0
  have hW := own_hW hw
  have N0 := Fr.nil n0
  refine own_of (fun tt_ kk_ => castTop (ef_rmPick m sl ja jb jc jd) kk_) ?_
  show own_go p e below s _ _ _ (s₁.setTop (mkF m 0 #[.val (.int sl), .val (.long ja), .second, .val (.long jb), .second, .val (.long jc), .second, .val (.long jd), .second, .unset] []))
  refine own_of (fun tt_ => XS.iloadN X0.here hx rfl (hb hby d6_0) rfl) ?_
  refine own_of (fun tt_ => XS.iconst X0.here hx rfl (hb hby d6_1)) ?_
  refine own_of (fun tt_ => XS.iand X0.here hx rfl (hb hby d6_2) rfl) ?_
  show own_go p e below s _ _ _ (s₁.setTop (mkF m 3 #[.val (.int sl), .val (.long ja), .second, .val (.long jb), .second, .val (.long jc), .second, .val (.long jd), .second, .unset] [(.int (sl &&& (3 : Int32)))]))
  refine own_of (fun tt_ => XS.istore X0.here hx rfl (hb hby d6_3) rfl (l' := #[.val (.int sl), .val (.long ja), .second, .val (.long jb), .second, .val (.long jc), .second, .val (.long jd), .second, .val (.int (sl &&& (3 : Int32)))]) rfl) ?_
  refine own_of (fun tt_ => XS.iload X0.here hx rfl (hb hby d6_5) rfl) ?_
  by_cases hb7_1 : (sl &&& (3 : Int32)) = (0 : Int32)
  · refine own_of (fun tt_ => XS.ifNo X0.here hx rfl (hb hby d6_7) rfl ((if0 _ _).trans (teq hb7_1).2)) ?_
    show own_go p e below s _ _ _ (s₁.setTop (mkF m 10 #[.val (.int sl), .val (.long ja), .second, .val (.long jb), .second, .val (.long jc), .second, .val (.long jd), .second, .val (.int (sl &&& (3 : Int32)))] []))
    refine own_of (fun tt_ => XS.lloadN X0.here hx rfl (hb hby d6_10) rfl) ?_
    show own_go p e below s _ _ _ (s₁.setTop (mkF m 11 #[.val (.int sl), .val (.long ja), .second, .val (.long jb), .second, .val (.long jc), .second, .val (.long jd), .second, .val (.int (sl &&& (3 : Int32)))] [(.long ja)]))
    refine own_ret X0 hx hlk hret rfl (Or.inr (Or.inl ⟨rfl, rfl, _, rfl⟩)) (hb hby d6_11) (by decide) (by decide) ?_
    rw [e0]
    exact ⟨_, rfl, N0, rfl⟩
  · refine own_of (fun tt_ => XS.ifYes X0.here hx rfl (pc0 := 7) (pc' := 12) rfl (hb hby d6_7) rfl ((if0 _ _).trans (feq hb7_1).2) (by decide) (by decide)) ?_
    show own_go p e below s _ _ _ (s₁.setTop (mkF m 12 #[.val (.int sl), .val (.long ja), .second, .val (.long jb), .second, .val (.long jc), .second, .val (.long jd), .second, .val (.int (sl &&& (3 : Int32)))] []))
    refine own_of (fun tt_ => XS.iload X0.here hx rfl (hb hby d6_12) rfl) ?_
    refine own_of (fun tt_ => XS.iconst X0.here hx rfl (hb hby d6_14)) ?_
    by_cases hb15_2 : (sl &&& (3 : Int32)) = (1 : Int32)
    · refine own_of (fun tt_ => XS.icmpNo X0.here hx rfl (hb hby d6_15) rfl (teq hb15_2).2) ?_
      show own_go p e below s _ _ _ (s₁.setTop (mkF m 18 #[.val (.int sl), .val (.long ja), .second, .val (.long jb), .second, .val (.long jc), .second, .val (.long jd), .second, .val (.int (sl &&& (3 : Int32)))] []))
      refine own_of (fun tt_ => XS.lloadN X0.here hx rfl (hb hby d6_18) rfl) ?_
      show own_go p e below s _ _ _ (s₁.setTop (mkF m 19 #[.val (.int sl), .val (.long ja), .second, .val (.long jb), .second, .val (.long jc), .second, .val (.long jd), .second, .val (.int (sl &&& (3 : Int32)))] [(.long jb)]))
      refine own_ret X0 hx hlk hret rfl (Or.inr (Or.inl ⟨rfl, rfl, _, rfl⟩)) (hb hby d6_19) (by decide) (by decide) ?_
      rw [e0]
      exact ⟨_, rfl, N0, rfl⟩
    · refine own_of (fun tt_ => XS.icmpYes X0.here hx rfl (pc0 := 15) (pc' := 20) rfl (hb hby d6_15) rfl (feq hb15_2).2 (by decide) (by decide)) ?_
      show own_go p e below s _ _ _ (s₁.setTop (mkF m 20 #[.val (.int sl), .val (.long ja), .second, .val (.long jb), .second, .val (.long jc), .second, .val (.long jd), .second, .val (.int (sl &&& (3 : Int32)))] []))
      refine own_of (fun tt_ => XS.iload X0.here hx rfl (hb hby d6_20) rfl) ?_
      refine own_of (fun tt_ => XS.iconst X0.here hx rfl (hb hby d6_22)) ?_
      by_cases hb23_3 : (sl &&& (3 : Int32)) = (2 : Int32)
      · refine own_of (fun tt_ => XS.icmpNo X0.here hx rfl (hb hby d6_23) rfl (teq hb23_3).2) ?_
        show own_go p e below s _ _ _ (s₁.setTop (mkF m 26 #[.val (.int sl), .val (.long ja), .second, .val (.long jb), .second, .val (.long jc), .second, .val (.long jd), .second, .val (.int (sl &&& (3 : Int32)))] []))
        refine own_of (fun tt_ => XS.lload X0.here hx rfl (hb hby d6_26) rfl) ?_
        show own_go p e below s _ _ _ (s₁.setTop (mkF m 28 #[.val (.int sl), .val (.long ja), .second, .val (.long jb), .second, .val (.long jc), .second, .val (.long jd), .second, .val (.int (sl &&& (3 : Int32)))] [(.long jc)]))
        refine own_ret X0 hx hlk hret rfl (Or.inr (Or.inl ⟨rfl, rfl, _, rfl⟩)) (hb hby d6_28) (by decide) (by decide) ?_
        rw [e0]
        exact ⟨_, rfl, N0, rfl⟩
      · refine own_of (fun tt_ => XS.icmpYes X0.here hx rfl (pc0 := 23) (pc' := 29) rfl (hb hby d6_23) rfl (feq hb23_3).2 (by decide) (by decide)) ?_
        show own_go p e below s _ _ _ (s₁.setTop (mkF m 29 #[.val (.int sl), .val (.long ja), .second, .val (.long jb), .second, .val (.long jc), .second, .val (.long jd), .second, .val (.int (sl &&& (3 : Int32)))] []))
        refine own_of (fun tt_ => XS.lload X0.here hx rfl (hb hby d6_29) rfl) ?_
        show own_go p e below s _ _ _ (s₁.setTop (mkF m 31 #[.val (.int sl), .val (.long ja), .second, .val (.long jb), .second, .val (.long jc), .second, .val (.long jd), .second, .val (.int (sl &&& (3 : Int32)))] [(.long jd)]))
        refine own_ret X0 hx hlk hret rfl (Or.inr (Or.inl ⟨rfl, rfl, _, rfl⟩)) (hb hby d6_31) (by decide) (by decide) ?_
        rw [e0]
        exact ⟨_, rfl, N0, rfl⟩
theorem ef_rmHo (m : MethodId) (x0 : Nat) (x1 : Int32) (x2 : Nat) : entryFrame m #[(.ref x0), (.int x1), (.ref x2)] 6 = mkF m 0 #[.val (.ref x0), .val (.int x1), .val (.ref x2), .unset, .unset, .unset] [] := by first | (simp [entryFrame, mkF, argsToLocals, Value.category]; done) | rfl
theorem d19_0 : decode prog_28_method_6_code 0 = .ok (.aload_n 0, 1) := by decide +kernel
theorem d19_1 : decode prog_28_method_6_code 1 = .ok (.getfield 25, 3) := by decide +kernel
theorem d19_4 : decode prog_28_method_6_code 4 = .ok (.iload_n 1, 1) := by decide +kernel
theorem d19_5 : decode prog_28_method_6_code 5 = .ok (.sipush 8192, 3) := by decide +kernel
theorem d19_8 : decode prog_28_method_6_code 8 = .ok (.idiv, 1) := by decide +kernel
theorem d19_9 : decode prog_28_method_6_code 9 = .ok (.aaload, 1) := by decide +kernel
theorem d19_10 : decode prog_28_method_6_code 10 = .ok (.astore_n 3, 1) := by decide +kernel
theorem d19_11 : decode prog_28_method_6_code 11 = .ok (.iload_n 1, 1) := by decide +kernel
theorem d19_12 : decode prog_28_method_6_code 12 = .ok (.sipush 8192, 3) := by decide +kernel
theorem d19_15 : decode prog_28_method_6_code 15 = .ok (.irem, 1) := by decide +kernel
theorem d19_16 : decode prog_28_method_6_code 16 = .ok (.aload_n 0, 1) := by decide +kernel
theorem d19_17 : decode prog_28_method_6_code 17 = .ok (.getfield 14, 3) := by decide +kernel
theorem d19_20 : decode prog_28_method_6_code 20 = .ok (.imul, 1) := by decide +kernel
theorem d19_21 : decode prog_28_method_6_code 21 = .ok (.istore 4, 2) := by decide +kernel
theorem d19_23 : decode prog_28_method_6_code 23 = .ok (.iconst 0, 1) := by decide +kernel
theorem d19_24 : decode prog_28_method_6_code 24 = .ok (.istore 5, 2) := by decide +kernel
theorem d19_26 : decode prog_28_method_6_code 26 = .ok (.iload 5, 2) := by decide +kernel
theorem d19_28 : decode prog_28_method_6_code 28 = .ok (.aload_n 0, 1) := by decide +kernel
theorem d19_29 : decode prog_28_method_6_code 29 = .ok (.getfield 14, 3) := by decide +kernel
theorem d19_32 : decode prog_28_method_6_code 32 = .ok (.if_icmp .ge 26, 3) := by decide +kernel
theorem d19_35 : decode prog_28_method_6_code 35 = .ok (.aload_n 3, 1) := by decide +kernel
theorem d19_36 : decode prog_28_method_6_code 36 = .ok (.iload 4, 2) := by decide +kernel
theorem d19_38 : decode prog_28_method_6_code 38 = .ok (.iload 5, 2) := by decide +kernel
theorem d19_40 : decode prog_28_method_6_code 40 = .ok (.iadd, 1) := by decide +kernel
theorem d19_41 : decode prog_28_method_6_code 41 = .ok (.laload, 1) := by decide +kernel
theorem d19_42 : decode prog_28_method_6_code 42 = .ok (.aload_n 2, 1) := by decide +kernel
theorem d19_43 : decode prog_28_method_6_code 43 = .ok (.iload 5, 2) := by decide +kernel
theorem d19_45 : decode prog_28_method_6_code 45 = .ok (.laload, 1) := by decide +kernel
theorem d19_46 : decode prog_28_method_6_code 46 = .ok (.lcmp, 1) := by decide +kernel
theorem d19_47 : decode prog_28_method_6_code 47 = .ok (.ifCond .eq 5, 3) := by decide +kernel
theorem d19_52 : decode prog_28_method_6_code 52 = .ok (.iinc 5 1, 3) := by decide +kernel
theorem d19_55 : decode prog_28_method_6_code 55 = .ok (.goto (-29), 3) := by decide +kernel
theorem d19_58 : decode prog_28_method_6_code 58 = .ok (.iconst 1, 1) := by decide +kernel
theorem d19_59 : decode prog_28_method_6_code 59 = .ok (.ireturn, 1) := by decide +kernel
theorem d19_50 : decode prog_28_method_6_code 50 = .ok (.iconst 0, 1) := by decide +kernel
theorem d19_51 : decode prog_28_method_6_code 51 = .ok (.ireturn, 1) := by decide +kernel
def Q_rmHo (Z : State) (x : Nat) (pa : Nat) (pg : Nat) (ka : ClassId) (kp : ClassId) (K0 : Int32 → Int64) (K1 : Int32 → Int64) (ix : Int32) (ky : Nat) (kc : ClassId) (k0 : Int64) (k1 : Int64) (h0 : Heap) (n0 : Nat) (v : Option Value) (h : Heap) (L : List Loc) : Prop := v = some (.int (own_hold K0 K1 k0 k1 ix)) ∧ Fr n0 L ∧ h = h0
set_option maxRecDepth 65536 in
set_option maxHeartbeats 40000000 in
theorem rmHo (l : Launch) (Z : State) (a0 : Array Value) (hw : own_H Z a0) (ws : List Jvm.Cond) (x : Nat) (pa : Nat) (pg : Nat) (ka : ClassId) (kp : ClassId) (K0 : Int32 → Int64) (K1 : Int32 → Int64) (ix : Int32) (ky : Nat) (kc : ClassId) (k0 : Int64) (k1 : Int64) (h0 : Heap) (n0 : Nat) (XO0 : Old Z n0 h0) (F_w : Fld Z h0 x "com/example/grantway/grantway/protocol/PackedSet" "width" "I" (.int 2)) (F_p : Fld Z h0 x "com/example/grantway/grantway/protocol/PackedSet" "pages" "[[J" (.ref pa)) (V_p : Arv Z h0 pa ka (.array .long) (1 : Int32) [(.ref pg)] .null) (V_g : Arv Z h0 pg kp .long (32 : Int32) (own_pg K0 K1) (.long 0)) (V_k : Arv Z h0 ky kc .long (2 : Int32) [(.long k0), (.long k1)] (.long 0)) (s_i : own_s ix) :
    own_M l Z ym6 prog_28_method_6_code ws 6 (some .boolean) (own_R 0 0 0 0) #[(.ref x), (.int ix), (.ref ky)] h0 (Q_rmHo Z x pa pg ka kp K0 K1 ix ky kc k0 k1 h0 n0) := by
  refine own_open (plainFor_of_name pn_1) ?_
  intro p e s m below meth c s₁ hx hby hlk hret hml hown hnm hZ X0 e0
  have hW := own_hW hw
  have N0 := Fr.nil n0
  refine own_of (fun tt_ kk_ => castTop (ef_rmHo m x ix ky) kk_) ?_
  show own_go p e below s _ _ _ (s₁.setTop (mkF m 0 #[.val (.ref x), .val (.int ix), .val (.ref ky), .unset, .unset, .unset] []))
  refine own_of (fun tt_ => XS.aloadN X0.here hx rfl (hb hby d19_0) rfl rfl) ?_
  obtain ⟨T1, X1, e1, st1⟩ := getF X0 hx hZ hown (host := "") (Or.inl (hW 15 _ rfl)) Via.refl e0 F_p (g := (mkF m 1 #[.val (.ref x), .val (.int ix), .val (.ref ky), .unset, .unset, .unset] [(.ref x)])) rfl rfl (hb hby d19_1)
  refine own_of st1 ?_
  show own_go p e below s _ _ _ (T1.setTop (mkF m 4 #[.val (.ref x), .val (.int ix), .val (.ref ky), .unset, .unset, .unset] [(.ref pa)]))
  refine own_of (fun tt_ => XS.iloadN X1.here hx rfl (hb hby d19_4) rfl) ?_
  refine own_of (fun tt_ => XS.sipush X1.here hx rfl (hb hby d19_5)) ?_
  refine own_of (fun tt_ => XS.idiv X1.here hx rfl (hb hby d19_8) rfl (by decide)) ?_
  show own_go p e below s _ _ _ (T1.setTop (mkF m 9 #[.val (.ref x), .val (.int ix), .val (.ref ky), .unset, .unset, .unset] [(.int (ix / (8192 : Int32))), (.ref pa)]))
  rw [own_s_div s_i]
  show own_go p e below s _ _ _ (T1.setTop (mkF m 9 #[.val (.ref x), .val (.int ix), .val (.ref ky), .unset, .unset, .unset] [(.int 0), (.ref pa)]))
  obtain ⟨cl2, Ar2, q2, S2, Ng2, H2, G2⟩ := id V_p
  have hin2 : ¬ ((0 : Int32) < 0 ∨ cl2.slots.size ≤ ((0 : Int32)).toNatClampNeg) := inb_of S2 ⟨by decide, by decide⟩
  have hat2 : cl2.slots[((0 : Int32)).toNatClampNeg]? = some (.ref pg) := H2 0 (by rw [S2]; decide)
  refine own_of (fun tt_ => X1.aaload hx (j := (0 : Int32)) (v := (.ref pg)) (by rw [e1]; exact Ar2.1) (State.isArrayOf_alike hZ.alike Ar2.2.1) rfl Ar2.2.2 hin2 hat2 (g := (mkF m 9 #[.val (.ref x), .val (.int ix), .val (.ref ky), .unset, .unset, .unset] [(.int 0), (.ref pa)])) rfl rfl (hb hby d19_9) _) ?_
  show own_go p e below s _ _ _ (T1.setTop (mkF m 10 #[.val (.ref x), .val (.int ix), .val (.ref ky), .unset, .unset, .unset] [(.ref pg)]))
  refine own_of (fun tt_ => XS.astoreN X1.here hx rfl (hb hby d19_10) rfl rfl (l' := #[.val (.ref x), .val (.int ix), .val (.ref ky), .val (.ref pg), .unset, .unset]) rfl) ?_
  refine own_of (fun tt_ => XS.iloadN X1.here hx rfl (hb hby d19_11) rfl) ?_
  refine own_of (fun tt_ => XS.sipush X1.here hx rfl (hb hby d19_12)) ?_
  refine own_of (fun tt_ => iremM X1 hx rfl (hb hby d19_15) rfl (by decide)) ?_
  show own_go p e below s _ _ _ (T1.setTop (mkF m 16 #[.val (.ref x), .val (.int ix), .val (.ref ky), .val (.ref pg), .unset, .unset] [(.int (ix % (8192 : Int32)))]))
  rw [own_s_rem s_i]
  show own_go p e below s _ _ _ (T1.setTop (mkF m 16 #[.val (.ref x), .val (.int ix), .val (.ref ky), .val (.ref pg), .unset, .unset] [(.int ix)]))
  refine own_of (fun tt_ => XS.aloadN X1.here hx rfl (hb hby d19_16) rfl rfl) ?_
  obtain ⟨T3, X3, e3, st3⟩ := getF X1 hx hZ hown (host := "") (Or.inl (hW 9 _ rfl)) Via.refl e1 F_w (g := (mkF m 17 #[.val (.ref x), .val (.int ix), .val (.ref ky), .val (.ref pg), .unset, .unset] [(.ref x), (.int ix)])) rfl rfl (hb hby d19_17)
  refine own_of st3 ?_
  show own_go p e below s _ _ _ (T3.setTop (mkF m 20 #[.val (.ref x), .val (.int ix), .val (.ref ky), .val (.ref pg), .unset, .unset] [(.int 2), (.int ix)]))
  refine own_of (fun tt_ => XS.imul X3.here hx rfl (hb hby d19_20) rfl) ?_
  show own_go p e below s _ _ _ (T3.setTop (mkF m 21 #[.val (.ref x), .val (.int ix), .val (.ref ky), .val (.ref pg), .unset, .unset] [(.int (ix * (2 : Int32)))]))
  refine own_of (fun tt_ => XS.istore X3.here hx rfl (hb hby d19_21) rfl (l' := #[.val (.ref x), .val (.int ix), .val (.ref ky), .val (.ref pg), .val (.int (ix * (2 : Int32))), .unset]) rfl) ?_
  refine own_of (fun tt_ => XS.iconst X3.here hx rfl (hb hby d19_23)) ?_
  refine own_of (fun tt_ => XS.istore X3.here hx rfl (hb hby d19_24) rfl (l' := #[.val (.ref x), .val (.int ix), .val (.ref ky), .val (.ref pg), .val (.int (ix * (2 : Int32))), .val (.int 0)]) rfl) ?_
  refine own_of (fun tt_ => XS.iload X3.here hx rfl (hb hby d19_26) rfl) ?_
  refine own_of (fun tt_ => XS.aloadN X3.here hx rfl (hb hby d19_28) rfl rfl) ?_
  obtain ⟨T4, X4, e4, st4⟩ := getF X3 hx hZ hown (host := "") (Or.inl (hW 9 _ rfl)) Via.refl e3 F_w (g := (mkF m 29 #[.val (.ref x), .val (.int ix), .val (.ref ky), .val (.ref pg), .val (.int (ix * (2 : Int32))), .val (.int 0)] [(.ref x), (.int 0)])) rfl rfl (hb hby d19_29)
  refine own_of st4 ?_
  show own_go p e below s _ _ _ (T4.setTop (mkF m 32 #[.val (.ref x), .val (.int ix), .val (.ref ky), .val (.ref pg), .val (.int (ix * (2 : Int32))), .val (.int 0)] [(.int 2), (.int 0)]))
  have hb32_5 : (0 : Int32) < (2 : Int32) := by decide
  refine own_of (fun tt_ => XS.icmpNo X4.here hx rfl (hb hby d19_32) rfl (tlt hb32_5).2.1) ?_
  show own_go p e below s _ _ _ (T4.setTop (mkF m 35 #[.val (.ref x), .val (.int ix), .val (.ref ky), .val (.ref pg), .val (.int (ix * (2 : Int32))), .val (.int 0)] []))
  refine own_of (fun tt_ => XS.aloadN X4.here hx rfl (hb hby d19_35) rfl rfl) ?_
  refine own_of (fun tt_ => XS.iload X4.here hx rfl (hb hby d19_36) rfl) ?_
  refine own_of (fun tt_ => XS.iload X4.here hx rfl (hb hby d19_38) rfl) ?_
  refine own_of (fun tt_ => XS.iadd X4.here hx rfl (hb hby d19_40) rfl) ?_
  show own_go p e below s _ _ _ (T4.setTop (mkF m 41 #[.val (.ref x), .val (.int ix), .val (.ref ky), .val (.ref pg), .val (.int (ix * (2 : Int32))), .val (.int 0)] [(.int ((ix * (2 : Int32)) + (0 : Int32))), (.ref pg)]))
  obtain ⟨cl6, Ar6, q6, S6, Ng6, H6, G6⟩ := id V_g
  have hin6 : ¬ (((ix * (2 : Int32)) + (0 : Int32)) < 0 ∨ cl6.slots.size ≤ (((ix * (2 : Int32)) + (0 : Int32))).toNatClampNeg) := inb_of S6 (own_s_b0 s_i)
  have hat6 : cl6.slots[(((ix * (2 : Int32)) + (0 : Int32))).toNatClampNeg]? = some (.long (K0 ix)) := Has.at H6 hin6 (own_pg0 s_i)
  refine own_of (fun tt_ => X4.laload hx (j := ((ix * (2 : Int32)) + (0 : Int32))) (v := (.long (K0 ix))) (by rw [e4]; exact Ar6.1) (State.isArrayOf_alike hZ.alike Ar6.2.1) Ar6.2.2 hin6 hat6 (g := (mkF m 41 #[.val (.ref x), .val (.int ix), .val (.ref ky), .val (.ref pg), .val (.int (ix * (2 : Int32))), .val (.int 0)] [(.int ((ix * (2 : Int32)) + (0 : Int32))), (.ref pg)])) rfl rfl (hb hby d19_41) _) ?_
  show own_go p e below s _ _ _ (T4.setTop (mkF m 42 #[.val (.ref x), .val (.int ix), .val (.ref ky), .val (.ref pg), .val (.int (ix * (2 : Int32))), .val (.int 0)] [(.long (K0 ix))]))
  refine own_of (fun tt_ => XS.aloadN X4.here hx rfl (hb hby d19_42) rfl rfl) ?_
  refine own_of (fun tt_ => XS.iload X4.here hx rfl (hb hby d19_43) rfl) ?_
  obtain ⟨cl7, Ar7, q7, S7, Ng7, H7, G7⟩ := id V_k
  have hin7 : ¬ ((0 : Int32) < 0 ∨ cl7.slots.size ≤ ((0 : Int32)).toNatClampNeg) := inb_of S7 ⟨by decide, by decide⟩
  have hat7 : cl7.slots[((0 : Int32)).toNatClampNeg]? = some (.long k0) := H7 0 (by rw [S7]; decide)
  refine own_of (fun tt_ => X4.laload hx (j := (0 : Int32)) (v := (.long k0)) (by rw [e4]; exact Ar7.1) (State.isArrayOf_alike hZ.alike Ar7.2.1) Ar7.2.2 hin7 hat7 (g := (mkF m 45 #[.val (.ref x), .val (.int ix), .val (.ref ky), .val (.ref pg), .val (.int (ix * (2 : Int32))), .val (.int 0)] [(.int 0), (.ref ky), (.long (K0 ix))])) rfl rfl (hb hby d19_45) _) ?_
  show own_go p e below s _ _ _ (T4.setTop (mkF m 46 #[.val (.ref x), .val (.int ix), .val (.ref ky), .val (.ref pg), .val (.int (ix * (2 : Int32))), .val (.int 0)] [(.long k0), (.long (K0 ix))]))
  refine own_of (fun tt_ => XS.lcmp X4.here hx rfl (hb hby d19_46) rfl) ?_
  show own_go p e below s _ _ _ (T4.setTop (mkF m 47 #[.val (.ref x), .val (.int ix), .val (.ref ky), .val (.ref pg), .val (.int (ix * (2 : Int32))), .val (.int 0)] [(.int (lcmpW (K0 ix) k0))]))
  by_cases hb47_8 : (lcmpW (K0 ix) k0) = (0 : Int32)
  · refine own_of (fun tt_ => XS.ifYes X4.here hx rfl (pc0 := 47) (pc' := 52) rfl (hb hby d19_47) rfl ((if0 _ _).trans (teq hb47_8).1) (by decide) (by decide)) ?_
    show own_go p e below s _ _ _ (T4.setTop (mkF m 52 #[.val (.ref x), .val (.int ix), .val (.ref ky), .val (.ref pg), .val (.int (ix * (2 : Int32))), .val (.int 0)] []))
    refine own_of (fun tt_ => XS.iinc X4.here hx rfl (hb hby d19_52) rfl (l' := #[.val (.ref x), .val (.int ix), .val (.ref ky), .val (.ref pg), .val (.int (ix * (2 : Int32))), .val (.int 1)]) rfl) ?_
    refine own_of (fun tt_ => XS.goto X4.here hx rfl (pc0 := 55) (pc' := 26) rfl (hb hby d19_55) (by decide) (by decide)) ?_
    refine own_of (fun tt_ => XS.iload X4.here hx rfl (hb hby d19_26) rfl) ?_
    refine own_of (fun tt_ => XS.aloadN X4.here hx rfl (hb hby d19_28) rfl rfl) ?_
    obtain ⟨T9, X9, e9, st9⟩ := getF X4 hx hZ hown (host := "") (Or.inl (hW 9 _ rfl)) Via.refl e4 F_w (g := (mkF m 29 #[.val (.ref x), .val (.int ix), .val (.ref ky), .val (.ref pg), .val (.int (ix * (2 : Int32))), .val (.int 1)] [(.ref x), (.int 1)])) rfl rfl (hb hby d19_29)
    refine own_of st9 ?_
    show own_go p e below s _ _ _ (T9.setTop (mkF m 32 #[.val (.ref x), .val (.int ix), .val (.ref ky), .val (.ref pg), .val (.int (ix * (2 : Int32))), .val (.int 1)] [(.int 2), (.int 1)]))
    have hb32_10 : (1 : Int32) < (2 : Int32) := by decide
    refine own_of (fun tt_ => XS.icmpNo X9.here hx rfl (hb hby d19_32) rfl (tlt hb32_10).2.1) ?_
    show own_go p e below s _ _ _ (T9.setTop (mkF m 35 #[.val (.ref x), .val (.int ix), .val (.ref ky), .val (.ref pg), .val (.int (ix * (2 : Int32))), .val (.int 1)] []))
    refine own_of (fun tt_ => XS.aloadN X9.here hx rfl (hb hby d19_35) rfl rfl) ?_
    refine own_of (fun tt_ => XS.iload X9.here hx rfl (hb hby d19_36) rfl) ?_
    refine own_of (fun tt_ => XS.iload X9.here hx rfl (hb hby d19_38) rfl) ?_
    refine own_of (fun tt_ => XS.iadd X9.here hx rfl (hb hby d19_40) rfl) ?_
    show own_go p e below s _ _ _ (T9.setTop (mkF m 41 #[.val (.ref x), .val (.int ix), .val (.ref ky), .val (.ref pg), .val (.int (ix * (2 : Int32))), .val (.int 1)] [(.int ((ix * (2 : Int32)) + (1 : Int32))), (.ref pg)]))
    obtain ⟨cl11, Ar11, q11, S11, Ng11, H11, G11⟩ := id V_g
    have hin11 : ¬ (((ix * (2 : Int32)) + (1 : Int32)) < 0 ∨ cl11.slots.size ≤ (((ix * (2 : Int32)) + (1 : Int32))).toNatClampNeg) := inb_of S11 (own_s_b1 s_i)
    have hat11 : cl11.slots[(((ix * (2 : Int32)) + (1 : Int32))).toNatClampNeg]? = some (.long (K1 ix)) := Has.at H11 hin11 (own_pg1 s_i)
    refine own_of (fun tt_ => X9.laload hx (j := ((ix * (2 : Int32)) + (1 : Int32))) (v := (.long (K1 ix))) (by rw [e9]; exact Ar11.1) (State.isArrayOf_alike hZ.alike Ar11.2.1) Ar11.2.2 hin11 hat11 (g := (mkF m 41 #[.val (.ref x), .val (.int ix), .val (.ref ky), .val (.ref pg), .val (.int (ix * (2 : Int32))), .val (.int 1)] [(.int ((ix * (2 : Int32)) + (1 : Int32))), (.ref pg)])) rfl rfl (hb hby d19_41) _) ?_
    show own_go p e below s _ _ _ (T9.setTop (mkF m 42 #[.val (.ref x), .val (.int ix), .val (.ref ky), .val (.ref pg), .val (.int (ix * (2 : Int32))), .val (.int 1)] [(.long (K1 ix))]))
    refine own_of (fun tt_ => XS.aloadN X9.here hx rfl (hb hby d19_42) rfl rfl) ?_
    refine own_of (fun tt_ => XS.iload X9.here hx rfl (hb hby d19_43) rfl) ?_
    obtain ⟨cl12, Ar12, q12, S12, Ng12, H12, G12⟩ := id V_k
    have hin12 : ¬ ((1 : Int32) < 0 ∨ cl12.slots.size ≤ ((1 : Int32)).toNatClampNeg) := inb_of S12 ⟨by decide, by decide⟩
    have hat12 : cl12.slots[((1 : Int32)).toNatClampNeg]? = some (.long k1) := H12 1 (by rw [S12]; decide)
    refine own_of (fun tt_ => X9.laload hx (j := (1 : Int32)) (v := (.long k1)) (by rw [e9]; exact Ar12.1) (State.isArrayOf_alike hZ.alike Ar12.2.1) Ar12.2.2 hin12 hat12 (g := (mkF m 45 #[.val (.ref x), .val (.int ix), .val (.ref ky), .val (.ref pg), .val (.int (ix * (2 : Int32))), .val (.int 1)] [(.int 1), (.ref ky), (.long (K1 ix))])) rfl rfl (hb hby d19_45) _) ?_
    show own_go p e below s _ _ _ (T9.setTop (mkF m 46 #[.val (.ref x), .val (.int ix), .val (.ref ky), .val (.ref pg), .val (.int (ix * (2 : Int32))), .val (.int 1)] [(.long k1), (.long (K1 ix))]))
    refine own_of (fun tt_ => XS.lcmp X9.here hx rfl (hb hby d19_46) rfl) ?_
    show own_go p e below s _ _ _ (T9.setTop (mkF m 47 #[.val (.ref x), .val (.int ix), .val (.ref ky), .val (.ref pg), .val (.int (ix * (2 : Int32))), .val (.int 1)] [(.int (lcmpW (K1 ix) k1))]))
    by_cases hb47_13 : (lcmpW (K1 ix) k1) = (0 : Int32)
    · refine own_of (fun tt_ => XS.ifYes X9.here hx rfl (pc0 := 47) (pc' := 52) rfl (hb hby d19_47) rfl ((if0 _ _).trans (teq hb47_13).1) (by decide) (by decide)) ?_
      show own_go p e below s _ _ _ (T9.setTop (mkF m 52 #[.val (.ref x), .val (.int ix), .val (.ref ky), .val (.ref pg), .val (.int (ix * (2 : Int32))), .val (.int 1)] []))
      refine own_of (fun tt_ => XS.iinc X9.here hx rfl (hb hby d19_52) rfl (l' := #[.val (.ref x), .val (.int ix), .val (.ref ky), .val (.ref pg), .val (.int (ix * (2 : Int32))), .val (.int 2)]) rfl) ?_
      refine own_of (fun tt_ => XS.goto X9.here hx rfl (pc0 := 55) (pc' := 26) rfl (hb hby d19_55) (by decide) (by decide)) ?_
      refine own_of (fun tt_ => XS.iload X9.here hx rfl (hb hby d19_26) rfl) ?_
      refine own_of (fun tt_ => XS.aloadN X9.here hx rfl (hb hby d19_28) rfl rfl) ?_
      obtain ⟨T14, X14, e14, st14⟩ := getF X9 hx hZ hown (host := "") (Or.inl (hW 9 _ rfl)) Via.refl e9 F_w (g := (mkF m 29 #[.val (.ref x), .val (.int ix), .val (.ref ky), .val (.ref pg), .val (.int (ix * (2 : Int32))), .val (.int 2)] [(.ref x), (.int 2)])) rfl rfl (hb hby d19_29)
      refine own_of st14 ?_
      show own_go p e below s _ _ _ (T14.setTop (mkF m 32 #[.val (.ref x), .val (.int ix), .val (.ref ky), .val (.ref pg), .val (.int (ix * (2 : Int32))), .val (.int 2)] [(.int 2), (.int 2)]))
      have hb32_15 : ¬ ((2 : Int32) < (2 : Int32)) := by decide
      refine own_of (fun tt_ => XS.icmpYes X14.here hx rfl (pc0 := 32) (pc' := 58) rfl (hb hby d19_32) rfl (flt hb32_15).2.1 (by decide) (by decide)) ?_
      show own_go p e below s _ _ _ (T14.setTop (mkF m 58 #[.val (.ref x), .val (.int ix), .val (.ref ky), .val (.ref pg), .val (.int (ix * (2 : Int32))), .val (.int 2)] []))
      refine own_of (fun tt_ => XS.iconst X14.here hx rfl (hb hby d19_58)) ?_
      show own_go p e below s _ _ _ (T14.setTop (mkF m 59 #[.val (.ref x), .val (.int ix), .val (.ref ky), .val (.ref pg), .val (.int (ix * (2 : Int32))), .val (.int 2)] [(.int 1)]))
      refine own_ret X14 hx hlk hret rfl (Or.inl ⟨rfl, by simp, _, rfl⟩) (hb hby d19_59) (by decide) (by decide) ?_
      rw [e14]
      exact ⟨by simp only [own_hold, if_pos hb47_8, if_pos hb47_13], N0, rfl⟩
    · refine own_of (fun tt_ => XS.ifNo X9.here hx rfl (hb hby d19_47) rfl ((if0 _ _).trans (feq hb47_13).1)) ?_
      show own_go p e below s _ _ _ (T9.setTop (mkF m 50 #[.val (.ref x), .val (.int ix), .val (.ref ky), .val (.ref pg), .val (.int (ix * (2 : Int32))), .val (.int 1)] []))
      refine own_of (fun tt_ => XS.iconst X9.here hx rfl (hb hby d19_50)) ?_
      show own_go p e below s _ _ _ (T9.setTop (mkF m 51 #[.val (.ref x), .val (.int ix), .val (.ref ky), .val (.ref pg), .val (.int (ix * (2 : Int32))), .val (.int 1)] [(.int 0)]))
      refine own_ret X9 hx hlk hret rfl (Or.inl ⟨rfl, by simp, _, rfl⟩) (hb hby d19_51) (by decide) (by decide) ?_
      rw [e9]
      exact ⟨by simp only [own_hold, if_pos hb47_8, if_neg hb47_13], N0, rfl⟩
  · refine own_of (fun tt_ => XS.ifNo X4.here hx rfl (hb hby d19_47) rfl ((if0 _ _).trans (feq hb47_8).1)) ?_
    show own_go p e below s _ _ _ (T4.setTop (mkF m 50 #[.val (.ref x), .val (.int ix), .val (.ref ky), .val (.ref pg), .val (.int (ix * (2 : Int32))), .val (.int 0)] []))
    refine own_of (fun tt_ => XS.iconst X4.here hx rfl (hb hby d19_50)) ?_
    show own_go p e below s _ _ _ (T4.setTop (mkF m 51 #[.val (.ref x), .val (.int ix), .val (.ref ky), .val (.ref pg), .val (.int (ix * (2 : Int32))), .val (.int 0)] [(.int 0)]))
    refine own_ret X4 hx hlk hret rfl (Or.inl ⟨rfl, by simp, _, rfl⟩) (hb hby d19_51) (by decide) (by decide) ?_
    rw [e4]
    exact ⟨by simp only [own_hold, if_neg hb47_8], N0, rfl⟩
theorem ef_rmFind0 (m : MethodId) (x0 : Nat) (x1 : Nat) : entryFrame m #[(.ref x0), (.ref x1)] 9 = mkF m 0 #[.val (.ref x0), .val (.ref x1), .unset, .unset, .unset, .unset, .unset, .unset, .unset] [] := by first | (simp [entryFrame, mkF, argsToLocals, Value.category]; done) | rfl
theorem d9_0 : decode prog_28_method_5_code 0 = .ok (.lconst 0, 1) := by decide +kernel
theorem d9_1 : decode prog_28_method_5_code 1 = .ok (.lstore_n 2, 1) := by decide +kernel
theorem d9_2 : decode prog_28_method_5_code 2 = .ok (.aload_n 1, 1) := by decide +kernel
theorem d9_3 : decode prog_28_method_5_code 3 = .ok (.astore 4, 2) := by decide +kernel
theorem d9_5 : decode prog_28_method_5_code 5 = .ok (.aload 4, 2) := by decide +kernel
theorem d9_7 : decode prog_28_method_5_code 7 = .ok (.arraylength, 1) := by decide +kernel
theorem d9_8 : decode prog_28_method_5_code 8 = .ok (.istore 5, 2) := by decide +kernel
theorem d9_10 : decode prog_28_method_5_code 10 = .ok (.iconst 0, 1) := by decide +kernel
theorem d9_11 : decode prog_28_method_5_code 11 = .ok (.istore 6, 2) := by decide +kernel
theorem d9_13 : decode prog_28_method_5_code 13 = .ok (.iload 6, 2) := by decide +kernel
theorem d9_15 : decode prog_28_method_5_code 15 = .ok (.iload 5, 2) := by decide +kernel
theorem d9_17 : decode prog_28_method_5_code 17 = .ok (.if_icmp .ge 25, 3) := by decide +kernel
theorem d9_20 : decode prog_28_method_5_code 20 = .ok (.aload 4, 2) := by decide +kernel
theorem d9_22 : decode prog_28_method_5_code 22 = .ok (.iload 6, 2) := by decide +kernel
theorem d9_24 : decode prog_28_method_5_code 24 = .ok (.laload, 1) := by decide +kernel
theorem d9_25 : decode prog_28_method_5_code 25 = .ok (.lstore 7, 2) := by decide +kernel
theorem d9_27 : decode prog_28_method_5_code 27 = .ok (.lload_n 2, 1) := by decide +kernel
theorem d9_28 : decode prog_28_method_5_code 28 = .ok (.lload 7, 2) := by decide +kernel
theorem d9_30 : decode prog_28_method_5_code 30 = .ok (.lxor, 1) := by decide +kernel
theorem d9_31 : decode prog_28_method_5_code 31 = .ok (.ldc2_w 60, 3) := by decide +kernel
theorem d9_34 : decode prog_28_method_5_code 34 = .ok (.lmul, 1) := by decide +kernel
theorem d9_35 : decode prog_28_method_5_code 35 = .ok (.lstore_n 2, 1) := by decide +kernel
theorem d9_36 : decode prog_28_method_5_code 36 = .ok (.iinc 6 1, 3) := by decide +kernel
theorem d9_39 : decode prog_28_method_5_code 39 = .ok (.goto (-26), 3) := by decide +kernel
theorem d9_42 : decode prog_28_method_5_code 42 = .ok (.aload_n 0, 1) := by decide +kernel
theorem d9_43 : decode prog_28_method_5_code 43 = .ok (.getfield 20, 3) := by decide +kernel
theorem d9_46 : decode prog_28_method_5_code 46 = .ok (.iconst 1, 1) := by decide +kernel
theorem d9_47 : decode prog_28_method_5_code 47 = .ok (.isub, 1) := by decide +kernel
theorem d9_48 : decode prog_28_method_5_code 48 = .ok (.istore 4, 2) := by decide +kernel
theorem d9_50 : decode prog_28_method_5_code 50 = .ok (.lload_n 2, 1) := by decide +kernel
theorem d9_51 : decode prog_28_method_5_code 51 = .ok (.iload 4, 2) := by decide +kernel
theorem d9_53 : decode prog_28_method_5_code 53 = .ok (.i2l, 1) := by decide +kernel
theorem d9_54 : decode prog_28_method_5_code 54 = .ok (.invokestatic 62, 3) := by decide +kernel
theorem pd_3 : parseMethodDescriptor "(J)I" = some ⟨[.long], some .int⟩ := by decide +kernel
theorem d9_57 : decode prog_28_method_5_code 57 = .ok (.lushr, 1) := by decide +kernel
theorem d9_58 : decode prog_28_method_5_code 58 = .ok (.l2i, 1) := by decide +kernel
theorem d9_59 : decode prog_28_method_5_code 59 = .ok (.istore 5, 2) := by decide +kernel
theorem d9_61 : decode prog_28_method_5_code 61 = .ok (.aload_n 0, 1) := by decide +kernel
theorem d9_62 : decode prog_28_method_5_code 62 = .ok (.getfield 34, 3) := by decide +kernel
theorem d9_65 : decode prog_28_method_5_code 65 = .ok (.iload 5, 2) := by decide +kernel
theorem d9_67 : decode prog_28_method_5_code 67 = .ok (.invokevirtual 46, 3) := by decide +kernel
theorem pd_4 : parseMethodDescriptor "(I)Z" = some ⟨[.int], some .boolean⟩ := by decide +kernel
theorem d9_70 : decode prog_28_method_5_code 70 = .ok (.ifCond .eq 25, 3) := by decide +kernel
theorem d9_95 : decode prog_28_method_5_code 95 = .ok (.iload 5, 2) := by decide +kernel
theorem d9_97 : decode prog_28_method_5_code 97 = .ok (.ireturn, 1) := by decide +kernel
def Q_rmFind0 (Z : State) (x : Nat) (pa : Nat) (bq : Nat) (wa : Nat) (ka : ClassId) (kw : ClassId) (zz : Int32) (ky : Nat) (kc : ClassId) (k0 : Int64) (k1 : Int64) (h0 : Heap) (n0 : Nat) (v : Option Value) (h : Heap) (L : List Loc) : Prop := v = some (.int (own_hash k0 k1)) ∧ Fr n0 L ∧ h = h0
set_option maxRecDepth 65536 in
set_option maxHeartbeats 40000000 in
theorem rmFind0 (l : Launch) (Z : State) (a0 : Array Value) (hw : own_H Z a0) (ws : List Jvm.Cond) (x : Nat) (pa : Nat) (bq : Nat) (wa : Nat) (ka : ClassId) (kw : ClassId) (zz : Int32) (ky : Nat) (kc : ClassId) (k0 : Int64) (k1 : Int64) (h0 : Heap) (n0 : Nat) (XO0 : Old Z n0 h0) (S_ad : Sta Z Z.heap "java/util/BitSet" "$assertionsDisabled" "Z" (.int 1)) (PQ : own_p0 Z h0 x pa bq wa ka kw zz) (V_k : Arv Z h0 ky kc .long (2 : Int32) [(.long k0), (.long k1)] (.long 0)) :
    own_M l Z ym3 prog_28_method_5_code ws 9 (some .int) (own_R 2 0 0 30) #[(.ref x), (.ref ky)] h0 (Q_rmFind0 Z x pa bq wa ka kw zz ky kc k0 k1 h0 n0) := by
  refine own_open (plainFor_of_name pn_1) ?_
  intro p e s m below meth c s₁ hx hby hlk hret hml hown hnm hZ X0 e0
  have hW := own_hW hw
  have N0 := Fr.nil n0
  refine own_of (fun tt_ kk_ => castTop (ef_rmFind0 m x ky) kk_) ?_
  show own_go p e below s _ _ _ (s₁.setTop (mkF m 0 #[.val (.ref x), .val (.ref ky), .unset, .unset, .unset, .unset, .unset, .unset, .unset] []))
  obtain ⟨E_x, F_w, F_s, F_p, F_u, F_z, E_b, F_n, F_d, V_w, V_p⟩ := id PQ
  refine own_of (fun tt_ => XS.lconst X0.here hx rfl (hb hby d9_0)) ?_
  refine own_of (fun tt_ => XS.lstoreN X0.here hx rfl (hb hby d9_1) rfl (l' := #[.val (.ref x), .val (.ref ky), .val (.long 0), .second, .unset, .unset, .unset, .unset, .unset]) rfl) ?_
  refine own_of (fun tt_ => XS.aloadN X0.here hx rfl (hb hby d9_2) rfl rfl) ?_
  refine own_of (fun tt_ => XS.astore X0.here hx rfl (hb hby d9_3) rfl rfl (l' := #[.val (.ref x), .val (.ref ky), .val (.long 0), .second, .val (.ref ky), .unset, .unset, .unset, .unset]) rfl) ?_
  refine own_of (fun tt_ => XS.aload X0.here hx rfl (hb hby d9_5) rfl rfl) ?_
  obtain ⟨cl1, Ar1, q1, S1, Ng1, H1, G1⟩ := id V_k
  refine own_of (fun tt_ kk => X0.arraylength hx (by rw [e0]; exact Ar1.1) (State.isArrayOf_alike hZ.alike Ar1.2.1) (g := (mkF m 7 #[.val (.ref x), .val (.ref ky), .val (.long 0), .second, .val (.ref ky), .unset, .unset, .unset, .unset] [(.ref ky)])) rfl rfl (hb hby d9_7) _ (by rw [len_of S1 Ng1]; exact kk)) ?_
  show own_go p e below s _ _ _ (s₁.setTop (mkF m 8 #[.val (.ref x), .val (.ref ky), .val (.long 0), .second, .val (.ref ky), .unset, .unset, .unset, .unset] [(.int 2)]))
  refine own_of (fun tt_ => XS.istore X0.here hx rfl (hb hby d9_8) rfl (l' := #[.val (.ref x), .val (.ref ky), .val (.long 0), .second, .val (.ref ky), .val (.int 2), .unset, .unset, .unset]) rfl) ?_
  refine own_of (fun tt_ => XS.iconst X0.here hx rfl (hb hby d9_10)) ?_
  refine own_of (fun tt_ => XS.istore X0.here hx rfl (hb hby d9_11) rfl (l' := #[.val (.ref x), .val (.ref ky), .val (.long 0), .second, .val (.ref ky), .val (.int 2), .val (.int 0), .unset, .unset]) rfl) ?_
  refine own_of (fun tt_ => XS.iload X0.here hx rfl (hb hby d9_13) rfl) ?_
  refine own_of (fun tt_ => XS.iload X0.here hx rfl (hb hby d9_15) rfl) ?_
  have hb17_2 : (0 : Int32) < (2 : Int32) := by decide
  refine own_of (fun tt_ => XS.icmpNo X0.here hx rfl (hb hby d9_17) rfl (tlt hb17_2).2.1) ?_
  show own_go p e below s _ _ _ (s₁.setTop (mkF m 20 #[.val (.ref x), .val (.ref ky), .val (.long 0), .second, .val (.ref ky), .val (.int 2), .val (.int 0), .unset, .unset] []))
  refine own_of (fun tt_ => XS.aload X0.here hx rfl (hb hby d9_20) rfl rfl) ?_
  refine own_of (fun tt_ => XS.iload X0.here hx rfl (hb hby d9_22) rfl) ?_
  obtain ⟨cl3, Ar3, q3, S3, Ng3, H3, G3⟩ := id V_k
  have hin3 : ¬ ((0 : Int32) < 0 ∨ cl3.slots.size ≤ ((0 : Int32)).toNatClampNeg) := inb_of S3 ⟨by decide, by decide⟩
  have hat3 : cl3.slots[((0 : Int32)).toNatClampNeg]? = some (.long k0) := H3 0 (by rw [S3]; decide)
  refine own_of (fun tt_ => X0.laload hx (j := (0 : Int32)) (v := (.long k0)) (by rw [e0]; exact Ar3.1) (State.isArrayOf_alike hZ.alike Ar3.2.1) Ar3.2.2 hin3 hat3 (g := (mkF m 24 #[.val (.ref x), .val (.ref ky), .val (.long 0), .second, .val (.ref ky), .val (.int 2), .val (.int 0), .unset, .unset] [(.int 0), (.ref ky)])) rfl rfl (hb hby d9_24) _) ?_
  show own_go p e below s _ _ _ (s₁.setTop (mkF m 25 #[.val (.ref x), .val (.ref ky), .val (.long 0), .second, .val (.ref ky), .val (.int 2), .val (.int 0), .unset, .unset] [(.long k0)]))
  refine own_of (fun tt_ => XS.lstore X0.here hx rfl (hb hby d9_25) rfl (l' := #[.val (.ref x), .val (.ref ky), .val (.long 0), .second, .val (.ref ky), .val (.int 2), .val (.int 0), .val (.long k0), .second]) rfl) ?_
  refine own_of (fun tt_ => XS.lloadN X0.here hx rfl (hb hby d9_27) rfl) ?_
  refine own_of (fun tt_ => XS.lload X0.here hx rfl (hb hby d9_28) rfl) ?_
  refine own_of (fun tt_ => XS.lxor X0.here hx rfl (hb hby d9_30) rfl) ?_
  show own_go p e below s _ _ _ (s₁.setTop (mkF m 31 #[.val (.ref x), .val (.ref ky), .val (.long 0), .second, .val (.ref ky), .val (.int 2), .val (.int 0), .val (.long k0), .second] [(.long ((0 : Int64) ^^^ k0))]))
  refine own_of (fun tt_ => X0.ldc2J hx hown (mvT hZ (hW 58 _ rfl)) rfl (hb hby d9_31)) ?_
  show own_go p e below s _ _ _ (s₁.setTop (mkF m 34 #[.val (.ref x), .val (.ref ky), .val (.long 0), .second, .val (.ref ky), .val (.int 2), .val (.int 0), .val (.long k0), .second] [(.long (-7046029254386353131 : Int64)), (.long ((0 : Int64) ^^^ k0))]))
  refine own_of (fun tt_ => XS.lmul X0.here hx rfl (hb hby d9_34) rfl) ?_
  show own_go p e below s _ _ _ (s₁.setTop (mkF m 35 #[.val (.ref x), .val (.ref ky), .val (.long 0), .second, .val (.ref ky), .val (.int 2), .val (.int 0), .val (.long k0), .second] [(.long (((0 : Int64) ^^^ k0) * (-7046029254386353131 : Int64)))]))
  refine own_of (fun tt_ => XS.lstoreN X0.here hx rfl (hb hby d9_35) rfl (l' := #[.val (.ref x), .val (.ref ky), .val (.long (((0 : Int64) ^^^ k0) * (-7046029254386353131 : Int64))), .second, .val (.ref ky), .val (.int 2), .val (.int 0), .val (.long k0), .second]) rfl) ?_
  refine own_of (fun tt_ => XS.iinc X0.here hx rfl (hb hby d9_36) rfl (l' := #[.val (.ref x), .val (.ref ky), .val (.long (((0 : Int64) ^^^ k0) * (-7046029254386353131 : Int64))), .second, .val (.ref ky), .val (.int 2), .val (.int 1), .val (.long k0), .second]) rfl) ?_
  refine own_of (fun tt_ => XS.goto X0.here hx rfl (pc0 := 39) (pc' := 13) rfl (hb hby d9_39) (by decide) (by decide)) ?_
  refine own_of (fun tt_ => XS.iload X0.here hx rfl (hb hby d9_13) rfl) ?_
  refine own_of (fun tt_ => XS.iload X0.here hx rfl (hb hby d9_15) rfl) ?_
  have hb17_4 : (1 : Int32) < (2 : Int32) := by decide
  refine own_of (fun tt_ => XS.icmpNo X0.here hx rfl (hb hby d9_17) rfl (tlt hb17_4).2.1) ?_
  show own_go p e below s _ _ _ (s₁.setTop (mkF m 20 #[.val (.ref x), .val (.ref ky), .val (.long (((0 : Int64) ^^^ k0) * (-7046029254386353131 : Int64))), .second, .val (.ref ky), .val (.int 2), .val (.int 1), .val (.long k0), .second] []))
  refine own_of (fun tt_ => XS.aload X0.here hx rfl (hb hby d9_20) rfl rfl) ?_
  refine own_of (fun tt_ => XS.iload X0.here hx rfl (hb hby d9_22) rfl) ?_
  obtain ⟨cl5, Ar5, q5, S5, Ng5, H5, G5⟩ := id V_k
  have hin5 : ¬ ((1 : Int32) < 0 ∨ cl5.slots.size ≤ ((1 : Int32)).toNatClampNeg) := inb_of S5 ⟨by decide, by decide⟩
  have hat5 : cl5.slots[((1 : Int32)).toNatClampNeg]? = some (.long k1) := H5 1 (by rw [S5]; decide)
  refine own_of (fun tt_ => X0.laload hx (j := (1 : Int32)) (v := (.long k1)) (by rw [e0]; exact Ar5.1) (State.isArrayOf_alike hZ.alike Ar5.2.1) Ar5.2.2 hin5 hat5 (g := (mkF m 24 #[.val (.ref x), .val (.ref ky), .val (.long (((0 : Int64) ^^^ k0) * (-7046029254386353131 : Int64))), .second, .val (.ref ky), .val (.int 2), .val (.int 1), .val (.long k0), .second] [(.int 1), (.ref ky)])) rfl rfl (hb hby d9_24) _) ?_
  show own_go p e below s _ _ _ (s₁.setTop (mkF m 25 #[.val (.ref x), .val (.ref ky), .val (.long (((0 : Int64) ^^^ k0) * (-7046029254386353131 : Int64))), .second, .val (.ref ky), .val (.int 2), .val (.int 1), .val (.long k0), .second] [(.long k1)]))
  refine own_of (fun tt_ => XS.lstore X0.here hx rfl (hb hby d9_25) rfl (l' := #[.val (.ref x), .val (.ref ky), .val (.long (((0 : Int64) ^^^ k0) * (-7046029254386353131 : Int64))), .second, .val (.ref ky), .val (.int 2), .val (.int 1), .val (.long k1), .second]) rfl) ?_
  refine own_of (fun tt_ => XS.lloadN X0.here hx rfl (hb hby d9_27) rfl) ?_
  refine own_of (fun tt_ => XS.lload X0.here hx rfl (hb hby d9_28) rfl) ?_
  refine own_of (fun tt_ => XS.lxor X0.here hx rfl (hb hby d9_30) rfl) ?_
  show own_go p e below s _ _ _ (s₁.setTop (mkF m 31 #[.val (.ref x), .val (.ref ky), .val (.long (((0 : Int64) ^^^ k0) * (-7046029254386353131 : Int64))), .second, .val (.ref ky), .val (.int 2), .val (.int 1), .val (.long k1), .second] [(.long ((((0 : Int64) ^^^ k0) * (-7046029254386353131 : Int64)) ^^^ k1))]))
  refine own_of (fun tt_ => X0.ldc2J hx hown (mvT hZ (hW 58 _ rfl)) rfl (hb hby d9_31)) ?_
  show own_go p e below s _ _ _ (s₁.setTop (mkF m 34 #[.val (.ref x), .val (.ref ky), .val (.long (((0 : Int64) ^^^ k0) * (-7046029254386353131 : Int64))), .second, .val (.ref ky), .val (.int 2), .val (.int 1), .val (.long k1), .second] [(.long (-7046029254386353131 : Int64)), (.long ((((0 : Int64) ^^^ k0) * (-7046029254386353131 : Int64)) ^^^ k1))]))
  refine own_of (fun tt_ => XS.lmul X0.here hx rfl (hb hby d9_34) rfl) ?_
  show own_go p e below s _ _ _ (s₁.setTop (mkF m 35 #[.val (.ref x), .val (.ref ky), .val (.long (((0 : Int64) ^^^ k0) * (-7046029254386353131 : Int64))), .second, .val (.ref ky), .val (.int 2), .val (.int 1), .val (.long k1), .second] [(.long (((((0 : Int64) ^^^ k0) * (-7046029254386353131 : Int64)) ^^^ k1) * (-7046029254386353131 : Int64)))]))
  refine own_of (fun tt_ => XS.lstoreN X0.here hx rfl (hb hby d9_35) rfl (l' := #[.val (.ref x), .val (.ref ky), .val (.long (((((0 : Int64) ^^^ k0) * (-7046029254386353131 : Int64)) ^^^ k1) * (-7046029254386353131 : Int64))), .second, .val (.ref ky), .val (.int 2), .val (.int 1), .val (.long k1), .second]) rfl) ?_
  refine own_of (fun tt_ => XS.iinc X0.here hx rfl (hb hby d9_36) rfl (l' := #[.val (.ref x), .val (.ref ky), .val (.long (((((0 : Int64) ^^^ k0) * (-7046029254386353131 : Int64)) ^^^ k1) * (-7046029254386353131 : Int64))), .second, .val (.ref ky), .val (.int 2), .val (.int 2), .val (.long k1), .second]) rfl) ?_
  refine own_of (fun tt_ => XS.goto X0.here hx rfl (pc0 := 39) (pc' := 13) rfl (hb hby d9_39) (by decide) (by decide)) ?_
  refine own_of (fun tt_ => XS.iload X0.here hx rfl (hb hby d9_13) rfl) ?_
  refine own_of (fun tt_ => XS.iload X0.here hx rfl (hb hby d9_15) rfl) ?_
  have hb17_6 : ¬ ((2 : Int32) < (2 : Int32)) := by decide
  refine own_of (fun tt_ => XS.icmpYes X0.here hx rfl (pc0 := 17) (pc' := 42) rfl (hb hby d9_17) rfl (flt hb17_6).2.1 (by decide) (by decide)) ?_
  show own_go p e below s _ _ _ (s₁.setTop (mkF m 42 #[.val (.ref x), .val (.ref ky), .val (.long (((((0 : Int64) ^^^ k0) * (-7046029254386353131 : Int64)) ^^^ k1) * (-7046029254386353131 : Int64))), .second, .val (.ref ky), .val (.int 2), .val (.int 2), .val (.long k1), .second] []))
  refine own_of (fun tt_ => XS.aloadN X0.here hx rfl (hb hby d9_42) rfl rfl) ?_
  obtain ⟨T7, X7, e7, st7⟩ := getF X0 hx hZ hown (host := "") (Or.inl (hW 11 _ rfl)) Via.refl e0 F_s (g := (mkF m 43 #[.val (.ref x), .val (.ref ky), .val (.long (((((0 : Int64) ^^^ k0) * (-7046029254386353131 : Int64)) ^^^ k1) * (-7046029254386353131 : Int64))), .second, .val (.ref ky), .val (.int 2), .val (.int 2), .val (.long k1), .second] [(.ref x)])) rfl rfl (hb hby d9_43)
  refine own_of st7 ?_
  show own_go p e below s _ _ _ (T7.setTop (mkF m 46 #[.val (.ref x), .val (.ref ky), .val (.long (((((0 : Int64) ^^^ k0) * (-7046029254386353131 : Int64)) ^^^ k1) * (-7046029254386353131 : Int64))), .second, .val (.ref ky), .val (.int 2), .val (.int 2), .val (.long k1), .second] [(.int 16)]))
  refine own_of (fun tt_ => XS.iconst X7.here hx rfl (hb hby d9_46)) ?_
  refine own_of (fun tt_ => XS.isub X7.here hx rfl (hb hby d9_47) rfl) ?_
  show own_go p e below s _ _ _ (T7.setTop (mkF m 48 #[.val (.ref x), .val (.ref ky), .val (.long (((((0 : Int64) ^^^ k0) * (-7046029254386353131 : Int64)) ^^^ k1) * (-7046029254386353131 : Int64))), .second, .val (.ref ky), .val (.int 2), .val (.int 2), .val (.long k1), .second] [(.int 15)]))
  refine own_of (fun tt_ => XS.istore X7.here hx rfl (hb hby d9_48) rfl (l' := #[.val (.ref x), .val (.ref ky), .val (.long (((((0 : Int64) ^^^ k0) * (-7046029254386353131 : Int64)) ^^^ k1) * (-7046029254386353131 : Int64))), .second, .val (.int 15), .val (.int 2), .val (.int 2), .val (.long k1), .second]) rfl) ?_
  refine own_of (fun tt_ => XS.lloadN X7.here hx rfl (hb hby d9_50) rfl) ?_
  refine own_of (fun tt_ => XS.iload X7.here hx rfl (hb hby d9_51) rfl) ?_
  refine own_of (fun tt_ => XS.i2l X7.here hx rfl (hb hby d9_53) rfl) ?_
  show own_go p e below s _ _ _ (T7.setTop (mkF m 54 #[.val (.ref x), .val (.ref ky), .val (.long (((((0 : Int64) ^^^ k0) * (-7046029254386353131 : Int64)) ^^^ k1) * (-7046029254386353131 : Int64))), .second, .val (.int 15), .val (.int 2), .val (.int 2), .val (.long k1), .second] [(.long 15), (.long (((((0 : Int64) ^^^ k0) * (-7046029254386353131 : Int64)) ^^^ k1) * (-7046029254386353131 : Int64)))]))
  obtain ⟨_, _, ⟨T8, L8, k8, n8⟩, -, X8, ⟨Lc8, hQ8, l8, y8, z8⟩, st8⟩ := Jvm.LawKit.callS X7 hx (y := ym12) hown (mvT hZ (hW 59 _ rfl)) (mvT hZ (hW 60 _ rfl)) (mvT hZ (hW 61 _ rfl)) (mvT hZ (hW 62 _ rfl)) (by decide) (backOf (W := 2) (rmNL l Z a0 hw [] h0 n0 XO0) hZ (hW 62 _ rfl) (hW 61 _ rfl) (by decide) (by decide)) (g := (mkF m 54 #[.val (.ref x), .val (.ref ky), .val (.long (((((0 : Int64) ^^^ k0) * (-7046029254386353131 : Int64)) ^^^ k1) * (-7046029254386353131 : Int64))), .second, .val (.int 15), .val (.int 2), .val (.int 2), .val (.long k1), .second] [(.long 15), (.long (((((0 : Int64) ^^^ k0) * (-7046029254386353131 : Int64)) ^^^ k1) * (-7046029254386353131 : Int64)))])) rfl (by rw [hml]; rfl) (argsL := [(.long 15)]) (rest := [(.long (((((0 : Int64) ^^^ k0) * (-7046029254386353131 : Int64)) ^^^ k1) * (-7046029254386353131 : Int64)))]) (lenOf pd_3 rfl) rfl (by show 2 * 0 + _ ≤ _; exact Nat.le_of_eq rfl) (hb hby d9_54) (fun _ _ => ⟨rfl, e7, (by decide : 0 + 0 ≤ _), (by decide : 0 + 0 ≤ _)⟩)
  dsimp only [Pt.U, Pt.locs, Pt.cells, Pt.slots] at X8 l8 y8 z8 st8 hQ8
  subst l8 y8 z8
  obtain ⟨rfl, Nq8, eh8⟩ := hQ8
  have N8 := Fr.app N0 Nq8
  refine own_of st8 ?_
  show own_go p e below s _ _ _ (T8.setTop (mkF m 57 #[.val (.ref x), .val (.ref ky), .val (.long (((((0 : Int64) ^^^ k0) * (-7046029254386353131 : Int64)) ^^^ k1) * (-7046029254386353131 : Int64))), .second, .val (.int 15), .val (.int 2), .val (.int 2), .val (.long k1), .second] [(.int 60), (.long (((((0 : Int64) ^^^ k0) * (-7046029254386353131 : Int64)) ^^^ k1) * (-7046029254386353131 : Int64)))]))
  refine own_of (fun tt_ => XS.lushr X8.here hx rfl (hb hby d9_57) rfl) ?_
  show own_go p e below s _ _ _ (T8.setTop (mkF m 58 #[.val (.ref x), .val (.ref ky), .val (.long (((((0 : Int64) ^^^ k0) * (-7046029254386353131 : Int64)) ^^^ k1) * (-7046029254386353131 : Int64))), .second, .val (.int 15), .val (.int 2), .val (.int 2), .val (.long k1), .second] [(.long (((((((0 : Int64) ^^^ k0) * (-7046029254386353131 : Int64)) ^^^ k1) * (-7046029254386353131 : Int64)).toUInt64 >>> ((60 : Int32) &&& 0x3f).toInt64.toUInt64).toInt64))]))
  refine own_of (fun tt_ => XS.l2i X8.here hx rfl (hb hby d9_58) rfl) ?_
  show own_go p e below s _ _ _ (T8.setTop (mkF m 59 #[.val (.ref x), .val (.ref ky), .val (.long (((((0 : Int64) ^^^ k0) * (-7046029254386353131 : Int64)) ^^^ k1) * (-7046029254386353131 : Int64))), .second, .val (.int 15), .val (.int 2), .val (.int 2), .val (.long k1), .second] [(.int ((((((((0 : Int64) ^^^ k0) * (-7046029254386353131 : Int64)) ^^^ k1) * (-7046029254386353131 : Int64)).toUInt64 >>> ((60 : Int32) &&& 0x3f).toInt64.toUInt64).toInt64).toInt32))]))
  have si0 := own_hash_s k0 k1
  show own_go p e below s _ _ _ (T8.setTop (mkF m 59 #[.val (.ref x), .val (.ref ky), .val (.long (((((0 : Int64) ^^^ k0) * (-7046029254386353131 : Int64)) ^^^ k1) * (-7046029254386353131 : Int64))), .second, .val (.int 15), .val (.int 2), .val (.int 2), .val (.long k1), .second] [(.int (own_hash k0 k1))]))
  refine own_of (fun tt_ => XS.istore X8.here hx rfl (hb hby d9_59) rfl (l' := #[.val (.ref x), .val (.ref ky), .val (.long (((((0 : Int64) ^^^ k0) * (-7046029254386353131 : Int64)) ^^^ k1) * (-7046029254386353131 : Int64))), .second, .val (.int 15), .val (.int (own_hash k0 k1)), .val (.int 2), .val (.long k1), .second]) rfl) ?_
  show own_go p e below s _ _ _ (T8.setTop (mkF m 61 #[.val (.ref x), .val (.ref ky), .val (.long (((((0 : Int64) ^^^ k0) * (-7046029254386353131 : Int64)) ^^^ k1) * (-7046029254386353131 : Int64))), .second, .val (.int 15), .val (.int (own_hash k0 k1)), .val (.int 2), .val (.long k1), .second] []))
  refine own_of (fun tt_ => XS.aloadN X8.here hx rfl (hb hby d9_61) rfl rfl) ?_
  obtain ⟨T9, X9, e9, st9⟩ := getF X8 hx hZ hown (host := "") (Or.inl (hW 39 _ rfl)) Via.refl eh8 F_u (g := (mkF m 62 #[.val (.ref x), .val (.ref ky), .val (.long (((((0 : Int64) ^^^ k0) * (-7046029254386353131 : Int64)) ^^^ k1) * (-7046029254386353131 : Int64))), .second, .val (.int 15), .val (.int (own_hash k0 k1)), .val (.int 2), .val (.long k1), .second] [(.ref x)])) rfl rfl (hb hby d9_62)
  refine own_of st9 ?_
  show own_go p e below s _ _ _ (T9.setTop (mkF m 65 #[.val (.ref x), .val (.ref ky), .val (.long (((((0 : Int64) ^^^ k0) * (-7046029254386353131 : Int64)) ^^^ k1) * (-7046029254386353131 : Int64))), .second, .val (.int 15), .val (.int (own_hash k0 k1)), .val (.int 2), .val (.long k1), .second] [(.ref bq)]))
  refine own_of (fun tt_ => XS.iload X9.here hx rfl (hb hby d9_65) rfl) ?_
  show own_go p e below s _ _ _ (T9.setTop (mkF m 67 #[.val (.ref x), .val (.ref ky), .val (.long (((((0 : Int64) ^^^ k0) * (-7046029254386353131 : Int64)) ^^^ k1) * (-7046029254386353131 : Int64))), .second, .val (.int 15), .val (.int (own_hash k0 k1)), .val (.int 2), .val (.long k1), .second] [(.int (own_hash k0 k1)), (.ref bq)]))
  obtain ⟨cq10, kq10, q10a, q10b, q10c⟩ := isOf hZ e9 E_b
  obtain ⟨_, _, ⟨T10, L10, k10, n10⟩, -, X10, ⟨Lc10, hQ10, l10, y10, z10⟩, st10⟩ := X9.virtualBack hx (y := ym2) (z := ym2) hown (mvT hZ (hW 68 _ rfl)) (mvT hZ (hW 69 _ rfl)) (notFace_of_selects (args := #[]) (mvT hZ (hW 71 _ rfl))) (mvT hZ (hW 71 _ rfl)) (mvT hZ (hW 70 _ rfl)) (by decide) (backOf (W := 0) (rmGet0 l Z a0 hw [] bq wa kw (own_hash k0 k1) h0 n0 XO0 S_ad E_b F_n F_d V_w si0) hZ (hW 72 _ rfl) (hW 19 _ rfl) (by decide) (by decide)) q10a q10c (g := (mkF m 67 #[.val (.ref x), .val (.ref ky), .val (.long (((((0 : Int64) ^^^ k0) * (-7046029254386353131 : Int64)) ^^^ k1) * (-7046029254386353131 : Int64))), .second, .val (.int 15), .val (.int (own_hash k0 k1)), .val (.int 2), .val (.long k1), .second] [(.int (own_hash k0 k1)), (.ref bq)])) rfl (by rw [hml]; rfl) (Steps.refl _) (argsL := [(.int (own_hash k0 k1))]) (rest := []) (lenOf pd_4 rfl) rfl (by show 2 * 0 + _ ≤ _; exact Nat.le_of_eq rfl) (hb hby d9_67) (fun _ _ => ⟨rfl, e9, (by decide : 0 + 0 ≤ _), (by decide : 0 + 0 ≤ _)⟩)
  dsimp only [Pt.U, Pt.locs, Pt.cells, Pt.slots] at X10 l10 y10 z10 st10 hQ10
  subst l10 y10 z10
  obtain ⟨rfl, Nq10, eh10⟩ := hQ10
  have N10 := Fr.app N8 Nq10
  refine own_of (fun tt_ kk_ => st10.trans kk_) ?_
  show own_go p e below s _ _ _ (T10.setTop (mkF m 70 #[.val (.ref x), .val (.ref ky), .val (.long (((((0 : Int64) ^^^ k0) * (-7046029254386353131 : Int64)) ^^^ k1) * (-7046029254386353131 : Int64))), .second, .val (.int 15), .val (.int (own_hash k0 k1)), .val (.int 2), .val (.long k1), .second] [(.int 0)]))
  have hb70_11 : (0 : Int32) = (0 : Int32) := by decide
  refine own_of (fun tt_ => XS.ifYes X10.here hx rfl (pc0 := 70) (pc' := 95) rfl (hb hby d9_70) rfl ((if0 _ _).trans (teq hb70_11).1) (by decide) (by decide)) ?_
  show own_go p e below s _ _ _ (T10.setTop (mkF m 95 #[.val (.ref x), .val (.ref ky), .val (.long (((((0 : Int64) ^^^ k0) * (-7046029254386353131 : Int64)) ^^^ k1) * (-7046029254386353131 : Int64))), .second, .val (.int 15), .val (.int (own_hash k0 k1)), .val (.int 2), .val (.long k1), .second] []))
  refine own_of (fun tt_ => XS.iload X10.here hx rfl (hb hby d9_95) rfl) ?_
  show own_go p e below s _ _ _ (T10.setTop (mkF m 97 #[.val (.ref x), .val (.ref ky), .val (.long (((((0 : Int64) ^^^ k0) * (-7046029254386353131 : Int64)) ^^^ k1) * (-7046029254386353131 : Int64))), .second, .val (.int 15), .val (.int (own_hash k0 k1)), .val (.int 2), .val (.long k1), .second] [(.int (own_hash k0 k1))]))
  refine own_ret X10 hx hlk hret rfl (Or.inl ⟨rfl, by simp, _, rfl⟩) (hb hby d9_97) (by decide) (by decide) ?_
  rw [eh10]
  exact ⟨rfl, N10, rfl⟩
theorem ef_rmFind1 (m : MethodId) (x0 : Nat) (x1 : Nat) : entryFrame m #[(.ref x0), (.ref x1)] 9 = mkF m 0 #[.val (.ref x0), .val (.ref x1), .unset, .unset, .unset, .unset, .unset, .unset, .unset] [] := by first | (simp [entryFrame, mkF, argsToLocals, Value.category]; done) | rfl
theorem d9_73 : decode prog_28_method_5_code 73 = .ok (.aload_n 0, 1) := by decide +kernel
theorem d9_74 : decode prog_28_method_5_code 74 = .ok (.iload 5, 2) := by decide +kernel
theorem d9_76 : decode prog_28_method_5_code 76 = .ok (.aload_n 1, 1) := by decide +kernel
theorem d9_77 : decode prog_28_method_5_code 77 = .ok (.invokevirtual 68, 3) := by decide +kernel
theorem pd_5 : parseMethodDescriptor "(I[J)Z" = some ⟨[.int, (.array .long)], some .boolean⟩ := by decide +kernel
theorem d9_80 : decode prog_28_method_5_code 80 = .ok (.ifCond .ne 15, 3) := by decide +kernel
theorem d9_83 : decode prog_28_method_5_code 83 = .ok (.iload 5, 2) := by decide +kernel
theorem d9_85 : decode prog_28_method_5_code 85 = .ok (.iconst 1, 1) := by decide +kernel
theorem d9_86 : decode prog_28_method_5_code 86 = .ok (.iadd, 1) := by decide +kernel
theorem d9_87 : decode prog_28_method_5_code 87 = .ok (.iload 4, 2) := by decide +kernel
theorem d9_89 : decode prog_28_method_5_code 89 = .ok (.iand, 1) := by decide +kernel
theorem d9_90 : decode prog_28_method_5_code 90 = .ok (.istore 5, 2) := by decide +kernel
theorem d9_92 : decode prog_28_method_5_code 92 = .ok (.goto (-31), 3) := by decide +kernel
def Q_rmFind1 (Z : State) (x : Nat) (pa : Nat) (bq : Nat) (wa : Nat) (pg : Nat) (ka : ClassId) (kw : ClassId) (kp : ClassId) (W : Int64) (K0 : Int32 → Int64) (K1 : Int32 → Int64) (zz : Int32) (ky : Nat) (kc : ClassId) (k0 : Int64) (k1 : Int64) (h0 : Heap) (n0 : Nat) (v : Option Value) (h : Heap) (L : List Loc) : Prop := ∃ r : Int32, v = some (.int r) ∧ Fr n0 L ∧ h = h0 ∧ own_s r ∧ own_fnd W K0 K1 k0 k1 3 (own_hash k0 k1) r
set_option maxRecDepth 65536 in
set_option maxHeartbeats 40000000 in
theorem rmFind1 (l : Launch) (Z : State) (a0 : Array Value) (hw : own_H Z a0) (ws : List Jvm.Cond) (x : Nat) (pa : Nat) (bq : Nat) (wa : Nat) (pg : Nat) (ka : ClassId) (kw : ClassId) (kp : ClassId) (W : Int64) (K0 : Int32 → Int64) (K1 : Int32 → Int64) (zz : Int32) (ky : Nat) (kc : ClassId) (k0 : Int64) (k1 : Int64) (h0 : Heap) (n0 : Nat) (XO0 : Old Z n0 h0) (S_ad : Sta Z Z.heap "java/util/BitSet" "$assertionsDisabled" "Z" (.int 1)) (PQ : own_p1 Z h0 x pa bq wa pg ka kw kp W K0 K1 zz) (V_k : Arv Z h0 ky kc .long (2 : Int32) [(.long k0), (.long k1)] (.long 0)) (hfr : own_free W (own_hash k0 k1)) :
    own_M l Z ym3 prog_28_method_5_code ws 9 (some .int) (own_R 2 0 0 30) #[(.ref x), (.ref ky)] h0 (Q_rmFind1 Z x pa bq wa pg ka kw kp W K0 K1 zz ky kc k0 k1 h0 n0) := by
  refine own_open (plainFor_of_name pn_1) ?_
  intro p e s m below meth c s₁ hx hby hlk hret hml hown hnm hZ X0 e0
  have hW := own_hW hw
  have N0 := Fr.nil n0
  refine own_of (fun tt_ kk_ => castTop (ef_rmFind1 m x ky) kk_) ?_
  show own_go p e below s _ _ _ (s₁.setTop (mkF m 0 #[.val (.ref x), .val (.ref ky), .unset, .unset, .unset, .unset, .unset, .unset, .unset] []))
  obtain ⟨E_x, F_w, F_s, F_p, F_u, F_z, E_b, F_n, F_d, V_w, V_p, V_g⟩ := id PQ
  refine own_of (fun tt_ => XS.lconst X0.here hx rfl (hb hby d9_0)) ?_
  refine own_of (fun tt_ => XS.lstoreN X0.here hx rfl (hb hby d9_1) rfl (l' := #[.val (.ref x), .val (.ref ky), .val (.long 0), .second, .unset, .unset, .unset, .unset, .unset]) rfl) ?_
  refine own_of (fun tt_ => XS.aloadN X0.here hx rfl (hb hby d9_2) rfl rfl) ?_
  refine own_of (fun tt_ => XS.astore X0.here hx rfl (hb hby d9_3) rfl rfl (l' := #[.val (.ref x), .val (.ref ky), .val (.long 0), .second, .val (.ref ky), .unset, .unset, .unset, .unset]) rfl) ?_
  refine own_of (fun tt_ => XS.aload X0.here hx rfl (hb hby d9_5) rfl rfl) ?_
  obtain ⟨cl1, Ar1, q1, S1, Ng1, H1, G1⟩ := id V_k
  refine own_of (fun tt_ kk => X0.arraylength hx (by rw [e0]; exact Ar1.1) (State.isArrayOf_alike hZ.alike Ar1.2.1) (g := (mkF m 7 #[.val (.ref x), .val (.ref ky), .val (.long 0), .second, .val (.ref ky), .unset, .unset, .unset, .unset] [(.ref ky)])) rfl rfl (hb hby d9_7) _ (by rw [len_of S1 Ng1]; exact kk)) ?_
  show own_go p e below s _ _ _ (s₁.setTop (mkF m 8 #[.val (.ref x), .val (.ref ky), .val (.long 0), .second, .val (.ref ky), .unset, .unset, .unset, .unset] [(.int 2)]))
  refine own_of (fun tt_ => XS.istore X0.here hx rfl (hb hby d9_8) rfl (l' := #[.val (.ref x), .val (.ref ky), .val (.long 0), .second, .val (.ref ky), .val (.int 2), .unset, .unset, .unset]) rfl) ?_
  refine own_of (fun tt_ => XS.iconst X0.here hx rfl (hb hby d9_10)) ?_
  refine own_of (fun tt_ => XS.istore X0.here hx rfl (hb hby d9_11) rfl (l' := #[.val (.ref x), .val (.ref ky), .val (.long 0), .second, .val (.ref ky), .val (.int 2), .val (.int 0), .unset, .unset]) rfl) ?_
  refine own_of (fun tt_ => XS.iload X0.here hx rfl (hb hby d9_13) rfl) ?_
  refine own_of (fun tt_ => XS.iload X0.here hx rfl (hb hby d9_15) rfl) ?_
  have hb17_2 : (0 : Int32) < (2 : Int32) := by decide
  refine own_of (fun tt_ => XS.icmpNo X0.here hx rfl (hb hby d9_17) rfl (tlt hb17_2).2.1) ?_
  show own_go p e below s _ _ _ (s₁.setTop (mkF m 20 #[.val (.ref x), .val (.ref ky), .val (.long 0), .second, .val (.ref ky), .val (.int 2), .val (.int 0), .unset, .unset] []))
  refine own_of (fun tt_ => XS.aload X0.here hx rfl (hb hby d9_20) rfl rfl) ?_
  refine own_of (fun tt_ => XS.iload X0.here hx rfl (hb hby d9_22) rfl) ?_
  obtain ⟨cl3, Ar3, q3, S3, Ng3, H3, G3⟩ := id V_k
  have hin3 : ¬ ((0 : Int32) < 0 ∨ cl3.slots.size ≤ ((0 : Int32)).toNatClampNeg) := inb_of S3 ⟨by decide, by decide⟩
  have hat3 : cl3.slots[((0 : Int32)).toNatClampNeg]? = some (.long k0) := H3 0 (by rw [S3]; decide)
  refine own_of (fun tt_ => X0.laload hx (j := (0 : Int32)) (v := (.long k0)) (by rw [e0]; exact Ar3.1) (State.isArrayOf_alike hZ.alike Ar3.2.1) Ar3.2.2 hin3 hat3 (g := (mkF m 24 #[.val (.ref x), .val (.ref ky), .val (.long 0), .second, .val (.ref ky), .val (.int 2), .val (.int 0), .unset, .unset] [(.int 0), (.ref ky)])) rfl rfl (hb hby d9_24) _) ?_
  show own_go p e below s _ _ _ (s₁.setTop (mkF m 25 #[.val (.ref x), .val (.ref ky), .val (.long 0), .second, .val (.ref ky), .val (.int 2), .val (.int 0), .unset, .unset] [(.long k0)]))
  refine own_of (fun tt_ => XS.lstore X0.here hx rfl (hb hby d9_25) rfl (l' := #[.val (.ref x), .val (.ref ky), .val (.long 0), .second, .val (.ref ky), .val (.int 2), .val (.int 0), .val (.long k0), .second]) rfl) ?_
  refine own_of (fun tt_ => XS.lloadN X0.here hx rfl (hb hby d9_27) rfl) ?_
  refine own_of (fun tt_ => XS.lload X0.here hx rfl (hb hby d9_28) rfl) ?_
  refine own_of (fun tt_ => XS.lxor X0.here hx rfl (hb hby d9_30) rfl) ?_
  show own_go p e below s _ _ _ (s₁.setTop (mkF m 31 #[.val (.ref x), .val (.ref ky), .val (.long 0), .second, .val (.ref ky), .val (.int 2), .val (.int 0), .val (.long k0), .second] [(.long ((0 : Int64) ^^^ k0))]))
  refine own_of (fun tt_ => X0.ldc2J hx hown (mvT hZ (hW 58 _ rfl)) rfl (hb hby d9_31)) ?_
  show own_go p e below s _ _ _ (s₁.setTop (mkF m 34 #[.val (.ref x), .val (.ref ky), .val (.long 0), .second, .val (.ref ky), .val (.int 2), .val (.int 0), .val (.long k0), .second] [(.long (-7046029254386353131 : Int64)), (.long ((0 : Int64) ^^^ k0))]))
  refine own_of (fun tt_ => XS.lmul X0.here hx rfl (hb hby d9_34) rfl) ?_
  show own_go p e below s _ _ _ (s₁.setTop (mkF m 35 #[.val (.ref x), .val (.ref ky), .val (.long 0), .second, .val (.ref ky), .val (.int 2), .val (.int 0), .val (.long k0), .second] [(.long (((0 : Int64) ^^^ k0) * (-7046029254386353131 : Int64)))]))
  refine own_of (fun tt_ => XS.lstoreN X0.here hx rfl (hb hby d9_35) rfl (l' := #[.val (.ref x), .val (.ref ky), .val (.long (((0 : Int64) ^^^ k0) * (-7046029254386353131 : Int64))), .second, .val (.ref ky), .val (.int 2), .val (.int 0), .val (.long k0), .second]) rfl) ?_
  refine own_of (fun tt_ => XS.iinc X0.here hx rfl (hb hby d9_36) rfl (l' := #[.val (.ref x), .val (.ref ky), .val (.long (((0 : Int64) ^^^ k0) * (-7046029254386353131 : Int64))), .second, .val (.ref ky), .val (.int 2), .val (.int 1), .val (.long k0), .second]) rfl) ?_
  refine own_of (fun tt_ => XS.goto X0.here hx rfl (pc0 := 39) (pc' := 13) rfl (hb hby d9_39) (by decide) (by decide)) ?_
  refine own_of (fun tt_ => XS.iload X0.here hx rfl (hb hby d9_13) rfl) ?_
  refine own_of (fun tt_ => XS.iload X0.here hx rfl (hb hby d9_15) rfl) ?_
  have hb17_4 : (1 : Int32) < (2 : Int32) := by decide
  refine own_of (fun tt_ => XS.icmpNo X0.here hx rfl (hb hby d9_17) rfl (tlt hb17_4).2.1) ?_
  show own_go p e below s _ _ _ (s₁.setTop (mkF m 20 #[.val (.ref x), .val (.ref ky), .val (.long (((0 : Int64) ^^^ k0) * (-7046029254386353131 : Int64))), .second, .val (.ref ky), .val (.int 2), .val (.int 1), .val (.long k0), .second] []))
  refine own_of (fun tt_ => XS.aload X0.here hx rfl (hb hby d9_20) rfl rfl) ?_
  refine own_of (fun tt_ => XS.iload X0.here hx rfl (hb hby d9_22) rfl) ?_
  obtain ⟨cl5, Ar5, q5, S5, Ng5, H5, G5⟩ := id V_k
  have hin5 : ¬ ((1 : Int32) < 0 ∨ cl5.slots.size ≤ ((1 : Int32)).toNatClampNeg) := inb_of S5 ⟨by decide, by decide⟩
  have hat5 : cl5.slots[((1 : Int32)).toNatClampNeg]? = some (.long k1) := H5 1 (by rw [S5]; decide)
  refine own_of (fun tt_ => X0.laload hx (j := (1 : Int32)) (v := (.long k1)) (by rw [e0]; exact Ar5.1) (State.isArrayOf_alike hZ.alike Ar5.2.1) Ar5.2.2 hin5 hat5 (g := (mkF m 24 #[.val (.ref x), .val (.ref ky), .val (.long (((0 : Int64) ^^^ k0) * (-7046029254386353131 : Int64))), .second, .val (.ref ky), .val (.int 2), .val (.int 1), .val (.long k0), .second] [(.int 1), (.ref ky)])) rfl rfl (hb hby d9_24) _) ?_
  show own_go p e below s _ _ _ (s₁.setTop (mkF m 25 #[.val (.ref x), .val (.ref ky), .val (.long (((0 : Int64) ^^^ k0) * (-7046029254386353131 : Int64))), .second, .val (.ref ky), .val (.int 2), .val (.int 1), .val (.long k0), .second] [(.long k1)]))
  refine own_of (fun tt_ => XS.lstore X0.here hx rfl (hb hby d9_25) rfl (l' := #[.val (.ref x), .val (.ref ky), .val (.long (((0 : Int64) ^^^ k0) * (-7046029254386353131 : Int64))), .second, .val (.ref ky), .val (.int 2), .val (.int 1), .val (.long k1), .second]) rfl) ?_
  refine own_of (fun tt_ => XS.lloadN X0.here hx rfl (hb hby d9_27) rfl) ?_
  refine own_of (fun tt_ => XS.lload X0.here hx rfl (hb hby d9_28) rfl) ?_
  refine own_of (fun tt_ => XS.lxor X0.here hx rfl (hb hby d9_30) rfl) ?_
  show own_go p e below s _ _ _ (s₁.setTop (mkF m 31 #[.val (.ref x), .val (.ref ky), .val (.long (((0 : Int64) ^^^ k0) * (-7046029254386353131 : Int64))), .second, .val (.ref ky), .val (.int 2), .val (.int 1), .val (.long k1), .second] [(.long ((((0 : Int64) ^^^ k0) * (-7046029254386353131 : Int64)) ^^^ k1))]))
  refine own_of (fun tt_ => X0.ldc2J hx hown (mvT hZ (hW 58 _ rfl)) rfl (hb hby d9_31)) ?_
  show own_go p e below s _ _ _ (s₁.setTop (mkF m 34 #[.val (.ref x), .val (.ref ky), .val (.long (((0 : Int64) ^^^ k0) * (-7046029254386353131 : Int64))), .second, .val (.ref ky), .val (.int 2), .val (.int 1), .val (.long k1), .second] [(.long (-7046029254386353131 : Int64)), (.long ((((0 : Int64) ^^^ k0) * (-7046029254386353131 : Int64)) ^^^ k1))]))
  refine own_of (fun tt_ => XS.lmul X0.here hx rfl (hb hby d9_34) rfl) ?_
  show own_go p e below s _ _ _ (s₁.setTop (mkF m 35 #[.val (.ref x), .val (.ref ky), .val (.long (((0 : Int64) ^^^ k0) * (-7046029254386353131 : Int64))), .second, .val (.ref ky), .val (.int 2), .val (.int 1), .val (.long k1), .second] [(.long (((((0 : Int64) ^^^ k0) * (-7046029254386353131 : Int64)) ^^^ k1) * (-7046029254386353131 : Int64)))]))
  refine own_of (fun tt_ => XS.lstoreN X0.here hx rfl (hb hby d9_35) rfl (l' := #[.val (.ref x), .val (.ref ky), .val (.long (((((0 : Int64) ^^^ k0) * (-7046029254386353131 : Int64)) ^^^ k1) * (-7046029254386353131 : Int64))), .second, .val (.ref ky), .val (.int 2), .val (.int 1), .val (.long k1), .second]) rfl) ?_
  refine own_of (fun tt_ => XS.iinc X0.here hx rfl (hb hby d9_36) rfl (l' := #[.val (.ref x), .val (.ref ky), .val (.long (((((0 : Int64) ^^^ k0) * (-7046029254386353131 : Int64)) ^^^ k1) * (-7046029254386353131 : Int64))), .second, .val (.ref ky), .val (.int 2), .val (.int 2), .val (.long k1), .second]) rfl) ?_
  refine own_of (fun tt_ => XS.goto X0.here hx rfl (pc0 := 39) (pc' := 13) rfl (hb hby d9_39) (by decide) (by decide)) ?_
  refine own_of (fun tt_ => XS.iload X0.here hx rfl (hb hby d9_13) rfl) ?_
  refine own_of (fun tt_ => XS.iload X0.here hx rfl (hb hby d9_15) rfl) ?_
  have hb17_6 : ¬ ((2 : Int32) < (2 : Int32)) := by decide
  refine own_of (fun tt_ => XS.icmpYes X0.here hx rfl (pc0 := 17) (pc' := 42) rfl (hb hby d9_17) rfl (flt hb17_6).2.1 (by decide) (by decide)) ?_
  show own_go p e below s _ _ _ (s₁.setTop (mkF m 42 #[.val (.ref x), .val (.ref ky), .val (.long (((((0 : Int64) ^^^ k0) * (-7046029254386353131 : Int64)) ^^^ k1) * (-7046029254386353131 : Int64))), .second, .val (.ref ky), .val (.int 2), .val (.int 2), .val (.long k1), .second] []))
  refine own_of (fun tt_ => XS.aloadN X0.here hx rfl (hb hby d9_42) rfl rfl) ?_
  obtain ⟨T7, X7, e7, st7⟩ := getF X0 hx hZ hown (host := "") (Or.inl (hW 11 _ rfl)) Via.refl e0 F_s (g := (mkF m 43 #[.val (.ref x), .val (.ref ky), .val (.long (((((0 : Int64) ^^^ k0) * (-7046029254386353131 : Int64)) ^^^ k1) * (-7046029254386353131 : Int64))), .second, .val (.ref ky), .val (.int 2), .val (.int 2), .val (.long k1), .second] [(.ref x)])) rfl rfl (hb hby d9_43)
  refine own_of st7 ?_
  show own_go p e below s _ _ _ (T7.setTop (mkF m 46 #[.val (.ref x), .val (.ref ky), .val (.long (((((0 : Int64) ^^^ k0) * (-7046029254386353131 : Int64)) ^^^ k1) * (-7046029254386353131 : Int64))), .second, .val (.ref ky), .val (.int 2), .val (.int 2), .val (.long k1), .second] [(.int 16)]))
  refine own_of (fun tt_ => XS.iconst X7.here hx rfl (hb hby d9_46)) ?_
  refine own_of (fun tt_ => XS.isub X7.here hx rfl (hb hby d9_47) rfl) ?_
  show own_go p e below s _ _ _ (T7.setTop (mkF m 48 #[.val (.ref x), .val (.ref ky), .val (.long (((((0 : Int64) ^^^ k0) * (-7046029254386353131 : Int64)) ^^^ k1) * (-7046029254386353131 : Int64))), .second, .val (.ref ky), .val (.int 2), .val (.int 2), .val (.long k1), .second] [(.int 15)]))
  refine own_of (fun tt_ => XS.istore X7.here hx rfl (hb hby d9_48) rfl (l' := #[.val (.ref x), .val (.ref ky), .val (.long (((((0 : Int64) ^^^ k0) * (-7046029254386353131 : Int64)) ^^^ k1) * (-7046029254386353131 : Int64))), .second, .val (.int 15), .val (.int 2), .val (.int 2), .val (.long k1), .second]) rfl) ?_
  refine own_of (fun tt_ => XS.lloadN X7.here hx rfl (hb hby d9_50) rfl) ?_
  refine own_of (fun tt_ => XS.iload X7.here hx rfl (hb hby d9_51) rfl) ?_
  refine own_of (fun tt_ => XS.i2l X7.here hx rfl (hb hby d9_53) rfl) ?_
  show own_go p e below s _ _ _ (T7.setTop (mkF m 54 #[.val (.ref x), .val (.ref ky), .val (.long (((((0 : Int64) ^^^ k0) * (-7046029254386353131 : Int64)) ^^^ k1) * (-7046029254386353131 : Int64))), .second, .val (.int 15), .val (.int 2), .val (.int 2), .val (.long k1), .second] [(.long 15), (.long (((((0 : Int64) ^^^ k0) * (-7046029254386353131 : Int64)) ^^^ k1) * (-7046029254386353131 : Int64)))]))
  obtain ⟨_, _, ⟨T8, L8, k8, n8⟩, -, X8, ⟨Lc8, hQ8, l8, y8, z8⟩, st8⟩ := Jvm.LawKit.callS X7 hx (y := ym12) hown (mvT hZ (hW 59 _ rfl)) (mvT hZ (hW 60 _ rfl)) (mvT hZ (hW 61 _ rfl)) (mvT hZ (hW 62 _ rfl)) (by decide) (backOf (W := 2) (rmNL l Z a0 hw [] h0 n0 XO0) hZ (hW 62 _ rfl) (hW 61 _ rfl) (by decide) (by decide)) (g := (mkF m 54 #[.val (.ref x), .val (.ref ky), .val (.long (((((0 : Int64) ^^^ k0) * (-7046029254386353131 : Int64)) ^^^ k1) * (-7046029254386353131 : Int64))), .second, .val (.int 15), .val (.int 2), .val (.int 2), .val (.long k1), .second] [(.long 15), (.long (((((0 : Int64) ^^^ k0) * (-7046029254386353131 : Int64)) ^^^ k1) * (-7046029254386353131 : Int64)))])) rfl (by rw [hml]; rfl) (argsL := [(.long 15)]) (rest := [(.long (((((0 : Int64) ^^^ k0) * (-7046029254386353131 : Int64)) ^^^ k1) * (-7046029254386353131 : Int64)))]) (lenOf pd_3 rfl) rfl (by show 2 * 0 + _ ≤ _; exact Nat.le_of_eq rfl) (hb hby d9_54) (fun _ _ => ⟨rfl, e7, (by decide : 0 + 0 ≤ _), (by decide : 0 + 0 ≤ _)⟩)
  dsimp only [Pt.U, Pt.locs, Pt.cells, Pt.slots] at X8 l8 y8 z8 st8 hQ8
  subst l8 y8 z8
  obtain ⟨rfl, Nq8, eh8⟩ := hQ8
  have N8 := Fr.app N0 Nq8
  refine own_of st8 ?_
  show own_go p e below s _ _ _ (T8.setTop (mkF m 57 #[.val (.ref x), .val (.ref ky), .val (.long (((((0 : Int64) ^^^ k0) * (-7046029254386353131 : Int64)) ^^^ k1) * (-7046029254386353131 : Int64))), .second, .val (.int 15), .val (.int 2), .val (.int 2), .val (.long k1), .second] [(.int 60), (.long (((((0 : Int64) ^^^ k0) * (-7046029254386353131 : Int64)) ^^^ k1) * (-7046029254386353131 : Int64)))]))
  refine own_of (fun tt_ => XS.lushr X8.here hx rfl (hb hby d9_57) rfl) ?_
  show own_go p e below s _ _ _ (T8.setTop (mkF m 58 #[.val (.ref x), .val (.ref ky), .val (.long (((((0 : Int64) ^^^ k0) * (-7046029254386353131 : Int64)) ^^^ k1) * (-7046029254386353131 : Int64))), .second, .val (.int 15), .val (.int 2), .val (.int 2), .val (.long k1), .second] [(.long (((((((0 : Int64) ^^^ k0) * (-7046029254386353131 : Int64)) ^^^ k1) * (-7046029254386353131 : Int64)).toUInt64 >>> ((60 : Int32) &&& 0x3f).toInt64.toUInt64).toInt64))]))
  refine own_of (fun tt_ => XS.l2i X8.here hx rfl (hb hby d9_58) rfl) ?_
  show own_go p e below s _ _ _ (T8.setTop (mkF m 59 #[.val (.ref x), .val (.ref ky), .val (.long (((((0 : Int64) ^^^ k0) * (-7046029254386353131 : Int64)) ^^^ k1) * (-7046029254386353131 : Int64))), .second, .val (.int 15), .val (.int 2), .val (.int 2), .val (.long k1), .second] [(.int ((((((((0 : Int64) ^^^ k0) * (-7046029254386353131 : Int64)) ^^^ k1) * (-7046029254386353131 : Int64)).toUInt64 >>> ((60 : Int32) &&& 0x3f).toInt64.toUInt64).toInt64).toInt32))]))
  have si0 := own_hash_s k0 k1
  show own_go p e below s _ _ _ (T8.setTop (mkF m 59 #[.val (.ref x), .val (.ref ky), .val (.long (((((0 : Int64) ^^^ k0) * (-7046029254386353131 : Int64)) ^^^ k1) * (-7046029254386353131 : Int64))), .second, .val (.int 15), .val (.int 2), .val (.int 2), .val (.long k1), .second] [(.int (own_hash k0 k1))]))
  refine own_of (fun tt_ => XS.istore X8.here hx rfl (hb hby d9_59) rfl (l' := #[.val (.ref x), .val (.ref ky), .val (.long (((((0 : Int64) ^^^ k0) * (-7046029254386353131 : Int64)) ^^^ k1) * (-7046029254386353131 : Int64))), .second, .val (.int 15), .val (.int (own_hash k0 k1)), .val (.int 2), .val (.long k1), .second]) rfl) ?_
  show own_go p e below s _ _ _ (T8.setTop (mkF m 61 #[.val (.ref x), .val (.ref ky), .val (.long (((((0 : Int64) ^^^ k0) * (-7046029254386353131 : Int64)) ^^^ k1) * (-7046029254386353131 : Int64))), .second, .val (.int 15), .val (.int (own_hash k0 k1)), .val (.int 2), .val (.long k1), .second] []))
  refine own_of (fun tt_ => XS.aloadN X8.here hx rfl (hb hby d9_61) rfl rfl) ?_
  obtain ⟨T9, X9, e9, st9⟩ := getF X8 hx hZ hown (host := "") (Or.inl (hW 39 _ rfl)) Via.refl eh8 F_u (g := (mkF m 62 #[.val (.ref x), .val (.ref ky), .val (.long (((((0 : Int64) ^^^ k0) * (-7046029254386353131 : Int64)) ^^^ k1) * (-7046029254386353131 : Int64))), .second, .val (.int 15), .val (.int (own_hash k0 k1)), .val (.int 2), .val (.long k1), .second] [(.ref x)])) rfl rfl (hb hby d9_62)
  refine own_of st9 ?_
  show own_go p e below s _ _ _ (T9.setTop (mkF m 65 #[.val (.ref x), .val (.ref ky), .val (.long (((((0 : Int64) ^^^ k0) * (-7046029254386353131 : Int64)) ^^^ k1) * (-7046029254386353131 : Int64))), .second, .val (.int 15), .val (.int (own_hash k0 k1)), .val (.int 2), .val (.long k1), .second] [(.ref bq)]))
  refine own_of (fun tt_ => XS.iload X9.here hx rfl (hb hby d9_65) rfl) ?_
  show own_go p e below s _ _ _ (T9.setTop (mkF m 67 #[.val (.ref x), .val (.ref ky), .val (.long (((((0 : Int64) ^^^ k0) * (-7046029254386353131 : Int64)) ^^^ k1) * (-7046029254386353131 : Int64))), .second, .val (.int 15), .val (.int (own_hash k0 k1)), .val (.int 2), .val (.long k1), .second] [(.int (own_hash k0 k1)), (.ref bq)]))
  obtain ⟨cq10, kq10, q10a, q10b, q10c⟩ := isOf hZ e9 E_b
  obtain ⟨_, _, ⟨T10, L10, k10, n10⟩, -, X10, ⟨Lc10, hQ10, l10, y10, z10⟩, st10⟩ := X9.virtualBack hx (y := ym2) (z := ym2) hown (mvT hZ (hW 68 _ rfl)) (mvT hZ (hW 69 _ rfl)) (notFace_of_selects (args := #[]) (mvT hZ (hW 71 _ rfl))) (mvT hZ (hW 71 _ rfl)) (mvT hZ (hW 70 _ rfl)) (by decide) (backOf (W := 0) (rmGet1 l Z a0 hw [] bq wa kw W (own_hash k0 k1) h0 n0 XO0 S_ad E_b F_n F_d V_w si0) hZ (hW 72 _ rfl) (hW 19 _ rfl) (by decide) (by decide)) q10a q10c (g := (mkF m 67 #[.val (.ref x), .val (.ref ky), .val (.long (((((0 : Int64) ^^^ k0) * (-7046029254386353131 : Int64)) ^^^ k1) * (-7046029254386353131 : Int64))), .second, .val (.int 15), .val (.int (own_hash k0 k1)), .val (.int 2), .val (.long k1), .second] [(.int (own_hash k0 k1)), (.ref bq)])) rfl (by rw [hml]; rfl) (Steps.refl _) (argsL := [(.int (own_hash k0 k1))]) (rest := []) (lenOf pd_4 rfl) rfl (by show 2 * 0 + _ ≤ _; exact Nat.le_of_eq rfl) (hb hby d9_67) (fun _ _ => ⟨rfl, e9, (by decide : 0 + 0 ≤ _), (by decide : 0 + 0 ≤ _)⟩)
  dsimp only [Pt.U, Pt.locs, Pt.cells, Pt.slots] at X10 l10 y10 z10 st10 hQ10
  subst l10 y10 z10
  obtain ⟨rfl, Nq10, eh10⟩ := hQ10
  have N10 := Fr.app N8 Nq10
  refine own_of (fun tt_ kk_ => st10.trans kk_) ?_
  show own_go p e below s _ _ _ (T10.setTop (mkF m 70 #[.val (.ref x), .val (.ref ky), .val (.long (((((0 : Int64) ^^^ k0) * (-7046029254386353131 : Int64)) ^^^ k1) * (-7046029254386353131 : Int64))), .second, .val (.int 15), .val (.int (own_hash k0 k1)), .val (.int 2), .val (.long k1), .second] [(.int (own_bit W (own_hash k0 k1)))]))
  by_cases hb70_11 : (own_bit W (own_hash k0 k1)) = (0 : Int32)
  · refine own_of (fun tt_ => XS.ifYes X10.here hx rfl (pc0 := 70) (pc' := 95) rfl (hb hby d9_70) rfl ((if0 _ _).trans (teq hb70_11).1) (by decide) (by decide)) ?_
    show own_go p e below s _ _ _ (T10.setTop (mkF m 95 #[.val (.ref x), .val (.ref ky), .val (.long (((((0 : Int64) ^^^ k0) * (-7046029254386353131 : Int64)) ^^^ k1) * (-7046029254386353131 : Int64))), .second, .val (.int 15), .val (.int (own_hash k0 k1)), .val (.int 2), .val (.long k1), .second] []))
    refine own_of (fun tt_ => XS.iload X10.here hx rfl (hb hby d9_95) rfl) ?_
    show own_go p e below s _ _ _ (T10.setTop (mkF m 97 #[.val (.ref x), .val (.ref ky), .val (.long (((((0 : Int64) ^^^ k0) * (-7046029254386353131 : Int64)) ^^^ k1) * (-7046029254386353131 : Int64))), .second, .val (.int 15), .val (.int (own_hash k0 k1)), .val (.int 2), .val (.long k1), .second] [(.int (own_hash k0 k1))]))
    refine own_ret X10 hx hlk hret rfl (Or.inl ⟨rfl, by simp, _, rfl⟩) (hb hby d9_97) (by decide) (by decide) ?_
    rw [eh10]
    exact ⟨(own_hash k0 k1), rfl, N10, rfl, si0, Or.inl ⟨rfl, Or.inl hb70_11⟩⟩
  · refine own_of (fun tt_ => XS.ifNo X10.here hx rfl (hb hby d9_70) rfl ((if0 _ _).trans (feq hb70_11).1)) ?_
    show own_go p e below s _ _ _ (T10.setTop (mkF m 73 #[.val (.ref x), .val (.ref ky), .val (.long (((((0 : Int64) ^^^ k0) * (-7046029254386353131 : Int64)) ^^^ k1) * (-7046029254386353131 : Int64))), .second, .val (.int 15), .val (.int (own_hash k0 k1)), .val (.int 2), .val (.long k1), .second] []))
    refine own_of (fun tt_ => XS.aloadN X10.here hx rfl (hb hby d9_73) rfl rfl) ?_
    refine own_of (fun tt_ => XS.iload X10.here hx rfl (hb hby d9_74) rfl) ?_
    refine own_of (fun tt_ => XS.aloadN X10.here hx rfl (hb hby d9_76) rfl rfl) ?_
    show own_go p e below s _ _ _ (T10.setTop (mkF m 77 #[.val (.ref x), .val (.ref ky), .val (.long (((((0 : Int64) ^^^ k0) * (-7046029254386353131 : Int64)) ^^^ k1) * (-7046029254386353131 : Int64))), .second, .val (.int 15), .val (.int (own_hash k0 k1)), .val (.int 2), .val (.long k1), .second] [(.ref ky), (.int (own_hash k0 k1)), (.ref x)]))
    obtain ⟨cq12, q12, q12'⟩ := E_x.cell
    obtain ⟨_, _, ⟨T12, L12, k12, n12⟩, -, X12, ⟨Lc12, hQ12, l12, y12, z12⟩, st12⟩ := X10.privateBack hx (y := ym6) hown (mvT hZ (hW 109 _ rfl)) (mvT hZ (hW 110 _ rfl)) (mvT hZ (own_selp (y := ym6) (z := ym1) (hW 48 _ rfl) rfl (hW 111 _ rfl) (hW 110 _ rfl) (by decide))) (Cond.privateMethod_at (mvP hZ (hW 111 _ rfl) (args := #[]))) (mvT hZ (hW 112 _ rfl)) (by decide) (backOf (W := 0) (rmHo l Z a0 hw [] x pa pg ka kp K0 K1 (own_hash k0 k1) ky kc k0 k1 h0 n0 XO0 F_w F_p V_p V_g V_k si0) hZ (hW 112 _ rfl) (hW 2 _ rfl) (by decide) (by decide)) (g := (mkF m 77 #[.val (.ref x), .val (.ref ky), .val (.long (((((0 : Int64) ^^^ k0) * (-7046029254386353131 : Int64)) ^^^ k1) * (-7046029254386353131 : Int64))), .second, .val (.int 15), .val (.int (own_hash k0 k1)), .val (.int 2), .val (.long k1), .second] [(.ref ky), (.int (own_hash k0 k1)), (.ref x)])) rfl (by rw [hml]; rfl) (Steps.refl _) (a := x) (by rw [eh10]; exact q12) q12' (argsL := [(.int (own_hash k0 k1)), (.ref ky)]) (rest := []) (lenOf pd_5 rfl) rfl (by show 2 * 0 + _ ≤ _; exact Nat.le_of_eq rfl) (hb hby d9_77) (fun _ _ => ⟨rfl, eh10, (by decide : 0 + 0 ≤ _), (by decide : 0 + 0 ≤ _)⟩)
    dsimp only [Pt.U, Pt.locs, Pt.cells, Pt.slots] at X12 l12 y12 z12 st12 hQ12
    subst l12 y12 z12
    obtain ⟨rfl, Nq12, eh12⟩ := hQ12
    have N12 := Fr.app N10 Nq12
    refine own_of (fun tt_ kk_ => st12.trans kk_) ?_
    show own_go p e below s _ _ _ (T12.setTop (mkF m 80 #[.val (.ref x), .val (.ref ky), .val (.long (((((0 : Int64) ^^^ k0) * (-7046029254386353131 : Int64)) ^^^ k1) * (-7046029254386353131 : Int64))), .second, .val (.int 15), .val (.int (own_hash k0 k1)), .val (.int 2), .val (.long k1), .second] [(.int (own_hold K0 K1 k0 k1 (own_hash k0 k1)))]))
    by_cases hb80_13 : (own_hold K0 K1 k0 k1 (own_hash k0 k1)) = (0 : Int32)
    · refine own_of (fun tt_ => XS.ifNo X12.here hx rfl (hb hby d9_80) rfl ((if0 _ _).trans (teq hb80_13).2)) ?_
      show own_go p e below s _ _ _ (T12.setTop (mkF m 83 #[.val (.ref x), .val (.ref ky), .val (.long (((((0 : Int64) ^^^ k0) * (-7046029254386353131 : Int64)) ^^^ k1) * (-7046029254386353131 : Int64))), .second, .val (.int 15), .val (.int (own_hash k0 k1)), .val (.int 2), .val (.long k1), .second] []))
      refine own_of (fun tt_ => XS.iload X12.here hx rfl (hb hby d9_83) rfl) ?_
      refine own_of (fun tt_ => XS.iconst X12.here hx rfl (hb hby d9_85)) ?_
      refine own_of (fun tt_ => XS.iadd X12.here hx rfl (hb hby d9_86) rfl) ?_
      show own_go p e below s _ _ _ (T12.setTop (mkF m 87 #[.val (.ref x), .val (.ref ky), .val (.long (((((0 : Int64) ^^^ k0) * (-7046029254386353131 : Int64)) ^^^ k1) * (-7046029254386353131 : Int64))), .second, .val (.int 15), .val (.int (own_hash k0 k1)), .val (.int 2), .val (.long k1), .second] [(.int ((own_hash k0 k1) + (1 : Int32)))]))
      refine own_of (fun tt_ => XS.iload X12.here hx rfl (hb hby d9_87) rfl) ?_
      refine own_of (fun tt_ => XS.iand X12.here hx rfl (hb hby d9_89) rfl) ?_
      show own_go p e below s _ _ _ (T12.setTop (mkF m 90 #[.val (.ref x), .val (.ref ky), .val (.long (((((0 : Int64) ^^^ k0) * (-7046029254386353131 : Int64)) ^^^ k1) * (-7046029254386353131 : Int64))), .second, .val (.int 15), .val (.int (own_hash k0 k1)), .val (.int 2), .val (.long k1), .second] [(.int (((own_hash k0 k1) + (1 : Int32)) &&& (15 : Int32)))]))
      have si1 := own_nx_s si0
      show own_go p e below s _ _ _ (T12.setTop (mkF m 90 #[.val (.ref x), .val (.ref ky), .val (.long (((((0 : Int64) ^^^ k0) * (-7046029254386353131 : Int64)) ^^^ k1) * (-7046029254386353131 : Int64))), .second, .val (.int 15), .val (.int (own_hash k0 k1)), .val (.int 2), .val (.long k1), .second] [(.int (own_nx (own_hash k0 k1)))]))
      refine own_of (fun tt_ => XS.istore X12.here hx rfl (hb hby d9_90) rfl (l' := #[.val (.ref x), .val (.ref ky), .val (.long (((((0 : Int64) ^^^ k0) * (-7046029254386353131 : Int64)) ^^^ k1) * (-7046029254386353131 : Int64))), .second, .val (.int 15), .val (.int (own_nx (own_hash k0 k1))), .val (.int 2), .val (.long k1), .second]) rfl) ?_
      refine own_of (fun tt_ => XS.goto X12.here hx rfl (pc0 := 92) (pc' := 61) rfl (hb hby d9_92) (by decide) (by decide)) ?_
      show own_go p e below s _ _ _ (T12.setTop (mkF m 61 #[.val (.ref x), .val (.ref ky), .val (.long (((((0 : Int64) ^^^ k0) * (-7046029254386353131 : Int64)) ^^^ k1) * (-7046029254386353131 : Int64))), .second, .val (.int 15), .val (.int (own_nx (own_hash k0 k1))), .val (.int 2), .val (.long k1), .second] []))
      refine own_of (fun tt_ => XS.aloadN X12.here hx rfl (hb hby d9_61) rfl rfl) ?_
      obtain ⟨T14, X14, e14, st14⟩ := getF X12 hx hZ hown (host := "") (Or.inl (hW 39 _ rfl)) Via.refl eh12 F_u (g := (mkF m 62 #[.val (.ref x), .val (.ref ky), .val (.long (((((0 : Int64) ^^^ k0) * (-7046029254386353131 : Int64)) ^^^ k1) * (-7046029254386353131 : Int64))), .second, .val (.int 15), .val (.int (own_nx (own_hash k0 k1))), .val (.int 2), .val (.long k1), .second] [(.ref x)])) rfl rfl (hb hby d9_62)
      refine own_of st14 ?_
      show own_go p e below s _ _ _ (T14.setTop (mkF m 65 #[.val (.ref x), .val (.ref ky), .val (.long (((((0 : Int64) ^^^ k0) * (-7046029254386353131 : Int64)) ^^^ k1) * (-7046029254386353131 : Int64))), .second, .val (.int 15), .val (.int (own_nx (own_hash k0 k1))), .val (.int 2), .val (.long k1), .second] [(.ref bq)]))
      refine own_of (fun tt_ => XS.iload X14.here hx rfl (hb hby d9_65) rfl) ?_
      show own_go p e below s _ _ _ (T14.setTop (mkF m 67 #[.val (.ref x), .val (.ref ky), .val (.long (((((0 : Int64) ^^^ k0) * (-7046029254386353131 : Int64)) ^^^ k1) * (-7046029254386353131 : Int64))), .second, .val (.int 15), .val (.int (own_nx (own_hash k0 k1))), .val (.int 2), .val (.long k1), .second] [(.int (own_nx (own_hash k0 k1))), (.ref bq)]))
      obtain ⟨cq15, kq15, q15a, q15b, q15c⟩ := isOf hZ e14 E_b
      obtain ⟨_, _, ⟨T15, L15, k15, n15⟩, -, X15, ⟨Lc15, hQ15, l15, y15, z15⟩, st15⟩ := X14.virtualBack hx (y := ym2) (z := ym2) hown (mvT hZ (hW 68 _ rfl)) (mvT hZ (hW 69 _ rfl)) (notFace_of_selects (args := #[]) (mvT hZ (hW 71 _ rfl))) (mvT hZ (hW 71 _ rfl)) (mvT hZ (hW 70 _ rfl)) (by decide) (backOf (W := 0) (rmGet1 l Z a0 hw [] bq wa kw W (own_nx (own_hash k0 k1)) h0 n0 XO0 S_ad E_b F_n F_d V_w si1) hZ (hW 72 _ rfl) (hW 19 _ rfl) (by decide) (by decide)) q15a q15c (g := (mkF m 67 #[.val (.ref x), .val (.ref ky), .val (.long (((((0 : Int64) ^^^ k0) * (-7046029254386353131 : Int64)) ^^^ k1) * (-7046029254386353131 : Int64))), .second, .val (.int 15), .val (.int (own_nx (own_hash k0 k1))), .val (.int 2), .val (.long k1), .second] [(.int (own_nx (own_hash k0 k1))), (.ref bq)])) rfl (by rw [hml]; rfl) (Steps.refl _) (argsL := [(.int (own_nx (own_hash k0 k1)))]) (rest := []) (lenOf pd_4 rfl) rfl (by show 2 * 0 + _ ≤ _; exact Nat.le_of_eq rfl) (hb hby d9_67) (fun _ _ => ⟨rfl, e14, (by decide : 0 + 0 ≤ _), (by decide : 0 + 0 ≤ _)⟩)
      dsimp only [Pt.U, Pt.locs, Pt.cells, Pt.slots] at X15 l15 y15 z15 st15 hQ15
      subst l15 y15 z15
      obtain ⟨rfl, Nq15, eh15⟩ := hQ15
      have N15 := Fr.app N12 Nq15
      refine own_of (fun tt_ kk_ => st15.trans kk_) ?_
      show own_go p e below s _ _ _ (T15.setTop (mkF m 70 #[.val (.ref x), .val (.ref ky), .val (.long (((((0 : Int64) ^^^ k0) * (-7046029254386353131 : Int64)) ^^^ k1) * (-7046029254386353131 : Int64))), .second, .val (.int 15), .val (.int (own_nx (own_hash k0 k1))), .val (.int 2), .val (.long k1), .second] [(.int (own_bit W (own_nx (own_hash k0 k1))))]))
      by_cases hb70_16 : (own_bit W (own_nx (own_hash k0 k1))) = (0 : Int32)
      · refine own_of (fun tt_ => XS.ifYes X15.here hx rfl (pc0 := 70) (pc' := 95) rfl (hb hby d9_70) rfl ((if0 _ _).trans (teq hb70_16).1) (by decide) (by decide)) ?_
        show own_go p e below s _ _ _ (T15.setTop (mkF m 95 #[.val (.ref x), .val (.ref ky), .val (.long (((((0 : Int64) ^^^ k0) * (-7046029254386353131 : Int64)) ^^^ k1) * (-7046029254386353131 : Int64))), .second, .val (.int 15), .val (.int (own_nx (own_hash k0 k1))), .val (.int 2), .val (.long k1), .second] []))
        refine own_of (fun tt_ => XS.iload X15.here hx rfl (hb hby d9_95) rfl) ?_
        show own_go p e below s _ _ _ (T15.setTop (mkF m 97 #[.val (.ref x), .val (.ref ky), .val (.long (((((0 : Int64) ^^^ k0) * (-7046029254386353131 : Int64)) ^^^ k1) * (-7046029254386353131 : Int64))), .second, .val (.int 15), .val (.int (own_nx (own_hash k0 k1))), .val (.int 2), .val (.long k1), .second] [(.int (own_nx (own_hash k0 k1)))]))
        refine own_ret X15 hx hlk hret rfl (Or.inl ⟨rfl, by simp, _, rfl⟩) (hb hby d9_97) (by decide) (by decide) ?_
        rw [eh15]
        exact ⟨(own_nx (own_hash k0 k1)), rfl, N15, rfl, si1, Or.inr ⟨⟨hb70_11, hb80_13⟩, Or.inl ⟨rfl, Or.inl hb70_16⟩⟩⟩
      · refine own_of (fun tt_ => XS.ifNo X15.here hx rfl (hb hby d9_70) rfl ((if0 _ _).trans (feq hb70_16).1)) ?_
        show own_go p e below s _ _ _ (T15.setTop (mkF m 73 #[.val (.ref x), .val (.ref ky), .val (.long (((((0 : Int64) ^^^ k0) * (-7046029254386353131 : Int64)) ^^^ k1) * (-7046029254386353131 : Int64))), .second, .val (.int 15), .val (.int (own_nx (own_hash k0 k1))), .val (.int 2), .val (.long k1), .second] []))
        refine own_of (fun tt_ => XS.aloadN X15.here hx rfl (hb hby d9_73) rfl rfl) ?_
        refine own_of (fun tt_ => XS.iload X15.here hx rfl (hb hby d9_74) rfl) ?_
        refine own_of (fun tt_ => XS.aloadN X15.here hx rfl (hb hby d9_76) rfl rfl) ?_
        show own_go p e below s _ _ _ (T15.setTop (mkF m 77 #[.val (.ref x), .val (.ref ky), .val (.long (((((0 : Int64) ^^^ k0) * (-7046029254386353131 : Int64)) ^^^ k1) * (-7046029254386353131 : Int64))), .second, .val (.int 15), .val (.int (own_nx (own_hash k0 k1))), .val (.int 2), .val (.long k1), .second] [(.ref ky), (.int (own_nx (own_hash k0 k1))), (.ref x)]))
        obtain ⟨cq17, q17, q17'⟩ := E_x.cell
        obtain ⟨_, _, ⟨T17, L17, k17, n17⟩, -, X17, ⟨Lc17, hQ17, l17, y17, z17⟩, st17⟩ := X15.privateBack hx (y := ym6) hown (mvT hZ (hW 109 _ rfl)) (mvT hZ (hW 110 _ rfl)) (mvT hZ (own_selp (y := ym6) (z := ym1) (hW 48 _ rfl) rfl (hW 111 _ rfl) (hW 110 _ rfl) (by decide))) (Cond.privateMethod_at (mvP hZ (hW 111 _ rfl) (args := #[]))) (mvT hZ (hW 112 _ rfl)) (by decide) (backOf (W := 0) (rmHo l Z a0 hw [] x pa pg ka kp K0 K1 (own_nx (own_hash k0 k1)) ky kc k0 k1 h0 n0 XO0 F_w F_p V_p V_g V_k si1) hZ (hW 112 _ rfl) (hW 2 _ rfl) (by decide) (by decide)) (g := (mkF m 77 #[.val (.ref x), .val (.ref ky), .val (.long (((((0 : Int64) ^^^ k0) * (-7046029254386353131 : Int64)) ^^^ k1) * (-7046029254386353131 : Int64))), .second, .val (.int 15), .val (.int (own_nx (own_hash k0 k1))), .val (.int 2), .val (.long k1), .second] [(.ref ky), (.int (own_nx (own_hash k0 k1))), (.ref x)])) rfl (by rw [hml]; rfl) (Steps.refl _) (a := x) (by rw [eh15]; exact q17) q17' (argsL := [(.int (own_nx (own_hash k0 k1))), (.ref ky)]) (rest := []) (lenOf pd_5 rfl) rfl (by show 2 * 0 + _ ≤ _; exact Nat.le_of_eq rfl) (hb hby d9_77) (fun _ _ => ⟨rfl, eh15, (by decide : 0 + 0 ≤ _), (by decide : 0 + 0 ≤ _)⟩)
        dsimp only [Pt.U, Pt.locs, Pt.cells, Pt.slots] at X17 l17 y17 z17 st17 hQ17
        subst l17 y17 z17
        obtain ⟨rfl, Nq17, eh17⟩ := hQ17
        have N17 := Fr.app N15 Nq17
        refine own_of (fun tt_ kk_ => st17.trans kk_) ?_
        show own_go p e below s _ _ _ (T17.setTop (mkF m 80 #[.val (.ref x), .val (.ref ky), .val (.long (((((0 : Int64) ^^^ k0) * (-7046029254386353131 : Int64)) ^^^ k1) * (-7046029254386353131 : Int64))), .second, .val (.int 15), .val (.int (own_nx (own_hash k0 k1))), .val (.int 2), .val (.long k1), .second] [(.int (own_hold K0 K1 k0 k1 (own_nx (own_hash k0 k1))))]))
        by_cases hb80_18 : (own_hold K0 K1 k0 k1 (own_nx (own_hash k0 k1))) = (0 : Int32)
        · refine own_of (fun tt_ => XS.ifNo X17.here hx rfl (hb hby d9_80) rfl ((if0 _ _).trans (teq hb80_18).2)) ?_
          show own_go p e below s _ _ _ (T17.setTop (mkF m 83 #[.val (.ref x), .val (.ref ky), .val (.long (((((0 : Int64) ^^^ k0) * (-7046029254386353131 : Int64)) ^^^ k1) * (-7046029254386353131 : Int64))), .second, .val (.int 15), .val (.int (own_nx (own_hash k0 k1))), .val (.int 2), .val (.long k1), .second] []))
          refine own_of (fun tt_ => XS.iload X17.here hx rfl (hb hby d9_83) rfl) ?_
          refine own_of (fun tt_ => XS.iconst X17.here hx rfl (hb hby d9_85)) ?_
          refine own_of (fun tt_ => XS.iadd X17.here hx rfl (hb hby d9_86) rfl) ?_
          show own_go p e below s _ _ _ (T17.setTop (mkF m 87 #[.val (.ref x), .val (.ref ky), .val (.long (((((0 : Int64) ^^^ k0) * (-7046029254386353131 : Int64)) ^^^ k1) * (-7046029254386353131 : Int64))), .second, .val (.int 15), .val (.int (own_nx (own_hash k0 k1))), .val (.int 2), .val (.long k1), .second] [(.int ((own_nx (own_hash k0 k1)) + (1 : Int32)))]))
          refine own_of (fun tt_ => XS.iload X17.here hx rfl (hb hby d9_87) rfl) ?_
          refine own_of (fun tt_ => XS.iand X17.here hx rfl (hb hby d9_89) rfl) ?_
          show own_go p e below s _ _ _ (T17.setTop (mkF m 90 #[.val (.ref x), .val (.ref ky), .val (.long (((((0 : Int64) ^^^ k0) * (-7046029254386353131 : Int64)) ^^^ k1) * (-7046029254386353131 : Int64))), .second, .val (.int 15), .val (.int (own_nx (own_hash k0 k1))), .val (.int 2), .val (.long k1), .second] [(.int (((own_nx (own_hash k0 k1)) + (1 : Int32)) &&& (15 : Int32)))]))
          have si2 := own_nx_s si1
          show own_go p e below s _ _ _ (T17.setTop (mkF m 90 #[.val (.ref x), .val (.ref ky), .val (.long (((((0 : Int64) ^^^ k0) * (-7046029254386353131 : Int64)) ^^^ k1) * (-7046029254386353131 : Int64))), .second, .val (.int 15), .val (.int (own_nx (own_hash k0 k1))), .val (.int 2), .val (.long k1), .second] [(.int (own_nx (own_nx (own_hash k0 k1))))]))
          refine own_of (fun tt_ => XS.istore X17.here hx rfl (hb hby d9_90) rfl (l' := #[.val (.ref x), .val (.ref ky), .val (.long (((((0 : Int64) ^^^ k0) * (-7046029254386353131 : Int64)) ^^^ k1) * (-7046029254386353131 : Int64))), .second, .val (.int 15), .val (.int (own_nx (own_nx (own_hash k0 k1)))), .val (.int 2), .val (.long k1), .second]) rfl) ?_
          refine own_of (fun tt_ => XS.goto X17.here hx rfl (pc0 := 92) (pc' := 61) rfl (hb hby d9_92) (by decide) (by decide)) ?_
          show own_go p e below s _ _ _ (T17.setTop (mkF m 61 #[.val (.ref x), .val (.ref ky), .val (.long (((((0 : Int64) ^^^ k0) * (-7046029254386353131 : Int64)) ^^^ k1) * (-7046029254386353131 : Int64))), .second, .val (.int 15), .val (.int (own_nx (own_nx (own_hash k0 k1)))), .val (.int 2), .val (.long k1), .second] []))
          refine own_of (fun tt_ => XS.aloadN X17.here hx rfl (hb hby d9_61) rfl rfl) ?_
          obtain ⟨T19, X19, e19, st19⟩ := getF X17 hx hZ hown (host := "") (Or.inl (hW 39 _ rfl)) Via.refl eh17 F_u (g := (mkF m 62 #[.val (.ref x), .val (.ref ky), .val (.long (((((0 : Int64) ^^^ k0) * (-7046029254386353131 : Int64)) ^^^ k1) * (-7046029254386353131 : Int64))), .second, .val (.int 15), .val (.int (own_nx (own_nx (own_hash k0 k1)))), .val (.int 2), .val (.long k1), .second] [(.ref x)])) rfl rfl (hb hby d9_62)
          refine own_of st19 ?_
          show own_go p e below s _ _ _ (T19.setTop (mkF m 65 #[.val (.ref x), .val (.ref ky), .val (.long (((((0 : Int64) ^^^ k0) * (-7046029254386353131 : Int64)) ^^^ k1) * (-7046029254386353131 : Int64))), .second, .val (.int 15), .val (.int (own_nx (own_nx (own_hash k0 k1)))), .val (.int 2), .val (.long k1), .second] [(.ref bq)]))
          refine own_of (fun tt_ => XS.iload X19.here hx rfl (hb hby d9_65) rfl) ?_
          show own_go p e below s _ _ _ (T19.setTop (mkF m 67 #[.val (.ref x), .val (.ref ky), .val (.long (((((0 : Int64) ^^^ k0) * (-7046029254386353131 : Int64)) ^^^ k1) * (-7046029254386353131 : Int64))), .second, .val (.int 15), .val (.int (own_nx (own_nx (own_hash k0 k1)))), .val (.int 2), .val (.long k1), .second] [(.int (own_nx (own_nx (own_hash k0 k1)))), (.ref bq)]))
          obtain ⟨cq20, kq20, q20a, q20b, q20c⟩ := isOf hZ e19 E_b
          obtain ⟨_, _, ⟨T20, L20, k20, n20⟩, -, X20, ⟨Lc20, hQ20, l20, y20, z20⟩, st20⟩ := X19.virtualBack hx (y := ym2) (z := ym2) hown (mvT hZ (hW 68 _ rfl)) (mvT hZ (hW 69 _ rfl)) (notFace_of_selects (args := #[]) (mvT hZ (hW 71 _ rfl))) (mvT hZ (hW 71 _ rfl)) (mvT hZ (hW 70 _ rfl)) (by decide) (backOf (W := 0) (rmGet1 l Z a0 hw [] bq wa kw W (own_nx (own_nx (own_hash k0 k1))) h0 n0 XO0 S_ad E_b F_n F_d V_w si2) hZ (hW 72 _ rfl) (hW 19 _ rfl) (by decide) (by decide)) q20a q20c (g := (mkF m 67 #[.val (.ref x), .val (.ref ky), .val (.long (((((0 : Int64) ^^^ k0) * (-7046029254386353131 : Int64)) ^^^ k1) * (-7046029254386353131 : Int64))), .second, .val (.int 15), .val (.int (own_nx (own_nx (own_hash k0 k1)))), .val (.int 2), .val (.long k1), .second] [(.int (own_nx (own_nx (own_hash k0 k1)))), (.ref bq)])) rfl (by rw [hml]; rfl) (Steps.refl _) (argsL := [(.int (own_nx (own_nx (own_hash k0 k1))))]) (rest := []) (lenOf pd_4 rfl) rfl (by show 2 * 0 + _ ≤ _; exact Nat.le_of_eq rfl) (hb hby d9_67) (fun _ _ => ⟨rfl, e19, (by decide : 0 + 0 ≤ _), (by decide : 0 + 0 ≤ _)⟩)
          dsimp only [Pt.U, Pt.locs, Pt.cells, Pt.slots] at X20 l20 y20 z20 st20 hQ20
          subst l20 y20 z20
          obtain ⟨rfl, Nq20, eh20⟩ := hQ20
          have N20 := Fr.app N17 Nq20
          refine own_of (fun tt_ kk_ => st20.trans kk_) ?_
          show own_go p e below s _ _ _ (T20.setTop (mkF m 70 #[.val (.ref x), .val (.ref ky), .val (.long (((((0 : Int64) ^^^ k0) * (-7046029254386353131 : Int64)) ^^^ k1) * (-7046029254386353131 : Int64))), .second, .val (.int 15), .val (.int (own_nx (own_nx (own_hash k0 k1)))), .val (.int 2), .val (.long k1), .second] [(.int (own_bit W (own_nx (own_nx (own_hash k0 k1)))))]))
          by_cases hb70_21 : (own_bit W (own_nx (own_nx (own_hash k0 k1)))) = (0 : Int32)
          · refine own_of (fun tt_ => XS.ifYes X20.here hx rfl (pc0 := 70) (pc' := 95) rfl (hb hby d9_70) rfl ((if0 _ _).trans (teq hb70_21).1) (by decide) (by decide)) ?_
            show own_go p e below s _ _ _ (T20.setTop (mkF m 95 #[.val (.ref x), .val (.ref ky), .val (.long (((((0 : Int64) ^^^ k0) * (-7046029254386353131 : Int64)) ^^^ k1) * (-7046029254386353131 : Int64))), .second, .val (.int 15), .val (.int (own_nx (own_nx (own_hash k0 k1)))), .val (.int 2), .val (.long k1), .second] []))
            refine own_of (fun tt_ => XS.iload X20.here hx rfl (hb hby d9_95) rfl) ?_
            show own_go p e below s _ _ _ (T20.setTop (mkF m 97 #[.val (.ref x), .val (.ref ky), .val (.long (((((0 : Int64) ^^^ k0) * (-7046029254386353131 : Int64)) ^^^ k1) * (-7046029254386353131 : Int64))), .second, .val (.int 15), .val (.int (own_nx (own_nx (own_hash k0 k1)))), .val (.int 2), .val (.long k1), .second] [(.int (own_nx (own_nx (own_hash k0 k1))))]))
            refine own_ret X20 hx hlk hret rfl (Or.inl ⟨rfl, by simp, _, rfl⟩) (hb hby d9_97) (by decide) (by decide) ?_
            rw [eh20]
            exact ⟨(own_nx (own_nx (own_hash k0 k1))), rfl, N20, rfl, si2, Or.inr ⟨⟨hb70_11, hb80_13⟩, Or.inr ⟨⟨hb70_16, hb80_18⟩, Or.inl ⟨rfl, Or.inl hb70_21⟩⟩⟩⟩
          · refine own_of (fun tt_ => XS.ifNo X20.here hx rfl (hb hby d9_70) rfl ((if0 _ _).trans (feq hb70_21).1)) ?_
            show own_go p e below s _ _ _ (T20.setTop (mkF m 73 #[.val (.ref x), .val (.ref ky), .val (.long (((((0 : Int64) ^^^ k0) * (-7046029254386353131 : Int64)) ^^^ k1) * (-7046029254386353131 : Int64))), .second, .val (.int 15), .val (.int (own_nx (own_nx (own_hash k0 k1)))), .val (.int 2), .val (.long k1), .second] []))
            refine own_of (fun tt_ => XS.aloadN X20.here hx rfl (hb hby d9_73) rfl rfl) ?_
            refine own_of (fun tt_ => XS.iload X20.here hx rfl (hb hby d9_74) rfl) ?_
            refine own_of (fun tt_ => XS.aloadN X20.here hx rfl (hb hby d9_76) rfl rfl) ?_
            show own_go p e below s _ _ _ (T20.setTop (mkF m 77 #[.val (.ref x), .val (.ref ky), .val (.long (((((0 : Int64) ^^^ k0) * (-7046029254386353131 : Int64)) ^^^ k1) * (-7046029254386353131 : Int64))), .second, .val (.int 15), .val (.int (own_nx (own_nx (own_hash k0 k1)))), .val (.int 2), .val (.long k1), .second] [(.ref ky), (.int (own_nx (own_nx (own_hash k0 k1)))), (.ref x)]))
            obtain ⟨cq22, q22, q22'⟩ := E_x.cell
            obtain ⟨_, _, ⟨T22, L22, k22, n22⟩, -, X22, ⟨Lc22, hQ22, l22, y22, z22⟩, st22⟩ := X20.privateBack hx (y := ym6) hown (mvT hZ (hW 109 _ rfl)) (mvT hZ (hW 110 _ rfl)) (mvT hZ (own_selp (y := ym6) (z := ym1) (hW 48 _ rfl) rfl (hW 111 _ rfl) (hW 110 _ rfl) (by decide))) (Cond.privateMethod_at (mvP hZ (hW 111 _ rfl) (args := #[]))) (mvT hZ (hW 112 _ rfl)) (by decide) (backOf (W := 0) (rmHo l Z a0 hw [] x pa pg ka kp K0 K1 (own_nx (own_nx (own_hash k0 k1))) ky kc k0 k1 h0 n0 XO0 F_w F_p V_p V_g V_k si2) hZ (hW 112 _ rfl) (hW 2 _ rfl) (by decide) (by decide)) (g := (mkF m 77 #[.val (.ref x), .val (.ref ky), .val (.long (((((0 : Int64) ^^^ k0) * (-7046029254386353131 : Int64)) ^^^ k1) * (-7046029254386353131 : Int64))), .second, .val (.int 15), .val (.int (own_nx (own_nx (own_hash k0 k1)))), .val (.int 2), .val (.long k1), .second] [(.ref ky), (.int (own_nx (own_nx (own_hash k0 k1)))), (.ref x)])) rfl (by rw [hml]; rfl) (Steps.refl _) (a := x) (by rw [eh20]; exact q22) q22' (argsL := [(.int (own_nx (own_nx (own_hash k0 k1)))), (.ref ky)]) (rest := []) (lenOf pd_5 rfl) rfl (by show 2 * 0 + _ ≤ _; exact Nat.le_of_eq rfl) (hb hby d9_77) (fun _ _ => ⟨rfl, eh20, (by decide : 0 + 0 ≤ _), (by decide : 0 + 0 ≤ _)⟩)
            dsimp only [Pt.U, Pt.locs, Pt.cells, Pt.slots] at X22 l22 y22 z22 st22 hQ22
            subst l22 y22 z22
            obtain ⟨rfl, Nq22, eh22⟩ := hQ22
            have N22 := Fr.app N20 Nq22
            refine own_of (fun tt_ kk_ => st22.trans kk_) ?_
            show own_go p e below s _ _ _ (T22.setTop (mkF m 80 #[.val (.ref x), .val (.ref ky), .val (.long (((((0 : Int64) ^^^ k0) * (-7046029254386353131 : Int64)) ^^^ k1) * (-7046029254386353131 : Int64))), .second, .val (.int 15), .val (.int (own_nx (own_nx (own_hash k0 k1)))), .val (.int 2), .val (.long k1), .second] [(.int (own_hold K0 K1 k0 k1 (own_nx (own_nx (own_hash k0 k1)))))]))
            by_cases hb80_23 : (own_hold K0 K1 k0 k1 (own_nx (own_nx (own_hash k0 k1)))) = (0 : Int32)
            · refine own_of (fun tt_ => XS.ifNo X22.here hx rfl (hb hby d9_80) rfl ((if0 _ _).trans (teq hb80_23).2)) ?_
              show own_go p e below s _ _ _ (T22.setTop (mkF m 83 #[.val (.ref x), .val (.ref ky), .val (.long (((((0 : Int64) ^^^ k0) * (-7046029254386353131 : Int64)) ^^^ k1) * (-7046029254386353131 : Int64))), .second, .val (.int 15), .val (.int (own_nx (own_nx (own_hash k0 k1)))), .val (.int 2), .val (.long k1), .second] []))
              refine own_of (fun tt_ => XS.iload X22.here hx rfl (hb hby d9_83) rfl) ?_
              refine own_of (fun tt_ => XS.iconst X22.here hx rfl (hb hby d9_85)) ?_
              refine own_of (fun tt_ => XS.iadd X22.here hx rfl (hb hby d9_86) rfl) ?_
              show own_go p e below s _ _ _ (T22.setTop (mkF m 87 #[.val (.ref x), .val (.ref ky), .val (.long (((((0 : Int64) ^^^ k0) * (-7046029254386353131 : Int64)) ^^^ k1) * (-7046029254386353131 : Int64))), .second, .val (.int 15), .val (.int (own_nx (own_nx (own_hash k0 k1)))), .val (.int 2), .val (.long k1), .second] [(.int ((own_nx (own_nx (own_hash k0 k1))) + (1 : Int32)))]))
              refine own_of (fun tt_ => XS.iload X22.here hx rfl (hb hby d9_87) rfl) ?_
              refine own_of (fun tt_ => XS.iand X22.here hx rfl (hb hby d9_89) rfl) ?_
              show own_go p e below s _ _ _ (T22.setTop (mkF m 90 #[.val (.ref x), .val (.ref ky), .val (.long (((((0 : Int64) ^^^ k0) * (-7046029254386353131 : Int64)) ^^^ k1) * (-7046029254386353131 : Int64))), .second, .val (.int 15), .val (.int (own_nx (own_nx (own_hash k0 k1)))), .val (.int 2), .val (.long k1), .second] [(.int (((own_nx (own_nx (own_hash k0 k1))) + (1 : Int32)) &&& (15 : Int32)))]))
              have si3 := own_nx_s si2
              show own_go p e below s _ _ _ (T22.setTop (mkF m 90 #[.val (.ref x), .val (.ref ky), .val (.long (((((0 : Int64) ^^^ k0) * (-7046029254386353131 : Int64)) ^^^ k1) * (-7046029254386353131 : Int64))), .second, .val (.int 15), .val (.int (own_nx (own_nx (own_hash k0 k1)))), .val (.int 2), .val (.long k1), .second] [(.int (own_nx (own_nx (own_nx (own_hash k0 k1)))))]))
              refine own_of (fun tt_ => XS.istore X22.here hx rfl (hb hby d9_90) rfl (l' := #[.val (.ref x), .val (.ref ky), .val (.long (((((0 : Int64) ^^^ k0) * (-7046029254386353131 : Int64)) ^^^ k1) * (-7046029254386353131 : Int64))), .second, .val (.int 15), .val (.int (own_nx (own_nx (own_nx (own_hash k0 k1))))), .val (.int 2), .val (.long k1), .second]) rfl) ?_
              refine own_of (fun tt_ => XS.goto X22.here hx rfl (pc0 := 92) (pc' := 61) rfl (hb hby d9_92) (by decide) (by decide)) ?_
              show own_go p e below s _ _ _ (T22.setTop (mkF m 61 #[.val (.ref x), .val (.ref ky), .val (.long (((((0 : Int64) ^^^ k0) * (-7046029254386353131 : Int64)) ^^^ k1) * (-7046029254386353131 : Int64))), .second, .val (.int 15), .val (.int (own_nx (own_nx (own_nx (own_hash k0 k1))))), .val (.int 2), .val (.long k1), .second] []))
              refine own_of (fun tt_ => XS.aloadN X22.here hx rfl (hb hby d9_61) rfl rfl) ?_
              obtain ⟨T24, X24, e24, st24⟩ := getF X22 hx hZ hown (host := "") (Or.inl (hW 39 _ rfl)) Via.refl eh22 F_u (g := (mkF m 62 #[.val (.ref x), .val (.ref ky), .val (.long (((((0 : Int64) ^^^ k0) * (-7046029254386353131 : Int64)) ^^^ k1) * (-7046029254386353131 : Int64))), .second, .val (.int 15), .val (.int (own_nx (own_nx (own_nx (own_hash k0 k1))))), .val (.int 2), .val (.long k1), .second] [(.ref x)])) rfl rfl (hb hby d9_62)
              refine own_of st24 ?_
              show own_go p e below s _ _ _ (T24.setTop (mkF m 65 #[.val (.ref x), .val (.ref ky), .val (.long (((((0 : Int64) ^^^ k0) * (-7046029254386353131 : Int64)) ^^^ k1) * (-7046029254386353131 : Int64))), .second, .val (.int 15), .val (.int (own_nx (own_nx (own_nx (own_hash k0 k1))))), .val (.int 2), .val (.long k1), .second] [(.ref bq)]))
              refine own_of (fun tt_ => XS.iload X24.here hx rfl (hb hby d9_65) rfl) ?_
              show own_go p e below s _ _ _ (T24.setTop (mkF m 67 #[.val (.ref x), .val (.ref ky), .val (.long (((((0 : Int64) ^^^ k0) * (-7046029254386353131 : Int64)) ^^^ k1) * (-7046029254386353131 : Int64))), .second, .val (.int 15), .val (.int (own_nx (own_nx (own_nx (own_hash k0 k1))))), .val (.int 2), .val (.long k1), .second] [(.int (own_nx (own_nx (own_nx (own_hash k0 k1))))), (.ref bq)]))
              obtain ⟨cq25, kq25, q25a, q25b, q25c⟩ := isOf hZ e24 E_b
              obtain ⟨_, _, ⟨T25, L25, k25, n25⟩, -, X25, ⟨Lc25, hQ25, l25, y25, z25⟩, st25⟩ := X24.virtualBack hx (y := ym2) (z := ym2) hown (mvT hZ (hW 68 _ rfl)) (mvT hZ (hW 69 _ rfl)) (notFace_of_selects (args := #[]) (mvT hZ (hW 71 _ rfl))) (mvT hZ (hW 71 _ rfl)) (mvT hZ (hW 70 _ rfl)) (by decide) (backOf (W := 0) (rmGet1 l Z a0 hw [] bq wa kw W (own_nx (own_nx (own_nx (own_hash k0 k1)))) h0 n0 XO0 S_ad E_b F_n F_d V_w si3) hZ (hW 72 _ rfl) (hW 19 _ rfl) (by decide) (by decide)) q25a q25c (g := (mkF m 67 #[.val (.ref x), .val (.ref ky), .val (.long (((((0 : Int64) ^^^ k0) * (-7046029254386353131 : Int64)) ^^^ k1) * (-7046029254386353131 : Int64))), .second, .val (.int 15), .val (.int (own_nx (own_nx (own_nx (own_hash k0 k1))))), .val (.int 2), .val (.long k1), .second] [(.int (own_nx (own_nx (own_nx (own_hash k0 k1))))), (.ref bq)])) rfl (by rw [hml]; rfl) (Steps.refl _) (argsL := [(.int (own_nx (own_nx (own_nx (own_hash k0 k1)))))]) (rest := []) (lenOf pd_4 rfl) rfl (by show 2 * 0 + _ ≤ _; exact Nat.le_of_eq rfl) (hb hby d9_67) (fun _ _ => ⟨rfl, e24, (by decide : 0 + 0 ≤ _), (by decide : 0 + 0 ≤ _)⟩)
              dsimp only [Pt.U, Pt.locs, Pt.cells, Pt.slots] at X25 l25 y25 z25 st25 hQ25
              subst l25 y25 z25
              obtain ⟨rfl, Nq25, eh25⟩ := hQ25
              have N25 := Fr.app N22 Nq25
              refine own_of (fun tt_ kk_ => st25.trans kk_) ?_
              show own_go p e below s _ _ _ (T25.setTop (mkF m 70 #[.val (.ref x), .val (.ref ky), .val (.long (((((0 : Int64) ^^^ k0) * (-7046029254386353131 : Int64)) ^^^ k1) * (-7046029254386353131 : Int64))), .second, .val (.int 15), .val (.int (own_nx (own_nx (own_nx (own_hash k0 k1))))), .val (.int 2), .val (.long k1), .second] [(.int (own_bit W (own_nx (own_nx (own_nx (own_hash k0 k1))))))]))
              have hb70_26 : (own_bit W (own_nx (own_nx (own_nx (own_hash k0 k1))))) = (0 : Int32) := Classical.byContradiction fun q => hfr ⟨hb70_11, hb70_16, hb70_21, q⟩
              refine own_of (fun tt_ => XS.ifYes X25.here hx rfl (pc0 := 70) (pc' := 95) rfl (hb hby d9_70) rfl ((if0 _ _).trans (teq hb70_26).1) (by decide) (by decide)) ?_
              show own_go p e below s _ _ _ (T25.setTop (mkF m 95 #[.val (.ref x), .val (.ref ky), .val (.long (((((0 : Int64) ^^^ k0) * (-7046029254386353131 : Int64)) ^^^ k1) * (-7046029254386353131 : Int64))), .second, .val (.int 15), .val (.int (own_nx (own_nx (own_nx (own_hash k0 k1))))), .val (.int 2), .val (.long k1), .second] []))
              refine own_of (fun tt_ => XS.iload X25.here hx rfl (hb hby d9_95) rfl) ?_
              show own_go p e below s _ _ _ (T25.setTop (mkF m 97 #[.val (.ref x), .val (.ref ky), .val (.long (((((0 : Int64) ^^^ k0) * (-7046029254386353131 : Int64)) ^^^ k1) * (-7046029254386353131 : Int64))), .second, .val (.int 15), .val (.int (own_nx (own_nx (own_nx (own_hash k0 k1))))), .val (.int 2), .val (.long k1), .second] [(.int (own_nx (own_nx (own_nx (own_hash k0 k1)))))]))
              refine own_ret X25 hx hlk hret rfl (Or.inl ⟨rfl, by simp, _, rfl⟩) (hb hby d9_97) (by decide) (by decide) ?_
              rw [eh25]
              exact ⟨(own_nx (own_nx (own_nx (own_hash k0 k1)))), rfl, N25, rfl, si3, Or.inr ⟨⟨hb70_11, hb80_13⟩, Or.inr ⟨⟨hb70_16, hb80_18⟩, Or.inr ⟨⟨hb70_21, hb80_23⟩, ⟨rfl, Or.inl hb70_26⟩⟩⟩⟩⟩
            · refine own_of (fun tt_ => XS.ifYes X22.here hx rfl (pc0 := 80) (pc' := 95) rfl (hb hby d9_80) rfl ((if0 _ _).trans (feq hb80_23).2) (by decide) (by decide)) ?_
              show own_go p e below s _ _ _ (T22.setTop (mkF m 95 #[.val (.ref x), .val (.ref ky), .val (.long (((((0 : Int64) ^^^ k0) * (-7046029254386353131 : Int64)) ^^^ k1) * (-7046029254386353131 : Int64))), .second, .val (.int 15), .val (.int (own_nx (own_nx (own_hash k0 k1)))), .val (.int 2), .val (.long k1), .second] []))
              refine own_of (fun tt_ => XS.iload X22.here hx rfl (hb hby d9_95) rfl) ?_
              show own_go p e below s _ _ _ (T22.setTop (mkF m 97 #[.val (.ref x), .val (.ref ky), .val (.long (((((0 : Int64) ^^^ k0) * (-7046029254386353131 : Int64)) ^^^ k1) * (-7046029254386353131 : Int64))), .second, .val (.int 15), .val (.int (own_nx (own_nx (own_hash k0 k1)))), .val (.int 2), .val (.long k1), .second] [(.int (own_nx (own_nx (own_hash k0 k1))))]))
              refine own_ret X22 hx hlk hret rfl (Or.inl ⟨rfl, by simp, _, rfl⟩) (hb hby d9_97) (by decide) (by decide) ?_
              rw [eh22]
              exact ⟨(own_nx (own_nx (own_hash k0 k1))), rfl, N22, rfl, si2, Or.inr ⟨⟨hb70_11, hb80_13⟩, Or.inr ⟨⟨hb70_16, hb80_18⟩, Or.inl ⟨rfl, Or.inr hb80_23⟩⟩⟩⟩
        · refine own_of (fun tt_ => XS.ifYes X17.here hx rfl (pc0 := 80) (pc' := 95) rfl (hb hby d9_80) rfl ((if0 _ _).trans (feq hb80_18).2) (by decide) (by decide)) ?_
          show own_go p e below s _ _ _ (T17.setTop (mkF m 95 #[.val (.ref x), .val (.ref ky), .val (.long (((((0 : Int64) ^^^ k0) * (-7046029254386353131 : Int64)) ^^^ k1) * (-7046029254386353131 : Int64))), .second, .val (.int 15), .val (.int (own_nx (own_hash k0 k1))), .val (.int 2), .val (.long k1), .second] []))
          refine own_of (fun tt_ => XS.iload X17.here hx rfl (hb hby d9_95) rfl) ?_
          show own_go p e below s _ _ _ (T17.setTop (mkF m 97 #[.val (.ref x), .val (.ref ky), .val (.long (((((0 : Int64) ^^^ k0) * (-7046029254386353131 : Int64)) ^^^ k1) * (-7046029254386353131 : Int64))), .second, .val (.int 15), .val (.int (own_nx (own_hash k0 k1))), .val (.int 2), .val (.long k1), .second] [(.int (own_nx (own_hash k0 k1)))]))
          refine own_ret X17 hx hlk hret rfl (Or.inl ⟨rfl, by simp, _, rfl⟩) (hb hby d9_97) (by decide) (by decide) ?_
          rw [eh17]
          exact ⟨(own_nx (own_hash k0 k1)), rfl, N17, rfl, si1, Or.inr ⟨⟨hb70_11, hb80_13⟩, Or.inl ⟨rfl, Or.inr hb80_18⟩⟩⟩
    · refine own_of (fun tt_ => XS.ifYes X12.here hx rfl (pc0 := 80) (pc' := 95) rfl (hb hby d9_80) rfl ((if0 _ _).trans (feq hb80_13).2) (by decide) (by decide)) ?_
      show own_go p e below s _ _ _ (T12.setTop (mkF m 95 #[.val (.ref x), .val (.ref ky), .val (.long (((((0 : Int64) ^^^ k0) * (-7046029254386353131 : Int64)) ^^^ k1) * (-7046029254386353131 : Int64))), .second, .val (.int 15), .val (.int (own_hash k0 k1)), .val (.int 2), .val (.long k1), .second] []))
      refine own_of (fun tt_ => XS.iload X12.here hx rfl (hb hby d9_95) rfl) ?_
      show own_go p e below s _ _ _ (T12.setTop (mkF m 97 #[.val (.ref x), .val (.ref ky), .val (.long (((((0 : Int64) ^^^ k0) * (-7046029254386353131 : Int64)) ^^^ k1) * (-7046029254386353131 : Int64))), .second, .val (.int 15), .val (.int (own_hash k0 k1)), .val (.int 2), .val (.long k1), .second] [(.int (own_hash k0 k1))]))
      refine own_ret X12 hx hlk hret rfl (Or.inl ⟨rfl, by simp, _, rfl⟩) (hb hby d9_97) (by decide) (by decide) ?_
      rw [eh12]
      exact ⟨(own_hash k0 k1), rfl, N12, rfl, si0, Or.inl ⟨rfl, Or.inr hb80_13⟩⟩
theorem ef_rmPut0 (m : MethodId) (x0 : Nat) (x1 : Int32) (x2 : Nat) : entryFrame m #[(.ref x0), (.int x1), (.ref x2)] 4 = mkF m 0 #[.val (.ref x0), .val (.int x1), .val (.ref x2), .unset] [] := by first | (simp [entryFrame, mkF, argsToLocals, Value.category]; done) | rfl
theorem d14_0 : decode prog_28_method_7_code 0 = .ok (.iload_n 1, 1) := by decide +kernel
theorem d14_1 : decode prog_28_method_7_code 1 = .ok (.sipush 8192, 3) := by decide +kernel
theorem d14_4 : decode prog_28_method_7_code 4 = .ok (.idiv, 1) := by decide +kernel
theorem d14_5 : decode prog_28_method_7_code 5 = .ok (.istore_n 3, 1) := by decide +kernel
theorem d14_6 : decode prog_28_method_7_code 6 = .ok (.aload_n 0, 1) := by decide +kernel
theorem d14_7 : decode prog_28_method_7_code 7 = .ok (.getfield 25, 3) := by decide +kernel
theorem d14_10 : decode prog_28_method_7_code 10 = .ok (.iload_n 3, 1) := by decide +kernel
theorem d14_11 : decode prog_28_method_7_code 11 = .ok (.aaload, 1) := by decide +kernel
theorem d14_12 : decode prog_28_method_7_code 12 = .ok (.ifnonnull 26, 3) := by decide +kernel
theorem d14_15 : decode prog_28_method_7_code 15 = .ok (.aload_n 0, 1) := by decide +kernel
theorem d14_16 : decode prog_28_method_7_code 16 = .ok (.getfield 25, 3) := by decide +kernel
theorem d14_19 : decode prog_28_method_7_code 19 = .ok (.iload_n 3, 1) := by decide +kernel
theorem d14_20 : decode prog_28_method_7_code 20 = .ok (.aload_n 0, 1) := by decide +kernel
theorem d14_21 : decode prog_28_method_7_code 21 = .ok (.getfield 20, 3) := by decide +kernel
theorem d14_24 : decode prog_28_method_7_code 24 = .ok (.sipush 8192, 3) := by decide +kernel
theorem d14_27 : decode prog_28_method_7_code 27 = .ok (.invokestatic 72, 3) := by decide +kernel
theorem pd_6 : parseMethodDescriptor "(II)I" = some ⟨[.int, .int], some .int⟩ := by decide +kernel
theorem d14_30 : decode prog_28_method_7_code 30 = .ok (.aload_n 0, 1) := by decide +kernel
theorem d14_31 : decode prog_28_method_7_code 31 = .ok (.getfield 14, 3) := by decide +kernel
theorem d14_34 : decode prog_28_method_7_code 34 = .ok (.imul, 1) := by decide +kernel
theorem d14_35 : decode prog_28_method_7_code 35 = .ok (.newarray .long, 2) := by decide +kernel
theorem d14_37 : decode prog_28_method_7_code 37 = .ok (.aastore, 1) := by decide +kernel
theorem d14_38 : decode prog_28_method_7_code 38 = .ok (.aload_n 2, 1) := by decide +kernel
theorem d14_39 : decode prog_28_method_7_code 39 = .ok (.iconst 0, 1) := by decide +kernel
theorem d14_40 : decode prog_28_method_7_code 40 = .ok (.aload_n 0, 1) := by decide +kernel
theorem d14_41 : decode prog_28_method_7_code 41 = .ok (.getfield 25, 3) := by decide +kernel
theorem d14_44 : decode prog_28_method_7_code 44 = .ok (.iload_n 3, 1) := by decide +kernel
theorem d14_45 : decode prog_28_method_7_code 45 = .ok (.aaload, 1) := by decide +kernel
theorem d14_46 : decode prog_28_method_7_code 46 = .ok (.iload_n 1, 1) := by decide +kernel
theorem d14_47 : decode prog_28_method_7_code 47 = .ok (.sipush 8192, 3) := by decide +kernel
theorem d14_50 : decode prog_28_method_7_code 50 = .ok (.irem, 1) := by decide +kernel
theorem d14_51 : decode prog_28_method_7_code 51 = .ok (.aload_n 0, 1) := by decide +kernel
theorem d14_52 : decode prog_28_method_7_code 52 = .ok (.getfield 14, 3) := by decide +kernel
theorem d14_55 : decode prog_28_method_7_code 55 = .ok (.imul, 1) := by decide +kernel
theorem d14_56 : decode prog_28_method_7_code 56 = .ok (.aload_n 0, 1) := by decide +kernel
theorem d14_57 : decode prog_28_method_7_code 57 = .ok (.getfield 14, 3) := by decide +kernel
theorem d14_60 : decode prog_28_method_7_code 60 = .ok (.invokestatic 78, 3) := by decide +kernel
theorem d14_63 : decode prog_28_method_7_code 63 = .ok (.aload_n 0, 1) := by decide +kernel
theorem d14_64 : decode prog_28_method_7_code 64 = .ok (.getfield 34, 3) := by decide +kernel
theorem d14_67 : decode prog_28_method_7_code 67 = .ok (.iload_n 1, 1) := by decide +kernel
theorem d14_68 : decode prog_28_method_7_code 68 = .ok (.invokevirtual 84, 3) := by decide +kernel
theorem d14_71 : decode prog_28_method_7_code 71 = .ok (.return_, 1) := by decide +kernel
def Q_rmPut0 (Z : State) (x : Nat) (pa : Nat) (bq : Nat) (wa : Nat) (ka : ClassId) (kw : ClassId) (zz : Int32) (ix : Int32) (ky : Nat) (kc : ClassId) (k0 : Int64) (k1 : Int64) (h0 : Heap) (n0 : Nat) (v : Option Value) (h : Heap) (L : List Loc) : Prop := ∃ (pg : Nat) (kp : ClassId), v = none ∧ Fr n0 L ∧ Keep h0 h [pa, bq, wa] ∧ own_p1 Z h x pa bq wa pg ka kw kp ((0 : Int64) ||| own_m ix) (own_up (fun _ => (0 : Int64)) ix k0) (own_up (fun _ => (0 : Int64)) ix k1) zz ∧ (h0.size ≤ pg ∧ pg < h.size)
set_option maxRecDepth 65536 in
set_option maxHeartbeats 40000000 in
theorem rmPut0 (l : Launch) (Z : State) (a0 : Array Value) (hw : own_H Z a0) (ws : List Jvm.Cond) (x : Nat) (pa : Nat) (bq : Nat) (wa : Nat) (ka : ClassId) (kw : ClassId) (zz : Int32) (ix : Int32) (ky : Nat) (kc : ClassId) (k0 : Int64) (k1 : Int64) (h0 : Heap) (n0 : Nat) (XO0 : Old Z n0 h0) (S_ad : Sta Z Z.heap "java/util/BitSet" "$assertionsDisabled" "Z" (.int 1)) (PQ : own_p0 Z h0 x pa bq wa ka kw zz) (V_k : Arv Z h0 ky kc .long (2 : Int32) [(.long k0), (.long k1)] (.long 0)) (D_1 : pa ≠ x ∧ bq ≠ x ∧ bq ≠ pa ∧ wa ≠ x ∧ wa ≠ pa ∧ wa ≠ bq ∧ n0 ≤ x ∧ n0 ≤ pa ∧ n0 ≤ bq ∧ n0 ≤ wa) (D_2 : ky ≠ pa ∧ ky ≠ wa) (s_i : own_s ix) (OV : OvrA Z ka .long "[J") :
    own_M l Z ym9 prog_28_method_7_code ws 4 none (own_R 3 1 32 42) #[(.ref x), (.int ix), (.ref ky)] h0 (Q_rmPut0 Z x pa bq wa ka kw zz ix ky kc k0 k1 h0 n0) := by
  refine own_open (plainFor_of_name pn_1) ?_
  intro p e s m below meth c s₁ hx hby hlk hret hml hown hnm hZ X0 e0
  have hW := own_hW hw
  have N0 := Fr.nil n0
  refine own_of (fun tt_ kk_ => castTop (ef_rmPut0 m x ix ky) kk_) ?_
  show own_go p e below s _ _ _ (s₁.setTop (mkF m 0 #[.val (.ref x), .val (.int ix), .val (.ref ky), .unset] []))
  obtain ⟨E_x, F_w, F_s, F_p, F_u, F_z, E_b, F_n, F_d, V_w, V_p⟩ := id PQ
  have K0_ : Keep h0 h0 [pa, bq, wa] := Keep.refl h0 [pa, bq, wa]
  have lt_x := own_lt E_x.lt
  have lt_pa := own_lt V_p.lt
  have lt_bq := own_lt E_b.lt
  have lt_wa := own_lt V_w.lt
  have lt_ky := own_lt V_k.lt
  refine own_of (fun tt_ => XS.iloadN X0.here hx rfl (hb hby d14_0) rfl) ?_
  refine own_of (fun tt_ => XS.sipush X0.here hx rfl (hb hby d14_1)) ?_
  refine own_of (fun tt_ => XS.idiv X0.here hx rfl (hb hby d14_4) rfl (by decide)) ?_
  show own_go p e below s _ _ _ (s₁.setTop (mkF m 5 #[.val (.ref x), .val (.int ix), .val (.ref ky), .unset] [(.int (ix / (8192 : Int32)))]))
  rw [own_s_div s_i]
  show own_go p e below s _ _ _ (s₁.setTop (mkF m 5 #[.val (.ref x), .val (.int ix), .val (.ref ky), .unset] [(.int 0)]))
  refine own_of (fun tt_ => XS.istoreN X0.here hx rfl (hb hby d14_5) rfl (l' := #[.val (.ref x), .val (.int ix), .val (.ref ky), .val (.int 0)]) rfl) ?_
  refine own_of (fun tt_ => XS.aloadN X0.here hx rfl (hb hby d14_6) rfl rfl) ?_
  obtain ⟨T1, X1, e1, st1⟩ := getF X0 hx hZ hown (host := "") (Or.inl (hW 15 _ rfl)) Via.refl e0 F_p (g := (mkF m 7 #[.val (.ref x), .val (.int ix), .val (.ref ky), .val (.int 0)] [(.ref x)])) rfl rfl (hb hby d14_7)
  refine own_of st1 ?_
  show own_go p e below s _ _ _ (T1.setTop (mkF m 10 #[.val (.ref x), .val (.int ix), .val (.ref ky), .val (.int 0)] [(.ref pa)]))
  refine own_of (fun tt_ => XS.iloadN X1.here hx rfl (hb hby d14_10) rfl) ?_
  obtain ⟨cl2, Ar2, q2, S2, Ng2, H2, G2⟩ := id V_p
  have hin2 : ¬ ((0 : Int32) < 0 ∨ cl2.slots.size ≤ ((0 : Int32)).toNatClampNeg) := inb_of S2 ⟨by decide, by decide⟩
  have hat2 : cl2.slots[((0 : Int32)).toNatClampNeg]? = some .null := H2 0 (by rw [S2]; decide)
  refine own_of (fun tt_ => X1.aaload hx (j := (0 : Int32)) (v := .null) (by rw [e1]; exact Ar2.1) (State.isArrayOf_alike hZ.alike Ar2.2.1) rfl Ar2.2.2 hin2 hat2 (g := (mkF m 11 #[.val (.ref x), .val (.int ix), .val (.ref ky), .val (.int 0)] [(.int 0), (.ref pa)])) rfl rfl (hb hby d14_11) _) ?_
  show own_go p e below s _ _ _ (T1.setTop (mkF m 12 #[.val (.ref x), .val (.int ix), .val (.ref ky), .val (.int 0)] [.null]))
  refine own_of (fun tt_ => XS.ifnonnullNo X1.here hx rfl (hb hby d14_12) rfl) ?_
  show own_go p e below s _ _ _ (T1.setTop (mkF m 15 #[.val (.ref x), .val (.int ix), .val (.ref ky), .val (.int 0)] []))
  refine own_of (fun tt_ => XS.aloadN X1.here hx rfl (hb hby d14_15) rfl rfl) ?_
  obtain ⟨T3, X3, e3, st3⟩ := getF X1 hx hZ hown (host := "") (Or.inl (hW 15 _ rfl)) Via.refl e1 F_p (g := (mkF m 16 #[.val (.ref x), .val (.int ix), .val (.ref ky), .val (.int 0)] [(.ref x)])) rfl rfl (hb hby d14_16)
  refine own_of st3 ?_
  show own_go p e below s _ _ _ (T3.setTop (mkF m 19 #[.val (.ref x), .val (.int ix), .val (.ref ky), .val (.int 0)] [(.ref pa)]))
  refine own_of (fun tt_ => XS.iloadN X3.here hx rfl (hb hby d14_19) rfl) ?_
  refine own_of (fun tt_ => XS.aloadN X3.here hx rfl (hb hby d14_20) rfl rfl) ?_
  obtain ⟨T4, X4, e4, st4⟩ := getF X3 hx hZ hown (host := "") (Or.inl (hW 11 _ rfl)) Via.refl e3 F_s (g := (mkF m 21 #[.val (.ref x), .val (.int ix), .val (.ref ky), .val (.int 0)] [(.ref x), (.int 0), (.ref pa)])) rfl rfl (hb hby d14_21)
  refine own_of st4 ?_
  show own_go p e below s _ _ _ (T4.setTop (mkF m 24 #[.val (.ref x), .val (.int ix), .val (.ref ky), .val (.int 0)] [(.int 16), (.int 0), (.ref pa)]))
  refine own_of (fun tt_ => XS.sipush X4.here hx rfl (hb hby d14_24)) ?_
  show own_go p e below s _ _ _ (T4.setTop (mkF m 27 #[.val (.ref x), .val (.int ix), .val (.ref ky), .val (.int 0)] [(.int 8192), (.int 16), (.int 0), (.ref pa)]))
  obtain ⟨_, _, ⟨T5, L5, k5, n5⟩, -, X5, ⟨Lc5, hQ5, l5, y5, z5⟩, st5⟩ := Jvm.LawKit.callS X4 hx (y := (⟨"java/lang/Math", "min", "(II)I"⟩ : MethodName)) hown (mvT hZ (hW 85 _ rfl)) (mvT hZ (hW 86 _ rfl)) (mvT hZ (hW 87 _ rfl)) (mvT hZ (hW 88 _ rfl)) (by decide) (backOf (W := 2) (rmMin l Z a0 hw [] h0 n0 XO0) hZ (hW 88 _ rfl) (hW 87 _ rfl) (by decide) (by decide)) (g := (mkF m 27 #[.val (.ref x), .val (.int ix), .val (.ref ky), .val (.int 0)] [(.int 8192), (.int 16), (.int 0), (.ref pa)])) rfl (by rw [hml]; rfl) (argsL := [(.int 16), (.int 8192)]) (rest := [(.int 0), (.ref pa)]) (lenOf pd_6 rfl) rfl (by show 2 * 0 + _ ≤ _; exact Nat.le_of_eq rfl) (hb hby d14_27) (fun _ _ => ⟨rfl, e4, (by decide : 0 + 0 ≤ _), (by decide : 0 + 0 ≤ _)⟩)
  dsimp only [Pt.U, Pt.locs, Pt.cells, Pt.slots] at X5 l5 y5 z5 st5 hQ5
  subst l5 y5 z5
  obtain ⟨rfl, Nq5, eh5⟩ := hQ5
  have N5 := Fr.app N0 Nq5
  refine own_of st5 ?_
  show own_go p e below s _ _ _ (T5.setTop (mkF m 30 #[.val (.ref x), .val (.int ix), .val (.ref ky), .val (.int 0)] [(.int 16), (.int 0), (.ref pa)]))
  refine own_of (fun tt_ => XS.aloadN X5.here hx rfl (hb hby d14_30) rfl rfl) ?_
  obtain ⟨T6, X6, e6, st6⟩ := getF X5 hx hZ hown (host := "") (Or.inl (hW 9 _ rfl)) Via.refl eh5 F_w (g := (mkF m 31 #[.val (.ref x), .val (.int ix), .val (.ref ky), .val (.int 0)] [(.ref x), (.int 16), (.int 0), (.ref pa)])) rfl rfl (hb hby d14_31)
  refine own_of st6 ?_
  show own_go p e below s _ _ _ (T6.setTop (mkF m 34 #[.val (.ref x), .val (.int ix), .val (.ref ky), .val (.int 0)] [(.int 2), (.int 16), (.int 0), (.ref pa)]))
  refine own_of (fun tt_ => XS.imul X6.here hx rfl (hb hby d14_34) rfl) ?_
  show own_go p e below s _ _ _ (T6.setTop (mkF m 35 #[.val (.ref x), .val (.int ix), .val (.ref ky), .val (.int 0)] [(.int 32), (.int 0), (.ref pa)]))
  obtain ⟨T7, h7, k7, X7, e7, E7, A7, Ea7, st7⟩ := newPE X6 hx hZ (hW 36 _ rfl) e6 (g := (mkF m 35 #[.val (.ref x), .val (.int ix), .val (.ref ky), .val (.int 0)] [(.int 32), (.int 0), (.ref pa)])) rfl (hb hby d14_35) rfl (by decide) (cap := 32) (by decide) (by decide) (by decide) (by decide) rfl
  obtain ⟨b7, g7⟩ : ∃ z, z = h0.size := ⟨_, rfl⟩
  rw [← g7] at A7 st7 Ea7
  refine own_of st7 ?_
  have lt7 := own_lt A7.lt
  have sz7 : h0.size ≤ h7.size := E7.1
  have O7 : Old Z n0 h7 := XO0.ext E7
  have z7 : n0 ≤ b7 := by have := XO0.1 ▸ XO0.2.1; omega
  have K7 : Keep h0 h7 [pa, bq, wa] := K0_.ext E7
  have V7 : Arv Z h7 b7 k7 .long (32 : Int32) [(.long 0), (.long 0), (.long 0), (.long 0), (.long 0), (.long 0), (.long 0), (.long 0), (.long 0), (.long 0), (.long 0), (.long 0), (.long 0), (.long 0), (.long 0), (.long 0), (.long 0), (.long 0), (.long 0), (.long 0), (.long 0), (.long 0), (.long 0), (.long 0), (.long 0), (.long 0), (.long 0), (.long 0), (.long 0), (.long 0), (.long 0), (.long 0)] (.long 0) := (Arv.new A7 (by decide)).pad (pad_rep [] (.long 0) 32)
  show own_go p e below s _ _ _ (T7.setTop (mkF m 37 #[.val (.ref x), .val (.int ix), .val (.ref ky), .val (.int 0)] [(.ref b7), (.int 0), (.ref pa)]))
  have Vpg : Arv Z h7 b7 k7 .long (32 : Int32) (own_pg (fun _ => (0 : Int64)) (fun _ => (0 : Int64))) (.long 0) := V7
  have f8 : Arv Z h7 pa ka (.array .long) (1 : Int32) [.null] .null := (V_p.ext E7)
  obtain ⟨cl9, Ar9, q9, S9, Ng9, H9, G9⟩ := id f8
  have hin9 : ¬ ((0 : Int32) < 0 ∨ cl9.slots.size ≤ ((0 : Int32)).toNatClampNeg) := inb_of S9 ⟨by decide, by decide⟩
  obtain ⟨T9, h9, X9, e9, W9, st9⟩ := stR X7 hx hZ e7 Ar9 (j := (0 : Int32)) hin9 rfl (Sto.ofVA Ar9 q9 OV (Ins.self Ea7)) (g := (mkF m 37 #[.val (.ref x), .val (.int ix), .val (.ref ky), .val (.int 0)] [(.ref b7), (.int 0), (.ref pa)])) rfl rfl (hb hby d14_37)
  have V9 : Arv Z h9 pa ka (.array .long) (1 : Int32) [(.ref b7)] .null := Arv.set Ar9 q9 S9 Ng9 H9 G9 rfl W9 (0) rfl (Nat.le_of_ble_eq_true rfl)
  refine own_of st9 ?_
  have N9 := Fr.snoc X9 N5 (by omega : n0 ≤ pa)
  have sz9 : h9.size = h7.size := W9.size
  have O9 : Old Z n0 h9 := O7.wr W9 (by omega)
  have K9 : Keep h0 h9 [pa, bq, wa] := K7.wr W9 (Or.inl (List.mem_of_getElem? (i := 0) rfl))
  show own_go p e below s _ _ _ (T9.setTop (mkF m 38 #[.val (.ref x), .val (.int ix), .val (.ref ky), .val (.int 0)] []))
  refine own_of (fun tt_ => XS.aloadN X9.here hx rfl (hb hby d14_38) rfl rfl) ?_
  refine own_of (fun tt_ => XS.iconst X9.here hx rfl (hb hby d14_39)) ?_
  refine own_of (fun tt_ => XS.aloadN X9.here hx rfl (hb hby d14_40) rfl rfl) ?_
  have f10 : Fld Z h9 x "com/example/grantway/grantway/protocol/PackedSet" "pages" "[[J" (.ref pa) := ((F_p.ext E7).other W9 (Or.inl (own_ne (by omega))))
  obtain ⟨T11, X11, e11, st11⟩ := getF X9 hx hZ hown (host := "") (Or.inl (hW 15 _ rfl)) Via.refl e9 f10 (g := (mkF m 41 #[.val (.ref x), .val (.int ix), .val (.ref ky), .val (.int 0)] [(.ref x), (.int 0), (.ref ky)])) rfl rfl (hb hby d14_41)
  refine own_of st11 ?_
  show own_go p e below s _ _ _ (T11.setTop (mkF m 44 #[.val (.ref x), .val (.int ix), .val (.ref ky), .val (.int 0)] [(.ref pa), (.int 0), (.ref ky)]))
  refine own_of (fun tt_ => XS.iloadN X11.here hx rfl (hb hby d14_44) rfl) ?_
  obtain ⟨cl12, Ar12, q12, S12, Ng12, H12, G12⟩ := id V9
  have hin12 : ¬ ((0 : Int32) < 0 ∨ cl12.slots.size ≤ ((0 : Int32)).toNatClampNeg) := inb_of S12 ⟨by decide, by decide⟩
  have hat12 : cl12.slots[((0 : Int32)).toNatClampNeg]? = some (.ref b7) := H12 0 (by rw [S12]; decide)
  refine own_of (fun tt_ => X11.aaload hx (j := (0 : Int32)) (v := (.ref b7)) (by rw [e11]; exact Ar12.1) (State.isArrayOf_alike hZ.alike Ar12.2.1) rfl Ar12.2.2 hin12 hat12 (g := (mkF m 45 #[.val (.ref x), .val (.int ix), .val (.ref ky), .val (.int 0)] [(.int 0), (.ref pa), (.int 0), (.ref ky)])) rfl rfl (hb hby d14_45) _) ?_
  show own_go p e below s _ _ _ (T11.setTop (mkF m 46 #[.val (.ref x), .val (.int ix), .val (.ref ky), .val (.int 0)] [(.ref b7), (.int 0), (.ref ky)]))
  refine own_of (fun tt_ => XS.iloadN X11.here hx rfl (hb hby d14_46) rfl) ?_
  refine own_of (fun tt_ => XS.sipush X11.here hx rfl (hb hby d14_47)) ?_
  refine own_of (fun tt_ => iremM X11 hx rfl (hb hby d14_50) rfl (by decide)) ?_
  show own_go p e below s _ _ _ (T11.setTop (mkF m 51 #[.val (.ref x), .val (.int ix), .val (.ref ky), .val (.int 0)] [(.int (ix % (8192 : Int32))), (.ref b7), (.int 0), (.ref ky)]))
  rw [own_s_rem s_i]
  show own_go p e below s _ _ _ (T11.setTop (mkF m 51 #[.val (.ref x), .val (.int ix), .val (.ref ky), .val (.int 0)] [(.int ix), (.ref b7), (.int 0), (.ref ky)]))
  refine own_of (fun tt_ => XS.aloadN X11.here hx rfl (hb hby d14_51) rfl rfl) ?_
  have f13 : Fld Z h9 x "com/example/grantway/grantway/protocol/PackedSet" "width" "I" (.int 2) := ((F_w.ext E7).other W9 (Or.inl (own_ne (by omega))))
  obtain ⟨T14, X14, e14, st14⟩ := getF X11 hx hZ hown (host := "") (Or.inl (hW 9 _ rfl)) Via.refl e11 f13 (g := (mkF m 52 #[.val (.ref x), .val (.int ix), .val (.ref ky), .val (.int 0)] [(.ref x), (.int ix), (.ref b7), (.int 0), (.ref ky)])) rfl rfl (hb hby d14_52)
  refine own_of st14 ?_
  show own_go p e below s _ _ _ (T14.setTop (mkF m 55 #[.val (.ref x), .val (.int ix), .val (.ref ky), .val (.int 0)] [(.int 2), (.int ix), (.ref b7), (.int 0), (.ref ky)]))
  refine own_of (fun tt_ => XS.imul X14.here hx rfl (hb hby d14_55) rfl) ?_
  show own_go p e below s _ _ _ (T14.setTop (mkF m 56 #[.val (.ref x), .val (.int ix), .val (.ref ky), .val (.int 0)] [(.int (ix * (2 : Int32))), (.ref b7), (.int 0), (.ref ky)]))
  refine own_of (fun tt_ => XS.aloadN X14.here hx rfl (hb hby d14_56) rfl rfl) ?_
  obtain ⟨T15, X15, e15, st15⟩ := getF X14 hx hZ hown (host := "") (Or.inl (hW 9 _ rfl)) Via.refl e14 f13 (g := (mkF m 57 #[.val (.ref x), .val (.int ix), .val (.ref ky), .val (.int 0)] [(.ref x), (.int (ix * (2 : Int32))), (.ref b7), (.int 0), (.ref ky)])) rfl rfl (hb hby d14_57)
  refine own_of st15 ?_
  show own_go p e below s _ _ _ (T15.setTop (mkF m 60 #[.val (.ref x), .val (.int ix), .val (.ref ky), .val (.int 0)] [(.int 2), (.int (ix * (2 : Int32))), (.ref b7), (.int 0), (.ref ky)]))
  have f16 : Arv Z h9 ky kc .long (2 : Int32) [(.long k0), (.long k1)] (.long 0) := ((V_k.ext E7).other W9 (own_ne (by omega)))
  have f17 : Arv Z h9 b7 k7 .long (32 : Int32) (own_pg (fun _ => (0 : Int64)) (fun _ => (0 : Int64))) (.long 0) := (Vpg.other W9 (own_ne (by omega)))
  obtain ⟨T18, h18, L18, X18, e18, N18, Kp18, V18, st18⟩ := cpA X15 hx hZ hown (hW 90 _ rfl) (hW 93 _ rfl) (hW 91 _ rfl) (hW 92 _ rfl) e15 (us := [Value.long k0, Value.long k1]) f16 f17 (Or.inl ⟨rfl, rfl⟩) (by decide) (own_s_dp s_i) (by decide) (by decide) (own_s_dn s_i) rfl (by simpa using (own_pg_len _ _ ▸ own_s_dn s_i)) N9 (by omega : n0 ≤ b7) (g := (mkF m 60 #[.val (.ref x), .val (.int ix), .val (.ref ky), .val (.int 0)] [(.int 2), (.int (ix * (2 : Int32))), (.ref b7), (.int 0), (.ref ky)])) rfl (by rw [hml]; rfl) rfl (hb hby d14_60) (by decide) (W := 0) (by show 2 * 0 + _ ≤ _; exact Nat.le_of_eq rfl) (by decide +kernel)
  rw [own_pg_set s_i] at V18
  refine own_of st18 ?_
  have sz18 : h9.size ≤ h18.size := Kp18.1
  have O18 : Old Z n0 h18 := O9.keep Kp18 (allS (by omega) all0)
  have K18 : Keep h0 h18 [pa, bq, wa] := K9.trans Kp18 (allS (Or.inr (by omega)) all0)
  show own_go p e below s _ _ _ (T18.setTop (mkF m 63 #[.val (.ref x), .val (.int ix), .val (.ref ky), .val (.int 0)] []))
  refine own_of (fun tt_ => XS.aloadN X18.here hx rfl (hb hby d14_63) rfl rfl) ?_
  have f19 : Fld Z h18 x "com/example/grantway/grantway/protocol/PackedSet" "used" "Ljava/util/BitSet;" (.ref bq) := (((F_u.ext E7).other W9 (Or.inl (own_ne (by omega)))).keep Kp18 (ninS (own_ne (by omega)) nin0))
  obtain ⟨T20, X20, e20, st20⟩ := getF X18 hx hZ hown (host := "") (Or.inl (hW 39 _ rfl)) Via.refl e18 f19 (g := (mkF m 64 #[.val (.ref x), .val (.int ix), .val (.ref ky), .val (.int 0)] [(.ref x)])) rfl rfl (hb hby d14_64)
  refine own_of st20 ?_
  show own_go p e below s _ _ _ (T20.setTop (mkF m 67 #[.val (.ref x), .val (.int ix), .val (.ref ky), .val (.int 0)] [(.ref bq)]))
  refine own_of (fun tt_ => XS.iloadN X20.here hx rfl (hb hby d14_67) rfl) ?_
  show own_go p e below s _ _ _ (T20.setTop (mkF m 68 #[.val (.ref x), .val (.int ix), .val (.ref ky), .val (.int 0)] [(.int ix), (.ref bq)]))
  have f21 : Exa Z h18 bq "java/util/BitSet" := (((E_b.ext E7).wr W9).keep Kp18)
  have f22 : Fld Z h18 bq "java/util/BitSet" "wordsInUse" "I" (.int 0) := (((F_n.ext E7).other W9 (Or.inl (own_ne (by omega)))).keep Kp18 (ninS (own_ne (by omega)) nin0))
  have f23 : Fld Z h18 bq "java/util/BitSet" "words" "[J" (.ref wa) := (((F_d.ext E7).other W9 (Or.inl (own_ne (by omega)))).keep Kp18 (ninS (own_ne (by omega)) nin0))
  have f24 : Arv Z h18 wa kw .long (1 : Int32) [(.long 0)] (.long 0) := (((V_w.ext E7).other W9 (own_ne (by omega))).keep Kp18 (ninS (own_ne (by omega)) nin0))
  obtain ⟨cq25, kq25, q25a, q25b, q25c⟩ := isOf hZ e20 f21
  obtain ⟨_, _, ⟨T25, L25, k25, n25⟩, -, X25, ⟨Lc25, hQ25, l25, y25, z25⟩, st25⟩ := X20.virtualBack hx (y := ym8) (z := ym8) hown (mvT hZ (hW 94 _ rfl)) (mvT hZ (hW 95 _ rfl)) (notFace_of_selects (args := #[]) (mvT hZ (hW 97 _ rfl))) (mvT hZ (hW 97 _ rfl)) (mvT hZ (hW 96 _ rfl)) (by decide) (backOf (W := 0) (rmSet0 l Z a0 hw [] bq wa kw ix h18 n0 O18 S_ad f21 f22 f23 f24 (by omega) (by omega) (by omega) s_i) hZ (hW 98 _ rfl) (hW 19 _ rfl) (by decide) (by decide)) q25a q25c (g := (mkF m 68 #[.val (.ref x), .val (.int ix), .val (.ref ky), .val (.int 0)] [(.int ix), (.ref bq)])) rfl (by rw [hml]; rfl) (Steps.refl _) (argsL := [(.int ix)]) (rest := []) (lenOf pd_2 rfl) rfl (by show 2 * 0 + _ ≤ _; exact Nat.le_of_eq rfl) (hb hby d14_68) (fun _ _ => ⟨rfl, e20, (by decide : 1 + 0 ≤ _), (by decide : 32 + 0 ≤ _)⟩)
  dsimp only [Pt.U, Pt.locs, Pt.cells, Pt.slots] at X25 l25 y25 z25 st25 hQ25
  subst l25 y25 z25
  obtain ⟨rfl, Nq25, Kp25, Eb25, Fn25, Fd25, Vw25⟩ := hQ25
  have N25 := Fr.app N18 Nq25
  refine own_of (fun tt_ kk_ => st25.trans kk_) ?_
  have sz25 : h18.size ≤ T25.heap.size := Kp25.1
  have O25 : Old Z n0 T25.heap := O18.keep Kp25 (allS (by omega) (allS (by omega) all0))
  have K25 : Keep h0 T25.heap [pa, bq, wa] := K18.trans Kp25 (allS (Or.inl (List.mem_of_getElem? (i := 1) rfl)) (allS (Or.inl (List.mem_of_getElem? (i := 2) rfl)) all0))
  show own_go p e below s _ _ _ (T25.setTop (mkF m 71 #[.val (.ref x), .val (.int ix), .val (.ref ky), .val (.int 0)] []))
  refine own_retV X25 hx hlk hret (hb hby d14_71) (by decide) (by decide) ?_
  skip
  have f26 : Exa Z T25.heap x "com/example/grantway/grantway/protocol/PackedSet" := ((((E_x.ext E7).wr W9).keep Kp18).keep Kp25)
  have f27 : Fld Z T25.heap x "com/example/grantway/grantway/protocol/PackedSet" "width" "I" (.int 2) := ((f13.keep Kp18 (ninS (own_ne (by omega)) nin0)).keep Kp25 (ninS (own_ne (by omega)) (ninS (own_ne (by omega)) nin0)))
  have f28 : Fld Z T25.heap x "com/example/grantway/grantway/protocol/PackedSet" "slots" "I" (.int 16) := ((((F_s.ext E7).other W9 (Or.inl (own_ne (by omega)))).keep Kp18 (ninS (own_ne (by omega)) nin0)).keep Kp25 (ninS (own_ne (by omega)) (ninS (own_ne (by omega)) nin0)))
  have f29 : Fld Z T25.heap x "com/example/grantway/grantway/protocol/PackedSet" "pages" "[[J" (.ref pa) := ((f10.keep Kp18 (ninS (own_ne (by omega)) nin0)).keep Kp25 (ninS (own_ne (by omega)) (ninS (own_ne (by omega)) nin0)))
  have f30 : Fld Z T25.heap x "com/example/grantway/grantway/protocol/PackedSet" "used" "Ljava/util/BitSet;" (.ref bq) := (f19.keep Kp25 (ninS (own_ne (by omega)) (ninS (own_ne (by omega)) nin0)))
  have f31 : Fld Z T25.heap x "com/example/grantway/grantway/protocol/PackedSet" "size" "I" (.int zz) := ((((F_z.ext E7).other W9 (Or.inl (own_ne (by omega)))).keep Kp18 (ninS (own_ne (by omega)) nin0)).keep Kp25 (ninS (own_ne (by omega)) (ninS (own_ne (by omega)) nin0)))
  have f32 : Arv Z T25.heap pa ka (.array .long) (1 : Int32) [(.ref b7)] .null := ((V9.keep Kp18 (ninS (own_ne (by omega)) nin0)).keep Kp25 (ninS (own_ne (by omega)) (ninS (own_ne (by omega)) nin0)))
  have f33 : Arv Z T25.heap b7 k7 .long (32 : Int32) (own_pg (own_up (fun _ => (0 : Int64)) ix k0) (own_up (fun _ => (0 : Int64)) ix k1)) (.long 0) := (V18.keep Kp25 (ninS (own_ne (by omega)) (ninS (own_ne (by omega)) nin0)))
  exact ⟨b7, k7, rfl, N25, K25, ⟨f26, f27, f28, f29, f30, f31, Eb25, Fn25, Fd25, Vw25, f32, f33⟩, by omega⟩
theorem ef_rmPut1 (m : MethodId) (x0 : Nat) (x1 : Int32) (x2 : Nat) : entryFrame m #[(.ref x0), (.int x1), (.ref x2)] 4 = mkF m 0 #[.val (.ref x0), .val (.int x1), .val (.ref x2), .unset] [] := by first | (simp [entryFrame, mkF, argsToLocals, Value.category]; done) | rfl
def Q_rmPut1 (Z : State) (x : Nat) (pa : Nat) (bq : Nat) (wa : Nat) (pg : Nat) (ka : ClassId) (kw : ClassId) (kp : ClassId) (W : Int64) (K0 : Int32 → Int64) (K1 : Int32 → Int64) (zz : Int32) (ix : Int32) (ky : Nat) (kc : ClassId) (k0 : Int64) (k1 : Int64) (h0 : Heap) (n0 : Nat) (v : Option Value) (h : Heap) (L : List Loc) : Prop := v = none ∧ Fr n0 L ∧ Keep h0 h [bq, wa, pg] ∧ own_p1 Z h x pa bq wa pg ka kw kp (W ||| own_m ix) (own_up K0 ix k0) (own_up K1 ix k1) zz
set_option maxRecDepth 65536 in
set_option maxHeartbeats 40000000 in
theorem rmPut1 (l : Launch) (Z : State) (a0 : Array Value) (hw : own_H Z a0) (ws : List Jvm.Cond) (x : Nat) (pa : Nat) (bq : Nat) (wa : Nat) (pg : Nat) (ka : ClassId) (kw : ClassId) (kp : ClassId) (W : Int64) (K0 : Int32 → Int64) (K1 : Int32 → Int64) (zz : Int32) (ix : Int32) (ky : Nat) (kc : ClassId) (k0 : Int64) (k1 : Int64) (h0 : Heap) (n0 : Nat) (XO0 : Old Z n0 h0) (S_ad : Sta Z Z.heap "java/util/BitSet" "$assertionsDisabled" "Z" (.int 1)) (PQ : own_p1 Z h0 x pa bq wa pg ka kw kp W K0 K1 zz) (V_k : Arv Z h0 ky kc .long (2 : Int32) [(.long k0), (.long k1)] (.long 0)) (D_1 : pa ≠ x ∧ bq ≠ x ∧ bq ≠ pa ∧ wa ≠ x ∧ wa ≠ pa ∧ wa ≠ bq ∧ pg ≠ x ∧ pg ≠ pa ∧ pg ≠ bq ∧ pg ≠ wa ∧ n0 ≤ x ∧ n0 ≤ pa ∧ n0 ≤ bq ∧ n0 ≤ wa ∧ n0 ≤ pg) (D_2 : ky ≠ pa ∧ ky ≠ wa ∧ ky ≠ pg) (s_i : own_s ix) :
    own_M l Z ym9 prog_28_method_7_code ws 4 none (own_R 2 0 0 40) #[(.ref x), (.int ix), (.ref ky)] h0 (Q_rmPut1 Z x pa bq wa pg ka kw kp W K0 K1 zz ix ky kc k0 k1 h0 n0) := by
  refine own_open (plainFor_of_name pn_1) ?_
  intro p e s m below meth c s₁ hx hby hlk hret hml hown hnm hZ X0 e0
  have hW := own_hW hw
  have N0 := Fr.nil n0
  refine own_of (fun tt_ kk_ => castTop (ef_rmPut1 m x ix ky) kk_) ?_
  show own_go p e below s _ _ _ (s₁.setTop (mkF m 0 #[.val (.ref x), .val (.int ix), .val (.ref ky), .unset] []))
  obtain ⟨E_x, F_w, F_s, F_p, F_u, F_z, E_b, F_n, F_d, V_w, V_p, V_g⟩ := id PQ
  have K0_ : Keep h0 h0 [bq, wa, pg] := Keep.refl h0 [bq, wa, pg]
  have lt_x := own_lt E_x.lt
  have lt_pa := own_lt V_p.lt
  have lt_bq := own_lt E_b.lt
  have lt_wa := own_lt V_w.lt
  have lt_pg := own_lt V_g.lt
  have lt_ky := own_lt V_k.lt
  refine own_of (fun tt_ => XS.iloadN X0.here hx rfl (hb hby d14_0) rfl) ?_
  refine own_of (fun tt_ => XS.sipush X0.here hx rfl (hb hby d14_1)) ?_
  refine own_of (fun tt_ => XS.idiv X0.here hx rfl (hb hby d14_4) rfl (by decide)) ?_
  show own_go p e below s _ _ _ (s₁.setTop (mkF m 5 #[.val (.ref x), .val (.int ix), .val (.ref ky), .unset] [(.int (ix / (8192 : Int32)))]))
  rw [own_s_div s_i]
  show own_go p e below s _ _ _ (s₁.setTop (mkF m 5 #[.val (.ref x), .val (.int ix), .val (.ref ky), .unset] [(.int 0)]))
  refine own_of (fun tt_ => XS.istoreN X0.here hx rfl (hb hby d14_5) rfl (l' := #[.val (.ref x), .val (.int ix), .val (.ref ky), .val (.int 0)]) rfl) ?_
  refine own_of (fun tt_ => XS.aloadN X0.here hx rfl (hb hby d14_6) rfl rfl) ?_
  obtain ⟨T1, X1, e1, st1⟩ := getF X0 hx hZ hown (host := "") (Or.inl (hW 15 _ rfl)) Via.refl e0 F_p (g := (mkF m 7 #[.val (.ref x), .val (.int ix), .val (.ref ky), .val (.int 0)] [(.ref x)])) rfl rfl (hb hby d14_7)
  refine own_of st1 ?_
  show own_go p e below s _ _ _ (T1.setTop (mkF m 10 #[.val (.ref x), .val (.int ix), .val (.ref ky), .val (.int 0)] [(.ref pa)]))
  refine own_of (fun tt_ => XS.iloadN X1.here hx rfl (hb hby d14_10) rfl) ?_
  obtain ⟨cl2, Ar2, q2, S2, Ng2, H2, G2⟩ := id V_p
  have hin2 : ¬ ((0 : Int32) < 0 ∨ cl2.slots.size ≤ ((0 : Int32)).toNatClampNeg) := inb_of S2 ⟨by decide, by decide⟩
  have hat2 : cl2.slots[((0 : Int32)).toNatClampNeg]? = some (.ref pg) := H2 0 (by rw [S2]; decide)
  refine own_of (fun tt_ => X1.aaload hx (j := (0 : Int32)) (v := (.ref pg)) (by rw [e1]; exact Ar2.1) (State.isArrayOf_alike hZ.alike Ar2.2.1) rfl Ar2.2.2 hin2 hat2 (g := (mkF m 11 #[.val (.ref x), .val (.int ix), .val (.ref ky), .val (.int 0)] [(.int 0), (.ref pa)])) rfl rfl (hb hby d14_11) _) ?_
  show own_go p e below s _ _ _ (T1.setTop (mkF m 12 #[.val (.ref x), .val (.int ix), .val (.ref ky), .val (.int 0)] [(.ref pg)]))
  refine own_of (fun tt_ => XS.ifnonnullYes X1.here hx rfl (pc0 := 12) (pc' := 38) rfl (hb hby d14_12) rfl (by decide) (by decide)) ?_
  show own_go p e below s _ _ _ (T1.setTop (mkF m 38 #[.val (.ref x), .val (.int ix), .val (.ref ky), .val (.int 0)] []))
  refine own_of (fun tt_ => XS.aloadN X1.here hx rfl (hb hby d14_38) rfl rfl) ?_
  refine own_of (fun tt_ => XS.iconst X1.here hx rfl (hb hby d14_39)) ?_
  refine own_of (fun tt_ => XS.aloadN X1.here hx rfl (hb hby d14_40) rfl rfl) ?_
  obtain ⟨T3, X3, e3, st3⟩ := getF X1 hx hZ hown (host := "") (Or.inl (hW 15 _ rfl)) Via.refl e1 F_p (g := (mkF m 41 #[.val (.ref x), .val (.int ix), .val (.ref ky), .val (.int 0)] [(.ref x), (.int 0), (.ref ky)])) rfl rfl (hb hby d14_41)
  refine own_of st3 ?_
  show own_go p e below s _ _ _ (T3.setTop (mkF m 44 #[.val (.ref x), .val (.int ix), .val (.ref ky), .val (.int 0)] [(.ref pa), (.int 0), (.ref ky)]))
  refine own_of (fun tt_ => XS.iloadN X3.here hx rfl (hb hby d14_44) rfl) ?_
  obtain ⟨cl4, Ar4, q4, S4, Ng4, H4, G4⟩ := id V_p
  have hin4 : ¬ ((0 : Int32) < 0 ∨ cl4.slots.size ≤ ((0 : Int32)).toNatClampNeg) := inb_of S4 ⟨by decide, by decide⟩
  have hat4 : cl4.slots[((0 : Int32)).toNatClampNeg]? = some (.ref pg) := H4 0 (by rw [S4]; decide)
  refine own_of (fun tt_ => X3.aaload hx (j := (0 : Int32)) (v := (.ref pg)) (by rw [e3]; exact Ar4.1) (State.isArrayOf_alike hZ.alike Ar4.2.1) rfl Ar4.2.2 hin4 hat4 (g := (mkF m 45 #[.val (.ref x), .val (.int ix), .val (.ref ky), .val (.int 0)] [(.int 0), (.ref pa), (.int 0), (.ref ky)])) rfl rfl (hb hby d14_45) _) ?_
  show own_go p e below s _ _ _ (T3.setTop (mkF m 46 #[.val (.ref x), .val (.int ix), .val (.ref ky), .val (.int 0)] [(.ref pg), (.int 0), (.ref ky)]))
  refine own_of (fun tt_ => XS.iloadN X3.here hx rfl (hb hby d14_46) rfl) ?_
  refine own_of (fun tt_ => XS.sipush X3.here hx rfl (hb hby d14_47)) ?_
  refine own_of (fun tt_ => iremM X3 hx rfl (hb hby d14_50) rfl (by decide)) ?_
  show own_go p e below s _ _ _ (T3.setTop (mkF m 51 #[.val (.ref x), .val (.int ix), .val (.ref ky), .val (.int 0)] [(.int (ix % (8192 : Int32))), (.ref pg), (.int 0), (.ref ky)]))
  rw [own_s_rem s_i]
  show own_go p e below s _ _ _ (T3.setTop (mkF m 51 #[.val (.ref x), .val (.int ix), .val (.ref ky), .val (.int 0)] [(.int ix), (.ref pg), (.int 0), (.ref ky)]))
  refine own_of (fun tt_ => XS.aloadN X3.here hx rfl (hb hby d14_51) rfl rfl) ?_
  obtain ⟨T5, X5, e5, st5⟩ := getF X3 hx hZ hown (host := "") (Or.inl (hW 9 _ rfl)) Via.refl e3 F_w (g := (mkF m 52 #[.val (.ref x), .val (.int ix), .val (.ref ky), .val (.int 0)] [(.ref x), (.int ix), (.ref pg), (.int 0), (.ref ky)])) rfl rfl (hb hby d14_52)
  refine own_of st5 ?_
  show own_go p e below s _ _ _ (T5.setTop (mkF m 55 #[.val (.ref x), .val (.int ix), .val (.ref ky), .val (.int 0)] [(.int 2), (.int ix), (.ref pg), (.int 0), (.ref ky)]))
  refine own_of (fun tt_ => XS.imul X5.here hx rfl (hb hby d14_55) rfl) ?_
  show own_go p e below s _ _ _ (T5.setTop (mkF m 56 #[.val (.ref x), .val (.int ix), .val (.ref ky), .val (.int 0)] [(.int (ix * (2 : Int32))), (.ref pg), (.int 0), (.ref ky)]))
  refine own_of (fun tt_ => XS.aloadN X5.here hx rfl (hb hby d14_56) rfl rfl) ?_
  obtain ⟨T6, X6, e6, st6⟩ := getF X5 hx hZ hown (host := "") (Or.inl (hW 9 _ rfl)) Via.refl e5 F_w (g := (mkF m 57 #[.val (.ref x), .val (.int ix), .val (.ref ky), .val (.int 0)] [(.ref x), (.int (ix * (2 : Int32))), (.ref pg), (.int 0), (.ref ky)])) rfl rfl (hb hby d14_57)
  refine own_of st6 ?_
  show own_go p e below s _ _ _ (T6.setTop (mkF m 60 #[.val (.ref x), .val (.int ix), .val (.ref ky), .val (.int 0)] [(.int 2), (.int (ix * (2 : Int32))), (.ref pg), (.int 0), (.ref ky)]))
  obtain ⟨T7, h7, L7, X7, e7, N7, Kp7, V7, st7⟩ := cpA X6 hx hZ hown (hW 90 _ rfl) (hW 93 _ rfl) (hW 91 _ rfl) (hW 92 _ rfl) e6 (us := [Value.long k0, Value.long k1]) V_k V_g (Or.inl ⟨rfl, rfl⟩) (by decide) (own_s_dp s_i) (by decide) (by decide) (own_s_dn s_i) rfl (by simpa using (own_pg_len _ _ ▸ own_s_dn s_i)) N0 (by omega : n0 ≤ pg) (g := (mkF m 60 #[.val (.ref x), .val (.int ix), .val (.ref ky), .val (.int 0)] [(.int 2), (.int (ix * (2 : Int32))), (.ref pg), (.int 0), (.ref ky)])) rfl (by rw [hml]; rfl) rfl (hb hby d14_60) (by decide) (W := 0) (by show 2 * 0 + _ ≤ _; exact Nat.le_of_eq rfl) (by decide +kernel)
  rw [own_pg_set s_i] at V7
  refine own_of st7 ?_
  have sz7 : h0.size ≤ h7.size := Kp7.1
  have O7 : Old Z n0 h7 := XO0.keep Kp7 (allS (by omega) all0)
  have K7 : Keep h0 h7 [bq, wa, pg] := K0_.trans Kp7 (allS (Or.inl (List.mem_of_getElem? (i := 2) rfl)) all0)
  show own_go p e below s _ _ _ (T7.setTop (mkF m 63 #[.val (.ref x), .val (.int ix), .val (.ref ky), .val (.int 0)] []))
  refine own_of (fun tt_ => XS.aloadN X7.here hx rfl (hb hby d14_63) rfl rfl) ?_
  have f8 : Fld Z h7 x "com/example/grantway/grantway/protocol/PackedSet" "used" "Ljava/util/BitSet;" (.ref bq) := (F_u.keep Kp7 (ninS (own_ne (by omega)) nin0))
  obtain ⟨T9, X9, e9, st9⟩ := getF X7 hx hZ hown (host := "") (Or.inl (hW 39 _ rfl)) Via.refl e7 f8 (g := (mkF m 64 #[.val (.ref x), .val (.int ix), .val (.ref ky), .val (.int 0)] [(.ref x)])) rfl rfl (hb hby d14_64)
  refine own_of st9 ?_
  show own_go p e below s _ _ _ (T9.setTop (mkF m 67 #[.val (.ref x), .val (.int ix), .val (.ref ky), .val (.int 0)] [(.ref bq)]))
  refine own_of (fun tt_ => XS.iloadN X9.here hx rfl (hb hby d14_67) rfl) ?_
  show own_go p e below s _ _ _ (T9.setTop (mkF m 68 #[.val (.ref x), .val (.int ix), .val (.ref ky), .val (.int 0)] [(.int ix), (.ref bq)]))
  have f10 : Exa Z h7 bq "java/util/BitSet" := (E_b.keep Kp7)
  have f11 : Fld Z h7 bq "java/util/BitSet" "wordsInUse" "I" (.int 1) := (F_n.keep Kp7 (ninS (own_ne (by omega)) nin0))
  have f12 : Fld Z h7 bq "java/util/BitSet" "words" "[J" (.ref wa) := (F_d.keep Kp7 (ninS (own_ne (by omega)) nin0))
  have f13 : Arv Z h7 wa kw .long (1 : Int32) [(.long W)] (.long 0) := (V_w.keep Kp7 (ninS (own_ne (by omega)) nin0))
  obtain ⟨cq14, kq14, q14a, q14b, q14c⟩ := isOf hZ e9 f10
  obtain ⟨_, _, ⟨T14, L14, k14, n14⟩, -, X14, ⟨Lc14, hQ14, l14, y14, z14⟩, st14⟩ := X9.virtualBack hx (y := ym8) (z := ym8) hown (mvT hZ (hW 94 _ rfl)) (mvT hZ (hW 95 _ rfl)) (notFace_of_selects (args := #[]) (mvT hZ (hW 97 _ rfl))) (mvT hZ (hW 97 _ rfl)) (mvT hZ (hW 96 _ rfl)) (by decide) (backOf (W := 0) (rmSet1 l Z a0 hw [] bq wa kw W ix h7 n0 O7 S_ad f10 f11 f12 f13 (by omega) (by omega) (by omega) s_i) hZ (hW 98 _ rfl) (hW 19 _ rfl) (by decide) (by decide)) q14a q14c (g := (mkF m 68 #[.val (.ref x), .val (.int ix), .val (.ref ky), .val (.int 0)] [(.int ix), (.ref bq)])) rfl (by rw [hml]; rfl) (Steps.refl _) (argsL := [(.int ix)]) (rest := []) (lenOf pd_2 rfl) rfl (by show 2 * 0 + _ ≤ _; exact Nat.le_of_eq rfl) (hb hby d14_68) (fun _ _ => ⟨rfl, e9, (by decide : 0 + 0 ≤ _), (by decide : 0 + 0 ≤ _)⟩)
  dsimp only [Pt.U, Pt.locs, Pt.cells, Pt.slots] at X14 l14 y14 z14 st14 hQ14
  subst l14 y14 z14
  obtain ⟨rfl, Nq14, Kp14, Eb14, Fn14, Fd14, Vw14⟩ := hQ14
  have N14 := Fr.app N7 Nq14
  refine own_of (fun tt_ kk_ => st14.trans kk_) ?_
  have sz14 : h7.size ≤ T14.heap.size := Kp14.1
  have O14 : Old Z n0 T14.heap := O7.keep Kp14 (allS (by omega) (allS (by omega) all0))
  have K14 : Keep h0 T14.heap [bq, wa, pg] := K7.trans Kp14 (allS (Or.inl (List.mem_of_getElem? (i := 0) rfl)) (allS (Or.inl (List.mem_of_getElem? (i := 1) rfl)) all0))
  show own_go p e below s _ _ _ (T14.setTop (mkF m 71 #[.val (.ref x), .val (.int ix), .val (.ref ky), .val (.int 0)] []))
  refine own_retV X14 hx hlk hret (hb hby d14_71) (by decide) (by decide) ?_
  skip
  have f15 : Exa Z T14.heap x "com/example/grantway/grantway/protocol/PackedSet" := ((E_x.keep Kp7).keep Kp14)
  have f16 : Fld Z T14.heap x "com/example/grantway/grantway/protocol/PackedSet" "width" "I" (.int 2) := ((F_w.keep Kp7 (ninS (own_ne (by omega)) nin0)).keep Kp14 (ninS (own_ne (by omega)) (ninS (own_ne (by omega)) nin0)))
  have f17 : Fld Z T14.heap x "com/example/grantway/grantway/protocol/PackedSet" "slots" "I" (.int 16) := ((F_s.keep Kp7 (ninS (own_ne (by omega)) nin0)).keep Kp14 (ninS (own_ne (by omega)) (ninS (own_ne (by omega)) nin0)))
  have f18 : Fld Z T14.heap x "com/example/grantway/grantway/protocol/PackedSet" "pages" "[[J" (.ref pa) := ((F_p.keep Kp7 (ninS (own_ne (by omega)) nin0)).keep Kp14 (ninS (own_ne (by omega)) (ninS (own_ne (by omega)) nin0)))
  have f19 : Fld Z T14.heap x "com/example/grantway/grantway/protocol/PackedSet" "used" "Ljava/util/BitSet;" (.ref bq) := (f8.keep Kp14 (ninS (own_ne (by omega)) (ninS (own_ne (by omega)) nin0)))
  have f20 : Fld Z T14.heap x "com/example/grantway/grantway/protocol/PackedSet" "size" "I" (.int zz) := ((F_z.keep Kp7 (ninS (own_ne (by omega)) nin0)).keep Kp14 (ninS (own_ne (by omega)) (ninS (own_ne (by omega)) nin0)))
  have f21 : Arv Z T14.heap pa ka (.array .long) (1 : Int32) [(.ref pg)] .null := ((V_p.keep Kp7 (ninS (own_ne (by omega)) nin0)).keep Kp14 (ninS (own_ne (by omega)) (ninS (own_ne (by omega)) nin0)))
  have f22 : Arv Z T14.heap pg kp .long (32 : Int32) (own_pg (own_up K0 ix k0) (own_up K1 ix k1)) (.long 0) := (V7.keep Kp14 (ninS (own_ne (by omega)) (ninS (own_ne (by omega)) nin0)))
  exact ⟨rfl, N14, K14, ⟨f15, f16, f17, f18, f19, f20, Eb14, Fn14, Fd14, Vw14, f21, f22⟩⟩
theorem ef_rmAdd0 (m : MethodId) (x0 : Nat) (x1 : Nat) : entryFrame m #[(.ref x0), (.ref x1)] 3 = mkF m 0 #[.val (.ref x0), .val (.ref x1), .unset] [] := by first | (simp [entryFrame, mkF, argsToLocals, Value.category]; done) | rfl
theorem d7_0 : decode prog_28_method_2_code 0 = .ok (.aload_n 0, 1) := by decide +kernel
theorem d7_1 : decode prog_28_method_2_code 1 = .ok (.aload_n 1, 1) := by decide +kernel
theorem d7_2 : decode prog_28_method_2_code 2 = .ok (.invokevirtual 38, 3) := by decide +kernel
theorem pd_7 : parseMethodDescriptor "([J)V" = some ⟨[(.array .long)], none⟩ := by decide +kernel
theorem d7_5 : decode prog_28_method_2_code 5 = .ok (.aload_n 0, 1) := by decide +kernel
theorem d7_6 : decode prog_28_method_2_code 6 = .ok (.aload_n 1, 1) := by decide +kernel
theorem d7_7 : decode prog_28_method_2_code 7 = .ok (.invokevirtual 42, 3) := by decide +kernel
theorem pd_8 : parseMethodDescriptor "([J)I" = some ⟨[(.array .long)], some .int⟩ := by decide +kernel
theorem d7_10 : decode prog_28_method_2_code 10 = .ok (.istore_n 2, 1) := by decide +kernel
theorem d7_11 : decode prog_28_method_2_code 11 = .ok (.aload_n 0, 1) := by decide +kernel
theorem d7_12 : decode prog_28_method_2_code 12 = .ok (.getfield 34, 3) := by decide +kernel
theorem d7_15 : decode prog_28_method_2_code 15 = .ok (.iload_n 2, 1) := by decide +kernel
theorem d7_16 : decode prog_28_method_2_code 16 = .ok (.invokevirtual 46, 3) := by decide +kernel
theorem d7_19 : decode prog_28_method_2_code 19 = .ok (.ifCond .eq 4, 3) := by decide +kernel
theorem d7_23 : decode prog_28_method_2_code 23 = .ok (.aload_n 0, 1) := by decide +kernel
theorem d7_24 : decode prog_28_method_2_code 24 = .ok (.getfield 50, 3) := by decide +kernel
theorem d7_27 : decode prog_28_method_2_code 27 = .ok (.iconst 1, 1) := by decide +kernel
theorem d7_28 : decode prog_28_method_2_code 28 = .ok (.iadd, 1) := by decide +kernel
theorem d7_29 : decode prog_28_method_2_code 29 = .ok (.aload_n 0, 1) := by decide +kernel
theorem d7_30 : decode prog_28_method_2_code 30 = .ok (.getfield 20, 3) := by decide +kernel
theorem d7_33 : decode prog_28_method_2_code 33 = .ok (.iconst 4, 1) := by decide +kernel
theorem d7_34 : decode prog_28_method_2_code 34 = .ok (.idiv, 1) := by decide +kernel
theorem d7_35 : decode prog_28_method_2_code 35 = .ok (.iconst 3, 1) := by decide +kernel
theorem d7_36 : decode prog_28_method_2_code 36 = .ok (.imul, 1) := by decide +kernel
theorem d7_37 : decode prog_28_method_2_code 37 = .ok (.if_icmp .le 13, 3) := by decide +kernel
theorem d7_50 : decode prog_28_method_2_code 50 = .ok (.aload_n 0, 1) := by decide +kernel
theorem d7_51 : decode prog_28_method_2_code 51 = .ok (.iload_n 2, 1) := by decide +kernel
theorem d7_52 : decode prog_28_method_2_code 52 = .ok (.aload_n 1, 1) := by decide +kernel
theorem d7_53 : decode prog_28_method_2_code 53 = .ok (.invokevirtual 56, 3) := by decide +kernel
theorem pd_9 : parseMethodDescriptor "(I[J)V" = some ⟨[.int, (.array .long)], none⟩ := by decide +kernel
theorem d7_56 : decode prog_28_method_2_code 56 = .ok (.aload_n 0, 1) := by decide +kernel
theorem d7_57 : decode prog_28_method_2_code 57 = .ok (.dup, 1) := by decide +kernel
theorem d7_58 : decode prog_28_method_2_code 58 = .ok (.getfield 50, 3) := by decide +kernel
theorem d7_61 : decode prog_28_method_2_code 61 = .ok (.iconst 1, 1) := by decide +kernel
theorem d7_62 : decode prog_28_method_2_code 62 = .ok (.iadd, 1) := by decide +kernel
theorem d7_63 : decode prog_28_method_2_code 63 = .ok (.putfield 50, 3) := by decide +kernel
theorem d7_66 : decode prog_28_method_2_code 66 = .ok (.return_, 1) := by decide +kernel
def Q_rmAdd0 (Z : State) (x : Nat) (pa : Nat) (bq : Nat) (wa : Nat) (ka : ClassId) (kw : ClassId) (zz : Int32) (ky : Nat) (kc : ClassId) (k0 : Int64) (k1 : Int64) (h0 : Heap) (n0 : Nat) (v : Option Value) (h : Heap) (L : List Loc) : Prop := ∃ (W2 : Int64) (J0 J1 : Int32 → Int64) (z2 : Int32) (pg : Nat) (kp : ClassId), v = none ∧ Fr n0 L ∧ Keep h0 h [x, pa, bq, wa] ∧ own_p1 Z h x pa bq wa pg ka kw kp W2 J0 J1 z2 ∧ own_added (0 : Int64) (fun _ => (0 : Int64)) (fun _ => (0 : Int64)) k0 k1 W2 J0 J1 ∧ (z2 = zz ∨ z2 = zz + 1) ∧ (h0.size ≤ pg ∧ pg < h.size)
set_option maxRecDepth 65536 in
set_option maxHeartbeats 40000000 in
theorem rmAdd0 (l : Launch) (Z : State) (a0 : Array Value) (hw : own_H Z a0) (ws : List Jvm.Cond) (x : Nat) (pa : Nat) (bq : Nat) (wa : Nat) (ka : ClassId) (kw : ClassId) (zz : Int32) (ky : Nat) (kc : ClassId) (k0 : Int64) (k1 : Int64) (h0 : Heap) (n0 : Nat) (XO0 : Old Z n0 h0) (S_ad : Sta Z Z.heap "java/util/BitSet" "$assertionsDisabled" "Z" (.int 1)) (PQ : own_p0 Z h0 x pa bq wa ka kw zz) (V_k : Arv Z h0 ky kc .long (2 : Int32) [(.long k0), (.long k1)] (.long 0)) (D_1 : pa ≠ x ∧ bq ≠ x ∧ bq ≠ pa ∧ wa ≠ x ∧ wa ≠ pa ∧ wa ≠ bq ∧ n0 ≤ x ∧ n0 ≤ pa ∧ n0 ≤ bq ∧ n0 ≤ wa) (D_2 : ky ≠ pa ∧ ky ≠ wa) (hz : ¬ ((12 : Int32) < (zz + (1 : Int32)))) (OV : OvrA Z ka .long "[J") :
    own_M l Z ym1 prog_28_method_2_code ws 3 none (own_R 4 1 32 57) #[(.ref x), (.ref ky)] h0 (Q_rmAdd0 Z x pa bq wa ka kw zz ky kc k0 k1 h0 n0) := by
  refine own_open (plainFor_of_name pn_1) ?_
  intro p e s m below meth c s₁ hx hby hlk hret hml hown hnm hZ X0 e0
  have hW := own_hW hw
  have N0 := Fr.nil n0
  refine own_of (fun tt_ kk_ => castTop (ef_rmAdd0 m x ky) kk_) ?_
  show own_go p e below s _ _ _ (s₁.setTop (mkF m 0 #[.val (.ref x), .val (.ref ky), .unset] []))
  obtain ⟨E_x, F_w, F_s, F_p, F_u, F_z, E_b, F_n, F_d, V_w, V_p⟩ := id PQ
  have K0_ : Keep h0 h0 [x, pa, bq, wa] := Keep.refl h0 [x, pa, bq, wa]
  have lt_x := own_lt E_x.lt
  have lt_pa := own_lt V_p.lt
  have lt_bq := own_lt E_b.lt
  have lt_wa := own_lt V_w.lt
  have lt_ky := own_lt V_k.lt
  refine own_of (fun tt_ => XS.aloadN X0.here hx rfl (hb hby d7_0) rfl rfl) ?_
  refine own_of (fun tt_ => XS.aloadN X0.here hx rfl (hb hby d7_1) rfl rfl) ?_
  show own_go p e below s _ _ _ (s₁.setTop (mkF m 2 #[.val (.ref x), .val (.ref ky), .unset] [(.ref ky), (.ref x)]))
  obtain ⟨cq1, q1, q1'⟩ := E_x.cell
  obtain ⟨_, _, ⟨T1, L1, k1, n1⟩, -, X1, ⟨Lc1, hQ1, l1, y1, z1⟩, st1⟩ := X0.privateBack hx (y := ym4) hown (mvT hZ (hW 50 _ rfl)) (mvT hZ (hW 51 _ rfl)) (mvT hZ (own_selp (y := ym4) (z := ym1) (hW 48 _ rfl) rfl (hW 52 _ rfl) (hW 51 _ rfl) (by decide))) (Cond.privateMethod_at (mvP hZ (hW 52 _ rfl) (args := #[]))) (mvT hZ (hW 53 _ rfl)) (by decide) (backOf (W := 0) (rmCW l Z a0 hw [] x ky kc k0 k1 h0 n0 XO0 F_w V_k) hZ (hW 53 _ rfl) (hW 2 _ rfl) (by decide) (by decide)) (g := (mkF m 2 #[.val (.ref x), .val (.ref ky), .unset] [(.ref ky), (.ref x)])) rfl (by rw [hml]; rfl) (Steps.refl _) (a := x) (by rw [e0]; exact q1) q1' (argsL := [(.ref ky)]) (rest := []) (lenOf pd_7 rfl) rfl (by show 2 * 0 + _ ≤ _; exact Nat.le_of_eq rfl) (hb hby d7_2) (fun _ _ => ⟨rfl, e0, (by decide : 0 + 0 ≤ _), (by decide : 0 + 0 ≤ _)⟩)
  dsimp only [Pt.U, Pt.locs, Pt.cells, Pt.slots] at X1 l1 y1 z1 st1 hQ1
  subst l1 y1 z1
  obtain ⟨rfl, Nq1, eh1⟩ := hQ1
  have N1 := Fr.app N0 Nq1
  refine own_of (fun tt_ kk_ => st1.trans kk_) ?_
  show own_go p e below s _ _ _ (T1.setTop (mkF m 5 #[.val (.ref x), .val (.ref ky), .unset] []))
  refine own_of (fun tt_ => XS.aloadN X1.here hx rfl (hb hby d7_5) rfl rfl) ?_
  refine own_of (fun tt_ => XS.aloadN X1.here hx rfl (hb hby d7_6) rfl rfl) ?_
  show own_go p e below s _ _ _ (T1.setTop (mkF m 7 #[.val (.ref x), .val (.ref ky), .unset] [(.ref ky), (.ref x)]))
  obtain ⟨cq2, q2, q2'⟩ := E_x.cell
  obtain ⟨_, _, ⟨T2, L2, k2, n2⟩, -, X2, ⟨Lc2, hQ2, l2, y2, z2⟩, st2⟩ := X1.privateBack hx (y := ym3) hown (mvT hZ (hW 54 _ rfl)) (mvT hZ (hW 55 _ rfl)) (mvT hZ (own_selp (y := ym3) (z := ym1) (hW 48 _ rfl) rfl (hW 56 _ rfl) (hW 55 _ rfl) (by decide))) (Cond.privateMethod_at (mvP hZ (hW 56 _ rfl) (args := #[]))) (mvT hZ (hW 57 _ rfl)) (by decide) (backOf (W := 0) (rmFind0 l Z a0 hw [] x pa bq wa ka kw zz ky kc k0 k1 h0 n0 XO0 S_ad ⟨E_x, F_w, F_s, F_p, F_u, F_z, E_b, F_n, F_d, V_w, V_p⟩ V_k) hZ (hW 57 _ rfl) (hW 2 _ rfl) (by decide) (by decide)) (g := (mkF m 7 #[.val (.ref x), .val (.ref ky), .unset] [(.ref ky), (.ref x)])) rfl (by rw [hml]; rfl) (Steps.refl _) (a := x) (by rw [eh1]; exact q2) q2' (argsL := [(.ref ky)]) (rest := []) (lenOf pd_8 rfl) rfl (by show 2 * 0 + _ ≤ _; exact Nat.le_of_eq rfl) (hb hby d7_7) (fun _ _ => ⟨rfl, eh1, (by decide : 0 + 0 ≤ _), (by decide : 0 + 0 ≤ _)⟩)
  dsimp only [Pt.U, Pt.locs, Pt.cells, Pt.slots] at X2 l2 y2 z2 st2 hQ2
  subst l2 y2 z2
  obtain ⟨rfl, Nq2, eh2⟩ := hQ2
  have N2 := Fr.app N1 Nq2
  refine own_of (fun tt_ kk_ => st2.trans kk_) ?_
  show own_go p e below s _ _ _ (T2.setTop (mkF m 10 #[.val (.ref x), .val (.ref ky), .unset] [(.int (own_hash k0 k1))]))
  refine own_of (fun tt_ => XS.istoreN X2.here hx rfl (hb hby d7_10) rfl (l' := #[.val (.ref x), .val (.ref ky), .val (.int (own_hash k0 k1))]) rfl) ?_
  refine own_of (fun tt_ => XS.aloadN X2.here hx rfl (hb hby d7_11) rfl rfl) ?_
  obtain ⟨T3, X3, e3, st3⟩ := getF X2 hx hZ hown (host := "") (Or.inl (hW 39 _ rfl)) Via.refl eh2 F_u (g := (mkF m 12 #[.val (.ref x), .val (.ref ky), .val (.int (own_hash k0 k1))] [(.ref x)])) rfl rfl (hb hby d7_12)
  refine own_of st3 ?_
  show own_go p e below s _ _ _ (T3.setTop (mkF m 15 #[.val (.ref x), .val (.ref ky), .val (.int (own_hash k0 k1))] [(.ref bq)]))
  refine own_of (fun tt_ => XS.iloadN X3.here hx rfl (hb hby d7_15) rfl) ?_
  show own_go p e below s _ _ _ (T3.setTop (mkF m 16 #[.val (.ref x), .val (.ref ky), .val (.int (own_hash k0 k1))] [(.int (own_hash k0 k1)), (.ref bq)]))
  obtain ⟨cq4, kq4, q4a, q4b, q4c⟩ := isOf hZ e3 E_b
  obtain ⟨_, _, ⟨T4, L4, k4, n4⟩, -, X4, ⟨Lc4, hQ4, l4, y4, z4⟩, st4⟩ := X3.virtualBack hx (y := ym2) (z := ym2) hown (mvT hZ (hW 68 _ rfl)) (mvT hZ (hW 69 _ rfl)) (notFace_of_selects (args := #[]) (mvT hZ (hW 71 _ rfl))) (mvT hZ (hW 71 _ rfl)) (mvT hZ (hW 70 _ rfl)) (by decide) (backOf (W := 0) (rmGet0 l Z a0 hw [] bq wa kw (own_hash k0 k1) h0 n0 XO0 S_ad E_b F_n F_d V_w (own_hash_s k0 k1)) hZ (hW 72 _ rfl) (hW 19 _ rfl) (by decide) (by decide)) q4a q4c (g := (mkF m 16 #[.val (.ref x), .val (.ref ky), .val (.int (own_hash k0 k1))] [(.int (own_hash k0 k1)), (.ref bq)])) rfl (by rw [hml]; rfl) (Steps.refl _) (argsL := [(.int (own_hash k0 k1))]) (rest := []) (lenOf pd_4 rfl) rfl (by show 2 * 0 + _ ≤ _; exact Nat.le_of_eq rfl) (hb hby d7_16) (fun _ _ => ⟨rfl, e3, (by decide : 0 + 0 ≤ _), (by decide : 0 + 0 ≤ _)⟩)
  dsimp only [Pt.U, Pt.locs, Pt.cells, Pt.slots] at X4 l4 y4 z4 st4 hQ4
  subst l4 y4 z4
  obtain ⟨rfl, Nq4, eh4⟩ := hQ4
  have N4 := Fr.app N2 Nq4
  refine own_of (fun tt_ kk_ => st4.trans kk_) ?_
  show own_go p e below s _ _ _ (T4.setTop (mkF m 19 #[.val (.ref x), .val (.ref ky), .val (.int (own_hash k0 k1))] [(.int 0)]))
  have hb19_5 : (0 : Int32) = (0 : Int32) := by decide
  refine own_of (fun tt_ => XS.ifYes X4.here hx rfl (pc0 := 19) (pc' := 23) rfl (hb hby d7_19) rfl ((if0 _ _).trans (teq hb19_5).1) (by decide) (by decide)) ?_
  show own_go p e below s _ _ _ (T4.setTop (mkF m 23 #[.val (.ref x), .val (.ref ky), .val (.int (own_hash k0 k1))] []))
  refine own_of (fun tt_ => XS.aloadN X4.here hx rfl (hb hby d7_23) rfl rfl) ?_
  obtain ⟨T6, X6, e6, st6⟩ := getF X4 hx hZ hown (host := "") (Or.inl (hW 79 _ rfl)) Via.refl eh4 F_z (g := (mkF m 24 #[.val (.ref x), .val (.ref ky), .val (.int (own_hash k0 k1))] [(.ref x)])) rfl rfl (hb hby d7_24)
  refine own_of st6 ?_
  show own_go p e below s _ _ _ (T6.setTop (mkF m 27 #[.val (.ref x), .val (.ref ky), .val (.int (own_hash k0 k1))] [(.int zz)]))
  refine own_of (fun tt_ => XS.iconst X6.here hx rfl (hb hby d7_27)) ?_
  refine own_of (fun tt_ => XS.iadd X6.here hx rfl (hb hby d7_28) rfl) ?_
  show own_go p e below s _ _ _ (T6.setTop (mkF m 29 #[.val (.ref x), .val (.ref ky), .val (.int (own_hash k0 k1))] [(.int (zz + (1 : Int32)))]))
  refine own_of (fun tt_ => XS.aloadN X6.here hx rfl (hb hby d7_29) rfl rfl) ?_
  obtain ⟨T7, X7, e7, st7⟩ := getF X6 hx hZ hown (host := "") (Or.inl (hW 11 _ rfl)) Via.refl e6 F_s (g := (mkF m 30 #[.val (.ref x), .val (.ref ky), .val (.int (own_hash k0 k1))] [(.ref x), (.int (zz + (1 : Int32)))])) rfl rfl (hb hby d7_30)
  refine own_of st7 ?_
  show own_go p e below s _ _ _ (T7.setTop (mkF m 33 #[.val (.ref x), .val (.ref ky), .val (.int (own_hash k0 k1))] [(.int 16), (.int (zz + (1 : Int32)))]))
  refine own_of (fun tt_ => XS.iconst X7.here hx rfl (hb hby d7_33)) ?_
  refine own_of (fun tt_ => XS.idiv X7.here hx rfl (hb hby d7_34) rfl (by decide)) ?_
  show own_go p e below s _ _ _ (T7.setTop (mkF m 35 #[.val (.ref x), .val (.ref ky), .val (.int (own_hash k0 k1))] [(.int 4), (.int (zz + (1 : Int32)))]))
  refine own_of (fun tt_ => XS.iconst X7.here hx rfl (hb hby d7_35)) ?_
  refine own_of (fun tt_ => XS.imul X7.here hx rfl (hb hby d7_36) rfl) ?_
  show own_go p e below s _ _ _ (T7.setTop (mkF m 37 #[.val (.ref x), .val (.ref ky), .val (.int (own_hash k0 k1))] [(.int 12), (.int (zz + (1 : Int32)))]))
  have hb37_8 : ¬ ((12 : Int32) < (zz + (1 : Int32))) := hz
  refine own_of (fun tt_ => XS.icmpYes X7.here hx rfl (pc0 := 37) (pc' := 50) rfl (hb hby d7_37) rfl (flt hb37_8).2.2.2 (by decide) (by decide)) ?_
  show own_go p e below s _ _ _ (T7.setTop (mkF m 50 #[.val (.ref x), .val (.ref ky), .val (.int (own_hash k0 k1))] []))
  refine own_of (fun tt_ => XS.aloadN X7.here hx rfl (hb hby d7_50) rfl rfl) ?_
  refine own_of (fun tt_ => XS.iloadN X7.here hx rfl (hb hby d7_51) rfl) ?_
  refine own_of (fun tt_ => XS.aloadN X7.here hx rfl (hb hby d7_52) rfl rfl) ?_
  show own_go p e below s _ _ _ (T7.setTop (mkF m 53 #[.val (.ref x), .val (.ref ky), .val (.int (own_hash k0 k1))] [(.ref ky), (.int (own_hash k0 k1)), (.ref x)]))
  obtain ⟨cq9, q9, q9'⟩ := E_x.cell
  obtain ⟨_, _, ⟨T9, L9, k9, n9⟩, -, X9, ⟨Lc9, hQ9, l9, y9, z9⟩, st9⟩ := X7.privateBack hx (y := ym9) hown (mvT hZ (hW 81 _ rfl)) (mvT hZ (hW 82 _ rfl)) (mvT hZ (own_selp (y := ym9) (z := ym1) (hW 48 _ rfl) rfl (hW 83 _ rfl) (hW 82 _ rfl) (by decide))) (Cond.privateMethod_at (mvP hZ (hW 83 _ rfl) (args := #[]))) (mvT hZ (hW 84 _ rfl)) (by decide) (backOf (W := 0) (rmPut0 l Z a0 hw [] x pa bq wa ka kw zz (own_hash k0 k1) ky kc k0 k1 h0 n0 XO0 S_ad ⟨E_x, F_w, F_s, F_p, F_u, F_z, E_b, F_n, F_d, V_w, V_p⟩ V_k D_1 D_2 (own_hash_s k0 k1) OV) hZ (hW 84 _ rfl) (hW 2 _ rfl) (by decide) (by decide)) (g := (mkF m 53 #[.val (.ref x), .val (.ref ky), .val (.int (own_hash k0 k1))] [(.ref ky), (.int (own_hash k0 k1)), (.ref x)])) rfl (by rw [hml]; rfl) (Steps.refl _) (a := x) (by rw [e7]; exact q9) q9' (argsL := [(.int (own_hash k0 k1)), (.ref ky)]) (rest := []) (lenOf pd_9 rfl) rfl (by show 2 * 0 + _ ≤ _; exact Nat.le_of_eq rfl) (hb hby d7_53) (fun _ _ => ⟨rfl, e7, (by decide : 0 + 1 ≤ _), (by decide : 0 + 32 ≤ _)⟩)
  dsimp only [Pt.U, Pt.locs, Pt.cells, Pt.slots] at X9 l9 y9 z9 st9 hQ9
  subst l9 y9 z9
  obtain ⟨pg9, kp9, rfl, Nq9, Kp9, Q9, gp9⟩ := hQ9
  have N9 := Fr.app N4 Nq9
  refine own_of (fun tt_ kk_ => st9.trans kk_) ?_
  have sz9 : h0.size ≤ T9.heap.size := Kp9.1
  have O9 : Old Z n0 T9.heap := XO0.keep Kp9 (allS (by omega) (allS (by omega) (allS (by omega) all0)))
  have K9 : Keep h0 T9.heap [x, pa, bq, wa] := K0_.trans Kp9 (allS (Or.inl (List.mem_of_getElem? (i := 1) rfl)) (allS (Or.inl (List.mem_of_getElem? (i := 2) rfl)) (allS (Or.inl (List.mem_of_getElem? (i := 3) rfl)) all0)))
  obtain ⟨q9_0, q9_1, q9_2, q9_3, q9_4, q9_5, q9_6, q9_7, q9_8, q9_9, q9_10, q9_11⟩ := id Q9
  show own_go p e below s _ _ _ (T9.setTop (mkF m 56 #[.val (.ref x), .val (.ref ky), .val (.int (own_hash k0 k1))] []))
  refine own_of (fun tt_ => XS.aloadN X9.here hx rfl (hb hby d7_56) rfl rfl) ?_
  refine own_of (fun tt_ => XS.dup X9.here hx rfl (hb hby d7_57) rfl rfl) ?_
  obtain ⟨T10, X10, e10, st10⟩ := getF X9 hx hZ hown (host := "") (Or.inl (hW 79 _ rfl)) Via.refl rfl q9_5 (g := (mkF m 58 #[.val (.ref x), .val (.ref ky), .val (.int (own_hash k0 k1))] [(.ref x), (.ref x)])) rfl rfl (hb hby d7_58)
  refine own_of st10 ?_
  show own_go p e below s _ _ _ (T10.setTop (mkF m 61 #[.val (.ref x), .val (.ref ky), .val (.int (own_hash k0 k1))] [(.int zz), (.ref x)]))
  refine own_of (fun tt_ => XS.iconst X10.here hx rfl (hb hby d7_61)) ?_
  refine own_of (fun tt_ => XS.iadd X10.here hx rfl (hb hby d7_62) rfl) ?_
  show own_go p e below s _ _ _ (T10.setTop (mkF m 63 #[.val (.ref x), .val (.ref ky), .val (.int (own_hash k0 k1))] [(.int (zz + (1 : Int32))), (.ref x)]))
  obtain ⟨T11, h11, X11, e11, W11, st11⟩ := putF X10 hx hZ hown (host := "") (Or.inl (hW 79 _ rfl)) Via.refl e10 q9_5 q9_0 (Or.inl (hW 80 _ rfl)) (hW 1 _ rfl) (ty := .int) pf_0 rfl rfl (g := (mkF m 63 #[.val (.ref x), .val (.ref ky), .val (.int (own_hash k0 k1))] [(.int (zz + (1 : Int32))), (.ref x)])) rfl rfl (hb hby d7_63)
  refine own_of st11 ?_
  have N11 := Fr.snoc X11 N9 (by omega : n0 ≤ x)
  have sz11 : h11.size = T9.heap.size := W11.size
  have O11 : Old Z n0 h11 := O9.wr W11 (by omega)
  have K11 : Keep h0 h11 [x, pa, bq, wa] := K9.wr W11 (Or.inl (List.mem_of_getElem? (i := 0) rfl))
  have Fw11 := q9_5.same W11
  show own_go p e below s _ _ _ (T11.setTop (mkF m 66 #[.val (.ref x), .val (.ref ky), .val (.int (own_hash k0 k1))] []))
  refine own_retV X11 hx hlk hret (hb hby d7_66) (by decide) (by decide) ?_
  rw [e11]
  have f12 : Exa Z h11 x "com/example/grantway/grantway/protocol/PackedSet" := (q9_0.wr W11)
  have f13 : Fld Z h11 x "com/example/grantway/grantway/protocol/PackedSet" "width" "I" (.int 2) := (q9_1.other W11 (Or.inr (slot_ne (Or.inr (hW 10 _ rfl)) (Or.inl (hW 80 _ rfl)) (by decide) pf_0 pf_0)))
  have f14 : Fld Z h11 x "com/example/grantway/grantway/protocol/PackedSet" "slots" "I" (.int 16) := (q9_2.other W11 (Or.inr (slot_ne (Or.inl (hW 12 _ rfl)) (Or.inl (hW 80 _ rfl)) (by decide) pf_0 pf_0)))
  have f15 : Fld Z h11 x "com/example/grantway/grantway/protocol/PackedSet" "pages" "[[J" (.ref pa) := (q9_3.other W11 (Or.inr (slot_ne (Or.inl (hW 16 _ rfl)) (Or.inl (hW 80 _ rfl)) (by decide) pf_3 pf_0)))
  have f16 : Fld Z h11 x "com/example/grantway/grantway/protocol/PackedSet" "used" "Ljava/util/BitSet;" (.ref bq) := (q9_4.other W11 (Or.inr (slot_ne (Or.inl (hW 40 _ rfl)) (Or.inl (hW 80 _ rfl)) (by decide) pf_4 pf_0)))
  have f17 : Exa Z h11 bq "java/util/BitSet" := (q9_6.wr W11)
  have f18 : Fld Z h11 bq "java/util/BitSet" "wordsInUse" "I" (.int 1) := (q9_7.other W11 (Or.inl (own_ne (by omega))))
  have f19 : Fld Z h11 bq "java/util/BitSet" "words" "[J" (.ref wa) := (q9_8.other W11 (Or.inl (own_ne (by omega))))
  have f20 : Arv Z h11 wa kw .long (1 : Int32) [(.long ((0 : Int64) ||| own_m (own_hash k0 k1)))] (.long 0) := (q9_9.other W11 (own_ne (by omega)))
  have f21 : Arv Z h11 pa ka (.array .long) (1 : Int32) [(.ref pg9)] .null := (q9_10.other W11 (own_ne (by omega)))
  have f22 : Arv Z h11 pg9 kp9 .long (32 : Int32) (own_pg (own_up (fun _ => (0 : Int64)) (own_hash k0 k1) k0) (own_up (fun _ => (0 : Int64)) (own_hash k0 k1) k1)) (.long 0) := (q9_11.other W11 (own_ne (by omega)))
  exact ⟨_, _, _, _, pg9, kp9, rfl, N11, K11, ⟨f12, f13, f14, f15, f16, Fw11, f17, f18, f19, f20, f21, f22⟩, ⟨(own_hash k0 k1), (own_hash_s k0 k1), Or.inl ⟨rfl, Or.inl own_bit_z⟩, Or.inr ⟨own_bit_z, rfl, rfl, rfl⟩⟩, Or.inr rfl, by omega⟩
theorem ef_rmAdd1 (m : MethodId) (x0 : Nat) (x1 : Nat) : entryFrame m #[(.ref x0), (.ref x1)] 3 = mkF m 0 #[.val (.ref x0), .val (.ref x1), .unset] [] := by first | (simp [entryFrame, mkF, argsToLocals, Value.category]; done) | rfl
theorem d7_22 : decode prog_28_method_2_code 22 = .ok (.return_, 1) := by decide +kernel
def Q_rmAdd1 (Z : State) (x : Nat) (pa : Nat) (bq : Nat) (wa : Nat) (pg : Nat) (ka : ClassId) (kw : ClassId) (kp : ClassId) (W : Int64) (K0 : Int32 → Int64) (K1 : Int32 → Int64) (zz : Int32) (ky : Nat) (kc : ClassId) (k0 : Int64) (k1 : Int64) (h0 : Heap) (n0 : Nat) (v : Option Value) (h : Heap) (L : List Loc) : Prop := ∃ (W2 : Int64) (J0 J1 : Int32 → Int64) (z2 : Int32), v = none ∧ Fr n0 L ∧ Keep h0 h [x, bq, wa, pg] ∧ own_p1 Z h x pa bq wa pg ka kw kp W2 J0 J1 z2 ∧ own_added W K0 K1 k0 k1 W2 J0 J1 ∧ (z2 = zz ∨ z2 = zz + 1)
set_option maxRecDepth 65536 in
set_option maxHeartbeats 40000000 in
theorem rmAdd1 (l : Launch) (Z : State) (a0 : Array Value) (hw : own_H Z a0) (ws : List Jvm.Cond) (x : Nat) (pa : Nat) (bq : Nat) (wa : Nat) (pg : Nat) (ka : ClassId) (kw : ClassId) (kp : ClassId) (W : Int64) (K0 : Int32 → Int64) (K1 : Int32 → Int64) (zz : Int32) (ky : Nat) (kc : ClassId) (k0 : Int64) (k1 : Int64) (h0 : Heap) (n0 : Nat) (XO0 : Old Z n0 h0) (S_ad : Sta Z Z.heap "java/util/BitSet" "$assertionsDisabled" "Z" (.int 1)) (PQ : own_p1 Z h0 x pa bq wa pg ka kw kp W K0 K1 zz) (V_k : Arv Z h0 ky kc .long (2 : Int32) [(.long k0), (.long k1)] (.long 0)) (D_1 : pa ≠ x ∧ bq ≠ x ∧ bq ≠ pa ∧ wa ≠ x ∧ wa ≠ pa ∧ wa ≠ bq ∧ pg ≠ x ∧ pg ≠ pa ∧ pg ≠ bq ∧ pg ≠ wa ∧ n0 ≤ x ∧ n0 ≤ pa ∧ n0 ≤ bq ∧ n0 ≤ wa ∧ n0 ≤ pg) (D_2 : ky ≠ pa ∧ ky ≠ wa ∧ ky ≠ pg) (hz : ¬ ((12 : Int32) < (zz + (1 : Int32)))) (hfr : own_free W (own_hash k0 k1)) :
    own_M l Z ym1 prog_28_method_2_code ws 3 none (own_R 3 0 0 55) #[(.ref x), (.ref ky)] h0 (Q_rmAdd1 Z x pa bq wa pg ka kw kp W K0 K1 zz ky kc k0 k1 h0 n0) := by
  refine own_open (plainFor_of_name pn_1) ?_
  intro p e s m below meth c s₁ hx hby hlk hret hml hown hnm hZ X0 e0
  have hW := own_hW hw
  have N0 := Fr.nil n0
  refine own_of (fun tt_ kk_ => castTop (ef_rmAdd1 m x ky) kk_) ?_
  show own_go p e below s _ _ _ (s₁.setTop (mkF m 0 #[.val (.ref x), .val (.ref ky), .unset] []))
  obtain ⟨E_x, F_w, F_s, F_p, F_u, F_z, E_b, F_n, F_d, V_w, V_p, V_g⟩ := id PQ
  have K0_ : Keep h0 h0 [x, bq, wa, pg] := Keep.refl h0 [x, bq, wa, pg]
  have lt_x := own_lt E_x.lt
  have lt_pa := own_lt V_p.lt
  have lt_bq := own_lt E_b.lt
  have lt_wa := own_lt V_w.lt
  have lt_pg := own_lt V_g.lt
  have lt_ky := own_lt V_k.lt
  refine own_of (fun tt_ => XS.aloadN X0.here hx rfl (hb hby d7_0) rfl rfl) ?_
  refine own_of (fun tt_ => XS.aloadN X0.here hx rfl (hb hby d7_1) rfl rfl) ?_
  show own_go p e below s _ _ _ (s₁.setTop (mkF m 2 #[.val (.ref x), .val (.ref ky), .unset] [(.ref ky), (.ref x)]))
  obtain ⟨cq1, q1, q1'⟩ := E_x.cell
  obtain ⟨_, _, ⟨T1, L1, k1, n1⟩, -, X1, ⟨Lc1, hQ1, l1, y1, z1⟩, st1⟩ := X0.privateBack hx (y := ym4) hown (mvT hZ (hW 50 _ rfl)) (mvT hZ (hW 51 _ rfl)) (mvT hZ (own_selp (y := ym4) (z := ym1) (hW 48 _ rfl) rfl (hW 52 _ rfl) (hW 51 _ rfl) (by decide))) (Cond.privateMethod_at (mvP hZ (hW 52 _ rfl) (args := #[]))) (mvT hZ (hW 53 _ rfl)) (by decide) (backOf (W := 0) (rmCW l Z a0 hw [] x ky kc k0 k1 h0 n0 XO0 F_w V_k) hZ (hW 53 _ rfl) (hW 2 _ rfl) (by decide) (by decide)) (g := (mkF m 2 #[.val (.ref x), .val (.ref ky), .unset] [(.ref ky), (.ref x)])) rfl (by rw [hml]; rfl) (Steps.refl _) (a := x) (by rw [e0]; exact q1) q1' (argsL := [(.ref ky)]) (rest := []) (lenOf pd_7 rfl) rfl (by show 2 * 0 + _ ≤ _; exact Nat.le_of_eq rfl) (hb hby d7_2) (fun _ _ => ⟨rfl, e0, (by decide : 0 + 0 ≤ _), (by decide : 0 + 0 ≤ _)⟩)
  dsimp only [Pt.U, Pt.locs, Pt.cells, Pt.slots] at X1 l1 y1 z1 st1 hQ1
  subst l1 y1 z1
  obtain ⟨rfl, Nq1, eh1⟩ := hQ1
  have N1 := Fr.app N0 Nq1
  refine own_of (fun tt_ kk_ => st1.trans kk_) ?_
  show own_go p e below s _ _ _ (T1.setTop (mkF m 5 #[.val (.ref x), .val (.ref ky), .unset] []))
  refine own_of (fun tt_ => XS.aloadN X1.here hx rfl (hb hby d7_5) rfl rfl) ?_
  refine own_of (fun tt_ => XS.aloadN X1.here hx rfl (hb hby d7_6) rfl rfl) ?_
  show own_go p e below s _ _ _ (T1.setTop (mkF m 7 #[.val (.ref x), .val (.ref ky), .unset] [(.ref ky), (.ref x)]))
  obtain ⟨cq2, q2, q2'⟩ := E_x.cell
  obtain ⟨_, _, ⟨T2, L2, k2, n2⟩, -, X2, ⟨Lc2, hQ2, l2, y2, z2⟩, st2⟩ := X1.privateBack hx (y := ym3) hown (mvT hZ (hW 54 _ rfl)) (mvT hZ (hW 55 _ rfl)) (mvT hZ (own_selp (y := ym3) (z := ym1) (hW 48 _ rfl) rfl (hW 56 _ rfl) (hW 55 _ rfl) (by decide))) (Cond.privateMethod_at (mvP hZ (hW 56 _ rfl) (args := #[]))) (mvT hZ (hW 57 _ rfl)) (by decide) (backOf (W := 0) (rmFind1 l Z a0 hw [] x pa bq wa pg ka kw kp W K0 K1 zz ky kc k0 k1 h0 n0 XO0 S_ad ⟨E_x, F_w, F_s, F_p, F_u, F_z, E_b, F_n, F_d, V_w, V_p, V_g⟩ V_k hfr) hZ (hW 57 _ rfl) (hW 2 _ rfl) (by decide) (by decide)) (g := (mkF m 7 #[.val (.ref x), .val (.ref ky), .unset] [(.ref ky), (.ref x)])) rfl (by rw [hml]; rfl) (Steps.refl _) (a := x) (by rw [eh1]; exact q2) q2' (argsL := [(.ref ky)]) (rest := []) (lenOf pd_8 rfl) rfl (by show 2 * 0 + _ ≤ _; exact Nat.le_of_eq rfl) (hb hby d7_7) (fun _ _ => ⟨rfl, eh1, (by decide : 0 + 0 ≤ _), (by decide : 0 + 0 ≤ _)⟩)
  dsimp only [Pt.U, Pt.locs, Pt.cells, Pt.slots] at X2 l2 y2 z2 st2 hQ2
  subst l2 y2 z2
  obtain ⟨r2, rfl, Nq2, eh2, sr2, fr2⟩ := hQ2
  have N2 := Fr.app N1 Nq2
  refine own_of (fun tt_ kk_ => st2.trans kk_) ?_
  show own_go p e below s _ _ _ (T2.setTop (mkF m 10 #[.val (.ref x), .val (.ref ky), .unset] [(.int r2)]))
  refine own_of (fun tt_ => XS.istoreN X2.here hx rfl (hb hby d7_10) rfl (l' := #[.val (.ref x), .val (.ref ky), .val (.int r2)]) rfl) ?_
  refine own_of (fun tt_ => XS.aloadN X2.here hx rfl (hb hby d7_11) rfl rfl) ?_
  obtain ⟨T3, X3, e3, st3⟩ := getF X2 hx hZ hown (host := "") (Or.inl (hW 39 _ rfl)) Via.refl eh2 F_u (g := (mkF m 12 #[.val (.ref x), .val (.ref ky), .val (.int r2)] [(.ref x)])) rfl rfl (hb hby d7_12)
  refine own_of st3 ?_
  show own_go p e below s _ _ _ (T3.setTop (mkF m 15 #[.val (.ref x), .val (.ref ky), .val (.int r2)] [(.ref bq)]))
  refine own_of (fun tt_ => XS.iloadN X3.here hx rfl (hb hby d7_15) rfl) ?_
  show own_go p e below s _ _ _ (T3.setTop (mkF m 16 #[.val (.ref x), .val (.ref ky), .val (.int r2)] [(.int r2), (.ref bq)]))
  obtain ⟨cq4, kq4, q4a, q4b, q4c⟩ := isOf hZ e3 E_b
  obtain ⟨_, _, ⟨T4, L4, k4, n4⟩, -, X4, ⟨Lc4, hQ4, l4, y4, z4⟩, st4⟩ := X3.virtualBack hx (y := ym2) (z := ym2) hown (mvT hZ (hW 68 _ rfl)) (mvT hZ (hW 69 _ rfl)) (notFace_of_selects (args := #[]) (mvT hZ (hW 71 _ rfl))) (mvT hZ (hW 71 _ rfl)) (mvT hZ (hW 70 _ rfl)) (by decide) (backOf (W := 0) (rmGet1 l Z a0 hw [] bq wa kw W r2 h0 n0 XO0 S_ad E_b F_n F_d V_w sr2) hZ (hW 72 _ rfl) (hW 19 _ rfl) (by decide) (by decide)) q4a q4c (g := (mkF m 16 #[.val (.ref x), .val (.ref ky), .val (.int r2)] [(.int r2), (.ref bq)])) rfl (by rw [hml]; rfl) (Steps.refl _) (argsL := [(.int r2)]) (rest := []) (lenOf pd_4 rfl) rfl (by show 2 * 0 + _ ≤ _; exact Nat.le_of_eq rfl) (hb hby d7_16) (fun _ _ => ⟨rfl, e3, (by decide : 0 + 0 ≤ _), (by decide : 0 + 0 ≤ _)⟩)
  dsimp only [Pt.U, Pt.locs, Pt.cells, Pt.slots] at X4 l4 y4 z4 st4 hQ4
  subst l4 y4 z4
  obtain ⟨rfl, Nq4, eh4⟩ := hQ4
  have N4 := Fr.app N2 Nq4
  refine own_of (fun tt_ kk_ => st4.trans kk_) ?_
  show own_go p e below s _ _ _ (T4.setTop (mkF m 19 #[.val (.ref x), .val (.ref ky), .val (.int r2)] [(.int (own_bit W r2))]))
  by_cases hb19_5 : (own_bit W r2) = (0 : Int32)
  · refine own_of (fun tt_ => XS.ifYes X4.here hx rfl (pc0 := 19) (pc' := 23) rfl (hb hby d7_19) rfl ((if0 _ _).trans (teq hb19_5).1) (by decide) (by decide)) ?_
    show own_go p e below s _ _ _ (T4.setTop (mkF m 23 #[.val (.ref x), .val (.ref ky), .val (.int r2)] []))
    refine own_of (fun tt_ => XS.aloadN X4.here hx rfl (hb hby d7_23) rfl rfl) ?_
    obtain ⟨T6, X6, e6, st6⟩ := getF X4 hx hZ hown (host := "") (Or.inl (hW 79 _ rfl)) Via.refl eh4 F_z (g := (mkF m 24 #[.val (.ref x), .val (.ref ky), .val (.int r2)] [(.ref x)])) rfl rfl (hb hby d7_24)
    refine own_of st6 ?_
    show own_go p e below s _ _ _ (T6.setTop (mkF m 27 #[.val (.ref x), .val (.ref ky), .val (.int r2)] [(.int zz)]))
    refine own_of (fun tt_ => XS.iconst X6.here hx rfl (hb hby d7_27)) ?_
    refine own_of (fun tt_ => XS.iadd X6.here hx rfl (hb hby d7_28) rfl) ?_
    show own_go p e below s _ _ _ (T6.setTop (mkF m 29 #[.val (.ref x), .val (.ref ky), .val (.int r2)] [(.int (zz + (1 : Int32)))]))
    refine own_of (fun tt_ => XS.aloadN X6.here hx rfl (hb hby d7_29) rfl rfl) ?_
    obtain ⟨T7, X7, e7, st7⟩ := getF X6 hx hZ hown (host := "") (Or.inl (hW 11 _ rfl)) Via.refl e6 F_s (g := (mkF m 30 #[.val (.ref x), .val (.ref ky), .val (.int r2)] [(.ref x), (.int (zz + (1 : Int32)))])) rfl rfl (hb hby d7_30)
    refine own_of st7 ?_
    show own_go p e below s _ _ _ (T7.setTop (mkF m 33 #[.val (.ref x), .val (.ref ky), .val (.int r2)] [(.int 16), (.int (zz + (1 : Int32)))]))
    refine own_of (fun tt_ => XS.iconst X7.here hx rfl (hb hby d7_33)) ?_
    refine own_of (fun tt_ => XS.idiv X7.here hx rfl (hb hby d7_34) rfl (by decide)) ?_
    show own_go p e below s _ _ _ (T7.setTop (mkF m 35 #[.val (.ref x), .val (.ref ky), .val (.int r2)] [(.int 4), (.int (zz + (1 : Int32)))]))
    refine own_of (fun tt_ => XS.iconst X7.here hx rfl (hb hby d7_35)) ?_
    refine own_of (fun tt_ => XS.imul X7.here hx rfl (hb hby d7_36) rfl) ?_
    show own_go p e below s _ _ _ (T7.setTop (mkF m 37 #[.val (.ref x), .val (.ref ky), .val (.int r2)] [(.int 12), (.int (zz + (1 : Int32)))]))
    have hb37_8 : ¬ ((12 : Int32) < (zz + (1 : Int32))) := hz
    refine own_of (fun tt_ => XS.icmpYes X7.here hx rfl (pc0 := 37) (pc' := 50) rfl (hb hby d7_37) rfl (flt hb37_8).2.2.2 (by decide) (by decide)) ?_
    show own_go p e below s _ _ _ (T7.setTop (mkF m 50 #[.val (.ref x), .val (.ref ky), .val (.int r2)] []))
    refine own_of (fun tt_ => XS.aloadN X7.here hx rfl (hb hby d7_50) rfl rfl) ?_
    refine own_of (fun tt_ => XS.iloadN X7.here hx rfl (hb hby d7_51) rfl) ?_
    refine own_of (fun tt_ => XS.aloadN X7.here hx rfl (hb hby d7_52) rfl rfl) ?_
    show own_go p e below s _ _ _ (T7.setTop (mkF m 53 #[.val (.ref x), .val (.ref ky), .val (.int r2)] [(.ref ky), (.int r2), (.ref x)]))
    obtain ⟨cq9, q9, q9'⟩ := E_x.cell
    obtain ⟨_, _, ⟨T9, L9, k9, n9⟩, -, X9, ⟨Lc9, hQ9, l9, y9, z9⟩, st9⟩ := X7.privateBack hx (y := ym9) hown (mvT hZ (hW 81 _ rfl)) (mvT hZ (hW 82 _ rfl)) (mvT hZ (own_selp (y := ym9) (z := ym1) (hW 48 _ rfl) rfl (hW 83 _ rfl) (hW 82 _ rfl) (by decide))) (Cond.privateMethod_at (mvP hZ (hW 83 _ rfl) (args := #[]))) (mvT hZ (hW 84 _ rfl)) (by decide) (backOf (W := 0) (rmPut1 l Z a0 hw [] x pa bq wa pg ka kw kp W K0 K1 zz r2 ky kc k0 k1 h0 n0 XO0 S_ad ⟨E_x, F_w, F_s, F_p, F_u, F_z, E_b, F_n, F_d, V_w, V_p, V_g⟩ V_k D_1 D_2 sr2) hZ (hW 84 _ rfl) (hW 2 _ rfl) (by decide) (by decide)) (g := (mkF m 53 #[.val (.ref x), .val (.ref ky), .val (.int r2)] [(.ref ky), (.int r2), (.ref x)])) rfl (by rw [hml]; rfl) (Steps.refl _) (a := x) (by rw [e7]; exact q9) q9' (argsL := [(.int r2), (.ref ky)]) (rest := []) (lenOf pd_9 rfl) rfl (by show 2 * 0 + _ ≤ _; exact Nat.le_of_eq rfl) (hb hby d7_53) (fun _ _ => ⟨rfl, e7, (by decide : 0 + 0 ≤ _), (by decide : 0 + 0 ≤ _)⟩)
    dsimp only [Pt.U, Pt.locs, Pt.cells, Pt.slots] at X9 l9 y9 z9 st9 hQ9
    subst l9 y9 z9
    obtain ⟨rfl, Nq9, Kp9, Q9⟩ := hQ9
    have N9 := Fr.app N4 Nq9
    refine own_of (fun tt_ kk_ => st9.trans kk_) ?_
    have sz9 : h0.size ≤ T9.heap.size := Kp9.1
    have O9 : Old Z n0 T9.heap := XO0.keep Kp9 (allS (by omega) (allS (by omega) (allS (by omega) all0)))
    have K9 : Keep h0 T9.heap [x, bq, wa, pg] := K0_.trans Kp9 (allS (Or.inl (List.mem_of_getElem? (i := 1) rfl)) (allS (Or.inl (List.mem_of_getElem? (i := 2) rfl)) (allS (Or.inl (List.mem_of_getElem? (i := 3) rfl)) all0)))
    obtain ⟨q9_0, q9_1, q9_2, q9_3, q9_4, q9_5, q9_6, q9_7, q9_8, q9_9, q9_10, q9_11⟩ := id Q9
    show own_go p e below s _ _ _ (T9.setTop (mkF m 56 #[.val (.ref x), .val (.ref ky), .val (.int r2)] []))
    refine own_of (fun tt_ => XS.aloadN X9.here hx rfl (hb hby d7_56) rfl rfl) ?_
    refine own_of (fun tt_ => XS.dup X9.here hx rfl (hb hby d7_57) rfl rfl) ?_
    obtain ⟨T10, X10, e10, st10⟩ := getF X9 hx hZ hown (host := "") (Or.inl (hW 79 _ rfl)) Via.refl rfl q9_5 (g := (mkF m 58 #[.val (.ref x), .val (.ref ky), .val (.int r2)] [(.ref x), (.ref x)])) rfl rfl (hb hby d7_58)
    refine own_of st10 ?_
    show own_go p e below s _ _ _ (T10.setTop (mkF m 61 #[.val (.ref x), .val (.ref ky), .val (.int r2)] [(.int zz), (.ref x)]))
    refine own_of (fun tt_ => XS.iconst X10.here hx rfl (hb hby d7_61)) ?_
    refine own_of (fun tt_ => XS.iadd X10.here hx rfl (hb hby d7_62) rfl) ?_
    show own_go p e below s _ _ _ (T10.setTop (mkF m 63 #[.val (.ref x), .val (.ref ky), .val (.int r2)] [(.int (zz + (1 : Int32))), (.ref x)]))
    obtain ⟨T11, h11, X11, e11, W11, st11⟩ := putF X10 hx hZ hown (host := "") (Or.inl (hW 79 _ rfl)) Via.refl e10 q9_5 q9_0 (Or.inl (hW 80 _ rfl)) (hW 1 _ rfl) (ty := .int) pf_0 rfl rfl (g := (mkF m 63 #[.val (.ref x), .val (.ref ky), .val (.int r2)] [(.int (zz + (1 : Int32))), (.ref x)])) rfl rfl (hb hby d7_63)
    refine own_of st11 ?_
    have N11 := Fr.snoc X11 N9 (by omega : n0 ≤ x)
    have sz11 : h11.size = T9.heap.size := W11.size
    have O11 : Old Z n0 h11 := O9.wr W11 (by omega)
    have K11 : Keep h0 h11 [x, bq, wa, pg] := K9.wr W11 (Or.inl (List.mem_of_getElem? (i := 0) rfl))
    have Fw11 := q9_5.same W11
    show own_go p e below s _ _ _ (T11.setTop (mkF m 66 #[.val (.ref x), .val (.ref ky), .val (.int r2)] []))
    refine own_retV X11 hx hlk hret (hb hby d7_66) (by decide) (by decide) ?_
    rw [e11]
    have f12 : Exa Z h11 x "com/example/grantway/grantway/protocol/PackedSet" := (q9_0.wr W11)
    have f13 : Fld Z h11 x "com/example/grantway/grantway/protocol/PackedSet" "width" "I" (.int 2) := (q9_1.other W11 (Or.inr (slot_ne (Or.inr (hW 10 _ rfl)) (Or.inl (hW 80 _ rfl)) (by decide) pf_0 pf_0)))
    have f14 : Fld Z h11 x "com/example/grantway/grantway/protocol/PackedSet" "slots" "I" (.int 16) := (q9_2.other W11 (Or.inr (slot_ne (Or.inl (hW 12 _ rfl)) (Or.inl (hW 80 _ rfl)) (by decide) pf_0 pf_0)))
    have f15 : Fld Z h11 x "com/example/grantway/grantway/protocol/PackedSet" "pages" "[[J" (.ref pa) := (q9_3.other W11 (Or.inr (slot_ne (Or.inl (hW 16 _ rfl)) (Or.inl (hW 80 _ rfl)) (by decide) pf_3 pf_0)))
    have f16 : Fld Z h11 x "com/example/grantway/grantway/protocol/PackedSet" "used" "Ljava/util/BitSet;" (.ref bq) := (q9_4.other W11 (Or.inr (slot_ne (Or.inl (hW 40 _ rfl)) (Or.inl (hW 80 _ rfl)) (by decide) pf_4 pf_0)))
    have f17 : Exa Z h11 bq "java/util/BitSet" := (q9_6.wr W11)
    have f18 : Fld Z h11 bq "java/util/BitSet" "wordsInUse" "I" (.int 1) := (q9_7.other W11 (Or.inl (own_ne (by omega))))
    have f19 : Fld Z h11 bq "java/util/BitSet" "words" "[J" (.ref wa) := (q9_8.other W11 (Or.inl (own_ne (by omega))))
    have f20 : Arv Z h11 wa kw .long (1 : Int32) [(.long (W ||| own_m r2))] (.long 0) := (q9_9.other W11 (own_ne (by omega)))
    have f21 : Arv Z h11 pa ka (.array .long) (1 : Int32) [(.ref pg)] .null := (q9_10.other W11 (own_ne (by omega)))
    have f22 : Arv Z h11 pg kp .long (32 : Int32) (own_pg (own_up K0 r2 k0) (own_up K1 r2 k1)) (.long 0) := (q9_11.other W11 (own_ne (by omega)))
    exact ⟨_, _, _, _, rfl, N11, K11, ⟨f12, f13, f14, f15, f16, Fw11, f17, f18, f19, f20, f21, f22⟩, ⟨r2, sr2, fr2, Or.inr ⟨hb19_5, rfl, rfl, rfl⟩⟩, Or.inr rfl⟩
  · refine own_of (fun tt_ => XS.ifNo X4.here hx rfl (hb hby d7_19) rfl ((if0 _ _).trans (feq hb19_5).1)) ?_
    show own_go p e below s _ _ _ (T4.setTop (mkF m 22 #[.val (.ref x), .val (.ref ky), .val (.int r2)] []))
    refine own_retV X4 hx hlk hret (hb hby d7_22) (by decide) (by decide) ?_
    rw [eh4]
    exact ⟨W, K0, K1, zz, rfl, N4, K0_, ⟨E_x, F_w, F_s, F_p, F_u, F_z, E_b, F_n, F_d, V_w, V_p, V_g⟩, ⟨r2, sr2, fr2, Or.inl ⟨hb19_5, rfl, rfl, rfl⟩⟩, Or.inl rfl⟩
theorem ef_rmCon0 (m : MethodId) (x0 : Nat) (x1 : Nat) : entryFrame m #[(.ref x0), (.ref x1)] 2 = mkF m 0 #[.val (.ref x0), .val (.ref x1)] [] := by first | (simp [entryFrame, mkF, argsToLocals, Value.category]; done) | rfl
theorem d20_0 : decode prog_28_method_3_code 0 = .ok (.aload_n 0, 1) := by decide +kernel
theorem d20_1 : decode prog_28_method_3_code 1 = .ok (.aload_n 1, 1) := by decide +kernel
theorem d20_2 : decode prog_28_method_3_code 2 = .ok (.invokevirtual 38, 3) := by decide +kernel
theorem d20_5 : decode prog_28_method_3_code 5 = .ok (.aload_n 0, 1) := by decide +kernel
theorem d20_6 : decode prog_28_method_3_code 6 = .ok (.getfield 34, 3) := by decide +kernel
theorem d20_9 : decode prog_28_method_3_code 9 = .ok (.aload_n 0, 1) := by decide +kernel
theorem d20_10 : decode prog_28_method_3_code 10 = .ok (.aload_n 1, 1) := by decide +kernel
theorem d20_11 : decode prog_28_method_3_code 11 = .ok (.invokevirtual 42, 3) := by decide +kernel
theorem d20_14 : decode prog_28_method_3_code 14 = .ok (.invokevirtual 46, 3) := by decide +kernel
theorem d20_17 : decode prog_28_method_3_code 17 = .ok (.ireturn, 1) := by decide +kernel
def Q_rmCon0 (Z : State) (x : Nat) (pa : Nat) (bq : Nat) (wa : Nat) (ka : ClassId) (kw : ClassId) (zz : Int32) (ky : Nat) (kc : ClassId) (k0 : Int64) (k1 : Int64) (h0 : Heap) (n0 : Nat) (v : Option Value) (h : Heap) (L : List Loc) : Prop := v = some (.int 0) ∧ Fr n0 L ∧ h = h0
set_option maxRecDepth 65536 in
set_option maxHeartbeats 40000000 in
theorem rmCon0 (l : Launch) (Z : State) (a0 : Array Value) (hw : own_H Z a0) (ws : List Jvm.Cond) (x : Nat) (pa : Nat) (bq : Nat) (wa : Nat) (ka : ClassId) (kw : ClassId) (zz : Int32) (ky : Nat) (kc : ClassId) (k0 : Int64) (k1 : Int64) (h0 : Heap) (n0 : Nat) (XO0 : Old Z n0 h0) (S_ad : Sta Z Z.heap "java/util/BitSet" "$assertionsDisabled" "Z" (.int 1)) (PQ : own_p0 Z h0 x pa bq wa ka kw zz) (V_k : Arv Z h0 ky kc .long (2 : Int32) [(.long k0), (.long k1)] (.long 0)) :
    own_M l Z ym0 prog_28_method_3_code ws 2 (some .boolean) (own_R 3 0 0 51) #[(.ref x), (.ref ky)] h0 (Q_rmCon0 Z x pa bq wa ka kw zz ky kc k0 k1 h0 n0) := by
  refine own_open (plainFor_of_name pn_1) ?_
  intro p e s m below meth c s₁ hx hby hlk hret hml hown hnm hZ X0 e0
  have hW := own_hW hw
  have N0 := Fr.nil n0
  refine own_of (fun tt_ kk_ => castTop (ef_rmCon0 m x ky) kk_) ?_
  show own_go p e below s _ _ _ (s₁.setTop (mkF m 0 #[.val (.ref x), .val (.ref ky)] []))
  obtain ⟨E_x, F_w, F_s, F_p, F_u, F_z, E_b, F_n, F_d, V_w, V_p⟩ := id PQ
  refine own_of (fun tt_ => XS.aloadN X0.here hx rfl (hb hby d20_0) rfl rfl) ?_
  refine own_of (fun tt_ => XS.aloadN X0.here hx rfl (hb hby d20_1) rfl rfl) ?_
  show own_go p e below s _ _ _ (s₁.setTop (mkF m 2 #[.val (.ref x), .val (.ref ky)] [(.ref ky), (.ref x)]))
  obtain ⟨cq1, q1, q1'⟩ := E_x.cell
  obtain ⟨_, _, ⟨T1, L1, k1, n1⟩, -, X1, ⟨Lc1, hQ1, l1, y1, z1⟩, st1⟩ := X0.privateBack hx (y := ym4) hown (mvT hZ (hW 50 _ rfl)) (mvT hZ (hW 51 _ rfl)) (mvT hZ (own_selp (y := ym4) (z := ym1) (hW 48 _ rfl) rfl (hW 52 _ rfl) (hW 51 _ rfl) (by decide))) (Cond.privateMethod_at (mvP hZ (hW 52 _ rfl) (args := #[]))) (mvT hZ (hW 53 _ rfl)) (by decide) (backOf (W := 0) (rmCW l Z a0 hw [] x ky kc k0 k1 h0 n0 XO0 F_w V_k) hZ (hW 53 _ rfl) (hW 2 _ rfl) (by decide) (by decide)) (g := (mkF m 2 #[.val (.ref x), .val (.ref ky)] [(.ref ky), (.ref x)])) rfl (by rw [hml]; rfl) (Steps.refl _) (a := x) (by rw [e0]; exact q1) q1' (argsL := [(.ref ky)]) (rest := []) (lenOf pd_7 rfl) rfl (by show 2 * 0 + _ ≤ _; exact Nat.le_of_eq rfl) (hb hby d20_2) (fun _ _ => ⟨rfl, e0, (by decide : 0 + 0 ≤ _), (by decide : 0 + 0 ≤ _)⟩)
  dsimp only [Pt.U, Pt.locs, Pt.cells, Pt.slots] at X1 l1 y1 z1 st1 hQ1
  subst l1 y1 z1
  obtain ⟨rfl, Nq1, eh1⟩ := hQ1
  have N1 := Fr.app N0 Nq1
  refine own_of (fun tt_ kk_ => st1.trans kk_) ?_
  show own_go p e below s _ _ _ (T1.setTop (mkF m 5 #[.val (.ref x), .val (.ref ky)] []))
  refine own_of (fun tt_ => XS.aloadN X1.here hx rfl (hb hby d20_5) rfl rfl) ?_
  obtain ⟨T2, X2, e2, st2⟩ := getF X1 hx hZ hown (host := "") (Or.inl (hW 39 _ rfl)) Via.refl eh1 F_u (g := (mkF m 6 #[.val (.ref x), .val (.ref ky)] [(.ref x)])) rfl rfl (hb hby d20_6)
  refine own_of st2 ?_
  show own_go p e below s _ _ _ (T2.setTop (mkF m 9 #[.val (.ref x), .val (.ref ky)] [(.ref bq)]))
  refine own_of (fun tt_ => XS.aloadN X2.here hx rfl (hb hby d20_9) rfl rfl) ?_
  refine own_of (fun tt_ => XS.aloadN X2.here hx rfl (hb hby d20_10) rfl rfl) ?_
  show own_go p e below s _ _ _ (T2.setTop (mkF m 11 #[.val (.ref x), .val (.ref ky)] [(.ref ky), (.ref x), (.ref bq)]))
  obtain ⟨cq3, q3, q3'⟩ := E_x.cell
  obtain ⟨_, _, ⟨T3, L3, k3, n3⟩, -, X3, ⟨Lc3, hQ3, l3, y3, z3⟩, st3⟩ := X2.privateBack hx (y := ym3) hown (mvT hZ (hW 54 _ rfl)) (mvT hZ (hW 55 _ rfl)) (mvT hZ (own_selp (y := ym3) (z := ym1) (hW 48 _ rfl) rfl (hW 56 _ rfl) (hW 55 _ rfl) (by decide))) (Cond.privateMethod_at (mvP hZ (hW 56 _ rfl) (args := #[]))) (mvT hZ (hW 57 _ rfl)) (by decide) (backOf (W := 1) (rmFind0 l Z a0 hw [] x pa bq wa ka kw zz ky kc k0 k1 h0 n0 XO0 S_ad ⟨E_x, F_w, F_s, F_p, F_u, F_z, E_b, F_n, F_d, V_w, V_p⟩ V_k) hZ (hW 57 _ rfl) (hW 2 _ rfl) (by decide) (by decide)) (g := (mkF m 11 #[.val (.ref x), .val (.ref ky)] [(.ref ky), (.ref x), (.ref bq)])) rfl (by rw [hml]; rfl) (Steps.refl _) (a := x) (by rw [e2]; exact q3) q3' (argsL := [(.ref ky)]) (rest := [(.ref bq)]) (lenOf pd_8 rfl) rfl (by show 2 * 0 + _ ≤ _; exact Nat.le_of_eq rfl) (hb hby d20_11) (fun _ _ => ⟨rfl, e2, (by decide : 0 + 0 ≤ _), (by decide : 0 + 0 ≤ _)⟩)
  dsimp only [Pt.U, Pt.locs, Pt.cells, Pt.slots] at X3 l3 y3 z3 st3 hQ3
  subst l3 y3 z3
  obtain ⟨rfl, Nq3, eh3⟩ := hQ3
  have N3 := Fr.app N1 Nq3
  refine own_of (fun tt_ kk_ => st3.trans kk_) ?_
  show own_go p e below s _ _ _ (T3.setTop (mkF m 14 #[.val (.ref x), .val (.ref ky)] [(.int (own_hash k0 k1)), (.ref bq)]))
  obtain ⟨cq4, kq4, q4a, q4b, q4c⟩ := isOf hZ eh3 E_b
  obtain ⟨_, _, ⟨T4, L4, k4, n4⟩, -, X4, ⟨Lc4, hQ4, l4, y4, z4⟩, st4⟩ := X3.virtualBack hx (y := ym2) (z := ym2) hown (mvT hZ (hW 68 _ rfl)) (mvT hZ (hW 69 _ rfl)) (notFace_of_selects (args := #[]) (mvT hZ (hW 71 _ rfl))) (mvT hZ (hW 71 _ rfl)) (mvT hZ (hW 70 _ rfl)) (by decide) (backOf (W := 0) (rmGet0 l Z a0 hw [] bq wa kw (own_hash k0 k1) h0 n0 XO0 S_ad E_b F_n F_d V_w (own_hash_s k0 k1)) hZ (hW 72 _ rfl) (hW 19 _ rfl) (by decide) (by decide)) q4a q4c (g := (mkF m 14 #[.val (.ref x), .val (.ref ky)] [(.int (own_hash k0 k1)), (.ref bq)])) rfl (by rw [hml]; rfl) (Steps.refl _) (argsL := [(.int (own_hash k0 k1))]) (rest := []) (lenOf pd_4 rfl) rfl (by show 2 * 0 + _ ≤ _; exact Nat.le_of_eq rfl) (hb hby d20_14) (fun _ _ => ⟨rfl, eh3, (by decide : 0 + 0 ≤ _), (by decide : 0 + 0 ≤ _)⟩)
  dsimp only [Pt.U, Pt.locs, Pt.cells, Pt.slots] at X4 l4 y4 z4 st4 hQ4
  subst l4 y4 z4
  obtain ⟨rfl, Nq4, eh4⟩ := hQ4
  have N4 := Fr.app N3 Nq4
  refine own_of (fun tt_ kk_ => st4.trans kk_) ?_
  show own_go p e below s _ _ _ (T4.setTop (mkF m 17 #[.val (.ref x), .val (.ref ky)] [(.int 0)]))
  refine own_ret X4 hx hlk hret rfl (Or.inl ⟨rfl, by simp, _, rfl⟩) (hb hby d20_17) (by decide) (by decide) ?_
  rw [eh4]
  exact ⟨rfl, N4, rfl⟩
theorem ef_rmCon1 (m : MethodId) (x0 : Nat) (x1 : Nat) : entryFrame m #[(.ref x0), (.ref x1)] 2 = mkF m 0 #[.val (.ref x0), .val (.ref x1)] [] := by first | (simp [entryFrame, mkF, argsToLocals, Value.category]; done) | rfl
def Q_rmCon1 (Z : State) (x : Nat) (pa : Nat) (bq : Nat) (wa : Nat) (pg : Nat) (ka : ClassId) (kw : ClassId) (kp : ClassId) (W : Int64) (K0 : Int32 → Int64) (K1 : Int32 → Int64) (zz : Int32) (ky : Nat) (kc : ClassId) (k0 : Int64) (k1 : Int64) (h0 : Heap) (n0 : Nat) (v : Option Value) (h : Heap) (L : List Loc) : Prop := ∃ r : Int32, v = some (.int (own_bit W r)) ∧ Fr n0 L ∧ h = h0 ∧ own_s r ∧ own_fnd W K0 K1 k0 k1 3 (own_hash k0 k1) r
set_option maxRecDepth 65536 in
set_option maxHeartbeats 40000000 in
theorem rmCon1 (l : Launch) (Z : State) (a0 : Array Value) (hw : own_H Z a0) (ws : List Jvm.Cond) (x : Nat) (pa : Nat) (bq : Nat) (wa : Nat) (pg : Nat) (ka : ClassId) (kw : ClassId) (kp : ClassId) (W : Int64) (K0 : Int32 → Int64) (K1 : Int32 → Int64) (zz : Int32) (ky : Nat) (kc : ClassId) (k0 : Int64) (k1 : Int64) (h0 : Heap) (n0 : Nat) (XO0 : Old Z n0 h0) (S_ad : Sta Z Z.heap "java/util/BitSet" "$assertionsDisabled" "Z" (.int 1)) (PQ : own_p1 Z h0 x pa bq wa pg ka kw kp W K0 K1 zz) (V_k : Arv Z h0 ky kc .long (2 : Int32) [(.long k0), (.long k1)] (.long 0)) (hfr : own_free W (own_hash k0 k1)) :
    own_M l Z ym0 prog_28_method_3_code ws 2 (some .boolean) (own_R 3 0 0 51) #[(.ref x), (.ref ky)] h0 (Q_rmCon1 Z x pa bq wa pg ka kw kp W K0 K1 zz ky kc k0 k1 h0 n0) := by
  refine own_open (plainFor_of_name pn_1) ?_
  intro p e s m below meth c s₁ hx hby hlk hret hml hown hnm hZ X0 e0
  have hW := own_hW hw
  have N0 := Fr.nil n0
  refine own_of (fun tt_ kk_ => castTop (ef_rmCon1 m x ky) kk_) ?_
  show own_go p e below s _ _ _ (s₁.setTop (mkF m 0 #[.val (.ref x), .val (.ref ky)] []))
  obtain ⟨E_x, F_w, F_s, F_p, F_u, F_z, E_b, F_n, F_d, V_w, V_p, V_g⟩ := id PQ
  refine own_of (fun tt_ => XS.aloadN X0.here hx rfl (hb hby d20_0) rfl rfl) ?_
  refine own_of (fun tt_ => XS.aloadN X0.here hx rfl (hb hby d20_1) rfl rfl) ?_
  show own_go p e below s _ _ _ (s₁.setTop (mkF m 2 #[.val (.ref x), .val (.ref ky)] [(.ref ky), (.ref x)]))
  obtain ⟨cq1, q1, q1'⟩ := E_x.cell
  obtain ⟨_, _, ⟨T1, L1, k1, n1⟩, -, X1, ⟨Lc1, hQ1, l1, y1, z1⟩, st1⟩ := X0.privateBack hx (y := ym4) hown (mvT hZ (hW 50 _ rfl)) (mvT hZ (hW 51 _ rfl)) (mvT hZ (own_selp (y := ym4) (z := ym1) (hW 48 _ rfl) rfl (hW 52 _ rfl) (hW 51 _ rfl) (by decide))) (Cond.privateMethod_at (mvP hZ (hW 52 _ rfl) (args := #[]))) (mvT hZ (hW 53 _ rfl)) (by decide) (backOf (W := 0) (rmCW l Z a0 hw [] x ky kc k0 k1 h0 n0 XO0 F_w V_k) hZ (hW 53 _ rfl) (hW 2 _ rfl) (by decide) (by decide)) (g := (mkF m 2 #[.val (.ref x), .val (.ref ky)] [(.ref ky), (.ref x)])) rfl (by rw [hml]; rfl) (Steps.refl _) (a := x) (by rw [e0]; exact q1) q1' (argsL := [(.ref ky)]) (rest := []) (lenOf pd_7 rfl) rfl (by show 2 * 0 + _ ≤ _; exact Nat.le_of_eq rfl) (hb hby d20_2) (fun _ _ => ⟨rfl, e0, (by decide : 0 + 0 ≤ _), (by decide : 0 + 0 ≤ _)⟩)
  dsimp only [Pt.U, Pt.locs, Pt.cells, Pt.slots] at X1 l1 y1 z1 st1 hQ1
  subst l1 y1 z1
  obtain ⟨rfl, Nq1, eh1⟩ := hQ1
  have N1 := Fr.app N0 Nq1
  refine own_of (fun tt_ kk_ => st1.trans kk_) ?_
  show own_go p e below s _ _ _ (T1.setTop (mkF m 5 #[.val (.ref x), .val (.ref ky)] []))
  refine own_of (fun tt_ => XS.aloadN X1.here hx rfl (hb hby d20_5) rfl rfl) ?_
  obtain ⟨T2, X2, e2, st2⟩ := getF X1 hx hZ hown (host := "") (Or.inl (hW 39 _ rfl)) Via.refl eh1 F_u (g := (mkF m 6 #[.val (.ref x), .val (.ref ky)] [(.ref x)])) rfl rfl (hb hby d20_6)
  refine own_of st2 ?_
  show own_go p e below s _ _ _ (T2.setTop (mkF m 9 #[.val (.ref x), .val (.ref ky)] [(.ref bq)]))
  refine own_of (fun tt_ => XS.aloadN X2.here hx rfl (hb hby d20_9) rfl rfl) ?_
  refine own_of (fun tt_ => XS.aloadN X2.here hx rfl (hb hby d20_10) rfl rfl) ?_
  show own_go p e below s _ _ _ (T2.setTop (mkF m 11 #[.val (.ref x), .val (.ref ky)] [(.ref ky), (.ref x), (.ref bq)]))
  obtain ⟨cq3, q3, q3'⟩ := E_x.cell
  obtain ⟨_, _, ⟨T3, L3, k3, n3⟩, -, X3, ⟨Lc3, hQ3, l3, y3, z3⟩, st3⟩ := X2.privateBack hx (y := ym3) hown (mvT hZ (hW 54 _ rfl)) (mvT hZ (hW 55 _ rfl)) (mvT hZ (own_selp (y := ym3) (z := ym1) (hW 48 _ rfl) rfl (hW 56 _ rfl) (hW 55 _ rfl) (by decide))) (Cond.privateMethod_at (mvP hZ (hW 56 _ rfl) (args := #[]))) (mvT hZ (hW 57 _ rfl)) (by decide) (backOf (W := 1) (rmFind1 l Z a0 hw [] x pa bq wa pg ka kw kp W K0 K1 zz ky kc k0 k1 h0 n0 XO0 S_ad ⟨E_x, F_w, F_s, F_p, F_u, F_z, E_b, F_n, F_d, V_w, V_p, V_g⟩ V_k hfr) hZ (hW 57 _ rfl) (hW 2 _ rfl) (by decide) (by decide)) (g := (mkF m 11 #[.val (.ref x), .val (.ref ky)] [(.ref ky), (.ref x), (.ref bq)])) rfl (by rw [hml]; rfl) (Steps.refl _) (a := x) (by rw [e2]; exact q3) q3' (argsL := [(.ref ky)]) (rest := [(.ref bq)]) (lenOf pd_8 rfl) rfl (by show 2 * 0 + _ ≤ _; exact Nat.le_of_eq rfl) (hb hby d20_11) (fun _ _ => ⟨rfl, e2, (by decide : 0 + 0 ≤ _), (by decide : 0 + 0 ≤ _)⟩)
  dsimp only [Pt.U, Pt.locs, Pt.cells, Pt.slots] at X3 l3 y3 z3 st3 hQ3
  subst l3 y3 z3
  obtain ⟨r3, rfl, Nq3, eh3, sr3, fr3⟩ := hQ3
  have N3 := Fr.app N1 Nq3
  refine own_of (fun tt_ kk_ => st3.trans kk_) ?_
  show own_go p e below s _ _ _ (T3.setTop (mkF m 14 #[.val (.ref x), .val (.ref ky)] [(.int r3), (.ref bq)]))
  obtain ⟨cq4, kq4, q4a, q4b, q4c⟩ := isOf hZ eh3 E_b
  obtain ⟨_, _, ⟨T4, L4, k4, n4⟩, -, X4, ⟨Lc4, hQ4, l4, y4, z4⟩, st4⟩ := X3.virtualBack hx (y := ym2) (z := ym2) hown (mvT hZ (hW 68 _ rfl)) (mvT hZ (hW 69 _ rfl)) (notFace_of_selects (args := #[]) (mvT hZ (hW 71 _ rfl))) (mvT hZ (hW 71 _ rfl)) (mvT hZ (hW 70 _ rfl)) (by decide) (backOf (W := 0) (rmGet1 l Z a0 hw [] bq wa kw W r3 h0 n0 XO0 S_ad E_b F_n F_d V_w sr3) hZ (hW 72 _ rfl) (hW 19 _ rfl) (by decide) (by decide)) q4a q4c (g := (mkF m 14 #[.val (.ref x), .val (.ref ky)] [(.int r3), (.ref bq)])) rfl (by rw [hml]; rfl) (Steps.refl _) (argsL := [(.int r3)]) (rest := []) (lenOf pd_4 rfl) rfl (by show 2 * 0 + _ ≤ _; exact Nat.le_of_eq rfl) (hb hby d20_14) (fun _ _ => ⟨rfl, eh3, (by decide : 0 + 0 ≤ _), (by decide : 0 + 0 ≤ _)⟩)
  dsimp only [Pt.U, Pt.locs, Pt.cells, Pt.slots] at X4 l4 y4 z4 st4 hQ4
  subst l4 y4 z4
  obtain ⟨rfl, Nq4, eh4⟩ := hQ4
  have N4 := Fr.app N3 Nq4
  refine own_of (fun tt_ kk_ => st4.trans kk_) ?_
  show own_go p e below s _ _ _ (T4.setTop (mkF m 17 #[.val (.ref x), .val (.ref ky)] [(.int (own_bit W r3))]))
  refine own_ret X4 hx hlk hret (by rcases own_bit01 W r3 with q | q <;> rw [q] <;> rfl) (Or.inl ⟨rfl, by simp, _, rfl⟩) (hb hby d20_17) (by decide) (by decide) ?_
  rw [eh4]
  exact ⟨r3, rfl, N4, rfl, sr3, fr3⟩
theorem ef_rm0 (m : MethodId) (x0 : Int64) (x1 : Int64) (x2 : Int64) (x3 : Int64) (x4 : Int32) : entryFrame m #[(.long x0), (.long x1), (.long x2), (.long x3), (.int x4)] maxLocals = mkF m 0 #[.val (.long x0), .second, .val (.long x1), .second, .val (.long x2), .second, .val (.long x3), .second, .val (.int x4), .unset, .unset, .unset, .unset, .unset, .unset, .unset, .unset, .unset, .unset, .unset] [] := by first | (simp [entryFrame, mkF, argsToLocals, Value.category, maxLocals]; done) | rfl
theorem pd_10 : parseMethodDescriptor "(IJJJJ)J" = some ⟨[.int, .long, .long, .long, .long], some .long⟩ := by decide +kernel
theorem pd_11 : parseMethodDescriptor "([J)Z" = some ⟨[(.array .long)], some .boolean⟩ := by decide +kernel
def Q_rm0 (Z : State) (ja : Int64) (jb : Int64) (jc : Int64) (jd : Int64) (sl : Int32) (h0 : Heap) (n0 : Nat) (v : Option Value) (h : Heap) (L : List Loc) : Prop := v = some (.int 1) ∧ Fr n0 L
set_option maxRecDepth 65536 in
set_option maxHeartbeats 40000000 in
theorem rm0 (l : Launch) (Z : State) (a0 : Array Value) (hw : ∀ d ∈ tables_1, d.before a0 Z = true) (ws : List Jvm.Cond) (ja : Int64) (jb : Int64) (jc : Int64) (jd : Int64) (sl : Int32) (h0 : Heap) (n0 : Nat) (XO0 : Old Z n0 h0) (S_ad : Sta Z Z.heap "java/util/BitSet" "$assertionsDisabled" "Z" (.int 1)) :
    MetFree l x (head1 (Jvm.Cond.code x code maxLocals ret :: ws) room_1) (fun zz_ U => zz_ = #[(.long ja), (.long jb), (.long jc), (.long jd), (.int sl)] ∧ Z.Warmed39 U.vm ∧ U.heap = h0) (fun _ _ _ _ _ => True) (fun _ U o U' => ∃ v L, o = .returned v ∧ Q_rm0 Z ja jb jc jd sl h0 n0 v U'.heap L ∧ FrameEnd U o U' L room_1.cells room_1.slots) := by
  refine MetFree.of_bodySF (plainFor_of_name pn_4) hisR ?_
  intro p e s m args below meth c s₁ Bd hml0 hP hK
  obtain ⟨rfl, hZ, hh⟩ := hP
  have hx := Bd.exec
  have hby := Bd.bytes
  have hlk := Bd.notSynchronized
  have hW : ∀ (i : Nat) (d : Jvm.Cond), tables_1[i]? = some d → d.before a0 Z = true := fun i d h => hw d (List.mem_of_getElem? h)
  have hml : c.maxLocals = 20 := hml0
  have hown : s.vm.findClass "com/example/grantway/grantway/protocol/PackedSetContainsPinLaw" = some m.cls := findClass_of_methodNamed Bd.named
  have hnm := (name_of_methodNamed Bd.named Bd.method).1
  have X0 : Stand p l e room_1 s m #[(.long ja), (.long jb), (.long jc), (.long jd), (.int sl)] below meth c s₁ [] 0 0 := Stand.of_body Bd
  have e0 : s₁.heap = h0 := by rw [← hh, Bd.state]; rfl
  have N0 := Fr.nil n0
  refine own_in ?_
  refine own_of (fun tt_ kk_ => castTop (ef_rm0 m ja jb jc jd sl) kk_) ?_
  show own_go p e below s _ _ _ (s₁.setTop (mkF m 0 #[.val (.long ja), .second, .val (.long jb), .second, .val (.long jc), .second, .val (.long jd), .second, .val (.int sl), .unset, .unset, .unset, .unset, .unset, .unset, .unset, .unset, .unset, .unset, .unset] []))
  obtain ⟨T1, h1, X1, e1, E1, A1, D1, -, st1⟩ := newO X0 hx hZ hown (hW 0 _ rfl) (hW 1 _ rfl) (hW 2 _ rfl) e0 (g := (mkF m 0 #[.val (.long ja), .second, .val (.long jb), .second, .val (.long jc), .second, .val (.long jd), .second, .val (.int sl), .unset, .unset, .unset, .unset, .unset, .unset, .unset, .unset, .unset, .unset, .unset] [])) rfl (hb hby at_0) (by decide) (by decide)
  obtain ⟨b1, g1⟩ : ∃ z, z = h0.size := ⟨_, rfl⟩
  rw [← g1] at A1 D1 st1
  refine own_of st1 ?_
  have lt1 := own_lt A1.lt
  have sz1 : h0.size ≤ h1.size := E1.1
  have O1 : Old Z n0 h1 := XO0.ext E1
  have z1 : n0 ≤ b1 := by have := XO0.1 ▸ XO0.2.1; omega
  have F1_width : Fld Z h1 b1 "com/example/grantway/grantway/protocol/PackedSet" "width" "I" (.int 0) := D1 (Or.inr (hW 10 _ rfl)) (ty := .int) pf_0
  have F1_slots : Fld Z h1 b1 "com/example/grantway/grantway/protocol/PackedSet" "slots" "I" (.int 0) := D1 (Or.inl (hW 12 _ rfl)) (ty := .int) pf_0
  have F1_pages : Fld Z h1 b1 "com/example/grantway/grantway/protocol/PackedSet" "pages" "[[J" .null := D1 (Or.inl (hW 16 _ rfl)) (ty := (.array (.array .long))) pf_3
  have F1_used : Fld Z h1 b1 "com/example/grantway/grantway/protocol/PackedSet" "used" "Ljava/util/BitSet;" .null := D1 (Or.inl (hW 40 _ rfl)) (ty := (.object "java/util/BitSet")) pf_4
  have F1_size : Fld Z h1 b1 "com/example/grantway/grantway/protocol/PackedSet" "size" "I" (.int 0) := D1 (Or.inl (hW 80 _ rfl)) (ty := .int) pf_0
  show own_go p e below s _ _ _ (T1.setTop (mkF m 3 #[.val (.long ja), .second, .val (.long jb), .second, .val (.long jc), .second, .val (.long jd), .second, .val (.int sl), .unset, .unset, .unset, .unset, .unset, .unset, .unset, .unset, .unset, .unset, .unset] [(.ref b1)]))
  refine own_of (fun tt_ => XS.dup X1.here hx rfl (hb hby at_3) rfl rfl) ?_
  refine own_of (fun tt_ => XS.iconst X1.here hx rfl (hb hby at_4)) ?_
  show own_go p e below s _ _ _ (T1.setTop (mkF m 5 #[.val (.long ja), .second, .val (.long jb), .second, .val (.long jc), .second, .val (.long jd), .second, .val (.int sl), .unset, .unset, .unset, .unset, .unset, .unset, .unset, .unset, .unset, .unset, .unset] [(.int 2), (.ref b1), (.ref b1)]))
  obtain ⟨_, _, ⟨T2, L2, k2, n2⟩, -, X2, ⟨Lc2, hQ2, l2, y2, z2⟩, st2⟩ := X1.specialBack hx (y := (⟨"com/example/grantway/grantway/protocol/PackedSet", "<init>", "(I)V"⟩ : MethodName)) rfl hown (mvT hZ (hW 3 _ rfl)) (mvT hZ (hW 4 _ rfl)) (mvT hZ (hW 5 _ rfl)) (by decide) (backOf (W := 1) (rmPI l Z a0 hw [] b1 h1 n0 O1 (by omega) A1 F1_width F1_slots F1_pages F1_used F1_size) hZ (hW 5 _ rfl) (hW 2 _ rfl) (by decide) (by decide)) (g := (mkF m 5 #[.val (.long ja), .second, .val (.long jb), .second, .val (.long jc), .second, .val (.long jd), .second, .val (.int sl), .unset, .unset, .unset, .unset, .unset, .unset, .unset, .unset, .unset, .unset, .unset] [(.int 2), (.ref b1), (.ref b1)])) rfl (by rw [hml]; rfl) (Steps.refl _) (a := b1) (argsL := [(.int 2)]) (rest := [(.ref b1)]) (lenOf pd_2 rfl) rfl (by show 2 * 0 + _ ≤ _; exact Nat.le_of_eq rfl) (hb hby at_5) (fun _ _ => ⟨rfl, e1, (by decide : 1 + 3 ≤ _), (by decide : 5 + 5 ≤ _)⟩)
  dsimp only [Pt.U, Pt.locs, Pt.cells, Pt.slots] at X2 l2 y2 z2 st2 hQ2
  subst l2 y2 z2
  obtain ⟨pa2, bq2, wa2, ka2, kw2, rfl, Nq2, Kp2, PQ2, OV2, D2⟩ := hQ2
  have N2 := Fr.app N0 Nq2
  refine own_of (fun tt_ kk_ => st2.trans kk_) ?_
  have sz2 : h1.size ≤ T2.heap.size := Kp2.1
  have O2 : Old Z n0 T2.heap := O1.keep Kp2 (allS (by omega) all0)
  obtain ⟨u2_0, u2_1, u2_2, u2_3, u2_4, u2_5, u2_6, u2_7, u2_8, u2_9, u2_10⟩ := id PQ2
  show own_go p e below s _ _ _ (T2.setTop (mkF m 8 #[.val (.long ja), .second, .val (.long jb), .second, .val (.long jc), .second, .val (.long jd), .second, .val (.int sl), .unset, .unset, .unset, .unset, .unset, .unset, .unset, .unset, .unset, .unset, .unset] [(.ref b1)]))
  refine own_of (fun tt_ => XS.astore X2.here hx rfl (hb hby at_8) rfl rfl (l' := #[.val (.long ja), .second, .val (.long jb), .second, .val (.long jc), .second, .val (.long jd), .second, .val (.int sl), .val (.ref b1), .unset, .unset, .unset, .unset, .unset, .unset, .unset, .unset, .unset, .unset]) rfl) ?_
  refine own_of (fun tt_ => XS.iload X2.here hx rfl (hb hby at_10) rfl) ?_
  refine own_of (fun tt_ => XS.iconst X2.here hx rfl (hb hby at_12)) ?_
  refine own_of (fun tt_ => XS.iand X2.here hx rfl (hb hby at_13) rfl) ?_
  show own_go p e below s _ _ _ (T2.setTop (mkF m 14 #[.val (.long ja), .second, .val (.long jb), .second, .val (.long jc), .second, .val (.long jd), .second, .val (.int sl), .val (.ref b1), .unset, .unset, .unset, .unset, .unset, .unset, .unset, .unset, .unset, .unset] [(.int (sl &&& (3 : Int32)))]))
  rcases own_and3 sl with hk | hk | hk | hk
  · rw [hk]
    show own_go p e below s _ _ _ (T2.setTop (mkF m 14 #[.val (.long ja), .second, .val (.long jb), .second, .val (.long jc), .second, .val (.long jd), .second, .val (.int sl), .val (.ref b1), .unset, .unset, .unset, .unset, .unset, .unset, .unset, .unset, .unset, .unset] [(.int 0)]))
    refine own_of (fun tt_ => XS.istore X2.here hx rfl (hb hby at_14) rfl (l' := #[.val (.long ja), .second, .val (.long jb), .second, .val (.long jc), .second, .val (.long jd), .second, .val (.int sl), .val (.ref b1), .val (.int 0), .unset, .unset, .unset, .unset, .unset, .unset, .unset, .unset, .unset]) rfl) ?_
    refine own_of (fun tt_ => XS.iload X2.here hx rfl (hb hby at_16) rfl) ?_
    refine own_of (fun tt_ => XS.iconst X2.here hx rfl (hb hby at_18)) ?_
    refine own_of (fun tt_ => XS.iushr X2.here hx rfl (hb hby at_19) rfl) ?_
    show own_go p e below s _ _ _ (T2.setTop (mkF m 20 #[.val (.long ja), .second, .val (.long jb), .second, .val (.long jc), .second, .val (.long jd), .second, .val (.int sl), .val (.ref b1), .val (.int 0), .unset, .unset, .unset, .unset, .unset, .unset, .unset, .unset, .unset] [(.int ((sl.toUInt32 >>> ((2 : Int32) &&& 31).toUInt32).toInt32))]))
    refine own_of (fun tt_ => XS.lloadN X2.here hx rfl (hb hby at_20) rfl) ?_
    refine own_of (fun tt_ => XS.lloadN X2.here hx rfl (hb hby at_21) rfl) ?_
    refine own_of (fun tt_ => XS.lload X2.here hx rfl (hb hby at_22) rfl) ?_
    refine own_of (fun tt_ => XS.lload X2.here hx rfl (hb hby at_24) rfl) ?_
    show own_go p e below s _ _ _ (T2.setTop (mkF m 26 #[.val (.long ja), .second, .val (.long jb), .second, .val (.long jc), .second, .val (.long jd), .second, .val (.int sl), .val (.ref b1), .val (.int 0), .unset, .unset, .unset, .unset, .unset, .unset, .unset, .unset, .unset] [(.long jd), (.long jc), (.long jb), (.long ja), (.int ((sl.toUInt32 >>> ((2 : Int32) &&& 31).toUInt32).toInt32))]))
    obtain ⟨_, _, ⟨T3, L3, k3, n3⟩, -, X3, ⟨Lc3, hQ3, l3, y3, z3⟩, st3⟩ := Jvm.LawKit.callS X2 hx (y := ym5) hown (mvT hZ (hW 41 _ rfl)) (mvT hZ (hW 42 _ rfl)) (mvT hZ (hW 43 _ rfl)) (mvT hZ (hW 44 _ rfl)) (by decide) (backOf (W := 0) (rmPick l Z a0 hw [] ((sl.toUInt32 >>> ((2 : Int32) &&& 31).toUInt32).toInt32) ja jb jc jd T2.heap n0 O2) hZ (hW 44 _ rfl) (hW 43 _ rfl) (by decide) (by decide)) (g := (mkF m 26 #[.val (.long ja), .second, .val (.long jb), .second, .val (.long jc), .second, .val (.long jd), .second, .val (.int sl), .val (.ref b1), .val (.int 0), .unset, .unset, .unset, .unset, .unset, .unset, .unset, .unset, .unset] [(.long jd), (.long jc), (.long jb), (.long ja), (.int ((sl.toUInt32 >>> ((2 : Int32) &&& 31).toUInt32).toInt32))])) rfl (by rw [hml]; rfl) (argsL := [(.int ((sl.toUInt32 >>> ((2 : Int32) &&& 31).toUInt32).toInt32)), (.long ja), (.long jb), (.long jc), (.long jd)]) (rest := []) (lenOf pd_10 rfl) rfl (by show 2 * 0 + _ ≤ _; exact Nat.le_of_eq rfl) (hb hby at_26) (fun _ _ => ⟨rfl, rfl, (by decide : 4 + 0 ≤ _), (by decide : 10 + 0 ≤ _)⟩)
    dsimp only [Pt.U, Pt.locs, Pt.cells, Pt.slots] at X3 l3 y3 z3 st3 hQ3
    subst l3 y3 z3
    obtain ⟨z3, rfl, Nq3, eh3⟩ := hQ3
    have N3 := Fr.app N2 Nq3
    refine own_of st3 ?_
    show own_go p e below s _ _ _ (T3.setTop (mkF m 29 #[.val (.long ja), .second, .val (.long jb), .second, .val (.long jc), .second, .val (.long jd), .second, .val (.int sl), .val (.ref b1), .val (.int 0), .unset, .unset, .unset, .unset, .unset, .unset, .unset, .unset, .unset] [(.long z3)]))
    refine own_of (fun tt_ => XS.lstore X3.here hx rfl (hb hby at_29) rfl (l' := #[.val (.long ja), .second, .val (.long jb), .second, .val (.long jc), .second, .val (.long jd), .second, .val (.int sl), .val (.ref b1), .val (.int 0), .val (.long z3), .second, .unset, .unset, .unset, .unset, .unset, .unset, .unset]) rfl) ?_
    refine own_of (fun tt_ => XS.iload X3.here hx rfl (hb hby at_31) rfl) ?_
    refine own_of (fun tt_ => XS.iconst X3.here hx rfl (hb hby at_33)) ?_
    refine own_of (fun tt_ => XS.iushr X3.here hx rfl (hb hby at_34) rfl) ?_
    show own_go p e below s _ _ _ (T3.setTop (mkF m 35 #[.val (.long ja), .second, .val (.long jb), .second, .val (.long jc), .second, .val (.long jd), .second, .val (.int sl), .val (.ref b1), .val (.int 0), .val (.long z3), .second, .unset, .unset, .unset, .unset, .unset, .unset, .unset] [(.int ((sl.toUInt32 >>> ((4 : Int32) &&& 31).toUInt32).toInt32))]))
    refine own_of (fun tt_ => XS.lloadN X3.here hx rfl (hb hby at_35) rfl) ?_
    refine own_of (fun tt_ => XS.lloadN X3.here hx rfl (hb hby at_36) rfl) ?_
    refine own_of (fun tt_ => XS.lload X3.here hx rfl (hb hby at_37) rfl) ?_
    refine own_of (fun tt_ => XS.lload X3.here hx rfl (hb hby at_39) rfl) ?_
    show own_go p e below s _ _ _ (T3.setTop (mkF m 41 #[.val (.long ja), .second, .val (.long jb), .second, .val (.long jc), .second, .val (.long jd), .second, .val (.int sl), .val (.ref b1), .val (.int 0), .val (.long z3), .second, .unset, .unset, .unset, .unset, .unset, .unset, .unset] [(.long jd), (.long jc), (.long jb), (.long ja), (.int ((sl.toUInt32 >>> ((4 : Int32) &&& 31).toUInt32).toInt32))]))
    obtain ⟨_, _, ⟨T4, L4, k4, n4⟩, -, X4, ⟨Lc4, hQ4, l4, y4, z4⟩, st4⟩ := Jvm.LawKit.callS X3 hx (y := ym5) hown (mvT hZ (hW 41 _ rfl)) (mvT hZ (hW 42 _ rfl)) (mvT hZ (hW 43 _ rfl)) (mvT hZ (hW 44 _ rfl)) (by decide) (backOf (W := 0) (rmPick l Z a0 hw [] ((sl.toUInt32 >>> ((4 : Int32) &&& 31).toUInt32).toInt32) ja jb jc jd T2.heap n0 O2) hZ (hW 44 _ rfl) (hW 43 _ rfl) (by decide) (by decide)) (g := (mkF m 41 #[.val (.long ja), .second, .val (.long jb), .second, .val (.long jc), .second, .val (.long jd), .second, .val (.int sl), .val (.ref b1), .val (.int 0), .val (.long z3), .second, .unset, .unset, .unset, .unset, .unset, .unset, .unset] [(.long jd), (.long jc), (.long jb), (.long ja), (.int ((sl.toUInt32 >>> ((4 : Int32) &&& 31).toUInt32).toInt32))])) rfl (by rw [hml]; rfl) (argsL := [(.int ((sl.toUInt32 >>> ((4 : Int32) &&& 31).toUInt32).toInt32)), (.long ja), (.long jb), (.long jc), (.long jd)]) (rest := []) (lenOf pd_10 rfl) rfl (by show 2 * 0 + _ ≤ _; exact Nat.le_of_eq rfl) (hb hby at_41) (fun _ _ => ⟨rfl, eh3, (by decide : 4 + 0 ≤ _), (by decide : 10 + 0 ≤ _)⟩)
    dsimp only [Pt.U, Pt.locs, Pt.cells, Pt.slots] at X4 l4 y4 z4 st4 hQ4
    subst l4 y4 z4
    obtain ⟨z4, rfl, Nq4, eh4⟩ := hQ4
    have N4 := Fr.app N3 Nq4
    refine own_of st4 ?_
    show own_go p e below s _ _ _ (T4.setTop (mkF m 44 #[.val (.long ja), .second, .val (.long jb), .second, .val (.long jc), .second, .val (.long jd), .second, .val (.int sl), .val (.ref b1), .val (.int 0), .val (.long z3), .second, .unset, .unset, .unset, .unset, .unset, .unset, .unset] [(.long z4)]))
    refine own_of (fun tt_ => XS.lstore X4.here hx rfl (hb hby at_44) rfl (l' := #[.val (.long ja), .second, .val (.long jb), .second, .val (.long jc), .second, .val (.long jd), .second, .val (.int sl), .val (.ref b1), .val (.int 0), .val (.long z3), .second, .val (.long z4), .second, .unset, .unset, .unset, .unset, .unset]) rfl) ?_
    refine own_of (fun tt_ => XS.iconst X4.here hx rfl (hb hby at_46)) ?_
    obtain ⟨T5, h5, k5, X5, e5, E5, A5, st5⟩ := newP X4 hx hZ (hW 36 _ rfl) eh4 (g := (mkF m 47 #[.val (.long ja), .second, .val (.long jb), .second, .val (.long jc), .second, .val (.long jd), .second, .val (.int sl), .val (.ref b1), .val (.int 0), .val (.long z3), .second, .val (.long z4), .second, .unset, .unset, .unset, .unset, .unset] [(.int 2)])) rfl (hb hby at_47) rfl (by decide) (cap := 2) (by decide) (by decide) (by decide) (by decide)
    obtain ⟨b5, g5⟩ : ∃ z, z = T2.heap.size := ⟨_, rfl⟩
    rw [← g5] at A5 st5
    refine own_of st5 ?_
    have lt5 := own_lt A5.lt
    have sz5 : T2.heap.size ≤ h5.size := E5.1
    have O5 : Old Z n0 h5 := O2.ext E5
    have z5 : n0 ≤ b5 := by have := O2.1 ▸ O2.2.1; omega
    have V5 : Arv Z h5 b5 k5 .long (2 : Int32) [(.long 0), (.long 0)] (.long 0) := (Arv.new A5 (by decide)).pad (pad_rep [] (.long 0) 2)
    show own_go p e below s _ _ _ (T5.setTop (mkF m 49 #[.val (.long ja), .second, .val (.long jb), .second, .val (.long jc), .second, .val (.long jd), .second, .val (.int sl), .val (.ref b1), .val (.int 0), .val (.long z3), .second, .val (.long z4), .second, .unset, .unset, .unset, .unset, .unset] [(.ref b5)]))
    refine own_of (fun tt_ => XS.dup X5.here hx rfl (hb hby at_49) rfl rfl) ?_
    refine own_of (fun tt_ => XS.iconst X5.here hx rfl (hb hby at_50)) ?_
    refine own_of (fun tt_ => XS.lloadN X5.here hx rfl (hb hby at_51) rfl) ?_
    obtain ⟨cl6, Ar6, q6, S6, Ng6, H6, G6⟩ := V5
    obtain ⟨T6, h6, X6, e6, W6, st6⟩ := stJ X5 hx hZ e5 Ar6 (j := (0 : Int32)) (inb_of S6 ⟨by decide, by decide⟩) (g := (mkF m 52 #[.val (.long ja), .second, .val (.long jb), .second, .val (.long jc), .second, .val (.long jd), .second, .val (.int sl), .val (.ref b1), .val (.int 0), .val (.long z3), .second, .val (.long z4), .second, .unset, .unset, .unset, .unset, .unset] [(.long ja), (.int 0), (.ref b5), (.ref b5)])) rfl rfl (hb hby at_52)
    have V6 : Arv Z h6 b5 k5 .long (2 : Int32) [(.long ja), (.long 0)] (.long 0) := Arv.set Ar6 q6 S6 Ng6 H6 G6 rfl W6 0 rfl (Nat.le_of_ble_eq_true rfl)
    refine own_of st6 ?_
    have N6 := Fr.snoc X6 N4 (by omega : n0 ≤ b5)
    have sz6 : h6.size = h5.size := W6.size
    have O6 : Old Z n0 h6 := O5.wr W6 (by omega)
    show own_go p e below s _ _ _ (T6.setTop (mkF m 53 #[.val (.long ja), .second, .val (.long jb), .second, .val (.long jc), .second, .val (.long jd), .second, .val (.int sl), .val (.ref b1), .val (.int 0), .val (.long z3), .second, .val (.long z4), .second, .unset, .unset, .unset, .unset, .unset] [(.ref b5)]))
    refine own_of (fun tt_ => XS.dup X6.here hx rfl (hb hby at_53) rfl rfl) ?_
    refine own_of (fun tt_ => XS.iconst X6.here hx rfl (hb hby at_54)) ?_
    refine own_of (fun tt_ => XS.lloadN X6.here hx rfl (hb hby at_55) rfl) ?_
    obtain ⟨cl7, Ar7, q7, S7, Ng7, H7, G7⟩ := V6
    obtain ⟨T7, h7, X7, e7, W7, st7⟩ := stJ X6 hx hZ e6 Ar7 (j := (1 : Int32)) (inb_of S7 ⟨by decide, by decide⟩) (g := (mkF m 56 #[.val (.long ja), .second, .val (.long jb), .second, .val (.long jc), .second, .val (.long jd), .second, .val (.int sl), .val (.ref b1), .val (.int 0), .val (.long z3), .second, .val (.long z4), .second, .unset, .unset, .unset, .unset, .unset] [(.long jb), (.int 1), (.ref b5), (.ref b5)])) rfl rfl (hb hby at_56)
    have V7 : Arv Z h7 b5 k5 .long (2 : Int32) [(.long ja), (.long jb)] (.long 0) := Arv.set Ar7 q7 S7 Ng7 H7 G7 rfl W7 1 rfl (Nat.le_of_ble_eq_true rfl)
    refine own_of st7 ?_
    have N7 := Fr.snoc X7 N6 (by omega : n0 ≤ b5)
    have sz7 : h7.size = h6.size := W7.size
    have O7 : Old Z n0 h7 := O6.wr W7 (by omega)
    show own_go p e below s _ _ _ (T7.setTop (mkF m 57 #[.val (.long ja), .second, .val (.long jb), .second, .val (.long jc), .second, .val (.long jd), .second, .val (.int sl), .val (.ref b1), .val (.int 0), .val (.long z3), .second, .val (.long z4), .second, .unset, .unset, .unset, .unset, .unset] [(.ref b5)]))
    refine own_of (fun tt_ => XS.astore X7.here hx rfl (hb hby at_57) rfl rfl (l' := #[.val (.long ja), .second, .val (.long jb), .second, .val (.long jc), .second, .val (.long jd), .second, .val (.int sl), .val (.ref b1), .val (.int 0), .val (.long z3), .second, .val (.long z4), .second, .val (.ref b5), .unset, .unset, .unset, .unset]) rfl) ?_
    refine own_of (fun tt_ => XS.iconst X7.here hx rfl (hb hby at_59)) ?_
    obtain ⟨T8, h8, k8, X8, e8, E8, A8, st8⟩ := newP X7 hx hZ (hW 36 _ rfl) e7 (g := (mkF m 60 #[.val (.long ja), .second, .val (.long jb), .second, .val (.long jc), .second, .val (.long jd), .second, .val (.int sl), .val (.ref b1), .val (.int 0), .val (.long z3), .second, .val (.long z4), .second, .val (.ref b5), .unset, .unset, .unset, .unset] [(.int 2)])) rfl (hb hby at_60) rfl (by decide) (cap := 2) (by decide) (by decide) (by decide) (by decide)
    obtain ⟨b8, g8⟩ : ∃ z, z = h7.size := ⟨_, rfl⟩
    rw [← g8] at A8 st8
    refine own_of st8 ?_
    have lt8 := own_lt A8.lt
    have sz8 : h7.size ≤ h8.size := E8.1
    have O8 : Old Z n0 h8 := O7.ext E8
    have z8 : n0 ≤ b8 := by have := O7.1 ▸ O7.2.1; omega
    have V8 : Arv Z h8 b8 k8 .long (2 : Int32) [(.long 0), (.long 0)] (.long 0) := (Arv.new A8 (by decide)).pad (pad_rep [] (.long 0) 2)
    show own_go p e below s _ _ _ (T8.setTop (mkF m 62 #[.val (.long ja), .second, .val (.long jb), .second, .val (.long jc), .second, .val (.long jd), .second, .val (.int sl), .val (.ref b1), .val (.int 0), .val (.long z3), .second, .val (.long z4), .second, .val (.ref b5), .unset, .unset, .unset, .unset] [(.ref b8)]))
    refine own_of (fun tt_ => XS.dup X8.here hx rfl (hb hby at_62) rfl rfl) ?_
    refine own_of (fun tt_ => XS.iconst X8.here hx rfl (hb hby at_63)) ?_
    refine own_of (fun tt_ => XS.lloadN X8.here hx rfl (hb hby at_64) rfl) ?_
    obtain ⟨cl9, Ar9, q9, S9, Ng9, H9, G9⟩ := V8
    obtain ⟨T9, h9, X9, e9, W9, st9⟩ := stJ X8 hx hZ e8 Ar9 (j := (0 : Int32)) (inb_of S9 ⟨by decide, by decide⟩) (g := (mkF m 65 #[.val (.long ja), .second, .val (.long jb), .second, .val (.long jc), .second, .val (.long jd), .second, .val (.int sl), .val (.ref b1), .val (.int 0), .val (.long z3), .second, .val (.long z4), .second, .val (.ref b5), .unset, .unset, .unset, .unset] [(.long ja), (.int 0), (.ref b8), (.ref b8)])) rfl rfl (hb hby at_65)
    have V9 : Arv Z h9 b8 k8 .long (2 : Int32) [(.long ja), (.long 0)] (.long 0) := Arv.set Ar9 q9 S9 Ng9 H9 G9 rfl W9 0 rfl (Nat.le_of_ble_eq_true rfl)
    refine own_of st9 ?_
    have N9 := Fr.snoc X9 N7 (by omega : n0 ≤ b8)
    have sz9 : h9.size = h8.size := W9.size
    have O9 : Old Z n0 h9 := O8.wr W9 (by omega)
    show own_go p e below s _ _ _ (T9.setTop (mkF m 66 #[.val (.long ja), .second, .val (.long jb), .second, .val (.long jc), .second, .val (.long jd), .second, .val (.int sl), .val (.ref b1), .val (.int 0), .val (.long z3), .second, .val (.long z4), .second, .val (.ref b5), .unset, .unset, .unset, .unset] [(.ref b8)]))
    refine own_of (fun tt_ => XS.dup X9.here hx rfl (hb hby at_66) rfl rfl) ?_
    refine own_of (fun tt_ => XS.iconst X9.here hx rfl (hb hby at_67)) ?_
    refine own_of (fun tt_ => XS.lload X9.here hx rfl (hb hby at_68) rfl) ?_
    obtain ⟨cl10, Ar10, q10, S10, Ng10, H10, G10⟩ := V9
    obtain ⟨T10, h10, X10, e10, W10, st10⟩ := stJ X9 hx hZ e9 Ar10 (j := (1 : Int32)) (inb_of S10 ⟨by decide, by decide⟩) (g := (mkF m 70 #[.val (.long ja), .second, .val (.long jb), .second, .val (.long jc), .second, .val (.long jd), .second, .val (.int sl), .val (.ref b1), .val (.int 0), .val (.long z3), .second, .val (.long z4), .second, .val (.ref b5), .unset, .unset, .unset, .unset] [(.long jc), (.int 1), (.ref b8), (.ref b8)])) rfl rfl (hb hby at_70)
    have V10 : Arv Z h10 b8 k8 .long (2 : Int32) [(.long ja), (.long jc)] (.long 0) := Arv.set Ar10 q10 S10 Ng10 H10 G10 rfl W10 1 rfl (Nat.le_of_ble_eq_true rfl)
    refine own_of st10 ?_
    have N10 := Fr.snoc X10 N9 (by omega : n0 ≤ b8)
    have sz10 : h10.size = h9.size := W10.size
    have O10 : Old Z n0 h10 := O9.wr W10 (by omega)
    show own_go p e below s _ _ _ (T10.setTop (mkF m 71 #[.val (.long ja), .second, .val (.long jb), .second, .val (.long jc), .second, .val (.long jd), .second, .val (.int sl), .val (.ref b1), .val (.int 0), .val (.long z3), .second, .val (.long z4), .second, .val (.ref b5), .unset, .unset, .unset, .unset] [(.ref b8)]))
    refine own_of (fun tt_ => XS.astore X10.here hx rfl (hb hby at_71) rfl rfl (l' := #[.val (.long ja), .second, .val (.long jb), .second, .val (.long jc), .second, .val (.long jd), .second, .val (.int sl), .val (.ref b1), .val (.int 0), .val (.long z3), .second, .val (.long z4), .second, .val (.ref b5), .val (.ref b8), .unset, .unset, .unset]) rfl) ?_
    refine own_of (fun tt_ => XS.iconst X10.here hx rfl (hb hby at_73)) ?_
    obtain ⟨T11, h11, k11, X11, e11, E11, A11, st11⟩ := newP X10 hx hZ (hW 36 _ rfl) e10 (g := (mkF m 74 #[.val (.long ja), .second, .val (.long jb), .second, .val (.long jc), .second, .val (.long jd), .second, .val (.int sl), .val (.ref b1), .val (.int 0), .val (.long z3), .second, .val (.long z4), .second, .val (.ref b5), .val (.ref b8), .unset, .unset, .unset] [(.int 2)])) rfl (hb hby at_74) rfl (by decide) (cap := 2) (by decide) (by decide) (by decide) (by decide)
    obtain ⟨b11, g11⟩ : ∃ z, z = h10.size := ⟨_, rfl⟩
    rw [← g11] at A11 st11
    refine own_of st11 ?_
    have lt11 := own_lt A11.lt
    have sz11 : h10.size ≤ h11.size := E11.1
    have O11 : Old Z n0 h11 := O10.ext E11
    have z11 : n0 ≤ b11 := by have := O10.1 ▸ O10.2.1; omega
    have V11 : Arv Z h11 b11 k11 .long (2 : Int32) [(.long 0), (.long 0)] (.long 0) := (Arv.new A11 (by decide)).pad (pad_rep [] (.long 0) 2)
    show own_go p e below s _ _ _ (T11.setTop (mkF m 76 #[.val (.long ja), .second, .val (.long jb), .second, .val (.long jc), .second, .val (.long jd), .second, .val (.int sl), .val (.ref b1), .val (.int 0), .val (.long z3), .second, .val (.long z4), .second, .val (.ref b5), .val (.ref b8), .unset, .unset, .unset] [(.ref b11)]))
    refine own_of (fun tt_ => XS.dup X11.here hx rfl (hb hby at_76) rfl rfl) ?_
    refine own_of (fun tt_ => XS.iconst X11.here hx rfl (hb hby at_77)) ?_
    refine own_of (fun tt_ => XS.lload X11.here hx rfl (hb hby at_78) rfl) ?_
    obtain ⟨cl12, Ar12, q12, S12, Ng12, H12, G12⟩ := V11
    obtain ⟨T12, h12, X12, e12, W12, st12⟩ := stJ X11 hx hZ e11 Ar12 (j := (0 : Int32)) (inb_of S12 ⟨by decide, by decide⟩) (g := (mkF m 80 #[.val (.long ja), .second, .val (.long jb), .second, .val (.long jc), .second, .val (.long jd), .second, .val (.int sl), .val (.ref b1), .val (.int 0), .val (.long z3), .second, .val (.long z4), .second, .val (.ref b5), .val (.ref b8), .unset, .unset, .unset] [(.long jc), (.int 0), (.ref b11), (.ref b11)])) rfl rfl (hb hby at_80)
    have V12 : Arv Z h12 b11 k11 .long (2 : Int32) [(.long jc), (.long 0)] (.long 0) := Arv.set Ar12 q12 S12 Ng12 H12 G12 rfl W12 0 rfl (Nat.le_of_ble_eq_true rfl)
    refine own_of st12 ?_
    have N12 := Fr.snoc X12 N10 (by omega : n0 ≤ b11)
    have sz12 : h12.size = h11.size := W12.size
    have O12 : Old Z n0 h12 := O11.wr W12 (by omega)
    show own_go p e below s _ _ _ (T12.setTop (mkF m 81 #[.val (.long ja), .second, .val (.long jb), .second, .val (.long jc), .second, .val (.long jd), .second, .val (.int sl), .val (.ref b1), .val (.int 0), .val (.long z3), .second, .val (.long z4), .second, .val (.ref b5), .val (.ref b8), .unset, .unset, .unset] [(.ref b11)]))
    refine own_of (fun tt_ => XS.dup X12.here hx rfl (hb hby at_81) rfl rfl) ?_
    refine own_of (fun tt_ => XS.iconst X12.here hx rfl (hb hby at_82)) ?_
    refine own_of (fun tt_ => XS.lload X12.here hx rfl (hb hby at_83) rfl) ?_
    obtain ⟨cl13, Ar13, q13, S13, Ng13, H13, G13⟩ := V12
    obtain ⟨T13, h13, X13, e13, W13, st13⟩ := stJ X12 hx hZ e12 Ar13 (j := (1 : Int32)) (inb_of S13 ⟨by decide, by decide⟩) (g := (mkF m 85 #[.val (.long ja), .second, .val (.long jb), .second, .val (.long jc), .second, .val (.long jd), .second, .val (.int sl), .val (.ref b1), .val (.int 0), .val (.long z3), .second, .val (.long z4), .second, .val (.ref b5), .val (.ref b8), .unset, .unset, .unset] [(.long jd), (.int 1), (.ref b11), (.ref b11)])) rfl rfl (hb hby at_85)
    have V13 : Arv Z h13 b11 k11 .long (2 : Int32) [(.long jc), (.long jd)] (.long 0) := Arv.set Ar13 q13 S13 Ng13 H13 G13 rfl W13 1 rfl (Nat.le_of_ble_eq_true rfl)
    refine own_of st13 ?_
    have N13 := Fr.snoc X13 N12 (by omega : n0 ≤ b11)
    have sz13 : h13.size = h12.size := W13.size
    have O13 : Old Z n0 h13 := O12.wr W13 (by omega)
    show own_go p e below s _ _ _ (T13.setTop (mkF m 86 #[.val (.long ja), .second, .val (.long jb), .second, .val (.long jc), .second, .val (.long jd), .second, .val (.int sl), .val (.ref b1), .val (.int 0), .val (.long z3), .second, .val (.long z4), .second, .val (.ref b5), .val (.ref b8), .unset, .unset, .unset] [(.ref b11)]))
    refine own_of (fun tt_ => XS.astore X13.here hx rfl (hb hby at_86) rfl rfl (l' := #[.val (.long ja), .second, .val (.long jb), .second, .val (.long jc), .second, .val (.long jd), .second, .val (.int sl), .val (.ref b1), .val (.int 0), .val (.long z3), .second, .val (.long z4), .second, .val (.ref b5), .val (.ref b8), .val (.ref b11), .unset, .unset]) rfl) ?_
    refine own_of (fun tt_ => XS.iconst X13.here hx rfl (hb hby at_88)) ?_
    obtain ⟨T14, h14, k14, X14, e14, E14, A14, st14⟩ := newP X13 hx hZ (hW 36 _ rfl) e13 (g := (mkF m 89 #[.val (.long ja), .second, .val (.long jb), .second, .val (.long jc), .second, .val (.long jd), .second, .val (.int sl), .val (.ref b1), .val (.int 0), .val (.long z3), .second, .val (.long z4), .second, .val (.ref b5), .val (.ref b8), .val (.ref b11), .unset, .unset] [(.int 2)])) rfl (hb hby at_89) rfl (by decide) (cap := 2) (by decide) (by decide) (by decide) (by decide)
    obtain ⟨b14, g14⟩ : ∃ z, z = h13.size := ⟨_, rfl⟩
    rw [← g14] at A14 st14
    refine own_of st14 ?_
    have lt14 := own_lt A14.lt
    have sz14 : h13.size ≤ h14.size := E14.1
    have O14 : Old Z n0 h14 := O13.ext E14
    have z14 : n0 ≤ b14 := by have := O13.1 ▸ O13.2.1; omega
    have V14 : Arv Z h14 b14 k14 .long (2 : Int32) [(.long 0), (.long 0)] (.long 0) := (Arv.new A14 (by decide)).pad (pad_rep [] (.long 0) 2)
    show own_go p e below s _ _ _ (T14.setTop (mkF m 91 #[.val (.long ja), .second, .val (.long jb), .second, .val (.long jc), .second, .val (.long jd), .second, .val (.int sl), .val (.ref b1), .val (.int 0), .val (.long z3), .second, .val (.long z4), .second, .val (.ref b5), .val (.ref b8), .val (.ref b11), .unset, .unset] [(.ref b14)]))
    refine own_of (fun tt_ => XS.dup X14.here hx rfl (hb hby at_91) rfl rfl) ?_
    refine own_of (fun tt_ => XS.iconst X14.here hx rfl (hb hby at_92)) ?_
    refine own_of (fun tt_ => XS.lload X14.here hx rfl (hb hby at_93) rfl) ?_
    obtain ⟨cl15, Ar15, q15, S15, Ng15, H15, G15⟩ := V14
    obtain ⟨T15, h15, X15, e15, W15, st15⟩ := stJ X14 hx hZ e14 Ar15 (j := (0 : Int32)) (inb_of S15 ⟨by decide, by decide⟩) (g := (mkF m 95 #[.val (.long ja), .second, .val (.long jb), .second, .val (.long jc), .second, .val (.long jd), .second, .val (.int sl), .val (.ref b1), .val (.int 0), .val (.long z3), .second, .val (.long z4), .second, .val (.ref b5), .val (.ref b8), .val (.ref b11), .unset, .unset] [(.long z3), (.int 0), (.ref b14), (.ref b14)])) rfl rfl (hb hby at_95)
    have V15 : Arv Z h15 b14 k14 .long (2 : Int32) [(.long z3), (.long 0)] (.long 0) := Arv.set Ar15 q15 S15 Ng15 H15 G15 rfl W15 0 rfl (Nat.le_of_ble_eq_true rfl)
    refine own_of st15 ?_
    have N15 := Fr.snoc X15 N13 (by omega : n0 ≤ b14)
    have sz15 : h15.size = h14.size := W15.size
    have O15 : Old Z n0 h15 := O14.wr W15 (by omega)
    show own_go p e below s _ _ _ (T15.setTop (mkF m 96 #[.val (.long ja), .second, .val (.long jb), .second, .val (.long jc), .second, .val (.long jd), .second, .val (.int sl), .val (.ref b1), .val (.int 0), .val (.long z3), .second, .val (.long z4), .second, .val (.ref b5), .val (.ref b8), .val (.ref b11), .unset, .unset] [(.ref b14)]))
    refine own_of (fun tt_ => XS.dup X15.here hx rfl (hb hby at_96) rfl rfl) ?_
    refine own_of (fun tt_ => XS.iconst X15.here hx rfl (hb hby at_97)) ?_
    refine own_of (fun tt_ => XS.lload X15.here hx rfl (hb hby at_98) rfl) ?_
    obtain ⟨cl16, Ar16, q16, S16, Ng16, H16, G16⟩ := V15
    obtain ⟨T16, h16, X16, e16, W16, st16⟩ := stJ X15 hx hZ e15 Ar16 (j := (1 : Int32)) (inb_of S16 ⟨by decide, by decide⟩) (g := (mkF m 100 #[.val (.long ja), .second, .val (.long jb), .second, .val (.long jc), .second, .val (.long jd), .second, .val (.int sl), .val (.ref b1), .val (.int 0), .val (.long z3), .second, .val (.long z4), .second, .val (.ref b5), .val (.ref b8), .val (.ref b11), .unset, .unset] [(.long z4), (.int 1), (.ref b14), (.ref b14)])) rfl rfl (hb hby at_100)
    have V16 : Arv Z h16 b14 k14 .long (2 : Int32) [(.long z3), (.long z4)] (.long 0) := Arv.set Ar16 q16 S16 Ng16 H16 G16 rfl W16 1 rfl (Nat.le_of_ble_eq_true rfl)
    refine own_of st16 ?_
    have N16 := Fr.snoc X16 N15 (by omega : n0 ≤ b14)
    have sz16 : h16.size = h15.size := W16.size
    have O16 : Old Z n0 h16 := O15.wr W16 (by omega)
    show own_go p e below s _ _ _ (T16.setTop (mkF m 101 #[.val (.long ja), .second, .val (.long jb), .second, .val (.long jc), .second, .val (.long jd), .second, .val (.int sl), .val (.ref b1), .val (.int 0), .val (.long z3), .second, .val (.long z4), .second, .val (.ref b5), .val (.ref b8), .val (.ref b11), .unset, .unset] [(.ref b14)]))
    refine own_of (fun tt_ => XS.astore X16.here hx rfl (hb hby at_101) rfl rfl (l' := #[.val (.long ja), .second, .val (.long jb), .second, .val (.long jc), .second, .val (.long jd), .second, .val (.int sl), .val (.ref b1), .val (.int 0), .val (.long z3), .second, .val (.long z4), .second, .val (.ref b5), .val (.ref b8), .val (.ref b11), .val (.ref b14), .unset]) rfl) ?_
    refine own_of (fun tt_ => XS.iload X16.here hx rfl (hb hby at_103) rfl) ?_
    refine own_of (fun tt_ => XS.iconst X16.here hx rfl (hb hby at_105)) ?_
    have hb106_17 : (0 : Int32) < (1 : Int32) := by decide
    refine own_of (fun tt_ => XS.icmpYes X16.here hx rfl (pc0 := 106) (pc' := 116) rfl (hb hby at_106) rfl (tlt hb106_17).1 (by decide) (by decide)) ?_
    show own_go p e below s _ _ _ (T16.setTop (mkF m 116 #[.val (.long ja), .second, .val (.long jb), .second, .val (.long jc), .second, .val (.long jd), .second, .val (.int sl), .val (.ref b1), .val (.int 0), .val (.long z3), .second, .val (.long z4), .second, .val (.ref b5), .val (.ref b8), .val (.ref b11), .val (.ref b14), .unset] []))
    refine own_of (fun tt_ => XS.iload X16.here hx rfl (hb hby at_116) rfl) ?_
    refine own_of (fun tt_ => XS.iconst X16.here hx rfl (hb hby at_118)) ?_
    have hb119_18 : (0 : Int32) < (2 : Int32) := by decide
    refine own_of (fun tt_ => XS.icmpYes X16.here hx rfl (pc0 := 119) (pc' := 129) rfl (hb hby at_119) rfl (tlt hb119_18).1 (by decide) (by decide)) ?_
    show own_go p e below s _ _ _ (T16.setTop (mkF m 129 #[.val (.long ja), .second, .val (.long jb), .second, .val (.long jc), .second, .val (.long jd), .second, .val (.int sl), .val (.ref b1), .val (.int 0), .val (.long z3), .second, .val (.long z4), .second, .val (.ref b5), .val (.ref b8), .val (.ref b11), .val (.ref b14), .unset] []))
    refine own_of (fun tt_ => XS.iload X16.here hx rfl (hb hby at_129) rfl) ?_
    refine own_of (fun tt_ => XS.iconst X16.here hx rfl (hb hby at_131)) ?_
    have hb132_19 : (0 : Int32) < (3 : Int32) := by decide
    refine own_of (fun tt_ => XS.icmpYes X16.here hx rfl (pc0 := 132) (pc' := 142) rfl (hb hby at_132) rfl (tlt hb132_19).1 (by decide) (by decide)) ?_
    show own_go p e below s _ _ _ (T16.setTop (mkF m 142 #[.val (.long ja), .second, .val (.long jb), .second, .val (.long jc), .second, .val (.long jd), .second, .val (.int sl), .val (.ref b1), .val (.int 0), .val (.long z3), .second, .val (.long z4), .second, .val (.ref b5), .val (.ref b8), .val (.ref b11), .val (.ref b14), .unset] []))
    refine own_of (fun tt_ => XS.iload X16.here hx rfl (hb hby at_142) rfl) ?_
    refine own_of (fun tt_ => XS.iconst X16.here hx rfl (hb hby at_144)) ?_
    have hb145_20 : (0 : Int32) < (1 : Int32) := by decide
    refine own_of (fun tt_ => XS.icmpYes X16.here hx rfl (pc0 := 145) (pc' := 162) rfl (hb hby at_145) rfl (tlt hb145_20).1 (by decide) (by decide)) ?_
    show own_go p e below s _ _ _ (T16.setTop (mkF m 162 #[.val (.long ja), .second, .val (.long jb), .second, .val (.long jc), .second, .val (.long jd), .second, .val (.int sl), .val (.ref b1), .val (.int 0), .val (.long z3), .second, .val (.long z4), .second, .val (.ref b5), .val (.ref b8), .val (.ref b11), .val (.ref b14), .unset] []))
    refine own_of (fun tt_ => XS.iload X16.here hx rfl (hb hby at_162) rfl) ?_
    refine own_of (fun tt_ => XS.iconst X16.here hx rfl (hb hby at_164)) ?_
    have hb165_21 : (0 : Int32) < (2 : Int32) := by decide
    refine own_of (fun tt_ => XS.icmpYes X16.here hx rfl (pc0 := 165) (pc' := 183) rfl (hb hby at_165) rfl (tlt hb165_21).1 (by decide) (by decide)) ?_
    show own_go p e below s _ _ _ (T16.setTop (mkF m 183 #[.val (.long ja), .second, .val (.long jb), .second, .val (.long jc), .second, .val (.long jd), .second, .val (.int sl), .val (.ref b1), .val (.int 0), .val (.long z3), .second, .val (.long z4), .second, .val (.ref b5), .val (.ref b8), .val (.ref b11), .val (.ref b14), .unset] []))
    refine own_of (fun tt_ => XS.iload X16.here hx rfl (hb hby at_183) rfl) ?_
    refine own_of (fun tt_ => XS.iconst X16.here hx rfl (hb hby at_185)) ?_
    have hb186_22 : (0 : Int32) < (3 : Int32) := by decide
    refine own_of (fun tt_ => XS.icmpYes X16.here hx rfl (pc0 := 186) (pc' := 209) rfl (hb hby at_186) rfl (tlt hb186_22).1 (by decide) (by decide)) ?_
    show own_go p e below s _ _ _ (T16.setTop (mkF m 209 #[.val (.long ja), .second, .val (.long jb), .second, .val (.long jc), .second, .val (.long jd), .second, .val (.int sl), .val (.ref b1), .val (.int 0), .val (.long z3), .second, .val (.long z4), .second, .val (.ref b5), .val (.ref b8), .val (.ref b11), .val (.ref b14), .unset] []))
    refine own_of (fun tt_ => XS.iconst X16.here hx rfl (hb hby at_209)) ?_
    refine own_of (fun tt_ => XS.istore X16.here hx rfl (hb hby at_210) rfl (l' := #[.val (.long ja), .second, .val (.long jb), .second, .val (.long jc), .second, .val (.long jd), .second, .val (.int sl), .val (.ref b1), .val (.int 0), .val (.long z3), .second, .val (.long z4), .second, .val (.ref b5), .val (.ref b8), .val (.ref b11), .val (.ref b14), .val (.int 0)]) rfl) ?_
    refine own_of (fun tt_ => XS.aload X16.here hx rfl (hb hby at_212) rfl rfl) ?_
    refine own_of (fun tt_ => XS.aload X16.here hx rfl (hb hby at_214) rfl rfl) ?_
    show own_go p e below s _ _ _ (T16.setTop (mkF m 216 #[.val (.long ja), .second, .val (.long jb), .second, .val (.long jc), .second, .val (.long jd), .second, .val (.int sl), .val (.ref b1), .val (.int 0), .val (.long z3), .second, .val (.long z4), .second, .val (.ref b5), .val (.ref b8), .val (.ref b11), .val (.ref b14), .val (.int 0)] [(.ref b14), (.ref b1)]))
    have f23 : Exa Z h16 b1 "com/example/grantway/grantway/protocol/PackedSet" := ((((((((((((u2_0.ext E5).wr W6).wr W7).ext E8).wr W9).wr W10).ext E11).wr W12).wr W13).ext E14).wr W15).wr W16)
    have f24 : Fld Z h16 b1 "com/example/grantway/grantway/protocol/PackedSet" "width" "I" (.int 2) := ((((((((((((u2_1.ext E5).other W6 (Or.inl (own_ne (by omega)))).other W7 (Or.inl (own_ne (by omega)))).ext E8).other W9 (Or.inl (own_ne (by omega)))).other W10 (Or.inl (own_ne (by omega)))).ext E11).other W12 (Or.inl (own_ne (by omega)))).other W13 (Or.inl (own_ne (by omega)))).ext E14).other W15 (Or.inl (own_ne (by omega)))).other W16 (Or.inl (own_ne (by omega))))
    have f25 : Fld Z h16 b1 "com/example/grantway/grantway/protocol/PackedSet" "slots" "I" (.int 16) := ((((((((((((u2_2.ext E5).other W6 (Or.inl (own_ne (by omega)))).other W7 (Or.inl (own_ne (by omega)))).ext E8).other W9 (Or.inl (own_ne (by omega)))).other W10 (Or.inl (own_ne (by omega)))).ext E11).other W12 (Or.inl (own_ne (by omega)))).other W13 (Or.inl (own_ne (by omega)))).ext E14).other W15 (Or.inl (own_ne (by omega)))).other W16 (Or.inl (own_ne (by omega))))
    have f26 : Fld Z h16 b1 "com/example/grantway/grantway/protocol/PackedSet" "pages" "[[J" (.ref pa2) := ((((((((((((u2_3.ext E5).other W6 (Or.inl (own_ne (by omega)))).other W7 (Or.inl (own_ne (by omega)))).ext E8).other W9 (Or.inl (own_ne (by omega)))).other W10 (Or.inl (own_ne (by omega)))).ext E11).other W12 (Or.inl (own_ne (by omega)))).other W13 (Or.inl (own_ne (by omega)))).ext E14).other W15 (Or.inl (own_ne (by omega)))).other W16 (Or.inl (own_ne (by omega))))
    have f27 : Fld Z h16 b1 "com/example/grantway/grantway/protocol/PackedSet" "used" "Ljava/util/BitSet;" (.ref bq2) := ((((((((((((u2_4.ext E5).other W6 (Or.inl (own_ne (by omega)))).other W7 (Or.inl (own_ne (by omega)))).ext E8).other W9 (Or.inl (own_ne (by omega)))).other W10 (Or.inl (own_ne (by omega)))).ext E11).other W12 (Or.inl (own_ne (by omega)))).other W13 (Or.inl (own_ne (by omega)))).ext E14).other W15 (Or.inl (own_ne (by omega)))).other W16 (Or.inl (own_ne (by omega))))
    have f28 : Fld Z h16 b1 "com/example/grantway/grantway/protocol/PackedSet" "size" "I" (.int 0) := ((((((((((((u2_5.ext E5).other W6 (Or.inl (own_ne (by omega)))).other W7 (Or.inl (own_ne (by omega)))).ext E8).other W9 (Or.inl (own_ne (by omega)))).other W10 (Or.inl (own_ne (by omega)))).ext E11).other W12 (Or.inl (own_ne (by omega)))).other W13 (Or.inl (own_ne (by omega)))).ext E14).other W15 (Or.inl (own_ne (by omega)))).other W16 (Or.inl (own_ne (by omega))))
    have f29 : Exa Z h16 bq2 "java/util/BitSet" := ((((((((((((u2_6.ext E5).wr W6).wr W7).ext E8).wr W9).wr W10).ext E11).wr W12).wr W13).ext E14).wr W15).wr W16)
    have f30 : Fld Z h16 bq2 "java/util/BitSet" "wordsInUse" "I" (.int 0) := ((((((((((((u2_7.ext E5).other W6 (Or.inl (own_ne (by omega)))).other W7 (Or.inl (own_ne (by omega)))).ext E8).other W9 (Or.inl (own_ne (by omega)))).other W10 (Or.inl (own_ne (by omega)))).ext E11).other W12 (Or.inl (own_ne (by omega)))).other W13 (Or.inl (own_ne (by omega)))).ext E14).other W15 (Or.inl (own_ne (by omega)))).other W16 (Or.inl (own_ne (by omega))))
    have f31 : Fld Z h16 bq2 "java/util/BitSet" "words" "[J" (.ref wa2) := ((((((((((((u2_8.ext E5).other W6 (Or.inl (own_ne (by omega)))).other W7 (Or.inl (own_ne (by omega)))).ext E8).other W9 (Or.inl (own_ne (by omega)))).other W10 (Or.inl (own_ne (by omega)))).ext E11).other W12 (Or.inl (own_ne (by omega)))).other W13 (Or.inl (own_ne (by omega)))).ext E14).other W15 (Or.inl (own_ne (by omega)))).other W16 (Or.inl (own_ne (by omega))))
    have f32 : Arv Z h16 wa2 kw2 .long (1 : Int32) [(.long 0)] (.long 0) := ((((((((((((u2_9.ext E5).other W6 (own_ne (by omega))).other W7 (own_ne (by omega))).ext E8).other W9 (own_ne (by omega))).other W10 (own_ne (by omega))).ext E11).other W12 (own_ne (by omega))).other W13 (own_ne (by omega))).ext E14).other W15 (own_ne (by omega))).other W16 (own_ne (by omega)))
    have f33 : Arv Z h16 pa2 ka2 (.array .long) (1 : Int32) [.null] .null := ((((((((((((u2_10.ext E5).other W6 (own_ne (by omega))).other W7 (own_ne (by omega))).ext E8).other W9 (own_ne (by omega))).other W10 (own_ne (by omega))).ext E11).other W12 (own_ne (by omega))).other W13 (own_ne (by omega))).ext E14).other W15 (own_ne (by omega))).other W16 (own_ne (by omega)))
    obtain ⟨cq34, kq34, q34a, q34b, q34c⟩ := isOf hZ e16 f23
    obtain ⟨_, _, ⟨T34, L34, k34, n34⟩, -, X34, ⟨Lc34, hQ34, l34, y34, z34⟩, st34⟩ := X16.virtualBack hx (y := ym0) (z := ym0) hown (mvT hZ (hW 113 _ rfl)) (mvT hZ (hW 114 _ rfl)) (notFace_of_selects (args := #[]) (mvT hZ (hW 116 _ rfl))) (mvT hZ (hW 116 _ rfl)) (mvT hZ (hW 115 _ rfl)) (by decide) (backOf (W := 0) (rmCon0 l Z a0 hw [] b1 pa2 bq2 wa2 ka2 kw2 (0 : Int32) b14 k14 z3 z4 h16 n0 O16 S_ad ⟨f23, f24, f25, f26, f27, f28, f29, f30, f31, f32, f33⟩ V16) hZ (hW 117 _ rfl) (hW 2 _ rfl) (by decide) (by decide)) q34a q34c (g := (mkF m 216 #[.val (.long ja), .second, .val (.long jb), .second, .val (.long jc), .second, .val (.long jd), .second, .val (.int sl), .val (.ref b1), .val (.int 0), .val (.long z3), .second, .val (.long z4), .second, .val (.ref b5), .val (.ref b8), .val (.ref b11), .val (.ref b14), .val (.int 0)] [(.ref b14), (.ref b1)])) rfl (by rw [hml]; rfl) (Steps.refl _) (argsL := [(.ref b14)]) (rest := []) (lenOf pd_11 rfl) rfl (by show 2 * 0 + _ ≤ _; exact Nat.le_of_eq rfl) (hb hby at_216) (fun _ _ => ⟨rfl, e16, (by decide : 8 + 0 ≤ _), (by decide : 18 + 0 ≤ _)⟩)
    dsimp only [Pt.U, Pt.locs, Pt.cells, Pt.slots] at X34 l34 y34 z34 st34 hQ34
    subst l34 y34 z34
    obtain ⟨rfl, Nq34, eh34⟩ := hQ34
    have N34 := Fr.app N16 Nq34
    refine own_of (fun tt_ kk_ => st34.trans kk_) ?_
    show own_go p e below s _ _ _ (T34.setTop (mkF m 219 #[.val (.long ja), .second, .val (.long jb), .second, .val (.long jc), .second, .val (.long jd), .second, .val (.int sl), .val (.ref b1), .val (.int 0), .val (.long z3), .second, .val (.long z4), .second, .val (.ref b5), .val (.ref b8), .val (.ref b11), .val (.ref b14), .val (.int 0)] [(.int 0)]))
    refine own_of (fun tt_ => XS.iload X34.here hx rfl (hb hby at_219) rfl) ?_
    have hb221_35 : (0 : Int32) = (0 : Int32) := rfl
    refine own_of (fun tt_ => XS.icmpNo X34.here hx rfl (hb hby at_221) rfl (teq hb221_35).2) ?_
    show own_go p e below s _ _ _ (T34.setTop (mkF m 224 #[.val (.long ja), .second, .val (.long jb), .second, .val (.long jc), .second, .val (.long jd), .second, .val (.int sl), .val (.ref b1), .val (.int 0), .val (.long z3), .second, .val (.long z4), .second, .val (.ref b5), .val (.ref b8), .val (.ref b11), .val (.ref b14), .val (.int 0)] []))
    refine own_of (fun tt_ => XS.iconst X34.here hx rfl (hb hby at_224)) ?_
    refine own_of (fun tt_ => XS.goto X34.here hx rfl (pc0 := 225) (pc' := 229) rfl (hb hby at_225) (by decide) (by decide)) ?_
    show own_go p e below s _ _ _ (T34.setTop (mkF m 229 #[.val (.long ja), .second, .val (.long jb), .second, .val (.long jc), .second, .val (.long jd), .second, .val (.int sl), .val (.ref b1), .val (.int 0), .val (.long z3), .second, .val (.long z4), .second, .val (.ref b5), .val (.ref b8), .val (.ref b11), .val (.ref b14), .val (.int 0)] [(.int 1)]))
    refine own_ret X34 hx hlk Bd.returns rfl (Or.inl ⟨rfl, by simp, _, rfl⟩) (hb hby at_229) (by decide) (by decide) ?_
    rw [eh34]
    exact ⟨rfl, N34⟩
  · rw [hk]
    show own_go p e below s _ _ _ (T2.setTop (mkF m 14 #[.val (.long ja), .second, .val (.long jb), .second, .val (.long jc), .second, .val (.long jd), .second, .val (.int sl), .val (.ref b1), .unset, .unset, .unset, .unset, .unset, .unset, .unset, .unset, .unset, .unset] [(.int 1)]))
    refine own_of (fun tt_ => XS.istore X2.here hx rfl (hb hby at_14) rfl (l' := #[.val (.long ja), .second, .val (.long jb), .second, .val (.long jc), .second, .val (.long jd), .second, .val (.int sl), .val (.ref b1), .val (.int 1), .unset, .unset, .unset, .unset, .unset, .unset, .unset, .unset, .unset]) rfl) ?_
    refine own_of (fun tt_ => XS.iload X2.here hx rfl (hb hby at_16) rfl) ?_
    refine own_of (fun tt_ => XS.iconst X2.here hx rfl (hb hby at_18)) ?_
    refine own_of (fun tt_ => XS.iushr X2.here hx rfl (hb hby at_19) rfl) ?_
    show own_go p e below s _ _ _ (T2.setTop (mkF m 20 #[.val (.long ja), .second, .val (.long jb), .second, .val (.long jc), .second, .val (.long jd), .second, .val (.int sl), .val (.ref b1), .val (.int 1), .unset, .unset, .unset, .unset, .unset, .unset, .unset, .unset, .unset] [(.int ((sl.toUInt32 >>> ((2 : Int32) &&& 31).toUInt32).toInt32))]))
    refine own_of (fun tt_ => XS.lloadN X2.here hx rfl (hb hby at_20) rfl) ?_
    refine own_of (fun tt_ => XS.lloadN X2.here hx rfl (hb hby at_21) rfl) ?_
    refine own_of (fun tt_ => XS.lload X2.here hx rfl (hb hby at_22) rfl) ?_
    refine own_of (fun tt_ => XS.lload X2.here hx rfl (hb hby at_24) rfl) ?_
    show own_go p e below s _ _ _ (T2.setTop (mkF m 26 #[.val (.long ja), .second, .val (.long jb), .second, .val (.long jc), .second, .val (.long jd), .second, .val (.int sl), .val (.ref b1), .val (.int 1), .unset, .unset, .unset, .unset, .unset, .unset, .unset, .unset, .unset] [(.long jd), (.long jc), (.long jb), (.long ja), (.int ((sl.toUInt32 >>> ((2 : Int32) &&& 31).toUInt32).toInt32))]))
    obtain ⟨_, _, ⟨T36, L36, k36, n36⟩, -, X36, ⟨Lc36, hQ36, l36, y36, z36⟩, st36⟩ := Jvm.LawKit.callS X2 hx (y := ym5) hown (mvT hZ (hW 41 _ rfl)) (mvT hZ (hW 42 _ rfl)) (mvT hZ (hW 43 _ rfl)) (mvT hZ (hW 44 _ rfl)) (by decide) (backOf (W := 0) (rmPick l Z a0 hw [] ((sl.toUInt32 >>> ((2 : Int32) &&& 31).toUInt32).toInt32) ja jb jc jd T2.heap n0 O2) hZ (hW 44 _ rfl) (hW 43 _ rfl) (by decide) (by decide)) (g := (mkF m 26 #[.val (.long ja), .second, .val (.long jb), .second, .val (.long jc), .second, .val (.long jd), .second, .val (.int sl), .val (.ref b1), .val (.int 1), .unset, .unset, .unset, .unset, .unset, .unset, .unset, .unset, .unset] [(.long jd), (.long jc), (.long jb), (.long ja), (.int ((sl.toUInt32 >>> ((2 : Int32) &&& 31).toUInt32).toInt32))])) rfl (by rw [hml]; rfl) (argsL := [(.int ((sl.toUInt32 >>> ((2 : Int32) &&& 31).toUInt32).toInt32)), (.long ja), (.long jb), (.long jc), (.long jd)]) (rest := []) (lenOf pd_10 rfl) rfl (by show 2 * 0 + _ ≤ _; exact Nat.le_of_eq rfl) (hb hby at_26) (fun _ _ => ⟨rfl, rfl, (by decide : 4 + 0 ≤ _), (by decide : 10 + 0 ≤ _)⟩)
    dsimp only [Pt.U, Pt.locs, Pt.cells, Pt.slots] at X36 l36 y36 z36 st36 hQ36
    subst l36 y36 z36
    obtain ⟨z36, rfl, Nq36, eh36⟩ := hQ36
    have N36 := Fr.app N2 Nq36
    refine own_of st36 ?_
    show own_go p e below s _ _ _ (T36.setTop (mkF m 29 #[.val (.long ja), .second, .val (.long jb), .second, .val (.long jc), .second, .val (.long jd), .second, .val (.int sl), .val (.ref b1), .val (.int 1), .unset, .unset, .unset, .unset, .unset, .unset, .unset, .unset, .unset] [(.long z36)]))
    refine own_of (fun tt_ => XS.lstore X36.here hx rfl (hb hby at_29) rfl (l' := #[.val (.long ja), .second, .val (.long jb), .second, .val (.long jc), .second, .val (.long jd), .second, .val (.int sl), .val (.ref b1), .val (.int 1), .val (.long z36), .second, .unset, .unset, .unset, .unset, .unset, .unset, .unset]) rfl) ?_
    refine own_of (fun tt_ => XS.iload X36.here hx rfl (hb hby at_31) rfl) ?_
    refine own_of (fun tt_ => XS.iconst X36.here hx rfl (hb hby at_33)) ?_
    refine own_of (fun tt_ => XS.iushr X36.here hx rfl (hb hby at_34) rfl) ?_
    show own_go p e below s _ _ _ (T36.setTop (mkF m 35 #[.val (.long ja), .second, .val (.long jb), .second, .val (.long jc), .second, .val (.long jd), .second, .val (.int sl), .val (.ref b1), .val (.int 1), .val (.long z36), .second, .unset, .unset, .unset, .unset, .unset, .unset, .unset] [(.int ((sl.toUInt32 >>> ((4 : Int32) &&& 31).toUInt32).toInt32))]))
    refine own_of (fun tt_ => XS.lloadN X36.here hx rfl (hb hby at_35) rfl) ?_
    refine own_of (fun tt_ => XS.lloadN X36.here hx rfl (hb hby at_36) rfl) ?_
    refine own_of (fun tt_ => XS.lload X36.here hx rfl (hb hby at_37) rfl) ?_
    refine own_of (fun tt_ => XS.lload X36.here hx rfl (hb hby at_39) rfl) ?_
    show own_go p e below s _ _ _ (T36.setTop (mkF m 41 #[.val (.long ja), .second, .val (.long jb), .second, .val (.long jc), .second, .val (.long jd), .second, .val (.int sl), .val (.ref b1), .val (.int 1), .val (.long z36), .second, .unset, .unset, .unset, .unset, .unset, .unset, .unset] [(.long jd), (.long jc), (.long jb), (.long ja), (.int ((sl.toUInt32 >>> ((4 : Int32) &&& 31).toUInt32).toInt32))]))
    obtain ⟨_, _, ⟨T37, L37, k37, n37⟩, -, X37, ⟨Lc37, hQ37, l37, y37, z37⟩, st37⟩ := Jvm.LawKit.callS X36 hx (y := ym5) hown (mvT hZ (hW 41 _ rfl)) (mvT hZ (hW 42 _ rfl)) (mvT hZ (hW 43 _ rfl)) (mvT hZ (hW 44 _ rfl)) (by decide) (backOf (W := 0) (rmPick l Z a0 hw [] ((sl.toUInt32 >>> ((4 : Int32) &&& 31).toUInt32).toInt32) ja jb jc jd T2.heap n0 O2) hZ (hW 44 _ rfl) (hW 43 _ rfl) (by decide) (by decide)) (g := (mkF m 41 #[.val (.long ja), .second, .val (.long jb), .second, .val (.long jc), .second, .val (.long jd), .second, .val (.int sl), .val (.ref b1), .val (.int 1), .val (.long z36), .second, .unset, .unset, .unset, .unset, .unset, .unset, .unset] [(.long jd), (.long jc), (.long jb), (.long ja), (.int ((sl.toUInt32 >>> ((4 : Int32) &&& 31).toUInt32).toInt32))])) rfl (by rw [hml]; rfl) (argsL := [(.int ((sl.toUInt32 >>> ((4 : Int32) &&& 31).toUInt32).toInt32)), (.long ja), (.long jb), (.long jc), (.long jd)]) (rest := []) (lenOf pd_10 rfl) rfl (by show 2 * 0 + _ ≤ _; exact Nat.le_of_eq rfl) (hb hby at_41) (fun _ _ => ⟨rfl, eh36, (by decide : 4 + 0 ≤ _), (by decide : 10 + 0 ≤ _)⟩)
    dsimp only [Pt.U, Pt.locs, Pt.cells, Pt.slots] at X37 l37 y37 z37 st37 hQ37
    subst l37 y37 z37
    obtain ⟨z37, rfl, Nq37, eh37⟩ := hQ37
    have N37 := Fr.app N36 Nq37
    refine own_of st37 ?_
    show own_go p e below s _ _ _ (T37.setTop (mkF m 44 #[.val (.long ja), .second, .val (.long jb), .second, .val (.long jc), .second, .val (.long jd), .second, .val (.int sl), .val (.ref b1), .val (.int 1), .val (.long z36), .second, .unset, .unset, .unset, .unset, .unset, .unset, .unset] [(.long z37)]))
    refine own_of (fun tt_ => XS.lstore X37.here hx rfl (hb hby at_44) rfl (l' := #[.val (.long ja), .second, .val (.long jb), .second, .val (.long jc), .second, .val (.long jd), .second, .val (.int sl), .val (.ref b1), .val (.int 1), .val (.long z36), .second, .val (.long z37), .second, .unset, .unset, .unset, .unset, .unset]) rfl) ?_
    refine own_of (fun tt_ => XS.iconst X37.here hx rfl (hb hby at_46)) ?_
    obtain ⟨T38, h38, k38, X38, e38, E38, A38, st38⟩ := newP X37 hx hZ (hW 36 _ rfl) eh37 (g := (mkF m 47 #[.val (.long ja), .second, .val (.long jb), .second, .val (.long jc), .second, .val (.long jd), .second, .val (.int sl), .val (.ref b1), .val (.int 1), .val (.long z36), .second, .val (.long z37), .second, .unset, .unset, .unset, .unset, .unset] [(.int 2)])) rfl (hb hby at_47) rfl (by decide) (cap := 2) (by decide) (by decide) (by decide) (by decide)
    obtain ⟨b38, g38⟩ : ∃ z, z = T2.heap.size := ⟨_, rfl⟩
    rw [← g38] at A38 st38
    refine own_of st38 ?_
    have lt38 := own_lt A38.lt
    have sz38 : T2.heap.size ≤ h38.size := E38.1
    have O38 : Old Z n0 h38 := O2.ext E38
    have z38 : n0 ≤ b38 := by have := O2.1 ▸ O2.2.1; omega
    have V38 : Arv Z h38 b38 k38 .long (2 : Int32) [(.long 0), (.long 0)] (.long 0) := (Arv.new A38 (by decide)).pad (pad_rep [] (.long 0) 2)
    show own_go p e below s _ _ _ (T38.setTop (mkF m 49 #[.val (.long ja), .second, .val (.long jb), .second, .val (.long jc), .second, .val (.long jd), .second, .val (.int sl), .val (.ref b1), .val (.int 1), .val (.long z36), .second, .val (.long z37), .second, .unset, .unset, .unset, .unset, .unset] [(.ref b38)]))
    refine own_of (fun tt_ => XS.dup X38.here hx rfl (hb hby at_49) rfl rfl) ?_
    refine own_of (fun tt_ => XS.iconst X38.here hx rfl (hb hby at_50)) ?_
    refine own_of (fun tt_ => XS.lloadN X38.here hx rfl (hb hby at_51) rfl) ?_
    obtain ⟨cl39, Ar39, q39, S39, Ng39, H39, G39⟩ := V38
    obtain ⟨T39, h39, X39, e39, W39, st39⟩ := stJ X38 hx hZ e38 Ar39 (j := (0 : Int32)) (inb_of S39 ⟨by decide, by decide⟩) (g := (mkF m 52 #[.val (.long ja), .second, .val (.long jb), .second, .val (.long jc), .second, .val (.long jd), .second, .val (.int sl), .val (.ref b1), .val (.int 1), .val (.long z36), .second, .val (.long z37), .second, .unset, .unset, .unset, .unset, .unset] [(.long ja), (.int 0), (.ref b38), (.ref b38)])) rfl rfl (hb hby at_52)
    have V39 : Arv Z h39 b38 k38 .long (2 : Int32) [(.long ja), (.long 0)] (.long 0) := Arv.set Ar39 q39 S39 Ng39 H39 G39 rfl W39 0 rfl (Nat.le_of_ble_eq_true rfl)
    refine own_of st39 ?_
    have N39 := Fr.snoc X39 N37 (by omega : n0 ≤ b38)
    have sz39 : h39.size = h38.size := W39.size
    have O39 : Old Z n0 h39 := O38.wr W39 (by omega)
    show own_go p e below s _ _ _ (T39.setTop (mkF m 53 #[.val (.long ja), .second, .val (.long jb), .second, .val (.long jc), .second, .val (.long jd), .second, .val (.int sl), .val (.ref b1), .val (.int 1), .val (.long z36), .second, .val (.long z37), .second, .unset, .unset, .unset, .unset, .unset] [(.ref b38)]))
    refine own_of (fun tt_ => XS.dup X39.here hx rfl (hb hby at_53) rfl rfl) ?_
    refine own_of (fun tt_ => XS.iconst X39.here hx rfl (hb hby at_54)) ?_
    refine own_of (fun tt_ => XS.lloadN X39.here hx rfl (hb hby at_55) rfl) ?_
    obtain ⟨cl40, Ar40, q40, S40, Ng40, H40, G40⟩ := V39
    obtain ⟨T40, h40, X40, e40, W40, st40⟩ := stJ X39 hx hZ e39 Ar40 (j := (1 : Int32)) (inb_of S40 ⟨by decide, by decide⟩) (g := (mkF m 56 #[.val (.long ja), .second, .val (.long jb), .second, .val (.long jc), .second, .val (.long jd), .second, .val (.int sl), .val (.ref b1), .val (.int 1), .val (.long z36), .second, .val (.long z37), .second, .unset, .unset, .unset, .unset, .unset] [(.long jb), (.int 1), (.ref b38), (.ref b38)])) rfl rfl (hb hby at_56)
    have V40 : Arv Z h40 b38 k38 .long (2 : Int32) [(.long ja), (.long jb)] (.long 0) := Arv.set Ar40 q40 S40 Ng40 H40 G40 rfl W40 1 rfl (Nat.le_of_ble_eq_true rfl)
    refine own_of st40 ?_
    have N40 := Fr.snoc X40 N39 (by omega : n0 ≤ b38)
    have sz40 : h40.size = h39.size := W40.size
    have O40 : Old Z n0 h40 := O39.wr W40 (by omega)
    show own_go p e below s _ _ _ (T40.setTop (mkF m 57 #[.val (.long ja), .second, .val (.long jb), .second, .val (.long jc), .second, .val (.long jd), .second, .val (.int sl), .val (.ref b1), .val (.int 1), .val (.long z36), .second, .val (.long z37), .second, .unset, .unset, .unset, .unset, .unset] [(.ref b38)]))
    refine own_of (fun tt_ => XS.astore X40.here hx rfl (hb hby at_57) rfl rfl (l' := #[.val (.long ja), .second, .val (.long jb), .second, .val (.long jc), .second, .val (.long jd), .second, .val (.int sl), .val (.ref b1), .val (.int 1), .val (.long z36), .second, .val (.long z37), .second, .val (.ref b38), .unset, .unset, .unset, .unset]) rfl) ?_
    refine own_of (fun tt_ => XS.iconst X40.here hx rfl (hb hby at_59)) ?_
    obtain ⟨T41, h41, k41, X41, e41, E41, A41, st41⟩ := newP X40 hx hZ (hW 36 _ rfl) e40 (g := (mkF m 60 #[.val (.long ja), .second, .val (.long jb), .second, .val (.long jc), .second, .val (.long jd), .second, .val (.int sl), .val (.ref b1), .val (.int 1), .val (.long z36), .second, .val (.long z37), .second, .val (.ref b38), .unset, .unset, .unset, .unset] [(.int 2)])) rfl (hb hby at_60) rfl (by decide) (cap := 2) (by decide) (by decide) (by decide) (by decide)
    obtain ⟨b41, g41⟩ : ∃ z, z = h40.size := ⟨_, rfl⟩
    rw [← g41] at A41 st41
    refine own_of st41 ?_
    have lt41 := own_lt A41.lt
    have sz41 : h40.size ≤ h41.size := E41.1
    have O41 : Old Z n0 h41 := O40.ext E41
    have z41 : n0 ≤ b41 := by have := O40.1 ▸ O40.2.1; omega
    have V41 : Arv Z h41 b41 k41 .long (2 : Int32) [(.long 0), (.long 0)] (.long 0) := (Arv.new A41 (by decide)).pad (pad_rep [] (.long 0) 2)
    show own_go p e below s _ _ _ (T41.setTop (mkF m 62 #[.val (.long ja), .second, .val (.long jb), .second, .val (.long jc), .second, .val (.long jd), .second, .val (.int sl), .val (.ref b1), .val (.int 1), .val (.long z36), .second, .val (.long z37), .second, .val (.ref b38), .unset, .unset, .unset, .unset] [(.ref b41)]))
    refine own_of (fun tt_ => XS.dup X41.here hx rfl (hb hby at_62) rfl rfl) ?_
    refine own_of (fun tt_ => XS.iconst X41.here hx rfl (hb hby at_63)) ?_
    refine own_of (fun tt_ => XS.lloadN X41.here hx rfl (hb hby at_64) rfl) ?_
    obtain ⟨cl42, Ar42, q42, S42, Ng42, H42, G42⟩ := V41
    obtain ⟨T42, h42, X42, e42, W42, st42⟩ := stJ X41 hx hZ e41 Ar42 (j := (0 : Int32)) (inb_of S42 ⟨by decide, by decide⟩) (g := (mkF m 65 #[.val (.long ja), .second, .val (.long jb), .second, .val (.long jc), .second, .val (.long jd), .second, .val (.int sl), .val (.ref b1), .val (.int 1), .val (.long z36), .second, .val (.long z37), .second, .val (.ref b38), .unset, .unset, .unset, .unset] [(.long ja), (.int 0), (.ref b41), (.ref b41)])) rfl rfl (hb hby at_65)
    have V42 : Arv Z h42 b41 k41 .long (2 : Int32) [(.long ja), (.long 0)] (.long 0) := Arv.set Ar42 q42 S42 Ng42 H42 G42 rfl W42 0 rfl (Nat.le_of_ble_eq_true rfl)
    refine own_of st42 ?_
    have N42 := Fr.snoc X42 N40 (by omega : n0 ≤ b41)
    have sz42 : h42.size = h41.size := W42.size
    have O42 : Old Z n0 h42 := O41.wr W42 (by omega)
    show own_go p e below s _ _ _ (T42.setTop (mkF m 66 #[.val (.long ja), .second, .val (.long jb), .second, .val (.long jc), .second, .val (.long jd), .second, .val (.int sl), .val (.ref b1), .val (.int 1), .val (.long z36), .second, .val (.long z37), .second, .val (.ref b38), .unset, .unset, .unset, .unset] [(.ref b41)]))
    refine own_of (fun tt_ => XS.dup X42.here hx rfl (hb hby at_66) rfl rfl) ?_
    refine own_of (fun tt_ => XS.iconst X42.here hx rfl (hb hby at_67)) ?_
    refine own_of (fun tt_ => XS.lload X42.here hx rfl (hb hby at_68) rfl) ?_
    obtain ⟨cl43, Ar43, q43, S43, Ng43, H43, G43⟩ := V42
    obtain ⟨T43, h43, X43, e43, W43, st43⟩ := stJ X42 hx hZ e42 Ar43 (j := (1 : Int32)) (inb_of S43 ⟨by decide, by decide⟩) (g := (mkF m 70 #[.val (.long ja), .second, .val (.long jb), .second, .val (.long jc), .second, .val (.long jd), .second, .val (.int sl), .val (.ref b1), .val (.int 1), .val (.long z36), .second, .val (.long z37), .second, .val (.ref b38), .unset, .unset, .unset, .unset] [(.long jc), (.int 1), (.ref b41), (.ref b41)])) rfl rfl (hb hby at_70)
    have V43 : Arv Z h43 b41 k41 .long (2 : Int32) [(.long ja), (.long jc)] (.long 0) := Arv.set Ar43 q43 S43 Ng43 H43 G43 rfl W43 1 rfl (Nat.le_of_ble_eq_true rfl)
    refine own_of st43 ?_
    have N43 := Fr.snoc X43 N42 (by omega : n0 ≤ b41)
    have sz43 : h43.size = h42.size := W43.size
    have O43 : Old Z n0 h43 := O42.wr W43 (by omega)
    show own_go p e below s _ _ _ (T43.setTop (mkF m 71 #[.val (.long ja), .second, .val (.long jb), .second, .val (.long jc), .second, .val (.long jd), .second, .val (.int sl), .val (.ref b1), .val (.int 1), .val (.long z36), .second, .val (.long z37), .second, .val (.ref b38), .unset, .unset, .unset, .unset] [(.ref b41)]))
    refine own_of (fun tt_ => XS.astore X43.here hx rfl (hb hby at_71) rfl rfl (l' := #[.val (.long ja), .second, .val (.long jb), .second, .val (.long jc), .second, .val (.long jd), .second, .val (.int sl), .val (.ref b1), .val (.int 1), .val (.long z36), .second, .val (.long z37), .second, .val (.ref b38), .val (.ref b41), .unset, .unset, .unset]) rfl) ?_
    refine own_of (fun tt_ => XS.iconst X43.here hx rfl (hb hby at_73)) ?_
    obtain ⟨T44, h44, k44, X44, e44, E44, A44, st44⟩ := newP X43 hx hZ (hW 36 _ rfl) e43 (g := (mkF m 74 #[.val (.long ja), .second, .val (.long jb), .second, .val (.long jc), .second, .val (.long jd), .second, .val (.int sl), .val (.ref b1), .val (.int 1), .val (.long z36), .second, .val (.long z37), .second, .val (.ref b38), .val (.ref b41), .unset, .unset, .unset] [(.int 2)])) rfl (hb hby at_74) rfl (by decide) (cap := 2) (by decide) (by decide) (by decide) (by decide)
    obtain ⟨b44, g44⟩ : ∃ z, z = h43.size := ⟨_, rfl⟩
    rw [← g44] at A44 st44
    refine own_of st44 ?_
    have lt44 := own_lt A44.lt
    have sz44 : h43.size ≤ h44.size := E44.1
    have O44 : Old Z n0 h44 := O43.ext E44
    have z44 : n0 ≤ b44 := by have := O43.1 ▸ O43.2.1; omega
    have V44 : Arv Z h44 b44 k44 .long (2 : Int32) [(.long 0), (.long 0)] (.long 0) := (Arv.new A44 (by decide)).pad (pad_rep [] (.long 0) 2)
    show own_go p e below s _ _ _ (T44.setTop (mkF m 76 #[.val (.long ja), .second, .val (.long jb), .second, .val (.long jc), .second, .val (.long jd), .second, .val (.int sl), .val (.ref b1), .val (.int 1), .val (.long z36), .second, .val (.long z37), .second, .val (.ref b38), .val (.ref b41), .unset, .unset, .unset] [(.ref b44)]))
    refine own_of (fun tt_ => XS.dup X44.here hx rfl (hb hby at_76) rfl rfl) ?_
    refine own_of (fun tt_ => XS.iconst X44.here hx rfl (hb hby at_77)) ?_
    refine own_of (fun tt_ => XS.lload X44.here hx rfl (hb hby at_78) rfl) ?_
    obtain ⟨cl45, Ar45, q45, S45, Ng45, H45, G45⟩ := V44
    obtain ⟨T45, h45, X45, e45, W45, st45⟩ := stJ X44 hx hZ e44 Ar45 (j := (0 : Int32)) (inb_of S45 ⟨by decide, by decide⟩) (g := (mkF m 80 #[.val (.long ja), .second, .val (.long jb), .second, .val (.long jc), .second, .val (.long jd), .second, .val (.int sl), .val (.ref b1), .val (.int 1), .val (.long z36), .second, .val (.long z37), .second, .val (.ref b38), .val (.ref b41), .unset, .unset, .unset] [(.long jc), (.int 0), (.ref b44), (.ref b44)])) rfl rfl (hb hby at_80)
    have V45 : Arv Z h45 b44 k44 .long (2 : Int32) [(.long jc), (.long 0)] (.long 0) := Arv.set Ar45 q45 S45 Ng45 H45 G45 rfl W45 0 rfl (Nat.le_of_ble_eq_true rfl)
    refine own_of st45 ?_
    have N45 := Fr.snoc X45 N43 (by omega : n0 ≤ b44)
    have sz45 : h45.size = h44.size := W45.size
    have O45 : Old Z n0 h45 := O44.wr W45 (by omega)
    show own_go p e below s _ _ _ (T45.setTop (mkF m 81 #[.val (.long ja), .second, .val (.long jb), .second, .val (.long jc), .second, .val (.long jd), .second, .val (.int sl), .val (.ref b1), .val (.int 1), .val (.long z36), .second, .val (.long z37), .second, .val (.ref b38), .val (.ref b41), .unset, .unset, .unset] [(.ref b44)]))
    refine own_of (fun tt_ => XS.dup X45.here hx rfl (hb hby at_81) rfl rfl) ?_
    refine own_of (fun tt_ => XS.iconst X45.here hx rfl (hb hby at_82)) ?_
    refine own_of (fun tt_ => XS.lload X45.here hx rfl (hb hby at_83) rfl) ?_
    obtain ⟨cl46, Ar46, q46, S46, Ng46, H46, G46⟩ := V45
    obtain ⟨T46, h46, X46, e46, W46, st46⟩ := stJ X45 hx hZ e45 Ar46 (j := (1 : Int32)) (inb_of S46 ⟨by decide, by decide⟩) (g := (mkF m 85 #[.val (.long ja), .second, .val (.long jb), .second, .val (.long jc), .second, .val (.long jd), .second, .val (.int sl), .val (.ref b1), .val (.int 1), .val (.long z36), .second, .val (.long z37), .second, .val (.ref b38), .val (.ref b41), .unset, .unset, .unset] [(.long jd), (.int 1), (.ref b44), (.ref b44)])) rfl rfl (hb hby at_85)
    have V46 : Arv Z h46 b44 k44 .long (2 : Int32) [(.long jc), (.long jd)] (.long 0) := Arv.set Ar46 q46 S46 Ng46 H46 G46 rfl W46 1 rfl (Nat.le_of_ble_eq_true rfl)
    refine own_of st46 ?_
    have N46 := Fr.snoc X46 N45 (by omega : n0 ≤ b44)
    have sz46 : h46.size = h45.size := W46.size
    have O46 : Old Z n0 h46 := O45.wr W46 (by omega)
    show own_go p e below s _ _ _ (T46.setTop (mkF m 86 #[.val (.long ja), .second, .val (.long jb), .second, .val (.long jc), .second, .val (.long jd), .second, .val (.int sl), .val (.ref b1), .val (.int 1), .val (.long z36), .second, .val (.long z37), .second, .val (.ref b38), .val (.ref b41), .unset, .unset, .unset] [(.ref b44)]))
    refine own_of (fun tt_ => XS.astore X46.here hx rfl (hb hby at_86) rfl rfl (l' := #[.val (.long ja), .second, .val (.long jb), .second, .val (.long jc), .second, .val (.long jd), .second, .val (.int sl), .val (.ref b1), .val (.int 1), .val (.long z36), .second, .val (.long z37), .second, .val (.ref b38), .val (.ref b41), .val (.ref b44), .unset, .unset]) rfl) ?_
    refine own_of (fun tt_ => XS.iconst X46.here hx rfl (hb hby at_88)) ?_
    obtain ⟨T47, h47, k47, X47, e47, E47, A47, st47⟩ := newP X46 hx hZ (hW 36 _ rfl) e46 (g := (mkF m 89 #[.val (.long ja), .second, .val (.long jb), .second, .val (.long jc), .second, .val (.long jd), .second, .val (.int sl), .val (.ref b1), .val (.int 1), .val (.long z36), .second, .val (.long z37), .second, .val (.ref b38), .val (.ref b41), .val (.ref b44), .unset, .unset] [(.int 2)])) rfl (hb hby at_89) rfl (by decide) (cap := 2) (by decide) (by decide) (by decide) (by decide)
    obtain ⟨b47, g47⟩ : ∃ z, z = h46.size := ⟨_, rfl⟩
    rw [← g47] at A47 st47
    refine own_of st47 ?_
    have lt47 := own_lt A47.lt
    have sz47 : h46.size ≤ h47.size := E47.1
    have O47 : Old Z n0 h47 := O46.ext E47
    have z47 : n0 ≤ b47 := by have := O46.1 ▸ O46.2.1; omega
    have V47 : Arv Z h47 b47 k47 .long (2 : Int32) [(.long 0), (.long 0)] (.long 0) := (Arv.new A47 (by decide)).pad (pad_rep [] (.long 0) 2)
    show own_go p e below s _ _ _ (T47.setTop (mkF m 91 #[.val (.long ja), .second, .val (.long jb), .second, .val (.long jc), .second, .val (.long jd), .second, .val (.int sl), .val (.ref b1), .val (.int 1), .val (.long z36), .second, .val (.long z37), .second, .val (.ref b38), .val (.ref b41), .val (.ref b44), .unset, .unset] [(.ref b47)]))
    refine own_of (fun tt_ => XS.dup X47.here hx rfl (hb hby at_91) rfl rfl) ?_
    refine own_of (fun tt_ => XS.iconst X47.here hx rfl (hb hby at_92)) ?_
    refine own_of (fun tt_ => XS.lload X47.here hx rfl (hb hby at_93) rfl) ?_
    obtain ⟨cl48, Ar48, q48, S48, Ng48, H48, G48⟩ := V47
    obtain ⟨T48, h48, X48, e48, W48, st48⟩ := stJ X47 hx hZ e47 Ar48 (j := (0 : Int32)) (inb_of S48 ⟨by decide, by decide⟩) (g := (mkF m 95 #[.val (.long ja), .second, .val (.long jb), .second, .val (.long jc), .second, .val (.long jd), .second, .val (.int sl), .val (.ref b1), .val (.int 1), .val (.long z36), .second, .val (.long z37), .second, .val (.ref b38), .val (.ref b41), .val (.ref b44), .unset, .unset] [(.long z36), (.int 0), (.ref b47), (.ref b47)])) rfl rfl (hb hby at_95)
    have V48 : Arv Z h48 b47 k47 .long (2 : Int32) [(.long z36), (.long 0)] (.long 0) := Arv.set Ar48 q48 S48 Ng48 H48 G48 rfl W48 0 rfl (Nat.le_of_ble_eq_true rfl)
    refine own_of st48 ?_
    have N48 := Fr.snoc X48 N46 (by omega : n0 ≤ b47)
    have sz48 : h48.size = h47.size := W48.size
    have O48 : Old Z n0 h48 := O47.wr W48 (by omega)
    show own_go p e below s _ _ _ (T48.setTop (mkF m 96 #[.val (.long ja), .second, .val (.long jb), .second, .val (.long jc), .second, .val (.long jd), .second, .val (.int sl), .val (.ref b1), .val (.int 1), .val (.long z36), .second, .val (.long z37), .second, .val (.ref b38), .val (.ref b41), .val (.ref b44), .unset, .unset] [(.ref b47)]))
    refine own_of (fun tt_ => XS.dup X48.here hx rfl (hb hby at_96) rfl rfl) ?_
    refine own_of (fun tt_ => XS.iconst X48.here hx rfl (hb hby at_97)) ?_
    refine own_of (fun tt_ => XS.lload X48.here hx rfl (hb hby at_98) rfl) ?_
    obtain ⟨cl49, Ar49, q49, S49, Ng49, H49, G49⟩ := V48
    obtain ⟨T49, h49, X49, e49, W49, st49⟩ := stJ X48 hx hZ e48 Ar49 (j := (1 : Int32)) (inb_of S49 ⟨by decide, by decide⟩) (g := (mkF m 100 #[.val (.long ja), .second, .val (.long jb), .second, .val (.long jc), .second, .val (.long jd), .second, .val (.int sl), .val (.ref b1), .val (.int 1), .val (.long z36), .second, .val (.long z37), .second, .val (.ref b38), .val (.ref b41), .val (.ref b44), .unset, .unset] [(.long z37), (.int 1), (.ref b47), (.ref b47)])) rfl rfl (hb hby at_100)
    have V49 : Arv Z h49 b47 k47 .long (2 : Int32) [(.long z36), (.long z37)] (.long 0) := Arv.set Ar49 q49 S49 Ng49 H49 G49 rfl W49 1 rfl (Nat.le_of_ble_eq_true rfl)
    refine own_of st49 ?_
    have N49 := Fr.snoc X49 N48 (by omega : n0 ≤ b47)
    have sz49 : h49.size = h48.size := W49.size
    have O49 : Old Z n0 h49 := O48.wr W49 (by omega)
    show own_go p e below s _ _ _ (T49.setTop (mkF m 101 #[.val (.long ja), .second, .val (.long jb), .second, .val (.long jc), .second, .val (.long jd), .second, .val (.int sl), .val (.ref b1), .val (.int 1), .val (.long z36), .second, .val (.long z37), .second, .val (.ref b38), .val (.ref b41), .val (.ref b44), .unset, .unset] [(.ref b47)]))
    refine own_of (fun tt_ => XS.astore X49.here hx rfl (hb hby at_101) rfl rfl (l' := #[.val (.long ja), .second, .val (.long jb), .second, .val (.long jc), .second, .val (.long jd), .second, .val (.int sl), .val (.ref b1), .val (.int 1), .val (.long z36), .second, .val (.long z37), .second, .val (.ref b38), .val (.ref b41), .val (.ref b44), .val (.ref b47), .unset]) rfl) ?_
    refine own_of (fun tt_ => XS.iload X49.here hx rfl (hb hby at_103) rfl) ?_
    refine own_of (fun tt_ => XS.iconst X49.here hx rfl (hb hby at_105)) ?_
    have hb106_50 : ¬ ((1 : Int32) < (1 : Int32)) := by decide
    refine own_of (fun tt_ => XS.icmpNo X49.here hx rfl (hb hby at_106) rfl (flt hb106_50).1) ?_
    show own_go p e below s _ _ _ (T49.setTop (mkF m 109 #[.val (.long ja), .second, .val (.long jb), .second, .val (.long jc), .second, .val (.long jd), .second, .val (.int sl), .val (.ref b1), .val (.int 1), .val (.long z36), .second, .val (.long z37), .second, .val (.ref b38), .val (.ref b41), .val (.ref b44), .val (.ref b47), .unset] []))
    refine own_of (fun tt_ => XS.aload X49.here hx rfl (hb hby at_109) rfl rfl) ?_
    refine own_of (fun tt_ => XS.aload X49.here hx rfl (hb hby at_111) rfl rfl) ?_
    show own_go p e below s _ _ _ (T49.setTop (mkF m 113 #[.val (.long ja), .second, .val (.long jb), .second, .val (.long jc), .second, .val (.long jd), .second, .val (.int sl), .val (.ref b1), .val (.int 1), .val (.long z36), .second, .val (.long z37), .second, .val (.ref b38), .val (.ref b41), .val (.ref b44), .val (.ref b47), .unset] [(.ref b38), (.ref b1)]))
    have f51 : Exa Z h49 b1 "com/example/grantway/grantway/protocol/PackedSet" := ((((((((((((u2_0.ext E38).wr W39).wr W40).ext E41).wr W42).wr W43).ext E44).wr W45).wr W46).ext E47).wr W48).wr W49)
    have f52 : Fld Z h49 b1 "com/example/grantway/grantway/protocol/PackedSet" "width" "I" (.int 2) := ((((((((((((u2_1.ext E38).other W39 (Or.inl (own_ne (by omega)))).other W40 (Or.inl (own_ne (by omega)))).ext E41).other W42 (Or.inl (own_ne (by omega)))).other W43 (Or.inl (own_ne (by omega)))).ext E44).other W45 (Or.inl (own_ne (by omega)))).other W46 (Or.inl (own_ne (by omega)))).ext E47).other W48 (Or.inl (own_ne (by omega)))).other W49 (Or.inl (own_ne (by omega))))
    have f53 : Fld Z h49 b1 "com/example/grantway/grantway/protocol/PackedSet" "slots" "I" (.int 16) := ((((((((((((u2_2.ext E38).other W39 (Or.inl (own_ne (by omega)))).other W40 (Or.inl (own_ne (by omega)))).ext E41).other W42 (Or.inl (own_ne (by omega)))).other W43 (Or.inl (own_ne (by omega)))).ext E44).other W45 (Or.inl (own_ne (by omega)))).other W46 (Or.inl (own_ne (by omega)))).ext E47).other W48 (Or.inl (own_ne (by omega)))).other W49 (Or.inl (own_ne (by omega))))
    have f54 : Fld Z h49 b1 "com/example/grantway/grantway/protocol/PackedSet" "pages" "[[J" (.ref pa2) := ((((((((((((u2_3.ext E38).other W39 (Or.inl (own_ne (by omega)))).other W40 (Or.inl (own_ne (by omega)))).ext E41).other W42 (Or.inl (own_ne (by omega)))).other W43 (Or.inl (own_ne (by omega)))).ext E44).other W45 (Or.inl (own_ne (by omega)))).other W46 (Or.inl (own_ne (by omega)))).ext E47).other W48 (Or.inl (own_ne (by omega)))).other W49 (Or.inl (own_ne (by omega))))
    have f55 : Fld Z h49 b1 "com/example/grantway/grantway/protocol/PackedSet" "used" "Ljava/util/BitSet;" (.ref bq2) := ((((((((((((u2_4.ext E38).other W39 (Or.inl (own_ne (by omega)))).other W40 (Or.inl (own_ne (by omega)))).ext E41).other W42 (Or.inl (own_ne (by omega)))).other W43 (Or.inl (own_ne (by omega)))).ext E44).other W45 (Or.inl (own_ne (by omega)))).other W46 (Or.inl (own_ne (by omega)))).ext E47).other W48 (Or.inl (own_ne (by omega)))).other W49 (Or.inl (own_ne (by omega))))
    have f56 : Fld Z h49 b1 "com/example/grantway/grantway/protocol/PackedSet" "size" "I" (.int 0) := ((((((((((((u2_5.ext E38).other W39 (Or.inl (own_ne (by omega)))).other W40 (Or.inl (own_ne (by omega)))).ext E41).other W42 (Or.inl (own_ne (by omega)))).other W43 (Or.inl (own_ne (by omega)))).ext E44).other W45 (Or.inl (own_ne (by omega)))).other W46 (Or.inl (own_ne (by omega)))).ext E47).other W48 (Or.inl (own_ne (by omega)))).other W49 (Or.inl (own_ne (by omega))))
    have f57 : Exa Z h49 bq2 "java/util/BitSet" := ((((((((((((u2_6.ext E38).wr W39).wr W40).ext E41).wr W42).wr W43).ext E44).wr W45).wr W46).ext E47).wr W48).wr W49)
    have f58 : Fld Z h49 bq2 "java/util/BitSet" "wordsInUse" "I" (.int 0) := ((((((((((((u2_7.ext E38).other W39 (Or.inl (own_ne (by omega)))).other W40 (Or.inl (own_ne (by omega)))).ext E41).other W42 (Or.inl (own_ne (by omega)))).other W43 (Or.inl (own_ne (by omega)))).ext E44).other W45 (Or.inl (own_ne (by omega)))).other W46 (Or.inl (own_ne (by omega)))).ext E47).other W48 (Or.inl (own_ne (by omega)))).other W49 (Or.inl (own_ne (by omega))))
    have f59 : Fld Z h49 bq2 "java/util/BitSet" "words" "[J" (.ref wa2) := ((((((((((((u2_8.ext E38).other W39 (Or.inl (own_ne (by omega)))).other W40 (Or.inl (own_ne (by omega)))).ext E41).other W42 (Or.inl (own_ne (by omega)))).other W43 (Or.inl (own_ne (by omega)))).ext E44).other W45 (Or.inl (own_ne (by omega)))).other W46 (Or.inl (own_ne (by omega)))).ext E47).other W48 (Or.inl (own_ne (by omega)))).other W49 (Or.inl (own_ne (by omega))))
    have f60 : Arv Z h49 wa2 kw2 .long (1 : Int32) [(.long 0)] (.long 0) := ((((((((((((u2_9.ext E38).other W39 (own_ne (by omega))).other W40 (own_ne (by omega))).ext E41).other W42 (own_ne (by omega))).other W43 (own_ne (by omega))).ext E44).other W45 (own_ne (by omega))).other W46 (own_ne (by omega))).ext E47).other W48 (own_ne (by omega))).other W49 (own_ne (by omega)))
    have f61 : Arv Z h49 pa2 ka2 (.array .long) (1 : Int32) [.null] .null := ((((((((((((u2_10.ext E38).other W39 (own_ne (by omega))).other W40 (own_ne (by omega))).ext E41).other W42 (own_ne (by omega))).other W43 (own_ne (by omega))).ext E44).other W45 (own_ne (by omega))).other W46 (own_ne (by omega))).ext E47).other W48 (own_ne (by omega))).other W49 (own_ne (by omega)))
    have f62 : Arv Z h49 b38 k38 .long (2 : Int32) [(.long ja), (.long jb)] (.long 0) := (((((((((V40.ext E41).other W42 (own_ne (by omega))).other W43 (own_ne (by omega))).ext E44).other W45 (own_ne (by omega))).other W46 (own_ne (by omega))).ext E47).other W48 (own_ne (by omega))).other W49 (own_ne (by omega)))
    obtain ⟨cq63, kq63, q63a, q63b, q63c⟩ := isOf hZ e49 f51
    obtain ⟨_, _, ⟨T63, L63, k63, n63⟩, -, X63, ⟨Lc63, hQ63, l63, y63, z63⟩, st63⟩ := X49.virtualBack hx (y := ym1) (z := ym1) hown (mvT hZ (hW 45 _ rfl)) (mvT hZ (hW 46 _ rfl)) (notFace_of_selects (args := #[]) (mvT hZ (hW 48 _ rfl))) (mvT hZ (hW 48 _ rfl)) (mvT hZ (hW 47 _ rfl)) (by decide) (backOf (W := 0) (rmAdd0 l Z a0 hw [] b1 pa2 bq2 wa2 ka2 kw2 (0 : Int32) b38 k38 ja jb h49 n0 O49 S_ad ⟨f51, f52, f53, f54, f55, f56, f57, f58, f59, f60, f61⟩ f62 ⟨by omega, by omega, by omega, by omega, by omega, by omega, by omega, by omega, by omega, by omega⟩ ⟨by omega, by omega⟩ (by decide) OV2) hZ (hW 49 _ rfl) (hW 2 _ rfl) (by decide) (by decide)) q63a q63c (g := (mkF m 113 #[.val (.long ja), .second, .val (.long jb), .second, .val (.long jc), .second, .val (.long jd), .second, .val (.int sl), .val (.ref b1), .val (.int 1), .val (.long z36), .second, .val (.long z37), .second, .val (.ref b38), .val (.ref b41), .val (.ref b44), .val (.ref b47), .unset] [(.ref b38), (.ref b1)])) rfl (by rw [hml]; rfl) (Steps.refl _) (argsL := [(.ref b38)]) (rest := []) (lenOf pd_7 rfl) rfl (by show 2 * 0 + _ ≤ _; exact Nat.le_of_eq rfl) (hb hby at_113) (fun _ _ => ⟨rfl, e49, (by decide : 8 + 1 ≤ _), (by decide : 18 + 32 ≤ _)⟩)
    dsimp only [Pt.U, Pt.locs, Pt.cells, Pt.slots] at X63 l63 y63 z63 st63 hQ63
    subst l63 y63 z63
    obtain ⟨W63, J063, J163, zz63, p63, kp63, rfl, Nq63, Kp63, PQ63, Ad63, ez63, gp63⟩ := hQ63
    have N63 := Fr.app N49 Nq63
    refine own_of (fun tt_ kk_ => st63.trans kk_) ?_
    have sz63 : h49.size ≤ T63.heap.size := Kp63.1
    have O63 : Old Z n0 T63.heap := O49.keep Kp63 (allS (by omega) (allS (by omega) (allS (by omega) (allS (by omega) all0))))
    obtain ⟨u63_0, u63_1, u63_2, u63_3, u63_4, u63_5, u63_6, u63_7, u63_8, u63_9, u63_10, u63_11⟩ := id PQ63
    obtain ⟨ti63, I63⟩ := own_inv_add (own_inv0 (fun _ => (0 : Int64)) (fun _ => (0 : Int64))) Ad63
    show own_go p e below s _ _ _ (T63.setTop (mkF m 116 #[.val (.long ja), .second, .val (.long jb), .second, .val (.long jc), .second, .val (.long jd), .second, .val (.int sl), .val (.ref b1), .val (.int 1), .val (.long z36), .second, .val (.long z37), .second, .val (.ref b38), .val (.ref b41), .val (.ref b44), .val (.ref b47), .unset] []))
    refine own_of (fun tt_ => XS.iload X63.here hx rfl (hb hby at_116) rfl) ?_
    refine own_of (fun tt_ => XS.iconst X63.here hx rfl (hb hby at_118)) ?_
    have hb119_64 : (1 : Int32) < (2 : Int32) := by decide
    refine own_of (fun tt_ => XS.icmpYes X63.here hx rfl (pc0 := 119) (pc' := 129) rfl (hb hby at_119) rfl (tlt hb119_64).1 (by decide) (by decide)) ?_
    show own_go p e below s _ _ _ (T63.setTop (mkF m 129 #[.val (.long ja), .second, .val (.long jb), .second, .val (.long jc), .second, .val (.long jd), .second, .val (.int sl), .val (.ref b1), .val (.int 1), .val (.long z36), .second, .val (.long z37), .second, .val (.ref b38), .val (.ref b41), .val (.ref b44), .val (.ref b47), .unset] []))
    refine own_of (fun tt_ => XS.iload X63.here hx rfl (hb hby at_129) rfl) ?_
    refine own_of (fun tt_ => XS.iconst X63.here hx rfl (hb hby at_131)) ?_
    have hb132_65 : (1 : Int32) < (3 : Int32) := by decide
    refine own_of (fun tt_ => XS.icmpYes X63.here hx rfl (pc0 := 132) (pc' := 142) rfl (hb hby at_132) rfl (tlt hb132_65).1 (by decide) (by decide)) ?_
    show own_go p e below s _ _ _ (T63.setTop (mkF m 142 #[.val (.long ja), .second, .val (.long jb), .second, .val (.long jc), .second, .val (.long jd), .second, .val (.int sl), .val (.ref b1), .val (.int 1), .val (.long z36), .second, .val (.long z37), .second, .val (.ref b38), .val (.ref b41), .val (.ref b44), .val (.ref b47), .unset] []))
    refine own_of (fun tt_ => XS.iload X63.here hx rfl (hb hby at_142) rfl) ?_
    refine own_of (fun tt_ => XS.iconst X63.here hx rfl (hb hby at_144)) ?_
    have hb145_66 : ¬ ((1 : Int32) < (1 : Int32)) := by decide
    refine own_of (fun tt_ => XS.icmpNo X63.here hx rfl (hb hby at_145) rfl (flt hb145_66).1) ?_
    show own_go p e below s _ _ _ (T63.setTop (mkF m 148 #[.val (.long ja), .second, .val (.long jb), .second, .val (.long jc), .second, .val (.long jd), .second, .val (.int sl), .val (.ref b1), .val (.int 1), .val (.long z36), .second, .val (.long z37), .second, .val (.ref b38), .val (.ref b41), .val (.ref b44), .val (.ref b47), .unset] []))
    refine own_of (fun tt_ => XS.lload X63.here hx rfl (hb hby at_148) rfl) ?_
    refine own_of (fun tt_ => XS.lloadN X63.here hx rfl (hb hby at_150) rfl) ?_
    refine own_of (fun tt_ => XS.lcmp X63.here hx rfl (hb hby at_151) rfl) ?_
    show own_go p e below s _ _ _ (T63.setTop (mkF m 152 #[.val (.long ja), .second, .val (.long jb), .second, .val (.long jc), .second, .val (.long jd), .second, .val (.int sl), .val (.ref b1), .val (.int 1), .val (.long z36), .second, .val (.long z37), .second, .val (.ref b38), .val (.ref b41), .val (.ref b44), .val (.ref b47), .unset] [(.int (lcmpW z36 ja))]))
    by_cases hb152_67 : (lcmpW z36 ja) = (0 : Int32)
    · refine own_of (fun tt_ => XS.ifNo X63.here hx rfl (hb hby at_152) rfl ((if0 _ _).trans (teq hb152_67).2)) ?_
      show own_go p e below s _ _ _ (T63.setTop (mkF m 155 #[.val (.long ja), .second, .val (.long jb), .second, .val (.long jc), .second, .val (.long jd), .second, .val (.int sl), .val (.ref b1), .val (.int 1), .val (.long z36), .second, .val (.long z37), .second, .val (.ref b38), .val (.ref b41), .val (.ref b44), .val (.ref b47), .unset] []))
      refine own_of (fun tt_ => XS.lload X63.here hx rfl (hb hby at_155) rfl) ?_
      refine own_of (fun tt_ => XS.lloadN X63.here hx rfl (hb hby at_157) rfl) ?_
      refine own_of (fun tt_ => XS.lcmp X63.here hx rfl (hb hby at_158) rfl) ?_
      show own_go p e below s _ _ _ (T63.setTop (mkF m 159 #[.val (.long ja), .second, .val (.long jb), .second, .val (.long jc), .second, .val (.long jd), .second, .val (.int sl), .val (.ref b1), .val (.int 1), .val (.long z36), .second, .val (.long z37), .second, .val (.ref b38), .val (.ref b41), .val (.ref b44), .val (.ref b47), .unset] [(.int (lcmpW z37 jb))]))
      by_cases hb159_68 : (lcmpW z37 jb) = (0 : Int32)
      · refine own_of (fun tt_ => XS.ifYes X63.here hx rfl (pc0 := 159) (pc' := 205) rfl (hb hby at_159) rfl ((if0 _ _).trans (teq hb159_68).1) (by decide) (by decide)) ?_
        show own_go p e below s _ _ _ (T63.setTop (mkF m 205 #[.val (.long ja), .second, .val (.long jb), .second, .val (.long jc), .second, .val (.long jd), .second, .val (.int sl), .val (.ref b1), .val (.int 1), .val (.long z36), .second, .val (.long z37), .second, .val (.ref b38), .val (.ref b41), .val (.ref b44), .val (.ref b47), .unset] []))
        refine own_of (fun tt_ => XS.iconst X63.here hx rfl (hb hby at_205)) ?_
        refine own_of (fun tt_ => XS.goto X63.here hx rfl (pc0 := 206) (pc' := 210) rfl (hb hby at_206) (by decide) (by decide)) ?_
        refine own_of (fun tt_ => XS.istore X63.here hx rfl (hb hby at_210) rfl (l' := #[.val (.long ja), .second, .val (.long jb), .second, .val (.long jc), .second, .val (.long jd), .second, .val (.int sl), .val (.ref b1), .val (.int 1), .val (.long z36), .second, .val (.long z37), .second, .val (.ref b38), .val (.ref b41), .val (.ref b44), .val (.ref b47), .val (.int 1)]) rfl) ?_
        refine own_of (fun tt_ => XS.aload X63.here hx rfl (hb hby at_212) rfl rfl) ?_
        refine own_of (fun tt_ => XS.aload X63.here hx rfl (hb hby at_214) rfl rfl) ?_
        show own_go p e below s _ _ _ (T63.setTop (mkF m 216 #[.val (.long ja), .second, .val (.long jb), .second, .val (.long jc), .second, .val (.long jd), .second, .val (.int sl), .val (.ref b1), .val (.int 1), .val (.long z36), .second, .val (.long z37), .second, .val (.ref b38), .val (.ref b41), .val (.ref b44), .val (.ref b47), .val (.int 1)] [(.ref b47), (.ref b1)]))
        have f69 : Arv Z T63.heap b47 k47 .long (2 : Int32) [(.long z36), (.long z37)] (.long 0) := (V49.keep Kp63 (ninS (own_ne (by omega)) (ninS (own_ne (by omega)) (ninS (own_ne (by omega)) (ninS (own_ne (by omega)) nin0)))))
        obtain ⟨cq70, kq70, q70a, q70b, q70c⟩ := isOf hZ rfl u63_0
        obtain ⟨_, _, ⟨T70, L70, k70, n70⟩, -, X70, ⟨Lc70, hQ70, l70, y70, z70⟩, st70⟩ := X63.virtualBack hx (y := ym0) (z := ym0) hown (mvT hZ (hW 113 _ rfl)) (mvT hZ (hW 114 _ rfl)) (notFace_of_selects (args := #[]) (mvT hZ (hW 116 _ rfl))) (mvT hZ (hW 116 _ rfl)) (mvT hZ (hW 115 _ rfl)) (by decide) (backOf (W := 0) (rmCon1 l Z a0 hw [] b1 pa2 bq2 wa2 p63 ka2 kw2 kp63 W63 J063 J163 zz63 b47 k47 z36 z37 T63.heap n0 O63 S_ad ⟨u63_0, u63_1, u63_2, u63_3, u63_4, u63_5, u63_6, u63_7, u63_8, u63_9, u63_10, u63_11⟩ f69 (own_inv_free I63 (by simp) (own_hash_s _ _))) hZ (hW 117 _ rfl) (hW 2 _ rfl) (by decide) (by decide)) q70a q70c (g := (mkF m 216 #[.val (.long ja), .second, .val (.long jb), .second, .val (.long jc), .second, .val (.long jd), .second, .val (.int sl), .val (.ref b1), .val (.int 1), .val (.long z36), .second, .val (.long z37), .second, .val (.ref b38), .val (.ref b41), .val (.ref b44), .val (.ref b47), .val (.int 1)] [(.ref b47), (.ref b1)])) rfl (by rw [hml]; rfl) (Steps.refl _) (argsL := [(.ref b47)]) (rest := []) (lenOf pd_11 rfl) rfl (by show 2 * 0 + _ ≤ _; exact Nat.le_of_eq rfl) (hb hby at_216) (fun _ _ => ⟨rfl, rfl, (by decide : 9 + 0 ≤ _), (by decide : 50 + 0 ≤ _)⟩)
        dsimp only [Pt.U, Pt.locs, Pt.cells, Pt.slots] at X70 l70 y70 z70 st70 hQ70
        subst l70 y70 z70
        obtain ⟨r70, rfl, Nq70, eh70, sr70, fr70⟩ := hQ70
        have N70 := Fr.app N63 Nq70
        refine own_of (fun tt_ kk_ => st70.trans kk_) ?_
        show own_go p e below s _ _ _ (T70.setTop (mkF m 219 #[.val (.long ja), .second, .val (.long jb), .second, .val (.long jc), .second, .val (.long jd), .second, .val (.int sl), .val (.ref b1), .val (.int 1), .val (.long z36), .second, .val (.long z37), .second, .val (.ref b38), .val (.ref b41), .val (.ref b44), .val (.ref b47), .val (.int 1)] [(.int (own_bit W63 r70))]))
        refine own_of (fun tt_ => XS.iload X70.here hx rfl (hb hby at_219) rfl) ?_
        have hb221_71 : (own_bit W63 r70) = (1 : Int32) := (own_bit01 _ _).resolve_left ((own_inv_has I63 sr70 fr70).mpr (Or.inr ⟨(lw_eq _ _).mp hb152_67, (lw_eq _ _).mp hb159_68⟩))
        refine own_of (fun tt_ => XS.icmpNo X70.here hx rfl (hb hby at_221) rfl (teq hb221_71).2) ?_
        show own_go p e below s _ _ _ (T70.setTop (mkF m 224 #[.val (.long ja), .second, .val (.long jb), .second, .val (.long jc), .second, .val (.long jd), .second, .val (.int sl), .val (.ref b1), .val (.int 1), .val (.long z36), .second, .val (.long z37), .second, .val (.ref b38), .val (.ref b41), .val (.ref b44), .val (.ref b47), .val (.int 1)] []))
        refine own_of (fun tt_ => XS.iconst X70.here hx rfl (hb hby at_224)) ?_
        refine own_of (fun tt_ => XS.goto X70.here hx rfl (pc0 := 225) (pc' := 229) rfl (hb hby at_225) (by decide) (by decide)) ?_
        show own_go p e below s _ _ _ (T70.setTop (mkF m 229 #[.val (.long ja), .second, .val (.long jb), .second, .val (.long jc), .second, .val (.long jd), .second, .val (.int sl), .val (.ref b1), .val (.int 1), .val (.long z36), .second, .val (.long z37), .second, .val (.ref b38), .val (.ref b41), .val (.ref b44), .val (.ref b47), .val (.int 1)] [(.int 1)]))
        refine own_ret X70 hx hlk Bd.returns rfl (Or.inl ⟨rfl, by simp, _, rfl⟩) (hb hby at_229) (by decide) (by decide) ?_
        rw [eh70]
        exact ⟨rfl, N70⟩
      · refine own_of (fun tt_ => XS.ifNo X63.here hx rfl (hb hby at_159) rfl ((if0 _ _).trans (feq hb159_68).1)) ?_
        show own_go p e below s _ _ _ (T63.setTop (mkF m 162 #[.val (.long ja), .second, .val (.long jb), .second, .val (.long jc), .second, .val (.long jd), .second, .val (.int sl), .val (.ref b1), .val (.int 1), .val (.long z36), .second, .val (.long z37), .second, .val (.ref b38), .val (.ref b41), .val (.ref b44), .val (.ref b47), .unset] []))
        refine own_of (fun tt_ => XS.iload X63.here hx rfl (hb hby at_162) rfl) ?_
        refine own_of (fun tt_ => XS.iconst X63.here hx rfl (hb hby at_164)) ?_
        have hb165_72 : (1 : Int32) < (2 : Int32) := by decide
        refine own_of (fun tt_ => XS.icmpYes X63.here hx rfl (pc0 := 165) (pc' := 183) rfl (hb hby at_165) rfl (tlt hb165_72).1 (by decide) (by decide)) ?_
        show own_go p e below s _ _ _ (T63.setTop (mkF m 183 #[.val (.long ja), .second, .val (.long jb), .second, .val (.long jc), .second, .val (.long jd), .second, .val (.int sl), .val (.ref b1), .val (.int 1), .val (.long z36), .second, .val (.long z37), .second, .val (.ref b38), .val (.ref b41), .val (.ref b44), .val (.ref b47), .unset] []))
        refine own_of (fun tt_ => XS.iload X63.here hx rfl (hb hby at_183) rfl) ?_
        refine own_of (fun tt_ => XS.iconst X63.here hx rfl (hb hby at_185)) ?_
        have hb186_73 : (1 : Int32) < (3 : Int32) := by decide
        refine own_of (fun tt_ => XS.icmpYes X63.here hx rfl (pc0 := 186) (pc' := 209) rfl (hb hby at_186) rfl (tlt hb186_73).1 (by decide) (by decide)) ?_
        show own_go p e below s _ _ _ (T63.setTop (mkF m 209 #[.val (.long ja), .second, .val (.long jb), .second, .val (.long jc), .second, .val (.long jd), .second, .val (.int sl), .val (.ref b1), .val (.int 1), .val (.long z36), .second, .val (.long z37), .second, .val (.ref b38), .val (.ref b41), .val (.ref b44), .val (.ref b47), .unset] []))
        refine own_of (fun tt_ => XS.iconst X63.here hx rfl (hb hby at_209)) ?_
        refine own_of (fun tt_ => XS.istore X63.here hx rfl (hb hby at_210) rfl (l' := #[.val (.long ja), .second, .val (.long jb), .second, .val (.long jc), .second, .val (.long jd), .second, .val (.int sl), .val (.ref b1), .val (.int 1), .val (.long z36), .second, .val (.long z37), .second, .val (.ref b38), .val (.ref b41), .val (.ref b44), .val (.ref b47), .val (.int 0)]) rfl) ?_
        refine own_of (fun tt_ => XS.aload X63.here hx rfl (hb hby at_212) rfl rfl) ?_
        refine own_of (fun tt_ => XS.aload X63.here hx rfl (hb hby at_214) rfl rfl) ?_
        show own_go p e below s _ _ _ (T63.setTop (mkF m 216 #[.val (.long ja), .second, .val (.long jb), .second, .val (.long jc), .second, .val (.long jd), .second, .val (.int sl), .val (.ref b1), .val (.int 1), .val (.long z36), .second, .val (.long z37), .second, .val (.ref b38), .val (.ref b41), .val (.ref b44), .val (.ref b47), .val (.int 0)] [(.ref b47), (.ref b1)]))
        have f74 : Arv Z T63.heap b47 k47 .long (2 : Int32) [(.long z36), (.long z37)] (.long 0) := (V49.keep Kp63 (ninS (own_ne (by omega)) (ninS (own_ne (by omega)) (ninS (own_ne (by omega)) (ninS (own_ne (by omega)) nin0)))))
        obtain ⟨cq75, kq75, q75a, q75b, q75c⟩ := isOf hZ rfl u63_0
        obtain ⟨_, _, ⟨T75, L75, k75, n75⟩, -, X75, ⟨Lc75, hQ75, l75, y75, z75⟩, st75⟩ := X63.virtualBack hx (y := ym0) (z := ym0) hown (mvT hZ (hW 113 _ rfl)) (mvT hZ (hW 114 _ rfl)) (notFace_of_selects (args := #[]) (mvT hZ (hW 116 _ rfl))) (mvT hZ (hW 116 _ rfl)) (mvT hZ (hW 115 _ rfl)) (by decide) (backOf (W := 0) (rmCon1 l Z a0 hw [] b1 pa2 bq2 wa2 p63 ka2 kw2 kp63 W63 J063 J163 zz63 b47 k47 z36 z37 T63.heap n0 O63 S_ad ⟨u63_0, u63_1, u63_2, u63_3, u63_4, u63_5, u63_6, u63_7, u63_8, u63_9, u63_10, u63_11⟩ f74 (own_inv_free I63 (by simp) (own_hash_s _ _))) hZ (hW 117 _ rfl) (hW 2 _ rfl) (by decide) (by decide)) q75a q75c (g := (mkF m 216 #[.val (.long ja), .second, .val (.long jb), .second, .val (.long jc), .second, .val (.long jd), .second, .val (.int sl), .val (.ref b1), .val (.int 1), .val (.long z36), .second, .val (.long z37), .second, .val (.ref b38), .val (.ref b41), .val (.ref b44), .val (.ref b47), .val (.int 0)] [(.ref b47), (.ref b1)])) rfl (by rw [hml]; rfl) (Steps.refl _) (argsL := [(.ref b47)]) (rest := []) (lenOf pd_11 rfl) rfl (by show 2 * 0 + _ ≤ _; exact Nat.le_of_eq rfl) (hb hby at_216) (fun _ _ => ⟨rfl, rfl, (by decide : 9 + 0 ≤ _), (by decide : 50 + 0 ≤ _)⟩)
        dsimp only [Pt.U, Pt.locs, Pt.cells, Pt.slots] at X75 l75 y75 z75 st75 hQ75
        subst l75 y75 z75
        obtain ⟨r75, rfl, Nq75, eh75, sr75, fr75⟩ := hQ75
        have N75 := Fr.app N63 Nq75
        refine own_of (fun tt_ kk_ => st75.trans kk_) ?_
        show own_go p e below s _ _ _ (T75.setTop (mkF m 219 #[.val (.long ja), .second, .val (.long jb), .second, .val (.long jc), .second, .val (.long jd), .second, .val (.int sl), .val (.ref b1), .val (.int 1), .val (.long z36), .second, .val (.long z37), .second, .val (.ref b38), .val (.ref b41), .val (.ref b44), .val (.ref b47), .val (.int 0)] [(.int (own_bit W63 r75))]))
        refine own_of (fun tt_ => XS.iload X75.here hx rfl (hb hby at_219) rfl) ?_
        have hb221_76 : (own_bit W63 r75) = (0 : Int32) := Classical.byContradiction fun q => (fun s => Or.elim s (fun f => f) (fun q => hb159_68 ((lw_eq _ _).mpr q.2))) ((own_inv_has I63 sr75 fr75).mp q)
        refine own_of (fun tt_ => XS.icmpNo X75.here hx rfl (hb hby at_221) rfl (teq hb221_76).2) ?_
        show own_go p e below s _ _ _ (T75.setTop (mkF m 224 #[.val (.long ja), .second, .val (.long jb), .second, .val (.long jc), .second, .val (.long jd), .second, .val (.int sl), .val (.ref b1), .val (.int 1), .val (.long z36), .second, .val (.long z37), .second, .val (.ref b38), .val (.ref b41), .val (.ref b44), .val (.ref b47), .val (.int 0)] []))
        refine own_of (fun tt_ => XS.iconst X75.here hx rfl (hb hby at_224)) ?_
        refine own_of (fun tt_ => XS.goto X75.here hx rfl (pc0 := 225) (pc' := 229) rfl (hb hby at_225) (by decide) (by decide)) ?_
        show own_go p e below s _ _ _ (T75.setTop (mkF m 229 #[.val (.long ja), .second, .val (.long jb), .second, .val (.long jc), .second, .val (.long jd), .second, .val (.int sl), .val (.ref b1), .val (.int 1), .val (.long z36), .second, .val (.long z37), .second, .val (.ref b38), .val (.ref b41), .val (.ref b44), .val (.ref b47), .val (.int 0)] [(.int 1)]))
        refine own_ret X75 hx hlk Bd.returns rfl (Or.inl ⟨rfl, by simp, _, rfl⟩) (hb hby at_229) (by decide) (by decide) ?_
        rw [eh75]
        exact ⟨rfl, N75⟩
    · refine own_of (fun tt_ => XS.ifYes X63.here hx rfl (pc0 := 152) (pc' := 162) rfl (hb hby at_152) rfl ((if0 _ _).trans (feq hb152_67).2) (by decide) (by decide)) ?_
      show own_go p e below s _ _ _ (T63.setTop (mkF m 162 #[.val (.long ja), .second, .val (.long jb), .second, .val (.long jc), .second, .val (.long jd), .second, .val (.int sl), .val (.ref b1), .val (.int 1), .val (.long z36), .second, .val (.long z37), .second, .val (.ref b38), .val (.ref b41), .val (.ref b44), .val (.ref b47), .unset] []))
      refine own_of (fun tt_ => XS.iload X63.here hx rfl (hb hby at_162) rfl) ?_
      refine own_of (fun tt_ => XS.iconst X63.here hx rfl (hb hby at_164)) ?_
      have hb165_77 : (1 : Int32) < (2 : Int32) := by decide
      refine own_of (fun tt_ => XS.icmpYes X63.here hx rfl (pc0 := 165) (pc' := 183) rfl (hb hby at_165) rfl (tlt hb165_77).1 (by decide) (by decide)) ?_
      show own_go p e below s _ _ _ (T63.setTop (mkF m 183 #[.val (.long ja), .second, .val (.long jb), .second, .val (.long jc), .second, .val (.long jd), .second, .val (.int sl), .val (.ref b1), .val (.int 1), .val (.long z36), .second, .val (.long z37), .second, .val (.ref b38), .val (.ref b41), .val (.ref b44), .val (.ref b47), .unset] []))
      refine own_of (fun tt_ => XS.iload X63.here hx rfl (hb hby at_183) rfl) ?_
      refine own_of (fun tt_ => XS.iconst X63.here hx rfl (hb hby at_185)) ?_
      have hb186_78 : (1 : Int32) < (3 : Int32) := by decide
      refine own_of (fun tt_ => XS.icmpYes X63.here hx rfl (pc0 := 186) (pc' := 209) rfl (hb hby at_186) rfl (tlt hb186_78).1 (by decide) (by decide)) ?_
      show own_go p e below s _ _ _ (T63.setTop (mkF m 209 #[.val (.long ja), .second, .val (.long jb), .second, .val (.long jc), .second, .val (.long jd), .second, .val (.int sl), .val (.ref b1), .val (.int 1), .val (.long z36), .second, .val (.long z37), .second, .val (.ref b38), .val (.ref b41), .val (.ref b44), .val (.ref b47), .unset] []))
      refine own_of (fun tt_ => XS.iconst X63.here hx rfl (hb hby at_209)) ?_
      refine own_of (fun tt_ => XS.istore X63.here hx rfl (hb hby at_210) rfl (l' := #[.val (.long ja), .second, .val (.long jb), .second, .val (.long jc), .second, .val (.long jd), .second, .val (.int sl), .val (.ref b1), .val (.int 1), .val (.long z36), .second, .val (.long z37), .second, .val (.ref b38), .val (.ref b41), .val (.ref b44), .val (.ref b47), .val (.int 0)]) rfl) ?_
      refine own_of (fun tt_ => XS.aload X63.here hx rfl (hb hby at_212) rfl rfl) ?_
      refine own_of (fun tt_ => XS.aload X63.here hx rfl (hb hby at_214) rfl rfl) ?_
      show own_go p e below s _ _ _ (T63.setTop (mkF m 216 #[.val (.long ja), .second, .val (.long jb), .second, .val (.long jc), .second, .val (.long jd), .second, .val (.int sl), .val (.ref b1), .val (.int 1), .val (.long z36), .second, .val (.long z37), .second, .val (.ref b38), .val (.ref b41), .val (.ref b44), .val (.ref b47), .val (.int 0)] [(.ref b47), (.ref b1)]))
      have f79 : Arv Z T63.heap b47 k47 .long (2 : Int32) [(.long z36), (.long z37)] (.long 0) := (V49.keep Kp63 (ninS (own_ne (by omega)) (ninS (own_ne (by omega)) (ninS (own_ne (by omega)) (ninS (own_ne (by omega)) nin0)))))
      obtain ⟨cq80, kq80, q80a, q80b, q80c⟩ := isOf hZ rfl u63_0
      obtain ⟨_, _, ⟨T80, L80, k80, n80⟩, -, X80, ⟨Lc80, hQ80, l80, y80, z80⟩, st80⟩ := X63.virtualBack hx (y := ym0) (z := ym0) hown (mvT hZ (hW 113 _ rfl)) (mvT hZ (hW 114 _ rfl)) (notFace_of_selects (args := #[]) (mvT hZ (hW 116 _ rfl))) (mvT hZ (hW 116 _ rfl)) (mvT hZ (hW 115 _ rfl)) (by decide) (backOf (W := 0) (rmCon1 l Z a0 hw [] b1 pa2 bq2 wa2 p63 ka2 kw2 kp63 W63 J063 J163 zz63 b47 k47 z36 z37 T63.heap n0 O63 S_ad ⟨u63_0, u63_1, u63_2, u63_3, u63_4, u63_5, u63_6, u63_7, u63_8, u63_9, u63_10, u63_11⟩ f79 (own_inv_free I63 (by simp) (own_hash_s _ _))) hZ (hW 117 _ rfl) (hW 2 _ rfl) (by decide) (by decide)) q80a q80c (g := (mkF m 216 #[.val (.long ja), .second, .val (.long jb), .second, .val (.long jc), .second, .val (.long jd), .second, .val (.int sl), .val (.ref b1), .val (.int 1), .val (.long z36), .second, .val (.long z37), .second, .val (.ref b38), .val (.ref b41), .val (.ref b44), .val (.ref b47), .val (.int 0)] [(.ref b47), (.ref b1)])) rfl (by rw [hml]; rfl) (Steps.refl _) (argsL := [(.ref b47)]) (rest := []) (lenOf pd_11 rfl) rfl (by show 2 * 0 + _ ≤ _; exact Nat.le_of_eq rfl) (hb hby at_216) (fun _ _ => ⟨rfl, rfl, (by decide : 9 + 0 ≤ _), (by decide : 50 + 0 ≤ _)⟩)
      dsimp only [Pt.U, Pt.locs, Pt.cells, Pt.slots] at X80 l80 y80 z80 st80 hQ80
      subst l80 y80 z80
      obtain ⟨r80, rfl, Nq80, eh80, sr80, fr80⟩ := hQ80
      have N80 := Fr.app N63 Nq80
      refine own_of (fun tt_ kk_ => st80.trans kk_) ?_
      show own_go p e below s _ _ _ (T80.setTop (mkF m 219 #[.val (.long ja), .second, .val (.long jb), .second, .val (.long jc), .second, .val (.long jd), .second, .val (.int sl), .val (.ref b1), .val (.int 1), .val (.long z36), .second, .val (.long z37), .second, .val (.ref b38), .val (.ref b41), .val (.ref b44), .val (.ref b47), .val (.int 0)] [(.int (own_bit W63 r80))]))
      refine own_of (fun tt_ => XS.iload X80.here hx rfl (hb hby at_219) rfl) ?_
      have hb221_81 : (own_bit W63 r80) = (0 : Int32) := Classical.byContradiction fun q => (fun s => Or.elim s (fun f => f) (fun q => hb152_67 ((lw_eq _ _).mpr q.1))) ((own_inv_has I63 sr80 fr80).mp q)
      refine own_of (fun tt_ => XS.icmpNo X80.here hx rfl (hb hby at_221) rfl (teq hb221_81).2) ?_
      show own_go p e below s _ _ _ (T80.setTop (mkF m 224 #[.val (.long ja), .second, .val (.long jb), .second, .val (.long jc), .second, .val (.long jd), .second, .val (.int sl), .val (.ref b1), .val (.int 1), .val (.long z36), .second, .val (.long z37), .second, .val (.ref b38), .val (.ref b41), .val (.ref b44), .val (.ref b47), .val (.int 0)] []))
      refine own_of (fun tt_ => XS.iconst X80.here hx rfl (hb hby at_224)) ?_
      refine own_of (fun tt_ => XS.goto X80.here hx rfl (pc0 := 225) (pc' := 229) rfl (hb hby at_225) (by decide) (by decide)) ?_
      show own_go p e below s _ _ _ (T80.setTop (mkF m 229 #[.val (.long ja), .second, .val (.long jb), .second, .val (.long jc), .second, .val (.long jd), .second, .val (.int sl), .val (.ref b1), .val (.int 1), .val (.long z36), .second, .val (.long z37), .second, .val (.ref b38), .val (.ref b41), .val (.ref b44), .val (.ref b47), .val (.int 0)] [(.int 1)]))
      refine own_ret X80 hx hlk Bd.returns rfl (Or.inl ⟨rfl, by simp, _, rfl⟩) (hb hby at_229) (by decide) (by decide) ?_
      rw [eh80]
      exact ⟨rfl, N80⟩
  · rw [hk]
    show own_go p e below s _ _ _ (T2.setTop (mkF m 14 #[.val (.long ja), .second, .val (.long jb), .second, .val (.long jc), .second, .val (.long jd), .second, .val (.int sl), .val (.ref b1), .unset, .unset, .unset, .unset, .unset, .unset, .unset, .unset, .unset, .unset] [(.int 2)]))
    refine own_of (fun tt_ => XS.istore X2.here hx rfl (hb hby at_14) rfl (l' := #[.val (.long ja), .second, .val (.long jb), .second, .val (.long jc), .second, .val (.long jd), .second, .val (.int sl), .val (.ref b1), .val (.int 2), .unset, .unset, .unset, .unset, .unset, .unset, .unset, .unset, .unset]) rfl) ?_
    refine own_of (fun tt_ => XS.iload X2.here hx rfl (hb hby at_16) rfl) ?_
    refine own_of (fun tt_ => XS.iconst X2.here hx rfl (hb hby at_18)) ?_
    refine own_of (fun tt_ => XS.iushr X2.here hx rfl (hb hby at_19) rfl) ?_
    show own_go p e below s _ _ _ (T2.setTop (mkF m 20 #[.val (.long ja), .second, .val (.long jb), .second, .val (.long jc), .second, .val (.long jd), .second, .val (.int sl), .val (.ref b1), .val (.int 2), .unset, .unset, .unset, .unset, .unset, .unset, .unset, .unset, .unset] [(.int ((sl.toUInt32 >>> ((2 : Int32) &&& 31).toUInt32).toInt32))]))
    refine own_of (fun tt_ => XS.lloadN X2.here hx rfl (hb hby at_20) rfl) ?_
    refine own_of (fun tt_ => XS.lloadN X2.here hx rfl (hb hby at_21) rfl) ?_
    refine own_of (fun tt_ => XS.lload X2.here hx rfl (hb hby at_22) rfl) ?_
    refine own_of (fun tt_ => XS.lload X2.here hx rfl (hb hby at_24) rfl) ?_
    show own_go p e below s _ _ _ (T2.setTop (mkF m 26 #[.val (.long ja), .second, .val (.long jb), .second, .val (.long jc), .second, .val (.long jd), .second, .val (.int sl), .val (.ref b1), .val (.int 2), .unset, .unset, .unset, .unset, .unset, .unset, .unset, .unset, .unset] [(.long jd), (.long jc), (.long jb), (.long ja), (.int ((sl.toUInt32 >>> ((2 : Int32) &&& 31).toUInt32).toInt32))]))
    obtain ⟨_, _, ⟨T82, L82, k82, n82⟩, -, X82, ⟨Lc82, hQ82, l82, y82, z82⟩, st82⟩ := Jvm.LawKit.callS X2 hx (y := ym5) hown (mvT hZ (hW 41 _ rfl)) (mvT hZ (hW 42 _ rfl)) (mvT hZ (hW 43 _ rfl)) (mvT hZ (hW 44 _ rfl)) (by decide) (backOf (W := 0) (rmPick l Z a0 hw [] ((sl.toUInt32 >>> ((2 : Int32) &&& 31).toUInt32).toInt32) ja jb jc jd T2.heap n0 O2) hZ (hW 44 _ rfl) (hW 43 _ rfl) (by decide) (by decide)) (g := (mkF m 26 #[.val (.long ja), .second, .val (.long jb), .second, .val (.long jc), .second, .val (.long jd), .second, .val (.int sl), .val (.ref b1), .val (.int 2), .unset, .unset, .unset, .unset, .unset, .unset, .unset, .unset, .unset] [(.long jd), (.long jc), (.long jb), (.long ja), (.int ((sl.toUInt32 >>> ((2 : Int32) &&& 31).toUInt32).toInt32))])) rfl (by rw [hml]; rfl) (argsL := [(.int ((sl.toUInt32 >>> ((2 : Int32) &&& 31).toUInt32).toInt32)), (.long ja), (.long jb), (.long jc), (.long jd)]) (rest := []) (lenOf pd_10 rfl) rfl (by show 2 * 0 + _ ≤ _; exact Nat.le_of_eq rfl) (hb hby at_26) (fun _ _ => ⟨rfl, rfl, (by decide : 4 + 0 ≤ _), (by decide : 10 + 0 ≤ _)⟩)
    dsimp only [Pt.U, Pt.locs, Pt.cells, Pt.slots] at X82 l82 y82 z82 st82 hQ82
    subst l82 y82 z82
    obtain ⟨z82, rfl, Nq82, eh82⟩ := hQ82
    have N82 := Fr.app N2 Nq82
    refine own_of st82 ?_
    show own_go p e below s _ _ _ (T82.setTop (mkF m 29 #[.val (.long ja), .second, .val (.long jb), .second, .val (.long jc), .second, .val (.long jd), .second, .val (.int sl), .val (.ref b1), .val (.int 2), .unset, .unset, .unset, .unset, .unset, .unset, .unset, .unset, .unset] [(.long z82)]))
    refine own_of (fun tt_ => XS.lstore X82.here hx rfl (hb hby at_29) rfl (l' := #[.val (.long ja), .second, .val (.long jb), .second, .val (.long jc), .second, .val (.long jd), .second, .val (.int sl), .val (.ref b1), .val (.int 2), .val (.long z82), .second, .unset, .unset, .unset, .unset, .unset, .unset, .unset]) rfl) ?_
    refine own_of (fun tt_ => XS.iload X82.here hx rfl (hb hby at_31) rfl) ?_
    refine own_of (fun tt_ => XS.iconst X82.here hx rfl (hb hby at_33)) ?_
    refine own_of (fun tt_ => XS.iushr X82.here hx rfl (hb hby at_34) rfl) ?_
    show own_go p e below s _ _ _ (T82.setTop (mkF m 35 #[.val (.long ja), .second, .val (.long jb), .second, .val (.long jc), .second, .val (.long jd), .second, .val (.int sl), .val (.ref b1), .val (.int 2), .val (.long z82), .second, .unset, .unset, .unset, .unset, .unset, .unset, .unset] [(.int ((sl.toUInt32 >>> ((4 : Int32) &&& 31).toUInt32).toInt32))]))
    refine own_of (fun tt_ => XS.lloadN X82.here hx rfl (hb hby at_35) rfl) ?_
    refine own_of (fun tt_ => XS.lloadN X82.here hx rfl (hb hby at_36) rfl) ?_
    refine own_of (fun tt_ => XS.lload X82.here hx rfl (hb hby at_37) rfl) ?_
    refine own_of (fun tt_ => XS.lload X82.here hx rfl (hb hby at_39) rfl) ?_
    show own_go p e below s _ _ _ (T82.setTop (mkF m 41 #[.val (.long ja), .second, .val (.long jb), .second, .val (.long jc), .second, .val (.long jd), .second, .val (.int sl), .val (.ref b1), .val (.int 2), .val (.long z82), .second, .unset, .unset, .unset, .unset, .unset, .unset, .unset] [(.long jd), (.long jc), (.long jb), (.long ja), (.int ((sl.toUInt32 >>> ((4 : Int32) &&& 31).toUInt32).toInt32))]))
    obtain ⟨_, _, ⟨T83, L83, k83, n83⟩, -, X83, ⟨Lc83, hQ83, l83, y83, z83⟩, st83⟩ := Jvm.LawKit.callS X82 hx (y := ym5) hown (mvT hZ (hW 41 _ rfl)) (mvT hZ (hW 42 _ rfl)) (mvT hZ (hW 43 _ rfl)) (mvT hZ (hW 44 _ rfl)) (by decide) (backOf (W := 0) (rmPick l Z a0 hw [] ((sl.toUInt32 >>> ((4 : Int32) &&& 31).toUInt32).toInt32) ja jb jc jd T2.heap n0 O2) hZ (hW 44 _ rfl) (hW 43 _ rfl) (by decide) (by decide)) (g := (mkF m 41 #[.val (.long ja), .second, .val (.long jb), .second, .val (.long jc), .second, .val (.long jd), .second, .val (.int sl), .val (.ref b1), .val (.int 2), .val (.long z82), .second, .unset, .unset, .unset, .unset, .unset, .unset, .unset] [(.long jd), (.long jc), (.long jb), (.long ja), (.int ((sl.toUInt32 >>> ((4 : Int32) &&& 31).toUInt32).toInt32))])) rfl (by rw [hml]; rfl) (argsL := [(.int ((sl.toUInt32 >>> ((4 : Int32) &&& 31).toUInt32).toInt32)), (.long ja), (.long jb), (.long jc), (.long jd)]) (rest := []) (lenOf pd_10 rfl) rfl (by show 2 * 0 + _ ≤ _; exact Nat.le_of_eq rfl) (hb hby at_41) (fun _ _ => ⟨rfl, eh82, (by decide : 4 + 0 ≤ _), (by decide : 10 + 0 ≤ _)⟩)
    dsimp only [Pt.U, Pt.locs, Pt.cells, Pt.slots] at X83 l83 y83 z83 st83 hQ83
    subst l83 y83 z83
    obtain ⟨z83, rfl, Nq83, eh83⟩ := hQ83
    have N83 := Fr.app N82 Nq83
    refine own_of st83 ?_
    show own_go p e below s _ _ _ (T83.setTop (mkF m 44 #[.val (.long ja), .second, .val (.long jb), .second, .val (.long jc), .second, .val (.long jd), .second, .val (.int sl), .val (.ref b1), .val (.int 2), .val (.long z82), .second, .unset, .unset, .unset, .unset, .unset, .unset, .unset] [(.long z83)]))
    refine own_of (fun tt_ => XS.lstore X83.here hx rfl (hb hby at_44) rfl (l' := #[.val (.long ja), .second, .val (.long jb), .second, .val (.long jc), .second, .val (.long jd), .second, .val (.int sl), .val (.ref b1), .val (.int 2), .val (.long z82), .second, .val (.long z83), .second, .unset, .unset, .unset, .unset, .unset]) rfl) ?_
    refine own_of (fun tt_ => XS.iconst X83.here hx rfl (hb hby at_46)) ?_
    obtain ⟨T84, h84, k84, X84, e84, E84, A84, st84⟩ := newP X83 hx hZ (hW 36 _ rfl) eh83 (g := (mkF m 47 #[.val (.long ja), .second, .val (.long jb), .second, .val (.long jc), .second, .val (.long jd), .second, .val (.int sl), .val (.ref b1), .val (.int 2), .val (.long z82), .second, .val (.long z83), .second, .unset, .unset, .unset, .unset, .unset] [(.int 2)])) rfl (hb hby at_47) rfl (by decide) (cap := 2) (by decide) (by decide) (by decide) (by decide)
    obtain ⟨b84, g84⟩ : ∃ z, z = T2.heap.size := ⟨_, rfl⟩
    rw [← g84] at A84 st84
    refine own_of st84 ?_
    have lt84 := own_lt A84.lt
    have sz84 : T2.heap.size ≤ h84.size := E84.1
    have O84 : Old Z n0 h84 := O2.ext E84
    have z84 : n0 ≤ b84 := by have := O2.1 ▸ O2.2.1; omega
    have V84 : Arv Z h84 b84 k84 .long (2 : Int32) [(.long 0), (.long 0)] (.long 0) := (Arv.new A84 (by decide)).pad (pad_rep [] (.long 0) 2)
    show own_go p e below s _ _ _ (T84.setTop (mkF m 49 #[.val (.long ja), .second, .val (.long jb), .second, .val (.long jc), .second, .val (.long jd), .second, .val (.int sl), .val (.ref b1), .val (.int 2), .val (.long z82), .second, .val (.long z83), .second, .unset, .unset, .unset, .unset, .unset] [(.ref b84)]))
    refine own_of (fun tt_ => XS.dup X84.here hx rfl (hb hby at_49) rfl rfl) ?_
    refine own_of (fun tt_ => XS.iconst X84.here hx rfl (hb hby at_50)) ?_
    refine own_of (fun tt_ => XS.lloadN X84.here hx rfl (hb hby at_51) rfl) ?_
    obtain ⟨cl85, Ar85, q85, S85, Ng85, H85, G85⟩ := V84
    obtain ⟨T85, h85, X85, e85, W85, st85⟩ := stJ X84 hx hZ e84 Ar85 (j := (0 : Int32)) (inb_of S85 ⟨by decide, by decide⟩) (g := (mkF m 52 #[.val (.long ja), .second, .val (.long jb), .second, .val (.long jc), .second, .val (.long jd), .second, .val (.int sl), .val (.ref b1), .val (.int 2), .val (.long z82), .second, .val (.long z83), .second, .unset, .unset, .unset, .unset, .unset] [(.long ja), (.int 0), (.ref b84), (.ref b84)])) rfl rfl (hb hby at_52)
    have V85 : Arv Z h85 b84 k84 .long (2 : Int32) [(.long ja), (.long 0)] (.long 0) := Arv.set Ar85 q85 S85 Ng85 H85 G85 rfl W85 0 rfl (Nat.le_of_ble_eq_true rfl)
    refine own_of st85 ?_
    have N85 := Fr.snoc X85 N83 (by omega : n0 ≤ b84)
    have sz85 : h85.size = h84.size := W85.size
    have O85 : Old Z n0 h85 := O84.wr W85 (by omega)
    show own_go p e below s _ _ _ (T85.setTop (mkF m 53 #[.val (.long ja), .second, .val (.long jb), .second, .val (.long jc), .second, .val (.long jd), .second, .val (.int sl), .val (.ref b1), .val (.int 2), .val (.long z82), .second, .val (.long z83), .second, .unset, .unset, .unset, .unset, .unset] [(.ref b84)]))
    refine own_of (fun tt_ => XS.dup X85.here hx rfl (hb hby at_53) rfl rfl) ?_
    refine own_of (fun tt_ => XS.iconst X85.here hx rfl (hb hby at_54)) ?_
    refine own_of (fun tt_ => XS.lloadN X85.here hx rfl (hb hby at_55) rfl) ?_
    obtain ⟨cl86, Ar86, q86, S86, Ng86, H86, G86⟩ := V85
    obtain ⟨T86, h86, X86, e86, W86, st86⟩ := stJ X85 hx hZ e85 Ar86 (j := (1 : Int32)) (inb_of S86 ⟨by decide, by decide⟩) (g := (mkF m 56 #[.val (.long ja), .second, .val (.long jb), .second, .val (.long jc), .second, .val (.long jd), .second, .val (.int sl), .val (.ref b1), .val (.int 2), .val (.long z82), .second, .val (.long z83), .second, .unset, .unset, .unset, .unset, .unset] [(.long jb), (.int 1), (.ref b84), (.ref b84)])) rfl rfl (hb hby at_56)
    have V86 : Arv Z h86 b84 k84 .long (2 : Int32) [(.long ja), (.long jb)] (.long 0) := Arv.set Ar86 q86 S86 Ng86 H86 G86 rfl W86 1 rfl (Nat.le_of_ble_eq_true rfl)
    refine own_of st86 ?_
    have N86 := Fr.snoc X86 N85 (by omega : n0 ≤ b84)
    have sz86 : h86.size = h85.size := W86.size
    have O86 : Old Z n0 h86 := O85.wr W86 (by omega)
    show own_go p e below s _ _ _ (T86.setTop (mkF m 57 #[.val (.long ja), .second, .val (.long jb), .second, .val (.long jc), .second, .val (.long jd), .second, .val (.int sl), .val (.ref b1), .val (.int 2), .val (.long z82), .second, .val (.long z83), .second, .unset, .unset, .unset, .unset, .unset] [(.ref b84)]))
    refine own_of (fun tt_ => XS.astore X86.here hx rfl (hb hby at_57) rfl rfl (l' := #[.val (.long ja), .second, .val (.long jb), .second, .val (.long jc), .second, .val (.long jd), .second, .val (.int sl), .val (.ref b1), .val (.int 2), .val (.long z82), .second, .val (.long z83), .second, .val (.ref b84), .unset, .unset, .unset, .unset]) rfl) ?_
    refine own_of (fun tt_ => XS.iconst X86.here hx rfl (hb hby at_59)) ?_
    obtain ⟨T87, h87, k87, X87, e87, E87, A87, st87⟩ := newP X86 hx hZ (hW 36 _ rfl) e86 (g := (mkF m 60 #[.val (.long ja), .second, .val (.long jb), .second, .val (.long jc), .second, .val (.long jd), .second, .val (.int sl), .val (.ref b1), .val (.int 2), .val (.long z82), .second, .val (.long z83), .second, .val (.ref b84), .unset, .unset, .unset, .unset] [(.int 2)])) rfl (hb hby at_60) rfl (by decide) (cap := 2) (by decide) (by decide) (by decide) (by decide)
    obtain ⟨b87, g87⟩ : ∃ z, z = h86.size := ⟨_, rfl⟩
    rw [← g87] at A87 st87
    refine own_of st87 ?_
    have lt87 := own_lt A87.lt
    have sz87 : h86.size ≤ h87.size := E87.1
    have O87 : Old Z n0 h87 := O86.ext E87
    have z87 : n0 ≤ b87 := by have := O86.1 ▸ O86.2.1; omega
    have V87 : Arv Z h87 b87 k87 .long (2 : Int32) [(.long 0), (.long 0)] (.long 0) := (Arv.new A87 (by decide)).pad (pad_rep [] (.long 0) 2)
    show own_go p e below s _ _ _ (T87.setTop (mkF m 62 #[.val (.long ja), .second, .val (.long jb), .second, .val (.long jc), .second, .val (.long jd), .second, .val (.int sl), .val (.ref b1), .val (.int 2), .val (.long z82), .second, .val (.long z83), .second, .val (.ref b84), .unset, .unset, .unset, .unset] [(.ref b87)]))
    refine own_of (fun tt_ => XS.dup X87.here hx rfl (hb hby at_62) rfl rfl) ?_
    refine own_of (fun tt_ => XS.iconst X87.here hx rfl (hb hby at_63)) ?_
    refine own_of (fun tt_ => XS.lloadN X87.here hx rfl (hb hby at_64) rfl) ?_
    obtain ⟨cl88, Ar88, q88, S88, Ng88, H88, G88⟩ := V87
    obtain ⟨T88, h88, X88, e88, W88, st88⟩ := stJ X87 hx hZ e87 Ar88 (j := (0 : Int32)) (inb_of S88 ⟨by decide, by decide⟩) (g := (mkF m 65 #[.val (.long ja), .second, .val (.long jb), .second, .val (.long jc), .second, .val (.long jd), .second, .val (.int sl), .val (.ref b1), .val (.int 2), .val (.long z82), .second, .val (.long z83), .second, .val (.ref b84), .unset, .unset, .unset, .unset] [(.long ja), (.int 0), (.ref b87), (.ref b87)])) rfl rfl (hb hby at_65)
    have V88 : Arv Z h88 b87 k87 .long (2 : Int32) [(.long ja), (.long 0)] (.long 0) := Arv.set Ar88 q88 S88 Ng88 H88 G88 rfl W88 0 rfl (Nat.le_of_ble_eq_true rfl)
    refine own_of st88 ?_
    have N88 := Fr.snoc X88 N86 (by omega : n0 ≤ b87)
    have sz88 : h88.size = h87.size := W88.size
    have O88 : Old Z n0 h88 := O87.wr W88 (by omega)
    show own_go p e below s _ _ _ (T88.setTop (mkF m 66 #[.val (.long ja), .second, .val (.long jb), .second, .val (.long jc), .second, .val (.long jd), .second, .val (.int sl), .val (.ref b1), .val (.int 2), .val (.long z82), .second, .val (.long z83), .second, .val (.ref b84), .unset, .unset, .unset, .unset] [(.ref b87)]))
    refine own_of (fun tt_ => XS.dup X88.here hx rfl (hb hby at_66) rfl rfl) ?_
    refine own_of (fun tt_ => XS.iconst X88.here hx rfl (hb hby at_67)) ?_
    refine own_of (fun tt_ => XS.lload X88.here hx rfl (hb hby at_68) rfl) ?_
    obtain ⟨cl89, Ar89, q89, S89, Ng89, H89, G89⟩ := V88
    obtain ⟨T89, h89, X89, e89, W89, st89⟩ := stJ X88 hx hZ e88 Ar89 (j := (1 : Int32)) (inb_of S89 ⟨by decide, by decide⟩) (g := (mkF m 70 #[.val (.long ja), .second, .val (.long jb), .second, .val (.long jc), .second, .val (.long jd), .second, .val (.int sl), .val (.ref b1), .val (.int 2), .val (.long z82), .second, .val (.long z83), .second, .val (.ref b84), .unset, .unset, .unset, .unset] [(.long jc), (.int 1), (.ref b87), (.ref b87)])) rfl rfl (hb hby at_70)
    have V89 : Arv Z h89 b87 k87 .long (2 : Int32) [(.long ja), (.long jc)] (.long 0) := Arv.set Ar89 q89 S89 Ng89 H89 G89 rfl W89 1 rfl (Nat.le_of_ble_eq_true rfl)
    refine own_of st89 ?_
    have N89 := Fr.snoc X89 N88 (by omega : n0 ≤ b87)
    have sz89 : h89.size = h88.size := W89.size
    have O89 : Old Z n0 h89 := O88.wr W89 (by omega)
    show own_go p e below s _ _ _ (T89.setTop (mkF m 71 #[.val (.long ja), .second, .val (.long jb), .second, .val (.long jc), .second, .val (.long jd), .second, .val (.int sl), .val (.ref b1), .val (.int 2), .val (.long z82), .second, .val (.long z83), .second, .val (.ref b84), .unset, .unset, .unset, .unset] [(.ref b87)]))
    refine own_of (fun tt_ => XS.astore X89.here hx rfl (hb hby at_71) rfl rfl (l' := #[.val (.long ja), .second, .val (.long jb), .second, .val (.long jc), .second, .val (.long jd), .second, .val (.int sl), .val (.ref b1), .val (.int 2), .val (.long z82), .second, .val (.long z83), .second, .val (.ref b84), .val (.ref b87), .unset, .unset, .unset]) rfl) ?_
    refine own_of (fun tt_ => XS.iconst X89.here hx rfl (hb hby at_73)) ?_
    obtain ⟨T90, h90, k90, X90, e90, E90, A90, st90⟩ := newP X89 hx hZ (hW 36 _ rfl) e89 (g := (mkF m 74 #[.val (.long ja), .second, .val (.long jb), .second, .val (.long jc), .second, .val (.long jd), .second, .val (.int sl), .val (.ref b1), .val (.int 2), .val (.long z82), .second, .val (.long z83), .second, .val (.ref b84), .val (.ref b87), .unset, .unset, .unset] [(.int 2)])) rfl (hb hby at_74) rfl (by decide) (cap := 2) (by decide) (by decide) (by decide) (by decide)
    obtain ⟨b90, g90⟩ : ∃ z, z = h89.size := ⟨_, rfl⟩
    rw [← g90] at A90 st90
    refine own_of st90 ?_
    have lt90 := own_lt A90.lt
    have sz90 : h89.size ≤ h90.size := E90.1
    have O90 : Old Z n0 h90 := O89.ext E90
    have z90 : n0 ≤ b90 := by have := O89.1 ▸ O89.2.1; omega
    have V90 : Arv Z h90 b90 k90 .long (2 : Int32) [(.long 0), (.long 0)] (.long 0) := (Arv.new A90 (by decide)).pad (pad_rep [] (.long 0) 2)
    show own_go p e below s _ _ _ (T90.setTop (mkF m 76 #[.val (.long ja), .second, .val (.long jb), .second, .val (.long jc), .second, .val (.long jd), .second, .val (.int sl), .val (.ref b1), .val (.int 2), .val (.long z82), .second, .val (.long z83), .second, .val (.ref b84), .val (.ref b87), .unset, .unset, .unset] [(.ref b90)]))
    refine own_of (fun tt_ => XS.dup X90.here hx rfl (hb hby at_76) rfl rfl) ?_
    refine own_of (fun tt_ => XS.iconst X90.here hx rfl (hb hby at_77)) ?_
    refine own_of (fun tt_ => XS.lload X90.here hx rfl (hb hby at_78) rfl) ?_
    obtain ⟨cl91, Ar91, q91, S91, Ng91, H91, G91⟩ := V90
    obtain ⟨T91, h91, X91, e91, W91, st91⟩ := stJ X90 hx hZ e90 Ar91 (j := (0 : Int32)) (inb_of S91 ⟨by decide, by decide⟩) (g := (mkF m 80 #[.val (.long ja), .second, .val (.long jb), .second, .val (.long jc), .second, .val (.long jd), .second, .val (.int sl), .val (.ref b1), .val (.int 2), .val (.long z82), .second, .val (.long z83), .second, .val (.ref b84), .val (.ref b87), .unset, .unset, .unset] [(.long jc), (.int 0), (.ref b90), (.ref b90)])) rfl rfl (hb hby at_80)
    have V91 : Arv Z h91 b90 k90 .long (2 : Int32) [(.long jc), (.long 0)] (.long 0) := Arv.set Ar91 q91 S91 Ng91 H91 G91 rfl W91 0 rfl (Nat.le_of_ble_eq_true rfl)
    refine own_of st91 ?_
    have N91 := Fr.snoc X91 N89 (by omega : n0 ≤ b90)
    have sz91 : h91.size = h90.size := W91.size
    have O91 : Old Z n0 h91 := O90.wr W91 (by omega)
    show own_go p e below s _ _ _ (T91.setTop (mkF m 81 #[.val (.long ja), .second, .val (.long jb), .second, .val (.long jc), .second, .val (.long jd), .second, .val (.int sl), .val (.ref b1), .val (.int 2), .val (.long z82), .second, .val (.long z83), .second, .val (.ref b84), .val (.ref b87), .unset, .unset, .unset] [(.ref b90)]))
    refine own_of (fun tt_ => XS.dup X91.here hx rfl (hb hby at_81) rfl rfl) ?_
    refine own_of (fun tt_ => XS.iconst X91.here hx rfl (hb hby at_82)) ?_
    refine own_of (fun tt_ => XS.lload X91.here hx rfl (hb hby at_83) rfl) ?_
    obtain ⟨cl92, Ar92, q92, S92, Ng92, H92, G92⟩ := V91
    obtain ⟨T92, h92, X92, e92, W92, st92⟩ := stJ X91 hx hZ e91 Ar92 (j := (1 : Int32)) (inb_of S92 ⟨by decide, by decide⟩) (g := (mkF m 85 #[.val (.long ja), .second, .val (.long jb), .second, .val (.long jc), .second, .val (.long jd), .second, .val (.int sl), .val (.ref b1), .val (.int 2), .val (.long z82), .second, .val (.long z83), .second, .val (.ref b84), .val (.ref b87), .unset, .unset, .unset] [(.long jd), (.int 1), (.ref b90), (.ref b90)])) rfl rfl (hb hby at_85)
    have V92 : Arv Z h92 b90 k90 .long (2 : Int32) [(.long jc), (.long jd)] (.long 0) := Arv.set Ar92 q92 S92 Ng92 H92 G92 rfl W92 1 rfl (Nat.le_of_ble_eq_true rfl)
    refine own_of st92 ?_
    have N92 := Fr.snoc X92 N91 (by omega : n0 ≤ b90)
    have sz92 : h92.size = h91.size := W92.size
    have O92 : Old Z n0 h92 := O91.wr W92 (by omega)
    show own_go p e below s _ _ _ (T92.setTop (mkF m 86 #[.val (.long ja), .second, .val (.long jb), .second, .val (.long jc), .second, .val (.long jd), .second, .val (.int sl), .val (.ref b1), .val (.int 2), .val (.long z82), .second, .val (.long z83), .second, .val (.ref b84), .val (.ref b87), .unset, .unset, .unset] [(.ref b90)]))
    refine own_of (fun tt_ => XS.astore X92.here hx rfl (hb hby at_86) rfl rfl (l' := #[.val (.long ja), .second, .val (.long jb), .second, .val (.long jc), .second, .val (.long jd), .second, .val (.int sl), .val (.ref b1), .val (.int 2), .val (.long z82), .second, .val (.long z83), .second, .val (.ref b84), .val (.ref b87), .val (.ref b90), .unset, .unset]) rfl) ?_
    refine own_of (fun tt_ => XS.iconst X92.here hx rfl (hb hby at_88)) ?_
    obtain ⟨T93, h93, k93, X93, e93, E93, A93, st93⟩ := newP X92 hx hZ (hW 36 _ rfl) e92 (g := (mkF m 89 #[.val (.long ja), .second, .val (.long jb), .second, .val (.long jc), .second, .val (.long jd), .second, .val (.int sl), .val (.ref b1), .val (.int 2), .val (.long z82), .second, .val (.long z83), .second, .val (.ref b84), .val (.ref b87), .val (.ref b90), .unset, .unset] [(.int 2)])) rfl (hb hby at_89) rfl (by decide) (cap := 2) (by decide) (by decide) (by decide) (by decide)
    obtain ⟨b93, g93⟩ : ∃ z, z = h92.size := ⟨_, rfl⟩
    rw [← g93] at A93 st93
    refine own_of st93 ?_
    have lt93 := own_lt A93.lt
    have sz93 : h92.size ≤ h93.size := E93.1
    have O93 : Old Z n0 h93 := O92.ext E93
    have z93 : n0 ≤ b93 := by have := O92.1 ▸ O92.2.1; omega
    have V93 : Arv Z h93 b93 k93 .long (2 : Int32) [(.long 0), (.long 0)] (.long 0) := (Arv.new A93 (by decide)).pad (pad_rep [] (.long 0) 2)
    show own_go p e below s _ _ _ (T93.setTop (mkF m 91 #[.val (.long ja), .second, .val (.long jb), .second, .val (.long jc), .second, .val (.long jd), .second, .val (.int sl), .val (.ref b1), .val (.int 2), .val (.long z82), .second, .val (.long z83), .second, .val (.ref b84), .val (.ref b87), .val (.ref b90), .unset, .unset] [(.ref b93)]))
    refine own_of (fun tt_ => XS.dup X93.here hx rfl (hb hby at_91) rfl rfl) ?_
    refine own_of (fun tt_ => XS.iconst X93.here hx rfl (hb hby at_92)) ?_
    refine own_of (fun tt_ => XS.lload X93.here hx rfl (hb hby at_93) rfl) ?_
    obtain ⟨cl94, Ar94, q94, S94, Ng94, H94, G94⟩ := V93
    obtain ⟨T94, h94, X94, e94, W94, st94⟩ := stJ X93 hx hZ e93 Ar94 (j := (0 : Int32)) (inb_of S94 ⟨by decide, by decide⟩) (g := (mkF m 95 #[.val (.long ja), .second, .val (.long jb), .second, .val (.long jc), .second, .val (.long jd), .second, .val (.int sl), .val (.ref b1), .val (.int 2), .val (.long z82), .second, .val (.long z83), .second, .val (.ref b84), .val (.ref b87), .val (.ref b90), .unset, .unset] [(.long z82), (.int 0), (.ref b93), (.ref b93)])) rfl rfl (hb hby at_95)
    have V94 : Arv Z h94 b93 k93 .long (2 : Int32) [(.long z82), (.long 0)] (.long 0) := Arv.set Ar94 q94 S94 Ng94 H94 G94 rfl W94 0 rfl (Nat.le_of_ble_eq_true rfl)
    refine own_of st94 ?_
    have N94 := Fr.snoc X94 N92 (by omega : n0 ≤ b93)
    have sz94 : h94.size = h93.size := W94.size
    have O94 : Old Z n0 h94 := O93.wr W94 (by omega)
    show own_go p e below s _ _ _ (T94.setTop (mkF m 96 #[.val (.long ja), .second, .val (.long jb), .second, .val (.long jc), .second, .val (.long jd), .second, .val (.int sl), .val (.ref b1), .val (.int 2), .val (.long z82), .second, .val (.long z83), .second, .val (.ref b84), .val (.ref b87), .val (.ref b90), .unset, .unset] [(.ref b93)]))
    refine own_of (fun tt_ => XS.dup X94.here hx rfl (hb hby at_96) rfl rfl) ?_
    refine own_of (fun tt_ => XS.iconst X94.here hx rfl (hb hby at_97)) ?_
    refine own_of (fun tt_ => XS.lload X94.here hx rfl (hb hby at_98) rfl) ?_
    obtain ⟨cl95, Ar95, q95, S95, Ng95, H95, G95⟩ := V94
    obtain ⟨T95, h95, X95, e95, W95, st95⟩ := stJ X94 hx hZ e94 Ar95 (j := (1 : Int32)) (inb_of S95 ⟨by decide, by decide⟩) (g := (mkF m 100 #[.val (.long ja), .second, .val (.long jb), .second, .val (.long jc), .second, .val (.long jd), .second, .val (.int sl), .val (.ref b1), .val (.int 2), .val (.long z82), .second, .val (.long z83), .second, .val (.ref b84), .val (.ref b87), .val (.ref b90), .unset, .unset] [(.long z83), (.int 1), (.ref b93), (.ref b93)])) rfl rfl (hb hby at_100)
    have V95 : Arv Z h95 b93 k93 .long (2 : Int32) [(.long z82), (.long z83)] (.long 0) := Arv.set Ar95 q95 S95 Ng95 H95 G95 rfl W95 1 rfl (Nat.le_of_ble_eq_true rfl)
    refine own_of st95 ?_
    have N95 := Fr.snoc X95 N94 (by omega : n0 ≤ b93)
    have sz95 : h95.size = h94.size := W95.size
    have O95 : Old Z n0 h95 := O94.wr W95 (by omega)
    show own_go p e below s _ _ _ (T95.setTop (mkF m 101 #[.val (.long ja), .second, .val (.long jb), .second, .val (.long jc), .second, .val (.long jd), .second, .val (.int sl), .val (.ref b1), .val (.int 2), .val (.long z82), .second, .val (.long z83), .second, .val (.ref b84), .val (.ref b87), .val (.ref b90), .unset, .unset] [(.ref b93)]))
    refine own_of (fun tt_ => XS.astore X95.here hx rfl (hb hby at_101) rfl rfl (l' := #[.val (.long ja), .second, .val (.long jb), .second, .val (.long jc), .second, .val (.long jd), .second, .val (.int sl), .val (.ref b1), .val (.int 2), .val (.long z82), .second, .val (.long z83), .second, .val (.ref b84), .val (.ref b87), .val (.ref b90), .val (.ref b93), .unset]) rfl) ?_
    refine own_of (fun tt_ => XS.iload X95.here hx rfl (hb hby at_103) rfl) ?_
    refine own_of (fun tt_ => XS.iconst X95.here hx rfl (hb hby at_105)) ?_
    have hb106_96 : ¬ ((2 : Int32) < (1 : Int32)) := by decide
    refine own_of (fun tt_ => XS.icmpNo X95.here hx rfl (hb hby at_106) rfl (flt hb106_96).1) ?_
    show own_go p e below s _ _ _ (T95.setTop (mkF m 109 #[.val (.long ja), .second, .val (.long jb), .second, .val (.long jc), .second, .val (.long jd), .second, .val (.int sl), .val (.ref b1), .val (.int 2), .val (.long z82), .second, .val (.long z83), .second, .val (.ref b84), .val (.ref b87), .val (.ref b90), .val (.ref b93), .unset] []))
    refine own_of (fun tt_ => XS.aload X95.here hx rfl (hb hby at_109) rfl rfl) ?_
    refine own_of (fun tt_ => XS.aload X95.here hx rfl (hb hby at_111) rfl rfl) ?_
    show own_go p e below s _ _ _ (T95.setTop (mkF m 113 #[.val (.long ja), .second, .val (.long jb), .second, .val (.long jc), .second, .val (.long jd), .second, .val (.int sl), .val (.ref b1), .val (.int 2), .val (.long z82), .second, .val (.long z83), .second, .val (.ref b84), .val (.ref b87), .val (.ref b90), .val (.ref b93), .unset] [(.ref b84), (.ref b1)]))
    have f97 : Exa Z h95 b1 "com/example/grantway/grantway/protocol/PackedSet" := ((((((((((((u2_0.ext E84).wr W85).wr W86).ext E87).wr W88).wr W89).ext E90).wr W91).wr W92).ext E93).wr W94).wr W95)
    have f98 : Fld Z h95 b1 "com/example/grantway/grantway/protocol/PackedSet" "width" "I" (.int 2) := ((((((((((((u2_1.ext E84).other W85 (Or.inl (own_ne (by omega)))).other W86 (Or.inl (own_ne (by omega)))).ext E87).other W88 (Or.inl (own_ne (by omega)))).other W89 (Or.inl (own_ne (by omega)))).ext E90).other W91 (Or.inl (own_ne (by omega)))).other W92 (Or.inl (own_ne (by omega)))).ext E93).other W94 (Or.inl (own_ne (by omega)))).other W95 (Or.inl (own_ne (by omega))))
    have f99 : Fld Z h95 b1 "com/example/grantway/grantway/protocol/PackedSet" "slots" "I" (.int 16) := ((((((((((((u2_2.ext E84).other W85 (Or.inl (own_ne (by omega)))).other W86 (Or.inl (own_ne (by omega)))).ext E87).other W88 (Or.inl (own_ne (by omega)))).other W89 (Or.inl (own_ne (by omega)))).ext E90).other W91 (Or.inl (own_ne (by omega)))).other W92 (Or.inl (own_ne (by omega)))).ext E93).other W94 (Or.inl (own_ne (by omega)))).other W95 (Or.inl (own_ne (by omega))))
    have f100 : Fld Z h95 b1 "com/example/grantway/grantway/protocol/PackedSet" "pages" "[[J" (.ref pa2) := ((((((((((((u2_3.ext E84).other W85 (Or.inl (own_ne (by omega)))).other W86 (Or.inl (own_ne (by omega)))).ext E87).other W88 (Or.inl (own_ne (by omega)))).other W89 (Or.inl (own_ne (by omega)))).ext E90).other W91 (Or.inl (own_ne (by omega)))).other W92 (Or.inl (own_ne (by omega)))).ext E93).other W94 (Or.inl (own_ne (by omega)))).other W95 (Or.inl (own_ne (by omega))))
    have f101 : Fld Z h95 b1 "com/example/grantway/grantway/protocol/PackedSet" "used" "Ljava/util/BitSet;" (.ref bq2) := ((((((((((((u2_4.ext E84).other W85 (Or.inl (own_ne (by omega)))).other W86 (Or.inl (own_ne (by omega)))).ext E87).other W88 (Or.inl (own_ne (by omega)))).other W89 (Or.inl (own_ne (by omega)))).ext E90).other W91 (Or.inl (own_ne (by omega)))).other W92 (Or.inl (own_ne (by omega)))).ext E93).other W94 (Or.inl (own_ne (by omega)))).other W95 (Or.inl (own_ne (by omega))))
    have f102 : Fld Z h95 b1 "com/example/grantway/grantway/protocol/PackedSet" "size" "I" (.int 0) := ((((((((((((u2_5.ext E84).other W85 (Or.inl (own_ne (by omega)))).other W86 (Or.inl (own_ne (by omega)))).ext E87).other W88 (Or.inl (own_ne (by omega)))).other W89 (Or.inl (own_ne (by omega)))).ext E90).other W91 (Or.inl (own_ne (by omega)))).other W92 (Or.inl (own_ne (by omega)))).ext E93).other W94 (Or.inl (own_ne (by omega)))).other W95 (Or.inl (own_ne (by omega))))
    have f103 : Exa Z h95 bq2 "java/util/BitSet" := ((((((((((((u2_6.ext E84).wr W85).wr W86).ext E87).wr W88).wr W89).ext E90).wr W91).wr W92).ext E93).wr W94).wr W95)
    have f104 : Fld Z h95 bq2 "java/util/BitSet" "wordsInUse" "I" (.int 0) := ((((((((((((u2_7.ext E84).other W85 (Or.inl (own_ne (by omega)))).other W86 (Or.inl (own_ne (by omega)))).ext E87).other W88 (Or.inl (own_ne (by omega)))).other W89 (Or.inl (own_ne (by omega)))).ext E90).other W91 (Or.inl (own_ne (by omega)))).other W92 (Or.inl (own_ne (by omega)))).ext E93).other W94 (Or.inl (own_ne (by omega)))).other W95 (Or.inl (own_ne (by omega))))
    have f105 : Fld Z h95 bq2 "java/util/BitSet" "words" "[J" (.ref wa2) := ((((((((((((u2_8.ext E84).other W85 (Or.inl (own_ne (by omega)))).other W86 (Or.inl (own_ne (by omega)))).ext E87).other W88 (Or.inl (own_ne (by omega)))).other W89 (Or.inl (own_ne (by omega)))).ext E90).other W91 (Or.inl (own_ne (by omega)))).other W92 (Or.inl (own_ne (by omega)))).ext E93).other W94 (Or.inl (own_ne (by omega)))).other W95 (Or.inl (own_ne (by omega))))
    have f106 : Arv Z h95 wa2 kw2 .long (1 : Int32) [(.long 0)] (.long 0) := ((((((((((((u2_9.ext E84).other W85 (own_ne (by omega))).other W86 (own_ne (by omega))).ext E87).other W88 (own_ne (by omega))).other W89 (own_ne (by omega))).ext E90).other W91 (own_ne (by omega))).other W92 (own_ne (by omega))).ext E93).other W94 (own_ne (by omega))).other W95 (own_ne (by omega)))
    have f107 : Arv Z h95 pa2 ka2 (.array .long) (1 : Int32) [.null] .null := ((((((((((((u2_10.ext E84).other W85 (own_ne (by omega))).other W86 (own_ne (by omega))).ext E87).other W88 (own_ne (by omega))).other W89 (own_ne (by omega))).ext E90).other W91 (own_ne (by omega))).other W92 (own_ne (by omega))).ext E93).other W94 (own_ne (by omega))).other W95 (own_ne (by omega)))
    have f108 : Arv Z h95 b84 k84 .long (2 : Int32) [(.long ja), (.long jb)] (.long 0) := (((((((((V86.ext E87).other W88 (own_ne (by omega))).other W89 (own_ne (by omega))).ext E90).other W91 (own_ne (by omega))).other W92 (own_ne (by omega))).ext E93).other W94 (own_ne (by omega))).other W95 (own_ne (by omega)))
    obtain ⟨cq109, kq109, q109a, q109b, q109c⟩ := isOf hZ e95 f97
    obtain ⟨_, _, ⟨T109, L109, k109, n109⟩, -, X109, ⟨Lc109, hQ109, l109, y109, z109⟩, st109⟩ := X95.virtualBack hx (y := ym1) (z := ym1) hown (mvT hZ (hW 45 _ rfl)) (mvT hZ (hW 46 _ rfl)) (notFace_of_selects (args := #[]) (mvT hZ (hW 48 _ rfl))) (mvT hZ (hW 48 _ rfl)) (mvT hZ (hW 47 _ rfl)) (by decide) (backOf (W := 0) (rmAdd0 l Z a0 hw [] b1 pa2 bq2 wa2 ka2 kw2 (0 : Int32) b84 k84 ja jb h95 n0 O95 S_ad ⟨f97, f98, f99, f100, f101, f102, f103, f104, f105, f106, f107⟩ f108 ⟨by omega, by omega, by omega, by omega, by omega, by omega, by omega, by omega, by omega, by omega⟩ ⟨by omega, by omega⟩ (by decide) OV2) hZ (hW 49 _ rfl) (hW 2 _ rfl) (by decide) (by decide)) q109a q109c (g := (mkF m 113 #[.val (.long ja), .second, .val (.long jb), .second, .val (.long jc), .second, .val (.long jd), .second, .val (.int sl), .val (.ref b1), .val (.int 2), .val (.long z82), .second, .val (.long z83), .second, .val (.ref b84), .val (.ref b87), .val (.ref b90), .val (.ref b93), .unset] [(.ref b84), (.ref b1)])) rfl (by rw [hml]; rfl) (Steps.refl _) (argsL := [(.ref b84)]) (rest := []) (lenOf pd_7 rfl) rfl (by show 2 * 0 + _ ≤ _; exact Nat.le_of_eq rfl) (hb hby at_113) (fun _ _ => ⟨rfl, e95, (by decide : 8 + 1 ≤ _), (by decide : 18 + 32 ≤ _)⟩)
    dsimp only [Pt.U, Pt.locs, Pt.cells, Pt.slots] at X109 l109 y109 z109 st109 hQ109
    subst l109 y109 z109
    obtain ⟨W109, J0109, J1109, zz109, p109, kp109, rfl, Nq109, Kp109, PQ109, Ad109, ez109, gp109⟩ := hQ109
    have N109 := Fr.app N95 Nq109
    refine own_of (fun tt_ kk_ => st109.trans kk_) ?_
    have sz109 : h95.size ≤ T109.heap.size := Kp109.1
    have O109 : Old Z n0 T109.heap := O95.keep Kp109 (allS (by omega) (allS (by omega) (allS (by omega) (allS (by omega) all0))))
    obtain ⟨u109_0, u109_1, u109_2, u109_3, u109_4, u109_5, u109_6, u109_7, u109_8, u109_9, u109_10, u109_11⟩ := id PQ109
    obtain ⟨ti109, I109⟩ := own_inv_add (own_inv0 (fun _ => (0 : Int64)) (fun _ => (0 : Int64))) Ad109
    show own_go p e below s _ _ _ (T109.setTop (mkF m 116 #[.val (.long ja), .second, .val (.long jb), .second, .val (.long jc), .second, .val (.long jd), .second, .val (.int sl), .val (.ref b1), .val (.int 2), .val (.long z82), .second, .val (.long z83), .second, .val (.ref b84), .val (.ref b87), .val (.ref b90), .val (.ref b93), .unset] []))
    refine own_of (fun tt_ => XS.iload X109.here hx rfl (hb hby at_116) rfl) ?_
    refine own_of (fun tt_ => XS.iconst X109.here hx rfl (hb hby at_118)) ?_
    have hb119_110 : ¬ ((2 : Int32) < (2 : Int32)) := by decide
    refine own_of (fun tt_ => XS.icmpNo X109.here hx rfl (hb hby at_119) rfl (flt hb119_110).1) ?_
    show own_go p e below s _ _ _ (T109.setTop (mkF m 122 #[.val (.long ja), .second, .val (.long jb), .second, .val (.long jc), .second, .val (.long jd), .second, .val (.int sl), .val (.ref b1), .val (.int 2), .val (.long z82), .second, .val (.long z83), .second, .val (.ref b84), .val (.ref b87), .val (.ref b90), .val (.ref b93), .unset] []))
    refine own_of (fun tt_ => XS.aload X109.here hx rfl (hb hby at_122) rfl rfl) ?_
    refine own_of (fun tt_ => XS.aload X109.here hx rfl (hb hby at_124) rfl rfl) ?_
    show own_go p e below s _ _ _ (T109.setTop (mkF m 126 #[.val (.long ja), .second, .val (.long jb), .second, .val (.long jc), .second, .val (.long jd), .second, .val (.int sl), .val (.ref b1), .val (.int 2), .val (.long z82), .second, .val (.long z83), .second, .val (.ref b84), .val (.ref b87), .val (.ref b90), .val (.ref b93), .unset] [(.ref b87), (.ref b1)]))
    have f111 : Arv Z T109.heap b87 k87 .long (2 : Int32) [(.long ja), (.long jc)] (.long 0) := (((((((V89.ext E90).other W91 (own_ne (by omega))).other W92 (own_ne (by omega))).ext E93).other W94 (own_ne (by omega))).other W95 (own_ne (by omega))).keep Kp109 (ninS (own_ne (by omega)) (ninS (own_ne (by omega)) (ninS (own_ne (by omega)) (ninS (own_ne (by omega)) nin0)))))
    obtain ⟨cq112, kq112, q112a, q112b, q112c⟩ := isOf hZ rfl u109_0
    obtain ⟨_, _, ⟨T112, L112, k112, n112⟩, -, X112, ⟨Lc112, hQ112, l112, y112, z112⟩, st112⟩ := X109.virtualBack hx (y := ym1) (z := ym1) hown (mvT hZ (hW 45 _ rfl)) (mvT hZ (hW 46 _ rfl)) (notFace_of_selects (args := #[]) (mvT hZ (hW 48 _ rfl))) (mvT hZ (hW 48 _ rfl)) (mvT hZ (hW 47 _ rfl)) (by decide) (backOf (W := 0) (rmAdd1 l Z a0 hw [] b1 pa2 bq2 wa2 p109 ka2 kw2 kp109 W109 J0109 J1109 zz109 b87 k87 ja jc T109.heap n0 O109 S_ad ⟨u109_0, u109_1, u109_2, u109_3, u109_4, u109_5, u109_6, u109_7, u109_8, u109_9, u109_10, u109_11⟩ f111 ⟨by omega, by omega, by omega, by omega, by omega, by omega, by omega, by omega, by omega, by omega, by omega, by omega, by omega, by omega, by omega⟩ ⟨by omega, by omega, by omega⟩ (by rcases ez109 with rfl | rfl <;> decide) (own_inv_free I109 (by simp) (own_hash_s _ _))) hZ (hW 49 _ rfl) (hW 2 _ rfl) (by decide) (by decide)) q112a q112c (g := (mkF m 126 #[.val (.long ja), .second, .val (.long jb), .second, .val (.long jc), .second, .val (.long jd), .second, .val (.int sl), .val (.ref b1), .val (.int 2), .val (.long z82), .second, .val (.long z83), .second, .val (.ref b84), .val (.ref b87), .val (.ref b90), .val (.ref b93), .unset] [(.ref b87), (.ref b1)])) rfl (by rw [hml]; rfl) (Steps.refl _) (argsL := [(.ref b87)]) (rest := []) (lenOf pd_7 rfl) rfl (by show 2 * 0 + _ ≤ _; exact Nat.le_of_eq rfl) (hb hby at_126) (fun _ _ => ⟨rfl, rfl, (by decide : 9 + 0 ≤ _), (by decide : 50 + 0 ≤ _)⟩)
    dsimp only [Pt.U, Pt.locs, Pt.cells, Pt.slots] at X112 l112 y112 z112 st112 hQ112
    subst l112 y112 z112
    obtain ⟨W112, J0112, J1112, zz112, rfl, Nq112, Kp112, PQ112, Ad112, ez112⟩ := hQ112
    have N112 := Fr.app N109 Nq112
    refine own_of (fun tt_ kk_ => st112.trans kk_) ?_
    have sz112 : T109.heap.size ≤ T112.heap.size := Kp112.1
    have O112 : Old Z n0 T112.heap := O109.keep Kp112 (allS (by omega) (allS (by omega) (allS (by omega) (allS (by omega) all0))))
    obtain ⟨u112_0, u112_1, u112_2, u112_3, u112_4, u112_5, u112_6, u112_7, u112_8, u112_9, u112_10, u112_11⟩ := id PQ112
    obtain ⟨ti112, I112⟩ := own_inv_add I109 Ad112
    show own_go p e below s _ _ _ (T112.setTop (mkF m 129 #[.val (.long ja), .second, .val (.long jb), .second, .val (.long jc), .second, .val (.long jd), .second, .val (.int sl), .val (.ref b1), .val (.int 2), .val (.long z82), .second, .val (.long z83), .second, .val (.ref b84), .val (.ref b87), .val (.ref b90), .val (.ref b93), .unset] []))
    refine own_of (fun tt_ => XS.iload X112.here hx rfl (hb hby at_129) rfl) ?_
    refine own_of (fun tt_ => XS.iconst X112.here hx rfl (hb hby at_131)) ?_
    have hb132_113 : (2 : Int32) < (3 : Int32) := by decide
    refine own_of (fun tt_ => XS.icmpYes X112.here hx rfl (pc0 := 132) (pc' := 142) rfl (hb hby at_132) rfl (tlt hb132_113).1 (by decide) (by decide)) ?_
    show own_go p e below s _ _ _ (T112.setTop (mkF m 142 #[.val (.long ja), .second, .val (.long jb), .second, .val (.long jc), .second, .val (.long jd), .second, .val (.int sl), .val (.ref b1), .val (.int 2), .val (.long z82), .second, .val (.long z83), .second, .val (.ref b84), .val (.ref b87), .val (.ref b90), .val (.ref b93), .unset] []))
    refine own_of (fun tt_ => XS.iload X112.here hx rfl (hb hby at_142) rfl) ?_
    refine own_of (fun tt_ => XS.iconst X112.here hx rfl (hb hby at_144)) ?_
    have hb145_114 : ¬ ((2 : Int32) < (1 : Int32)) := by decide
    refine own_of (fun tt_ => XS.icmpNo X112.here hx rfl (hb hby at_145) rfl (flt hb145_114).1) ?_
    show own_go p e below s _ _ _ (T112.setTop (mkF m 148 #[.val (.long ja), .second, .val (.long jb), .second, .val (.long jc), .second, .val (.long jd), .second, .val (.int sl), .val (.ref b1), .val (.int 2), .val (.long z82), .second, .val (.long z83), .second, .val (.ref b84), .val (.ref b87), .val (.ref b90), .val (.ref b93), .unset] []))
    refine own_of (fun tt_ => XS.lload X112.here hx rfl (hb hby at_148) rfl) ?_
    refine own_of (fun tt_ => XS.lloadN X112.here hx rfl (hb hby at_150) rfl) ?_
    refine own_of (fun tt_ => XS.lcmp X112.here hx rfl (hb hby at_151) rfl) ?_
    show own_go p e below s _ _ _ (T112.setTop (mkF m 152 #[.val (.long ja), .second, .val (.long jb), .second, .val (.long jc), .second, .val (.long jd), .second, .val (.int sl), .val (.ref b1), .val (.int 2), .val (.long z82), .second, .val (.long z83), .second, .val (.ref b84), .val (.ref b87), .val (.ref b90), .val (.ref b93), .unset] [(.int (lcmpW z82 ja))]))
    by_cases hb152_115 : (lcmpW z82 ja) = (0 : Int32)
    · refine own_of (fun tt_ => XS.ifNo X112.here hx rfl (hb hby at_152) rfl ((if0 _ _).trans (teq hb152_115).2)) ?_
      show own_go p e below s _ _ _ (T112.setTop (mkF m 155 #[.val (.long ja), .second, .val (.long jb), .second, .val (.long jc), .second, .val (.long jd), .second, .val (.int sl), .val (.ref b1), .val (.int 2), .val (.long z82), .second, .val (.long z83), .second, .val (.ref b84), .val (.ref b87), .val (.ref b90), .val (.ref b93), .unset] []))
      refine own_of (fun tt_ => XS.lload X112.here hx rfl (hb hby at_155) rfl) ?_
      refine own_of (fun tt_ => XS.lloadN X112.here hx rfl (hb hby at_157) rfl) ?_
      refine own_of (fun tt_ => XS.lcmp X112.here hx rfl (hb hby at_158) rfl) ?_
      show own_go p e below s _ _ _ (T112.setTop (mkF m 159 #[.val (.long ja), .second, .val (.long jb), .second, .val (.long jc), .second, .val (.long jd), .second, .val (.int sl), .val (.ref b1), .val (.int 2), .val (.long z82), .second, .val (.long z83), .second, .val (.ref b84), .val (.ref b87), .val (.ref b90), .val (.ref b93), .unset] [(.int (lcmpW z83 jb))]))
      by_cases hb159_116 : (lcmpW z83 jb) = (0 : Int32)
      · refine own_of (fun tt_ => XS.ifYes X112.here hx rfl (pc0 := 159) (pc' := 205) rfl (hb hby at_159) rfl ((if0 _ _).trans (teq hb159_116).1) (by decide) (by decide)) ?_
        show own_go p e below s _ _ _ (T112.setTop (mkF m 205 #[.val (.long ja), .second, .val (.long jb), .second, .val (.long jc), .second, .val (.long jd), .second, .val (.int sl), .val (.ref b1), .val (.int 2), .val (.long z82), .second, .val (.long z83), .second, .val (.ref b84), .val (.ref b87), .val (.ref b90), .val (.ref b93), .unset] []))
        refine own_of (fun tt_ => XS.iconst X112.here hx rfl (hb hby at_205)) ?_
        refine own_of (fun tt_ => XS.goto X112.here hx rfl (pc0 := 206) (pc' := 210) rfl (hb hby at_206) (by decide) (by decide)) ?_
        refine own_of (fun tt_ => XS.istore X112.here hx rfl (hb hby at_210) rfl (l' := #[.val (.long ja), .second, .val (.long jb), .second, .val (.long jc), .second, .val (.long jd), .second, .val (.int sl), .val (.ref b1), .val (.int 2), .val (.long z82), .second, .val (.long z83), .second, .val (.ref b84), .val (.ref b87), .val (.ref b90), .val (.ref b93), .val (.int 1)]) rfl) ?_
        refine own_of (fun tt_ => XS.aload X112.here hx rfl (hb hby at_212) rfl rfl) ?_
        refine own_of (fun tt_ => XS.aload X112.here hx rfl (hb hby at_214) rfl rfl) ?_
        show own_go p e below s _ _ _ (T112.setTop (mkF m 216 #[.val (.long ja), .second, .val (.long jb), .second, .val (.long jc), .second, .val (.long jd), .second, .val (.int sl), .val (.ref b1), .val (.int 2), .val (.long z82), .second, .val (.long z83), .second, .val (.ref b84), .val (.ref b87), .val (.ref b90), .val (.ref b93), .val (.int 1)] [(.ref b93), (.ref b1)]))
        have f117 : Arv Z T112.heap b93 k93 .long (2 : Int32) [(.long z82), (.long z83)] (.long 0) := ((V95.keep Kp109 (ninS (own_ne (by omega)) (ninS (own_ne (by omega)) (ninS (own_ne (by omega)) (ninS (own_ne (by omega)) nin0))))).keep Kp112 (ninS (own_ne (by omega)) (ninS (own_ne (by omega)) (ninS (own_ne (by omega)) (ninS (own_ne (by omega)) nin0)))))
        obtain ⟨cq118, kq118, q118a, q118b, q118c⟩ := isOf hZ rfl u112_0
        obtain ⟨_, _, ⟨T118, L118, k118, n118⟩, -, X118, ⟨Lc118, hQ118, l118, y118, z118⟩, st118⟩ := X112.virtualBack hx (y := ym0) (z := ym0) hown (mvT hZ (hW 113 _ rfl)) (mvT hZ (hW 114 _ rfl)) (notFace_of_selects (args := #[]) (mvT hZ (hW 116 _ rfl))) (mvT hZ (hW 116 _ rfl)) (mvT hZ (hW 115 _ rfl)) (by decide) (backOf (W := 0) (rmCon1 l Z a0 hw [] b1 pa2 bq2 wa2 p109 ka2 kw2 kp109 W112 J0112 J1112 zz112 b93 k93 z82 z83 T112.heap n0 O112 S_ad ⟨u112_0, u112_1, u112_2, u112_3, u112_4, u112_5, u112_6, u112_7, u112_8, u112_9, u112_10, u112_11⟩ f117 (own_inv_free I112 (by simp) (own_hash_s _ _))) hZ (hW 117 _ rfl) (hW 2 _ rfl) (by decide) (by decide)) q118a q118c (g := (mkF m 216 #[.val (.long ja), .second, .val (.long jb), .second, .val (.long jc), .second, .val (.long jd), .second, .val (.int sl), .val (.ref b1), .val (.int 2), .val (.long z82), .second, .val (.long z83), .second, .val (.ref b84), .val (.ref b87), .val (.ref b90), .val (.ref b93), .val (.int 1)] [(.ref b93), (.ref b1)])) rfl (by rw [hml]; rfl) (Steps.refl _) (argsL := [(.ref b93)]) (rest := []) (lenOf pd_11 rfl) rfl (by show 2 * 0 + _ ≤ _; exact Nat.le_of_eq rfl) (hb hby at_216) (fun _ _ => ⟨rfl, rfl, (by decide : 9 + 0 ≤ _), (by decide : 50 + 0 ≤ _)⟩)
        dsimp only [Pt.U, Pt.locs, Pt.cells, Pt.slots] at X118 l118 y118 z118 st118 hQ118
        subst l118 y118 z118
        obtain ⟨r118, rfl, Nq118, eh118, sr118, fr118⟩ := hQ118
        have N118 := Fr.app N112 Nq118
        refine own_of (fun tt_ kk_ => st118.trans kk_) ?_
        show own_go p e below s _ _ _ (T118.setTop (mkF m 219 #[.val (.long ja), .second, .val (.long jb), .second, .val (.long jc), .second, .val (.long jd), .second, .val (.int sl), .val (.ref b1), .val (.int 2), .val (.long z82), .second, .val (.long z83), .second, .val (.ref b84), .val (.ref b87), .val (.ref b90), .val (.ref b93), .val (.int 1)] [(.int (own_bit W112 r118))]))
        refine own_of (fun tt_ => XS.iload X118.here hx rfl (hb hby at_219) rfl) ?_
        have hb221_119 : (own_bit W112 r118) = (1 : Int32) := (own_bit01 _ _).resolve_left ((own_inv_has I112 sr118 fr118).mpr (Or.inl (Or.inr ⟨(lw_eq _ _).mp hb152_115, (lw_eq _ _).mp hb159_116⟩)))
        refine own_of (fun tt_ => XS.icmpNo X118.here hx rfl (hb hby at_221) rfl (teq hb221_119).2) ?_
        show own_go p e below s _ _ _ (T118.setTop (mkF m 224 #[.val (.long ja), .second, .val (.long jb), .second, .val (.long jc), .second, .val (.long jd), .second, .val (.int sl), .val (.ref b1), .val (.int 2), .val (.long z82), .second, .val (.long z83), .second, .val (.ref b84), .val (.ref b87), .val (.ref b90), .val (.ref b93), .val (.int 1)] []))
        refine own_of (fun tt_ => XS.iconst X118.here hx rfl (hb hby at_224)) ?_
        refine own_of (fun tt_ => XS.goto X118.here hx rfl (pc0 := 225) (pc' := 229) rfl (hb hby at_225) (by decide) (by decide)) ?_
        show own_go p e below s _ _ _ (T118.setTop (mkF m 229 #[.val (.long ja), .second, .val (.long jb), .second, .val (.long jc), .second, .val (.long jd), .second, .val (.int sl), .val (.ref b1), .val (.int 2), .val (.long z82), .second, .val (.long z83), .second, .val (.ref b84), .val (.ref b87), .val (.ref b90), .val (.ref b93), .val (.int 1)] [(.int 1)]))
        refine own_ret X118 hx hlk Bd.returns rfl (Or.inl ⟨rfl, by simp, _, rfl⟩) (hb hby at_229) (by decide) (by decide) ?_
        rw [eh118]
        exact ⟨rfl, N118⟩
      · refine own_of (fun tt_ => XS.ifNo X112.here hx rfl (hb hby at_159) rfl ((if0 _ _).trans (feq hb159_116).1)) ?_
        show own_go p e below s _ _ _ (T112.setTop (mkF m 162 #[.val (.long ja), .second, .val (.long jb), .second, .val (.long jc), .second, .val (.long jd), .second, .val (.int sl), .val (.ref b1), .val (.int 2), .val (.long z82), .second, .val (.long z83), .second, .val (.ref b84), .val (.ref b87), .val (.ref b90), .val (.ref b93), .unset] []))
        refine own_of (fun tt_ => XS.iload X112.here hx rfl (hb hby at_162) rfl) ?_
        refine own_of (fun tt_ => XS.iconst X112.here hx rfl (hb hby at_164)) ?_
        have hb165_120 : ¬ ((2 : Int32) < (2 : Int32)) := by decide
        refine own_of (fun tt_ => XS.icmpNo X112.here hx rfl (hb hby at_165) rfl (flt hb165_120).1) ?_
        show own_go p e below s _ _ _ (T112.setTop (mkF m 168 #[.val (.long ja), .second, .val (.long jb), .second, .val (.long jc), .second, .val (.long jd), .second, .val (.int sl), .val (.ref b1), .val (.int 2), .val (.long z82), .second, .val (.long z83), .second, .val (.ref b84), .val (.ref b87), .val (.ref b90), .val (.ref b93), .unset] []))
        refine own_of (fun tt_ => XS.lload X112.here hx rfl (hb hby at_168) rfl) ?_
        refine own_of (fun tt_ => XS.lloadN X112.here hx rfl (hb hby at_170) rfl) ?_
        refine own_of (fun tt_ => XS.lcmp X112.here hx rfl (hb hby at_171) rfl) ?_
        show own_go p e below s _ _ _ (T112.setTop (mkF m 172 #[.val (.long ja), .second, .val (.long jb), .second, .val (.long jc), .second, .val (.long jd), .second, .val (.int sl), .val (.ref b1), .val (.int 2), .val (.long z82), .second, .val (.long z83), .second, .val (.ref b84), .val (.ref b87), .val (.ref b90), .val (.ref b93), .unset] [(.int (lcmpW z82 ja))]))
        by_cases hb172_121 : (lcmpW z82 ja) = (0 : Int32)
        · refine own_of (fun tt_ => XS.ifNo X112.here hx rfl (hb hby at_172) rfl ((if0 _ _).trans (teq hb172_121).2)) ?_
          show own_go p e below s _ _ _ (T112.setTop (mkF m 175 #[.val (.long ja), .second, .val (.long jb), .second, .val (.long jc), .second, .val (.long jd), .second, .val (.int sl), .val (.ref b1), .val (.int 2), .val (.long z82), .second, .val (.long z83), .second, .val (.ref b84), .val (.ref b87), .val (.ref b90), .val (.ref b93), .unset] []))
          refine own_of (fun tt_ => XS.lload X112.here hx rfl (hb hby at_175) rfl) ?_
          refine own_of (fun tt_ => XS.lload X112.here hx rfl (hb hby at_177) rfl) ?_
          refine own_of (fun tt_ => XS.lcmp X112.here hx rfl (hb hby at_179) rfl) ?_
          show own_go p e below s _ _ _ (T112.setTop (mkF m 180 #[.val (.long ja), .second, .val (.long jb), .second, .val (.long jc), .second, .val (.long jd), .second, .val (.int sl), .val (.ref b1), .val (.int 2), .val (.long z82), .second, .val (.long z83), .second, .val (.ref b84), .val (.ref b87), .val (.ref b90), .val (.ref b93), .unset] [(.int (lcmpW z83 jc))]))
          by_cases hb180_122 : (lcmpW z83 jc) = (0 : Int32)
          · refine own_of (fun tt_ => XS.ifYes X112.here hx rfl (pc0 := 180) (pc' := 205) rfl (hb hby at_180) rfl ((if0 _ _).trans (teq hb180_122).1) (by decide) (by decide)) ?_
            show own_go p e below s _ _ _ (T112.setTop (mkF m 205 #[.val (.long ja), .second, .val (.long jb), .second, .val (.long jc), .second, .val (.long jd), .second, .val (.int sl), .val (.ref b1), .val (.int 2), .val (.long z82), .second, .val (.long z83), .second, .val (.ref b84), .val (.ref b87), .val (.ref b90), .val (.ref b93), .unset] []))
            refine own_of (fun tt_ => XS.iconst X112.here hx rfl (hb hby at_205)) ?_
            refine own_of (fun tt_ => XS.goto X112.here hx rfl (pc0 := 206) (pc' := 210) rfl (hb hby at_206) (by decide) (by decide)) ?_
            refine own_of (fun tt_ => XS.istore X112.here hx rfl (hb hby at_210) rfl (l' := #[.val (.long ja), .second, .val (.long jb), .second, .val (.long jc), .second, .val (.long jd), .second, .val (.int sl), .val (.ref b1), .val (.int 2), .val (.long z82), .second, .val (.long z83), .second, .val (.ref b84), .val (.ref b87), .val (.ref b90), .val (.ref b93), .val (.int 1)]) rfl) ?_
            refine own_of (fun tt_ => XS.aload X112.here hx rfl (hb hby at_212) rfl rfl) ?_
            refine own_of (fun tt_ => XS.aload X112.here hx rfl (hb hby at_214) rfl rfl) ?_
            show own_go p e below s _ _ _ (T112.setTop (mkF m 216 #[.val (.long ja), .second, .val (.long jb), .second, .val (.long jc), .second, .val (.long jd), .second, .val (.int sl), .val (.ref b1), .val (.int 2), .val (.long z82), .second, .val (.long z83), .second, .val (.ref b84), .val (.ref b87), .val (.ref b90), .val (.ref b93), .val (.int 1)] [(.ref b93), (.ref b1)]))
            have f123 : Arv Z T112.heap b93 k93 .long (2 : Int32) [(.long z82), (.long z83)] (.long 0) := ((V95.keep Kp109 (ninS (own_ne (by omega)) (ninS (own_ne (by omega)) (ninS (own_ne (by omega)) (ninS (own_ne (by omega)) nin0))))).keep Kp112 (ninS (own_ne (by omega)) (ninS (own_ne (by omega)) (ninS (own_ne (by omega)) (ninS (own_ne (by omega)) nin0)))))
            obtain ⟨cq124, kq124, q124a, q124b, q124c⟩ := isOf hZ rfl u112_0
            obtain ⟨_, _, ⟨T124, L124, k124, n124⟩, -, X124, ⟨Lc124, hQ124, l124, y124, z124⟩, st124⟩ := X112.virtualBack hx (y := ym0) (z := ym0) hown (mvT hZ (hW 113 _ rfl)) (mvT hZ (hW 114 _ rfl)) (notFace_of_selects (args := #[]) (mvT hZ (hW 116 _ rfl))) (mvT hZ (hW 116 _ rfl)) (mvT hZ (hW 115 _ rfl)) (by decide) (backOf (W := 0) (rmCon1 l Z a0 hw [] b1 pa2 bq2 wa2 p109 ka2 kw2 kp109 W112 J0112 J1112 zz112 b93 k93 z82 z83 T112.heap n0 O112 S_ad ⟨u112_0, u112_1, u112_2, u112_3, u112_4, u112_5, u112_6, u112_7, u112_8, u112_9, u112_10, u112_11⟩ f123 (own_inv_free I112 (by simp) (own_hash_s _ _))) hZ (hW 117 _ rfl) (hW 2 _ rfl) (by decide) (by decide)) q124a q124c (g := (mkF m 216 #[.val (.long ja), .second, .val (.long jb), .second, .val (.long jc), .second, .val (.long jd), .second, .val (.int sl), .val (.ref b1), .val (.int 2), .val (.long z82), .second, .val (.long z83), .second, .val (.ref b84), .val (.ref b87), .val (.ref b90), .val (.ref b93), .val (.int 1)] [(.ref b93), (.ref b1)])) rfl (by rw [hml]; rfl) (Steps.refl _) (argsL := [(.ref b93)]) (rest := []) (lenOf pd_11 rfl) rfl (by show 2 * 0 + _ ≤ _; exact Nat.le_of_eq rfl) (hb hby at_216) (fun _ _ => ⟨rfl, rfl, (by decide : 9 + 0 ≤ _), (by decide : 50 + 0 ≤ _)⟩)
            dsimp only [Pt.U, Pt.locs, Pt.cells, Pt.slots] at X124 l124 y124 z124 st124 hQ124
            subst l124 y124 z124
            obtain ⟨r124, rfl, Nq124, eh124, sr124, fr124⟩ := hQ124
            have N124 := Fr.app N112 Nq124
            refine own_of (fun tt_ kk_ => st124.trans kk_) ?_
            show own_go p e below s _ _ _ (T124.setTop (mkF m 219 #[.val (.long ja), .second, .val (.long jb), .second, .val (.long jc), .second, .val (.long jd), .second, .val (.int sl), .val (.ref b1), .val (.int 2), .val (.long z82), .second, .val (.long z83), .second, .val (.ref b84), .val (.ref b87), .val (.ref b90), .val (.ref b93), .val (.int 1)] [(.int (own_bit W112 r124))]))
            refine own_of (fun tt_ => XS.iload X124.here hx rfl (hb hby at_219) rfl) ?_
            have hb221_125 : (own_bit W112 r124) = (1 : Int32) := (own_bit01 _ _).resolve_left ((own_inv_has I112 sr124 fr124).mpr (Or.inr ⟨(lw_eq _ _).mp hb172_121, (lw_eq _ _).mp hb180_122⟩))
            refine own_of (fun tt_ => XS.icmpNo X124.here hx rfl (hb hby at_221) rfl (teq hb221_125).2) ?_
            show own_go p e below s _ _ _ (T124.setTop (mkF m 224 #[.val (.long ja), .second, .val (.long jb), .second, .val (.long jc), .second, .val (.long jd), .second, .val (.int sl), .val (.ref b1), .val (.int 2), .val (.long z82), .second, .val (.long z83), .second, .val (.ref b84), .val (.ref b87), .val (.ref b90), .val (.ref b93), .val (.int 1)] []))
            refine own_of (fun tt_ => XS.iconst X124.here hx rfl (hb hby at_224)) ?_
            refine own_of (fun tt_ => XS.goto X124.here hx rfl (pc0 := 225) (pc' := 229) rfl (hb hby at_225) (by decide) (by decide)) ?_
            show own_go p e below s _ _ _ (T124.setTop (mkF m 229 #[.val (.long ja), .second, .val (.long jb), .second, .val (.long jc), .second, .val (.long jd), .second, .val (.int sl), .val (.ref b1), .val (.int 2), .val (.long z82), .second, .val (.long z83), .second, .val (.ref b84), .val (.ref b87), .val (.ref b90), .val (.ref b93), .val (.int 1)] [(.int 1)]))
            refine own_ret X124 hx hlk Bd.returns rfl (Or.inl ⟨rfl, by simp, _, rfl⟩) (hb hby at_229) (by decide) (by decide) ?_
            rw [eh124]
            exact ⟨rfl, N124⟩
          · refine own_of (fun tt_ => XS.ifNo X112.here hx rfl (hb hby at_180) rfl ((if0 _ _).trans (feq hb180_122).1)) ?_
            show own_go p e below s _ _ _ (T112.setTop (mkF m 183 #[.val (.long ja), .second, .val (.long jb), .second, .val (.long jc), .second, .val (.long jd), .second, .val (.int sl), .val (.ref b1), .val (.int 2), .val (.long z82), .second, .val (.long z83), .second, .val (.ref b84), .val (.ref b87), .val (.ref b90), .val (.ref b93), .unset] []))
            refine own_of (fun tt_ => XS.iload X112.here hx rfl (hb hby at_183) rfl) ?_
            refine own_of (fun tt_ => XS.iconst X112.here hx rfl (hb hby at_185)) ?_
            have hb186_126 : (2 : Int32) < (3 : Int32) := by decide
            refine own_of (fun tt_ => XS.icmpYes X112.here hx rfl (pc0 := 186) (pc' := 209) rfl (hb hby at_186) rfl (tlt hb186_126).1 (by decide) (by decide)) ?_
            show own_go p e below s _ _ _ (T112.setTop (mkF m 209 #[.val (.long ja), .second, .val (.long jb), .second, .val (.long jc), .second, .val (.long jd), .second, .val (.int sl), .val (.ref b1), .val (.int 2), .val (.long z82), .second, .val (.long z83), .second, .val (.ref b84), .val (.ref b87), .val (.ref b90), .val (.ref b93), .unset] []))
            refine own_of (fun tt_ => XS.iconst X112.here hx rfl (hb hby at_209)) ?_
            refine own_of (fun tt_ => XS.istore X112.here hx rfl (hb hby at_210) rfl (l' := #[.val (.long ja), .second, .val (.long jb), .second, .val (.long jc), .second, .val (.long jd), .second, .val (.int sl), .val (.ref b1), .val (.int 2), .val (.long z82), .second, .val (.long z83), .second, .val (.ref b84), .val (.ref b87), .val (.ref b90), .val (.ref b93), .val (.int 0)]) rfl) ?_
            refine own_of (fun tt_ => XS.aload X112.here hx rfl (hb hby at_212) rfl rfl) ?_
            refine own_of (fun tt_ => XS.aload X112.here hx rfl (hb hby at_214) rfl rfl) ?_
            show own_go p e below s _ _ _ (T112.setTop (mkF m 216 #[.val (.long ja), .second, .val (.long jb), .second, .val (.long jc), .second, .val (.long jd), .second, .val (.int sl), .val (.ref b1), .val (.int 2), .val (.long z82), .second, .val (.long z83), .second, .val (.ref b84), .val (.ref b87), .val (.ref b90), .val (.ref b93), .val (.int 0)] [(.ref b93), (.ref b1)]))
            have f127 : Arv Z T112.heap b93 k93 .long (2 : Int32) [(.long z82), (.long z83)] (.long 0) := ((V95.keep Kp109 (ninS (own_ne (by omega)) (ninS (own_ne (by omega)) (ninS (own_ne (by omega)) (ninS (own_ne (by omega)) nin0))))).keep Kp112 (ninS (own_ne (by omega)) (ninS (own_ne (by omega)) (ninS (own_ne (by omega)) (ninS (own_ne (by omega)) nin0)))))
            obtain ⟨cq128, kq128, q128a, q128b, q128c⟩ := isOf hZ rfl u112_0
            obtain ⟨_, _, ⟨T128, L128, k128, n128⟩, -, X128, ⟨Lc128, hQ128, l128, y128, z128⟩, st128⟩ := X112.virtualBack hx (y := ym0) (z := ym0) hown (mvT hZ (hW 113 _ rfl)) (mvT hZ (hW 114 _ rfl)) (notFace_of_selects (args := #[]) (mvT hZ (hW 116 _ rfl))) (mvT hZ (hW 116 _ rfl)) (mvT hZ (hW 115 _ rfl)) (by decide) (backOf (W := 0) (rmCon1 l Z a0 hw [] b1 pa2 bq2 wa2 p109 ka2 kw2 kp109 W112 J0112 J1112 zz112 b93 k93 z82 z83 T112.heap n0 O112 S_ad ⟨u112_0, u112_1, u112_2, u112_3, u112_4, u112_5, u112_6, u112_7, u112_8, u112_9, u112_10, u112_11⟩ f127 (own_inv_free I112 (by simp) (own_hash_s _ _))) hZ (hW 117 _ rfl) (hW 2 _ rfl) (by decide) (by decide)) q128a q128c (g := (mkF m 216 #[.val (.long ja), .second, .val (.long jb), .second, .val (.long jc), .second, .val (.long jd), .second, .val (.int sl), .val (.ref b1), .val (.int 2), .val (.long z82), .second, .val (.long z83), .second, .val (.ref b84), .val (.ref b87), .val (.ref b90), .val (.ref b93), .val (.int 0)] [(.ref b93), (.ref b1)])) rfl (by rw [hml]; rfl) (Steps.refl _) (argsL := [(.ref b93)]) (rest := []) (lenOf pd_11 rfl) rfl (by show 2 * 0 + _ ≤ _; exact Nat.le_of_eq rfl) (hb hby at_216) (fun _ _ => ⟨rfl, rfl, (by decide : 9 + 0 ≤ _), (by decide : 50 + 0 ≤ _)⟩)
            dsimp only [Pt.U, Pt.locs, Pt.cells, Pt.slots] at X128 l128 y128 z128 st128 hQ128
            subst l128 y128 z128
            obtain ⟨r128, rfl, Nq128, eh128, sr128, fr128⟩ := hQ128
            have N128 := Fr.app N112 Nq128
            refine own_of (fun tt_ kk_ => st128.trans kk_) ?_
            show own_go p e below s _ _ _ (T128.setTop (mkF m 219 #[.val (.long ja), .second, .val (.long jb), .second, .val (.long jc), .second, .val (.long jd), .second, .val (.int sl), .val (.ref b1), .val (.int 2), .val (.long z82), .second, .val (.long z83), .second, .val (.ref b84), .val (.ref b87), .val (.ref b90), .val (.ref b93), .val (.int 0)] [(.int (own_bit W112 r128))]))
            refine own_of (fun tt_ => XS.iload X128.here hx rfl (hb hby at_219) rfl) ?_
            have hb221_129 : (own_bit W112 r128) = (0 : Int32) := Classical.byContradiction fun q => (fun s => Or.elim s (fun s => Or.elim s (fun f => f) (fun q => hb159_116 ((lw_eq _ _).mpr q.2))) (fun q => hb180_122 ((lw_eq _ _).mpr q.2))) ((own_inv_has I112 sr128 fr128).mp q)
            refine own_of (fun tt_ => XS.icmpNo X128.here hx rfl (hb hby at_221) rfl (teq hb221_129).2) ?_
            show own_go p e below s _ _ _ (T128.setTop (mkF m 224 #[.val (.long ja), .second, .val (.long jb), .second, .val (.long jc), .second, .val (.long jd), .second, .val (.int sl), .val (.ref b1), .val (.int 2), .val (.long z82), .second, .val (.long z83), .second, .val (.ref b84), .val (.ref b87), .val (.ref b90), .val (.ref b93), .val (.int 0)] []))
            refine own_of (fun tt_ => XS.iconst X128.here hx rfl (hb hby at_224)) ?_
            refine own_of (fun tt_ => XS.goto X128.here hx rfl (pc0 := 225) (pc' := 229) rfl (hb hby at_225) (by decide) (by decide)) ?_
            show own_go p e below s _ _ _ (T128.setTop (mkF m 229 #[.val (.long ja), .second, .val (.long jb), .second, .val (.long jc), .second, .val (.long jd), .second, .val (.int sl), .val (.ref b1), .val (.int 2), .val (.long z82), .second, .val (.long z83), .second, .val (.ref b84), .val (.ref b87), .val (.ref b90), .val (.ref b93), .val (.int 0)] [(.int 1)]))
            refine own_ret X128 hx hlk Bd.returns rfl (Or.inl ⟨rfl, by simp, _, rfl⟩) (hb hby at_229) (by decide) (by decide) ?_
            rw [eh128]
            exact ⟨rfl, N128⟩
        · refine own_of (fun tt_ => XS.ifYes X112.here hx rfl (pc0 := 172) (pc' := 183) rfl (hb hby at_172) rfl ((if0 _ _).trans (feq hb172_121).2) (by decide) (by decide)) ?_
          show own_go p e below s _ _ _ (T112.setTop (mkF m 183 #[.val (.long ja), .second, .val (.long jb), .second, .val (.long jc), .second, .val (.long jd), .second, .val (.int sl), .val (.ref b1), .val (.int 2), .val (.long z82), .second, .val (.long z83), .second, .val (.ref b84), .val (.ref b87), .val (.ref b90), .val (.ref b93), .unset] []))
          refine own_of (fun tt_ => XS.iload X112.here hx rfl (hb hby at_183) rfl) ?_
          refine own_of (fun tt_ => XS.iconst X112.here hx rfl (hb hby at_185)) ?_
          have hb186_130 : (2 : Int32) < (3 : Int32) := by decide
          refine own_of (fun tt_ => XS.icmpYes X112.here hx rfl (pc0 := 186) (pc' := 209) rfl (hb hby at_186) rfl (tlt hb186_130).1 (by decide) (by decide)) ?_
          show own_go p e below s _ _ _ (T112.setTop (mkF m 209 #[.val (.long ja), .second, .val (.long jb), .second, .val (.long jc), .second, .val (.long jd), .second, .val (.int sl), .val (.ref b1), .val (.int 2), .val (.long z82), .second, .val (.long z83), .second, .val (.ref b84), .val (.ref b87), .val (.ref b90), .val (.ref b93), .unset] []))
          refine own_of (fun tt_ => XS.iconst X112.here hx rfl (hb hby at_209)) ?_
          refine own_of (fun tt_ => XS.istore X112.here hx rfl (hb hby at_210) rfl (l' := #[.val (.long ja), .second, .val (.long jb), .second, .val (.long jc), .second, .val (.long jd), .second, .val (.int sl), .val (.ref b1), .val (.int 2), .val (.long z82), .second, .val (.long z83), .second, .val (.ref b84), .val (.ref b87), .val (.ref b90), .val (.ref b93), .val (.int 0)]) rfl) ?_
          refine own_of (fun tt_ => XS.aload X112.here hx rfl (hb hby at_212) rfl rfl) ?_
          refine own_of (fun tt_ => XS.aload X112.here hx rfl (hb hby at_214) rfl rfl) ?_
          show own_go p e below s _ _ _ (T112.setTop (mkF m 216 #[.val (.long ja), .second, .val (.long jb), .second, .val (.long jc), .second, .val (.long jd), .second, .val (.int sl), .val (.ref b1), .val (.int 2), .val (.long z82), .second, .val (.long z83), .second, .val (.ref b84), .val (.ref b87), .val (.ref b90), .val (.ref b93), .val (.int 0)] [(.ref b93), (.ref b1)]))
          have f131 : Arv Z T112.heap b93 k93 .long (2 : Int32) [(.long z82), (.long z83)] (.long 0) := ((V95.keep Kp109 (ninS (own_ne (by omega)) (ninS (own_ne (by omega)) (ninS (own_ne (by omega)) (ninS (own_ne (by omega)) nin0))))).keep Kp112 (ninS (own_ne (by omega)) (ninS (own_ne (by omega)) (ninS (own_ne (by omega)) (ninS (own_ne (by omega)) nin0)))))
          obtain ⟨cq132, kq132, q132a, q132b, q132c⟩ := isOf hZ rfl u112_0
          obtain ⟨_, _, ⟨T132, L132, k132, n132⟩, -, X132, ⟨Lc132, hQ132, l132, y132, z132⟩, st132⟩ := X112.virtualBack hx (y := ym0) (z := ym0) hown (mvT hZ (hW 113 _ rfl)) (mvT hZ (hW 114 _ rfl)) (notFace_of_selects (args := #[]) (mvT hZ (hW 116 _ rfl))) (mvT hZ (hW 116 _ rfl)) (mvT hZ (hW 115 _ rfl)) (by decide) (backOf (W := 0) (rmCon1 l Z a0 hw [] b1 pa2 bq2 wa2 p109 ka2 kw2 kp109 W112 J0112 J1112 zz112 b93 k93 z82 z83 T112.heap n0 O112 S_ad ⟨u112_0, u112_1, u112_2, u112_3, u112_4, u112_5, u112_6, u112_7, u112_8, u112_9, u112_10, u112_11⟩ f131 (own_inv_free I112 (by simp) (own_hash_s _ _))) hZ (hW 117 _ rfl) (hW 2 _ rfl) (by decide) (by decide)) q132a q132c (g := (mkF m 216 #[.val (.long ja), .second, .val (.long jb), .second, .val (.long jc), .second, .val (.long jd), .second, .val (.int sl), .val (.ref b1), .val (.int 2), .val (.long z82), .second, .val (.long z83), .second, .val (.ref b84), .val (.ref b87), .val (.ref b90), .val (.ref b93), .val (.int 0)] [(.ref b93), (.ref b1)])) rfl (by rw [hml]; rfl) (Steps.refl _) (argsL := [(.ref b93)]) (rest := []) (lenOf pd_11 rfl) rfl (by show 2 * 0 + _ ≤ _; exact Nat.le_of_eq rfl) (hb hby at_216) (fun _ _ => ⟨rfl, rfl, (by decide : 9 + 0 ≤ _), (by decide : 50 + 0 ≤ _)⟩)
          dsimp only [Pt.U, Pt.locs, Pt.cells, Pt.slots] at X132 l132 y132 z132 st132 hQ132
          subst l132 y132 z132
          obtain ⟨r132, rfl, Nq132, eh132, sr132, fr132⟩ := hQ132
          have N132 := Fr.app N112 Nq132
          refine own_of (fun tt_ kk_ => st132.trans kk_) ?_
          show own_go p e below s _ _ _ (T132.setTop (mkF m 219 #[.val (.long ja), .second, .val (.long jb), .second, .val (.long jc), .second, .val (.long jd), .second, .val (.int sl), .val (.ref b1), .val (.int 2), .val (.long z82), .second, .val (.long z83), .second, .val (.ref b84), .val (.ref b87), .val (.ref b90), .val (.ref b93), .val (.int 0)] [(.int (own_bit W112 r132))]))
          refine own_of (fun tt_ => XS.iload X132.here hx rfl (hb hby at_219) rfl) ?_
          have hb221_133 : (own_bit W112 r132) = (0 : Int32) := Classical.byContradiction fun q => (fun s => Or.elim s (fun s => Or.elim s (fun f => f) (fun q => hb159_116 ((lw_eq _ _).mpr q.2))) (fun q => hb172_121 ((lw_eq _ _).mpr q.1))) ((own_inv_has I112 sr132 fr132).mp q)
          refine own_of (fun tt_ => XS.icmpNo X132.here hx rfl (hb hby at_221) rfl (teq hb221_133).2) ?_
          show own_go p e below s _ _ _ (T132.setTop (mkF m 224 #[.val (.long ja), .second, .val (.long jb), .second, .val (.long jc), .second, .val (.long jd), .second, .val (.int sl), .val (.ref b1), .val (.int 2), .val (.long z82), .second, .val (.long z83), .second, .val (.ref b84), .val (.ref b87), .val (.ref b90), .val (.ref b93), .val (.int 0)] []))
          refine own_of (fun tt_ => XS.iconst X132.here hx rfl (hb hby at_224)) ?_
          refine own_of (fun tt_ => XS.goto X132.here hx rfl (pc0 := 225) (pc' := 229) rfl (hb hby at_225) (by decide) (by decide)) ?_
          show own_go p e below s _ _ _ (T132.setTop (mkF m 229 #[.val (.long ja), .second, .val (.long jb), .second, .val (.long jc), .second, .val (.long jd), .second, .val (.int sl), .val (.ref b1), .val (.int 2), .val (.long z82), .second, .val (.long z83), .second, .val (.ref b84), .val (.ref b87), .val (.ref b90), .val (.ref b93), .val (.int 0)] [(.int 1)]))
          refine own_ret X132 hx hlk Bd.returns rfl (Or.inl ⟨rfl, by simp, _, rfl⟩) (hb hby at_229) (by decide) (by decide) ?_
          rw [eh132]
          exact ⟨rfl, N132⟩
    · refine own_of (fun tt_ => XS.ifYes X112.here hx rfl (pc0 := 152) (pc' := 162) rfl (hb hby at_152) rfl ((if0 _ _).trans (feq hb152_115).2) (by decide) (by decide)) ?_
      show own_go p e below s _ _ _ (T112.setTop (mkF m 162 #[.val (.long ja), .second, .val (.long jb), .second, .val (.long jc), .second, .val (.long jd), .second, .val (.int sl), .val (.ref b1), .val (.int 2), .val (.long z82), .second, .val (.long z83), .second, .val (.ref b84), .val (.ref b87), .val (.ref b90), .val (.ref b93), .unset] []))
      refine own_of (fun tt_ => XS.iload X112.here hx rfl (hb hby at_162) rfl) ?_
      refine own_of (fun tt_ => XS.iconst X112.here hx rfl (hb hby at_164)) ?_
      have hb165_134 : ¬ ((2 : Int32) < (2 : Int32)) := by decide
      refine own_of (fun tt_ => XS.icmpNo X112.here hx rfl (hb hby at_165) rfl (flt hb165_134).1) ?_
      show own_go p e below s _ _ _ (T112.setTop (mkF m 168 #[.val (.long ja), .second, .val (.long jb), .second, .val (.long jc), .second, .val (.long jd), .second, .val (.int sl), .val (.ref b1), .val (.int 2), .val (.long z82), .second, .val (.long z83), .second, .val (.ref b84), .val (.ref b87), .val (.ref b90), .val (.ref b93), .unset] []))
      refine own_of (fun tt_ => XS.lload X112.here hx rfl (hb hby at_168) rfl) ?_
      refine own_of (fun tt_ => XS.lloadN X112.here hx rfl (hb hby at_170) rfl) ?_
      refine own_of (fun tt_ => XS.lcmp X112.here hx rfl (hb hby at_171) rfl) ?_
      show own_go p e below s _ _ _ (T112.setTop (mkF m 172 #[.val (.long ja), .second, .val (.long jb), .second, .val (.long jc), .second, .val (.long jd), .second, .val (.int sl), .val (.ref b1), .val (.int 2), .val (.long z82), .second, .val (.long z83), .second, .val (.ref b84), .val (.ref b87), .val (.ref b90), .val (.ref b93), .unset] [(.int (lcmpW z82 ja))]))
      by_cases hb172_135 : (lcmpW z82 ja) = (0 : Int32)
      · refine own_of (fun tt_ => XS.ifNo X112.here hx rfl (hb hby at_172) rfl ((if0 _ _).trans (teq hb172_135).2)) ?_
        show own_go p e below s _ _ _ (T112.setTop (mkF m 175 #[.val (.long ja), .second, .val (.long jb), .second, .val (.long jc), .second, .val (.long jd), .second, .val (.int sl), .val (.ref b1), .val (.int 2), .val (.long z82), .second, .val (.long z83), .second, .val (.ref b84), .val (.ref b87), .val (.ref b90), .val (.ref b93), .unset] []))
        refine own_of (fun tt_ => XS.lload X112.here hx rfl (hb hby at_175) rfl) ?_
        refine own_of (fun tt_ => XS.lload X112.here hx rfl (hb hby at_177) rfl) ?_
        refine own_of (fun tt_ => XS.lcmp X112.here hx rfl (hb hby at_179) rfl) ?_
        show own_go p e below s _ _ _ (T112.setTop (mkF m 180 #[.val (.long ja), .second, .val (.long jb), .second, .val (.long jc), .second, .val (.long jd), .second, .val (.int sl), .val (.ref b1), .val (.int 2), .val (.long z82), .second, .val (.long z83), .second, .val (.ref b84), .val (.ref b87), .val (.ref b90), .val (.ref b93), .unset] [(.int (lcmpW z83 jc))]))
        by_cases hb180_136 : (lcmpW z83 jc) = (0 : Int32)
        · refine own_of (fun tt_ => XS.ifYes X112.here hx rfl (pc0 := 180) (pc' := 205) rfl (hb hby at_180) rfl ((if0 _ _).trans (teq hb180_136).1) (by decide) (by decide)) ?_
          show own_go p e below s _ _ _ (T112.setTop (mkF m 205 #[.val (.long ja), .second, .val (.long jb), .second, .val (.long jc), .second, .val (.long jd), .second, .val (.int sl), .val (.ref b1), .val (.int 2), .val (.long z82), .second, .val (.long z83), .second, .val (.ref b84), .val (.ref b87), .val (.ref b90), .val (.ref b93), .unset] []))
          refine own_of (fun tt_ => XS.iconst X112.here hx rfl (hb hby at_205)) ?_
          refine own_of (fun tt_ => XS.goto X112.here hx rfl (pc0 := 206) (pc' := 210) rfl (hb hby at_206) (by decide) (by decide)) ?_
          refine own_of (fun tt_ => XS.istore X112.here hx rfl (hb hby at_210) rfl (l' := #[.val (.long ja), .second, .val (.long jb), .second, .val (.long jc), .second, .val (.long jd), .second, .val (.int sl), .val (.ref b1), .val (.int 2), .val (.long z82), .second, .val (.long z83), .second, .val (.ref b84), .val (.ref b87), .val (.ref b90), .val (.ref b93), .val (.int 1)]) rfl) ?_
          refine own_of (fun tt_ => XS.aload X112.here hx rfl (hb hby at_212) rfl rfl) ?_
          refine own_of (fun tt_ => XS.aload X112.here hx rfl (hb hby at_214) rfl rfl) ?_
          show own_go p e below s _ _ _ (T112.setTop (mkF m 216 #[.val (.long ja), .second, .val (.long jb), .second, .val (.long jc), .second, .val (.long jd), .second, .val (.int sl), .val (.ref b1), .val (.int 2), .val (.long z82), .second, .val (.long z83), .second, .val (.ref b84), .val (.ref b87), .val (.ref b90), .val (.ref b93), .val (.int 1)] [(.ref b93), (.ref b1)]))
          have f137 : Arv Z T112.heap b93 k93 .long (2 : Int32) [(.long z82), (.long z83)] (.long 0) := ((V95.keep Kp109 (ninS (own_ne (by omega)) (ninS (own_ne (by omega)) (ninS (own_ne (by omega)) (ninS (own_ne (by omega)) nin0))))).keep Kp112 (ninS (own_ne (by omega)) (ninS (own_ne (by omega)) (ninS (own_ne (by omega)) (ninS (own_ne (by omega)) nin0)))))
          obtain ⟨cq138, kq138, q138a, q138b, q138c⟩ := isOf hZ rfl u112_0
          obtain ⟨_, _, ⟨T138, L138, k138, n138⟩, -, X138, ⟨Lc138, hQ138, l138, y138, z138⟩, st138⟩ := X112.virtualBack hx (y := ym0) (z := ym0) hown (mvT hZ (hW 113 _ rfl)) (mvT hZ (hW 114 _ rfl)) (notFace_of_selects (args := #[]) (mvT hZ (hW 116 _ rfl))) (mvT hZ (hW 116 _ rfl)) (mvT hZ (hW 115 _ rfl)) (by decide) (backOf (W := 0) (rmCon1 l Z a0 hw [] b1 pa2 bq2 wa2 p109 ka2 kw2 kp109 W112 J0112 J1112 zz112 b93 k93 z82 z83 T112.heap n0 O112 S_ad ⟨u112_0, u112_1, u112_2, u112_3, u112_4, u112_5, u112_6, u112_7, u112_8, u112_9, u112_10, u112_11⟩ f137 (own_inv_free I112 (by simp) (own_hash_s _ _))) hZ (hW 117 _ rfl) (hW 2 _ rfl) (by decide) (by decide)) q138a q138c (g := (mkF m 216 #[.val (.long ja), .second, .val (.long jb), .second, .val (.long jc), .second, .val (.long jd), .second, .val (.int sl), .val (.ref b1), .val (.int 2), .val (.long z82), .second, .val (.long z83), .second, .val (.ref b84), .val (.ref b87), .val (.ref b90), .val (.ref b93), .val (.int 1)] [(.ref b93), (.ref b1)])) rfl (by rw [hml]; rfl) (Steps.refl _) (argsL := [(.ref b93)]) (rest := []) (lenOf pd_11 rfl) rfl (by show 2 * 0 + _ ≤ _; exact Nat.le_of_eq rfl) (hb hby at_216) (fun _ _ => ⟨rfl, rfl, (by decide : 9 + 0 ≤ _), (by decide : 50 + 0 ≤ _)⟩)
          dsimp only [Pt.U, Pt.locs, Pt.cells, Pt.slots] at X138 l138 y138 z138 st138 hQ138
          subst l138 y138 z138
          obtain ⟨r138, rfl, Nq138, eh138, sr138, fr138⟩ := hQ138
          have N138 := Fr.app N112 Nq138
          refine own_of (fun tt_ kk_ => st138.trans kk_) ?_
          show own_go p e below s _ _ _ (T138.setTop (mkF m 219 #[.val (.long ja), .second, .val (.long jb), .second, .val (.long jc), .second, .val (.long jd), .second, .val (.int sl), .val (.ref b1), .val (.int 2), .val (.long z82), .second, .val (.long z83), .second, .val (.ref b84), .val (.ref b87), .val (.ref b90), .val (.ref b93), .val (.int 1)] [(.int (own_bit W112 r138))]))
          refine own_of (fun tt_ => XS.iload X138.here hx rfl (hb hby at_219) rfl) ?_
          have hb221_139 : (own_bit W112 r138) = (1 : Int32) := (own_bit01 _ _).resolve_left ((own_inv_has I112 sr138 fr138).mpr (Or.inr ⟨(lw_eq _ _).mp hb172_135, (lw_eq _ _).mp hb180_136⟩))
          refine own_of (fun tt_ => XS.icmpNo X138.here hx rfl (hb hby at_221) rfl (teq hb221_139).2) ?_
          show own_go p e below s _ _ _ (T138.setTop (mkF m 224 #[.val (.long ja), .second, .val (.long jb), .second, .val (.long jc), .second, .val (.long jd), .second, .val (.int sl), .val (.ref b1), .val (.int 2), .val (.long z82), .second, .val (.long z83), .second, .val (.ref b84), .val (.ref b87), .val (.ref b90), .val (.ref b93), .val (.int 1)] []))
          refine own_of (fun tt_ => XS.iconst X138.here hx rfl (hb hby at_224)) ?_
          refine own_of (fun tt_ => XS.goto X138.here hx rfl (pc0 := 225) (pc' := 229) rfl (hb hby at_225) (by decide) (by decide)) ?_
          show own_go p e below s _ _ _ (T138.setTop (mkF m 229 #[.val (.long ja), .second, .val (.long jb), .second, .val (.long jc), .second, .val (.long jd), .second, .val (.int sl), .val (.ref b1), .val (.int 2), .val (.long z82), .second, .val (.long z83), .second, .val (.ref b84), .val (.ref b87), .val (.ref b90), .val (.ref b93), .val (.int 1)] [(.int 1)]))
          refine own_ret X138 hx hlk Bd.returns rfl (Or.inl ⟨rfl, by simp, _, rfl⟩) (hb hby at_229) (by decide) (by decide) ?_
          rw [eh138]
          exact ⟨rfl, N138⟩
        · refine own_of (fun tt_ => XS.ifNo X112.here hx rfl (hb hby at_180) rfl ((if0 _ _).trans (feq hb180_136).1)) ?_
          show own_go p e below s _ _ _ (T112.setTop (mkF m 183 #[.val (.long ja), .second, .val (.long jb), .second, .val (.long jc), .second, .val (.long jd), .second, .val (.int sl), .val (.ref b1), .val (.int 2), .val (.long z82), .second, .val (.long z83), .second, .val (.ref b84), .val (.ref b87), .val (.ref b90), .val (.ref b93), .unset] []))
          refine own_of (fun tt_ => XS.iload X112.here hx rfl (hb hby at_183) rfl) ?_
          refine own_of (fun tt_ => XS.iconst X112.here hx rfl (hb hby at_185)) ?_
          have hb186_140 : (2 : Int32) < (3 : Int32) := by decide
          refine own_of (fun tt_ => XS.icmpYes X112.here hx rfl (pc0 := 186) (pc' := 209) rfl (hb hby at_186) rfl (tlt hb186_140).1 (by decide) (by decide)) ?_
          show own_go p e below s _ _ _ (T112.setTop (mkF m 209 #[.val (.long ja), .second, .val (.long jb), .second, .val (.long jc), .second, .val (.long jd), .second, .val (.int sl), .val (.ref b1), .val (.int 2), .val (.long z82), .second, .val (.long z83), .second, .val (.ref b84), .val (.ref b87), .val (.ref b90), .val (.ref b93), .unset] []))
          refine own_of (fun tt_ => XS.iconst X112.here hx rfl (hb hby at_209)) ?_
          refine own_of (fun tt_ => XS.istore X112.here hx rfl (hb hby at_210) rfl (l' := #[.val (.long ja), .second, .val (.long jb), .second, .val (.long jc), .second, .val (.long jd), .second, .val (.int sl), .val (.ref b1), .val (.int 2), .val (.long z82), .second, .val (.long z83), .second, .val (.ref b84), .val (.ref b87), .val (.ref b90), .val (.ref b93), .val (.int 0)]) rfl) ?_
          refine own_of (fun tt_ => XS.aload X112.here hx rfl (hb hby at_212) rfl rfl) ?_
          refine own_of (fun tt_ => XS.aload X112.here hx rfl (hb hby at_214) rfl rfl) ?_
          show own_go p e below s _ _ _ (T112.setTop (mkF m 216 #[.val (.long ja), .second, .val (.long jb), .second, .val (.long jc), .second, .val (.long jd), .second, .val (.int sl), .val (.ref b1), .val (.int 2), .val (.long z82), .second, .val (.long z83), .second, .val (.ref b84), .val (.ref b87), .val (.ref b90), .val (.ref b93), .val (.int 0)] [(.ref b93), (.ref b1)]))
          have f141 : Arv Z T112.heap b93 k93 .long (2 : Int32) [(.long z82), (.long z83)] (.long 0) := ((V95.keep Kp109 (ninS (own_ne (by omega)) (ninS (own_ne (by omega)) (ninS (own_ne (by omega)) (ninS (own_ne (by omega)) nin0))))).keep Kp112 (ninS (own_ne (by omega)) (ninS (own_ne (by omega)) (ninS (own_ne (by omega)) (ninS (own_ne (by omega)) nin0)))))
          obtain ⟨cq142, kq142, q142a, q142b, q142c⟩ := isOf hZ rfl u112_0
          obtain ⟨_, _, ⟨T142, L142, k142, n142⟩, -, X142, ⟨Lc142, hQ142, l142, y142, z142⟩, st142⟩ := X112.virtualBack hx (y := ym0) (z := ym0) hown (mvT hZ (hW 113 _ rfl)) (mvT hZ (hW 114 _ rfl)) (notFace_of_selects (args := #[]) (mvT hZ (hW 116 _ rfl))) (mvT hZ (hW 116 _ rfl)) (mvT hZ (hW 115 _ rfl)) (by decide) (backOf (W := 0) (rmCon1 l Z a0 hw [] b1 pa2 bq2 wa2 p109 ka2 kw2 kp109 W112 J0112 J1112 zz112 b93 k93 z82 z83 T112.heap n0 O112 S_ad ⟨u112_0, u112_1, u112_2, u112_3, u112_4, u112_5, u112_6, u112_7, u112_8, u112_9, u112_10, u112_11⟩ f141 (own_inv_free I112 (by simp) (own_hash_s _ _))) hZ (hW 117 _ rfl) (hW 2 _ rfl) (by decide) (by decide)) q142a q142c (g := (mkF m 216 #[.val (.long ja), .second, .val (.long jb), .second, .val (.long jc), .second, .val (.long jd), .second, .val (.int sl), .val (.ref b1), .val (.int 2), .val (.long z82), .second, .val (.long z83), .second, .val (.ref b84), .val (.ref b87), .val (.ref b90), .val (.ref b93), .val (.int 0)] [(.ref b93), (.ref b1)])) rfl (by rw [hml]; rfl) (Steps.refl _) (argsL := [(.ref b93)]) (rest := []) (lenOf pd_11 rfl) rfl (by show 2 * 0 + _ ≤ _; exact Nat.le_of_eq rfl) (hb hby at_216) (fun _ _ => ⟨rfl, rfl, (by decide : 9 + 0 ≤ _), (by decide : 50 + 0 ≤ _)⟩)
          dsimp only [Pt.U, Pt.locs, Pt.cells, Pt.slots] at X142 l142 y142 z142 st142 hQ142
          subst l142 y142 z142
          obtain ⟨r142, rfl, Nq142, eh142, sr142, fr142⟩ := hQ142
          have N142 := Fr.app N112 Nq142
          refine own_of (fun tt_ kk_ => st142.trans kk_) ?_
          show own_go p e below s _ _ _ (T142.setTop (mkF m 219 #[.val (.long ja), .second, .val (.long jb), .second, .val (.long jc), .second, .val (.long jd), .second, .val (.int sl), .val (.ref b1), .val (.int 2), .val (.long z82), .second, .val (.long z83), .second, .val (.ref b84), .val (.ref b87), .val (.ref b90), .val (.ref b93), .val (.int 0)] [(.int (own_bit W112 r142))]))
          refine own_of (fun tt_ => XS.iload X142.here hx rfl (hb hby at_219) rfl) ?_
          have hb221_143 : (own_bit W112 r142) = (0 : Int32) := Classical.byContradiction fun q => (fun s => Or.elim s (fun s => Or.elim s (fun f => f) (fun q => hb152_115 ((lw_eq _ _).mpr q.1))) (fun q => hb180_136 ((lw_eq _ _).mpr q.2))) ((own_inv_has I112 sr142 fr142).mp q)
          refine own_of (fun tt_ => XS.icmpNo X142.here hx rfl (hb hby at_221) rfl (teq hb221_143).2) ?_
          show own_go p e below s _ _ _ (T142.setTop (mkF m 224 #[.val (.long ja), .second, .val (.long jb), .second, .val (.long jc), .second, .val (.long jd), .second, .val (.int sl), .val (.ref b1), .val (.int 2), .val (.long z82), .second, .val (.long z83), .second, .val (.ref b84), .val (.ref b87), .val (.ref b90), .val (.ref b93), .val (.int 0)] []))
          refine own_of (fun tt_ => XS.iconst X142.here hx rfl (hb hby at_224)) ?_
          refine own_of (fun tt_ => XS.goto X142.here hx rfl (pc0 := 225) (pc' := 229) rfl (hb hby at_225) (by decide) (by decide)) ?_
          show own_go p e below s _ _ _ (T142.setTop (mkF m 229 #[.val (.long ja), .second, .val (.long jb), .second, .val (.long jc), .second, .val (.long jd), .second, .val (.int sl), .val (.ref b1), .val (.int 2), .val (.long z82), .second, .val (.long z83), .second, .val (.ref b84), .val (.ref b87), .val (.ref b90), .val (.ref b93), .val (.int 0)] [(.int 1)]))
          refine own_ret X142 hx hlk Bd.returns rfl (Or.inl ⟨rfl, by simp, _, rfl⟩) (hb hby at_229) (by decide) (by decide) ?_
          rw [eh142]
          exact ⟨rfl, N142⟩
      · refine own_of (fun tt_ => XS.ifYes X112.here hx rfl (pc0 := 172) (pc' := 183) rfl (hb hby at_172) rfl ((if0 _ _).trans (feq hb172_135).2) (by decide) (by decide)) ?_
        show own_go p e below s _ _ _ (T112.setTop (mkF m 183 #[.val (.long ja), .second, .val (.long jb), .second, .val (.long jc), .second, .val (.long jd), .second, .val (.int sl), .val (.ref b1), .val (.int 2), .val (.long z82), .second, .val (.long z83), .second, .val (.ref b84), .val (.ref b87), .val (.ref b90), .val (.ref b93), .unset] []))
        refine own_of (fun tt_ => XS.iload X112.here hx rfl (hb hby at_183) rfl) ?_
        refine own_of (fun tt_ => XS.iconst X112.here hx rfl (hb hby at_185)) ?_
        have hb186_144 : (2 : Int32) < (3 : Int32) := by decide
        refine own_of (fun tt_ => XS.icmpYes X112.here hx rfl (pc0 := 186) (pc' := 209) rfl (hb hby at_186) rfl (tlt hb186_144).1 (by decide) (by decide)) ?_
        show own_go p e below s _ _ _ (T112.setTop (mkF m 209 #[.val (.long ja), .second, .val (.long jb), .second, .val (.long jc), .second, .val (.long jd), .second, .val (.int sl), .val (.ref b1), .val (.int 2), .val (.long z82), .second, .val (.long z83), .second, .val (.ref b84), .val (.ref b87), .val (.ref b90), .val (.ref b93), .unset] []))
        refine own_of (fun tt_ => XS.iconst X112.here hx rfl (hb hby at_209)) ?_
        refine own_of (fun tt_ => XS.istore X112.here hx rfl (hb hby at_210) rfl (l' := #[.val (.long ja), .second, .val (.long jb), .second, .val (.long jc), .second, .val (.long jd), .second, .val (.int sl), .val (.ref b1), .val (.int 2), .val (.long z82), .second, .val (.long z83), .second, .val (.ref b84), .val (.ref b87), .val (.ref b90), .val (.ref b93), .val (.int 0)]) rfl) ?_
        refine own_of (fun tt_ => XS.aload X112.here hx rfl (hb hby at_212) rfl rfl) ?_
        refine own_of (fun tt_ => XS.aload X112.here hx rfl (hb hby at_214) rfl rfl) ?_
        show own_go p e below s _ _ _ (T112.setTop (mkF m 216 #[.val (.long ja), .second, .val (.long jb), .second, .val (.long jc), .second, .val (.long jd), .second, .val (.int sl), .val (.ref b1), .val (.int 2), .val (.long z82), .second, .val (.long z83), .second, .val (.ref b84), .val (.ref b87), .val (.ref b90), .val (.ref b93), .val (.int 0)] [(.ref b93), (.ref b1)]))
        have f145 : Arv Z T112.heap b93 k93 .long (2 : Int32) [(.long z82), (.long z83)] (.long 0) := ((V95.keep Kp109 (ninS (own_ne (by omega)) (ninS (own_ne (by omega)) (ninS (own_ne (by omega)) (ninS (own_ne (by omega)) nin0))))).keep Kp112 (ninS (own_ne (by omega)) (ninS (own_ne (by omega)) (ninS (own_ne (by omega)) (ninS (own_ne (by omega)) nin0)))))
        obtain ⟨cq146, kq146, q146a, q146b, q146c⟩ := isOf hZ rfl u112_0
        obtain ⟨_, _, ⟨T146, L146, k146, n146⟩, -, X146, ⟨Lc146, hQ146, l146, y146, z146⟩, st146⟩ := X112.virtualBack hx (y := ym0) (z := ym0) hown (mvT hZ (hW 113 _ rfl)) (mvT hZ (hW 114 _ rfl)) (notFace_of_selects (args := #[]) (mvT hZ (hW 116 _ rfl))) (mvT hZ (hW 116 _ rfl)) (mvT hZ (hW 115 _ rfl)) (by decide) (backOf (W := 0) (rmCon1 l Z a0 hw [] b1 pa2 bq2 wa2 p109 ka2 kw2 kp109 W112 J0112 J1112 zz112 b93 k93 z82 z83 T112.heap n0 O112 S_ad ⟨u112_0, u112_1, u112_2, u112_3, u112_4, u112_5, u112_6, u112_7, u112_8, u112_9, u112_10, u112_11⟩ f145 (own_inv_free I112 (by simp) (own_hash_s _ _))) hZ (hW 117 _ rfl) (hW 2 _ rfl) (by decide) (by decide)) q146a q146c (g := (mkF m 216 #[.val (.long ja), .second, .val (.long jb), .second, .val (.long jc), .second, .val (.long jd), .second, .val (.int sl), .val (.ref b1), .val (.int 2), .val (.long z82), .second, .val (.long z83), .second, .val (.ref b84), .val (.ref b87), .val (.ref b90), .val (.ref b93), .val (.int 0)] [(.ref b93), (.ref b1)])) rfl (by rw [hml]; rfl) (Steps.refl _) (argsL := [(.ref b93)]) (rest := []) (lenOf pd_11 rfl) rfl (by show 2 * 0 + _ ≤ _; exact Nat.le_of_eq rfl) (hb hby at_216) (fun _ _ => ⟨rfl, rfl, (by decide : 9 + 0 ≤ _), (by decide : 50 + 0 ≤ _)⟩)
        dsimp only [Pt.U, Pt.locs, Pt.cells, Pt.slots] at X146 l146 y146 z146 st146 hQ146
        subst l146 y146 z146
        obtain ⟨r146, rfl, Nq146, eh146, sr146, fr146⟩ := hQ146
        have N146 := Fr.app N112 Nq146
        refine own_of (fun tt_ kk_ => st146.trans kk_) ?_
        show own_go p e below s _ _ _ (T146.setTop (mkF m 219 #[.val (.long ja), .second, .val (.long jb), .second, .val (.long jc), .second, .val (.long jd), .second, .val (.int sl), .val (.ref b1), .val (.int 2), .val (.long z82), .second, .val (.long z83), .second, .val (.ref b84), .val (.ref b87), .val (.ref b90), .val (.ref b93), .val (.int 0)] [(.int (own_bit W112 r146))]))
        refine own_of (fun tt_ => XS.iload X146.here hx rfl (hb hby at_219) rfl) ?_
        have hb221_147 : (own_bit W112 r146) = (0 : Int32) := Classical.byContradiction fun q => (fun s => Or.elim s (fun s => Or.elim s (fun f => f) (fun q => hb152_115 ((lw_eq _ _).mpr q.1))) (fun q => hb172_135 ((lw_eq _ _).mpr q.1))) ((own_inv_has I112 sr146 fr146).mp q)
        refine own_of (fun tt_ => XS.icmpNo X146.here hx rfl (hb hby at_221) rfl (teq hb221_147).2) ?_
        show own_go p e below s _ _ _ (T146.setTop (mkF m 224 #[.val (.long ja), .second, .val (.long jb), .second, .val (.long jc), .second, .val (.long jd), .second, .val (.int sl), .val (.ref b1), .val (.int 2), .val (.long z82), .second, .val (.long z83), .second, .val (.ref b84), .val (.ref b87), .val (.ref b90), .val (.ref b93), .val (.int 0)] []))
        refine own_of (fun tt_ => XS.iconst X146.here hx rfl (hb hby at_224)) ?_
        refine own_of (fun tt_ => XS.goto X146.here hx rfl (pc0 := 225) (pc' := 229) rfl (hb hby at_225) (by decide) (by decide)) ?_
        show own_go p e below s _ _ _ (T146.setTop (mkF m 229 #[.val (.long ja), .second, .val (.long jb), .second, .val (.long jc), .second, .val (.long jd), .second, .val (.int sl), .val (.ref b1), .val (.int 2), .val (.long z82), .second, .val (.long z83), .second, .val (.ref b84), .val (.ref b87), .val (.ref b90), .val (.ref b93), .val (.int 0)] [(.int 1)]))
        refine own_ret X146 hx hlk Bd.returns rfl (Or.inl ⟨rfl, by simp, _, rfl⟩) (hb hby at_229) (by decide) (by decide) ?_
        rw [eh146]
        exact ⟨rfl, N146⟩
  · rw [hk]
    show own_go p e below s _ _ _ (T2.setTop (mkF m 14 #[.val (.long ja), .second, .val (.long jb), .second, .val (.long jc), .second, .val (.long jd), .second, .val (.int sl), .val (.ref b1), .unset, .unset, .unset, .unset, .unset, .unset, .unset, .unset, .unset, .unset] [(.int 3)]))
    refine own_of (fun tt_ => XS.istore X2.here hx rfl (hb hby at_14) rfl (l' := #[.val (.long ja), .second, .val (.long jb), .second, .val (.long jc), .second, .val (.long jd), .second, .val (.int sl), .val (.ref b1), .val (.int 3), .unset, .unset, .unset, .unset, .unset, .unset, .unset, .unset, .unset]) rfl) ?_
    refine own_of (fun tt_ => XS.iload X2.here hx rfl (hb hby at_16) rfl) ?_
    refine own_of (fun tt_ => XS.iconst X2.here hx rfl (hb hby at_18)) ?_
    refine own_of (fun tt_ => XS.iushr X2.here hx rfl (hb hby at_19) rfl) ?_
    show own_go p e below s _ _ _ (T2.setTop (mkF m 20 #[.val (.long ja), .second, .val (.long jb), .second, .val (.long jc), .second, .val (.long jd), .second, .val (.int sl), .val (.ref b1), .val (.int 3), .unset, .unset, .unset, .unset, .unset, .unset, .unset, .unset, .unset] [(.int ((sl.toUInt32 >>> ((2 : Int32) &&& 31).toUInt32).toInt32))]))
    refine own_of (fun tt_ => XS.lloadN X2.here hx rfl (hb hby at_20) rfl) ?_
    refine own_of (fun tt_ => XS.lloadN X2.here hx rfl (hb hby at_21) rfl) ?_
    refine own_of (fun tt_ => XS.lload X2.here hx rfl (hb hby at_22) rfl) ?_
    refine own_of (fun tt_ => XS.lload X2.here hx rfl (hb hby at_24) rfl) ?_
    show own_go p e below s _ _ _ (T2.setTop (mkF m 26 #[.val (.long ja), .second, .val (.long jb), .second, .val (.long jc), .second, .val (.long jd), .second, .val (.int sl), .val (.ref b1), .val (.int 3), .unset, .unset, .unset, .unset, .unset, .unset, .unset, .unset, .unset] [(.long jd), (.long jc), (.long jb), (.long ja), (.int ((sl.toUInt32 >>> ((2 : Int32) &&& 31).toUInt32).toInt32))]))
    obtain ⟨_, _, ⟨T148, L148, k148, n148⟩, -, X148, ⟨Lc148, hQ148, l148, y148, z148⟩, st148⟩ := Jvm.LawKit.callS X2 hx (y := ym5) hown (mvT hZ (hW 41 _ rfl)) (mvT hZ (hW 42 _ rfl)) (mvT hZ (hW 43 _ rfl)) (mvT hZ (hW 44 _ rfl)) (by decide) (backOf (W := 0) (rmPick l Z a0 hw [] ((sl.toUInt32 >>> ((2 : Int32) &&& 31).toUInt32).toInt32) ja jb jc jd T2.heap n0 O2) hZ (hW 44 _ rfl) (hW 43 _ rfl) (by decide) (by decide)) (g := (mkF m 26 #[.val (.long ja), .second, .val (.long jb), .second, .val (.long jc), .second, .val (.long jd), .second, .val (.int sl), .val (.ref b1), .val (.int 3), .unset, .unset, .unset, .unset, .unset, .unset, .unset, .unset, .unset] [(.long jd), (.long jc), (.long jb), (.long ja), (.int ((sl.toUInt32 >>> ((2 : Int32) &&& 31).toUInt32).toInt32))])) rfl (by rw [hml]; rfl) (argsL := [(.int ((sl.toUInt32 >>> ((2 : Int32) &&& 31).toUInt32).toInt32)), (.long ja), (.long jb), (.long jc), (.long jd)]) (rest := []) (lenOf pd_10 rfl) rfl (by show 2 * 0 + _ ≤ _; exact Nat.le_of_eq rfl) (hb hby at_26) (fun _ _ => ⟨rfl, rfl, (by decide : 4 + 0 ≤ _), (by decide : 10 + 0 ≤ _)⟩)
    dsimp only [Pt.U, Pt.locs, Pt.cells, Pt.slots] at X148 l148 y148 z148 st148 hQ148
    subst l148 y148 z148
    obtain ⟨z148, rfl, Nq148, eh148⟩ := hQ148
    have N148 := Fr.app N2 Nq148
    refine own_of st148 ?_
    show own_go p e below s _ _ _ (T148.setTop (mkF m 29 #[.val (.long ja), .second, .val (.long jb), .second, .val (.long jc), .second, .val (.long jd), .second, .val (.int sl), .val (.ref b1), .val (.int 3), .unset, .unset, .unset, .unset, .unset, .unset, .unset, .unset, .unset] [(.long z148)]))
    refine own_of (fun tt_ => XS.lstore X148.here hx rfl (hb hby at_29) rfl (l' := #[.val (.long ja), .second, .val (.long jb), .second, .val (.long jc), .second, .val (.long jd), .second, .val (.int sl), .val (.ref b1), .val (.int 3), .val (.long z148), .second, .unset, .unset, .unset, .unset, .unset, .unset, .unset]) rfl) ?_
    refine own_of (fun tt_ => XS.iload X148.here hx rfl (hb hby at_31) rfl) ?_
    refine own_of (fun tt_ => XS.iconst X148.here hx rfl (hb hby at_33)) ?_
    refine own_of (fun tt_ => XS.iushr X148.here hx rfl (hb hby at_34) rfl) ?_
    show own_go p e below s _ _ _ (T148.setTop (mkF m 35 #[.val (.long ja), .second, .val (.long jb), .second, .val (.long jc), .second, .val (.long jd), .second, .val (.int sl), .val (.ref b1), .val (.int 3), .val (.long z148), .second, .unset, .unset, .unset, .unset, .unset, .unset, .unset] [(.int ((sl.toUInt32 >>> ((4 : Int32) &&& 31).toUInt32).toInt32))]))
    refine own_of (fun tt_ => XS.lloadN X148.here hx rfl (hb hby at_35) rfl) ?_
    refine own_of (fun tt_ => XS.lloadN X148.here hx rfl (hb hby at_36) rfl) ?_
    refine own_of (fun tt_ => XS.lload X148.here hx rfl (hb hby at_37) rfl) ?_
    refine own_of (fun tt_ => XS.lload X148.here hx rfl (hb hby at_39) rfl) ?_
    show own_go p e below s _ _ _ (T148.setTop (mkF m 41 #[.val (.long ja), .second, .val (.long jb), .second, .val (.long jc), .second, .val (.long jd), .second, .val (.int sl), .val (.ref b1), .val (.int 3), .val (.long z148), .second, .unset, .unset, .unset, .unset, .unset, .unset, .unset] [(.long jd), (.long jc), (.long jb), (.long ja), (.int ((sl.toUInt32 >>> ((4 : Int32) &&& 31).toUInt32).toInt32))]))
    obtain ⟨_, _, ⟨T149, L149, k149, n149⟩, -, X149, ⟨Lc149, hQ149, l149, y149, z149⟩, st149⟩ := Jvm.LawKit.callS X148 hx (y := ym5) hown (mvT hZ (hW 41 _ rfl)) (mvT hZ (hW 42 _ rfl)) (mvT hZ (hW 43 _ rfl)) (mvT hZ (hW 44 _ rfl)) (by decide) (backOf (W := 0) (rmPick l Z a0 hw [] ((sl.toUInt32 >>> ((4 : Int32) &&& 31).toUInt32).toInt32) ja jb jc jd T2.heap n0 O2) hZ (hW 44 _ rfl) (hW 43 _ rfl) (by decide) (by decide)) (g := (mkF m 41 #[.val (.long ja), .second, .val (.long jb), .second, .val (.long jc), .second, .val (.long jd), .second, .val (.int sl), .val (.ref b1), .val (.int 3), .val (.long z148), .second, .unset, .unset, .unset, .unset, .unset, .unset, .unset] [(.long jd), (.long jc), (.long jb), (.long ja), (.int ((sl.toUInt32 >>> ((4 : Int32) &&& 31).toUInt32).toInt32))])) rfl (by rw [hml]; rfl) (argsL := [(.int ((sl.toUInt32 >>> ((4 : Int32) &&& 31).toUInt32).toInt32)), (.long ja), (.long jb), (.long jc), (.long jd)]) (rest := []) (lenOf pd_10 rfl) rfl (by show 2 * 0 + _ ≤ _; exact Nat.le_of_eq rfl) (hb hby at_41) (fun _ _ => ⟨rfl, eh148, (by decide : 4 + 0 ≤ _), (by decide : 10 + 0 ≤ _)⟩)
    dsimp only [Pt.U, Pt.locs, Pt.cells, Pt.slots] at X149 l149 y149 z149 st149 hQ149
    subst l149 y149 z149
    obtain ⟨z149, rfl, Nq149, eh149⟩ := hQ149
    have N149 := Fr.app N148 Nq149
    refine own_of st149 ?_
    show own_go p e below s _ _ _ (T149.setTop (mkF m 44 #[.val (.long ja), .second, .val (.long jb), .second, .val (.long jc), .second, .val (.long jd), .second, .val (.int sl), .val (.ref b1), .val (.int 3), .val (.long z148), .second, .unset, .unset, .unset, .unset, .unset, .unset, .unset] [(.long z149)]))
    refine own_of (fun tt_ => XS.lstore X149.here hx rfl (hb hby at_44) rfl (l' := #[.val (.long ja), .second, .val (.long jb), .second, .val (.long jc), .second, .val (.long jd), .second, .val (.int sl), .val (.ref b1), .val (.int 3), .val (.long z148), .second, .val (.long z149), .second, .unset, .unset, .unset, .unset, .unset]) rfl) ?_
    refine own_of (fun tt_ => XS.iconst X149.here hx rfl (hb hby at_46)) ?_
    obtain ⟨T150, h150, k150, X150, e150, E150, A150, st150⟩ := newP X149 hx hZ (hW 36 _ rfl) eh149 (g := (mkF m 47 #[.val (.long ja), .second, .val (.long jb), .second, .val (.long jc), .second, .val (.long jd), .second, .val (.int sl), .val (.ref b1), .val (.int 3), .val (.long z148), .second, .val (.long z149), .second, .unset, .unset, .unset, .unset, .unset] [(.int 2)])) rfl (hb hby at_47) rfl (by decide) (cap := 2) (by decide) (by decide) (by decide) (by decide)
    obtain ⟨b150, g150⟩ : ∃ z, z = T2.heap.size := ⟨_, rfl⟩
    rw [← g150] at A150 st150
    refine own_of st150 ?_
    have lt150 := own_lt A150.lt
    have sz150 : T2.heap.size ≤ h150.size := E150.1
    have O150 : Old Z n0 h150 := O2.ext E150
    have z150 : n0 ≤ b150 := by have := O2.1 ▸ O2.2.1; omega
    have V150 : Arv Z h150 b150 k150 .long (2 : Int32) [(.long 0), (.long 0)] (.long 0) := (Arv.new A150 (by decide)).pad (pad_rep [] (.long 0) 2)
    show own_go p e below s _ _ _ (T150.setTop (mkF m 49 #[.val (.long ja), .second, .val (.long jb), .second, .val (.long jc), .second, .val (.long jd), .second, .val (.int sl), .val (.ref b1), .val (.int 3), .val (.long z148), .second, .val (.long z149), .second, .unset, .unset, .unset, .unset, .unset] [(.ref b150)]))
    refine own_of (fun tt_ => XS.dup X150.here hx rfl (hb hby at_49) rfl rfl) ?_
    refine own_of (fun tt_ => XS.iconst X150.here hx rfl (hb hby at_50)) ?_
    refine own_of (fun tt_ => XS.lloadN X150.here hx rfl (hb hby at_51) rfl) ?_
    obtain ⟨cl151, Ar151, q151, S151, Ng151, H151, G151⟩ := V150
    obtain ⟨T151, h151, X151, e151, W151, st151⟩ := stJ X150 hx hZ e150 Ar151 (j := (0 : Int32)) (inb_of S151 ⟨by decide, by decide⟩) (g := (mkF m 52 #[.val (.long ja), .second, .val (.long jb), .second, .val (.long jc), .second, .val (.long jd), .second, .val (.int sl), .val (.ref b1), .val (.int 3), .val (.long z148), .second, .val (.long z149), .second, .unset, .unset, .unset, .unset, .unset] [(.long ja), (.int 0), (.ref b150), (.ref b150)])) rfl rfl (hb hby at_52)
    have V151 : Arv Z h151 b150 k150 .long (2 : Int32) [(.long ja), (.long 0)] (.long 0) := Arv.set Ar151 q151 S151 Ng151 H151 G151 rfl W151 0 rfl (Nat.le_of_ble_eq_true rfl)
    refine own_of st151 ?_
    have N151 := Fr.snoc X151 N149 (by omega : n0 ≤ b150)
    have sz151 : h151.size = h150.size := W151.size
    have O151 : Old Z n0 h151 := O150.wr W151 (by omega)
    show own_go p e below s _ _ _ (T151.setTop (mkF m 53 #[.val (.long ja), .second, .val (.long jb), .second, .val (.long jc), .second, .val (.long jd), .second, .val (.int sl), .val (.ref b1), .val (.int 3), .val (.long z148), .second, .val (.long z149), .second, .unset, .unset, .unset, .unset, .unset] [(.ref b150)]))
    refine own_of (fun tt_ => XS.dup X151.here hx rfl (hb hby at_53) rfl rfl) ?_
    refine own_of (fun tt_ => XS.iconst X151.here hx rfl (hb hby at_54)) ?_
    refine own_of (fun tt_ => XS.lloadN X151.here hx rfl (hb hby at_55) rfl) ?_
    obtain ⟨cl152, Ar152, q152, S152, Ng152, H152, G152⟩ := V151
    obtain ⟨T152, h152, X152, e152, W152, st152⟩ := stJ X151 hx hZ e151 Ar152 (j := (1 : Int32)) (inb_of S152 ⟨by decide, by decide⟩) (g := (mkF m 56 #[.val (.long ja), .second, .val (.long jb), .second, .val (.long jc), .second, .val (.long jd), .second, .val (.int sl), .val (.ref b1), .val (.int 3), .val (.long z148), .second, .val (.long z149), .second, .unset, .unset, .unset, .unset, .unset] [(.long jb), (.int 1), (.ref b150), (.ref b150)])) rfl rfl (hb hby at_56)
    have V152 : Arv Z h152 b150 k150 .long (2 : Int32) [(.long ja), (.long jb)] (.long 0) := Arv.set Ar152 q152 S152 Ng152 H152 G152 rfl W152 1 rfl (Nat.le_of_ble_eq_true rfl)
    refine own_of st152 ?_
    have N152 := Fr.snoc X152 N151 (by omega : n0 ≤ b150)
    have sz152 : h152.size = h151.size := W152.size
    have O152 : Old Z n0 h152 := O151.wr W152 (by omega)
    show own_go p e below s _ _ _ (T152.setTop (mkF m 57 #[.val (.long ja), .second, .val (.long jb), .second, .val (.long jc), .second, .val (.long jd), .second, .val (.int sl), .val (.ref b1), .val (.int 3), .val (.long z148), .second, .val (.long z149), .second, .unset, .unset, .unset, .unset, .unset] [(.ref b150)]))
    refine own_of (fun tt_ => XS.astore X152.here hx rfl (hb hby at_57) rfl rfl (l' := #[.val (.long ja), .second, .val (.long jb), .second, .val (.long jc), .second, .val (.long jd), .second, .val (.int sl), .val (.ref b1), .val (.int 3), .val (.long z148), .second, .val (.long z149), .second, .val (.ref b150), .unset, .unset, .unset, .unset]) rfl) ?_
    refine own_of (fun tt_ => XS.iconst X152.here hx rfl (hb hby at_59)) ?_
    obtain ⟨T153, h153, k153, X153, e153, E153, A153, st153⟩ := newP X152 hx hZ (hW 36 _ rfl) e152 (g := (mkF m 60 #[.val (.long ja), .second, .val (.long jb), .second, .val (.long jc), .second, .val (.long jd), .second, .val (.int sl), .val (.ref b1), .val (.int 3), .val (.long z148), .second, .val (.long z149), .second, .val (.ref b150), .unset, .unset, .unset, .unset] [(.int 2)])) rfl (hb hby at_60) rfl (by decide) (cap := 2) (by decide) (by decide) (by decide) (by decide)
    obtain ⟨b153, g153⟩ : ∃ z, z = h152.size := ⟨_, rfl⟩
    rw [← g153] at A153 st153
    refine own_of st153 ?_
    have lt153 := own_lt A153.lt
    have sz153 : h152.size ≤ h153.size := E153.1
    have O153 : Old Z n0 h153 := O152.ext E153
    have z153 : n0 ≤ b153 := by have := O152.1 ▸ O152.2.1; omega
    have V153 : Arv Z h153 b153 k153 .long (2 : Int32) [(.long 0), (.long 0)] (.long 0) := (Arv.new A153 (by decide)).pad (pad_rep [] (.long 0) 2)
    show own_go p e below s _ _ _ (T153.setTop (mkF m 62 #[.val (.long ja), .second, .val (.long jb), .second, .val (.long jc), .second, .val (.long jd), .second, .val (.int sl), .val (.ref b1), .val (.int 3), .val (.long z148), .second, .val (.long z149), .second, .val (.ref b150), .unset, .unset, .unset, .unset] [(.ref b153)]))
    refine own_of (fun tt_ => XS.dup X153.here hx rfl (hb hby at_62) rfl rfl) ?_
    refine own_of (fun tt_ => XS.iconst X153.here hx rfl (hb hby at_63)) ?_
    refine own_of (fun tt_ => XS.lloadN X153.here hx rfl (hb hby at_64) rfl) ?_
    obtain ⟨cl154, Ar154, q154, S154, Ng154, H154, G154⟩ := V153
    obtain ⟨T154, h154, X154, e154, W154, st154⟩ := stJ X153 hx hZ e153 Ar154 (j := (0 : Int32)) (inb_of S154 ⟨by decide, by decide⟩) (g := (mkF m 65 #[.val (.long ja), .second, .val (.long jb), .second, .val (.long jc), .second, .val (.long jd), .second, .val (.int sl), .val (.ref b1), .val (.int 3), .val (.long z148), .second, .val (.long z149), .second, .val (.ref b150), .unset, .unset, .unset, .unset] [(.long ja), (.int 0), (.ref b153), (.ref b153)])) rfl rfl (hb hby at_65)
    have V154 : Arv Z h154 b153 k153 .long (2 : Int32) [(.long ja), (.long 0)] (.long 0) := Arv.set Ar154 q154 S154 Ng154 H154 G154 rfl W154 0 rfl (Nat.le_of_ble_eq_true rfl)
    refine own_of st154 ?_
    have N154 := Fr.snoc X154 N152 (by omega : n0 ≤ b153)
    have sz154 : h154.size = h153.size := W154.size
    have O154 : Old Z n0 h154 := O153.wr W154 (by omega)
    show own_go p e below s _ _ _ (T154.setTop (mkF m 66 #[.val (.long ja), .second, .val (.long jb), .second, .val (.long jc), .second, .val (.long jd), .second, .val (.int sl), .val (.ref b1), .val (.int 3), .val (.long z148), .second, .val (.long z149), .second, .val (.ref b150), .unset, .unset, .unset, .unset] [(.ref b153)]))
    refine own_of (fun tt_ => XS.dup X154.here hx rfl (hb hby at_66) rfl rfl) ?_
    refine own_of (fun tt_ => XS.iconst X154.here hx rfl (hb hby at_67)) ?_
    refine own_of (fun tt_ => XS.lload X154.here hx rfl (hb hby at_68) rfl) ?_
    obtain ⟨cl155, Ar155, q155, S155, Ng155, H155, G155⟩ := V154
    obtain ⟨T155, h155, X155, e155, W155, st155⟩ := stJ X154 hx hZ e154 Ar155 (j := (1 : Int32)) (inb_of S155 ⟨by decide, by decide⟩) (g := (mkF m 70 #[.val (.long ja), .second, .val (.long jb), .second, .val (.long jc), .second, .val (.long jd), .second, .val (.int sl), .val (.ref b1), .val (.int 3), .val (.long z148), .second, .val (.long z149), .second, .val (.ref b150), .unset, .unset, .unset, .unset] [(.long jc), (.int 1), (.ref b153), (.ref b153)])) rfl rfl (hb hby at_70)
    have V155 : Arv Z h155 b153 k153 .long (2 : Int32) [(.long ja), (.long jc)] (.long 0) := Arv.set Ar155 q155 S155 Ng155 H155 G155 rfl W155 1 rfl (Nat.le_of_ble_eq_true rfl)
    refine own_of st155 ?_
    have N155 := Fr.snoc X155 N154 (by omega : n0 ≤ b153)
    have sz155 : h155.size = h154.size := W155.size
    have O155 : Old Z n0 h155 := O154.wr W155 (by omega)
    show own_go p e below s _ _ _ (T155.setTop (mkF m 71 #[.val (.long ja), .second, .val (.long jb), .second, .val (.long jc), .second, .val (.long jd), .second, .val (.int sl), .val (.ref b1), .val (.int 3), .val (.long z148), .second, .val (.long z149), .second, .val (.ref b150), .unset, .unset, .unset, .unset] [(.ref b153)]))
    refine own_of (fun tt_ => XS.astore X155.here hx rfl (hb hby at_71) rfl rfl (l' := #[.val (.long ja), .second, .val (.long jb), .second, .val (.long jc), .second, .val (.long jd), .second, .val (.int sl), .val (.ref b1), .val (.int 3), .val (.long z148), .second, .val (.long z149), .second, .val (.ref b150), .val (.ref b153), .unset, .unset, .unset]) rfl) ?_
    refine own_of (fun tt_ => XS.iconst X155.here hx rfl (hb hby at_73)) ?_
    obtain ⟨T156, h156, k156, X156, e156, E156, A156, st156⟩ := newP X155 hx hZ (hW 36 _ rfl) e155 (g := (mkF m 74 #[.val (.long ja), .second, .val (.long jb), .second, .val (.long jc), .second, .val (.long jd), .second, .val (.int sl), .val (.ref b1), .val (.int 3), .val (.long z148), .second, .val (.long z149), .second, .val (.ref b150), .val (.ref b153), .unset, .unset, .unset] [(.int 2)])) rfl (hb hby at_74) rfl (by decide) (cap := 2) (by decide) (by decide) (by decide) (by decide)
    obtain ⟨b156, g156⟩ : ∃ z, z = h155.size := ⟨_, rfl⟩
    rw [← g156] at A156 st156
    refine own_of st156 ?_
    have lt156 := own_lt A156.lt
    have sz156 : h155.size ≤ h156.size := E156.1
    have O156 : Old Z n0 h156 := O155.ext E156
    have z156 : n0 ≤ b156 := by have := O155.1 ▸ O155.2.1; omega
    have V156 : Arv Z h156 b156 k156 .long (2 : Int32) [(.long 0), (.long 0)] (.long 0) := (Arv.new A156 (by decide)).pad (pad_rep [] (.long 0) 2)
    show own_go p e below s _ _ _ (T156.setTop (mkF m 76 #[.val (.long ja), .second, .val (.long jb), .second, .val (.long jc), .second, .val (.long jd), .second, .val (.int sl), .val (.ref b1), .val (.int 3), .val (.long z148), .second, .val (.long z149), .second, .val (.ref b150), .val (.ref b153), .unset, .unset, .unset] [(.ref b156)]))
    refine own_of (fun tt_ => XS.dup X156.here hx rfl (hb hby at_76) rfl rfl) ?_
    refine own_of (fun tt_ => XS.iconst X156.here hx rfl (hb hby at_77)) ?_
    refine own_of (fun tt_ => XS.lload X156.here hx rfl (hb hby at_78) rfl) ?_
    obtain ⟨cl157, Ar157, q157, S157, Ng157, H157, G157⟩ := V156
    obtain ⟨T157, h157, X157, e157, W157, st157⟩ := stJ X156 hx hZ e156 Ar157 (j := (0 : Int32)) (inb_of S157 ⟨by decide, by decide⟩) (g := (mkF m 80 #[.val (.long ja), .second, .val (.long jb), .second, .val (.long jc), .second, .val (.long jd), .second, .val (.int sl), .val (.ref b1), .val (.int 3), .val (.long z148), .second, .val (.long z149), .second, .val (.ref b150), .val (.ref b153), .unset, .unset, .unset] [(.long jc), (.int 0), (.ref b156), (.ref b156)])) rfl rfl (hb hby at_80)
    have V157 : Arv Z h157 b156 k156 .long (2 : Int32) [(.long jc), (.long 0)] (.long 0) := Arv.set Ar157 q157 S157 Ng157 H157 G157 rfl W157 0 rfl (Nat.le_of_ble_eq_true rfl)
    refine own_of st157 ?_
    have N157 := Fr.snoc X157 N155 (by omega : n0 ≤ b156)
    have sz157 : h157.size = h156.size := W157.size
    have O157 : Old Z n0 h157 := O156.wr W157 (by omega)
    show own_go p e below s _ _ _ (T157.setTop (mkF m 81 #[.val (.long ja), .second, .val (.long jb), .second, .val (.long jc), .second, .val (.long jd), .second, .val (.int sl), .val (.ref b1), .val (.int 3), .val (.long z148), .second, .val (.long z149), .second, .val (.ref b150), .val (.ref b153), .unset, .unset, .unset] [(.ref b156)]))
    refine own_of (fun tt_ => XS.dup X157.here hx rfl (hb hby at_81) rfl rfl) ?_
    refine own_of (fun tt_ => XS.iconst X157.here hx rfl (hb hby at_82)) ?_
    refine own_of (fun tt_ => XS.lload X157.here hx rfl (hb hby at_83) rfl) ?_
    obtain ⟨cl158, Ar158, q158, S158, Ng158, H158, G158⟩ := V157
    obtain ⟨T158, h158, X158, e158, W158, st158⟩ := stJ X157 hx hZ e157 Ar158 (j := (1 : Int32)) (inb_of S158 ⟨by decide, by decide⟩) (g := (mkF m 85 #[.val (.long ja), .second, .val (.long jb), .second, .val (.long jc), .second, .val (.long jd), .second, .val (.int sl), .val (.ref b1), .val (.int 3), .val (.long z148), .second, .val (.long z149), .second, .val (.ref b150), .val (.ref b153), .unset, .unset, .unset] [(.long jd), (.int 1), (.ref b156), (.ref b156)])) rfl rfl (hb hby at_85)
    have V158 : Arv Z h158 b156 k156 .long (2 : Int32) [(.long jc), (.long jd)] (.long 0) := Arv.set Ar158 q158 S158 Ng158 H158 G158 rfl W158 1 rfl (Nat.le_of_ble_eq_true rfl)
    refine own_of st158 ?_
    have N158 := Fr.snoc X158 N157 (by omega : n0 ≤ b156)
    have sz158 : h158.size = h157.size := W158.size
    have O158 : Old Z n0 h158 := O157.wr W158 (by omega)
    show own_go p e below s _ _ _ (T158.setTop (mkF m 86 #[.val (.long ja), .second, .val (.long jb), .second, .val (.long jc), .second, .val (.long jd), .second, .val (.int sl), .val (.ref b1), .val (.int 3), .val (.long z148), .second, .val (.long z149), .second, .val (.ref b150), .val (.ref b153), .unset, .unset, .unset] [(.ref b156)]))
    refine own_of (fun tt_ => XS.astore X158.here hx rfl (hb hby at_86) rfl rfl (l' := #[.val (.long ja), .second, .val (.long jb), .second, .val (.long jc), .second, .val (.long jd), .second, .val (.int sl), .val (.ref b1), .val (.int 3), .val (.long z148), .second, .val (.long z149), .second, .val (.ref b150), .val (.ref b153), .val (.ref b156), .unset, .unset]) rfl) ?_
    refine own_of (fun tt_ => XS.iconst X158.here hx rfl (hb hby at_88)) ?_
    obtain ⟨T159, h159, k159, X159, e159, E159, A159, st159⟩ := newP X158 hx hZ (hW 36 _ rfl) e158 (g := (mkF m 89 #[.val (.long ja), .second, .val (.long jb), .second, .val (.long jc), .second, .val (.long jd), .second, .val (.int sl), .val (.ref b1), .val (.int 3), .val (.long z148), .second, .val (.long z149), .second, .val (.ref b150), .val (.ref b153), .val (.ref b156), .unset, .unset] [(.int 2)])) rfl (hb hby at_89) rfl (by decide) (cap := 2) (by decide) (by decide) (by decide) (by decide)
    obtain ⟨b159, g159⟩ : ∃ z, z = h158.size := ⟨_, rfl⟩
    rw [← g159] at A159 st159
    refine own_of st159 ?_
    have lt159 := own_lt A159.lt
    have sz159 : h158.size ≤ h159.size := E159.1
    have O159 : Old Z n0 h159 := O158.ext E159
    have z159 : n0 ≤ b159 := by have := O158.1 ▸ O158.2.1; omega
    have V159 : Arv Z h159 b159 k159 .long (2 : Int32) [(.long 0), (.long 0)] (.long 0) := (Arv.new A159 (by decide)).pad (pad_rep [] (.long 0) 2)
    show own_go p e below s _ _ _ (T159.setTop (mkF m 91 #[.val (.long ja), .second, .val (.long jb), .second, .val (.long jc), .second, .val (.long jd), .second, .val (.int sl), .val (.ref b1), .val (.int 3), .val (.long z148), .second, .val (.long z149), .second, .val (.ref b150), .val (.ref b153), .val (.ref b156), .unset, .unset] [(.ref b159)]))
    refine own_of (fun tt_ => XS.dup X159.here hx rfl (hb hby at_91) rfl rfl) ?_
    refine own_of (fun tt_ => XS.iconst X159.here hx rfl (hb hby at_92)) ?_
    refine own_of (fun tt_ => XS.lload X159.here hx rfl (hb hby at_93) rfl) ?_
    obtain ⟨cl160, Ar160, q160, S160, Ng160, H160, G160⟩ := V159
    obtain ⟨T160, h160, X160, e160, W160, st160⟩ := stJ X159 hx hZ e159 Ar160 (j := (0 : Int32)) (inb_of S160 ⟨by decide, by decide⟩) (g := (mkF m 95 #[.val (.long ja), .second, .val (.long jb), .second, .val (.long jc), .second, .val (.long jd), .second, .val (.int sl), .val (.ref b1), .val (.int 3), .val (.long z148), .second, .val (.long z149), .second, .val (.ref b150), .val (.ref b153), .val (.ref b156), .unset, .unset] [(.long z148), (.int 0), (.ref b159), (.ref b159)])) rfl rfl (hb hby at_95)
    have V160 : Arv Z h160 b159 k159 .long (2 : Int32) [(.long z148), (.long 0)] (.long 0) := Arv.set Ar160 q160 S160 Ng160 H160 G160 rfl W160 0 rfl (Nat.le_of_ble_eq_true rfl)
    refine own_of st160 ?_
    have N160 := Fr.snoc X160 N158 (by omega : n0 ≤ b159)
    have sz160 : h160.size = h159.size := W160.size
    have O160 : Old Z n0 h160 := O159.wr W160 (by omega)
    show own_go p e below s _ _ _ (T160.setTop (mkF m 96 #[.val (.long ja), .second, .val (.long jb), .second, .val (.long jc), .second, .val (.long jd), .second, .val (.int sl), .val (.ref b1), .val (.int 3), .val (.long z148), .second, .val (.long z149), .second, .val (.ref b150), .val (.ref b153), .val (.ref b156), .unset, .unset] [(.ref b159)]))
    refine own_of (fun tt_ => XS.dup X160.here hx rfl (hb hby at_96) rfl rfl) ?_
    refine own_of (fun tt_ => XS.iconst X160.here hx rfl (hb hby at_97)) ?_
    refine own_of (fun tt_ => XS.lload X160.here hx rfl (hb hby at_98) rfl) ?_
    obtain ⟨cl161, Ar161, q161, S161, Ng161, H161, G161⟩ := V160
    obtain ⟨T161, h161, X161, e161, W161, st161⟩ := stJ X160 hx hZ e160 Ar161 (j := (1 : Int32)) (inb_of S161 ⟨by decide, by decide⟩) (g := (mkF m 100 #[.val (.long ja), .second, .val (.long jb), .second, .val (.long jc), .second, .val (.long jd), .second, .val (.int sl), .val (.ref b1), .val (.int 3), .val (.long z148), .second, .val (.long z149), .second, .val (.ref b150), .val (.ref b153), .val (.ref b156), .unset, .unset] [(.long z149), (.int 1), (.ref b159), (.ref b159)])) rfl rfl (hb hby at_100)
    have V161 : Arv Z h161 b159 k159 .long (2 : Int32) [(.long z148), (.long z149)] (.long 0) := Arv.set Ar161 q161 S161 Ng161 H161 G161 rfl W161 1 rfl (Nat.le_of_ble_eq_true rfl)
    refine own_of st161 ?_
    have N161 := Fr.snoc X161 N160 (by omega : n0 ≤ b159)
    have sz161 : h161.size = h160.size := W161.size
    have O161 : Old Z n0 h161 := O160.wr W161 (by omega)
    show own_go p e below s _ _ _ (T161.setTop (mkF m 101 #[.val (.long ja), .second, .val (.long jb), .second, .val (.long jc), .second, .val (.long jd), .second, .val (.int sl), .val (.ref b1), .val (.int 3), .val (.long z148), .second, .val (.long z149), .second, .val (.ref b150), .val (.ref b153), .val (.ref b156), .unset, .unset] [(.ref b159)]))
    refine own_of (fun tt_ => XS.astore X161.here hx rfl (hb hby at_101) rfl rfl (l' := #[.val (.long ja), .second, .val (.long jb), .second, .val (.long jc), .second, .val (.long jd), .second, .val (.int sl), .val (.ref b1), .val (.int 3), .val (.long z148), .second, .val (.long z149), .second, .val (.ref b150), .val (.ref b153), .val (.ref b156), .val (.ref b159), .unset]) rfl) ?_
    refine own_of (fun tt_ => XS.iload X161.here hx rfl (hb hby at_103) rfl) ?_
    refine own_of (fun tt_ => XS.iconst X161.here hx rfl (hb hby at_105)) ?_
    have hb106_162 : ¬ ((3 : Int32) < (1 : Int32)) := by decide
    refine own_of (fun tt_ => XS.icmpNo X161.here hx rfl (hb hby at_106) rfl (flt hb106_162).1) ?_
    show own_go p e below s _ _ _ (T161.setTop (mkF m 109 #[.val (.long ja), .second, .val (.long jb), .second, .val (.long jc), .second, .val (.long jd), .second, .val (.int sl), .val (.ref b1), .val (.int 3), .val (.long z148), .second, .val (.long z149), .second, .val (.ref b150), .val (.ref b153), .val (.ref b156), .val (.ref b159), .unset] []))
    refine own_of (fun tt_ => XS.aload X161.here hx rfl (hb hby at_109) rfl rfl) ?_
    refine own_of (fun tt_ => XS.aload X161.here hx rfl (hb hby at_111) rfl rfl) ?_
    show own_go p e below s _ _ _ (T161.setTop (mkF m 113 #[.val (.long ja), .second, .val (.long jb), .second, .val (.long jc), .second, .val (.long jd), .second, .val (.int sl), .val (.ref b1), .val (.int 3), .val (.long z148), .second, .val (.long z149), .second, .val (.ref b150), .val (.ref b153), .val (.ref b156), .val (.ref b159), .unset] [(.ref b150), (.ref b1)]))
    have f163 : Exa Z h161 b1 "com/example/grantway/grantway/protocol/PackedSet" := ((((((((((((u2_0.ext E150).wr W151).wr W152).ext E153).wr W154).wr W155).ext E156).wr W157).wr W158).ext E159).wr W160).wr W161)
    have f164 : Fld Z h161 b1 "com/example/grantway/grantway/protocol/PackedSet" "width" "I" (.int 2) := ((((((((((((u2_1.ext E150).other W151 (Or.inl (own_ne (by omega)))).other W152 (Or.inl (own_ne (by omega)))).ext E153).other W154 (Or.inl (own_ne (by omega)))).other W155 (Or.inl (own_ne (by omega)))).ext E156).other W157 (Or.inl (own_ne (by omega)))).other W158 (Or.inl (own_ne (by omega)))).ext E159).other W160 (Or.inl (own_ne (by omega)))).other W161 (Or.inl (own_ne (by omega))))
    have f165 : Fld Z h161 b1 "com/example/grantway/grantway/protocol/PackedSet" "slots" "I" (.int 16) := ((((((((((((u2_2.ext E150).other W151 (Or.inl (own_ne (by omega)))).other W152 (Or.inl (own_ne (by omega)))).ext E153).other W154 (Or.inl (own_ne (by omega)))).other W155 (Or.inl (own_ne (by omega)))).ext E156).other W157 (Or.inl (own_ne (by omega)))).other W158 (Or.inl (own_ne (by omega)))).ext E159).other W160 (Or.inl (own_ne (by omega)))).other W161 (Or.inl (own_ne (by omega))))
    have f166 : Fld Z h161 b1 "com/example/grantway/grantway/protocol/PackedSet" "pages" "[[J" (.ref pa2) := ((((((((((((u2_3.ext E150).other W151 (Or.inl (own_ne (by omega)))).other W152 (Or.inl (own_ne (by omega)))).ext E153).other W154 (Or.inl (own_ne (by omega)))).other W155 (Or.inl (own_ne (by omega)))).ext E156).other W157 (Or.inl (own_ne (by omega)))).other W158 (Or.inl (own_ne (by omega)))).ext E159).other W160 (Or.inl (own_ne (by omega)))).other W161 (Or.inl (own_ne (by omega))))
    have f167 : Fld Z h161 b1 "com/example/grantway/grantway/protocol/PackedSet" "used" "Ljava/util/BitSet;" (.ref bq2) := ((((((((((((u2_4.ext E150).other W151 (Or.inl (own_ne (by omega)))).other W152 (Or.inl (own_ne (by omega)))).ext E153).other W154 (Or.inl (own_ne (by omega)))).other W155 (Or.inl (own_ne (by omega)))).ext E156).other W157 (Or.inl (own_ne (by omega)))).other W158 (Or.inl (own_ne (by omega)))).ext E159).other W160 (Or.inl (own_ne (by omega)))).other W161 (Or.inl (own_ne (by omega))))
    have f168 : Fld Z h161 b1 "com/example/grantway/grantway/protocol/PackedSet" "size" "I" (.int 0) := ((((((((((((u2_5.ext E150).other W151 (Or.inl (own_ne (by omega)))).other W152 (Or.inl (own_ne (by omega)))).ext E153).other W154 (Or.inl (own_ne (by omega)))).other W155 (Or.inl (own_ne (by omega)))).ext E156).other W157 (Or.inl (own_ne (by omega)))).other W158 (Or.inl (own_ne (by omega)))).ext E159).other W160 (Or.inl (own_ne (by omega)))).other W161 (Or.inl (own_ne (by omega))))
    have f169 : Exa Z h161 bq2 "java/util/BitSet" := ((((((((((((u2_6.ext E150).wr W151).wr W152).ext E153).wr W154).wr W155).ext E156).wr W157).wr W158).ext E159).wr W160).wr W161)
    have f170 : Fld Z h161 bq2 "java/util/BitSet" "wordsInUse" "I" (.int 0) := ((((((((((((u2_7.ext E150).other W151 (Or.inl (own_ne (by omega)))).other W152 (Or.inl (own_ne (by omega)))).ext E153).other W154 (Or.inl (own_ne (by omega)))).other W155 (Or.inl (own_ne (by omega)))).ext E156).other W157 (Or.inl (own_ne (by omega)))).other W158 (Or.inl (own_ne (by omega)))).ext E159).other W160 (Or.inl (own_ne (by omega)))).other W161 (Or.inl (own_ne (by omega))))
    have f171 : Fld Z h161 bq2 "java/util/BitSet" "words" "[J" (.ref wa2) := ((((((((((((u2_8.ext E150).other W151 (Or.inl (own_ne (by omega)))).other W152 (Or.inl (own_ne (by omega)))).ext E153).other W154 (Or.inl (own_ne (by omega)))).other W155 (Or.inl (own_ne (by omega)))).ext E156).other W157 (Or.inl (own_ne (by omega)))).other W158 (Or.inl (own_ne (by omega)))).ext E159).other W160 (Or.inl (own_ne (by omega)))).other W161 (Or.inl (own_ne (by omega))))
    have f172 : Arv Z h161 wa2 kw2 .long (1 : Int32) [(.long 0)] (.long 0) := ((((((((((((u2_9.ext E150).other W151 (own_ne (by omega))).other W152 (own_ne (by omega))).ext E153).other W154 (own_ne (by omega))).other W155 (own_ne (by omega))).ext E156).other W157 (own_ne (by omega))).other W158 (own_ne (by omega))).ext E159).other W160 (own_ne (by omega))).other W161 (own_ne (by omega)))
    have f173 : Arv Z h161 pa2 ka2 (.array .long) (1 : Int32) [.null] .null := ((((((((((((u2_10.ext E150).other W151 (own_ne (by omega))).other W152 (own_ne (by omega))).ext E153).other W154 (own_ne (by omega))).other W155 (own_ne (by omega))).ext E156).other W157 (own_ne (by omega))).other W158 (own_ne (by omega))).ext E159).other W160 (own_ne (by omega))).other W161 (own_ne (by omega)))
    have f174 : Arv Z h161 b150 k150 .long (2 : Int32) [(.long ja), (.long jb)] (.long 0) := (((((((((V152.ext E153).other W154 (own_ne (by omega))).other W155 (own_ne (by omega))).ext E156).other W157 (own_ne (by omega))).other W158 (own_ne (by omega))).ext E159).other W160 (own_ne (by omega))).other W161 (own_ne (by omega)))
    obtain ⟨cq175, kq175, q175a, q175b, q175c⟩ := isOf hZ e161 f163
    obtain ⟨_, _, ⟨T175, L175, k175, n175⟩, -, X175, ⟨Lc175, hQ175, l175, y175, z175⟩, st175⟩ := X161.virtualBack hx (y := ym1) (z := ym1) hown (mvT hZ (hW 45 _ rfl)) (mvT hZ (hW 46 _ rfl)) (notFace_of_selects (args := #[]) (mvT hZ (hW 48 _ rfl))) (mvT hZ (hW 48 _ rfl)) (mvT hZ (hW 47 _ rfl)) (by decide) (backOf (W := 0) (rmAdd0 l Z a0 hw [] b1 pa2 bq2 wa2 ka2 kw2 (0 : Int32) b150 k150 ja jb h161 n0 O161 S_ad ⟨f163, f164, f165, f166, f167, f168, f169, f170, f171, f172, f173⟩ f174 ⟨by omega, by omega, by omega, by omega, by omega, by omega, by omega, by omega, by omega, by omega⟩ ⟨by omega, by omega⟩ (by decide) OV2) hZ (hW 49 _ rfl) (hW 2 _ rfl) (by decide) (by decide)) q175a q175c (g := (mkF m 113 #[.val (.long ja), .second, .val (.long jb), .second, .val (.long jc), .second, .val (.long jd), .second, .val (.int sl), .val (.ref b1), .val (.int 3), .val (.long z148), .second, .val (.long z149), .second, .val (.ref b150), .val (.ref b153), .val (.ref b156), .val (.ref b159), .unset] [(.ref b150), (.ref b1)])) rfl (by rw [hml]; rfl) (Steps.refl _) (argsL := [(.ref b150)]) (rest := []) (lenOf pd_7 rfl) rfl (by show 2 * 0 + _ ≤ _; exact Nat.le_of_eq rfl) (hb hby at_113) (fun _ _ => ⟨rfl, e161, (by decide : 8 + 1 ≤ _), (by decide : 18 + 32 ≤ _)⟩)
    dsimp only [Pt.U, Pt.locs, Pt.cells, Pt.slots] at X175 l175 y175 z175 st175 hQ175
    subst l175 y175 z175
    obtain ⟨W175, J0175, J1175, zz175, p175, kp175, rfl, Nq175, Kp175, PQ175, Ad175, ez175, gp175⟩ := hQ175
    have N175 := Fr.app N161 Nq175
    refine own_of (fun tt_ kk_ => st175.trans kk_) ?_
    have sz175 : h161.size ≤ T175.heap.size := Kp175.1
    have O175 : Old Z n0 T175.heap := O161.keep Kp175 (allS (by omega) (allS (by omega) (allS (by omega) (allS (by omega) all0))))
    obtain ⟨u175_0, u175_1, u175_2, u175_3, u175_4, u175_5, u175_6, u175_7, u175_8, u175_9, u175_10, u175_11⟩ := id PQ175
    obtain ⟨ti175, I175⟩ := own_inv_add (own_inv0 (fun _ => (0 : Int64)) (fun _ => (0 : Int64))) Ad175
    show own_go p e below s _ _ _ (T175.setTop (mkF m 116 #[.val (.long ja), .second, .val (.long jb), .second, .val (.long jc), .second, .val (.long jd), .second, .val (.int sl), .val (.ref b1), .val (.int 3), .val (.long z148), .second, .val (.long z149), .second, .val (.ref b150), .val (.ref b153), .val (.ref b156), .val (.ref b159), .unset] []))
    refine own_of (fun tt_ => XS.iload X175.here hx rfl (hb hby at_116) rfl) ?_
    refine own_of (fun tt_ => XS.iconst X175.here hx rfl (hb hby at_118)) ?_
    have hb119_176 : ¬ ((3 : Int32) < (2 : Int32)) := by decide
    refine own_of (fun tt_ => XS.icmpNo X175.here hx rfl (hb hby at_119) rfl (flt hb119_176).1) ?_
    show own_go p e below s _ _ _ (T175.setTop (mkF m 122 #[.val (.long ja), .second, .val (.long jb), .second, .val (.long jc), .second, .val (.long jd), .second, .val (.int sl), .val (.ref b1), .val (.int 3), .val (.long z148), .second, .val (.long z149), .second, .val (.ref b150), .val (.ref b153), .val (.ref b156), .val (.ref b159), .unset] []))
    refine own_of (fun tt_ => XS.aload X175.here hx rfl (hb hby at_122) rfl rfl) ?_
    refine own_of (fun tt_ => XS.aload X175.here hx rfl (hb hby at_124) rfl rfl) ?_
    show own_go p e below s _ _ _ (T175.setTop (mkF m 126 #[.val (.long ja), .second, .val (.long jb), .second, .val (.long jc), .second, .val (.long jd), .second, .val (.int sl), .val (.ref b1), .val (.int 3), .val (.long z148), .second, .val (.long z149), .second, .val (.ref b150), .val (.ref b153), .val (.ref b156), .val (.ref b159), .unset] [(.ref b153), (.ref b1)]))
    have f177 : Arv Z T175.heap b153 k153 .long (2 : Int32) [(.long ja), (.long jc)] (.long 0) := (((((((V155.ext E156).other W157 (own_ne (by omega))).other W158 (own_ne (by omega))).ext E159).other W160 (own_ne (by omega))).other W161 (own_ne (by omega))).keep Kp175 (ninS (own_ne (by omega)) (ninS (own_ne (by omega)) (ninS (own_ne (by omega)) (ninS (own_ne (by omega)) nin0)))))
    obtain ⟨cq178, kq178, q178a, q178b, q178c⟩ := isOf hZ rfl u175_0
    obtain ⟨_, _, ⟨T178, L178, k178, n178⟩, -, X178, ⟨Lc178, hQ178, l178, y178, z178⟩, st178⟩ := X175.virtualBack hx (y := ym1) (z := ym1) hown (mvT hZ (hW 45 _ rfl)) (mvT hZ (hW 46 _ rfl)) (notFace_of_selects (args := #[]) (mvT hZ (hW 48 _ rfl))) (mvT hZ (hW 48 _ rfl)) (mvT hZ (hW 47 _ rfl)) (by decide) (backOf (W := 0) (rmAdd1 l Z a0 hw [] b1 pa2 bq2 wa2 p175 ka2 kw2 kp175 W175 J0175 J1175 zz175 b153 k153 ja jc T175.heap n0 O175 S_ad ⟨u175_0, u175_1, u175_2, u175_3, u175_4, u175_5, u175_6, u175_7, u175_8, u175_9, u175_10, u175_11⟩ f177 ⟨by omega, by omega, by omega, by omega, by omega, by omega, by omega, by omega, by omega, by omega, by omega, by omega, by omega, by omega, by omega⟩ ⟨by omega, by omega, by omega⟩ (by rcases ez175 with rfl | rfl <;> decide) (own_inv_free I175 (by simp) (own_hash_s _ _))) hZ (hW 49 _ rfl) (hW 2 _ rfl) (by decide) (by decide)) q178a q178c (g := (mkF m 126 #[.val (.long ja), .second, .val (.long jb), .second, .val (.long jc), .second, .val (.long jd), .second, .val (.int sl), .val (.ref b1), .val (.int 3), .val (.long z148), .second, .val (.long z149), .second, .val (.ref b150), .val (.ref b153), .val (.ref b156), .val (.ref b159), .unset] [(.ref b153), (.ref b1)])) rfl (by rw [hml]; rfl) (Steps.refl _) (argsL := [(.ref b153)]) (rest := []) (lenOf pd_7 rfl) rfl (by show 2 * 0 + _ ≤ _; exact Nat.le_of_eq rfl) (hb hby at_126) (fun _ _ => ⟨rfl, rfl, (by decide : 9 + 0 ≤ _), (by decide : 50 + 0 ≤ _)⟩)
    dsimp only [Pt.U, Pt.locs, Pt.cells, Pt.slots] at X178 l178 y178 z178 st178 hQ178
    subst l178 y178 z178
    obtain ⟨W178, J0178, J1178, zz178, rfl, Nq178, Kp178, PQ178, Ad178, ez178⟩ := hQ178
    have N178 := Fr.app N175 Nq178
    refine own_of (fun tt_ kk_ => st178.trans kk_) ?_
    have sz178 : T175.heap.size ≤ T178.heap.size := Kp178.1
    have O178 : Old Z n0 T178.heap := O175.keep Kp178 (allS (by omega) (allS (by omega) (allS (by omega) (allS (by omega) all0))))
    obtain ⟨u178_0, u178_1, u178_2, u178_3, u178_4, u178_5, u178_6, u178_7, u178_8, u178_9, u178_10, u178_11⟩ := id PQ178
    obtain ⟨ti178, I178⟩ := own_inv_add I175 Ad178
    show own_go p e below s _ _ _ (T178.setTop (mkF m 129 #[.val (.long ja), .second, .val (.long jb), .second, .val (.long jc), .second, .val (.long jd), .second, .val (.int sl), .val (.ref b1), .val (.int 3), .val (.long z148), .second, .val (.long z149), .second, .val (.ref b150), .val (.ref b153), .val (.ref b156), .val (.ref b159), .unset] []))
    refine own_of (fun tt_ => XS.iload X178.here hx rfl (hb hby at_129) rfl) ?_
    refine own_of (fun tt_ => XS.iconst X178.here hx rfl (hb hby at_131)) ?_
    have hb132_179 : ¬ ((3 : Int32) < (3 : Int32)) := by decide
    refine own_of (fun tt_ => XS.icmpNo X178.here hx rfl (hb hby at_132) rfl (flt hb132_179).1) ?_
    show own_go p e below s _ _ _ (T178.setTop (mkF m 135 #[.val (.long ja), .second, .val (.long jb), .second, .val (.long jc), .second, .val (.long jd), .second, .val (.int sl), .val (.ref b1), .val (.int 3), .val (.long z148), .second, .val (.long z149), .second, .val (.ref b150), .val (.ref b153), .val (.ref b156), .val (.ref b159), .unset] []))
    refine own_of (fun tt_ => XS.aload X178.here hx rfl (hb hby at_135) rfl rfl) ?_
    refine own_of (fun tt_ => XS.aload X178.here hx rfl (hb hby at_137) rfl rfl) ?_
    show own_go p e below s _ _ _ (T178.setTop (mkF m 139 #[.val (.long ja), .second, .val (.long jb), .second, .val (.long jc), .second, .val (.long jd), .second, .val (.int sl), .val (.ref b1), .val (.int 3), .val (.long z148), .second, .val (.long z149), .second, .val (.ref b150), .val (.ref b153), .val (.ref b156), .val (.ref b159), .unset] [(.ref b156), (.ref b1)]))
    have f180 : Arv Z T178.heap b156 k156 .long (2 : Int32) [(.long jc), (.long jd)] (.long 0) := (((((V158.ext E159).other W160 (own_ne (by omega))).other W161 (own_ne (by omega))).keep Kp175 (ninS (own_ne (by omega)) (ninS (own_ne (by omega)) (ninS (own_ne (by omega)) (ninS (own_ne (by omega)) nin0))))).keep Kp178 (ninS (own_ne (by omega)) (ninS (own_ne (by omega)) (ninS (own_ne (by omega)) (ninS (own_ne (by omega)) nin0)))))
    obtain ⟨cq181, kq181, q181a, q181b, q181c⟩ := isOf hZ rfl u178_0
    obtain ⟨_, _, ⟨T181, L181, k181, n181⟩, -, X181, ⟨Lc181, hQ181, l181, y181, z181⟩, st181⟩ := X178.virtualBack hx (y := ym1) (z := ym1) hown (mvT hZ (hW 45 _ rfl)) (mvT hZ (hW 46 _ rfl)) (notFace_of_selects (args := #[]) (mvT hZ (hW 48 _ rfl))) (mvT hZ (hW 48 _ rfl)) (mvT hZ (hW 47 _ rfl)) (by decide) (backOf (W := 0) (rmAdd1 l Z a0 hw [] b1 pa2 bq2 wa2 p175 ka2 kw2 kp175 W178 J0178 J1178 zz178 b156 k156 jc jd T178.heap n0 O178 S_ad ⟨u178_0, u178_1, u178_2, u178_3, u178_4, u178_5, u178_6, u178_7, u178_8, u178_9, u178_10, u178_11⟩ f180 ⟨by omega, by omega, by omega, by omega, by omega, by omega, by omega, by omega, by omega, by omega, by omega, by omega, by omega, by omega, by omega⟩ ⟨by omega, by omega, by omega⟩ (by rcases ez178 with rfl | rfl <;> rcases ez175 with rfl | rfl <;> decide) (own_inv_free I178 (by simp) (own_hash_s _ _))) hZ (hW 49 _ rfl) (hW 2 _ rfl) (by decide) (by decide)) q181a q181c (g := (mkF m 139 #[.val (.long ja), .second, .val (.long jb), .second, .val (.long jc), .second, .val (.long jd), .second, .val (.int sl), .val (.ref b1), .val (.int 3), .val (.long z148), .second, .val (.long z149), .second, .val (.ref b150), .val (.ref b153), .val (.ref b156), .val (.ref b159), .unset] [(.ref b156), (.ref b1)])) rfl (by rw [hml]; rfl) (Steps.refl _) (argsL := [(.ref b156)]) (rest := []) (lenOf pd_7 rfl) rfl (by show 2 * 0 + _ ≤ _; exact Nat.le_of_eq rfl) (hb hby at_139) (fun _ _ => ⟨rfl, rfl, (by decide : 9 + 0 ≤ _), (by decide : 50 + 0 ≤ _)⟩)
    dsimp only [Pt.U, Pt.locs, Pt.cells, Pt.slots] at X181 l181 y181 z181 st181 hQ181
    subst l181 y181 z181
    obtain ⟨W181, J0181, J1181, zz181, rfl, Nq181, Kp181, PQ181, Ad181, ez181⟩ := hQ181
    have N181 := Fr.app N178 Nq181
    refine own_of (fun tt_ kk_ => st181.trans kk_) ?_
    have sz181 : T178.heap.size ≤ T181.heap.size := Kp181.1
    have O181 : Old Z n0 T181.heap := O178.keep Kp181 (allS (by omega) (allS (by omega) (allS (by omega) (allS (by omega) all0))))
    obtain ⟨u181_0, u181_1, u181_2, u181_3, u181_4, u181_5, u181_6, u181_7, u181_8, u181_9, u181_10, u181_11⟩ := id PQ181
    obtain ⟨ti181, I181⟩ := own_inv_add I178 Ad181
    show own_go p e below s _ _ _ (T181.setTop (mkF m 142 #[.val (.long ja), .second, .val (.long jb), .second, .val (.long jc), .second, .val (.long jd), .second, .val (.int sl), .val (.ref b1), .val (.int 3), .val (.long z148), .second, .val (.long z149), .second, .val (.ref b150), .val (.ref b153), .val (.ref b156), .val (.ref b159), .unset] []))
    refine own_of (fun tt_ => XS.iload X181.here hx rfl (hb hby at_142) rfl) ?_
    refine own_of (fun tt_ => XS.iconst X181.here hx rfl (hb hby at_144)) ?_
    have hb145_182 : ¬ ((3 : Int32) < (1 : Int32)) := by decide
    refine own_of (fun tt_ => XS.icmpNo X181.here hx rfl (hb hby at_145) rfl (flt hb145_182).1) ?_
    show own_go p e below s _ _ _ (T181.setTop (mkF m 148 #[.val (.long ja), .second, .val (.long jb), .second, .val (.long jc), .second, .val (.long jd), .second, .val (.int sl), .val (.ref b1), .val (.int 3), .val (.long z148), .second, .val (.long z149), .second, .val (.ref b150), .val (.ref b153), .val (.ref b156), .val (.ref b159), .unset] []))
    refine own_of (fun tt_ => XS.lload X181.here hx rfl (hb hby at_148) rfl) ?_
    refine own_of (fun tt_ => XS.lloadN X181.here hx rfl (hb hby at_150) rfl) ?_
    refine own_of (fun tt_ => XS.lcmp X181.here hx rfl (hb hby at_151) rfl) ?_
    show own_go p e below s _ _ _ (T181.setTop (mkF m 152 #[.val (.long ja), .second, .val (.long jb), .second, .val (.long jc), .second, .val (.long jd), .second, .val (.int sl), .val (.ref b1), .val (.int 3), .val (.long z148), .second, .val (.long z149), .second, .val (.ref b150), .val (.ref b153), .val (.ref b156), .val (.ref b159), .unset] [(.int (lcmpW z148 ja))]))
    by_cases hb152_183 : (lcmpW z148 ja) = (0 : Int32)
    · refine own_of (fun tt_ => XS.ifNo X181.here hx rfl (hb hby at_152) rfl ((if0 _ _).trans (teq hb152_183).2)) ?_
      show own_go p e below s _ _ _ (T181.setTop (mkF m 155 #[.val (.long ja), .second, .val (.long jb), .second, .val (.long jc), .second, .val (.long jd), .second, .val (.int sl), .val (.ref b1), .val (.int 3), .val (.long z148), .second, .val (.long z149), .second, .val (.ref b150), .val (.ref b153), .val (.ref b156), .val (.ref b159), .unset] []))
      refine own_of (fun tt_ => XS.lload X181.here hx rfl (hb hby at_155) rfl) ?_
      refine own_of (fun tt_ => XS.lloadN X181.here hx rfl (hb hby at_157) rfl) ?_
      refine own_of (fun tt_ => XS.lcmp X181.here hx rfl (hb hby at_158) rfl) ?_
      show own_go p e below s _ _ _ (T181.setTop (mkF m 159 #[.val (.long ja), .second, .val (.long jb), .second, .val (.long jc), .second, .val (.long jd), .second, .val (.int sl), .val (.ref b1), .val (.int 3), .val (.long z148), .second, .val (.long z149), .second, .val (.ref b150), .val (.ref b153), .val (.ref b156), .val (.ref b159), .unset] [(.int (lcmpW z149 jb))]))
      by_cases hb159_184 : (lcmpW z149 jb) = (0 : Int32)
      · refine own_of (fun tt_ => XS.ifYes X181.here hx rfl (pc0 := 159) (pc' := 205) rfl (hb hby at_159) rfl ((if0 _ _).trans (teq hb159_184).1) (by decide) (by decide)) ?_
        show own_go p e below s _ _ _ (T181.setTop (mkF m 205 #[.val (.long ja), .second, .val (.long jb), .second, .val (.long jc), .second, .val (.long jd), .second, .val (.int sl), .val (.ref b1), .val (.int 3), .val (.long z148), .second, .val (.long z149), .second, .val (.ref b150), .val (.ref b153), .val (.ref b156), .val (.ref b159), .unset] []))
        refine own_of (fun tt_ => XS.iconst X181.here hx rfl (hb hby at_205)) ?_
        refine own_of (fun tt_ => XS.goto X181.here hx rfl (pc0 := 206) (pc' := 210) rfl (hb hby at_206) (by decide) (by decide)) ?_
        refine own_of (fun tt_ => XS.istore X181.here hx rfl (hb hby at_210) rfl (l' := #[.val (.long ja), .second, .val (.long jb), .second, .val (.long jc), .second, .val (.long jd), .second, .val (.int sl), .val (.ref b1), .val (.int 3), .val (.long z148), .second, .val (.long z149), .second, .val (.ref b150), .val (.ref b153), .val (.ref b156), .val (.ref b159), .val (.int 1)]) rfl) ?_
        refine own_of (fun tt_ => XS.aload X181.here hx rfl (hb hby at_212) rfl rfl) ?_
        refine own_of (fun tt_ => XS.aload X181.here hx rfl (hb hby at_214) rfl rfl) ?_
        show own_go p e below s _ _ _ (T181.setTop (mkF m 216 #[.val (.long ja), .second, .val (.long jb), .second, .val (.long jc), .second, .val (.long jd), .second, .val (.int sl), .val (.ref b1), .val (.int 3), .val (.long z148), .second, .val (.long z149), .second, .val (.ref b150), .val (.ref b153), .val (.ref b156), .val (.ref b159), .val (.int 1)] [(.ref b159), (.ref b1)]))
        have f185 : Arv Z T181.heap b159 k159 .long (2 : Int32) [(.long z148), (.long z149)] (.long 0) := (((V161.keep Kp175 (ninS (own_ne (by omega)) (ninS (own_ne (by omega)) (ninS (own_ne (by omega)) (ninS (own_ne (by omega)) nin0))))).keep Kp178 (ninS (own_ne (by omega)) (ninS (own_ne (by omega)) (ninS (own_ne (by omega)) (ninS (own_ne (by omega)) nin0))))).keep Kp181 (ninS (own_ne (by omega)) (ninS (own_ne (by omega)) (ninS (own_ne (by omega)) (ninS (own_ne (by omega)) nin0)))))
        obtain ⟨cq186, kq186, q186a, q186b, q186c⟩ := isOf hZ rfl u181_0
        obtain ⟨_, _, ⟨T186, L186, k186, n186⟩, -, X186, ⟨Lc186, hQ186, l186, y186, z186⟩, st186⟩ := X181.virtualBack hx (y := ym0) (z := ym0) hown (mvT hZ (hW 113 _ rfl)) (mvT hZ (hW 114 _ rfl)) (notFace_of_selects (args := #[]) (mvT hZ (hW 116 _ rfl))) (mvT hZ (hW 116 _ rfl)) (mvT hZ (hW 115 _ rfl)) (by decide) (backOf (W := 0) (rmCon1 l Z a0 hw [] b1 pa2 bq2 wa2 p175 ka2 kw2 kp175 W181 J0181 J1181 zz181 b159 k159 z148 z149 T181.heap n0 O181 S_ad ⟨u181_0, u181_1, u181_2, u181_3, u181_4, u181_5, u181_6, u181_7, u181_8, u181_9, u181_10, u181_11⟩ f185 (own_inv_free I181 (by simp) (own_hash_s _ _))) hZ (hW 117 _ rfl) (hW 2 _ rfl) (by decide) (by decide)) q186a q186c (g := (mkF m 216 #[.val (.long ja), .second, .val (.long jb), .second, .val (.long jc), .second, .val (.long jd), .second, .val (.int sl), .val (.ref b1), .val (.int 3), .val (.long z148), .second, .val (.long z149), .second, .val (.ref b150), .val (.ref b153), .val (.ref b156), .val (.ref b159), .val (.int 1)] [(.ref b159), (.ref b1)])) rfl (by rw [hml]; rfl) (Steps.refl _) (argsL := [(.ref b159)]) (rest := []) (lenOf pd_11 rfl) rfl (by show 2 * 0 + _ ≤ _; exact Nat.le_of_eq rfl) (hb hby at_216) (fun _ _ => ⟨rfl, rfl, (by decide : 9 + 0 ≤ _), (by decide : 50 + 0 ≤ _)⟩)
        dsimp only [Pt.U, Pt.locs, Pt.cells, Pt.slots] at X186 l186 y186 z186 st186 hQ186
        subst l186 y186 z186
        obtain ⟨r186, rfl, Nq186, eh186, sr186, fr186⟩ := hQ186
        have N186 := Fr.app N181 Nq186
        refine own_of (fun tt_ kk_ => st186.trans kk_) ?_
        show own_go p e below s _ _ _ (T186.setTop (mkF m 219 #[.val (.long ja), .second, .val (.long jb), .second, .val (.long jc), .second, .val (.long jd), .second, .val (.int sl), .val (.ref b1), .val (.int 3), .val (.long z148), .second, .val (.long z149), .second, .val (.ref b150), .val (.ref b153), .val (.ref b156), .val (.ref b159), .val (.int 1)] [(.int (own_bit W181 r186))]))
        refine own_of (fun tt_ => XS.iload X186.here hx rfl (hb hby at_219) rfl) ?_
        have hb221_187 : (own_bit W181 r186) = (1 : Int32) := (own_bit01 _ _).resolve_left ((own_inv_has I181 sr186 fr186).mpr (Or.inl (Or.inl (Or.inr ⟨(lw_eq _ _).mp hb152_183, (lw_eq _ _).mp hb159_184⟩))))
        refine own_of (fun tt_ => XS.icmpNo X186.here hx rfl (hb hby at_221) rfl (teq hb221_187).2) ?_
        show own_go p e below s _ _ _ (T186.setTop (mkF m 224 #[.val (.long ja), .second, .val (.long jb), .second, .val (.long jc), .second, .val (.long jd), .second, .val (.int sl), .val (.ref b1), .val (.int 3), .val (.long z148), .second, .val (.long z149), .second, .val (.ref b150), .val (.ref b153), .val (.ref b156), .val (.ref b159), .val (.int 1)] []))
        refine own_of (fun tt_ => XS.iconst X186.here hx rfl (hb hby at_224)) ?_
        refine own_of (fun tt_ => XS.goto X186.here hx rfl (pc0 := 225) (pc' := 229) rfl (hb hby at_225) (by decide) (by decide)) ?_
        show own_go p e below s _ _ _ (T186.setTop (mkF m 229 #[.val (.long ja), .second, .val (.long jb), .second, .val (.long jc), .second, .val (.long jd), .second, .val (.int sl), .val (.ref b1), .val (.int 3), .val (.long z148), .second, .val (.long z149), .second, .val (.ref b150), .val (.ref b153), .val (.ref b156), .val (.ref b159), .val (.int 1)] [(.int 1)]))
        refine own_ret X186 hx hlk Bd.returns rfl (Or.inl ⟨rfl, by simp, _, rfl⟩) (hb hby at_229) (by decide) (by decide) ?_
        rw [eh186]
        exact ⟨rfl, N186⟩
      · refine own_of (fun tt_ => XS.ifNo X181.here hx rfl (hb hby at_159) rfl ((if0 _ _).trans (feq hb159_184).1)) ?_
        show own_go p e below s _ _ _ (T181.setTop (mkF m 162 #[.val (.long ja), .second, .val (.long jb), .second, .val (.long jc), .second, .val (.long jd), .second, .val (.int sl), .val (.ref b1), .val (.int 3), .val (.long z148), .second, .val (.long z149), .second, .val (.ref b150), .val (.ref b153), .val (.ref b156), .val (.ref b159), .unset] []))
        refine own_of (fun tt_ => XS.iload X181.here hx rfl (hb hby at_162) rfl) ?_
        refine own_of (fun tt_ => XS.iconst X181.here hx rfl (hb hby at_164)) ?_
        have hb165_188 : ¬ ((3 : Int32) < (2 : Int32)) := by decide
        refine own_of (fun tt_ => XS.icmpNo X181.here hx rfl (hb hby at_165) rfl (flt hb165_188).1) ?_
        show own_go p e below s _ _ _ (T181.setTop (mkF m 168 #[.val (.long ja), .second, .val (.long jb), .second, .val (.long jc), .second, .val (.long jd), .second, .val (.int sl), .val (.ref b1), .val (.int 3), .val (.long z148), .second, .val (.long z149), .second, .val (.ref b150), .val (.ref b153), .val (.ref b156), .val (.ref b159), .unset] []))
        refine own_of (fun tt_ => XS.lload X181.here hx rfl (hb hby at_168) rfl) ?_
        refine own_of (fun tt_ => XS.lloadN X181.here hx rfl (hb hby at_170) rfl) ?_
        refine own_of (fun tt_ => XS.lcmp X181.here hx rfl (hb hby at_171) rfl) ?_
        show own_go p e below s _ _ _ (T181.setTop (mkF m 172 #[.val (.long ja), .second, .val (.long jb), .second, .val (.long jc), .second, .val (.long jd), .second, .val (.int sl), .val (.ref b1), .val (.int 3), .val (.long z148), .second, .val (.long z149), .second, .val (.ref b150), .val (.ref b153), .val (.ref b156), .val (.ref b159), .unset] [(.int (lcmpW z148 ja))]))
        by_cases hb172_189 : (lcmpW z148 ja) = (0 : Int32)
        · refine own_of (fun tt_ => XS.ifNo X181.here hx rfl (hb hby at_172) rfl ((if0 _ _).trans (teq hb172_189).2)) ?_
          show own_go p e below s _ _ _ (T181.setTop (mkF m 175 #[.val (.long ja), .second, .val (.long jb), .second, .val (.long jc), .second, .val (.long jd), .second, .val (.int sl), .val (.ref b1), .val (.int 3), .val (.long z148), .second, .val (.long z149), .second, .val (.ref b150), .val (.ref b153), .val (.ref b156), .val (.ref b159), .unset] []))
          refine own_of (fun tt_ => XS.lload X181.here hx rfl (hb hby at_175) rfl) ?_
          refine own_of (fun tt_ => XS.lload X181.here hx rfl (hb hby at_177) rfl) ?_
          refine own_of (fun tt_ => XS.lcmp X181.here hx rfl (hb hby at_179) rfl) ?_
          show own_go p e below s _ _ _ (T181.setTop (mkF m 180 #[.val (.long ja), .second, .val (.long jb), .second, .val (.long jc), .second, .val (.long jd), .second, .val (.int sl), .val (.ref b1), .val (.int 3), .val (.long z148), .second, .val (.long z149), .second, .val (.ref b150), .val (.ref b153), .val (.ref b156), .val (.ref b159), .unset] [(.int (lcmpW z149 jc))]))
          by_cases hb180_190 : (lcmpW z149 jc) = (0 : Int32)
          · refine own_of (fun tt_ => XS.ifYes X181.here hx rfl (pc0 := 180) (pc' := 205) rfl (hb hby at_180) rfl ((if0 _ _).trans (teq hb180_190).1) (by decide) (by decide)) ?_
            show own_go p e below s _ _ _ (T181.setTop (mkF m 205 #[.val (.long ja), .second, .val (.long jb), .second, .val (.long jc), .second, .val (.long jd), .second, .val (.int sl), .val (.ref b1), .val (.int 3), .val (.long z148), .second, .val (.long z149), .second, .val (.ref b150), .val (.ref b153), .val (.ref b156), .val (.ref b159), .unset] []))
            refine own_of (fun tt_ => XS.iconst X181.here hx rfl (hb hby at_205)) ?_
            refine own_of (fun tt_ => XS.goto X181.here hx rfl (pc0 := 206) (pc' := 210) rfl (hb hby at_206) (by decide) (by decide)) ?_
            refine own_of (fun tt_ => XS.istore X181.here hx rfl (hb hby at_210) rfl (l' := #[.val (.long ja), .second, .val (.long jb), .second, .val (.long jc), .second, .val (.long jd), .second, .val (.int sl), .val (.ref b1), .val (.int 3), .val (.long z148), .second, .val (.long z149), .second, .val (.ref b150), .val (.ref b153), .val (.ref b156), .val (.ref b159), .val (.int 1)]) rfl) ?_
            refine own_of (fun tt_ => XS.aload X181.here hx rfl (hb hby at_212) rfl rfl) ?_
            refine own_of (fun tt_ => XS.aload X181.here hx rfl (hb hby at_214) rfl rfl) ?_
            show own_go p e below s _ _ _ (T181.setTop (mkF m 216 #[.val (.long ja), .second, .val (.long jb), .second, .val (.long jc), .second, .val (.long jd), .second, .val (.int sl), .val (.ref b1), .val (.int 3), .val (.long z148), .second, .val (.long z149), .second, .val (.ref b150), .val (.ref b153), .val (.ref b156), .val (.ref b159), .val (.int 1)] [(.ref b159), (.ref b1)]))
            have f191 : Arv Z T181.heap b159 k159 .long (2 : Int32) [(.long z148), (.long z149)] (.long 0) := (((V161.keep Kp175 (ninS (own_ne (by omega)) (ninS (own_ne (by omega)) (ninS (own_ne (by omega)) (ninS (own_ne (by omega)) nin0))))).keep Kp178 (ninS (own_ne (by omega)) (ninS (own_ne (by omega)) (ninS (own_ne (by omega)) (ninS (own_ne (by omega)) nin0))))).keep Kp181 (ninS (own_ne (by omega)) (ninS (own_ne (by omega)) (ninS (own_ne (by omega)) (ninS (own_ne (by omega)) nin0)))))
            obtain ⟨cq192, kq192, q192a, q192b, q192c⟩ := isOf hZ rfl u181_0
            obtain ⟨_, _, ⟨T192, L192, k192, n192⟩, -, X192, ⟨Lc192, hQ192, l192, y192, z192⟩, st192⟩ := X181.virtualBack hx (y := ym0) (z := ym0) hown (mvT hZ (hW 113 _ rfl)) (mvT hZ (hW 114 _ rfl)) (notFace_of_selects (args := #[]) (mvT hZ (hW 116 _ rfl))) (mvT hZ (hW 116 _ rfl)) (mvT hZ (hW 115 _ rfl)) (by decide) (backOf (W := 0) (rmCon1 l Z a0 hw [] b1 pa2 bq2 wa2 p175 ka2 kw2 kp175 W181 J0181 J1181 zz181 b159 k159 z148 z149 T181.heap n0 O181 S_ad ⟨u181_0, u181_1, u181_2, u181_3, u181_4, u181_5, u181_6, u181_7, u181_8, u181_9, u181_10, u181_11⟩ f191 (own_inv_free I181 (by simp) (own_hash_s _ _))) hZ (hW 117 _ rfl) (hW 2 _ rfl) (by decide) (by decide)) q192a q192c (g := (mkF m 216 #[.val (.long ja), .second, .val (.long jb), .second, .val (.long jc), .second, .val (.long jd), .second, .val (.int sl), .val (.ref b1), .val (.int 3), .val (.long z148), .second, .val (.long z149), .second, .val (.ref b150), .val (.ref b153), .val (.ref b156), .val (.ref b159), .val (.int 1)] [(.ref b159), (.ref b1)])) rfl (by rw [hml]; rfl) (Steps.refl _) (argsL := [(.ref b159)]) (rest := []) (lenOf pd_11 rfl) rfl (by show 2 * 0 + _ ≤ _; exact Nat.le_of_eq rfl) (hb hby at_216) (fun _ _ => ⟨rfl, rfl, (by decide : 9 + 0 ≤ _), (by decide : 50 + 0 ≤ _)⟩)
            dsimp only [Pt.U, Pt.locs, Pt.cells, Pt.slots] at X192 l192 y192 z192 st192 hQ192
            subst l192 y192 z192
            obtain ⟨r192, rfl, Nq192, eh192, sr192, fr192⟩ := hQ192
            have N192 := Fr.app N181 Nq192
            refine own_of (fun tt_ kk_ => st192.trans kk_) ?_
            show own_go p e below s _ _ _ (T192.setTop (mkF m 219 #[.val (.long ja), .second, .val (.long jb), .second, .val (.long jc), .second, .val (.long jd), .second, .val (.int sl), .val (.ref b1), .val (.int 3), .val (.long z148), .second, .val (.long z149), .second, .val (.ref b150), .val (.ref b153), .val (.ref b156), .val (.ref b159), .val (.int 1)] [(.int (own_bit W181 r192))]))
            refine own_of (fun tt_ => XS.iload X192.here hx rfl (hb hby at_219) rfl) ?_
            have hb221_193 : (own_bit W181 r192) = (1 : Int32) := (own_bit01 _ _).resolve_left ((own_inv_has I181 sr192 fr192).mpr (Or.inl (Or.inr ⟨(lw_eq _ _).mp hb172_189, (lw_eq _ _).mp hb180_190⟩)))
            refine own_of (fun tt_ => XS.icmpNo X192.here hx rfl (hb hby at_221) rfl (teq hb221_193).2) ?_
            show own_go p e below s _ _ _ (T192.setTop (mkF m 224 #[.val (.long ja), .second, .val (.long jb), .second, .val (.long jc), .second, .val (.long jd), .second, .val (.int sl), .val (.ref b1), .val (.int 3), .val (.long z148), .second, .val (.long z149), .second, .val (.ref b150), .val (.ref b153), .val (.ref b156), .val (.ref b159), .val (.int 1)] []))
            refine own_of (fun tt_ => XS.iconst X192.here hx rfl (hb hby at_224)) ?_
            refine own_of (fun tt_ => XS.goto X192.here hx rfl (pc0 := 225) (pc' := 229) rfl (hb hby at_225) (by decide) (by decide)) ?_
            show own_go p e below s _ _ _ (T192.setTop (mkF m 229 #[.val (.long ja), .second, .val (.long jb), .second, .val (.long jc), .second, .val (.long jd), .second, .val (.int sl), .val (.ref b1), .val (.int 3), .val (.long z148), .second, .val (.long z149), .second, .val (.ref b150), .val (.ref b153), .val (.ref b156), .val (.ref b159), .val (.int 1)] [(.int 1)]))
            refine own_ret X192 hx hlk Bd.returns rfl (Or.inl ⟨rfl, by simp, _, rfl⟩) (hb hby at_229) (by decide) (by decide) ?_
            rw [eh192]
            exact ⟨rfl, N192⟩
          · refine own_of (fun tt_ => XS.ifNo X181.here hx rfl (hb hby at_180) rfl ((if0 _ _).trans (feq hb180_190).1)) ?_
            show own_go p e below s _ _ _ (T181.setTop (mkF m 183 #[.val (.long ja), .second, .val (.long jb), .second, .val (.long jc), .second, .val (.long jd), .second, .val (.int sl), .val (.ref b1), .val (.int 3), .val (.long z148), .second, .val (.long z149), .second, .val (.ref b150), .val (.ref b153), .val (.ref b156), .val (.ref b159), .unset] []))
            refine own_of (fun tt_ => XS.iload X181.here hx rfl (hb hby at_183) rfl) ?_
            refine own_of (fun tt_ => XS.iconst X181.here hx rfl (hb hby at_185)) ?_
            have hb186_194 : ¬ ((3 : Int32) < (3 : Int32)) := by decide
            refine own_of (fun tt_ => XS.icmpNo X181.here hx rfl (hb hby at_186) rfl (flt hb186_194).1) ?_
            show own_go p e below s _ _ _ (T181.setTop (mkF m 189 #[.val (.long ja), .second, .val (.long jb), .second, .val (.long jc), .second, .val (.long jd), .second, .val (.int sl), .val (.ref b1), .val (.int 3), .val (.long z148), .second, .val (.long z149), .second, .val (.ref b150), .val (.ref b153), .val (.ref b156), .val (.ref b159), .unset] []))
            refine own_of (fun tt_ => XS.lload X181.here hx rfl (hb hby at_189) rfl) ?_
            refine own_of (fun tt_ => XS.lload X181.here hx rfl (hb hby at_191) rfl) ?_
            refine own_of (fun tt_ => XS.lcmp X181.here hx rfl (hb hby at_193) rfl) ?_
            show own_go p e below s _ _ _ (T181.setTop (mkF m 194 #[.val (.long ja), .second, .val (.long jb), .second, .val (.long jc), .second, .val (.long jd), .second, .val (.int sl), .val (.ref b1), .val (.int 3), .val (.long z148), .second, .val (.long z149), .second, .val (.ref b150), .val (.ref b153), .val (.ref b156), .val (.ref b159), .unset] [(.int (lcmpW z148 jc))]))
            by_cases hb194_195 : (lcmpW z148 jc) = (0 : Int32)
            · refine own_of (fun tt_ => XS.ifNo X181.here hx rfl (hb hby at_194) rfl ((if0 _ _).trans (teq hb194_195).2)) ?_
              show own_go p e below s _ _ _ (T181.setTop (mkF m 197 #[.val (.long ja), .second, .val (.long jb), .second, .val (.long jc), .second, .val (.long jd), .second, .val (.int sl), .val (.ref b1), .val (.int 3), .val (.long z148), .second, .val (.long z149), .second, .val (.ref b150), .val (.ref b153), .val (.ref b156), .val (.ref b159), .unset] []))
              refine own_of (fun tt_ => XS.lload X181.here hx rfl (hb hby at_197) rfl) ?_
              refine own_of (fun tt_ => XS.lload X181.here hx rfl (hb hby at_199) rfl) ?_
              refine own_of (fun tt_ => XS.lcmp X181.here hx rfl (hb hby at_201) rfl) ?_
              show own_go p e below s _ _ _ (T181.setTop (mkF m 202 #[.val (.long ja), .second, .val (.long jb), .second, .val (.long jc), .second, .val (.long jd), .second, .val (.int sl), .val (.ref b1), .val (.int 3), .val (.long z148), .second, .val (.long z149), .second, .val (.ref b150), .val (.ref b153), .val (.ref b156), .val (.ref b159), .unset] [(.int (lcmpW z149 jd))]))
              by_cases hb202_196 : (lcmpW z149 jd) = (0 : Int32)
              · refine own_of (fun tt_ => XS.ifNo X181.here hx rfl (hb hby at_202) rfl ((if0 _ _).trans (teq hb202_196).2)) ?_
                show own_go p e below s _ _ _ (T181.setTop (mkF m 205 #[.val (.long ja), .second, .val (.long jb), .second, .val (.long jc), .second, .val (.long jd), .second, .val (.int sl), .val (.ref b1), .val (.int 3), .val (.long z148), .second, .val (.long z149), .second, .val (.ref b150), .val (.ref b153), .val (.ref b156), .val (.ref b159), .unset] []))
                refine own_of (fun tt_ => XS.iconst X181.here hx rfl (hb hby at_205)) ?_
                refine own_of (fun tt_ => XS.goto X181.here hx rfl (pc0 := 206) (pc' := 210) rfl (hb hby at_206) (by decide) (by decide)) ?_
                refine own_of (fun tt_ => XS.istore X181.here hx rfl (hb hby at_210) rfl (l' := #[.val (.long ja), .second, .val (.long jb), .second, .val (.long jc), .second, .val (.long jd), .second, .val (.int sl), .val (.ref b1), .val (.int 3), .val (.long z148), .second, .val (.long z149), .second, .val (.ref b150), .val (.ref b153), .val (.ref b156), .val (.ref b159), .val (.int 1)]) rfl) ?_
                refine own_of (fun tt_ => XS.aload X181.here hx rfl (hb hby at_212) rfl rfl) ?_
                refine own_of (fun tt_ => XS.aload X181.here hx rfl (hb hby at_214) rfl rfl) ?_
                show own_go p e below s _ _ _ (T181.setTop (mkF m 216 #[.val (.long ja), .second, .val (.long jb), .second, .val (.long jc), .second, .val (.long jd), .second, .val (.int sl), .val (.ref b1), .val (.int 3), .val (.long z148), .second, .val (.long z149), .second, .val (.ref b150), .val (.ref b153), .val (.ref b156), .val (.ref b159), .val (.int 1)] [(.ref b159), (.ref b1)]))
                have f197 : Arv Z T181.heap b159 k159 .long (2 : Int32) [(.long z148), (.long z149)] (.long 0) := (((V161.keep Kp175 (ninS (own_ne (by omega)) (ninS (own_ne (by omega)) (ninS (own_ne (by omega)) (ninS (own_ne (by omega)) nin0))))).keep Kp178 (ninS (own_ne (by omega)) (ninS (own_ne (by omega)) (ninS (own_ne (by omega)) (ninS (own_ne (by omega)) nin0))))).keep Kp181 (ninS (own_ne (by omega)) (ninS (own_ne (by omega)) (ninS (own_ne (by omega)) (ninS (own_ne (by omega)) nin0)))))
                obtain ⟨cq198, kq198, q198a, q198b, q198c⟩ := isOf hZ rfl u181_0
                obtain ⟨_, _, ⟨T198, L198, k198, n198⟩, -, X198, ⟨Lc198, hQ198, l198, y198, z198⟩, st198⟩ := X181.virtualBack hx (y := ym0) (z := ym0) hown (mvT hZ (hW 113 _ rfl)) (mvT hZ (hW 114 _ rfl)) (notFace_of_selects (args := #[]) (mvT hZ (hW 116 _ rfl))) (mvT hZ (hW 116 _ rfl)) (mvT hZ (hW 115 _ rfl)) (by decide) (backOf (W := 0) (rmCon1 l Z a0 hw [] b1 pa2 bq2 wa2 p175 ka2 kw2 kp175 W181 J0181 J1181 zz181 b159 k159 z148 z149 T181.heap n0 O181 S_ad ⟨u181_0, u181_1, u181_2, u181_3, u181_4, u181_5, u181_6, u181_7, u181_8, u181_9, u181_10, u181_11⟩ f197 (own_inv_free I181 (by simp) (own_hash_s _ _))) hZ (hW 117 _ rfl) (hW 2 _ rfl) (by decide) (by decide)) q198a q198c (g := (mkF m 216 #[.val (.long ja), .second, .val (.long jb), .second, .val (.long jc), .second, .val (.long jd), .second, .val (.int sl), .val (.ref b1), .val (.int 3), .val (.long z148), .second, .val (.long z149), .second, .val (.ref b150), .val (.ref b153), .val (.ref b156), .val (.ref b159), .val (.int 1)] [(.ref b159), (.ref b1)])) rfl (by rw [hml]; rfl) (Steps.refl _) (argsL := [(.ref b159)]) (rest := []) (lenOf pd_11 rfl) rfl (by show 2 * 0 + _ ≤ _; exact Nat.le_of_eq rfl) (hb hby at_216) (fun _ _ => ⟨rfl, rfl, (by decide : 9 + 0 ≤ _), (by decide : 50 + 0 ≤ _)⟩)
                dsimp only [Pt.U, Pt.locs, Pt.cells, Pt.slots] at X198 l198 y198 z198 st198 hQ198
                subst l198 y198 z198
                obtain ⟨r198, rfl, Nq198, eh198, sr198, fr198⟩ := hQ198
                have N198 := Fr.app N181 Nq198
                refine own_of (fun tt_ kk_ => st198.trans kk_) ?_
                show own_go p e below s _ _ _ (T198.setTop (mkF m 219 #[.val (.long ja), .second, .val (.long jb), .second, .val (.long jc), .second, .val (.long jd), .second, .val (.int sl), .val (.ref b1), .val (.int 3), .val (.long z148), .second, .val (.long z149), .second, .val (.ref b150), .val (.ref b153), .val (.ref b156), .val (.ref b159), .val (.int 1)] [(.int (own_bit W181 r198))]))
                refine own_of (fun tt_ => XS.iload X198.here hx rfl (hb hby at_219) rfl) ?_
                have hb221_199 : (own_bit W181 r198) = (1 : Int32) := (own_bit01 _ _).resolve_left ((own_inv_has I181 sr198 fr198).mpr (Or.inr ⟨(lw_eq _ _).mp hb194_195, (lw_eq _ _).mp hb202_196⟩))
                refine own_of (fun tt_ => XS.icmpNo X198.here hx rfl (hb hby at_221) rfl (teq hb221_199).2) ?_
                show own_go p e below s _ _ _ (T198.setTop (mkF m 224 #[.val (.long ja), .second, .val (.long jb), .second, .val (.long jc), .second, .val (.long jd), .second, .val (.int sl), .val (.ref b1), .val (.int 3), .val (.long z148), .second, .val (.long z149), .second, .val (.ref b150), .val (.ref b153), .val (.ref b156), .val (.ref b159), .val (.int 1)] []))
                refine own_of (fun tt_ => XS.iconst X198.here hx rfl (hb hby at_224)) ?_
                refine own_of (fun tt_ => XS.goto X198.here hx rfl (pc0 := 225) (pc' := 229) rfl (hb hby at_225) (by decide) (by decide)) ?_
                show own_go p e below s _ _ _ (T198.setTop (mkF m 229 #[.val (.long ja), .second, .val (.long jb), .second, .val (.long jc), .second, .val (.long jd), .second, .val (.int sl), .val (.ref b1), .val (.int 3), .val (.long z148), .second, .val (.long z149), .second, .val (.ref b150), .val (.ref b153), .val (.ref b156), .val (.ref b159), .val (.int 1)] [(.int 1)]))
                refine own_ret X198 hx hlk Bd.returns rfl (Or.inl ⟨rfl, by simp, _, rfl⟩) (hb hby at_229) (by decide) (by decide) ?_
                rw [eh198]
                exact ⟨rfl, N198⟩
              · refine own_of (fun tt_ => XS.ifYes X181.here hx rfl (pc0 := 202) (pc' := 209) rfl (hb hby at_202) rfl ((if0 _ _).trans (feq hb202_196).2) (by decide) (by decide)) ?_
                show own_go p e below s _ _ _ (T181.setTop (mkF m 209 #[.val (.long ja), .second, .val (.long jb), .second, .val (.long jc), .second, .val (.long jd), .second, .val (.int sl), .val (.ref b1), .val (.int 3), .val (.long z148), .second, .val (.long z149), .second, .val (.ref b150), .val (.ref b153), .val (.ref b156), .val (.ref b159), .unset] []))
                refine own_of (fun tt_ => XS.iconst X181.here hx rfl (hb hby at_209)) ?_
                refine own_of (fun tt_ => XS.istore X181.here hx rfl (hb hby at_210) rfl (l' := #[.val (.long ja), .second, .val (.long jb), .second, .val (.long jc), .second, .val (.long jd), .second, .val (.int sl), .val (.ref b1), .val (.int 3), .val (.long z148), .second, .val (.long z149), .second, .val (.ref b150), .val (.ref b153), .val (.ref b156), .val (.ref b159), .val (.int 0)]) rfl) ?_
                refine own_of (fun tt_ => XS.aload X181.here hx rfl (hb hby at_212) rfl rfl) ?_
                refine own_of (fun tt_ => XS.aload X181.here hx rfl (hb hby at_214) rfl rfl) ?_
                show own_go p e below s _ _ _ (T181.setTop (mkF m 216 #[.val (.long ja), .second, .val (.long jb), .second, .val (.long jc), .second, .val (.long jd), .second, .val (.int sl), .val (.ref b1), .val (.int 3), .val (.long z148), .second, .val (.long z149), .second, .val (.ref b150), .val (.ref b153), .val (.ref b156), .val (.ref b159), .val (.int 0)] [(.ref b159), (.ref b1)]))
                have f200 : Arv Z T181.heap b159 k159 .long (2 : Int32) [(.long z148), (.long z149)] (.long 0) := (((V161.keep Kp175 (ninS (own_ne (by omega)) (ninS (own_ne (by omega)) (ninS (own_ne (by omega)) (ninS (own_ne (by omega)) nin0))))).keep Kp178 (ninS (own_ne (by omega)) (ninS (own_ne (by omega)) (ninS (own_ne (by omega)) (ninS (own_ne (by omega)) nin0))))).keep Kp181 (ninS (own_ne (by omega)) (ninS (own_ne (by omega)) (ninS (own_ne (by omega)) (ninS (own_ne (by omega)) nin0)))))
                obtain ⟨cq201, kq201, q201a, q201b, q201c⟩ := isOf hZ rfl u181_0
                obtain ⟨_, _, ⟨T201, L201, k201, n201⟩, -, X201, ⟨Lc201, hQ201, l201, y201, z201⟩, st201⟩ := X181.virtualBack hx (y := ym0) (z := ym0) hown (mvT hZ (hW 113 _ rfl)) (mvT hZ (hW 114 _ rfl)) (notFace_of_selects (args := #[]) (mvT hZ (hW 116 _ rfl))) (mvT hZ (hW 116 _ rfl)) (mvT hZ (hW 115 _ rfl)) (by decide) (backOf (W := 0) (rmCon1 l Z a0 hw [] b1 pa2 bq2 wa2 p175 ka2 kw2 kp175 W181 J0181 J1181 zz181 b159 k159 z148 z149 T181.heap n0 O181 S_ad ⟨u181_0, u181_1, u181_2, u181_3, u181_4, u181_5, u181_6, u181_7, u181_8, u181_9, u181_10, u181_11⟩ f200 (own_inv_free I181 (by simp) (own_hash_s _ _))) hZ (hW 117 _ rfl) (hW 2 _ rfl) (by decide) (by decide)) q201a q201c (g := (mkF m 216 #[.val (.long ja), .second, .val (.long jb), .second, .val (.long jc), .second, .val (.long jd), .second, .val (.int sl), .val (.ref b1), .val (.int 3), .val (.long z148), .second, .val (.long z149), .second, .val (.ref b150), .val (.ref b153), .val (.ref b156), .val (.ref b159), .val (.int 0)] [(.ref b159), (.ref b1)])) rfl (by rw [hml]; rfl) (Steps.refl _) (argsL := [(.ref b159)]) (rest := []) (lenOf pd_11 rfl) rfl (by show 2 * 0 + _ ≤ _; exact Nat.le_of_eq rfl) (hb hby at_216) (fun _ _ => ⟨rfl, rfl, (by decide : 9 + 0 ≤ _), (by decide : 50 + 0 ≤ _)⟩)
                dsimp only [Pt.U, Pt.locs, Pt.cells, Pt.slots] at X201 l201 y201 z201 st201 hQ201
                subst l201 y201 z201
                obtain ⟨r201, rfl, Nq201, eh201, sr201, fr201⟩ := hQ201
                have N201 := Fr.app N181 Nq201
                refine own_of (fun tt_ kk_ => st201.trans kk_) ?_
                show own_go p e below s _ _ _ (T201.setTop (mkF m 219 #[.val (.long ja), .second, .val (.long jb), .second, .val (.long jc), .second, .val (.long jd), .second, .val (.int sl), .val (.ref b1), .val (.int 3), .val (.long z148), .second, .val (.long z149), .second, .val (.ref b150), .val (.ref b153), .val (.ref b156), .val (.ref b159), .val (.int 0)] [(.int (own_bit W181 r201))]))
                refine own_of (fun tt_ => XS.iload X201.here hx rfl (hb hby at_219) rfl) ?_
                have hb221_202 : (own_bit W181 r201) = (0 : Int32) := Classical.byContradiction fun q => (fun s => Or.elim s (fun s => Or.elim s (fun s => Or.elim s (fun f => f) (fun q => hb159_184 ((lw_eq _ _).mpr q.2))) (fun q => hb180_190 ((lw_eq _ _).mpr q.2))) (fun q => hb202_196 ((lw_eq _ _).mpr q.2))) ((own_inv_has I181 sr201 fr201).mp q)
                refine own_of (fun tt_ => XS.icmpNo X201.here hx rfl (hb hby at_221) rfl (teq hb221_202).2) ?_
                show own_go p e below s _ _ _ (T201.setTop (mkF m 224 #[.val (.long ja), .second, .val (.long jb), .second, .val (.long jc), .second, .val (.long jd), .second, .val (.int sl), .val (.ref b1), .val (.int 3), .val (.long z148), .second, .val (.long z149), .second, .val (.ref b150), .val (.ref b153), .val (.ref b156), .val (.ref b159), .val (.int 0)] []))
                refine own_of (fun tt_ => XS.iconst X201.here hx rfl (hb hby at_224)) ?_
                refine own_of (fun tt_ => XS.goto X201.here hx rfl (pc0 := 225) (pc' := 229) rfl (hb hby at_225) (by decide) (by decide)) ?_
                show own_go p e below s _ _ _ (T201.setTop (mkF m 229 #[.val (.long ja), .second, .val (.long jb), .second, .val (.long jc), .second, .val (.long jd), .second, .val (.int sl), .val (.ref b1), .val (.int 3), .val (.long z148), .second, .val (.long z149), .second, .val (.ref b150), .val (.ref b153), .val (.ref b156), .val (.ref b159), .val (.int 0)] [(.int 1)]))
                refine own_ret X201 hx hlk Bd.returns rfl (Or.inl ⟨rfl, by simp, _, rfl⟩) (hb hby at_229) (by decide) (by decide) ?_
                rw [eh201]
                exact ⟨rfl, N201⟩
            · refine own_of (fun tt_ => XS.ifYes X181.here hx rfl (pc0 := 194) (pc' := 209) rfl (hb hby at_194) rfl ((if0 _ _).trans (feq hb194_195).2) (by decide) (by decide)) ?_
              show own_go p e below s _ _ _ (T181.setTop (mkF m 209 #[.val (.long ja), .second, .val (.long jb), .second, .val (.long jc), .second, .val (.long jd), .second, .val (.int sl), .val (.ref b1), .val (.int 3), .val (.long z148), .second, .val (.long z149), .second, .val (.ref b150), .val (.ref b153), .val (.ref b156), .val (.ref b159), .unset] []))
              refine own_of (fun tt_ => XS.iconst X181.here hx rfl (hb hby at_209)) ?_
              refine own_of (fun tt_ => XS.istore X181.here hx rfl (hb hby at_210) rfl (l' := #[.val (.long ja), .second, .val (.long jb), .second, .val (.long jc), .second, .val (.long jd), .second, .val (.int sl), .val (.ref b1), .val (.int 3), .val (.long z148), .second, .val (.long z149), .second, .val (.ref b150), .val (.ref b153), .val (.ref b156), .val (.ref b159), .val (.int 0)]) rfl) ?_
              refine own_of (fun tt_ => XS.aload X181.here hx rfl (hb hby at_212) rfl rfl) ?_
              refine own_of (fun tt_ => XS.aload X181.here hx rfl (hb hby at_214) rfl rfl) ?_
              show own_go p e below s _ _ _ (T181.setTop (mkF m 216 #[.val (.long ja), .second, .val (.long jb), .second, .val (.long jc), .second, .val (.long jd), .second, .val (.int sl), .val (.ref b1), .val (.int 3), .val (.long z148), .second, .val (.long z149), .second, .val (.ref b150), .val (.ref b153), .val (.ref b156), .val (.ref b159), .val (.int 0)] [(.ref b159), (.ref b1)]))
              have f203 : Arv Z T181.heap b159 k159 .long (2 : Int32) [(.long z148), (.long z149)] (.long 0) := (((V161.keep Kp175 (ninS (own_ne (by omega)) (ninS (own_ne (by omega)) (ninS (own_ne (by omega)) (ninS (own_ne (by omega)) nin0))))).keep Kp178 (ninS (own_ne (by omega)) (ninS (own_ne (by omega)) (ninS (own_ne (by omega)) (ninS (own_ne (by omega)) nin0))))).keep Kp181 (ninS (own_ne (by omega)) (ninS (own_ne (by omega)) (ninS (own_ne (by omega)) (ninS (own_ne (by omega)) nin0)))))
              obtain ⟨cq204, kq204, q204a, q204b, q204c⟩ := isOf hZ rfl u181_0
              obtain ⟨_, _, ⟨T204, L204, k204, n204⟩, -, X204, ⟨Lc204, hQ204, l204, y204, z204⟩, st204⟩ := X181.virtualBack hx (y := ym0) (z := ym0) hown (mvT hZ (hW 113 _ rfl)) (mvT hZ (hW 114 _ rfl)) (notFace_of_selects (args := #[]) (mvT hZ (hW 116 _ rfl))) (mvT hZ (hW 116 _ rfl)) (mvT hZ (hW 115 _ rfl)) (by decide) (backOf (W := 0) (rmCon1 l Z a0 hw [] b1 pa2 bq2 wa2 p175 ka2 kw2 kp175 W181 J0181 J1181 zz181 b159 k159 z148 z149 T181.heap n0 O181 S_ad ⟨u181_0, u181_1, u181_2, u181_3, u181_4, u181_5, u181_6, u181_7, u181_8, u181_9, u181_10, u181_11⟩ f203 (own_inv_free I181 (by simp) (own_hash_s _ _))) hZ (hW 117 _ rfl) (hW 2 _ rfl) (by decide) (by decide)) q204a q204c (g := (mkF m 216 #[.val (.long ja), .second, .val (.long jb), .second, .val (.long jc), .second, .val (.long jd), .second, .val (.int sl), .val (.ref b1), .val (.int 3), .val (.long z148), .second, .val (.long z149), .second, .val (.ref b150), .val (.ref b153), .val (.ref b156), .val (.ref b159), .val (.int 0)] [(.ref b159), (.ref b1)])) rfl (by rw [hml]; rfl) (Steps.refl _) (argsL := [(.ref b159)]) (rest := []) (lenOf pd_11 rfl) rfl (by show 2 * 0 + _ ≤ _; exact Nat.le_of_eq rfl) (hb hby at_216) (fun _ _ => ⟨rfl, rfl, (by decide : 9 + 0 ≤ _), (by decide : 50 + 0 ≤ _)⟩)
              dsimp only [Pt.U, Pt.locs, Pt.cells, Pt.slots] at X204 l204 y204 z204 st204 hQ204
              subst l204 y204 z204
              obtain ⟨r204, rfl, Nq204, eh204, sr204, fr204⟩ := hQ204
              have N204 := Fr.app N181 Nq204
              refine own_of (fun tt_ kk_ => st204.trans kk_) ?_
              show own_go p e below s _ _ _ (T204.setTop (mkF m 219 #[.val (.long ja), .second, .val (.long jb), .second, .val (.long jc), .second, .val (.long jd), .second, .val (.int sl), .val (.ref b1), .val (.int 3), .val (.long z148), .second, .val (.long z149), .second, .val (.ref b150), .val (.ref b153), .val (.ref b156), .val (.ref b159), .val (.int 0)] [(.int (own_bit W181 r204))]))
              refine own_of (fun tt_ => XS.iload X204.here hx rfl (hb hby at_219) rfl) ?_
              have hb221_205 : (own_bit W181 r204) = (0 : Int32) := Classical.byContradiction fun q => (fun s => Or.elim s (fun s => Or.elim s (fun s => Or.elim s (fun f => f) (fun q => hb159_184 ((lw_eq _ _).mpr q.2))) (fun q => hb180_190 ((lw_eq _ _).mpr q.2))) (fun q => hb194_195 ((lw_eq _ _).mpr q.1))) ((own_inv_has I181 sr204 fr204).mp q)
              refine own_of (fun tt_ => XS.icmpNo X204.here hx rfl (hb hby at_221) rfl (teq hb221_205).2) ?_
              show own_go p e below s _ _ _ (T204.setTop (mkF m 224 #[.val (.long ja), .second, .val (.long jb), .second, .val (.long jc), .second, .val (.long jd), .second, .val (.int sl), .val (.ref b1), .val (.int 3), .val (.long z148), .second, .val (.long z149), .second, .val (.ref b150), .val (.ref b153), .val (.ref b156), .val (.ref b159), .val (.int 0)] []))
              refine own_of (fun tt_ => XS.iconst X204.here hx rfl (hb hby at_224)) ?_
              refine own_of (fun tt_ => XS.goto X204.here hx rfl (pc0 := 225) (pc' := 229) rfl (hb hby at_225) (by decide) (by decide)) ?_
              show own_go p e below s _ _ _ (T204.setTop (mkF m 229 #[.val (.long ja), .second, .val (.long jb), .second, .val (.long jc), .second, .val (.long jd), .second, .val (.int sl), .val (.ref b1), .val (.int 3), .val (.long z148), .second, .val (.long z149), .second, .val (.ref b150), .val (.ref b153), .val (.ref b156), .val (.ref b159), .val (.int 0)] [(.int 1)]))
              refine own_ret X204 hx hlk Bd.returns rfl (Or.inl ⟨rfl, by simp, _, rfl⟩) (hb hby at_229) (by decide) (by decide) ?_
              rw [eh204]
              exact ⟨rfl, N204⟩
        · refine own_of (fun tt_ => XS.ifYes X181.here hx rfl (pc0 := 172) (pc' := 183) rfl (hb hby at_172) rfl ((if0 _ _).trans (feq hb172_189).2) (by decide) (by decide)) ?_
          show own_go p e below s _ _ _ (T181.setTop (mkF m 183 #[.val (.long ja), .second, .val (.long jb), .second, .val (.long jc), .second, .val (.long jd), .second, .val (.int sl), .val (.ref b1), .val (.int 3), .val (.long z148), .second, .val (.long z149), .second, .val (.ref b150), .val (.ref b153), .val (.ref b156), .val (.ref b159), .unset] []))
          refine own_of (fun tt_ => XS.iload X181.here hx rfl (hb hby at_183) rfl) ?_
          refine own_of (fun tt_ => XS.iconst X181.here hx rfl (hb hby at_185)) ?_
          have hb186_206 : ¬ ((3 : Int32) < (3 : Int32)) := by decide
          refine own_of (fun tt_ => XS.icmpNo X181.here hx rfl (hb hby at_186) rfl (flt hb186_206).1) ?_
          show own_go p e below s _ _ _ (T181.setTop (mkF m 189 #[.val (.long ja), .second, .val (.long jb), .second, .val (.long jc), .second, .val (.long jd), .second, .val (.int sl), .val (.ref b1), .val (.int 3), .val (.long z148), .second, .val (.long z149), .second, .val (.ref b150), .val (.ref b153), .val (.ref b156), .val (.ref b159), .unset] []))
          refine own_of (fun tt_ => XS.lload X181.here hx rfl (hb hby at_189) rfl) ?_
          refine own_of (fun tt_ => XS.lload X181.here hx rfl (hb hby at_191) rfl) ?_
          refine own_of (fun tt_ => XS.lcmp X181.here hx rfl (hb hby at_193) rfl) ?_
          show own_go p e below s _ _ _ (T181.setTop (mkF m 194 #[.val (.long ja), .second, .val (.long jb), .second, .val (.long jc), .second, .val (.long jd), .second, .val (.int sl), .val (.ref b1), .val (.int 3), .val (.long z148), .second, .val (.long z149), .second, .val (.ref b150), .val (.ref b153), .val (.ref b156), .val (.ref b159), .unset] [(.int (lcmpW z148 jc))]))
          by_cases hb194_207 : (lcmpW z148 jc) = (0 : Int32)
          · refine own_of (fun tt_ => XS.ifNo X181.here hx rfl (hb hby at_194) rfl ((if0 _ _).trans (teq hb194_207).2)) ?_
            show own_go p e below s _ _ _ (T181.setTop (mkF m 197 #[.val (.long ja), .second, .val (.long jb), .second, .val (.long jc), .second, .val (.long jd), .second, .val (.int sl), .val (.ref b1), .val (.int 3), .val (.long z148), .second, .val (.long z149), .second, .val (.ref b150), .val (.ref b153), .val (.ref b156), .val (.ref b159), .unset] []))
            refine own_of (fun tt_ => XS.lload X181.here hx rfl (hb hby at_197) rfl) ?_
            refine own_of (fun tt_ => XS.lload X181.here hx rfl (hb hby at_199) rfl) ?_
            refine own_of (fun tt_ => XS.lcmp X181.here hx rfl (hb hby at_201) rfl) ?_
            show own_go p e below s _ _ _ (T181.setTop (mkF m 202 #[.val (.long ja), .second, .val (.long jb), .second, .val (.long jc), .second, .val (.long jd), .second, .val (.int sl), .val (.ref b1), .val (.int 3), .val (.long z148), .second, .val (.long z149), .second, .val (.ref b150), .val (.ref b153), .val (.ref b156), .val (.ref b159), .unset] [(.int (lcmpW z149 jd))]))
            by_cases hb202_208 : (lcmpW z149 jd) = (0 : Int32)
            · refine own_of (fun tt_ => XS.ifNo X181.here hx rfl (hb hby at_202) rfl ((if0 _ _).trans (teq hb202_208).2)) ?_
              show own_go p e below s _ _ _ (T181.setTop (mkF m 205 #[.val (.long ja), .second, .val (.long jb), .second, .val (.long jc), .second, .val (.long jd), .second, .val (.int sl), .val (.ref b1), .val (.int 3), .val (.long z148), .second, .val (.long z149), .second, .val (.ref b150), .val (.ref b153), .val (.ref b156), .val (.ref b159), .unset] []))
              refine own_of (fun tt_ => XS.iconst X181.here hx rfl (hb hby at_205)) ?_
              refine own_of (fun tt_ => XS.goto X181.here hx rfl (pc0 := 206) (pc' := 210) rfl (hb hby at_206) (by decide) (by decide)) ?_
              refine own_of (fun tt_ => XS.istore X181.here hx rfl (hb hby at_210) rfl (l' := #[.val (.long ja), .second, .val (.long jb), .second, .val (.long jc), .second, .val (.long jd), .second, .val (.int sl), .val (.ref b1), .val (.int 3), .val (.long z148), .second, .val (.long z149), .second, .val (.ref b150), .val (.ref b153), .val (.ref b156), .val (.ref b159), .val (.int 1)]) rfl) ?_
              refine own_of (fun tt_ => XS.aload X181.here hx rfl (hb hby at_212) rfl rfl) ?_
              refine own_of (fun tt_ => XS.aload X181.here hx rfl (hb hby at_214) rfl rfl) ?_
              show own_go p e below s _ _ _ (T181.setTop (mkF m 216 #[.val (.long ja), .second, .val (.long jb), .second, .val (.long jc), .second, .val (.long jd), .second, .val (.int sl), .val (.ref b1), .val (.int 3), .val (.long z148), .second, .val (.long z149), .second, .val (.ref b150), .val (.ref b153), .val (.ref b156), .val (.ref b159), .val (.int 1)] [(.ref b159), (.ref b1)]))
              have f209 : Arv Z T181.heap b159 k159 .long (2 : Int32) [(.long z148), (.long z149)] (.long 0) := (((V161.keep Kp175 (ninS (own_ne (by omega)) (ninS (own_ne (by omega)) (ninS (own_ne (by omega)) (ninS (own_ne (by omega)) nin0))))).keep Kp178 (ninS (own_ne (by omega)) (ninS (own_ne (by omega)) (ninS (own_ne (by omega)) (ninS (own_ne (by omega)) nin0))))).keep Kp181 (ninS (own_ne (by omega)) (ninS (own_ne (by omega)) (ninS (own_ne (by omega)) (ninS (own_ne (by omega)) nin0)))))
              obtain ⟨cq210, kq210, q210a, q210b, q210c⟩ := isOf hZ rfl u181_0
              obtain ⟨_, _, ⟨T210, L210, k210, n210⟩, -, X210, ⟨Lc210, hQ210, l210, y210, z210⟩, st210⟩ := X181.virtualBack hx (y := ym0) (z := ym0) hown (mvT hZ (hW 113 _ rfl)) (mvT hZ (hW 114 _ rfl)) (notFace_of_selects (args := #[]) (mvT hZ (hW 116 _ rfl))) (mvT hZ (hW 116 _ rfl)) (mvT hZ (hW 115 _ rfl)) (by decide) (backOf (W := 0) (rmCon1 l Z a0 hw [] b1 pa2 bq2 wa2 p175 ka2 kw2 kp175 W181 J0181 J1181 zz181 b159 k159 z148 z149 T181.heap n0 O181 S_ad ⟨u181_0, u181_1, u181_2, u181_3, u181_4, u181_5, u181_6, u181_7, u181_8, u181_9, u181_10, u181_11⟩ f209 (own_inv_free I181 (by simp) (own_hash_s _ _))) hZ (hW 117 _ rfl) (hW 2 _ rfl) (by decide) (by decide)) q210a q210c (g := (mkF m 216 #[.val (.long ja), .second, .val (.long jb), .second, .val (.long jc), .second, .val (.long jd), .second, .val (.int sl), .val (.ref b1), .val (.int 3), .val (.long z148), .second, .val (.long z149), .second, .val (.ref b150), .val (.ref b153), .val (.ref b156), .val (.ref b159), .val (.int 1)] [(.ref b159), (.ref b1)])) rfl (by rw [hml]; rfl) (Steps.refl _) (argsL := [(.ref b159)]) (rest := []) (lenOf pd_11 rfl) rfl (by show 2 * 0 + _ ≤ _; exact Nat.le_of_eq rfl) (hb hby at_216) (fun _ _ => ⟨rfl, rfl, (by decide : 9 + 0 ≤ _), (by decide : 50 + 0 ≤ _)⟩)
              dsimp only [Pt.U, Pt.locs, Pt.cells, Pt.slots] at X210 l210 y210 z210 st210 hQ210
              subst l210 y210 z210
              obtain ⟨r210, rfl, Nq210, eh210, sr210, fr210⟩ := hQ210
              have N210 := Fr.app N181 Nq210
              refine own_of (fun tt_ kk_ => st210.trans kk_) ?_
              show own_go p e below s _ _ _ (T210.setTop (mkF m 219 #[.val (.long ja), .second, .val (.long jb), .second, .val (.long jc), .second, .val (.long jd), .second, .val (.int sl), .val (.ref b1), .val (.int 3), .val (.long z148), .second, .val (.long z149), .second, .val (.ref b150), .val (.ref b153), .val (.ref b156), .val (.ref b159), .val (.int 1)] [(.int (own_bit W181 r210))]))
              refine own_of (fun tt_ => XS.iload X210.here hx rfl (hb hby at_219) rfl) ?_
              have hb221_211 : (own_bit W181 r210) = (1 : Int32) := (own_bit01 _ _).resolve_left ((own_inv_has I181 sr210 fr210).mpr (Or.inr ⟨(lw_eq _ _).mp hb194_207, (lw_eq _ _).mp hb202_208⟩))
              refine own_of (fun tt_ => XS.icmpNo X210.here hx rfl (hb hby at_221) rfl (teq hb221_211).2) ?_
              show own_go p e below s _ _ _ (T210.setTop (mkF m 224 #[.val (.long ja), .second, .val (.long jb), .second, .val (.long jc), .second, .val (.long jd), .second, .val (.int sl), .val (.ref b1), .val (.int 3), .val (.long z148), .second, .val (.long z149), .second, .val (.ref b150), .val (.ref b153), .val (.ref b156), .val (.ref b159), .val (.int 1)] []))
              refine own_of (fun tt_ => XS.iconst X210.here hx rfl (hb hby at_224)) ?_
              refine own_of (fun tt_ => XS.goto X210.here hx rfl (pc0 := 225) (pc' := 229) rfl (hb hby at_225) (by decide) (by decide)) ?_
              show own_go p e below s _ _ _ (T210.setTop (mkF m 229 #[.val (.long ja), .second, .val (.long jb), .second, .val (.long jc), .second, .val (.long jd), .second, .val (.int sl), .val (.ref b1), .val (.int 3), .val (.long z148), .second, .val (.long z149), .second, .val (.ref b150), .val (.ref b153), .val (.ref b156), .val (.ref b159), .val (.int 1)] [(.int 1)]))
              refine own_ret X210 hx hlk Bd.returns rfl (Or.inl ⟨rfl, by simp, _, rfl⟩) (hb hby at_229) (by decide) (by decide) ?_
              rw [eh210]
              exact ⟨rfl, N210⟩
            · refine own_of (fun tt_ => XS.ifYes X181.here hx rfl (pc0 := 202) (pc' := 209) rfl (hb hby at_202) rfl ((if0 _ _).trans (feq hb202_208).2) (by decide) (by decide)) ?_
              show own_go p e below s _ _ _ (T181.setTop (mkF m 209 #[.val (.long ja), .second, .val (.long jb), .second, .val (.long jc), .second, .val (.long jd), .second, .val (.int sl), .val (.ref b1), .val (.int 3), .val (.long z148), .second, .val (.long z149), .second, .val (.ref b150), .val (.ref b153), .val (.ref b156), .val (.ref b159), .unset] []))
              refine own_of (fun tt_ => XS.iconst X181.here hx rfl (hb hby at_209)) ?_
              refine own_of (fun tt_ => XS.istore X181.here hx rfl (hb hby at_210) rfl (l' := #[.val (.long ja), .second, .val (.long jb), .second, .val (.long jc), .second, .val (.long jd), .second, .val (.int sl), .val (.ref b1), .val (.int 3), .val (.long z148), .second, .val (.long z149), .second, .val (.ref b150), .val (.ref b153), .val (.ref b156), .val (.ref b159), .val (.int 0)]) rfl) ?_
              refine own_of (fun tt_ => XS.aload X181.here hx rfl (hb hby at_212) rfl rfl) ?_
              refine own_of (fun tt_ => XS.aload X181.here hx rfl (hb hby at_214) rfl rfl) ?_
              show own_go p e below s _ _ _ (T181.setTop (mkF m 216 #[.val (.long ja), .second, .val (.long jb), .second, .val (.long jc), .second, .val (.long jd), .second, .val (.int sl), .val (.ref b1), .val (.int 3), .val (.long z148), .second, .val (.long z149), .second, .val (.ref b150), .val (.ref b153), .val (.ref b156), .val (.ref b159), .val (.int 0)] [(.ref b159), (.ref b1)]))
              have f212 : Arv Z T181.heap b159 k159 .long (2 : Int32) [(.long z148), (.long z149)] (.long 0) := (((V161.keep Kp175 (ninS (own_ne (by omega)) (ninS (own_ne (by omega)) (ninS (own_ne (by omega)) (ninS (own_ne (by omega)) nin0))))).keep Kp178 (ninS (own_ne (by omega)) (ninS (own_ne (by omega)) (ninS (own_ne (by omega)) (ninS (own_ne (by omega)) nin0))))).keep Kp181 (ninS (own_ne (by omega)) (ninS (own_ne (by omega)) (ninS (own_ne (by omega)) (ninS (own_ne (by omega)) nin0)))))
              obtain ⟨cq213, kq213, q213a, q213b, q213c⟩ := isOf hZ rfl u181_0
              obtain ⟨_, _, ⟨T213, L213, k213, n213⟩, -, X213, ⟨Lc213, hQ213, l213, y213, z213⟩, st213⟩ := X181.virtualBack hx (y := ym0) (z := ym0) hown (mvT hZ (hW 113 _ rfl)) (mvT hZ (hW 114 _ rfl)) (notFace_of_selects (args := #[]) (mvT hZ (hW 116 _ rfl))) (mvT hZ (hW 116 _ rfl)) (mvT hZ (hW 115 _ rfl)) (by decide) (backOf (W := 0) (rmCon1 l Z a0 hw [] b1 pa2 bq2 wa2 p175 ka2 kw2 kp175 W181 J0181 J1181 zz181 b159 k159 z148 z149 T181.heap n0 O181 S_ad ⟨u181_0, u181_1, u181_2, u181_3, u181_4, u181_5, u181_6, u181_7, u181_8, u181_9, u181_10, u181_11⟩ f212 (own_inv_free I181 (by simp) (own_hash_s _ _))) hZ (hW 117 _ rfl) (hW 2 _ rfl) (by decide) (by decide)) q213a q213c (g := (mkF m 216 #[.val (.long ja), .second, .val (.long jb), .second, .val (.long jc), .second, .val (.long jd), .second, .val (.int sl), .val (.ref b1), .val (.int 3), .val (.long z148), .second, .val (.long z149), .second, .val (.ref b150), .val (.ref b153), .val (.ref b156), .val (.ref b159), .val (.int 0)] [(.ref b159), (.ref b1)])) rfl (by rw [hml]; rfl) (Steps.refl _) (argsL := [(.ref b159)]) (rest := []) (lenOf pd_11 rfl) rfl (by show 2 * 0 + _ ≤ _; exact Nat.le_of_eq rfl) (hb hby at_216) (fun _ _ => ⟨rfl, rfl, (by decide : 9 + 0 ≤ _), (by decide : 50 + 0 ≤ _)⟩)
              dsimp only [Pt.U, Pt.locs, Pt.cells, Pt.slots] at X213 l213 y213 z213 st213 hQ213
              subst l213 y213 z213
              obtain ⟨r213, rfl, Nq213, eh213, sr213, fr213⟩ := hQ213
              have N213 := Fr.app N181 Nq213
              refine own_of (fun tt_ kk_ => st213.trans kk_) ?_
              show own_go p e below s _ _ _ (T213.setTop (mkF m 219 #[.val (.long ja), .second, .val (.long jb), .second, .val (.long jc), .second, .val (.long jd), .second, .val (.int sl), .val (.ref b1), .val (.int 3), .val (.long z148), .second, .val (.long z149), .second, .val (.ref b150), .val (.ref b153), .val (.ref b156), .val (.ref b159), .val (.int 0)] [(.int (own_bit W181 r213))]))
              refine own_of (fun tt_ => XS.iload X213.here hx rfl (hb hby at_219) rfl) ?_
              have hb221_214 : (own_bit W181 r213) = (0 : Int32) := Classical.byContradiction fun q => (fun s => Or.elim s (fun s => Or.elim s (fun s => Or.elim s (fun f => f) (fun q => hb159_184 ((lw_eq _ _).mpr q.2))) (fun q => hb172_189 ((lw_eq _ _).mpr q.1))) (fun q => hb202_208 ((lw_eq _ _).mpr q.2))) ((own_inv_has I181 sr213 fr213).mp q)
              refine own_of (fun tt_ => XS.icmpNo X213.here hx rfl (hb hby at_221) rfl (teq hb221_214).2) ?_
              show own_go p e below s _ _ _ (T213.setTop (mkF m 224 #[.val (.long ja), .second, .val (.long jb), .second, .val (.long jc), .second, .val (.long jd), .second, .val (.int sl), .val (.ref b1), .val (.int 3), .val (.long z148), .second, .val (.long z149), .second, .val (.ref b150), .val (.ref b153), .val (.ref b156), .val (.ref b159), .val (.int 0)] []))
              refine own_of (fun tt_ => XS.iconst X213.here hx rfl (hb hby at_224)) ?_
              refine own_of (fun tt_ => XS.goto X213.here hx rfl (pc0 := 225) (pc' := 229) rfl (hb hby at_225) (by decide) (by decide)) ?_
              show own_go p e below s _ _ _ (T213.setTop (mkF m 229 #[.val (.long ja), .second, .val (.long jb), .second, .val (.long jc), .second, .val (.long jd), .second, .val (.int sl), .val (.ref b1), .val (.int 3), .val (.long z148), .second, .val (.long z149), .second, .val (.ref b150), .val (.ref b153), .val (.ref b156), .val (.ref b159), .val (.int 0)] [(.int 1)]))
              refine own_ret X213 hx hlk Bd.returns rfl (Or.inl ⟨rfl, by simp, _, rfl⟩) (hb hby at_229) (by decide) (by decide) ?_
              rw [eh213]
              exact ⟨rfl, N213⟩
          · refine own_of (fun tt_ => XS.ifYes X181.here hx rfl (pc0 := 194) (pc' := 209) rfl (hb hby at_194) rfl ((if0 _ _).trans (feq hb194_207).2) (by decide) (by decide)) ?_
            show own_go p e below s _ _ _ (T181.setTop (mkF m 209 #[.val (.long ja), .second, .val (.long jb), .second, .val (.long jc), .second, .val (.long jd), .second, .val (.int sl), .val (.ref b1), .val (.int 3), .val (.long z148), .second, .val (.long z149), .second, .val (.ref b150), .val (.ref b153), .val (.ref b156), .val (.ref b159), .unset] []))
            refine own_of (fun tt_ => XS.iconst X181.here hx rfl (hb hby at_209)) ?_
            refine own_of (fun tt_ => XS.istore X181.here hx rfl (hb hby at_210) rfl (l' := #[.val (.long ja), .second, .val (.long jb), .second, .val (.long jc), .second, .val (.long jd), .second, .val (.int sl), .val (.ref b1), .val (.int 3), .val (.long z148), .second, .val (.long z149), .second, .val (.ref b150), .val (.ref b153), .val (.ref b156), .val (.ref b159), .val (.int 0)]) rfl) ?_
            refine own_of (fun tt_ => XS.aload X181.here hx rfl (hb hby at_212) rfl rfl) ?_
            refine own_of (fun tt_ => XS.aload X181.here hx rfl (hb hby at_214) rfl rfl) ?_
            show own_go p e below s _ _ _ (T181.setTop (mkF m 216 #[.val (.long ja), .second, .val (.long jb), .second, .val (.long jc), .second, .val (.long jd), .second, .val (.int sl), .val (.ref b1), .val (.int 3), .val (.long z148), .second, .val (.long z149), .second, .val (.ref b150), .val (.ref b153), .val (.ref b156), .val (.ref b159), .val (.int 0)] [(.ref b159), (.ref b1)]))
            have f215 : Arv Z T181.heap b159 k159 .long (2 : Int32) [(.long z148), (.long z149)] (.long 0) := (((V161.keep Kp175 (ninS (own_ne (by omega)) (ninS (own_ne (by omega)) (ninS (own_ne (by omega)) (ninS (own_ne (by omega)) nin0))))).keep Kp178 (ninS (own_ne (by omega)) (ninS (own_ne (by omega)) (ninS (own_ne (by omega)) (ninS (own_ne (by omega)) nin0))))).keep Kp181 (ninS (own_ne (by omega)) (ninS (own_ne (by omega)) (ninS (own_ne (by omega)) (ninS (own_ne (by omega)) nin0)))))
            obtain ⟨cq216, kq216, q216a, q216b, q216c⟩ := isOf hZ rfl u181_0
            obtain ⟨_, _, ⟨T216, L216, k216, n216⟩, -, X216, ⟨Lc216, hQ216, l216, y216, z216⟩, st216⟩ := X181.virtualBack hx (y := ym0) (z := ym0) hown (mvT hZ (hW 113 _ rfl)) (mvT hZ (hW 114 _ rfl)) (notFace_of_selects (args := #[]) (mvT hZ (hW 116 _ rfl))) (mvT hZ (hW 116 _ rfl)) (mvT hZ (hW 115 _ rfl)) (by decide) (backOf (W := 0) (rmCon1 l Z a0 hw [] b1 pa2 bq2 wa2 p175 ka2 kw2 kp175 W181 J0181 J1181 zz181 b159 k159 z148 z149 T181.heap n0 O181 S_ad ⟨u181_0, u181_1, u181_2, u181_3, u181_4, u181_5, u181_6, u181_7, u181_8, u181_9, u181_10, u181_11⟩ f215 (own_inv_free I181 (by simp) (own_hash_s _ _))) hZ (hW 117 _ rfl) (hW 2 _ rfl) (by decide) (by decide)) q216a q216c (g := (mkF m 216 #[.val (.long ja), .second, .val (.long jb), .second, .val (.long jc), .second, .val (.long jd), .second, .val (.int sl), .val (.ref b1), .val (.int 3), .val (.long z148), .second, .val (.long z149), .second, .val (.ref b150), .val (.ref b153), .val (.ref b156), .val (.ref b159), .val (.int 0)] [(.ref b159), (.ref b1)])) rfl (by rw [hml]; rfl) (Steps.refl _) (argsL := [(.ref b159)]) (rest := []) (lenOf pd_11 rfl) rfl (by show 2 * 0 + _ ≤ _; exact Nat.le_of_eq rfl) (hb hby at_216) (fun _ _ => ⟨rfl, rfl, (by decide : 9 + 0 ≤ _), (by decide : 50 + 0 ≤ _)⟩)
            dsimp only [Pt.U, Pt.locs, Pt.cells, Pt.slots] at X216 l216 y216 z216 st216 hQ216
            subst l216 y216 z216
            obtain ⟨r216, rfl, Nq216, eh216, sr216, fr216⟩ := hQ216
            have N216 := Fr.app N181 Nq216
            refine own_of (fun tt_ kk_ => st216.trans kk_) ?_
            show own_go p e below s _ _ _ (T216.setTop (mkF m 219 #[.val (.long ja), .second, .val (.long jb), .second, .val (.long jc), .second, .val (.long jd), .second, .val (.int sl), .val (.ref b1), .val (.int 3), .val (.long z148), .second, .val (.long z149), .second, .val (.ref b150), .val (.ref b153), .val (.ref b156), .val (.ref b159), .val (.int 0)] [(.int (own_bit W181 r216))]))
            refine own_of (fun tt_ => XS.iload X216.here hx rfl (hb hby at_219) rfl) ?_
            have hb221_217 : (own_bit W181 r216) = (0 : Int32) := Classical.byContradiction fun q => (fun s => Or.elim s (fun s => Or.elim s (fun s => Or.elim s (fun f => f) (fun q => hb159_184 ((lw_eq _ _).mpr q.2))) (fun q => hb172_189 ((lw_eq _ _).mpr q.1))) (fun q => hb194_207 ((lw_eq _ _).mpr q.1))) ((own_inv_has I181 sr216 fr216).mp q)
            refine own_of (fun tt_ => XS.icmpNo X216.here hx rfl (hb hby at_221) rfl (teq hb221_217).2) ?_
            show own_go p e below s _ _ _ (T216.setTop (mkF m 224 #[.val (.long ja), .second, .val (.long jb), .second, .val (.long jc), .second, .val (.long jd), .second, .val (.int sl), .val (.ref b1), .val (.int 3), .val (.long z148), .second, .val (.long z149), .second, .val (.ref b150), .val (.ref b153), .val (.ref b156), .val (.ref b159), .val (.int 0)] []))
            refine own_of (fun tt_ => XS.iconst X216.here hx rfl (hb hby at_224)) ?_
            refine own_of (fun tt_ => XS.goto X216.here hx rfl (pc0 := 225) (pc' := 229) rfl (hb hby at_225) (by decide) (by decide)) ?_
            show own_go p e below s _ _ _ (T216.setTop (mkF m 229 #[.val (.long ja), .second, .val (.long jb), .second, .val (.long jc), .second, .val (.long jd), .second, .val (.int sl), .val (.ref b1), .val (.int 3), .val (.long z148), .second, .val (.long z149), .second, .val (.ref b150), .val (.ref b153), .val (.ref b156), .val (.ref b159), .val (.int 0)] [(.int 1)]))
            refine own_ret X216 hx hlk Bd.returns rfl (Or.inl ⟨rfl, by simp, _, rfl⟩) (hb hby at_229) (by decide) (by decide) ?_
            rw [eh216]
            exact ⟨rfl, N216⟩
    · refine own_of (fun tt_ => XS.ifYes X181.here hx rfl (pc0 := 152) (pc' := 162) rfl (hb hby at_152) rfl ((if0 _ _).trans (feq hb152_183).2) (by decide) (by decide)) ?_
      show own_go p e below s _ _ _ (T181.setTop (mkF m 162 #[.val (.long ja), .second, .val (.long jb), .second, .val (.long jc), .second, .val (.long jd), .second, .val (.int sl), .val (.ref b1), .val (.int 3), .val (.long z148), .second, .val (.long z149), .second, .val (.ref b150), .val (.ref b153), .val (.ref b156), .val (.ref b159), .unset] []))
      refine own_of (fun tt_ => XS.iload X181.here hx rfl (hb hby at_162) rfl) ?_
      refine own_of (fun tt_ => XS.iconst X181.here hx rfl (hb hby at_164)) ?_
      have hb165_218 : ¬ ((3 : Int32) < (2 : Int32)) := by decide
      refine own_of (fun tt_ => XS.icmpNo X181.here hx rfl (hb hby at_165) rfl (flt hb165_218).1) ?_
      show own_go p e below s _ _ _ (T181.setTop (mkF m 168 #[.val (.long ja), .second, .val (.long jb), .second, .val (.long jc), .second, .val (.long jd), .second, .val (.int sl), .val (.ref b1), .val (.int 3), .val (.long z148), .second, .val (.long z149), .second, .val (.ref b150), .val (.ref b153), .val (.ref b156), .val (.ref b159), .unset] []))
      refine own_of (fun tt_ => XS.lload X181.here hx rfl (hb hby at_168) rfl) ?_
      refine own_of (fun tt_ => XS.lloadN X181.here hx rfl (hb hby at_170) rfl) ?_
      refine own_of (fun tt_ => XS.lcmp X181.here hx rfl (hb hby at_171) rfl) ?_
      show own_go p e below s _ _ _ (T181.setTop (mkF m 172 #[.val (.long ja), .second, .val (.long jb), .second, .val (.long jc), .second, .val (.long jd), .second, .val (.int sl), .val (.ref b1), .val (.int 3), .val (.long z148), .second, .val (.long z149), .second, .val (.ref b150), .val (.ref b153), .val (.ref b156), .val (.ref b159), .unset] [(.int (lcmpW z148 ja))]))
      by_cases hb172_219 : (lcmpW z148 ja) = (0 : Int32)
      · refine own_of (fun tt_ => XS.ifNo X181.here hx rfl (hb hby at_172) rfl ((if0 _ _).trans (teq hb172_219).2)) ?_
        show own_go p e below s _ _ _ (T181.setTop (mkF m 175 #[.val (.long ja), .second, .val (.long jb), .second, .val (.long jc), .second, .val (.long jd), .second, .val (.int sl), .val (.ref b1), .val (.int 3), .val (.long z148), .second, .val (.long z149), .second, .val (.ref b150), .val (.ref b153), .val (.ref b156), .val (.ref b159), .unset] []))
        refine own_of (fun tt_ => XS.lload X181.here hx rfl (hb hby at_175) rfl) ?_
        refine own_of (fun tt_ => XS.lload X181.here hx rfl (hb hby at_177) rfl) ?_
        refine own_of (fun tt_ => XS.lcmp X181.here hx rfl (hb hby at_179) rfl) ?_
        show own_go p e below s _ _ _ (T181.setTop (mkF m 180 #[.val (.long ja), .second, .val (.long jb), .second, .val (.long jc), .second, .val (.long jd), .second, .val (.int sl), .val (.ref b1), .val (.int 3), .val (.long z148), .second, .val (.long z149), .second, .val (.ref b150), .val (.ref b153), .val (.ref b156), .val (.ref b159), .unset] [(.int (lcmpW z149 jc))]))
        by_cases hb180_220 : (lcmpW z149 jc) = (0 : Int32)
        · refine own_of (fun tt_ => XS.ifYes X181.here hx rfl (pc0 := 180) (pc' := 205) rfl (hb hby at_180) rfl ((if0 _ _).trans (teq hb180_220).1) (by decide) (by decide)) ?_
          show own_go p e below s _ _ _ (T181.setTop (mkF m 205 #[.val (.long ja), .second, .val (.long jb), .second, .val (.long jc), .second, .val (.long jd), .second, .val (.int sl), .val (.ref b1), .val (.int 3), .val (.long z148), .second, .val (.long z149), .second, .val (.ref b150), .val (.ref b153), .val (.ref b156), .val (.ref b159), .unset] []))
          refine own_of (fun tt_ => XS.iconst X181.here hx rfl (hb hby at_205)) ?_
          refine own_of (fun tt_ => XS.goto X181.here hx rfl (pc0 := 206) (pc' := 210) rfl (hb hby at_206) (by decide) (by decide)) ?_
          refine own_of (fun tt_ => XS.istore X181.here hx rfl (hb hby at_210) rfl (l' := #[.val (.long ja), .second, .val (.long jb), .second, .val (.long jc), .second, .val (.long jd), .second, .val (.int sl), .val (.ref b1), .val (.int 3), .val (.long z148), .second, .val (.long z149), .second, .val (.ref b150), .val (.ref b153), .val (.ref b156), .val (.ref b159), .val (.int 1)]) rfl) ?_
          refine own_of (fun tt_ => XS.aload X181.here hx rfl (hb hby at_212) rfl rfl) ?_
          refine own_of (fun tt_ => XS.aload X181.here hx rfl (hb hby at_214) rfl rfl) ?_
          show own_go p e below s _ _ _ (T181.setTop (mkF m 216 #[.val (.long ja), .second, .val (.long jb), .second, .val (.long jc), .second, .val (.long jd), .second, .val (.int sl), .val (.ref b1), .val (.int 3), .val (.long z148), .second, .val (.long z149), .second, .val (.ref b150), .val (.ref b153), .val (.ref b156), .val (.ref b159), .val (.int 1)] [(.ref b159), (.ref b1)]))
          have f221 : Arv Z T181.heap b159 k159 .long (2 : Int32) [(.long z148), (.long z149)] (.long 0) := (((V161.keep Kp175 (ninS (own_ne (by omega)) (ninS (own_ne (by omega)) (ninS (own_ne (by omega)) (ninS (own_ne (by omega)) nin0))))).keep Kp178 (ninS (own_ne (by omega)) (ninS (own_ne (by omega)) (ninS (own_ne (by omega)) (ninS (own_ne (by omega)) nin0))))).keep Kp181 (ninS (own_ne (by omega)) (ninS (own_ne (by omega)) (ninS (own_ne (by omega)) (ninS (own_ne (by omega)) nin0)))))
          obtain ⟨cq222, kq222, q222a, q222b, q222c⟩ := isOf hZ rfl u181_0
          obtain ⟨_, _, ⟨T222, L222, k222, n222⟩, -, X222, ⟨Lc222, hQ222, l222, y222, z222⟩, st222⟩ := X181.virtualBack hx (y := ym0) (z := ym0) hown (mvT hZ (hW 113 _ rfl)) (mvT hZ (hW 114 _ rfl)) (notFace_of_selects (args := #[]) (mvT hZ (hW 116 _ rfl))) (mvT hZ (hW 116 _ rfl)) (mvT hZ (hW 115 _ rfl)) (by decide) (backOf (W := 0) (rmCon1 l Z a0 hw [] b1 pa2 bq2 wa2 p175 ka2 kw2 kp175 W181 J0181 J1181 zz181 b159 k159 z148 z149 T181.heap n0 O181 S_ad ⟨u181_0, u181_1, u181_2, u181_3, u181_4, u181_5, u181_6, u181_7, u181_8, u181_9, u181_10, u181_11⟩ f221 (own_inv_free I181 (by simp) (own_hash_s _ _))) hZ (hW 117 _ rfl) (hW 2 _ rfl) (by decide) (by decide)) q222a q222c (g := (mkF m 216 #[.val (.long ja), .second, .val (.long jb), .second, .val (.long jc), .second, .val (.long jd), .second, .val (.int sl), .val (.ref b1), .val (.int 3), .val (.long z148), .second, .val (.long z149), .second, .val (.ref b150), .val (.ref b153), .val (.ref b156), .val (.ref b159), .val (.int 1)] [(.ref b159), (.ref b1)])) rfl (by rw [hml]; rfl) (Steps.refl _) (argsL := [(.ref b159)]) (rest := []) (lenOf pd_11 rfl) rfl (by show 2 * 0 + _ ≤ _; exact Nat.le_of_eq rfl) (hb hby at_216) (fun _ _ => ⟨rfl, rfl, (by decide : 9 + 0 ≤ _), (by decide : 50 + 0 ≤ _)⟩)
          dsimp only [Pt.U, Pt.locs, Pt.cells, Pt.slots] at X222 l222 y222 z222 st222 hQ222
          subst l222 y222 z222
          obtain ⟨r222, rfl, Nq222, eh222, sr222, fr222⟩ := hQ222
          have N222 := Fr.app N181 Nq222
          refine own_of (fun tt_ kk_ => st222.trans kk_) ?_
          show own_go p e below s _ _ _ (T222.setTop (mkF m 219 #[.val (.long ja), .second, .val (.long jb), .second, .val (.long jc), .second, .val (.long jd), .second, .val (.int sl), .val (.ref b1), .val (.int 3), .val (.long z148), .second, .val (.long z149), .second, .val (.ref b150), .val (.ref b153), .val (.ref b156), .val (.ref b159), .val (.int 1)] [(.int (own_bit W181 r222))]))
          refine own_of (fun tt_ => XS.iload X222.here hx rfl (hb hby at_219) rfl) ?_
          have hb221_223 : (own_bit W181 r222) = (1 : Int32) := (own_bit01 _ _).resolve_left ((own_inv_has I181 sr222 fr222).mpr (Or.inl (Or.inr ⟨(lw_eq _ _).mp hb172_219, (lw_eq _ _).mp hb180_220⟩)))
          refine own_of (fun tt_ => XS.icmpNo X222.here hx rfl (hb hby at_221) rfl (teq hb221_223).2) ?_
          show own_go p e below s _ _ _ (T222.setTop (mkF m 224 #[.val (.long ja), .second, .val (.long jb), .second, .val (.long jc), .second, .val (.long jd), .second, .val (.int sl), .val (.ref b1), .val (.int 3), .val (.long z148), .second, .val (.long z149), .second, .val (.ref b150), .val (.ref b153), .val (.ref b156), .val (.ref b159), .val (.int 1)] []))
          refine own_of (fun tt_ => XS.iconst X222.here hx rfl (hb hby at_224)) ?_
          refine own_of (fun tt_ => XS.goto X222.here hx rfl (pc0 := 225) (pc' := 229) rfl (hb hby at_225) (by decide) (by decide)) ?_
          show own_go p e below s _ _ _ (T222.setTop (mkF m 229 #[.val (.long ja), .second, .val (.long jb), .second, .val (.long jc), .second, .val (.long jd), .second, .val (.int sl), .val (.ref b1), .val (.int 3), .val (.long z148), .second, .val (.long z149), .second, .val (.ref b150), .val (.ref b153), .val (.ref b156), .val (.ref b159), .val (.int 1)] [(.int 1)]))
          refine own_ret X222 hx hlk Bd.returns rfl (Or.inl ⟨rfl, by simp, _, rfl⟩) (hb hby at_229) (by decide) (by decide) ?_
          rw [eh222]
          exact ⟨rfl, N222⟩
        · refine own_of (fun tt_ => XS.ifNo X181.here hx rfl (hb hby at_180) rfl ((if0 _ _).trans (feq hb180_220).1)) ?_
          show own_go p e below s _ _ _ (T181.setTop (mkF m 183 #[.val (.long ja), .second, .val (.long jb), .second, .val (.long jc), .second, .val (.long jd), .second, .val (.int sl), .val (.ref b1), .val (.int 3), .val (.long z148), .second, .val (.long z149), .second, .val (.ref b150), .val (.ref b153), .val (.ref b156), .val (.ref b159), .unset] []))
          refine own_of (fun tt_ => XS.iload X181.here hx rfl (hb hby at_183) rfl) ?_
          refine own_of (fun tt_ => XS.iconst X181.here hx rfl (hb hby at_185)) ?_
          have hb186_224 : ¬ ((3 : Int32) < (3 : Int32)) := by decide
          refine own_of (fun tt_ => XS.icmpNo X181.here hx rfl (hb hby at_186) rfl (flt hb186_224).1) ?_
          show own_go p e below s _ _ _ (T181.setTop (mkF m 189 #[.val (.long ja), .second, .val (.long jb), .second, .val (.long jc), .second, .val (.long jd), .second, .val (.int sl), .val (.ref b1), .val (.int 3), .val (.long z148), .second, .val (.long z149), .second, .val (.ref b150), .val (.ref b153), .val (.ref b156), .val (.ref b159), .unset] []))
          refine own_of (fun tt_ => XS.lload X181.here hx rfl (hb hby at_189) rfl) ?_
          refine own_of (fun tt_ => XS.lload X181.here hx rfl (hb hby at_191) rfl) ?_
          refine own_of (fun tt_ => XS.lcmp X181.here hx rfl (hb hby at_193) rfl) ?_
          show own_go p e below s _ _ _ (T181.setTop (mkF m 194 #[.val (.long ja), .second, .val (.long jb), .second, .val (.long jc), .second, .val (.long jd), .second, .val (.int sl), .val (.ref b1), .val (.int 3), .val (.long z148), .second, .val (.long z149), .second, .val (.ref b150), .val (.ref b153), .val (.ref b156), .val (.ref b159), .unset] [(.int (lcmpW z148 jc))]))
          by_cases hb194_225 : (lcmpW z148 jc) = (0 : Int32)
          · refine own_of (fun tt_ => XS.ifNo X181.here hx rfl (hb hby at_194) rfl ((if0 _ _).trans (teq hb194_225).2)) ?_
            show own_go p e below s _ _ _ (T181.setTop (mkF m 197 #[.val (.long ja), .second, .val (.long jb), .second, .val (.long jc), .second, .val (.long jd), .second, .val (.int sl), .val (.ref b1), .val (.int 3), .val (.long z148), .second, .val (.long z149), .second, .val (.ref b150), .val (.ref b153), .val (.ref b156), .val (.ref b159), .unset] []))
            refine own_of (fun tt_ => XS.lload X181.here hx rfl (hb hby at_197) rfl) ?_
            refine own_of (fun tt_ => XS.lload X181.here hx rfl (hb hby at_199) rfl) ?_
            refine own_of (fun tt_ => XS.lcmp X181.here hx rfl (hb hby at_201) rfl) ?_
            show own_go p e below s _ _ _ (T181.setTop (mkF m 202 #[.val (.long ja), .second, .val (.long jb), .second, .val (.long jc), .second, .val (.long jd), .second, .val (.int sl), .val (.ref b1), .val (.int 3), .val (.long z148), .second, .val (.long z149), .second, .val (.ref b150), .val (.ref b153), .val (.ref b156), .val (.ref b159), .unset] [(.int (lcmpW z149 jd))]))
            by_cases hb202_226 : (lcmpW z149 jd) = (0 : Int32)
            · refine own_of (fun tt_ => XS.ifNo X181.here hx rfl (hb hby at_202) rfl ((if0 _ _).trans (teq hb202_226).2)) ?_
              show own_go p e below s _ _ _ (T181.setTop (mkF m 205 #[.val (.long ja), .second, .val (.long jb), .second, .val (.long jc), .second, .val (.long jd), .second, .val (.int sl), .val (.ref b1), .val (.int 3), .val (.long z148), .second, .val (.long z149), .second, .val (.ref b150), .val (.ref b153), .val (.ref b156), .val (.ref b159), .unset] []))
              refine own_of (fun tt_ => XS.iconst X181.here hx rfl (hb hby at_205)) ?_
              refine own_of (fun tt_ => XS.goto X181.here hx rfl (pc0 := 206) (pc' := 210) rfl (hb hby at_206) (by decide) (by decide)) ?_
              refine own_of (fun tt_ => XS.istore X181.here hx rfl (hb hby at_210) rfl (l' := #[.val (.long ja), .second, .val (.long jb), .second, .val (.long jc), .second, .val (.long jd), .second, .val (.int sl), .val (.ref b1), .val (.int 3), .val (.long z148), .second, .val (.long z149), .second, .val (.ref b150), .val (.ref b153), .val (.ref b156), .val (.ref b159), .val (.int 1)]) rfl) ?_
              refine own_of (fun tt_ => XS.aload X181.here hx rfl (hb hby at_212) rfl rfl) ?_
              refine own_of (fun tt_ => XS.aload X181.here hx rfl (hb hby at_214) rfl rfl) ?_
              show own_go p e below s _ _ _ (T181.setTop (mkF m 216 #[.val (.long ja), .second, .val (.long jb), .second, .val (.long jc), .second, .val (.long jd), .second, .val (.int sl), .val (.ref b1), .val (.int 3), .val (.long z148), .second, .val (.long z149), .second, .val (.ref b150), .val (.ref b153), .val (.ref b156), .val (.ref b159), .val (.int 1)] [(.ref b159), (.ref b1)]))
              have f227 : Arv Z T181.heap b159 k159 .long (2 : Int32) [(.long z148), (.long z149)] (.long 0) := (((V161.keep Kp175 (ninS (own_ne (by omega)) (ninS (own_ne (by omega)) (ninS (own_ne (by omega)) (ninS (own_ne (by omega)) nin0))))).keep Kp178 (ninS (own_ne (by omega)) (ninS (own_ne (by omega)) (ninS (own_ne (by omega)) (ninS (own_ne (by omega)) nin0))))).keep Kp181 (ninS (own_ne (by omega)) (ninS (own_ne (by omega)) (ninS (own_ne (by omega)) (ninS (own_ne (by omega)) nin0)))))
              obtain ⟨cq228, kq228, q228a, q228b, q228c⟩ := isOf hZ rfl u181_0
              obtain ⟨_, _, ⟨T228, L228, k228, n228⟩, -, X228, ⟨Lc228, hQ228, l228, y228, z228⟩, st228⟩ := X181.virtualBack hx (y := ym0) (z := ym0) hown (mvT hZ (hW 113 _ rfl)) (mvT hZ (hW 114 _ rfl)) (notFace_of_selects (args := #[]) (mvT hZ (hW 116 _ rfl))) (mvT hZ (hW 116 _ rfl)) (mvT hZ (hW 115 _ rfl)) (by decide) (backOf (W := 0) (rmCon1 l Z a0 hw [] b1 pa2 bq2 wa2 p175 ka2 kw2 kp175 W181 J0181 J1181 zz181 b159 k159 z148 z149 T181.heap n0 O181 S_ad ⟨u181_0, u181_1, u181_2, u181_3, u181_4, u181_5, u181_6, u181_7, u181_8, u181_9, u181_10, u181_11⟩ f227 (own_inv_free I181 (by simp) (own_hash_s _ _))) hZ (hW 117 _ rfl) (hW 2 _ rfl) (by decide) (by decide)) q228a q228c (g := (mkF m 216 #[.val (.long ja), .second, .val (.long jb), .second, .val (.long jc), .second, .val (.long jd), .second, .val (.int sl), .val (.ref b1), .val (.int 3), .val (.long z148), .second, .val (.long z149), .second, .val (.ref b150), .val (.ref b153), .val (.ref b156), .val (.ref b159), .val (.int 1)] [(.ref b159), (.ref b1)])) rfl (by rw [hml]; rfl) (Steps.refl _) (argsL := [(.ref b159)]) (rest := []) (lenOf pd_11 rfl) rfl (by show 2 * 0 + _ ≤ _; exact Nat.le_of_eq rfl) (hb hby at_216) (fun _ _ => ⟨rfl, rfl, (by decide : 9 + 0 ≤ _), (by decide : 50 + 0 ≤ _)⟩)
              dsimp only [Pt.U, Pt.locs, Pt.cells, Pt.slots] at X228 l228 y228 z228 st228 hQ228
              subst l228 y228 z228
              obtain ⟨r228, rfl, Nq228, eh228, sr228, fr228⟩ := hQ228
              have N228 := Fr.app N181 Nq228
              refine own_of (fun tt_ kk_ => st228.trans kk_) ?_
              show own_go p e below s _ _ _ (T228.setTop (mkF m 219 #[.val (.long ja), .second, .val (.long jb), .second, .val (.long jc), .second, .val (.long jd), .second, .val (.int sl), .val (.ref b1), .val (.int 3), .val (.long z148), .second, .val (.long z149), .second, .val (.ref b150), .val (.ref b153), .val (.ref b156), .val (.ref b159), .val (.int 1)] [(.int (own_bit W181 r228))]))
              refine own_of (fun tt_ => XS.iload X228.here hx rfl (hb hby at_219) rfl) ?_
              have hb221_229 : (own_bit W181 r228) = (1 : Int32) := (own_bit01 _ _).resolve_left ((own_inv_has I181 sr228 fr228).mpr (Or.inr ⟨(lw_eq _ _).mp hb194_225, (lw_eq _ _).mp hb202_226⟩))
              refine own_of (fun tt_ => XS.icmpNo X228.here hx rfl (hb hby at_221) rfl (teq hb221_229).2) ?_
              show own_go p e below s _ _ _ (T228.setTop (mkF m 224 #[.val (.long ja), .second, .val (.long jb), .second, .val (.long jc), .second, .val (.long jd), .second, .val (.int sl), .val (.ref b1), .val (.int 3), .val (.long z148), .second, .val (.long z149), .second, .val (.ref b150), .val (.ref b153), .val (.ref b156), .val (.ref b159), .val (.int 1)] []))
              refine own_of (fun tt_ => XS.iconst X228.here hx rfl (hb hby at_224)) ?_
              refine own_of (fun tt_ => XS.goto X228.here hx rfl (pc0 := 225) (pc' := 229) rfl (hb hby at_225) (by decide) (by decide)) ?_
              show own_go p e below s _ _ _ (T228.setTop (mkF m 229 #[.val (.long ja), .second, .val (.long jb), .second, .val (.long jc), .second, .val (.long jd), .second, .val (.int sl), .val (.ref b1), .val (.int 3), .val (.long z148), .second, .val (.long z149), .second, .val (.ref b150), .val (.ref b153), .val (.ref b156), .val (.ref b159), .val (.int 1)] [(.int 1)]))
              refine own_ret X228 hx hlk Bd.returns rfl (Or.inl ⟨rfl, by simp, _, rfl⟩) (hb hby at_229) (by decide) (by decide) ?_
              rw [eh228]
              exact ⟨rfl, N228⟩
            · refine own_of (fun tt_ => XS.ifYes X181.here hx rfl (pc0 := 202) (pc' := 209) rfl (hb hby at_202) rfl ((if0 _ _).trans (feq hb202_226).2) (by decide) (by decide)) ?_
              show own_go p e below s _ _ _ (T181.setTop (mkF m 209 #[.val (.long ja), .second, .val (.long jb), .second, .val (.long jc), .second, .val (.long jd), .second, .val (.int sl), .val (.ref b1), .val (.int 3), .val (.long z148), .second, .val (.long z149), .second, .val (.ref b150), .val (.ref b153), .val (.ref b156), .val (.ref b159), .unset] []))
              refine own_of (fun tt_ => XS.iconst X181.here hx rfl (hb hby at_209)) ?_
              refine own_of (fun tt_ => XS.istore X181.here hx rfl (hb hby at_210) rfl (l' := #[.val (.long ja), .second, .val (.long jb), .second, .val (.long jc), .second, .val (.long jd), .second, .val (.int sl), .val (.ref b1), .val (.int 3), .val (.long z148), .second, .val (.long z149), .second, .val (.ref b150), .val (.ref b153), .val (.ref b156), .val (.ref b159), .val (.int 0)]) rfl) ?_
              refine own_of (fun tt_ => XS.aload X181.here hx rfl (hb hby at_212) rfl rfl) ?_
              refine own_of (fun tt_ => XS.aload X181.here hx rfl (hb hby at_214) rfl rfl) ?_
              show own_go p e below s _ _ _ (T181.setTop (mkF m 216 #[.val (.long ja), .second, .val (.long jb), .second, .val (.long jc), .second, .val (.long jd), .second, .val (.int sl), .val (.ref b1), .val (.int 3), .val (.long z148), .second, .val (.long z149), .second, .val (.ref b150), .val (.ref b153), .val (.ref b156), .val (.ref b159), .val (.int 0)] [(.ref b159), (.ref b1)]))
              have f230 : Arv Z T181.heap b159 k159 .long (2 : Int32) [(.long z148), (.long z149)] (.long 0) := (((V161.keep Kp175 (ninS (own_ne (by omega)) (ninS (own_ne (by omega)) (ninS (own_ne (by omega)) (ninS (own_ne (by omega)) nin0))))).keep Kp178 (ninS (own_ne (by omega)) (ninS (own_ne (by omega)) (ninS (own_ne (by omega)) (ninS (own_ne (by omega)) nin0))))).keep Kp181 (ninS (own_ne (by omega)) (ninS (own_ne (by omega)) (ninS (own_ne (by omega)) (ninS (own_ne (by omega)) nin0)))))
              obtain ⟨cq231, kq231, q231a, q231b, q231c⟩ := isOf hZ rfl u181_0
              obtain ⟨_, _, ⟨T231, L231, k231, n231⟩, -, X231, ⟨Lc231, hQ231, l231, y231, z231⟩, st231⟩ := X181.virtualBack hx (y := ym0) (z := ym0) hown (mvT hZ (hW 113 _ rfl)) (mvT hZ (hW 114 _ rfl)) (notFace_of_selects (args := #[]) (mvT hZ (hW 116 _ rfl))) (mvT hZ (hW 116 _ rfl)) (mvT hZ (hW 115 _ rfl)) (by decide) (backOf (W := 0) (rmCon1 l Z a0 hw [] b1 pa2 bq2 wa2 p175 ka2 kw2 kp175 W181 J0181 J1181 zz181 b159 k159 z148 z149 T181.heap n0 O181 S_ad ⟨u181_0, u181_1, u181_2, u181_3, u181_4, u181_5, u181_6, u181_7, u181_8, u181_9, u181_10, u181_11⟩ f230 (own_inv_free I181 (by simp) (own_hash_s _ _))) hZ (hW 117 _ rfl) (hW 2 _ rfl) (by decide) (by decide)) q231a q231c (g := (mkF m 216 #[.val (.long ja), .second, .val (.long jb), .second, .val (.long jc), .second, .val (.long jd), .second, .val (.int sl), .val (.ref b1), .val (.int 3), .val (.long z148), .second, .val (.long z149), .second, .val (.ref b150), .val (.ref b153), .val (.ref b156), .val (.ref b159), .val (.int 0)] [(.ref b159), (.ref b1)])) rfl (by rw [hml]; rfl) (Steps.refl _) (argsL := [(.ref b159)]) (rest := []) (lenOf pd_11 rfl) rfl (by show 2 * 0 + _ ≤ _; exact Nat.le_of_eq rfl) (hb hby at_216) (fun _ _ => ⟨rfl, rfl, (by decide : 9 + 0 ≤ _), (by decide : 50 + 0 ≤ _)⟩)
              dsimp only [Pt.U, Pt.locs, Pt.cells, Pt.slots] at X231 l231 y231 z231 st231 hQ231
              subst l231 y231 z231
              obtain ⟨r231, rfl, Nq231, eh231, sr231, fr231⟩ := hQ231
              have N231 := Fr.app N181 Nq231
              refine own_of (fun tt_ kk_ => st231.trans kk_) ?_
              show own_go p e below s _ _ _ (T231.setTop (mkF m 219 #[.val (.long ja), .second, .val (.long jb), .second, .val (.long jc), .second, .val (.long jd), .second, .val (.int sl), .val (.ref b1), .val (.int 3), .val (.long z148), .second, .val (.long z149), .second, .val (.ref b150), .val (.ref b153), .val (.ref b156), .val (.ref b159), .val (.int 0)] [(.int (own_bit W181 r231))]))
              refine own_of (fun tt_ => XS.iload X231.here hx rfl (hb hby at_219) rfl) ?_
              have hb221_232 : (own_bit W181 r231) = (0 : Int32) := Classical.byContradiction fun q => (fun s => Or.elim s (fun s => Or.elim s (fun s => Or.elim s (fun f => f) (fun q => hb152_183 ((lw_eq _ _).mpr q.1))) (fun q => hb180_220 ((lw_eq _ _).mpr q.2))) (fun q => hb202_226 ((lw_eq _ _).mpr q.2))) ((own_inv_has I181 sr231 fr231).mp q)
              refine own_of (fun tt_ => XS.icmpNo X231.here hx rfl (hb hby at_221) rfl (teq hb221_232).2) ?_
              show own_go p e below s _ _ _ (T231.setTop (mkF m 224 #[.val (.long ja), .second, .val (.long jb), .second, .val (.long jc), .second, .val (.long jd), .second, .val (.int sl), .val (.ref b1), .val (.int 3), .val (.long z148), .second, .val (.long z149), .second, .val (.ref b150), .val (.ref b153), .val (.ref b156), .val (.ref b159), .val (.int 0)] []))
              refine own_of (fun tt_ => XS.iconst X231.here hx rfl (hb hby at_224)) ?_
              refine own_of (fun tt_ => XS.goto X231.here hx rfl (pc0 := 225) (pc' := 229) rfl (hb hby at_225) (by decide) (by decide)) ?_
              show own_go p e below s _ _ _ (T231.setTop (mkF m 229 #[.val (.long ja), .second, .val (.long jb), .second, .val (.long jc), .second, .val (.long jd), .second, .val (.int sl), .val (.ref b1), .val (.int 3), .val (.long z148), .second, .val (.long z149), .second, .val (.ref b150), .val (.ref b153), .val (.ref b156), .val (.ref b159), .val (.int 0)] [(.int 1)]))
              refine own_ret X231 hx hlk Bd.returns rfl (Or.inl ⟨rfl, by simp, _, rfl⟩) (hb hby at_229) (by decide) (by decide) ?_
              rw [eh231]
              exact ⟨rfl, N231⟩
          · refine own_of (fun tt_ => XS.ifYes X181.here hx rfl (pc0 := 194) (pc' := 209) rfl (hb hby at_194) rfl ((if0 _ _).trans (feq hb194_225).2) (by decide) (by decide)) ?_
            show own_go p e below s _ _ _ (T181.setTop (mkF m 209 #[.val (.long ja), .second, .val (.long jb), .second, .val (.long jc), .second, .val (.long jd), .second, .val (.int sl), .val (.ref b1), .val (.int 3), .val (.long z148), .second, .val (.long z149), .second, .val (.ref b150), .val (.ref b153), .val (.ref b156), .val (.ref b159), .unset] []))
            refine own_of (fun tt_ => XS.iconst X181.here hx rfl (hb hby at_209)) ?_
            refine own_of (fun tt_ => XS.istore X181.here hx rfl (hb hby at_210) rfl (l' := #[.val (.long ja), .second, .val (.long jb), .second, .val (.long jc), .second, .val (.long jd), .second, .val (.int sl), .val (.ref b1), .val (.int 3), .val (.long z148), .second, .val (.long z149), .second, .val (.ref b150), .val (.ref b153), .val (.ref b156), .val (.ref b159), .val (.int 0)]) rfl) ?_
            refine own_of (fun tt_ => XS.aload X181.here hx rfl (hb hby at_212) rfl rfl) ?_
            refine own_of (fun tt_ => XS.aload X181.here hx rfl (hb hby at_214) rfl rfl) ?_
            show own_go p e below s _ _ _ (T181.setTop (mkF m 216 #[.val (.long ja), .second, .val (.long jb), .second, .val (.long jc), .second, .val (.long jd), .second, .val (.int sl), .val (.ref b1), .val (.int 3), .val (.long z148), .second, .val (.long z149), .second, .val (.ref b150), .val (.ref b153), .val (.ref b156), .val (.ref b159), .val (.int 0)] [(.ref b159), (.ref b1)]))
            have f233 : Arv Z T181.heap b159 k159 .long (2 : Int32) [(.long z148), (.long z149)] (.long 0) := (((V161.keep Kp175 (ninS (own_ne (by omega)) (ninS (own_ne (by omega)) (ninS (own_ne (by omega)) (ninS (own_ne (by omega)) nin0))))).keep Kp178 (ninS (own_ne (by omega)) (ninS (own_ne (by omega)) (ninS (own_ne (by omega)) (ninS (own_ne (by omega)) nin0))))).keep Kp181 (ninS (own_ne (by omega)) (ninS (own_ne (by omega)) (ninS (own_ne (by omega)) (ninS (own_ne (by omega)) nin0)))))
            obtain ⟨cq234, kq234, q234a, q234b, q234c⟩ := isOf hZ rfl u181_0
            obtain ⟨_, _, ⟨T234, L234, k234, n234⟩, -, X234, ⟨Lc234, hQ234, l234, y234, z234⟩, st234⟩ := X181.virtualBack hx (y := ym0) (z := ym0) hown (mvT hZ (hW 113 _ rfl)) (mvT hZ (hW 114 _ rfl)) (notFace_of_selects (args := #[]) (mvT hZ (hW 116 _ rfl))) (mvT hZ (hW 116 _ rfl)) (mvT hZ (hW 115 _ rfl)) (by decide) (backOf (W := 0) (rmCon1 l Z a0 hw [] b1 pa2 bq2 wa2 p175 ka2 kw2 kp175 W181 J0181 J1181 zz181 b159 k159 z148 z149 T181.heap n0 O181 S_ad ⟨u181_0, u181_1, u181_2, u181_3, u181_4, u181_5, u181_6, u181_7, u181_8, u181_9, u181_10, u181_11⟩ f233 (own_inv_free I181 (by simp) (own_hash_s _ _))) hZ (hW 117 _ rfl) (hW 2 _ rfl) (by decide) (by decide)) q234a q234c (g := (mkF m 216 #[.val (.long ja), .second, .val (.long jb), .second, .val (.long jc), .second, .val (.long jd), .second, .val (.int sl), .val (.ref b1), .val (.int 3), .val (.long z148), .second, .val (.long z149), .second, .val (.ref b150), .val (.ref b153), .val (.ref b156), .val (.ref b159), .val (.int 0)] [(.ref b159), (.ref b1)])) rfl (by rw [hml]; rfl) (Steps.refl _) (argsL := [(.ref b159)]) (rest := []) (lenOf pd_11 rfl) rfl (by show 2 * 0 + _ ≤ _; exact Nat.le_of_eq rfl) (hb hby at_216) (fun _ _ => ⟨rfl, rfl, (by decide : 9 + 0 ≤ _), (by decide : 50 + 0 ≤ _)⟩)
            dsimp only [Pt.U, Pt.locs, Pt.cells, Pt.slots] at X234 l234 y234 z234 st234 hQ234
            subst l234 y234 z234
            obtain ⟨r234, rfl, Nq234, eh234, sr234, fr234⟩ := hQ234
            have N234 := Fr.app N181 Nq234
            refine own_of (fun tt_ kk_ => st234.trans kk_) ?_
            show own_go p e below s _ _ _ (T234.setTop (mkF m 219 #[.val (.long ja), .second, .val (.long jb), .second, .val (.long jc), .second, .val (.long jd), .second, .val (.int sl), .val (.ref b1), .val (.int 3), .val (.long z148), .second, .val (.long z149), .second, .val (.ref b150), .val (.ref b153), .val (.ref b156), .val (.ref b159), .val (.int 0)] [(.int (own_bit W181 r234))]))
            refine own_of (fun tt_ => XS.iload X234.here hx rfl (hb hby at_219) rfl) ?_
            have hb221_235 : (own_bit W181 r234) = (0 : Int32) := Classical.byContradiction fun q => (fun s => Or.elim s (fun s => Or.elim s (fun s => Or.elim s (fun f => f) (fun q => hb152_183 ((lw_eq _ _).mpr q.1))) (fun q => hb180_220 ((lw_eq _ _).mpr q.2))) (fun q => hb194_225 ((lw_eq _ _).mpr q.1))) ((own_inv_has I181 sr234 fr234).mp q)
            refine own_of (fun tt_ => XS.icmpNo X234.here hx rfl (hb hby at_221) rfl (teq hb221_235).2) ?_
            show own_go p e below s _ _ _ (T234.setTop (mkF m 224 #[.val (.long ja), .second, .val (.long jb), .second, .val (.long jc), .second, .val (.long jd), .second, .val (.int sl), .val (.ref b1), .val (.int 3), .val (.long z148), .second, .val (.long z149), .second, .val (.ref b150), .val (.ref b153), .val (.ref b156), .val (.ref b159), .val (.int 0)] []))
            refine own_of (fun tt_ => XS.iconst X234.here hx rfl (hb hby at_224)) ?_
            refine own_of (fun tt_ => XS.goto X234.here hx rfl (pc0 := 225) (pc' := 229) rfl (hb hby at_225) (by decide) (by decide)) ?_
            show own_go p e below s _ _ _ (T234.setTop (mkF m 229 #[.val (.long ja), .second, .val (.long jb), .second, .val (.long jc), .second, .val (.long jd), .second, .val (.int sl), .val (.ref b1), .val (.int 3), .val (.long z148), .second, .val (.long z149), .second, .val (.ref b150), .val (.ref b153), .val (.ref b156), .val (.ref b159), .val (.int 0)] [(.int 1)]))
            refine own_ret X234 hx hlk Bd.returns rfl (Or.inl ⟨rfl, by simp, _, rfl⟩) (hb hby at_229) (by decide) (by decide) ?_
            rw [eh234]
            exact ⟨rfl, N234⟩
      · refine own_of (fun tt_ => XS.ifYes X181.here hx rfl (pc0 := 172) (pc' := 183) rfl (hb hby at_172) rfl ((if0 _ _).trans (feq hb172_219).2) (by decide) (by decide)) ?_
        show own_go p e below s _ _ _ (T181.setTop (mkF m 183 #[.val (.long ja), .second, .val (.long jb), .second, .val (.long jc), .second, .val (.long jd), .second, .val (.int sl), .val (.ref b1), .val (.int 3), .val (.long z148), .second, .val (.long z149), .second, .val (.ref b150), .val (.ref b153), .val (.ref b156), .val (.ref b159), .unset] []))
        refine own_of (fun tt_ => XS.iload X181.here hx rfl (hb hby at_183) rfl) ?_
        refine own_of (fun tt_ => XS.iconst X181.here hx rfl (hb hby at_185)) ?_
        have hb186_236 : ¬ ((3 : Int32) < (3 : Int32)) := by decide
        refine own_of (fun tt_ => XS.icmpNo X181.here hx rfl (hb hby at_186) rfl (flt hb186_236).1) ?_
        show own_go p e below s _ _ _ (T181.setTop (mkF m 189 #[.val (.long ja), .second, .val (.long jb), .second, .val (.long jc), .second, .val (.long jd), .second, .val (.int sl), .val (.ref b1), .val (.int 3), .val (.long z148), .second, .val (.long z149), .second, .val (.ref b150), .val (.ref b153), .val (.ref b156), .val (.ref b159), .unset] []))
        refine own_of (fun tt_ => XS.lload X181.here hx rfl (hb hby at_189) rfl) ?_
        refine own_of (fun tt_ => XS.lload X181.here hx rfl (hb hby at_191) rfl) ?_
        refine own_of (fun tt_ => XS.lcmp X181.here hx rfl (hb hby at_193) rfl) ?_
        show own_go p e below s _ _ _ (T181.setTop (mkF m 194 #[.val (.long ja), .second, .val (.long jb), .second, .val (.long jc), .second, .val (.long jd), .second, .val (.int sl), .val (.ref b1), .val (.int 3), .val (.long z148), .second, .val (.long z149), .second, .val (.ref b150), .val (.ref b153), .val (.ref b156), .val (.ref b159), .unset] [(.int (lcmpW z148 jc))]))
        by_cases hb194_237 : (lcmpW z148 jc) = (0 : Int32)
        · refine own_of (fun tt_ => XS.ifNo X181.here hx rfl (hb hby at_194) rfl ((if0 _ _).trans (teq hb194_237).2)) ?_
          show own_go p e below s _ _ _ (T181.setTop (mkF m 197 #[.val (.long ja), .second, .val (.long jb), .second, .val (.long jc), .second, .val (.long jd), .second, .val (.int sl), .val (.ref b1), .val (.int 3), .val (.long z148), .second, .val (.long z149), .second, .val (.ref b150), .val (.ref b153), .val (.ref b156), .val (.ref b159), .unset] []))
          refine own_of (fun tt_ => XS.lload X181.here hx rfl (hb hby at_197) rfl) ?_
          refine own_of (fun tt_ => XS.lload X181.here hx rfl (hb hby at_199) rfl) ?_
          refine own_of (fun tt_ => XS.lcmp X181.here hx rfl (hb hby at_201) rfl) ?_
          show own_go p e below s _ _ _ (T181.setTop (mkF m 202 #[.val (.long ja), .second, .val (.long jb), .second, .val (.long jc), .second, .val (.long jd), .second, .val (.int sl), .val (.ref b1), .val (.int 3), .val (.long z148), .second, .val (.long z149), .second, .val (.ref b150), .val (.ref b153), .val (.ref b156), .val (.ref b159), .unset] [(.int (lcmpW z149 jd))]))
          by_cases hb202_238 : (lcmpW z149 jd) = (0 : Int32)
          · refine own_of (fun tt_ => XS.ifNo X181.here hx rfl (hb hby at_202) rfl ((if0 _ _).trans (teq hb202_238).2)) ?_
            show own_go p e below s _ _ _ (T181.setTop (mkF m 205 #[.val (.long ja), .second, .val (.long jb), .second, .val (.long jc), .second, .val (.long jd), .second, .val (.int sl), .val (.ref b1), .val (.int 3), .val (.long z148), .second, .val (.long z149), .second, .val (.ref b150), .val (.ref b153), .val (.ref b156), .val (.ref b159), .unset] []))
            refine own_of (fun tt_ => XS.iconst X181.here hx rfl (hb hby at_205)) ?_
            refine own_of (fun tt_ => XS.goto X181.here hx rfl (pc0 := 206) (pc' := 210) rfl (hb hby at_206) (by decide) (by decide)) ?_
            refine own_of (fun tt_ => XS.istore X181.here hx rfl (hb hby at_210) rfl (l' := #[.val (.long ja), .second, .val (.long jb), .second, .val (.long jc), .second, .val (.long jd), .second, .val (.int sl), .val (.ref b1), .val (.int 3), .val (.long z148), .second, .val (.long z149), .second, .val (.ref b150), .val (.ref b153), .val (.ref b156), .val (.ref b159), .val (.int 1)]) rfl) ?_
            refine own_of (fun tt_ => XS.aload X181.here hx rfl (hb hby at_212) rfl rfl) ?_
            refine own_of (fun tt_ => XS.aload X181.here hx rfl (hb hby at_214) rfl rfl) ?_
            show own_go p e below s _ _ _ (T181.setTop (mkF m 216 #[.val (.long ja), .second, .val (.long jb), .second, .val (.long jc), .second, .val (.long jd), .second, .val (.int sl), .val (.ref b1), .val (.int 3), .val (.long z148), .second, .val (.long z149), .second, .val (.ref b150), .val (.ref b153), .val (.ref b156), .val (.ref b159), .val (.int 1)] [(.ref b159), (.ref b1)]))
            have f239 : Arv Z T181.heap b159 k159 .long (2 : Int32) [(.long z148), (.long z149)] (.long 0) := (((V161.keep Kp175 (ninS (own_ne (by omega)) (ninS (own_ne (by omega)) (ninS (own_ne (by omega)) (ninS (own_ne (by omega)) nin0))))).keep Kp178 (ninS (own_ne (by omega)) (ninS (own_ne (by omega)) (ninS (own_ne (by omega)) (ninS (own_ne (by omega)) nin0))))).keep Kp181 (ninS (own_ne (by omega)) (ninS (own_ne (by omega)) (ninS (own_ne (by omega)) (ninS (own_ne (by omega)) nin0)))))
            obtain ⟨cq240, kq240, q240a, q240b, q240c⟩ := isOf hZ rfl u181_0
            obtain ⟨_, _, ⟨T240, L240, k240, n240⟩, -, X240, ⟨Lc240, hQ240, l240, y240, z240⟩, st240⟩ := X181.virtualBack hx (y := ym0) (z := ym0) hown (mvT hZ (hW 113 _ rfl)) (mvT hZ (hW 114 _ rfl)) (notFace_of_selects (args := #[]) (mvT hZ (hW 116 _ rfl))) (mvT hZ (hW 116 _ rfl)) (mvT hZ (hW 115 _ rfl)) (by decide) (backOf (W := 0) (rmCon1 l Z a0 hw [] b1 pa2 bq2 wa2 p175 ka2 kw2 kp175 W181 J0181 J1181 zz181 b159 k159 z148 z149 T181.heap n0 O181 S_ad ⟨u181_0, u181_1, u181_2, u181_3, u181_4, u181_5, u181_6, u181_7, u181_8, u181_9, u181_10, u181_11⟩ f239 (own_inv_free I181 (by simp) (own_hash_s _ _))) hZ (hW 117 _ rfl) (hW 2 _ rfl) (by decide) (by decide)) q240a q240c (g := (mkF m 216 #[.val (.long ja), .second, .val (.long jb), .second, .val (.long jc), .second, .val (.long jd), .second, .val (.int sl), .val (.ref b1), .val (.int 3), .val (.long z148), .second, .val (.long z149), .second, .val (.ref b150), .val (.ref b153), .val (.ref b156), .val (.ref b159), .val (.int 1)] [(.ref b159), (.ref b1)])) rfl (by rw [hml]; rfl) (Steps.refl _) (argsL := [(.ref b159)]) (rest := []) (lenOf pd_11 rfl) rfl (by show 2 * 0 + _ ≤ _; exact Nat.le_of_eq rfl) (hb hby at_216) (fun _ _ => ⟨rfl, rfl, (by decide : 9 + 0 ≤ _), (by decide : 50 + 0 ≤ _)⟩)
            dsimp only [Pt.U, Pt.locs, Pt.cells, Pt.slots] at X240 l240 y240 z240 st240 hQ240
            subst l240 y240 z240
            obtain ⟨r240, rfl, Nq240, eh240, sr240, fr240⟩ := hQ240
            have N240 := Fr.app N181 Nq240
            refine own_of (fun tt_ kk_ => st240.trans kk_) ?_
            show own_go p e below s _ _ _ (T240.setTop (mkF m 219 #[.val (.long ja), .second, .val (.long jb), .second, .val (.long jc), .second, .val (.long jd), .second, .val (.int sl), .val (.ref b1), .val (.int 3), .val (.long z148), .second, .val (.long z149), .second, .val (.ref b150), .val (.ref b153), .val (.ref b156), .val (.ref b159), .val (.int 1)] [(.int (own_bit W181 r240))]))
            refine own_of (fun tt_ => XS.iload X240.here hx rfl (hb hby at_219) rfl) ?_
            have hb221_241 : (own_bit W181 r240) = (1 : Int32) := (own_bit01 _ _).resolve_left ((own_inv_has I181 sr240 fr240).mpr (Or.inr ⟨(lw_eq _ _).mp hb194_237, (lw_eq _ _).mp hb202_238⟩))
            refine own_of (fun tt_ => XS.icmpNo X240.here hx rfl (hb hby at_221) rfl (teq hb221_241).2) ?_
            show own_go p e below s _ _ _ (T240.setTop (mkF m 224 #[.val (.long ja), .second, .val (.long jb), .second, .val (.long jc), .second, .val (.long jd), .second, .val (.int sl), .val (.ref b1), .val (.int 3), .val (.long z148), .second, .val (.long z149), .second, .val (.ref b150), .val (.ref b153), .val (.ref b156), .val (.ref b159), .val (.int 1)] []))
            refine own_of (fun tt_ => XS.iconst X240.here hx rfl (hb hby at_224)) ?_
            refine own_of (fun tt_ => XS.goto X240.here hx rfl (pc0 := 225) (pc' := 229) rfl (hb hby at_225) (by decide) (by decide)) ?_
            show own_go p e below s _ _ _ (T240.setTop (mkF m 229 #[.val (.long ja), .second, .val (.long jb), .second, .val (.long jc), .second, .val (.long jd), .second, .val (.int sl), .val (.ref b1), .val (.int 3), .val (.long z148), .second, .val (.long z149), .second, .val (.ref b150), .val (.ref b153), .val (.ref b156), .val (.ref b159), .val (.int 1)] [(.int 1)]))
            refine own_ret X240 hx hlk Bd.returns rfl (Or.inl ⟨rfl, by simp, _, rfl⟩) (hb hby at_229) (by decide) (by decide) ?_
            rw [eh240]
            exact ⟨rfl, N240⟩
          · refine own_of (fun tt_ => XS.ifYes X181.here hx rfl (pc0 := 202) (pc' := 209) rfl (hb hby at_202) rfl ((if0 _ _).trans (feq hb202_238).2) (by decide) (by decide)) ?_
            show own_go p e below s _ _ _ (T181.setTop (mkF m 209 #[.val (.long ja), .second, .val (.long jb), .second, .val (.long jc), .second, .val (.long jd), .second, .val (.int sl), .val (.ref b1), .val (.int 3), .val (.long z148), .second, .val (.long z149), .second, .val (.ref b150), .val (.ref b153), .val (.ref b156), .val (.ref b159), .unset] []))
            refine own_of (fun tt_ => XS.iconst X181.here hx rfl (hb hby at_209)) ?_
            refine own_of (fun tt_ => XS.istore X181.here hx rfl (hb hby at_210) rfl (l' := #[.val (.long ja), .second, .val (.long jb), .second, .val (.long jc), .second, .val (.long jd), .second, .val (.int sl), .val (.ref b1), .val (.int 3), .val (.long z148), .second, .val (.long z149), .second, .val (.ref b150), .val (.ref b153), .val (.ref b156), .val (.ref b159), .val (.int 0)]) rfl) ?_
            refine own_of (fun tt_ => XS.aload X181.here hx rfl (hb hby at_212) rfl rfl) ?_
            refine own_of (fun tt_ => XS.aload X181.here hx rfl (hb hby at_214) rfl rfl) ?_
            show own_go p e below s _ _ _ (T181.setTop (mkF m 216 #[.val (.long ja), .second, .val (.long jb), .second, .val (.long jc), .second, .val (.long jd), .second, .val (.int sl), .val (.ref b1), .val (.int 3), .val (.long z148), .second, .val (.long z149), .second, .val (.ref b150), .val (.ref b153), .val (.ref b156), .val (.ref b159), .val (.int 0)] [(.ref b159), (.ref b1)]))
            have f242 : Arv Z T181.heap b159 k159 .long (2 : Int32) [(.long z148), (.long z149)] (.long 0) := (((V161.keep Kp175 (ninS (own_ne (by omega)) (ninS (own_ne (by omega)) (ninS (own_ne (by omega)) (ninS (own_ne (by omega)) nin0))))).keep Kp178 (ninS (own_ne (by omega)) (ninS (own_ne (by omega)) (ninS (own_ne (by omega)) (ninS (own_ne (by omega)) nin0))))).keep Kp181 (ninS (own_ne (by omega)) (ninS (own_ne (by omega)) (ninS (own_ne (by omega)) (ninS (own_ne (by omega)) nin0)))))
            obtain ⟨cq243, kq243, q243a, q243b, q243c⟩ := isOf hZ rfl u181_0
            obtain ⟨_, _, ⟨T243, L243, k243, n243⟩, -, X243, ⟨Lc243, hQ243, l243, y243, z243⟩, st243⟩ := X181.virtualBack hx (y := ym0) (z := ym0) hown (mvT hZ (hW 113 _ rfl)) (mvT hZ (hW 114 _ rfl)) (notFace_of_selects (args := #[]) (mvT hZ (hW 116 _ rfl))) (mvT hZ (hW 116 _ rfl)) (mvT hZ (hW 115 _ rfl)) (by decide) (backOf (W := 0) (rmCon1 l Z a0 hw [] b1 pa2 bq2 wa2 p175 ka2 kw2 kp175 W181 J0181 J1181 zz181 b159 k159 z148 z149 T181.heap n0 O181 S_ad ⟨u181_0, u181_1, u181_2, u181_3, u181_4, u181_5, u181_6, u181_7, u181_8, u181_9, u181_10, u181_11⟩ f242 (own_inv_free I181 (by simp) (own_hash_s _ _))) hZ (hW 117 _ rfl) (hW 2 _ rfl) (by decide) (by decide)) q243a q243c (g := (mkF m 216 #[.val (.long ja), .second, .val (.long jb), .second, .val (.long jc), .second, .val (.long jd), .second, .val (.int sl), .val (.ref b1), .val (.int 3), .val (.long z148), .second, .val (.long z149), .second, .val (.ref b150), .val (.ref b153), .val (.ref b156), .val (.ref b159), .val (.int 0)] [(.ref b159), (.ref b1)])) rfl (by rw [hml]; rfl) (Steps.refl _) (argsL := [(.ref b159)]) (rest := []) (lenOf pd_11 rfl) rfl (by show 2 * 0 + _ ≤ _; exact Nat.le_of_eq rfl) (hb hby at_216) (fun _ _ => ⟨rfl, rfl, (by decide : 9 + 0 ≤ _), (by decide : 50 + 0 ≤ _)⟩)
            dsimp only [Pt.U, Pt.locs, Pt.cells, Pt.slots] at X243 l243 y243 z243 st243 hQ243
            subst l243 y243 z243
            obtain ⟨r243, rfl, Nq243, eh243, sr243, fr243⟩ := hQ243
            have N243 := Fr.app N181 Nq243
            refine own_of (fun tt_ kk_ => st243.trans kk_) ?_
            show own_go p e below s _ _ _ (T243.setTop (mkF m 219 #[.val (.long ja), .second, .val (.long jb), .second, .val (.long jc), .second, .val (.long jd), .second, .val (.int sl), .val (.ref b1), .val (.int 3), .val (.long z148), .second, .val (.long z149), .second, .val (.ref b150), .val (.ref b153), .val (.ref b156), .val (.ref b159), .val (.int 0)] [(.int (own_bit W181 r243))]))
            refine own_of (fun tt_ => XS.iload X243.here hx rfl (hb hby at_219) rfl) ?_
            have hb221_244 : (own_bit W181 r243) = (0 : Int32) := Classical.byContradiction fun q => (fun s => Or.elim s (fun s => Or.elim s (fun s => Or.elim s (fun f => f) (fun q => hb152_183 ((lw_eq _ _).mpr q.1))) (fun q => hb172_219 ((lw_eq _ _).mpr q.1))) (fun q => hb202_238 ((lw_eq _ _).mpr q.2))) ((own_inv_has I181 sr243 fr243).mp q)
            refine own_of (fun tt_ => XS.icmpNo X243.here hx rfl (hb hby at_221) rfl (teq hb221_244).2) ?_
            show own_go p e below s _ _ _ (T243.setTop (mkF m 224 #[.val (.long ja), .second, .val (.long jb), .second, .val (.long jc), .second, .val (.long jd), .second, .val (.int sl), .val (.ref b1), .val (.int 3), .val (.long z148), .second, .val (.long z149), .second, .val (.ref b150), .val (.ref b153), .val (.ref b156), .val (.ref b159), .val (.int 0)] []))
            refine own_of (fun tt_ => XS.iconst X243.here hx rfl (hb hby at_224)) ?_
            refine own_of (fun tt_ => XS.goto X243.here hx rfl (pc0 := 225) (pc' := 229) rfl (hb hby at_225) (by decide) (by decide)) ?_
            show own_go p e below s _ _ _ (T243.setTop (mkF m 229 #[.val (.long ja), .second, .val (.long jb), .second, .val (.long jc), .second, .val (.long jd), .second, .val (.int sl), .val (.ref b1), .val (.int 3), .val (.long z148), .second, .val (.long z149), .second, .val (.ref b150), .val (.ref b153), .val (.ref b156), .val (.ref b159), .val (.int 0)] [(.int 1)]))
            refine own_ret X243 hx hlk Bd.returns rfl (Or.inl ⟨rfl, by simp, _, rfl⟩) (hb hby at_229) (by decide) (by decide) ?_
            rw [eh243]
            exact ⟨rfl, N243⟩
        · refine own_of (fun tt_ => XS.ifYes X181.here hx rfl (pc0 := 194) (pc' := 209) rfl (hb hby at_194) rfl ((if0 _ _).trans (feq hb194_237).2) (by decide) (by decide)) ?_
          show own_go p e below s _ _ _ (T181.setTop (mkF m 209 #[.val (.long ja), .second, .val (.long jb), .second, .val (.long jc), .second, .val (.long jd), .second, .val (.int sl), .val (.ref b1), .val (.int 3), .val (.long z148), .second, .val (.long z149), .second, .val (.ref b150), .val (.ref b153), .val (.ref b156), .val (.ref b159), .unset] []))
          refine own_of (fun tt_ => XS.iconst X181.here hx rfl (hb hby at_209)) ?_
          refine own_of (fun tt_ => XS.istore X181.here hx rfl (hb hby at_210) rfl (l' := #[.val (.long ja), .second, .val (.long jb), .second, .val (.long jc), .second, .val (.long jd), .second, .val (.int sl), .val (.ref b1), .val (.int 3), .val (.long z148), .second, .val (.long z149), .second, .val (.ref b150), .val (.ref b153), .val (.ref b156), .val (.ref b159), .val (.int 0)]) rfl) ?_
          refine own_of (fun tt_ => XS.aload X181.here hx rfl (hb hby at_212) rfl rfl) ?_
          refine own_of (fun tt_ => XS.aload X181.here hx rfl (hb hby at_214) rfl rfl) ?_
          show own_go p e below s _ _ _ (T181.setTop (mkF m 216 #[.val (.long ja), .second, .val (.long jb), .second, .val (.long jc), .second, .val (.long jd), .second, .val (.int sl), .val (.ref b1), .val (.int 3), .val (.long z148), .second, .val (.long z149), .second, .val (.ref b150), .val (.ref b153), .val (.ref b156), .val (.ref b159), .val (.int 0)] [(.ref b159), (.ref b1)]))
          have f245 : Arv Z T181.heap b159 k159 .long (2 : Int32) [(.long z148), (.long z149)] (.long 0) := (((V161.keep Kp175 (ninS (own_ne (by omega)) (ninS (own_ne (by omega)) (ninS (own_ne (by omega)) (ninS (own_ne (by omega)) nin0))))).keep Kp178 (ninS (own_ne (by omega)) (ninS (own_ne (by omega)) (ninS (own_ne (by omega)) (ninS (own_ne (by omega)) nin0))))).keep Kp181 (ninS (own_ne (by omega)) (ninS (own_ne (by omega)) (ninS (own_ne (by omega)) (ninS (own_ne (by omega)) nin0)))))
          obtain ⟨cq246, kq246, q246a, q246b, q246c⟩ := isOf hZ rfl u181_0
          obtain ⟨_, _, ⟨T246, L246, k246, n246⟩, -, X246, ⟨Lc246, hQ246, l246, y246, z246⟩, st246⟩ := X181.virtualBack hx (y := ym0) (z := ym0) hown (mvT hZ (hW 113 _ rfl)) (mvT hZ (hW 114 _ rfl)) (notFace_of_selects (args := #[]) (mvT hZ (hW 116 _ rfl))) (mvT hZ (hW 116 _ rfl)) (mvT hZ (hW 115 _ rfl)) (by decide) (backOf (W := 0) (rmCon1 l Z a0 hw [] b1 pa2 bq2 wa2 p175 ka2 kw2 kp175 W181 J0181 J1181 zz181 b159 k159 z148 z149 T181.heap n0 O181 S_ad ⟨u181_0, u181_1, u181_2, u181_3, u181_4, u181_5, u181_6, u181_7, u181_8, u181_9, u181_10, u181_11⟩ f245 (own_inv_free I181 (by simp) (own_hash_s _ _))) hZ (hW 117 _ rfl) (hW 2 _ rfl) (by decide) (by decide)) q246a q246c (g := (mkF m 216 #[.val (.long ja), .second, .val (.long jb), .second, .val (.long jc), .second, .val (.long jd), .second, .val (.int sl), .val (.ref b1), .val (.int 3), .val (.long z148), .second, .val (.long z149), .second, .val (.ref b150), .val (.ref b153), .val (.ref b156), .val (.ref b159), .val (.int 0)] [(.ref b159), (.ref b1)])) rfl (by rw [hml]; rfl) (Steps.refl _) (argsL := [(.ref b159)]) (rest := []) (lenOf pd_11 rfl) rfl (by show 2 * 0 + _ ≤ _; exact Nat.le_of_eq rfl) (hb hby at_216) (fun _ _ => ⟨rfl, rfl, (by decide : 9 + 0 ≤ _), (by decide : 50 + 0 ≤ _)⟩)
          dsimp only [Pt.U, Pt.locs, Pt.cells, Pt.slots] at X246 l246 y246 z246 st246 hQ246
          subst l246 y246 z246
          obtain ⟨r246, rfl, Nq246, eh246, sr246, fr246⟩ := hQ246
          have N246 := Fr.app N181 Nq246
          refine own_of (fun tt_ kk_ => st246.trans kk_) ?_
          show own_go p e below s _ _ _ (T246.setTop (mkF m 219 #[.val (.long ja), .second, .val (.long jb), .second, .val (.long jc), .second, .val (.long jd), .second, .val (.int sl), .val (.ref b1), .val (.int 3), .val (.long z148), .second, .val (.long z149), .second, .val (.ref b150), .val (.ref b153), .val (.ref b156), .val (.ref b159), .val (.int 0)] [(.int (own_bit W181 r246))]))
          refine own_of (fun tt_ => XS.iload X246.here hx rfl (hb hby at_219) rfl) ?_
          have hb221_247 : (own_bit W181 r246) = (0 : Int32) := Classical.byContradiction fun q => (fun s => Or.elim s (fun s => Or.elim s (fun s => Or.elim s (fun f => f) (fun q => hb152_183 ((lw_eq _ _).mpr q.1))) (fun q => hb172_219 ((lw_eq _ _).mpr q.1))) (fun q => hb194_237 ((lw_eq _ _).mpr q.1))) ((own_inv_has I181 sr246 fr246).mp q)
          refine own_of (fun tt_ => XS.icmpNo X246.here hx rfl (hb hby at_221) rfl (teq hb221_247).2) ?_
          show own_go p e below s _ _ _ (T246.setTop (mkF m 224 #[.val (.long ja), .second, .val (.long jb), .second, .val (.long jc), .second, .val (.long jd), .second, .val (.int sl), .val (.ref b1), .val (.int 3), .val (.long z148), .second, .val (.long z149), .second, .val (.ref b150), .val (.ref b153), .val (.ref b156), .val (.ref b159), .val (.int 0)] []))
          refine own_of (fun tt_ => XS.iconst X246.here hx rfl (hb hby at_224)) ?_
          refine own_of (fun tt_ => XS.goto X246.here hx rfl (pc0 := 225) (pc' := 229) rfl (hb hby at_225) (by decide) (by decide)) ?_
          show own_go p e below s _ _ _ (T246.setTop (mkF m 229 #[.val (.long ja), .second, .val (.long jb), .second, .val (.long jc), .second, .val (.long jd), .second, .val (.int sl), .val (.ref b1), .val (.int 3), .val (.long z148), .second, .val (.long z149), .second, .val (.ref b150), .val (.ref b153), .val (.ref b156), .val (.ref b159), .val (.int 0)] [(.int 1)]))
          refine own_ret X246 hx hlk Bd.returns rfl (Or.inl ⟨rfl, by simp, _, rfl⟩) (hb hby at_229) (by decide) (by decide) ?_
          rw [eh246]
          exact ⟨rfl, N246⟩
set_option maxRecDepth 65536 in
set_option maxHeartbeats 40000000 in
theorem comes_1 {Post : Tables → Env → Array Value → State → Outcome → State → Prop} (hpost : ∀ tb e args s v u, (limb_1_1.after args s (.returned v) u = true ∧ limb_1_2.after args s (.returned v) u = true ∧ True) → FrameEnd s (.returned v) u (Jvm.fieldLocs frame_1_writes args s ++ Jvm.arrayLocs frame_1_arrays args s ++ Jvm.staticLocs frame_1_statics s) 32 192 → Post tb e args s (.returned v) u) :
    ArmFor flags0 classFile x code maxLocals ret World_1 tables_1 room_1 Calls_1 rest_1 Pre_1 Post := by
  intro l hfl _ _ p e ha hc hk s m args below hf hA hF happ hP
  obtain ⟨hcalls, hrest, hpre⟩ := hP
  obtain ⟨-, -, -, hnamed, -, -, -, hat⟩ := (Spec.applies_iff hf).mp happ
  obtain ⟨hg, hn⟩ := and_e (Cond.before_iff.mp (show (Jvm.Cond.and given_1 narrow_1).before args s = true from hpre))
  obtain ⟨g1, g2⟩ := and_e hg
  obtain ⟨g3, g4⟩ := and_e g2
  obtain ⟨g5, g6⟩ := and_e g4
  obtain ⟨g7, g8⟩ := and_e g6
  obtain ⟨g9, g10⟩ := and_e g8
  obtain ⟨w0, w1, w2, w3, w4, rfl⟩ : ∃ w0 w1 w2 w3 w4 : Value, args = #[w0, w1, w2, w3, w4] := by
    have hs : args.size = 5 := by simpa [Cond.value, given_1] using g1
    obtain ⟨L⟩ := args
    match L, hs with
    | [w0, w1, w2, w3, w4], _ => exact ⟨w0, w1, w2, w3, w4, rfl⟩
  have hw := fun d (hd : d ∈ tables_1) => atoms_spec (ws := Jvm.Cond.code x code maxLocals ret :: tables_1) hat d (List.mem_cons_of_mem _ hd)
  have hW : ∀ (i : Nat) (d : Jvm.Cond), tables_1[i]? = some d → d.before _ s = true := fun i d h => hw d (List.mem_of_getElem? h)
  have hfit : Fit s := fun {y c} hc i hi => by
    obtain ⟨ha, rfl⟩ := Array.getElem?_eq_some_iff.mp hc
    have q := List.all_eq_true.mp ((Array.all_eq_true_iff_forall_mem.mp hF) _ (Array.getElem_mem ha)) i (List.mem_range.mpr hi)
    simpa [Array.getElem?_eq_getElem hi] using q
  obtain ⟨hsets, hown0⟩ := atoms_of _ (rest_1_c_eq ▸ (show rest_1_c.before _ s = true from hrest))
  have hr0 := Cond.before_iff.mp hown0
  obtain ⟨i0, ei0⟩ := isL_v g3
  obtain rfl : w0 = (.long i0) := Option.some.inj ei0
  obtain ⟨i1, ei1⟩ := isL_v g5
  obtain rfl : w1 = (.long i1) := Option.some.inj ei1
  obtain ⟨i2, ei2⟩ := isL_v g7
  obtain rfl : w2 = (.long i2) := Option.some.inj ei2
  obtain ⟨i3, ei3⟩ := isL_v g9
  obtain rfl : w3 = (.long i3) := Option.some.inj ei3
  obtain ⟨i4, ei4⟩ := is_v g10
  obtain rfl : w4 = (.int i4) := Option.some.inj ei4
  have S_ad : Sta s s.heap "java/util/BitSet" "$assertionsDisabled" "Z" (.int 1) := Sta.start (own_si (Cond.before_iff.mp (hsets _ (List.mem_of_getElem? (i := 2) rfl)))) (Or.inl (hsets _ (List.mem_of_getElem? (i := 1) rfl)))
  obtain ⟨n, o, h1, h2, h3, _, L, rfl, ⟨rfl, N⟩, hq⟩ := rm0 l s _ hw tables_1 i0 i1 i2 i3 i4 s.heap s.heap.size (Old.start s) S_ad p e ha hc hk s m _ below hf ((Spec.applies_iff_loose hf).mp happ).1 ⟨rfl, State.Warmed39.refl s, rfl⟩ trivial
  refine ⟨n, _, h1, h2, h3, hpost _ _ _ _ _ _ ⟨Cond.after_iff.mpr rfl, Cond.after_iff.mpr (eq_i res_at (Term.int_eval (1)) rfl), trivial⟩ ⟨hq.1, hq.2.1, (hq.2.2.sift fun y hy => Or.inr (N y hy)).mono (by decide) (by decide)⟩⟩
theorem main_1_1 : Claimed_1_1 := comes_1 fun _ _ _ _ _ _ h hF => ⟨h.1, hF⟩
theorem main_1_2 : Claimed_1_2 := comes_1 fun _ _ _ _ _ _ h hF => ⟨h.2.1, hF⟩
end Jvm.Pilot.@@N@@
namespace Jvm.Pilot.@@N@@
open Jvm Jvm.ClassFile Sem Op Lib Jvm.Free Jvm.Stand Jvm.Pilot.@@N@@.Jvm.D
/-! MADE BY PROGRAM (witnessworld.py) out of the Statement's table words and the real class files: 21 classes; the members and pool entries that the words name. The judged class is class 1, her method 1. -/
namespace start1
open Jvm.ClassFile
def u (s : String) : CpInfo := .utf8 (stringToUtf16 s)
/-- a pool by its gaps: so many unusable entries, then the entry; so many at the end -/
def gap : Nat → List CpInfo → List CpInfo
  | 0, r => r
  | n + 1, r => .unusable :: gap n r
def poolList (es : List (Nat × CpInfo)) (last : Nat) : List CpInfo := es.foldr (fun e r => gap e.1 (e.2 :: r)) (gap last [])
def pool (es : List (Nat × CpInfo)) (last : Nat) : Array CpInfo := ⟨poolList es last⟩
def fileOf (pool : Array CpInfo) (this : Nat) (attrs : Array Attribute := #[]) (ms : Array MethodInfo := #[]) (fl : Nat := 33) (sup : Nat := 0) (ifs : Array Nat := #[]) (fds : Array FieldInfo := #[]) : ClassFile where
  minorVersion := 0
  majorVersion := 65
  constantPool := pool
  accessFlags := fl
  thisClass := this
  superClass := sup
  interfaces := ifs
  fields := fds
  methods := ms
  attributes := attrs
def plain (name : String) (sup : Option ClassId) : Class where
  name := name
  kind := .ordinary
  loader := none
  accessFlags := 33
  super := sup
  interfaces := #[]
  cf := none
  fields := #[]
  methods := #[]
  instanceTypes := #[]
  staticTypes := #[]
  resolved := #[]
  callSites := []
  init := .initialized
  statics := none
  mirror := none

def pool0 : Array CpInfo := pool [(5, u "<init>"), (0, u "()V"), (1, .class_ 10), (1, u "java/lang/Object")] 113

def k0c0 : Code := { maxStack := 0, maxLocals := 1, code := object_method_1_code, exceptionTable := #[], attributes := #[] }
def k0m0 : Method := { name := "<init>", desc := "()V", sig := { parameters := [], returnType := none }, accessFlags := 1, code := some k0c0 }
/-- java/lang/Object -/
def k0 : Class := { plain "java/lang/Object" none with
  accessFlags := 33
  interfaces := #[]
  cf := some (fileOf pool0 8 #[] #[{ accessFlags := 1, nameIndex := 5, descriptorIndex := 6, attributes := #[] }] 33 0 #[] #[])
  fields := #[]
  methods := #[k0m0]
  instanceTypes := #[]
  staticTypes := #[]
  resolved := Array.replicate 124 none
  statics := none }

def pool1 : Array CpInfo := pool [(2, .class_ 4), (1, u "java/lang/Object"), (0, u "<init>"), (0, u "()V"), (0, .class_ 8), (0, u "com/example/grantway/grantway/protocol/PackedSet"), (0, .methodref 7 10), (0, .nameAndType 5 11), (0, u "(I)V"), (0, .methodref 13 14), (0, .class_ 15), (0, .nameAndType 16 17), (0, u "com/example/grantway/grantway/protocol/PackedSetContainsPinLaw"), (0, u "pick"), (0, u "(IJJJJ)J"), (0, .methodref 7 19), (0, .nameAndType 20 21), (0, u "add"), (0, u "([J)V"), (0, .methodref 7 23), (0, .nameAndType 24 25), (0, u "contains"), (0, u "([J)Z"), (2, u "law"), (0, u "(JJJJI)Z")] 5

def k1m0 : Method := { name := "<init>", desc := "()V", sig := { parameters := [], returnType := none }, accessFlags := 1, code := none }
def k1c1 : Code := { maxStack := 9, maxLocals := 20, code := code, exceptionTable := #[], attributes := #[] }
def k1m1 : Method := { name := "law", desc := "(JJJJI)Z", sig := { parameters := [.long, .long, .long, .long, .int], returnType := some .boolean }, accessFlags := 9, code := some k1c1 }
def k1c2 : Code := { maxStack := 2, maxLocals := 10, code := method_3_code, exceptionTable := #[], attributes := #[] }
def k1m2 : Method := { name := "pick", desc := "(IJJJJ)J", sig := { parameters := [.int, .long, .long, .long, .long], returnType := some .long }, accessFlags := 10, code := some k1c2 }
/-- com/example/grantway/grantway/protocol/PackedSetContainsPinLaw -/
def k1 : Class := { plain "com/example/grantway/grantway/protocol/PackedSetContainsPinLaw" (some 0) with
  accessFlags := 49
  interfaces := #[]
  cf := some (fileOf pool1 13 #[] #[{ accessFlags := 1, nameIndex := 5, descriptorIndex := 6, attributes := #[] }, { accessFlags := 9, nameIndex := 28, descriptorIndex := 29, attributes := #[] }, { accessFlags := 10, nameIndex := 16, descriptorIndex := 17, attributes := #[] }] 49 2 #[] #[])
  fields := #[]
  methods := #[k1m0, k1m1, k1m2]
  instanceTypes := #[]
  staticTypes := #[]
  resolved := Array.replicate 35 none
  statics := none }

def pool2 : Array CpInfo := pool [(1, .methodref 2 3), (0, .class_ 4), (0, .nameAndType 5 6), (0, u "java/lang/Object"), (0, u "<init>"), (0, u "()V"), (7, .fieldref 15 16), (0, .class_ 17), (0, .nameAndType 18 19), (0, u "com/example/grantway/grantway/protocol/PackedSet"), (0, u "width"), (0, u "I"), (0, .fieldref 15 21), (0, .nameAndType 22 19), (0, u "slots"), (0, .class_ 24), (0, u "[J"), (0, .fieldref 15 26), (0, .nameAndType 27 28), (0, u "pages"), (0, u "[[J"), (0, .class_ 30), (0, u "java/util/BitSet"), (0, .methodref 29 32), (0, .nameAndType 5 33), (0, u "(I)V"), (0, .fieldref 15 35), (0, .nameAndType 36 37), (0, u "used"), (0, u "Ljava/util/BitSet;"), (0, .methodref 15 39), (0, .nameAndType 40 41), (0, u "checkWidth"), (0, u "([J)V"), (0, .methodref 15 43), (0, .nameAndType 44 45), (0, u "find"), (0, u "([J)I"), (0, .methodref 29 47), (0, .nameAndType 48 49), (0, u "get"), (0, u "(I)Z"), (0, .fieldref 15 51), (0, .nameAndType 52 19), (0, u "size"), (3, .methodref 15 57), (0, .nameAndType 58 59), (0, u "put"), (0, u "(I[J)V"), (0, .long 11400714819323198485), (1, .methodref 63 64), (0, .class_ 65), (0, .nameAndType 66 67), (0, u "java/lang/Long"), (0, u "numberOfLeadingZeros"), (0, u "(J)I"), (0, .methodref 15 69), (0, .nameAndType 70 71), (0, u "holds"), (0, u "(I[J)Z"), (0, .methodref 73 74), (0, .class_ 75), (0, .nameAndType 76 77), (0, u "java/lang/Math"), (0, u "min"), (0, u "(II)I"), (0, .methodref 79 80), (0, .class_ 81), (0, .nameAndType 82 83), (0, u "java/lang/System"), (0, u "arraycopy"), (0, u "(Ljava/lang/Object;ILjava/lang/Object;II)V"), (0, .methodref 29 85), (0, .nameAndType 86 33), (0, u "set"), (20, u "FIRST_SLOTS"), (2, u "PAGE_SLOTS"), (1, u "SPREAD"), (0, u "J"), (3, u "add"), (0, u "contains"), (0, u "([J)Z")] 21

def k2c0 : Code := { maxStack := 4, maxLocals := 2, code := prog_28_method_1_code, exceptionTable := #[], attributes := #[] }
def k2m0 : Method := { name := "<init>", desc := "(I)V", sig := { parameters := [.int], returnType := none }, accessFlags := 0, code := some k2c0 }
def k2c1 : Code := { maxStack := 3, maxLocals := 3, code := prog_28_method_2_code, exceptionTable := #[], attributes := #[] }
def k2m1 : Method := { name := "add", desc := "([J)V", sig := { parameters := [(.array .long)], returnType := none }, accessFlags := 128, code := some k2c1 }
def k2c2 : Code := { maxStack := 3, maxLocals := 2, code := prog_28_method_3_code, exceptionTable := #[], attributes := #[] }
def k2m2 : Method := { name := "contains", desc := "([J)Z", sig := { parameters := [(.array .long)], returnType := some .boolean }, accessFlags := 128, code := some k2c2 }
def k2c3 : Code := { maxStack := 4, maxLocals := 9, code := prog_28_method_5_code, exceptionTable := #[], attributes := #[] }
def k2m3 : Method := { name := "find", desc := "([J)I", sig := { parameters := [(.array .long)], returnType := some .int }, accessFlags := 2, code := some k2c3 }
def k2c4 : Code := { maxStack := 4, maxLocals := 6, code := prog_28_method_6_code, exceptionTable := #[], attributes := #[] }
def k2m4 : Method := { name := "holds", desc := "(I[J)Z", sig := { parameters := [.int, (.array .long)], returnType := some .boolean }, accessFlags := 2, code := some k2c4 }
def k2c5 : Code := { maxStack := 5, maxLocals := 4, code := prog_28_method_7_code, exceptionTable := #[], attributes := #[] }
def k2m5 : Method := { name := "put", desc := "(I[J)V", sig := { parameters := [.int, (.array .long)], returnType := none }, accessFlags := 2, code := some k2c5 }
def k2c6 : Code := { maxStack := 4, maxLocals := 2, code := prog_28_method_9_code, exceptionTable := #[], attributes := #[] }
def k2m6 : Method := { name := "checkWidth", desc := "([J)V", sig := { parameters := [(.array .long)], returnType := none }, accessFlags := 2, code := some k2c6 }
/-- com/example/grantway/grantway/protocol/PackedSet -/
def k2 : Class := { plain "com/example/grantway/grantway/protocol/PackedSet" (some 0) with
  accessFlags := 48
  interfaces := #[]
  cf := some (fileOf pool2 15 #[] #[{ accessFlags := 0, nameIndex := 5, descriptorIndex := 33, attributes := #[] }, { accessFlags := 128, nameIndex := 117, descriptorIndex := 41, attributes := #[] }, { accessFlags := 128, nameIndex := 118, descriptorIndex := 119, attributes := #[] }, { accessFlags := 2, nameIndex := 44, descriptorIndex := 45, attributes := #[] }, { accessFlags := 2, nameIndex := 70, descriptorIndex := 71, attributes := #[] }, { accessFlags := 2, nameIndex := 58, descriptorIndex := 59, attributes := #[] }, { accessFlags := 2, nameIndex := 40, descriptorIndex := 41, attributes := #[] }] 48 2 #[] #[{ accessFlags := 26, nameIndex := 107, descriptorIndex := 19, attributes := #[] }, { accessFlags := 26, nameIndex := 110, descriptorIndex := 19, attributes := #[] }, { accessFlags := 26, nameIndex := 112, descriptorIndex := 113, attributes := #[] }, { accessFlags := 18, nameIndex := 18, descriptorIndex := 19, attributes := #[] }, { accessFlags := 2, nameIndex := 22, descriptorIndex := 19, attributes := #[] }, { accessFlags := 2, nameIndex := 27, descriptorIndex := 28, attributes := #[] }, { accessFlags := 2, nameIndex := 36, descriptorIndex := 37, attributes := #[] }, { accessFlags := 2, nameIndex := 52, descriptorIndex := 19, attributes := #[] }])
  fields := #[{ name := "FIRST_SLOTS", type := .int, accessFlags := 26, slot := 0, constantValue := 0 }, { name := "PAGE_SLOTS", type := .int, accessFlags := 26, slot := 1, constantValue := 0 }, { name := "SPREAD", type := .long, accessFlags := 26, slot := 2, constantValue := 0 }, { name := "width", type := .int, accessFlags := 18, slot := 0, constantValue := 0 }, { name := "slots", type := .int, accessFlags := 2, slot := 1, constantValue := 0 }, { name := "pages", type := (.array (.array .long)), accessFlags := 2, slot := 2, constantValue := 0 }, { name := "used", type := (.object "java/util/BitSet"), accessFlags := 2, slot := 3, constantValue := 0 }, { name := "size", type := .int, accessFlags := 2, slot := 4, constantValue := 0 }]
  methods := #[k2m0, k2m1, k2m2, k2m3, k2m4, k2m5, k2m6]
  instanceTypes := #[.int, .int, (.array (.array .long)), (.object "java/util/BitSet"), .int]
  staticTypes := #[.int, .int, .long]
  resolved := Array.replicate 141 none
  statics := none }

def pool3 : Array CpInfo := pool [(1, .class_ 2), (0, u "java/lang/Cloneable"), (0, .class_ 4), (0, u "java/lang/Object")] 2

/-- java/lang/Cloneable -/
def k3 : Class := { plain "java/lang/Cloneable" (some 0) with
  accessFlags := 1537
  interfaces := #[]
  cf := some (fileOf pool3 1 #[] #[] 1537 3 #[] #[])
  fields := #[]
  methods := #[]
  instanceTypes := #[]
  staticTypes := #[]
  resolved := Array.replicate 7 none
  statics := none }

def pool4 : Array CpInfo := pool [(1, .class_ 2), (0, u "java/io/Serializable"), (0, .class_ 4), (0, u "java/lang/Object")] 2

/-- java/io/Serializable -/
def k4 : Class := { plain "java/io/Serializable" (some 0) with
  accessFlags := 1537
  interfaces := #[]
  cf := some (fileOf pool4 1 #[] #[] 1537 3 #[] #[])
  fields := #[]
  methods := #[]
  instanceTypes := #[]
  staticTypes := #[]
  resolved := Array.replicate 7 none
  statics := none }

def pool5 : Array CpInfo := pool [(1, .class_ 2), (0, u "java/util/BitSet"), (0, .fieldref 1 4), (0, .nameAndType 5 6), (0, u "$assertionsDisabled"), (0, u "Z"), (0, .fieldref 1 8), (0, .nameAndType 9 10), (0, u "wordsInUse"), (0, u "I"), (0, .fieldref 1 12), (0, .nameAndType 13 14), (0, u "words"), (0, u "[J"), (3, .nameAndType 19 20), (0, u "<init>"), (0, u "()V"), (0, .methodref 22 18), (0, .class_ 23), (0, u "java/lang/Object"), (0, .fieldref 1 25), (0, .nameAndType 26 6), (0, u "sizeIsSticky"), (0, .methodref 1 28), (0, .nameAndType 29 30), (0, u "initWords"), (0, u "(I)V"), (21, .methodref 1 53), (0, .nameAndType 54 55), (0, u "wordIndex"), (0, u "(I)I"), (0, .methodref 1 57), (0, .nameAndType 58 20), (0, u "checkInvariants"), (21, u "get"), (58, .methodref 1 140), (0, .nameAndType 141 30), (0, u "ensureCapacity"), (13, .methodref 1 156), (0, .nameAndType 157 30), (0, u "expandTo"), (11, u "set"), (99, .class_ 270), (0, u "java/util/BitSet$1BitSetSpliterator"), (22, u "serialPersistentFields"), (0, u "[Ljava/io/ObjectStreamField;"), (0, .class_ 296), (0, u "java/lang/Cloneable"), (0, .class_ 298), (0, u "java/io/Serializable"), (0, u "ADDRESS_BITS_PER_WORD"), (2, u "BITS_PER_WORD"), (1, u "BIT_INDEX_MASK"), (1, u "WORD_MASK"), (0, u "J"), (0, u "serialVersionUID"), (42, u "(I)Z")] 65

def k5c0 : Code := { maxStack := 2, maxLocals := 1, code := jdk_92_method_1_code, exceptionTable := #[], attributes := #[] }
def k5m0 : Method := { name := "wordIndex", desc := "(I)I", sig := { parameters := [.int], returnType := some .int }, accessFlags := 10, code := some k5c0 }
def k5c1 : Code := { maxStack := 4, maxLocals := 1, code := jdk_92_method_2_code, exceptionTable := #[], attributes := #[] }
def k5m1 : Method := { name := "checkInvariants", desc := "()V", sig := { parameters := [], returnType := none }, accessFlags := 2, code := some k5c1 }
def k5m2 : Method := { name := "<init>", desc := "()V", sig := { parameters := [], returnType := none }, accessFlags := 1, code := none }
def k5c3 : Code := { maxStack := 4, maxLocals := 2, code := jdk_92_method_5_code, exceptionTable := #[], attributes := #[] }
def k5m3 : Method := { name := "<init>", desc := "(I)V", sig := { parameters := [.int], returnType := none }, accessFlags := 1, code := some k5c3 }
def k5c4 : Code := { maxStack := 3, maxLocals := 2, code := jdk_92_method_6_code, exceptionTable := #[], attributes := #[] }
def k5m4 : Method := { name := "initWords", desc := "(I)V", sig := { parameters := [.int], returnType := none }, accessFlags := 2, code := some k5c4 }
def k5c5 : Code := { maxStack := 3, maxLocals := 3, code := jdk_92_method_14_code, exceptionTable := #[], attributes := #[] }
def k5m5 : Method := { name := "ensureCapacity", desc := "(I)V", sig := { parameters := [.int], returnType := none }, accessFlags := 2, code := some k5c5 }
def k5c6 : Code := { maxStack := 2, maxLocals := 3, code := jdk_92_method_15_code, exceptionTable := #[], attributes := #[] }
def k5m6 : Method := { name := "expandTo", desc := "(I)V", sig := { parameters := [.int], returnType := none }, accessFlags := 2, code := some k5c6 }
def k5c7 : Code := { maxStack := 7, maxLocals := 3, code := jdk_92_method_19_code, exceptionTable := #[], attributes := #[] }
def k5m7 : Method := { name := "set", desc := "(I)V", sig := { parameters := [.int], returnType := none }, accessFlags := 1, code := some k5c7 }
def k5c8 : Code := { maxStack := 5, maxLocals := 3, code := jdk_92_method_26_code, exceptionTable := #[], attributes := #[] }
def k5m8 : Method := { name := "get", desc := "(I)Z", sig := { parameters := [.int], returnType := some .boolean }, accessFlags := 1, code := some k5c8 }
/-- java/util/BitSet -/
def k5 : Class := { plain "java/util/BitSet" (some 0) with
  accessFlags := 33
  interfaces := #[3, 4]
  cf := some (fileOf pool5 1 #[.nestMembers #[269]] #[{ accessFlags := 10, nameIndex := 54, descriptorIndex := 55, attributes := #[] }, { accessFlags := 2, nameIndex := 58, descriptorIndex := 20, attributes := #[] }, { accessFlags := 1, nameIndex := 19, descriptorIndex := 20, attributes := #[] }, { accessFlags := 1, nameIndex := 19, descriptorIndex := 30, attributes := #[] }, { accessFlags := 2, nameIndex := 29, descriptorIndex := 30, attributes := #[] }, { accessFlags := 2, nameIndex := 141, descriptorIndex := 30, attributes := #[] }, { accessFlags := 2, nameIndex := 157, descriptorIndex := 30, attributes := #[] }, { accessFlags := 1, nameIndex := 169, descriptorIndex := 30, attributes := #[] }, { accessFlags := 1, nameIndex := 80, descriptorIndex := 351, attributes := #[] }] 33 22 #[295, 297] #[{ accessFlags := 26, nameIndex := 299, descriptorIndex := 10, attributes := #[] }, { accessFlags := 26, nameIndex := 302, descriptorIndex := 10, attributes := #[] }, { accessFlags := 26, nameIndex := 304, descriptorIndex := 10, attributes := #[] }, { accessFlags := 26, nameIndex := 306, descriptorIndex := 307, attributes := #[] }, { accessFlags := 26, nameIndex := 293, descriptorIndex := 294, attributes := #[] }, { accessFlags := 2, nameIndex := 13, descriptorIndex := 14, attributes := #[] }, { accessFlags := 130, nameIndex := 9, descriptorIndex := 10, attributes := #[] }, { accessFlags := 130, nameIndex := 26, descriptorIndex := 6, attributes := #[] }, { accessFlags := 26, nameIndex := 308, descriptorIndex := 307, attributes := #[] }, { accessFlags := 4120, nameIndex := 5, descriptorIndex := 6, attributes := #[] }])
  fields := #[{ name := "ADDRESS_BITS_PER_WORD", type := .int, accessFlags := 26, slot := 0, constantValue := 0 }, { name := "BITS_PER_WORD", type := .int, accessFlags := 26, slot := 1, constantValue := 0 }, { name := "BIT_INDEX_MASK", type := .int, accessFlags := 26, slot := 2, constantValue := 0 }, { name := "WORD_MASK", type := .long, accessFlags := 26, slot := 3, constantValue := 0 }, { name := "serialPersistentFields", type := (.array (.object "java/io/ObjectStreamField")), accessFlags := 26, slot := 4, constantValue := 0 }, { name := "words", type := (.array .long), accessFlags := 2, slot := 0, constantValue := 0 }, { name := "wordsInUse", type := .int, accessFlags := 130, slot := 1, constantValue := 0 }, { name := "sizeIsSticky", type := .boolean, accessFlags := 130, slot := 2, constantValue := 0 }, { name := "serialVersionUID", type := .long, accessFlags := 26, slot := 5, constantValue := 0 }, { name := "$assertionsDisabled", type := .boolean, accessFlags := 4120, slot := 6, constantValue := 0 }]
  methods := #[k5m0, k5m1, k5m2, k5m3, k5m4, k5m5, k5m6, k5m7, k5m8]
  instanceTypes := #[(.array .long), .int, .boolean]
  staticTypes := #[.int, .int, .int, .long, (.array (.object "java/io/ObjectStreamField")), .long, .boolean]
  resolved := Array.replicate 417 none
  statics := some 0 }

def pool6 : Array CpInfo := pool [(2, .class_ 4), (1, u "java/lang/Object"), (0, u "<init>"), (0, u "()V"), (1, .class_ 10), (1, u "java/lang/Number"), (2, .class_ 14), (0, u "java/io/Serializable"), (0, u "serialVersionUID"), (0, u "J")] 20

def k6m0 : Method := { name := "<init>", desc := "()V", sig := { parameters := [], returnType := none }, accessFlags := 1, code := none }
/-- java/lang/Number -/
def k6 : Class := { plain "java/lang/Number" (some 0) with
  accessFlags := 1057
  interfaces := #[4]
  cf := some (fileOf pool6 8 #[] #[{ accessFlags := 1, nameIndex := 5, descriptorIndex := 6, attributes := #[] }] 1057 2 #[13] #[{ accessFlags := 26, nameIndex := 15, descriptorIndex := 16, attributes := #[] }])
  fields := #[{ name := "serialVersionUID", type := .long, accessFlags := 26, slot := 0, constantValue := 0 }]
  methods := #[k6m0]
  instanceTypes := #[]
  staticTypes := #[.long]
  resolved := Array.replicate 37 none
  statics := none }

def pool7 : Array CpInfo := pool [(1, .class_ 2), (0, u "java/lang/Comparable"), (0, .class_ 4), (0, u "java/lang/Object")] 7

/-- java/lang/Comparable -/
def k7 : Class := { plain "java/lang/Comparable" (some 0) with
  accessFlags := 1537
  interfaces := #[]
  cf := some (fileOf pool7 1 #[] #[] 1537 3 #[] #[])
  fields := #[]
  methods := #[]
  instanceTypes := #[]
  staticTypes := #[]
  resolved := Array.replicate 12 none
  statics := none }

def pool8 : Array CpInfo := pool [(1, .class_ 2), (0, u "java/lang/constant/Constable"), (0, .class_ 4), (0, u "java/lang/Object")] 6

/-- java/lang/constant/Constable -/
def k8 : Class := { plain "java/lang/constant/Constable" (some 0) with
  accessFlags := 1537
  interfaces := #[]
  cf := some (fileOf pool8 1 #[] #[] 1537 3 #[] #[])
  fields := #[]
  methods := #[]
  instanceTypes := #[]
  staticTypes := #[]
  resolved := Array.replicate 11 none
  statics := none }

def pool9 : Array CpInfo := pool [(1, .class_ 2), (0, u "java/lang/constant/ConstantDesc"), (0, .class_ 4), (0, u "java/lang/Object")] 32

/-- java/lang/constant/ConstantDesc -/
def k9 : Class := { plain "java/lang/constant/ConstantDesc" (some 0) with
  accessFlags := 1537
  interfaces := #[]
  cf := some (fileOf pool9 1 #[] #[] 1537 3 #[] #[])
  fields := #[]
  methods := #[]
  instanceTypes := #[]
  staticTypes := #[]
  resolved := Array.replicate 37 none
  statics := none }

def pool10 : Array CpInfo := pool [(1, .class_ 2), (0, u "java/lang/Long"), (15, .class_ 20), (1, u "java/lang/Integer"), (79, u "numberOfLeadingZeros"), (0, u "(J)I"), (133, .class_ 237), (1, u "java/lang/Long$LongCache"), (33, .class_ 272), (0, u "java/lang/Number"), (2, u "value"), (0, u "J"), (31, .methodref 18 309), (0, .nameAndType 100 310), (0, u "(I)I"), (50, u "TYPE"), (0, u "Ljava/lang/Class;"), (0, .class_ 364), (0, u "java/lang/Comparable"), (0, .class_ 366), (0, u "java/lang/constant/Constable"), (0, .class_ 368), (0, u "java/lang/constant/ConstantDesc"), (0, u "MIN_VALUE"), (1, u "MAX_VALUE"), (4, u "SIZE"), (0, u "I"), (1, u "BYTES"), (1, u "serialVersionUID")] 142

def k10c0 : Code := { maxStack := 3, maxLocals := 3, code := jdk_35_method_48_code, exceptionTable := #[], attributes := #[] }
def k10m0 : Method := { name := "numberOfLeadingZeros", desc := "(J)I", sig := { parameters := [.long], returnType := some .int }, accessFlags := 9, code := some k10c0 }
/-- java/lang/Long -/
def k10 : Class := { plain "java/lang/Long" (some 6) with
  accessFlags := 49
  interfaces := #[7, 8, 9]
  cf := some (fileOf pool10 1 #[.nestMembers #[235]] #[{ accessFlags := 9, nameIndex := 100, descriptorIndex := 101, attributes := #[] }] 49 271 #[363, 365, 367] #[{ accessFlags := 25, nameIndex := 369, descriptorIndex := 276, attributes := #[] }, { accessFlags := 25, nameIndex := 371, descriptorIndex := 276, attributes := #[] }, { accessFlags := 25, nameIndex := 361, descriptorIndex := 362, attributes := #[] }, { accessFlags := 18, nameIndex := 275, descriptorIndex := 276, attributes := #[] }, { accessFlags := 25, nameIndex := 376, descriptorIndex := 377, attributes := #[] }, { accessFlags := 25, nameIndex := 379, descriptorIndex := 377, attributes := #[] }, { accessFlags := 26, nameIndex := 381, descriptorIndex := 276, attributes := #[] }])
  fields := #[{ name := "MIN_VALUE", type := .long, accessFlags := 25, slot := 0, constantValue := 0 }, { name := "MAX_VALUE", type := .long, accessFlags := 25, slot := 1, constantValue := 0 }, { name := "TYPE", type := (.object "java/lang/Class"), accessFlags := 25, slot := 2, constantValue := 0 }, { name := "value", type := .long, accessFlags := 18, slot := 0, constantValue := 0 }, { name := "SIZE", type := .int, accessFlags := 25, slot := 3, constantValue := 0 }, { name := "BYTES", type := .int, accessFlags := 25, slot := 4, constantValue := 0 }, { name := "serialVersionUID", type := .long, accessFlags := 26, slot := 5, constantValue := 0 }]
  methods := #[k10m0]
  instanceTypes := #[.long]
  staticTypes := #[.long, .long, (.object "java/lang/Class"), .int, .int, .long]
  resolved := Array.replicate 524 none
  statics := none }

def pool11 : Array CpInfo := pool [(1, .class_ 2), (0, u "java/lang/Integer"), (16, u "digits"), (0, u "[C"), (32, u "numberOfLeadingZeros"), (0, u "(I)I"), (30, u "DigitOnes"), (0, u "[B"), (2, u "DigitTens"), (99, .class_ 190), (0, u "java/lang/Integer$IntegerCache"), (3, u "I"), (8, .class_ 204), (0, u "java/lang/Number"), (2, u "value"), (56, .integer 65536), (37, u "TYPE"), (0, u "Ljava/lang/Class;"), (0, .class_ 305), (0, u "java/lang/Comparable"), (0, .class_ 307), (0, u "java/lang/constant/Constable"), (0, .class_ 309), (0, u "java/lang/constant/ConstantDesc"), (0, u "MIN_VALUE"), (1, u "MAX_VALUE"), (3, u "SIZE"), (1, u "BYTES"), (1, u "serialVersionUID"), (0, u "J")] 131

def k11c0 : Code := { maxStack := 3, maxLocals := 2, code := jdk_33_method_47_code, exceptionTable := #[], attributes := #[] }
def k11m0 : Method := { name := "numberOfLeadingZeros", desc := "(I)I", sig := { parameters := [.int], returnType := some .int }, accessFlags := 9, code := some k11c0 }
/-- java/lang/Integer -/
def k11 : Class := { plain "java/lang/Integer" (some 6) with
  accessFlags := 49
  interfaces := #[7, 8, 9]
  cf := some (fileOf pool11 1 #[.nestMembers #[189]] #[{ accessFlags := 9, nameIndex := 53, descriptorIndex := 54, attributes := #[] }] 49 203 #[304, 306, 308] #[{ accessFlags := 25, nameIndex := 310, descriptorIndex := 194, attributes := #[] }, { accessFlags := 25, nameIndex := 312, descriptorIndex := 194, attributes := #[] }, { accessFlags := 25, nameIndex := 302, descriptorIndex := 303, attributes := #[] }, { accessFlags := 24, nameIndex := 19, descriptorIndex := 20, attributes := #[] }, { accessFlags := 24, nameIndex := 89, descriptorIndex := 86, attributes := #[] }, { accessFlags := 24, nameIndex := 85, descriptorIndex := 86, attributes := #[] }, { accessFlags := 18, nameIndex := 207, descriptorIndex := 194, attributes := #[] }, { accessFlags := 25, nameIndex := 316, descriptorIndex := 194, attributes := #[] }, { accessFlags := 25, nameIndex := 318, descriptorIndex := 194, attributes := #[] }, { accessFlags := 26, nameIndex := 320, descriptorIndex := 321, attributes := #[] }])
  fields := #[{ name := "MIN_VALUE", type := .int, accessFlags := 25, slot := 0, constantValue := 0 }, { name := "MAX_VALUE", type := .int, accessFlags := 25, slot := 1, constantValue := 0 }, { name := "TYPE", type := (.object "java/lang/Class"), accessFlags := 25, slot := 2, constantValue := 0 }, { name := "digits", type := (.array .char), accessFlags := 24, slot := 3, constantValue := 0 }, { name := "DigitTens", type := (.array .byte), accessFlags := 24, slot := 4, constantValue := 0 }, { name := "DigitOnes", type := (.array .byte), accessFlags := 24, slot := 5, constantValue := 0 }, { name := "value", type := .int, accessFlags := 18, slot := 0, constantValue := 0 }, { name := "SIZE", type := .int, accessFlags := 25, slot := 6, constantValue := 0 }, { name := "BYTES", type := .int, accessFlags := 25, slot := 7, constantValue := 0 }, { name := "serialVersionUID", type := .long, accessFlags := 26, slot := 8, constantValue := 0 }]
  methods := #[k11m0]
  instanceTypes := #[.int]
  staticTypes := #[.int, .int, (.object "java/lang/Class"), (.array .char), (.array .byte), (.array .byte), .int, .int, .long]
  resolved := Array.replicate 453 none
  statics := none }

def pool12 : Array CpInfo := pool [(1, .class_ 2), (0, u "java/lang/Math"), (1, .class_ 6), (1, u "java/lang/Object"), (0, u "<init>"), (0, u "()V"), (89, .class_ 100), (1, u "java/lang/Math$RandomNumberGeneratorHolder"), (71, u "negativeZeroFloatBits"), (0, u "J"), (2, u "negativeZeroDoubleBits"), (24, u "min"), (43, u "$assertionsDisabled"), (0, u "Z"), (88, u "(II)I"), (2, u "twoToTheDoubleScaleDown"), (0, u "D"), (4, u "twoToTheDoubleScaleUp"), (9, u "E"), (3, u "PI"), (2, u "TAU"), (2, u "DEGREES_TO_RADIANS"), (0, u "RADIANS_TO_DEGREES")] 94

def k12m0 : Method := { name := "<init>", desc := "()V", sig := { parameters := [], returnType := none }, accessFlags := 2, code := none }
def k12c1 : Code := { maxStack := 2, maxLocals := 2, code := jdk_29_method_69_code, exceptionTable := #[], attributes := #[] }
def k12m1 : Method := { name := "min", desc := "(II)I", sig := { parameters := [.int, .int], returnType := some .int }, accessFlags := 9, code := some k12c1 }
/-- java/lang/Math -/
def k12 : Class := { plain "java/lang/Math" (some 0) with
  accessFlags := 49
  interfaces := #[]
  cf := some (fileOf pool12 1 #[.nestMembers #[98]] #[{ accessFlags := 2, nameIndex := 7, descriptorIndex := 8, attributes := #[] }, { accessFlags := 9, nameIndex := 201, descriptorIndex := 335, attributes := #[] }] 49 4 #[] #[{ accessFlags := 25, nameIndex := 354, descriptorIndex := 339, attributes := #[] }, { accessFlags := 25, nameIndex := 358, descriptorIndex := 339, attributes := #[] }, { accessFlags := 25, nameIndex := 361, descriptorIndex := 339, attributes := #[] }, { accessFlags := 26, nameIndex := 364, descriptorIndex := 339, attributes := #[] }, { accessFlags := 26, nameIndex := 365, descriptorIndex := 339, attributes := #[] }, { accessFlags := 26, nameIndex := 172, descriptorIndex := 173, attributes := #[] }, { accessFlags := 26, nameIndex := 176, descriptorIndex := 173, attributes := #[] }, { accessFlags := 8, nameIndex := 344, descriptorIndex := 339, attributes := #[] }, { accessFlags := 8, nameIndex := 338, descriptorIndex := 339, attributes := #[] }, { accessFlags := 4120, nameIndex := 245, descriptorIndex := 246, attributes := #[] }])
  fields := #[{ name := "E", type := .double, accessFlags := 25, slot := 0, constantValue := 0 }, { name := "PI", type := .double, accessFlags := 25, slot := 1, constantValue := 0 }, { name := "TAU", type := .double, accessFlags := 25, slot := 2, constantValue := 0 }, { name := "DEGREES_TO_RADIANS", type := .double, accessFlags := 26, slot := 3, constantValue := 0 }, { name := "RADIANS_TO_DEGREES", type := .double, accessFlags := 26, slot := 4, constantValue := 0 }, { name := "negativeZeroFloatBits", type := .long, accessFlags := 26, slot := 5, constantValue := 0 }, { name := "negativeZeroDoubleBits", type := .long, accessFlags := 26, slot := 6, constantValue := 0 }, { name := "twoToTheDoubleScaleUp", type := .double, accessFlags := 8, slot := 7, constantValue := 0 }, { name := "twoToTheDoubleScaleDown", type := .double, accessFlags := 8, slot := 8, constantValue := 0 }, { name := "$assertionsDisabled", type := .boolean, accessFlags := 4120, slot := 9, constantValue := 0 }]
  methods := #[k12m0, k12m1]
  instanceTypes := #[]
  staticTypes := #[.double, .double, .double, .double, .double, .long, .long, .double, .double, .boolean]
  resolved := Array.replicate 460 none
  statics := none }

def pool13 : Array CpInfo := pool [(2, .class_ 4), (1, u "java/lang/Object"), (0, u "<init>"), (0, u "()V"), (1, .class_ 10), (1, u "java/lang/System"), (0, u "allowSecurityManager"), (0, u "I"), (16, u "cons"), (0, u "Ljava/io/Console;"), (77, .class_ 110), (1, u "java/lang/System$CallersHolder"), (43, u "initialErrStream"), (0, u "Ljava/io/PrintStream;"), (19, u "security"), (0, u "Ljava/lang/SecurityManager;"), (31, .class_ 209), (0, u "java/lang/System$1"), (7, u "props"), (0, u "Ljava/util/Properties;"), (2, u "lineSeparator"), (0, u "Ljava/lang/String;"), (96, .class_ 321), (1, u "java/lang/System$LoggerFinder"), (5, .class_ 328), (0, u "java/lang/System$Logger"), (67, u "err"), (2, u "out"), (91, u "notSupportedJnuEncoding"), (15, u "in"), (17, u "initialIn"), (0, u "Ljava/io/InputStream;"), (35, u "bootLayer"), (0, u "Ljava/lang/ModuleLayer;"), (99, .class_ 664), (0, u "java/lang/System$2"), (9, u "NEVER"), (2, u "MAYBE"), (49, u "arraycopy"), (0, u "(Ljava/lang/Object;ILjava/lang/Object;II)V"), (72, .class_ 802), (0, u "java/lang/System$Logger$Level")] 31

def k13m0 : Method := { name := "<init>", desc := "()V", sig := { parameters := [], returnType := none }, accessFlags := 2, code := none }
def k13m1 : Method := { name := "arraycopy", desc := "(Ljava/lang/Object;ILjava/lang/Object;II)V", sig := { parameters := [(.object "java/lang/Object"), .int, (.object "java/lang/Object"), .int, .int], returnType := none }, accessFlags := 265, code := none }
/-- java/lang/System -/
def k13 : Class := { plain "java/lang/System" (some 0) with
  accessFlags := 49
  interfaces := #[]
  cf := some (fileOf pool13 8 #[.nestMembers #[319, 327, 801, 108, 663, 208]] #[{ accessFlags := 2, nameIndex := 5, descriptorIndex := 6, attributes := #[] }, { accessFlags := 265, nameIndex := 727, descriptorIndex := 728, attributes := #[] }] 49 2 #[] #[{ accessFlags := 25, nameIndex := 507, descriptorIndex := 526, attributes := #[] }, { accessFlags := 25, nameIndex := 399, descriptorIndex := 155, attributes := #[] }, { accessFlags := 25, nameIndex := 396, descriptorIndex := 155, attributes := #[] }, { accessFlags := 10, nameIndex := 525, descriptorIndex := 526, attributes := #[] }, { accessFlags := 26, nameIndex := 674, descriptorIndex := 12, attributes := #[] }, { accessFlags := 26, nameIndex := 677, descriptorIndex := 12, attributes := #[] }, { accessFlags := 10, nameIndex := 11, descriptorIndex := 12, attributes := #[] }, { accessFlags := 74, nameIndex := 175, descriptorIndex := 176, attributes := #[] }, { accessFlags := 10, nameIndex := 491, descriptorIndex := 222, attributes := #[] }, { accessFlags := 74, nameIndex := 29, descriptorIndex := 30, attributes := #[] }, { accessFlags := 74, nameIndex := 154, descriptorIndex := 155, attributes := #[] }, { accessFlags := 10, nameIndex := 217, descriptorIndex := 218, attributes := #[] }, { accessFlags := 10, nameIndex := 221, descriptorIndex := 222, attributes := #[] }, { accessFlags := 8, nameIndex := 562, descriptorIndex := 563, attributes := #[] }])
  fields := #[{ name := "in", type := (.object "java/io/InputStream"), accessFlags := 25, slot := 0, constantValue := 0 }, { name := "out", type := (.object "java/io/PrintStream"), accessFlags := 25, slot := 1, constantValue := 0 }, { name := "err", type := (.object "java/io/PrintStream"), accessFlags := 25, slot := 2, constantValue := 0 }, { name := "initialIn", type := (.object "java/io/InputStream"), accessFlags := 10, slot := 3, constantValue := 0 }, { name := "NEVER", type := .int, accessFlags := 26, slot := 4, constantValue := 0 }, { name := "MAYBE", type := .int, accessFlags := 26, slot := 5, constantValue := 0 }, { name := "allowSecurityManager", type := .int, accessFlags := 10, slot := 6, constantValue := 0 }, { name := "security", type := (.object "java/lang/SecurityManager"), accessFlags := 74, slot := 7, constantValue := 0 }, { name := "notSupportedJnuEncoding", type := (.object "java/lang/String"), accessFlags := 10, slot := 8, constantValue := 0 }, { name := "cons", type := (.object "java/io/Console"), accessFlags := 74, slot := 9, constantValue := 0 }, { name := "initialErrStream", type := (.object "java/io/PrintStream"), accessFlags := 74, slot := 10, constantValue := 0 }, { name := "props", type := (.object "java/util/Properties"), accessFlags := 10, slot := 11, constantValue := 0 }, { name := "lineSeparator", type := (.object "java/lang/String"), accessFlags := 10, slot := 12, constantValue := 0 }, { name := "bootLayer", type := (.object "java/lang/ModuleLayer"), accessFlags := 8, slot := 13, constantValue := 0 }]
  methods := #[k13m0, k13m1]
  instanceTypes := #[]
  staticTypes := #[(.object "java/io/InputStream"), (.object "java/io/PrintStream"), (.object "java/io/PrintStream"), (.object "java/io/InputStream"), .int, .int, .int, (.object "java/lang/SecurityManager"), (.object "java/lang/String"), (.object "java/io/Console"), (.object "java/io/PrintStream"), (.object "java/util/Properties"), (.object "java/lang/String"), (.object "java/lang/ModuleLayer")]
  resolved := Array.replicate 834 none
  statics := none }

/-- the primitive byte -/
def k14 : Class := { plain "byte" none with kind := .primitive 'B', accessFlags := 0x411 }
/-- [B -/
def k15 : Class := { plain "[B" (some 0) with kind := .array 14 .byte, interfaces := #[3, 4], accessFlags := 1041 }

/-- the primitive int -/
def k16 : Class := { plain "int" none with kind := .primitive 'I', accessFlags := 0x411 }
/-- [I -/
def k17 : Class := { plain "[I" (some 0) with kind := .array 16 .int, interfaces := #[3, 4], accessFlags := 1041 }

/-- the primitive long -/
def k18 : Class := { plain "long" none with kind := .primitive 'J', accessFlags := 0x411 }
/-- [J -/
def k19 : Class := { plain "[J" (some 0) with kind := .array 18 .long, interfaces := #[3, 4], accessFlags := 1041 }

/-- [[J -/
def k20 : Class := { plain "[[J" (some 0) with kind := .array 19 (.array .long), interfaces := #[3, 4], accessFlags := 1041 }

def heap : Heap := #[{ cls := 5, slots := #[.int 0, .int 0, .int 0, .long 0, .null, .long 0, .int 1], vm := .statics 5 }]
def classes : Array Class := #[k0, k1, k2, k3, k4, k5, k6, k7, k8, k9, k10, k11, k12, k13, k14, k15, k16, k17, k18, k19, k20]
def interned : List (Array UInt16 × Addr) := []
def slotsUsed : Nat := 7
def theMethod : MethodId := ⟨1, 1⟩
def args0 : Array Value := #[.long 1, .long 2, .long 3, .long 4, .int 0]
def aboutOver (below : List Frame) : State where
  vm := { classes := classes, interned := interned.toArray }
  heap := heap
  slotsUsed := slotsUsed
  threads := #[{ frames := .invoking theMethod args0 :: below }]
def below0 : List Frame := [.native { method := ⟨0, 0⟩, args := #[] }]
def about1 : State := aboutOver below0
def p0 : Program := .bare "" "" ""
def e0 : Env := launch0.env 0 0 0
theorem w_frames : about1.frames = Frame.invoking theMethod args0 :: below0 := rfl
set_option maxRecDepth 65536 in
theorem w_args : argsFit about1.vm theMethod args0 = true := by decide +kernel
set_option maxRecDepth 65536 in
theorem w_heap : heapFits about1 = true := by decide +kernel
set_option maxRecDepth 65536 in
theorem w_runnable : about1.curStatus? = some .runnable := by decide +kernel
set_option maxRecDepth 65536 in
theorem w_alone : about1.alone = true := by decide +kernel
set_option maxRecDepth 65536 in
theorem w_named : about1.methodNamed? x = some theMethod := by decide +kernel
set_option maxRecDepth 65536 in
theorem w_hears : about1.hears theMethod below0 = true := by decide +kernel
set_option maxRecDepth 65536 in
theorem w_ripe : about1.ripe theMethod args0 below0 = true := by decide +kernel
theorem w_running : about1.status = .running := rfl
set_option maxRecDepth 65536 in
theorem w_room : about1.hasRoom e0.platform room_1 = true :=
  launch0.hasRoom_least _ room_1 (by decide +kernel) (by decide +kernel) (by decide +kernel) (by decide +kernel) (by decide +kernel) (by decide +kernel)
theorem allAtoms_all (ts : List Jvm.Cond) (a : Array Jvm.Value) (st : Jvm.State) : (allAtoms ts).before a st = ts.all (fun c => c.before a st) := by
  induction ts with
  | nil => rfl
  | cons c t ih =>
    show (Jvm.Cond.and c (allAtoms t)).before a st = _
    rw [Jvm.Cond.before_and, ih, List.all_cons]
def words1 : List Jvm.Cond := Jvm.Cond.code x code maxLocals ret :: tables_1
/-- a 'code' word, met by the world's own term for the bytes: nothing is compared byte by byte -/
theorem code_word {y : MethodName} {bytes : ByteArray} {mx : Nat} {rt : Option FieldType} {a : Array Value} {s : State} {m : MethodId} {meth : Method} {c : Code} (h1 : s.methodNamed? y = some m) (h2 : s.vm.method? m = some meth) (h3 : meth.code = some c) (h4 : c.code = bytes)
    (h5 : (c.maxLocals == mx && c.exceptionTable.isEmpty && decide (c.maxStack ≤ mostOperands) && decide (meth.sig.returnType = rt) && !meth.locks && decide (parseMethodDescriptor y.desc = some meth.sig)) = true) : (Jvm.Cond.code y bytes mx rt).before a s = true := by
  simp only [Bool.and_eq_true, beq_iff_eq, Bool.not_eq_true', decide_eq_true_eq] at h5
  obtain ⟨⟨⟨⟨⟨g1, g2⟩, g3⟩, g4⟩, g5⟩, g6⟩ := h5
  simp [Cond.before, Cond.holds, Cond.value, h1, h2, h3, h4, g1, g2, g3, g4, g5, g6]
def isCode : Jvm.Cond → Bool
  | .code _ _ _ _ => true
  | _ => false
theorem all_split {L : List Jvm.Cond} {P : Jvm.Cond → Bool} (h1 : L.all (fun c => isCode c || P c) = true) (h2 : ∀ c ∈ L.filter isCode, P c = true) : L.all P = true := by
  refine List.all_eq_true.mpr fun c hc => ?_
  have h := List.all_eq_true.mp h1 c hc
  rcases Bool.eq_false_or_eq_true (isCode c) with hi | hi
  · exact h2 c (List.mem_filter.mpr ⟨hc, hi⟩)
  · simpa [hi] using h
set_option maxRecDepth 65536 in
theorem w_c0 : (Jvm.Cond.code x code maxLocals ret).before args0 about1 = true := code_word (m := ⟨1, 1⟩) (meth := k1m1) (c := k1c1) (by decide +kernel) rfl rfl rfl (by decide +kernel)
set_option maxRecDepth 65536 in
theorem w_c1 : (Jvm.Cond.code ({ cls := "com/example/grantway/grantway/protocol/PackedSet", name := "<init>", desc := "(I)V" } : Jvm.MethodName) prog_28_method_1_code (2 : Nat) (Option.none : Option Jvm.ClassFile.FieldType)).before args0 about1 = true := code_word (m := ⟨2, 0⟩) (meth := k2m0) (c := k2c0) (by decide +kernel) rfl rfl rfl (by decide +kernel)
set_option maxRecDepth 65536 in
theorem w_c2 : (Jvm.Cond.code ({ cls := "java/lang/Object", name := "<init>", desc := "()V" } : Jvm.MethodName) object_method_1_code (1 : Nat) (Option.none : Option Jvm.ClassFile.FieldType)).before args0 about1 = true := code_word (m := ⟨0, 0⟩) (meth := k0m0) (c := k0c0) (by decide +kernel) rfl rfl rfl (by decide +kernel)
set_option maxRecDepth 65536 in
theorem w_c3 : (Jvm.Cond.code ({ cls := "java/util/BitSet", name := "<init>", desc := "(I)V" } : Jvm.MethodName) jdk_92_method_5_code (2 : Nat) (Option.none : Option Jvm.ClassFile.FieldType)).before args0 about1 = true := code_word (m := ⟨5, 3⟩) (meth := k5m3) (c := k5c3) (by decide +kernel) rfl rfl rfl (by decide +kernel)
set_option maxRecDepth 65536 in
theorem w_c4 : (Jvm.Cond.code ({ cls := "java/util/BitSet", name := "initWords", desc := "(I)V" } : Jvm.MethodName) jdk_92_method_6_code (2 : Nat) (Option.none : Option Jvm.ClassFile.FieldType)).before args0 about1 = true := code_word (m := ⟨5, 4⟩) (meth := k5m4) (c := k5c4) (by decide +kernel) rfl rfl rfl (by decide +kernel)
set_option maxRecDepth 65536 in
theorem w_c5 : (Jvm.Cond.code ({ cls := "java/util/BitSet", name := "wordIndex", desc := "(I)I" } : Jvm.MethodName) jdk_92_method_1_code (1 : Nat) (Option.some Jvm.ClassFile.FieldType.int)).before args0 about1 = true := code_word (m := ⟨5, 0⟩) (meth := k5m0) (c := k5c0) (by decide +kernel) rfl rfl rfl (by decide +kernel)
set_option maxRecDepth 65536 in
theorem w_c6 : (Jvm.Cond.code ({ cls := "com/example/grantway/grantway/protocol/PackedSetContainsPinLaw", name := "pick", desc := "(IJJJJ)J" } : Jvm.MethodName) method_3_code (10 : Nat) (Option.some Jvm.ClassFile.FieldType.long)).before args0 about1 = true := code_word (m := ⟨1, 2⟩) (meth := k1m2) (c := k1c2) (by decide +kernel) rfl rfl rfl (by decide +kernel)
set_option maxRecDepth 65536 in
theorem w_c7 : (Jvm.Cond.code ({ cls := "com/example/grantway/grantway/protocol/PackedSet", name := "add", desc := "([J)V" } : Jvm.MethodName) prog_28_method_2_code (3 : Nat) (Option.none : Option Jvm.ClassFile.FieldType)).before args0 about1 = true := code_word (m := ⟨2, 1⟩) (meth := k2m1) (c := k2c1) (by decide +kernel) rfl rfl rfl (by decide +kernel)
set_option maxRecDepth 65536 in
theorem w_c8 : (Jvm.Cond.code ({ cls := "com/example/grantway/grantway/protocol/PackedSet", name := "checkWidth", desc := "([J)V" } : Jvm.MethodName) prog_28_method_9_code (2 : Nat) (Option.none : Option Jvm.ClassFile.FieldType)).before args0 about1 = true := code_word (m := ⟨2, 6⟩) (meth := k2m6) (c := k2c6) (by decide +kernel) rfl rfl rfl (by decide +kernel)
set_option maxRecDepth 65536 in
theorem w_c9 : (Jvm.Cond.code ({ cls := "com/example/grantway/grantway/protocol/PackedSet", name := "find", desc := "([J)I" } : Jvm.MethodName) prog_28_method_5_code (9 : Nat) (Option.some Jvm.ClassFile.FieldType.int)).before args0 about1 = true := code_word (m := ⟨2, 3⟩) (meth := k2m3) (c := k2c3) (by decide +kernel) rfl rfl rfl (by decide +kernel)
set_option maxRecDepth 65536 in
theorem w_c10 : (Jvm.Cond.code ({ cls := "java/lang/Long", name := "numberOfLeadingZeros", desc := "(J)I" } : Jvm.MethodName) jdk_35_method_48_code (3 : Nat) (Option.some Jvm.ClassFile.FieldType.int)).before args0 about1 = true := code_word (m := ⟨10, 0⟩) (meth := k10m0) (c := k10c0) (by decide +kernel) rfl rfl rfl (by decide +kernel)
set_option maxRecDepth 65536 in
theorem w_c11 : (Jvm.Cond.code ({ cls := "java/lang/Integer", name := "numberOfLeadingZeros", desc := "(I)I" } : Jvm.MethodName) jdk_33_method_47_code (2 : Nat) (Option.some Jvm.ClassFile.FieldType.int)).before args0 about1 = true := code_word (m := ⟨11, 0⟩) (meth := k11m0) (c := k11c0) (by decide +kernel) rfl rfl rfl (by decide +kernel)
set_option maxRecDepth 65536 in
theorem w_c12 : (Jvm.Cond.code ({ cls := "java/util/BitSet", name := "get", desc := "(I)Z" } : Jvm.MethodName) jdk_92_method_26_code (3 : Nat) (Option.some Jvm.ClassFile.FieldType.boolean)).before args0 about1 = true := code_word (m := ⟨5, 8⟩) (meth := k5m8) (c := k5c8) (by decide +kernel) rfl rfl rfl (by decide +kernel)
set_option maxRecDepth 65536 in
theorem w_c13 : (Jvm.Cond.code ({ cls := "java/util/BitSet", name := "checkInvariants", desc := "()V" } : Jvm.MethodName) jdk_92_method_2_code (1 : Nat) (Option.none : Option Jvm.ClassFile.FieldType)).before args0 about1 = true := code_word (m := ⟨5, 1⟩) (meth := k5m1) (c := k5c1) (by decide +kernel) rfl rfl rfl (by decide +kernel)
set_option maxRecDepth 65536 in
theorem w_c14 : (Jvm.Cond.code ({ cls := "com/example/grantway/grantway/protocol/PackedSet", name := "put", desc := "(I[J)V" } : Jvm.MethodName) prog_28_method_7_code (4 : Nat) (Option.none : Option Jvm.ClassFile.FieldType)).before args0 about1 = true := code_word (m := ⟨2, 5⟩) (meth := k2m5) (c := k2c5) (by decide +kernel) rfl rfl rfl (by decide +kernel)
set_option maxRecDepth 65536 in
theorem w_c15 : (Jvm.Cond.code ({ cls := "java/lang/Math", name := "min", desc := "(II)I" } : Jvm.MethodName) jdk_29_method_69_code (2 : Nat) (Option.some Jvm.ClassFile.FieldType.int)).before args0 about1 = true := code_word (m := ⟨12, 1⟩) (meth := k12m1) (c := k12c1) (by decide +kernel) rfl rfl rfl (by decide +kernel)
set_option maxRecDepth 65536 in
theorem w_c16 : (Jvm.Cond.code ({ cls := "java/util/BitSet", name := "set", desc := "(I)V" } : Jvm.MethodName) jdk_92_method_19_code (3 : Nat) (Option.none : Option Jvm.ClassFile.FieldType)).before args0 about1 = true := code_word (m := ⟨5, 7⟩) (meth := k5m7) (c := k5c7) (by decide +kernel) rfl rfl rfl (by decide +kernel)
set_option maxRecDepth 65536 in
theorem w_c17 : (Jvm.Cond.code ({ cls := "java/util/BitSet", name := "expandTo", desc := "(I)V" } : Jvm.MethodName) jdk_92_method_15_code (3 : Nat) (Option.none : Option Jvm.ClassFile.FieldType)).before args0 about1 = true := code_word (m := ⟨5, 6⟩) (meth := k5m6) (c := k5c6) (by decide +kernel) rfl rfl rfl (by decide +kernel)
set_option maxRecDepth 65536 in
theorem w_c18 : (Jvm.Cond.code ({ cls := "java/util/BitSet", name := "ensureCapacity", desc := "(I)V" } : Jvm.MethodName) jdk_92_method_14_code (3 : Nat) (Option.none : Option Jvm.ClassFile.FieldType)).before args0 about1 = true := code_word (m := ⟨5, 5⟩) (meth := k5m5) (c := k5c5) (by decide +kernel) rfl rfl rfl (by decide +kernel)
set_option maxRecDepth 65536 in
theorem w_c19 : (Jvm.Cond.code ({ cls := "com/example/grantway/grantway/protocol/PackedSet", name := "holds", desc := "(I[J)Z" } : Jvm.MethodName) prog_28_method_6_code (6 : Nat) (Option.some Jvm.ClassFile.FieldType.boolean)).before args0 about1 = true := code_word (m := ⟨2, 4⟩) (meth := k2m4) (c := k2c4) (by decide +kernel) rfl rfl rfl (by decide +kernel)
set_option maxRecDepth 65536 in
theorem w_c20 : (Jvm.Cond.code ({ cls := "com/example/grantway/grantway/protocol/PackedSet", name := "contains", desc := "([J)Z" } : Jvm.MethodName) prog_28_method_3_code (2 : Nat) (Option.some Jvm.ClassFile.FieldType.boolean)).before args0 about1 = true := code_word (m := ⟨2, 2⟩) (meth := k2m2) (c := k2c2) (by decide +kernel) rfl rfl rfl (by decide +kernel)
def codes1 : List Jvm.Cond := [Jvm.Cond.code x code maxLocals ret, Jvm.Cond.code ({ cls := "com/example/grantway/grantway/protocol/PackedSet", name := "<init>", desc := "(I)V" } : Jvm.MethodName) prog_28_method_1_code (2 : Nat) (Option.none : Option Jvm.ClassFile.FieldType), Jvm.Cond.code ({ cls := "java/lang/Object", name := "<init>", desc := "()V" } : Jvm.MethodName) object_method_1_code (1 : Nat) (Option.none : Option Jvm.ClassFile.FieldType), Jvm.Cond.code ({ cls := "java/util/BitSet", name := "<init>", desc := "(I)V" } : Jvm.MethodName) jdk_92_method_5_code (2 : Nat) (Option.none : Option Jvm.ClassFile.FieldType), Jvm.Cond.code ({ cls := "java/util/BitSet", name := "initWords", desc := "(I)V" } : Jvm.MethodName) jdk_92_method_6_code (2 : Nat) (Option.none : Option Jvm.ClassFile.FieldType), Jvm.Cond.code ({ cls := "java/util/BitSet", name := "wordIndex", desc := "(I)I" } : Jvm.MethodName) jdk_92_method_1_code (1 : Nat) (Option.some Jvm.ClassFile.FieldType.int), Jvm.Cond.code ({ cls := "com/example/grantway/grantway/protocol/PackedSetContainsPinLaw", name := "pick", desc := "(IJJJJ)J" } : Jvm.MethodName) method_3_code (10 : Nat) (Option.some Jvm.ClassFile.FieldType.long), Jvm.Cond.code ({ cls := "com/example/grantway/grantway/protocol/PackedSet", name := "add", desc := "([J)V" } : Jvm.MethodName) prog_28_method_2_code (3 : Nat) (Option.none : Option Jvm.ClassFile.FieldType), Jvm.Cond.code ({ cls := "com/example/grantway/grantway/protocol/PackedSet", name := "checkWidth", desc := "([J)V" } : Jvm.MethodName) prog_28_method_9_code (2 : Nat) (Option.none : Option Jvm.ClassFile.FieldType), Jvm.Cond.code ({ cls := "com/example/grantway/grantway/protocol/PackedSet", name := "find", desc := "([J)I" } : Jvm.MethodName) prog_28_method_5_code (9 : Nat) (Option.some Jvm.ClassFile.FieldType.int), Jvm.Cond.code ({ cls := "java/lang/Long", name := "numberOfLeadingZeros", desc := "(J)I" } : Jvm.MethodName) jdk_35_method_48_code (3 : Nat) (Option.some Jvm.ClassFile.FieldType.int), Jvm.Cond.code ({ cls := "java/lang/Integer", name := "numberOfLeadingZeros", desc := "(I)I" } : Jvm.MethodName) jdk_33_method_47_code (2 : Nat) (Option.some Jvm.ClassFile.FieldType.int), Jvm.Cond.code ({ cls := "java/util/BitSet", name := "get", desc := "(I)Z" } : Jvm.MethodName) jdk_92_method_26_code (3 : Nat) (Option.some Jvm.ClassFile.FieldType.boolean), Jvm.Cond.code ({ cls := "java/util/BitSet", name := "checkInvariants", desc := "()V" } : Jvm.MethodName) jdk_92_method_2_code (1 : Nat) (Option.none : Option Jvm.ClassFile.FieldType), Jvm.Cond.code ({ cls := "com/example/grantway/grantway/protocol/PackedSet", name := "put", desc := "(I[J)V" } : Jvm.MethodName) prog_28_method_7_code (4 : Nat) (Option.none : Option Jvm.ClassFile.FieldType), Jvm.Cond.code ({ cls := "java/lang/Math", name := "min", desc := "(II)I" } : Jvm.MethodName) jdk_29_method_69_code (2 : Nat) (Option.some Jvm.ClassFile.FieldType.int), Jvm.Cond.code ({ cls := "java/util/BitSet", name := "set", desc := "(I)V" } : Jvm.MethodName) jdk_92_method_19_code (3 : Nat) (Option.none : Option Jvm.ClassFile.FieldType), Jvm.Cond.code ({ cls := "java/util/BitSet", name := "expandTo", desc := "(I)V" } : Jvm.MethodName) jdk_92_method_15_code (3 : Nat) (Option.none : Option Jvm.ClassFile.FieldType), Jvm.Cond.code ({ cls := "java/util/BitSet", name := "ensureCapacity", desc := "(I)V" } : Jvm.MethodName) jdk_92_method_14_code (3 : Nat) (Option.none : Option Jvm.ClassFile.FieldType), Jvm.Cond.code ({ cls := "com/example/grantway/grantway/protocol/PackedSet", name := "holds", desc := "(I[J)Z" } : Jvm.MethodName) prog_28_method_6_code (6 : Nat) (Option.some Jvm.ClassFile.FieldType.boolean), Jvm.Cond.code ({ cls := "com/example/grantway/grantway/protocol/PackedSet", name := "contains", desc := "([J)Z" } : Jvm.MethodName) prog_28_method_3_code (2 : Nat) (Option.some Jvm.ClassFile.FieldType.boolean)]
set_option maxRecDepth 65536 in
theorem codes_eq : words1.filter isCode = codes1 := rfl
theorem w_codes : ∀ c ∈ words1.filter isCode, c.before args0 about1 = true := by
  rw [codes_eq]
  intro c hc
  simp only [codes1, List.mem_cons, List.not_mem_nil, or_false] at hc
  rcases hc with rfl | rfl | rfl | rfl | rfl | rfl | rfl | rfl | rfl | rfl | rfl | rfl | rfl | rfl | rfl | rfl | rfl | rfl | rfl | rfl | rfl
  · exact w_c0
  · exact w_c1
  · exact w_c2
  · exact w_c3
  · exact w_c4
  · exact w_c5
  · exact w_c6
  · exact w_c7
  · exact w_c8
  · exact w_c9
  · exact w_c10
  · exact w_c11
  · exact w_c12
  · exact w_c13
  · exact w_c14
  · exact w_c15
  · exact w_c16
  · exact w_c17
  · exact w_c18
  · exact w_c19
  · exact w_c20
set_option maxRecDepth 65536 in
theorem w_t1 : (words1.take 24).all (fun c => isCode c || c.before args0 about1) = true := by decide +kernel
set_option maxRecDepth 65536 in
theorem w_t2 : ((words1.drop 24).take 24).all (fun c => isCode c || c.before args0 about1) = true := by decide +kernel
set_option maxRecDepth 65536 in
theorem w_t3 : (((words1.drop 24).drop 24).take 24).all (fun c => isCode c || c.before args0 about1) = true := by decide +kernel
set_option maxRecDepth 65536 in
theorem w_t4 : ((((words1.drop 24).drop 24).drop 24).take 24).all (fun c => isCode c || c.before args0 about1) = true := by decide +kernel
set_option maxRecDepth 65536 in
theorem w_t5 : ((((words1.drop 24).drop 24).drop 24).drop 24).all (fun c => isCode c || c.before args0 about1) = true := by decide +kernel
theorem w_tables : (allAtoms (Jvm.Cond.code x code maxLocals ret :: tables_1)).before args0 about1 = true := by
  rw [allAtoms_all]
  show words1.all (fun c => c.before args0 about1) = true
  refine all_split ?_ w_codes
  rw [← List.take_append_drop 24 words1, List.all_append, w_t1, ← List.take_append_drop 24 (words1.drop 24), List.all_append, w_t2, ← List.take_append_drop 24 ((words1.drop 24).drop 24), List.all_append, w_t3, ← List.take_append_drop 24 (((words1.drop 24).drop 24).drop 24), List.all_append, w_t4, w_t5]
  rfl
set_option maxRecDepth 65536 in
theorem w_rest : rest_1_c.before args0 about1 = true := by decide +kernel
set_option maxRecDepth 65536 in
theorem w_case : (Jvm.Cond.and given_1 narrow_1).before args0 about1 = true := by decide +kernel
theorem w_applies : (headSpec (Jvm.Cond.code x code maxLocals ret :: tables_1) room_1).applies x e0.platform about1 = true :=
  (Spec.applies_iff w_frames).mpr ⟨w_running, w_runnable, w_alone, w_named, w_hears, w_ripe, w_room, w_tables⟩
theorem atStart : AtStart classFile x code maxLocals ret World_1 tables_1 room_1 Calls_1 rest_1 Pre_1 launch0 p0 e0 about1 theMethod args0 below0 :=
  ⟨lists_1, trivial, launch0.admits_env _ _ _, launch0.least_env, fairChoices_fair.cas, fairChoices_fair.clock, w_frames, w_args, w_heap, w_applies, trivial, w_rest, w_case⟩
end start1
theorem witness_1 : WitnessClaimed_1 := ⟨start1.p0, start1.e0, start1.about1, start1.theMethod, start1.args0, start1.below0, start1.atStart⟩
end Jvm.Pilot.@@N@@
