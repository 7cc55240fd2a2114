import JvmDerived
import JvmDerived.Pilot.@@N@@Statement
import JvmDerived.Pilot.@@N@@Code
set_option maxRecDepth 65536
set_option maxHeartbeats 40000000
set_option linter.unusedVariables false
set_option linter.unusedSimpArgs false
@@BLOCK:NumsL.lean.txt@@
namespace Jvm.Pilot.@@N@@
open Jvm Jvm.ClassFile Sem Op Lib Jvm.Free Jvm.Stand Jvm.LawKit Jvm.RoadKit Bundle Jvm.Pilot.@@N@@.Jvm.D
abbrev vi (x : Int32) : Slot := .val (.int x)
abbrev vr (a : Nat) : Slot := .val (.ref a)
abbrev uu : Slot := .unset
abbrev vn (x : Nat) : Slot := .val (.int (Int32.ofNat x))
abbrev dk (C : ByteArray) (n : Nat) (i : Instr) (k : Nat) : Prop := decode C n = .ok (i, k)
abbrev vz : Slot := .val (.int 0)
abbrev cD19 : ByteArray := method_3_code
abbrev cD9 : ByteArray := prog_24_method_3_code
abbrev cD13 : ByteArray := jdk_38_method_41_code
abbrev cD27 : ByteArray := jdk_49_method_3_code
abbrev cD30 : ByteArray := jdk_42_method_66_code
abbrev cD31 : ByteArray := jdk_43_method_13_code
abbrev cD16 : ByteArray := jdk_65_method_120_code
abbrev cD25 : ByteArray := jdk_38_method_6_code
abbrev cD23 : ByteArray := jdk_38_method_24_code
abbrev cD22 : ByteArray := jdk_38_method_25_code
abbrev cD11 : ByteArray := jdk_49_method_1_code
abbrev cD5 : ByteArray := jdk_42_method_139_code
abbrev cD12 : ByteArray := jdk_49_method_2_code
abbrev cD32 : ByteArray := jdk_38_method_20_code
abbrev cD8 : ByteArray := jdk_42_method_151_code
abbrev cD20 : ByteArray := prog_25_method_1_code
abbrev cD7 : ByteArray := jdk_43_method_46_code
abbrev cD17 : ByteArray := jdk_29_method_69_code
abbrev cD24 : ByteArray := jdk_38_method_7_code
abbrev cD28 : ByteArray := jdk_49_method_6_code
abbrev cD15 : ByteArray := jdk_65_method_119_code
abbrev cD14 : ByteArray := jdk_38_method_16_code
abbrev cD34 : ByteArray := jdk_41_method_11_code
abbrev cD6 : ByteArray := jdk_43_method_3_code
abbrev cD2 : ByteArray := jdk_39_method_1_code
abbrev cD1 : ByteArray := jdk_38_method_2_code
abbrev cD26 : ByteArray := jdk_29_method_65_code
abbrev cD10 : ByteArray := jdk_38_method_55_code
abbrev cD33 : ByteArray := jdk_31_method_17_code
abbrev cD35 : ByteArray := jdk_38_method_18_code
abbrev cD3 : ByteArray := jdk_22_method_1_code
abbrev cD21 : ByteArray := jdk_30_method_1_code
abbrev cD29 : ByteArray := prog_25_method_5_code
abbrev cD36 : ByteArray := prog_25_method_6_code
abbrev cD18 : ByteArray := jdk_38_method_8_code
abbrev ym22 : MethodName := ⟨"java/util/ArrayList", "add", "(Ljava/lang/Object;)Z"⟩
abbrev ym30 : MethodName := ⟨"java/lang/String", "equals", "(Ljava/lang/Object;)Z"⟩
abbrev ym29 : MethodName := ⟨"com/example/practory/practory/server/SearchQuery$Parameter", "name", "()Ljava/lang/String;"⟩
abbrev ym5 : MethodName := ⟨"java/lang/String", "valueOf", "(C)Ljava/lang/String;"⟩
abbrev ym12 : MethodName := ⟨"java/util/ArrayList$Itr", "hasNext", "()Z"⟩
abbrev ym13 : MethodName := ⟨"java/util/ArrayList", "addAll", "(Ljava/util/Collection;)Z"⟩
abbrev ym7688 : MethodName := ⟨"java/util/Iterator", "hasNext", "()Z"⟩
abbrev ym27 : MethodName := ⟨"java/util/ArrayList$Itr", "next", "()Ljava/lang/Object;"⟩
abbrev ym19 : MethodName := ⟨"com/example/practory/practory/server/SearchQueryWithPinLaw", "at", "(Ljava/util/List;IIII[C[CC[C)Z"⟩
abbrev ym8978 : MethodName := ⟨"java/util/Iterator", "next", "()Ljava/lang/Object;"⟩
abbrev ym1 : MethodName := ⟨"java/util/ArrayList", "<init>", "()V"⟩
abbrev ym20 : MethodName := ⟨"com/example/practory/practory/server/SearchQuery$Parameter", "<init>", "(Ljava/lang/String;Ljava/lang/String;)V"⟩
abbrev ym36 : MethodName := ⟨"com/example/practory/practory/server/SearchQuery$Parameter", "value", "()Ljava/lang/String;"⟩
abbrev ym14 : MethodName := ⟨"java/util/ArrayList", "toArray", "()[Ljava/lang/Object;"⟩
abbrev ym10 : MethodName := ⟨"java/util/ArrayList", "iterator", "()Ljava/util/Iterator;"⟩
abbrev ym32 : MethodName := ⟨"java/util/ArrayList", "get", "(I)Ljava/lang/Object;"⟩
abbrev ym23 : MethodName := ⟨"java/util/ArrayList", "add", "(Ljava/lang/Object;[Ljava/lang/Object;I)V"⟩
abbrev ym16 : MethodName := ⟨"java/util/Arrays", "copyOf", "([Ljava/lang/Object;ILjava/lang/Class;)[Ljava/lang/Object;"⟩
abbrev ym15 : MethodName := ⟨"java/util/Arrays", "copyOf", "([Ljava/lang/Object;I)[Ljava/lang/Object;"⟩
abbrev ym9554 : MethodName := ⟨"java/util/Collection", "toArray", "()[Ljava/lang/Object;"⟩
abbrev ym9246 : MethodName := ⟨"java/util/List", "iterator", "()Ljava/util/Iterator;"⟩
abbrev ym17 : MethodName := ⟨"java/lang/Math", "min", "(II)I"⟩
abbrev ym25 : MethodName := ⟨"java/util/ArrayList", "grow", "(I)[Ljava/lang/Object;"⟩
abbrev ym28 : MethodName := ⟨"java/util/ArrayList$Itr", "checkForComodification", "()V"⟩
abbrev ym35 : MethodName := ⟨"java/util/ArrayList", "elementData", "(I)Ljava/lang/Object;"⟩
abbrev ym8494 : MethodName := ⟨"java/util/List", "get", "(I)Ljava/lang/Object;"⟩
abbrev ym6 : MethodName := ⟨"java/lang/StringLatin1", "canEncode", "(C)Z"⟩
abbrev ym7 : MethodName := ⟨"java/lang/StringLatin1", "toBytes", "(C)[B"⟩
abbrev ym8 : MethodName := ⟨"java/lang/String", "<init>", "([BB)V"⟩
abbrev ym3 : MethodName := ⟨"java/util/AbstractCollection", "<init>", "()V"⟩
abbrev ym2 : MethodName := ⟨"java/util/AbstractList", "<init>", "()V"⟩
abbrev ym26 : MethodName := ⟨"java/lang/Math", "max", "(II)I"⟩
abbrev ym24 : MethodName := ⟨"java/util/ArrayList", "grow", "()[Ljava/lang/Object;"⟩
abbrev ym11 : MethodName := ⟨"java/util/ArrayList$Itr", "<init>", "(Ljava/util/ArrayList;)V"⟩
abbrev ym31 : MethodName := ⟨"java/lang/StringLatin1", "equals", "([B[B)Z"⟩
abbrev ym21 : MethodName := ⟨"java/lang/Record", "<init>", "()V"⟩
abbrev ym9 : MethodName := ⟨"com/example/practory/practory/server/SearchQuery", "with", "(Ljava/util/List;Ljava/lang/String;Ljava/util/List;)Ljava/util/List;"⟩
abbrev ym18 : MethodName := ⟨"java/util/ArrayList", "size", "()I"⟩
abbrev ym34 : MethodName := ⟨"jdk/internal/util/Preconditions", "checkIndex", "(IILjava/util/function/BiFunction;)I"⟩
abbrev ym33 : MethodName := ⟨"java/util/Objects", "checkIndex", "(II)I"⟩
section Own
variable {p : Program} {l : Launch} {e : Env} {R : Room} {s : State} {m : MethodId} {args : Array Value} {below : List Frame} {meth : Method} {c : Code} {T : State} {locs : List Loc} {cells slots : Nat}
/-- from A the run ends, and what it leaves is as Q says -/
def own_go (p : Program) (e : Env) (below : List Frame) (s : State) (Q : Option Value → Heap → List Loc → Prop) (C S : Nat) (A : State) : Prop :=
 ∃ t o, Steps p.tables e below A t ∧ t.status = .running ∧ Ended t below o ∧ ∃ v L, o = .returned v ∧ Q v t.heap L ∧ FrameEnd s o t L C S
variable {Q : Option Value → Heap → List Loc → Prop} {C S : Nat} {A B : State}
theorem own_in (h : own_go p e below s Q C S A) : ∃ t o, Steps p.tables e below A t ∧ t.status = .running ∧ Ended t below o ∧ ∃ v L, o = .returned v ∧ Q v t.heap L ∧ FrameEnd s o t L C S := h
theorem oo (k : ∀ t, Steps p.tables e below B t → Steps p.tables e below A t) (h : own_go p e below s Q C S B) : own_go p e below s Q C S A := by
 obtain ⟨t, o, h1, h2⟩ := h
 exact ⟨t, o, k t h1, h2⟩
theorem olt {a b : Nat} (h : a < b) : a < b := h
theorem one {a b : Nat} (h : a ≠ b) : a ≠ b := h
theorem own_use {α : Type} (X : Stand p l e R s m args below meth c T locs cells slots) {h : Heap} {g : α → JFrame} {G : State → Prop} (k : ∀ (r : α) (T' : State), Stand p l e R s m args below meth c T' locs cells slots → T'.heap = h → G (T'.setTop (g r)))
  (b : (∀ (r : α) (T' : State), Stand p l e R s m args below meth c T' locs cells slots → T'.heap = h → G (T'.setTop (g r))) → G A) : G A := b k
theorem own_ret (X : Stand p l e R s m args below meth c T locs cells slots) (hx : p.tables.exec = Jvm.exec) (hlk : meth.locks = false) {pc : Nat} {Ls : Array Slot} {w : Value} {t : FieldType} {i : Instr} {rest : List Value} (hret : meth.sig.returnType = some t) (hn : narrow t w = w)
  (hi : (i = .ireturn ∧ (t = .int ∨ t = .boolean ∨ t = .byte ∨ t = .char ∨ t = .short) ∧ ∃ z, w = .int z) ∨ (i = .lreturn ∧ t = .long ∧ ∃ z, w = .long z) ∨ (i = .dreturn ∧ t = .double ∧ ∃ z, w = .double z) ∨ (i = .freturn ∧ t = .float ∧ ∃ z, w = .float z) ∨ (i = .areturn ∧ t.isReference = true ∧ w.isRef = true))
  (hd : decode c.code pc = .ok (i, 1)) (hc : cells ≤ C) (hs : slots ≤ S) (hQ : Q (some w) T.heap locs) : own_go p e below s Q C S (T.setTop (mkF m pc Ls (w :: rest))) := by
 obtain ⟨fs, hr, hrun, hended, hW, hsame⟩ := X.leave (v := some w) (fun h => by rw [hret] at h; cases h) hlk
 exact ⟨_, _, retOut X hx hret hn hi hd hr, hrun, hended, _, _, rfl, hQ, ⟨_, rfl⟩, hW, hsame.mono hc hs⟩
theorem own_retV (X : Stand p l e R s m args below meth c T locs cells slots) (hx : p.tables.exec = Jvm.exec) (hlk : meth.locks = false) {pc : Nat} {Ls : Array Slot} (hret : meth.sig.returnType = none)
  (hd : decode c.code pc = .ok (.return_, 1)) (hc : cells ≤ C) (hs : slots ≤ S) (hQ : Q none T.heap locs) : own_go p e below s Q C S (T.setTop (mkF m pc Ls [])) := by
 obtain ⟨fs, hr, hrun, hended, hW, hsame⟩ := X.leave (v := none) (fun _ => rfl) hlk
 exact ⟨_, _, X.returnOut hx hret hd hr, hrun, hended, _, _, rfl, hQ, ⟨_, rfl⟩, hW, hsame.mono hc hs⟩
/-- the same where String constants may have been loaded -/
def own_gw (p : Program) (e : Env) (below : List Frame) (s : State) (Q : Option Value → Heap → List Loc → Prop) (C S : Nat) (A : State) : Prop :=
 ∃ t o, Steps p.tables e below A t ∧ t.status = .running ∧ Ended t below o ∧ ∃ v L, o = .returned v ∧ Q v t.heap L ∧ ReturnedEndW s o t L C S
theorem own_inw (h : own_gw p e below s Q C S A) : ∃ t o, Steps p.tables e below A t ∧ t.status = .running ∧ Ended t below o ∧ ∃ v L, o = .returned v ∧ Q v t.heap L ∧ ReturnedEndW s o t L C S := h
theorem ow (k : ∀ t, Steps p.tables e below B t → Steps p.tables e below A t) (h : own_gw p e below s Q C S B) : own_gw p e below s Q C S A := by
 obtain ⟨t, o, h1, h2⟩ := h
 exact ⟨t, o, k t h1, h2⟩
theorem own_retw {vm0 : Vm} {k0 : Nat} (X : Stand p l e R (s.setVm vm0) m args below meth c T locs cells slots) (hx : p.tables.exec = Jvm.exec) (hlk : meth.locks = false) (hS : s.Since vm0 k0) (hk : k0 ≤ T.heap.size) {pc : Nat} {Ls : Array Slot} {w : Value} {t : FieldType} {i : Instr} {rest : List Value} (hret : meth.sig.returnType = some t) (hn : narrow t w = w)
  (hi : (i = .ireturn ∧ (t = .int ∨ t = .boolean ∨ t = .byte ∨ t = .char ∨ t = .short) ∧ ∃ z, w = .int z) ∨ (i = .lreturn ∧ t = .long ∧ ∃ z, w = .long z) ∨ (i = .dreturn ∧ t = .double ∧ ∃ z, w = .double z) ∨ (i = .freturn ∧ t = .float ∧ ∃ z, w = .float z) ∨ (i = .areturn ∧ t.isReference = true ∧ w.isRef = true))
  (hd : decode c.code pc = .ok (i, 1)) (hc : cells ≤ C) (hs : slots ≤ S) (hQ : Q (some w) T.heap locs) : own_gw p e below s Q C S (T.setTop (mkF m pc Ls (w :: rest))) := by
 obtain ⟨fs, hr, hrun, hended, h1, h2, h3, h4⟩ := X.leaveW hS hk (v := some w) (fun h => by rw [hret] at h; cases h) hlk
 exact ⟨_, _, retOut X hx hret hn hi hd hr, hrun, hended, _, _, rfl, hQ, h1, h2, h3, h4.mono hc hs⟩
theorem own_retVw {vm0 : Vm} {k0 : Nat} (X : Stand p l e R (s.setVm vm0) m args below meth c T locs cells slots) (hx : p.tables.exec = Jvm.exec) (hlk : meth.locks = false) (hS : s.Since vm0 k0) (hk : k0 ≤ T.heap.size) {pc : Nat} {Ls : Array Slot} (hret : meth.sig.returnType = none)
  (hd : decode c.code pc = .ok (.return_, 1)) (hc : cells ≤ C) (hs : slots ≤ S) (hQ : Q none T.heap locs) : own_gw p e below s Q C S (T.setTop (mkF m pc Ls [])) := by
 obtain ⟨fs, hr, hrun, hended, h1, h2, h3, h4⟩ := X.leaveW hS hk (v := none) (fun _ => rfl) hlk
 exact ⟨_, _, X.returnOut hx hret hd hr, hrun, hended, _, _, rfl, hQ, h1, h2, h3, h4.mono hc hs⟩
/-- the same, with what the JVM holds for the constants of EL -/
def own_gc (p : Program) (e : Env) (below : List Frame) (s : State) (Z : State) (EL : List (String × Nat)) (Q : Option Value → Heap → List Loc → Prop) (C S : Nat) (A : State) : Prop :=
 ∃ t o, Steps p.tables e below A t ∧ t.status = .running ∧ Ended t below o ∧ ∃ v L, o = .returned v ∧ Q v t.heap L ∧ CHr Z EL s.vm s.heap t.vm t.heap ∧ ReturnedEndW s o t L C S
variable {Z : State} {EL : List (String × Nat)} {a0 : Array Value}
theorem own_inc (h : own_gc p e below s Z EL Q C S A) : ∃ t o, Steps p.tables e below A t ∧ t.status = .running ∧ Ended t below o ∧ ∃ v L, o = .returned v ∧ Q v t.heap L ∧ CHr Z EL s.vm s.heap t.vm t.heap ∧ ReturnedEndW s o t L C S := h
theorem oc (k : ∀ t, Steps p.tables e below B t → Steps p.tables e below A t) (h : own_gc p e below s Z EL Q C S B) : own_gc p e below s Z EL Q C S A := by
 obtain ⟨t, o, h1, h2⟩ := h
 exact ⟨t, o, k t h1, h2⟩
theorem own_retc {vm0 : Vm} {k0 : Nat} (X : Stand p l e R (s.setVm vm0) m args below meth c T locs cells slots) (hx : p.tables.exec = Jvm.exec) (hlk : meth.locks = false) (hS : s.Since vm0 k0) (hk : k0 ≤ T.heap.size) (hZ : Z.Warmed39 vm0) (hEL : EW Z a0 EL) (H : CHr Z EL s.vm s.heap vm0 T.heap) {pc : Nat} {Ls : Array Slot} {w : Value} {t : FieldType} {i : Instr} {rest : List Value} (hret : meth.sig.returnType = some t) (hn : narrow t w = w)
  (hi : (i = .ireturn ∧ (t = .int ∨ t = .boolean ∨ t = .byte ∨ t = .char ∨ t = .short) ∧ ∃ z, w = .int z) ∨ (i = .lreturn ∧ t = .long ∧ ∃ z, w = .long z) ∨ (i = .dreturn ∧ t = .double ∧ ∃ z, w = .double z) ∨ (i = .freturn ∧ t = .float ∧ ∃ z, w = .float z) ∨ (i = .areturn ∧ t.isReference = true ∧ w.isRef = true))
  (hd : decode c.code pc = .ok (i, 1)) (hc : cells ≤ C) (hs : slots ≤ S) (hQ : Q (some w) T.heap locs) : own_gc p e below s Z EL Q C S (T.setTop (mkF m pc Ls (w :: rest))) := by
 obtain ⟨fs, hr, hrun, hended, h1, h2, h3, h4⟩ := X.leaveW hS hk (v := some w) (fun h => by rw [hret] at h; cases h) hlk
 have q : CHr Z EL s.vm s.heap T.vm T.heap := H.trans (CHv.at X hZ hEL H.1)
 exact ⟨_, _, retOut X hx hret hn hi hd hr, hrun, hended, _, _, rfl, hQ, q, h1, h2, h3, h4.mono hc hs⟩
theorem own_retVc {vm0 : Vm} {k0 : Nat} (X : Stand p l e R (s.setVm vm0) m args below meth c T locs cells slots) (hx : p.tables.exec = Jvm.exec) (hlk : meth.locks = false) (hS : s.Since vm0 k0) (hk : k0 ≤ T.heap.size) (hZ : Z.Warmed39 vm0) (hEL : EW Z a0 EL) (H : CHr Z EL s.vm s.heap vm0 T.heap) {pc : Nat} {Ls : Array Slot} (hret : meth.sig.returnType = none)
  (hd : decode c.code pc = .ok (.return_, 1)) (hc : cells ≤ C) (hs : slots ≤ S) (hQ : Q none T.heap locs) : own_gc p e below s Z EL Q C S (T.setTop (mkF m pc Ls [])) := by
 obtain ⟨fs, hr, hrun, hended, h1, h2, h3, h4⟩ := X.leaveW hS hk (v := none) (fun _ => rfl) hlk
 have q : CHr Z EL s.vm s.heap T.vm T.heap := H.trans (CHv.at X hZ hEL H.1)
 exact ⟨_, _, X.returnOut hx hret hd hr, hrun, hended, _, _, rfl, hQ, q, h1, h2, h3, h4.mono hc hs⟩
theorem ci (k : ∀ {t}, Steps p.tables e below B t → Steps p.tables e below A t) (h : own_gc p e below s Z EL Q C S B) : own_gc p e below s Z EL Q C S A := oc (fun _ => k) h
theorem oi (k : ∀ {t}, Steps p.tables e below B t → Steps p.tables e below A t) (h : own_go p e below s Q C S B) : own_go p e below s Q C S A := oo (fun _ => k) h
theorem sc (h : own_gc p e below s Z EL Q C S A) : own_gc p e below s Z EL Q C S A := h
theorem so (h : own_go p e below s Q C S A) : own_go p e below s Q C S A := h
open Jvm.Free.SB Jvm.Free.SBG in
/-- a String that has no array yet is no constant's -/
theorem own_safe_null {vm : Vm} {h : Heap} {x : Addr} (hal : Z.vm.Alike vm) (E : Exa Z h x "java/lang/String") (F : Fld Z h x "java/lang/String" "value" "[B" .null) : Safe Z EL vm h x := fun B => by
 obtain ⟨p, -, u, a, -, q, -, F', rfl | rfl⟩ := B
 ·obtain ⟨cS, ⟨⟨s1, s2, s3, ⟨cv, kv, iv, s4, s4'⟩, s5, s6, s7, s8, -⟩, -, -⟩, -⟩ := F'
  obtain ⟨cell, cf, k, i, f, h1, h2, h3, -, -, -, h7⟩ := F
  cases (show h[q.sa]? = some q.sC from s1).symm.trans h1
  obtain ⟨kv', z4⟩ := ff_back (U := Wst Z vm h) hal s4
  have e4 := z4.symm.trans h2
  simp only [Option.some.injEq, Prod.mk.injEq] at e4
  rw [e4.2.2.2] at s8
  have := s8.symm.trans h7
  simp at this
 ·obtain ⟨cell, k, e1, e2, e3, -, -⟩ := E
  cases (show h[q.sd]? = some q.SA from F'.hd).symm.trans e1
  obtain ⟨cS, -, -, f, -⟩ := F'
  have f' : vm.findClass "[B" = some q.SA.cls := f
  rw [hal.findClass] at f'
  obtain ⟨k1, q1, q2⟩ := Vm.findClass_spec f'
  obtain ⟨k2, q3, q4⟩ := Vm.findClass_spec e2
  cases q1.symm.trans q3
  have := q2.symm.trans q4
  simp at this
theorem own_ex {t : Term} {K : String} (h : (Jvm.Cond.exactly t K).value args s none s [] = some true) : ∃ a, t.eval args s none [] s = some (.ref a) ∧ Exa s s.heap a K := by
 obtain ⟨a, ha⟩ := exa_v h
 exact ⟨a, ha, Exa.start ha h⟩
theorem own_fi {t : Term} {K n d : String} {a : Addr} {k : Int32} (ht : t.eval args s none [] s = some (.ref a)) (h : (Jvm.Cond.eq (Term.field t K n d) (Term.int k)).value args s none s [] = some true) : Fld s s.heap a K n d (.int k) := by
 obtain ⟨x, y, h1, h2, h3, h4⟩ := cmp_v (Or.inl h)
 have e2 := Option.some.inj ((Term.int_eval k).symm.trans h2)
 subst e2
 rw [fld_at ht] at h1
 obtain ⟨z, rfl⟩ := h4
 have hz : s.fieldOf? a K n d = some (.int z) := h1
 have : z = k := by
  have h5 : (Term.field t K n d).eval args s none [] s = some (.int z) := (fld_at ht).trans hz
  simpa [Cond.value, h5, Term.int_eval] using h
 subst this
 exact Fld.start hz
end Own
abbrev own_R (a b c d : Nat) : Room := { frames := a, cells := b, slots := c, locals := d }
abbrev own_H (Z : State) (a0 : Array Value) : Prop := ∀ d ∈ tables_1, d.before a0 Z = true
theorem own_hW {Z : State} {a0 : Array Value} (hw : own_H Z a0) : ∀ (i : Nat) (d : Jvm.Cond), tables_1[i]? = some d → d.before a0 Z = true := fun i d h => hw d (List.mem_of_getElem? h)
abbrev own_M (l : Launch) (Z : State) (y : MethodName) (code : ByteArray) (ws : List Jvm.Cond) (ml : Nat) (ret : Option FieldType) (R : Room) (A : Array Value) (h0 : Heap) (Q : Option Value → Heap → List Loc → Prop) : Prop := MetFree l y (head1 (Jvm.Cond.code y code ml ret :: ws) R) (fun zz_ U => zz_ = A ∧ Z.Warmed39 U.vm ∧ U.heap = h0) (fun _ _ _ _ _ => True) (fun _ U o U' => ∃ v L, o = .returned v ∧ Q v U'.heap L ∧ FrameEnd U o U' L R.cells R.slots)
theorem own_open {l : Launch} {Z : State} {y : MethodName} {code : ByteArray} {ws : List Jvm.Cond} {ml : Nat} {ret : Option FieldType} {R : Room} {A : Array Value} {h0 : Heap} {Q : Option Value → Heap → List Loc → Prop} (hpl : plainFor y = true)
  (k : ∀ (p : Program) (e : Env) (s : State) (m : MethodId) (below : List Frame) (meth : Method) (c : Code) (s₁ : State), p.tables.exec = Jvm.exec → c.code = code → meth.locks = false → meth.sig.returnType = ret → c.maxLocals = ml → s.vm.findClass y.cls = some m.cls → meth.name = y.name → Z.Warmed39 s.vm → Stand p l e R s m A below meth c s₁ [] 0 0 → s₁.heap = h0 → own_go p e below s Q R.cells R.slots (s₁.setTop (entryFrame m A ml))) : own_M l Z y code ws ml ret R A h0 Q := by
 refine MetFree.of_bodySF hpl hisR ?_
 intro p e s m args below meth c s₁ Bd hml0 hP hK
 obtain ⟨rfl, hZ, hh⟩ := hP
 exact k p e s m below meth c s₁ Bd.exec Bd.bytes Bd.notSynchronized Bd.returns hml0 (findClass_of_methodNamed Bd.named) (name_of_methodNamed Bd.named Bd.method).1 hZ (Stand.of_body Bd) (by rw [← hh, Bd.state]; rfl)
section Call
variable {p : Program} {l : Launch} {e : Env} {R : Room} {s : State} {m : MethodId} {args : Array Value} {below : List Frame} {meth : Method} {c : Code} {T : State} {locs : List Loc} {cells slots : Nat}
theorem own_c1 (X : Stand p l e R s m args below meth c T locs cells slots) {Q : Option Value → Heap → List Loc → Prop} {kc ks : Nat} {G : Option Value → Pt → Prop} {W : Vm → Prop}
  (h : ∃ (v : Option Value) (vm₁ : Vm) (B : Pt), W vm₁ ∧ Stand p l e R s m args below meth c B.U B.locs B.cells B.slots ∧ (∃ L, Q v B.U.heap L ∧ B.locs = locs ++ L ∧ B.cells = cells + kc ∧ B.slots = slots + ks) ∧ G v B) :
  ∃ v T' L, Stand p l e R s m args below meth c T' (locs ++ L) (cells + kc) (slots + ks) ∧ Q v T'.heap L ∧ G v ⟨T', locs ++ L, cells + kc, slots + ks⟩ := by
 obtain ⟨v, -, ⟨T', L', k, n⟩, -, X', ⟨L, hQ, e1, e2, e3⟩, g⟩ := h
 have e1 : L' = locs ++ L := e1
 have e2 : k = cells + kc := e2
 have e3 : n = slots + ks := e3
 subst e1 e2 e3
 exact ⟨v, T', L, X', hQ, g⟩
end Call
theorem own_len {s : State} {args : Array Value} {t : Term} {a : Addr} {cl : Cell} {ty : FieldType} {k : Int32} (ht : t.eval args s none [] s = some (.ref a)) (A : Arr s s.heap a cl ty) (h : (Jvm.Cond.eq (Term.length t) (Term.int k)).value args s none s [] = some true) : cl.slots.size.toInt32 = k ∧ cl.slots.size < 2 ^ 31 := by
 obtain ⟨x, y, h1, h2, h3, h4⟩ := cmp_v (Or.inl h)
 have e2 := Option.some.inj ((Term.int_eval k).symm.trans h2)
 subst e2
 obtain ⟨z, rfl⟩ := h4
 have hA : s.arrayAt? a = some cl := A.fin (Vm.Alike.refl _)
 by_cases hl : cl.slots.size < 2 ^ 31
 ·have h5 := len_f ht hA hl
  have h6 : cl.slots.size.toInt32 = z := by have := h5.symm.trans h1; simpa using this
  refine ⟨?_, hl⟩
  rw [h6]
  simpa [Cond.value, h1, Term.int_eval] using h
 ·simp [Term.eval, ht, hA, hl] at h1
theorem own_el {s : State} {args : Array Value} {t : Term} {a : Addr} {cl : Cell} {ty : FieldType} {k j : Int32} (ht : t.eval args s none [] s = some (.ref a)) (A : Arr s s.heap a cl ty) (h : (Jvm.Cond.eq (Term.elem t (Term.int j)) (Term.int k)).value args s none s [] = some true) : cl.slots[j.toNatClampNeg]? = some (.int k) := by
 obtain ⟨x, y, h1, h2, h3, h4⟩ := cmp_v (Or.inl h)
 have e2 := Option.some.inj ((Term.int_eval k).symm.trans h2)
 subst e2
 obtain ⟨z, rfl⟩ := h4
 have h5 := (elem_in h1 ht (Term.int_eval j) A.1).2
 have : z = k := by simpa [Cond.value, h1, Term.int_eval] using h
 rw [h5, this]
theorem own_er {s : State} {args : Array Value} {t u : Term} {a b : Addr} {cl : Cell} {ty : FieldType} {j : Int32} (ht : t.eval args s none [] s = some (.ref a)) (hu : u.eval args s none [] s = some (.ref b)) (A : Arr s s.heap a cl ty) (h : (Jvm.Cond.eq (Term.elem t (Term.int j)) u).value args s none s [] = some true) : cl.slots[j.toNatClampNeg]? = some (.ref b) := by
 obtain ⟨x, y, h1, h2, h3, h4⟩ := cmp_v (Or.inl h)
 have e2 := Option.some.inj (hu.symm.trans h2)
 subst e2
 have h5 := (elem_in h1 ht (Term.int_eval j) A.1).2
 rw [h5]
 cases x <;> simp [Cond.value, h1, hu] at h ⊢
 exact h
theorem own_fr {s : State} {args : Array Value} {t : Term} {a b : Addr} {K n d : String} (ht : t.eval args s none [] s = some (.ref a)) (hf : (Term.field t K n d).eval args s none [] s = some (.ref b)) : Fld s s.heap a K n d (.ref b) := Fld.start ((fld_at ht).symm.trans hf)
theorem own_and3 (x : Int32) : x &&& 3 = 0 ∨ x &&& 3 = 1 ∨ x &&& 3 = 2 ∨ x &&& 3 = 3 := by
 have e1 : (x &&& 3).toInt = x.toInt % 2 ^ 2 := Jvm.Kit.i32_mask x 3 (k := 2) (by decide) (by decide)
 simp only [← Int32.toInt_inj, show (0 : Int32).toInt = 0 from rfl, show (1 : Int32).toInt = 1 from rfl, show (2 : Int32).toInt = 2 from rfl, show (3 : Int32).toInt = 3 from rfl]
 omega
def own_lo8 (x : Int32) : Int32 := x.toInt8.toInt32
theorem own_narb (x : Int32) : nar .byte (x.toInt8.toInt32) = own_lo8 x := by
 unfold nar own_lo8; simp
theorem own_selp {Z : State} {a0 : Array Value} {y z : MethodName} (hs : (Jvm.Cond.selects y.cls z z).before a0 Z = true) (hc : z.cls = y.cls) (hp : (Jvm.Cond.privateMethod y).before a0 Z = true) (hi : (Jvm.Cond.instanceMethod y).before a0 Z = true) (hy : y.cls ≠ "java/lang/invoke/MethodHandle" ∧ y.cls ≠ "java/lang/invoke/VarHandle") : (Jvm.Cond.selects y.cls y y).before a0 Z = true := by
 obtain ⟨c2, r2, m2, q1, q2, q3, q4, kP, hkP, hkPi⟩ := Cond.selects_spec hs
 have q5 := findClass_of_methodNamed q3
 rw [hc] at q5
 cases q5.symm.trans q1
 exact Stand.selects_self_of_private q1 hkP hkPi (Cond.privateMethod_at hp) hi hy
def own_mir (Z : State) (C : String) (mr : Addr) : Prop := ∃ (c : ClassId) (k : Class), Z.vm.findClass C = some c ∧ Z.vm.classes[c]? = some k ∧ k.mirror = some mr
section Mir
variable {p : Program} {l : Launch} {e : Env} {R : Room} {s : State} {m : MethodId} {args : Array Value} {below : List Frame} {meth : Method} {c : Code} {T : State} {locs : List Loc} {cells slots : Nat} {Z : State} {h : Heap}
theorem own_gcls (X : Stand p l e R s m args below meth c T locs cells slots) (hx : p.tables.exec = Jvm.exec) (hZ : Z.Warmed39 s.vm) {a0 : Array Value} {own C : String} {index : Nat} (hown : s.vm.findClass own = some m.cls)
  (w1 : (Jvm.Cond.methodLink own index ⟨"java/lang/Object", "getClass", "()Ljava/lang/Class;"⟩).before a0 Z = true) (w2 : (Jvm.Cond.declares ⟨"java/lang/Object", "getClass", "()Ljava/lang/Class;"⟩).before a0 Z = true) (w4 : (Jvm.Cond.selects C ⟨"java/lang/Object", "getClass", "()Ljava/lang/Class;"⟩ ⟨"java/lang/Object", "getClass", "()Ljava/lang/Class;"⟩).before a0 Z = true)
  (w5 : (Jvm.Cond.instanceMethod ⟨"java/lang/Object", "getClass", "()Ljava/lang/Class;"⟩).before a0 Z = true) (w6 : (Jvm.Cond.native ⟨"java/lang/Object", "getClass", "()Ljava/lang/Class;"⟩).before a0 Z = true) (eT : T.heap = h) {a : Addr} (E : Exa Z h a C) {mr : Addr} (M : own_mir Z C mr)
  {g : JFrame} (hg : g.method = m) (hsize : g.locals.size = c.maxLocals) {rest : List Value} (hs : g.stack = .ref a :: rest) (hd : decode c.code g.pc = .ok (.invokevirtual index, 3)) (hf : 1 ≤ R.frames) {W : Nat} (hW : 2 * g.monitorRoom + (rest.map fun v => v.category).sum ≤ W) (hl : W + (nativeFrameWords "java/lang/Object" "getClass" 1 + 11) ≤ R.locals) :
  ∃ T', Stand p l e R s m args below meth c T' locs cells slots ∧ T'.heap = h ∧ ∀ target, Steps p.tables e below (T'.setTop { g with pc := g.pc + 3, stack := .ref mr :: rest }) target → Steps p.tables e below (T.setTop g) target := by
 obtain ⟨cB, kB, i1, i2, i3⟩ := isOf hZ eT E
 obtain ⟨cc, kc, m1, m2, m3⟩ := M
 rw [hZ.alike.findClass] at i1
 cases i1.symm.trans m1
 obtain ⟨k', q, ek⟩ := hZ.alike.2.2 _ _ m2
 obtain ⟨vm', X', st⟩ := X.getClassOf hx hown (mvT hZ w1) (mvT hZ w2) (notFace_of_selects (args := #[]) (mvT hZ w4)) (mvT hZ w4) (mvT hZ w5) (mvT hZ w6) (by rw [hZ.alike.findClass]; exact m1) i3 q (by rw [ek]; exact m3) hg hsize hs hd hf (by omega)
 exact ⟨_, X', eT, st⟩
theorem own_ldcM (X : Stand p l e R s m args below meth c T locs cells slots) (hx : p.tables.exec = Jvm.exec) (hZ : Z.Warmed39 s.vm) {a0 : Array Value} {own C : String} {index : Nat} (hown : s.vm.findClass own = some m.cls) (w : (Jvm.Cond.classLink own index C).before a0 Z = true) (eT : T.heap = h) {mr : Addr} (M : own_mir Z C mr)
  {g : JFrame} (hg : g.method = m) (hd : decode c.code g.pc = .ok (.ldc index, 2)) :
  ∃ T', Stand p l e R s m args below meth c T' locs cells slots ∧ T'.heap = h ∧ ∀ target, Steps p.tables e below (T'.setTop { g with pc := g.pc + 2, stack := .ref mr :: g.stack }) target → Steps p.tables e below (T.setTop g) target := by
 obtain ⟨cc, kc, m1, m2, m3⟩ := M
 obtain ⟨k', q, ek⟩ := hZ.alike.2.2 _ _ m2
 have f1 : s.vm.findClass C = some cc := by rw [hZ.alike.findClass]; exact m1
 have f3 : k'.mirror = some mr := by rw [ek]; exact m3
 obtain ⟨vm', X', st⟩ := X.ldcMirror hx hown (mv hZ w) (a := mr) (by simp [Term.eval, f1, q, f3]) hg hd
 exact ⟨_, X', eT, st⟩
end Mir
abbrev own_ch (z : Int32) : Prop := ¬ z < 0 ∧ ¬ (255 : Int32) < z
def own_st (Z : State) (h : Heap) (x t : Nat) (c : Int32) : Prop := own_ch c ∧ ∃ kb : ClassId, Exa Z h x "java/lang/String" ∧ Fld Z h x "java/lang/String" "value" "[B" (.ref t) ∧ Fld Z h x "java/lang/String" "coder" "B" (.int 0) ∧ Arv Z h t kb .byte (1 : Int32) [(.int (own_lo8 c))] (.int 0)
section Str
variable {Z : State} {h h' : Heap} {x t : Nat} {c : Int32}
theorem own_st.exa (S : own_st Z h x t c) : Exa Z h x "java/lang/String" := S.2.choose_spec.1
theorem own_st.ext (S : own_st Z h x t c) (E : Ext h h') : own_st Z h' x t c := by
 obtain ⟨q, kb, a, b, d, e⟩ := S
 exact ⟨q, kb, a.ext E, b.ext E, d.ext E, e.ext E⟩
theorem own_st.keep (S : own_st Z h x t c) {ws : List Addr} (K : Keep h h' ws) (hx : x ∉ ws) (ht : t ∉ ws) : own_st Z h' x t c := by
 obtain ⟨q, kb, a, b, d, e⟩ := S
 exact ⟨q, kb, a.keep K, b.keep K hx, d.keep K hx, e.keep K ht⟩
theorem own_st.wr (S : own_st Z h x t c) {a : Addr} {sl : Nat} {v : Value} (W : Wr h h' a sl v) (hx : x ≠ a) (ht : t ≠ a) : own_st Z h' x t c := by
 obtain ⟨q, kb, a1, b, d, e⟩ := S
 exact ⟨q, kb, a1.wr W, b.other W (Or.inl hx), d.other W (Or.inl hx), e.other W ht⟩
def own_par (Z : State) (h : Heap) (y x t x2 t2 : Nat) (a b : Int32) : Prop := Exa Z h y "com/example/practory/practory/server/SearchQuery$Parameter" ∧ Fld Z h y "com/example/practory/practory/server/SearchQuery$Parameter" "name" "Ljava/lang/String;" (.ref x) ∧ Fld Z h y "com/example/practory/practory/server/SearchQuery$Parameter" "value" "Ljava/lang/String;" (.ref x2) ∧ own_st Z h x t a ∧ own_st Z h x2 t2 b
variable {y x2 t2 : Nat} {a b : Int32}
theorem own_par.ext (S : own_par Z h y x t x2 t2 a b) (E : Ext h h') : own_par Z h' y x t x2 t2 a b := ⟨S.1.ext E, S.2.1.ext E, S.2.2.1.ext E, S.2.2.2.1.ext E, S.2.2.2.2.ext E⟩
theorem own_par.keep (S : own_par Z h y x t x2 t2 a b) {ws : List Addr} (K : Keep h h' ws) (hy : y ∉ ws) (hx : x ∉ ws) (ht : t ∉ ws) (hx2 : x2 ∉ ws) (ht2 : t2 ∉ ws) : own_par Z h' y x t x2 t2 a b := ⟨S.1.keep K, S.2.1.keep K hy, S.2.2.1.keep K hy, S.2.2.2.1.keep K hx ht, S.2.2.2.2.keep K hx2 ht2⟩
theorem own_par.wr (S : own_par Z h y x t x2 t2 a b) {d : Addr} {sl : Nat} {v : Value} (W : Wr h h' d sl v) (hy : y ≠ d) (hx : x ≠ d) (ht : t ≠ d) (hx2 : x2 ≠ d) (ht2 : t2 ≠ d) : own_par Z h' y x t x2 t2 a b := ⟨S.1.wr W, S.2.1.other W (Or.inl hy), S.2.2.1.other W (Or.inl hy), S.2.2.2.1.wr W hx ht, S.2.2.2.2.wr W hx2 ht2⟩
end Str
theorem own_c255 (x : Int32) : own_ch ((x &&& (255 : Int32)).toUInt32.toUInt16.toUInt32.toInt32) := by
 have t : ∀ k : Fin 256, own_ch ((Int32.ofNat k.val).toUInt32.toUInt16.toUInt32.toInt32) := by decide +kernel
 have h : (x &&& 255).toBitVec.toNat < 256 := by
  simp only [Int32.toBitVec_and, BitVec.toNat_and]
  exact Nat.lt_succ_of_le Nat.and_le_right
 have e : (x &&& 255) = Int32.ofNat (x &&& 255).toBitVec.toNat := by
  apply Int32.toBitVec_inj.mp
  show _ = BitVec.ofNat 32 _
  rw [BitVec.ofNat_toNat]; simp
 rw [e]
 exact t ⟨_, h⟩
theorem own_nar {z : Int32} (h : own_ch z) : nar .char z = z := by
 have t : ∀ k : Fin 256, nar .char (Int32.ofNat k.val) = Int32.ofNat k.val := by decide +kernel
 obtain ⟨h1, h2⟩ := h
 rw [Int32.lt_iff_toInt_lt] at h1 h2
 have e0 : (0 : Int32).toInt = 0 := rfl
 have e1 : (255 : Int32).toInt = 255 := rfl
 have e : z = Int32.ofNat z.toInt.toNat := by
  apply Int32.toInt_inj.mp
  rw [Int32.toInt_ofNat_small (by omega)]
  omega
 rw [e]
 exact t ⟨z.toInt.toNat, by omega⟩
theorem own_lo_mask {z : Int32} (h : own_ch z) : own_lo8 z &&& 255 = z := by
 have t : ∀ k : Fin 256, own_lo8 (Int32.ofNat k.val) &&& 255 = Int32.ofNat k.val := by decide +kernel
 obtain ⟨h1, h2⟩ := h
 rw [Int32.lt_iff_toInt_lt] at h1 h2
 have e0 : (0 : Int32).toInt = 0 := rfl
 have e1 : (255 : Int32).toInt = 255 := rfl
 have e : z = Int32.ofNat z.toInt.toNat := by
  apply Int32.toInt_inj.mp
  rw [Int32.toInt_ofNat_small (by omega)]
  omega
 rw [e]
 exact t ⟨z.toInt.toNat, by omega⟩
theorem own_lo_inj {a b : Int32} (ha : own_ch a) (hb : own_ch b) (h : own_lo8 a = own_lo8 b) : a = b := by
 rw [← own_lo_mask ha, ← own_lo_mask hb, h]
def own_eqi (a b : Int32) : Int32 := if a = b then 1 else 0
theorem own_eqi0 {a b : Int32} (h : own_eqi a b = 0) : ¬ a = b := fun q => by
 rw [own_eqi, if_pos q] at h
 exact absurd h (by decide)
theorem own_eqi1 {a b : Int32} (h : ¬ own_eqi a b = 0) : a = b := by
 unfold own_eqi at h
 by_cases q : a = b
 ·exact q
 ·rw [if_neg q] at h; exact (h rfl).elim
theorem own_eqin (a : Int32) : ¬ own_eqi a a = 0 := by
 rw [own_eqi, if_pos rfl]
 decide
theorem own_st.lts {Z : State} {h : Heap} {x t : Nat} {c : Int32} (S : own_st Z h x t c) : x < h.size ∧ t < h.size := by
 obtain ⟨-, kb, a, -, -, e⟩ := S
 exact ⟨a.lt, e.lt⟩
theorem own_par.lts {Z : State} {h : Heap} {y x t x2 t2 : Nat} {a b : Int32} (S : own_par Z h y x t x2 t2 a b) : y < h.size ∧ x < h.size ∧ t < h.size ∧ x2 < h.size ∧ t2 < h.size := ⟨S.1.lt, S.2.2.2.1.lts.1, S.2.2.2.1.lts.2, S.2.2.2.2.lts.1, S.2.2.2.2.lts.2⟩
theorem own_mod3 (x : Int32) : (x &&& 3) % 3 = 0 ∨ (x &&& 3) % 3 = 1 ∨ (x &&& 3) % 3 = 2 := by
 rcases own_and3 x with h | h | h | h <;> rw [h] <;> decide
theorem own_nat {n : Nat} (h : n ≤ 100) : (Int32.ofNat n).toInt = n := Int32.toInt_ofNat_small (by omega)
theorem own_ncl {n : Nat} (h : n ≤ 100) : (Int32.ofNat n).toNatClampNeg = n := by
 simp only [Int32.toNatClampNeg, own_nat h]
 rfl
theorem own_nlt {a b : Nat} (ha : a ≤ 100) (hb : b ≤ 100) : (Int32.ofNat a < Int32.ofNat b) ↔ a < b := by
 rw [Int32.lt_iff_toInt_lt, own_nat ha, own_nat hb]
 omega
theorem own_neq {a b : Nat} (ha : a ≤ 100) (hb : b ≤ 100) : (Int32.ofNat a = Int32.ofNat b) ↔ a = b := by
 rw [← Int32.toInt_inj, own_nat ha, own_nat hb]
 omega
theorem own_nadd (a b : Nat) : Int32.ofNat a + Int32.ofNat b = Int32.ofNat (a + b) := (Int32.ofNat_add a b).symm
theorem own_nsub {a b : Nat} (h : b ≤ a) (ha : a ≤ 100) : Int32.ofNat a - Int32.ofNat b = Int32.ofNat (a - b) := by
 have e : Int32.ofNat a = Int32.ofNat (a - b) + Int32.ofNat b := by rw [own_nadd]; congr 1; omega
 rw [e]
 simp
theorem own_sz1 (xs : List Nat) (y : Nat) : Int32.ofNat xs.length + (1 : Int32) = Int32.ofNat (xs ++ [y]).length := by
 rw [List.length_append]
 exact own_nadd _ 1
theorem own_sz2 (xs ys : List Nat) : Int32.ofNat xs.length + Int32.ofNat ys.length = Int32.ofNat (xs ++ ys).length := by
 rw [List.length_append]
 exact own_nadd _ _
theorem own_pad0 (vs : List Value) (d : Value) (m i : Nat) : (vs ++ List.replicate m d).getD i d = vs.getD i d := by
 simp only [List.getD_eq_getElem?_getD]
 by_cases h : i < vs.length
 ·rw [List.getElem?_append_left h]
 ·rw [List.getElem?_append_right (by omega), List.getElem?_eq_none (Nat.le_of_not_lt h), List.getElem?_replicate]
  split <;> rfl
section Lst
variable {Z : State} {h h' : Heap}
theorem own_push {a : Addr} {c : Cell} {k : ClassId} {ty : FieldType} {z j : Int32} {xs : List Nat} {y : Nat} (A : Arr Z h a c ty) (q1 : c.cls = k) (S : c.slots.size = z.toNatClampNeg) (q3 : ¬ z < 0) (H : Has c (xs.map Value.ref) .null) (G : ∀ i, i < c.slots.size → fits ty ((xs.map Value.ref).getD i .null) = true) (hv : fits ty (.ref y) = true) (W : Wr h h' a j.toNatClampNeg (.ref y)) (hj : j.toNatClampNeg = xs.length) : Arv Z h' a k ty z ((xs ++ [y]).map Value.ref) .null := by
 have F : Arv Z h a k ty z (xs.map Value.ref ++ List.replicate 1 .null) .null := Arv.pad (vs := xs.map Value.ref) ⟨c, A, q1, S, q3, H, G⟩ (fun i => own_pad0 _ _ _ i)
 obtain ⟨c', A', q1', S', q3', H', G'⟩ := F
 have e := Arv.set A' q1' S' q3' H' G' hv W xs.length hj (by simp)
 have e2 : (xs.map Value.ref ++ List.replicate 1 Value.null).set xs.length (.ref y) = (xs ++ [y]).map Value.ref := by simp
 rw [e2] at e
 exact e
/-- a list as ArrayList holds it: empty with the shared empty array, or with an array of ten -/
def own_al (Z : State) (h : Heap) (dq n0 lo eo : Nat) (ko : ClassId) (xs : List Nat) (mc : Int32) : Prop :=
 Exa Z h lo "java/util/ArrayList" ∧ Fld Z h lo "java/util/ArrayList" "elementData" "[Ljava/lang/Object;" (.ref eo) ∧ Fld Z h lo "java/util/ArrayList" "size" "I" (.int (Int32.ofNat xs.length)) ∧ Fld Z h lo "java/util/AbstractList" "modCount" "I" (.int mc) ∧ Exa Z h eo "[Ljava/lang/Object;" ∧
  ((xs = [] ∧ eo = dq ∧ Arv Z h eo ko (.object "java/lang/Object") (0 : Int32) [] .null) ∨ (n0 ≤ eo ∧ lo ≠ eo ∧ Ovr Z ko "java/lang/Object" ∧ Arv Z h eo ko (.object "java/lang/Object") (10 : Int32) (xs.map Value.ref) .null))
variable {dq n0 lo eo : Nat} {ko : ClassId} {xs : List Nat} {mc : Int32}
theorem own_al.ext (S : own_al Z h dq n0 lo eo ko xs mc) (E : Ext h h') : own_al Z h' dq n0 lo eo ko xs mc := ⟨S.1.ext E, S.2.1.ext E, S.2.2.1.ext E, S.2.2.2.1.ext E, S.2.2.2.2.1.ext E, S.2.2.2.2.2.imp (fun q => ⟨q.1, q.2.1, q.2.2.ext E⟩) (fun q => ⟨q.1, q.2.1, q.2.2.1, q.2.2.2.ext E⟩)⟩
theorem own_al.keep (S : own_al Z h dq n0 lo eo ko xs mc) {ws : List Addr} (K : Keep h h' ws) (hl : lo ∉ ws) (he : eo ∉ ws) : own_al Z h' dq n0 lo eo ko xs mc := ⟨S.1.keep K, S.2.1.keep K hl, S.2.2.1.keep K hl, S.2.2.2.1.keep K hl, S.2.2.2.2.1.keep K, S.2.2.2.2.2.imp (fun q => ⟨q.1, q.2.1, q.2.2.keep K he⟩) (fun q => ⟨q.1, q.2.1, q.2.2.1, q.2.2.2.keep K he⟩)⟩
theorem own_al.wr (S : own_al Z h dq n0 lo eo ko xs mc) {a : Addr} {sl : Nat} {v : Value} (W : Wr h h' a sl v) (hl : lo ≠ a) (he : eo ≠ a) : own_al Z h' dq n0 lo eo ko xs mc := ⟨S.1.wr W, S.2.1.other W (Or.inl hl), S.2.2.1.other W (Or.inl hl), S.2.2.2.1.other W (Or.inl hl), S.2.2.2.2.1.wr W, S.2.2.2.2.2.imp (fun q => ⟨q.1, q.2.1, q.2.2.other W he⟩) (fun q => ⟨q.1, q.2.1, q.2.2.1, q.2.2.2.other W he⟩)⟩
theorem own_al.lts (S : own_al Z h dq n0 lo eo ko xs mc) : lo < h.size ∧ eo < h.size ∧ (eo = dq ∨ n0 ≤ eo) := ⟨S.1.lt, S.2.2.2.2.1.lt, S.2.2.2.2.2.imp (fun q => q.2.1) (fun q => q.1)⟩
theorem own_al.lt2 (S : own_al Z h dq n0 lo eo ko xs mc) : lo < h.size ∧ eo < h.size := ⟨S.1.lt, S.2.2.2.2.1.lt⟩
/-- objects of Parameter, all of whose cells lie below B -/
def own_itb (Z : State) (h : Heap) (B y : Nat) (p : Int32 × Int32) : Prop := ∃ x t x2 t2 : Nat, own_par Z h y x t x2 t2 p.1 p.2 ∧ y < B ∧ x < B ∧ t < B ∧ x2 < B ∧ t2 < B
def own_its (Z : State) (h : Heap) (B : Nat) : List Nat → List (Int32 × Int32) → Prop
 | [], [] => True
 | y :: ys, p :: ps => own_itb Z h B y p ∧ own_its Z h B ys ps
 | _, _ => False
theorem own_itb.keep {B y : Nat} {p : Int32 × Int32} (S : own_itb Z h B y p) {ws : List Addr} (K : Keep h h' ws) (hw : ∀ w ∈ ws, B ≤ w) : own_itb Z h' B y p := by
 obtain ⟨x, t, x2, t2, P, a, b, c, d, e⟩ := S
 have ni : ∀ {z : Nat}, z < B → z ∉ ws := fun hz q => Nat.lt_irrefl _ (Nat.lt_of_lt_of_le hz (hw _ q))
 exact ⟨x, t, x2, t2, P.keep K (ni a) (ni b) (ni c) (ni d) (ni e), a, b, c, d, e⟩
theorem own_itb.ext {B y : Nat} {p : Int32 × Int32} (S : own_itb Z h B y p) (E : Ext h h') : own_itb Z h' B y p := by
 obtain ⟨x, t, x2, t2, P, r⟩ := S
 exact ⟨x, t, x2, t2, P.ext E, r⟩
theorem own_itb.up {B B' y : Nat} {p : Int32 × Int32} (S : own_itb Z h B y p) (q : B ≤ B') : own_itb Z h B' y p := by
 obtain ⟨x, t, x2, t2, P, a, b, c, d, e⟩ := S
 exact ⟨x, t, x2, t2, P, by omega, by omega, by omega, by omega, by omega⟩
theorem own_itb.mk {y x t x2 t2 : Nat} {a b : Int32} (P : own_par Z h y x t x2 t2 a b) : own_itb Z h h.size y (a, b) := ⟨x, t, x2, t2, P, P.lts.1, P.lts.2.1, P.lts.2.2.1, P.lts.2.2.2.1, P.lts.2.2.2.2⟩
theorem own_its.map {B B' : Nat} (f : ∀ y p, own_itb Z h B y p → own_itb Z h' B' y p) : ∀ (ys : List Nat) (ps : List (Int32 × Int32)), own_its Z h B ys ps → own_its Z h' B' ys ps
 | [], [], _ => trivial
 | y :: ys, p :: ps, q => ⟨f y p q.1, own_its.map f ys ps q.2⟩
 | [], _ :: _, q => q.elim
 | _ :: _, [], q => q.elim
theorem own_its.keep {B : Nat} {ys : List Nat} {ps : List (Int32 × Int32)} (S : own_its Z h B ys ps) {ws : List Addr} (K : Keep h h' ws) (hw : ∀ w ∈ ws, B ≤ w) : own_its Z h' B ys ps := own_its.map (fun _ _ q => q.keep K hw) _ _ S
theorem own_its.keep0 {B : Nat} {ys : List Nat} {ps : List (Int32 × Int32)} (S : own_its Z h B ys ps) (K : Keep h h' []) : own_its Z h' B ys ps := S.keep K (fun _ q => nomatch q)
theorem own_its.ext {B : Nat} {ys : List Nat} {ps : List (Int32 × Int32)} (S : own_its Z h B ys ps) (E : Ext h h') : own_its Z h' B ys ps := own_its.map (fun _ _ q => q.ext E) _ _ S
theorem own_its.up {B B' : Nat} {ys : List Nat} {ps : List (Int32 × Int32)} (S : own_its Z h B ys ps) (q : B ≤ B') : own_its Z h B' ys ps := own_its.map (fun _ _ u => u.up q) _ _ S
theorem own_itb.wr {B y : Nat} {p : Int32 × Int32} (S : own_itb Z h B y p) {a : Addr} {sl : Nat} {v : Value} (W : Wr h h' a sl v) (hb : B ≤ a) : own_itb Z h' B y p := by
 obtain ⟨x, t, x2, t2, P, q1, q2, q3, q4, q5⟩ := S
 have ne : ∀ {z : Nat}, z < B → z ≠ a := fun hz q => Nat.lt_irrefl _ (Nat.lt_of_lt_of_le (q ▸ hz) hb)
 exact ⟨x, t, x2, t2, P.wr W (ne q1) (ne q2) (ne q3) (ne q4) (ne q5), q1, q2, q3, q4, q5⟩
theorem own_its.wr {B : Nat} {ys : List Nat} {ps : List (Int32 × Int32)} (S : own_its Z h B ys ps) {a : Addr} {sl : Nat} {v : Value} (W : Wr h h' a sl v) (hb : B ≤ a) : own_its Z h' B ys ps := own_its.map (fun _ _ q => q.wr W hb) _ _ S
theorem own_its.app {B : Nat} : ∀ {xs : List Nat} {qs : List (Int32 × Int32)} {ys : List Nat} {ps : List (Int32 × Int32)}, own_its Z h B xs qs → own_its Z h B ys ps → own_its Z h B (xs ++ ys) (qs ++ ps)
 | [], [], _, _, _, q => q
 | x :: xs, p :: qs, _, _, a, q => ⟨a.1, own_its.app a.2 q⟩
 | [], _ :: _, _, _, a, _ => a.elim
 | _ :: _, [], _, _, a, _ => a.elim
theorem own_its.len {B : Nat} : ∀ {xs : List Nat} {qs : List (Int32 × Int32)}, own_its Z h B xs qs → xs.length = qs.length
 | [], [], _ => rfl
 | x :: xs, p :: qs, a => congrArg (· + 1) (own_its.len a.2)
 | [], _ :: _, a => a.elim
 | _ :: _, [], a => a.elim
theorem own_its.get {B : Nat} : ∀ {xs : List Nat} {qs : List (Int32 × Int32)} {i : Nat} {p : Int32 × Int32}, own_its Z h B xs qs → qs[i]? = some p → ∃ y, xs[i]? = some y ∧ own_itb Z h B y p
 | [], [], _, _, _, q => by simp at q
 | x :: xs, p :: qs, 0, p', a, q => by
  simp at q
  exact ⟨x, by simp, q ▸ a.1⟩
 | x :: xs, p :: qs, i + 1, p', a, q => by
  simp only [List.getElem?_cons_succ] at q ⊢
  exact own_its.get a.2 q
 | [], _ :: _, _, _, a, _ => a.elim
 | _ :: _, [], _, _, a, _ => a.elim
theorem own_its.exa {B : Nat} : ∀ {xs : List Nat} {qs : List (Int32 × Int32)}, own_its Z h B xs qs → ∀ y ∈ xs, Exa Z h y "com/example/practory/practory/server/SearchQuery$Parameter"
 | [], [], _, y, q => by simp at q
 | x :: xs, p :: qs, a, y, q => by
  rcases List.mem_cons.mp q with rfl | q
  ·obtain ⟨_, _, _, _, P, -⟩ := a.1
   exact P.1
  ·exact own_its.exa a.2 y q
 | [], _ :: _, a, _, _ => a.elim
 | _ :: _, [], a, _, _ => a.elim
theorem own_stol {b : Addr} {cl : Cell} {k : ClassId} {a0 : Array Value} (A : Arr Z h b cl (.object "java/lang/Object")) (q : cl.cls = k) (O : Ovr Z k "java/lang/Object") (wc : (Jvm.Cond.castable "com/example/practory/practory/server/SearchQuery$Parameter" "java/lang/Object").before a0 Z = true) : ∀ (ys : List Nat), (∀ y ∈ ys, Exa Z h y "com/example/practory/practory/server/SearchQuery$Parameter") → StoL Z h b (ys.map Value.ref)
 | [], _ => trivial
 | y :: ys, e => ⟨Sto.ofV A q O (Ins.of_exa (e y List.mem_cons_self) wc), own_stol A q O wc ys (fun z hz => e z (List.mem_cons_of_mem _ hz))⟩
end Lst
/-- what with() makes of the parameters, from the place where it stands -/
def own_go2 (cn : Int32) (as : List (Int32 × Int32)) : List (Int32 × Int32) → Bool → List (Int32 × Int32)
 | [], true => []
 | [], false => as
 | p :: ps, f => if p.1 = cn then (if f then own_go2 cn as ps true else as ++ own_go2 cn as ps true) else p :: own_go2 cn as ps f
theorem own_drop {ps : List (Int32 × Int32)} {i : Nat} {p : Int32 × Int32} (h : ps[i]? = some p) : ps.drop i = p :: ps.drop (i + 1) := by
 obtain ⟨hi, rfl⟩ := List.getElem?_eq_some_iff.mp h
 exact List.drop_eq_getElem_cons hi
theorem own_hus {xs : List Nat} {k : Nat} (hk : xs.length = k) : xs.map Value.ref = (List.range k).map fun i => (xs.map Value.ref).getD (0 + i) .null := by
 apply List.ext_getElem?
 intro i
 by_cases h : i < k
 ·simp [hk, h, List.getD_eq_getElem?_getD]
 ·simp [hk, h]
theorem own_wk {h h' : Heap} {ws ws' : List Addr} (K : Keep h h' ws) (q : ∀ x ∈ ws, x ∈ ws') : Keep h h' ws' := ⟨K.1, fun x c e n => K.2.1 x c e (fun m => n (q x m)), K.2.2⟩
def own_exs (Z : State) (h : Heap) (ys : List Nat) : Prop := ∀ y ∈ ys, Exa Z h y "com/example/practory/practory/server/SearchQuery$Parameter"
theorem own_exs.ext {Z : State} {h h' : Heap} {ys : List Nat} (S : own_exs Z h ys) (E : Ext h h') : own_exs Z h' ys := fun y q => (S y q).ext E
theorem own_exs.keep {Z : State} {h h' : Heap} {ys : List Nat} (S : own_exs Z h ys) {ws : List Addr} (K : Keep h h' ws) : own_exs Z h' ys := fun y q => (S y q).keep K
theorem own_exs.wr {Z : State} {h h' : Heap} {ys : List Nat} (S : own_exs Z h ys) {a : Addr} {sl : Nat} {v : Value} (W : Wr h h' a sl v) : own_exs Z h' ys := fun y q => (S y q).wr W
def own_sts (Z : State) (h : Heap) : List Nat → List Int32 → Prop
 | [], [] => True
 | v :: vs, f :: fs => (∃ t, own_st Z h v t f) ∧ own_sts Z h vs fs
 | _, _ => False
theorem own_sts.keep {Z : State} {h h' : Heap} : ∀ {vs : List Nat} {fs : List Int32}, own_sts Z h vs fs → Keep h h' [] → own_sts Z h' vs fs
 | [], [], _, _ => trivial
 | _ :: _, _ :: _, a, K => ⟨a.1.imp (fun _ q => q.keep K nin0 nin0), own_sts.keep a.2 K⟩
 | [], _ :: _, a, _ => a.elim
 | _ :: _, [], a, _ => a.elim
theorem own_sts_len {Z : State} {h : Heap} : ∀ {vs : List Nat} {fs : List Int32}, own_sts Z h vs fs → vs.length = fs.length
 | [], [], _ => rfl
 | _ :: _, _ :: _, a => congrArg (· + 1) (own_sts_len a.2)
 | [], _ :: _, a => a.elim
 | _ :: _, [], a => a.elim
theorem own_sts2 {Z : State} {h : Heap} : ∀ {vs : List Nat} {fs : List Int32}, own_sts Z h vs fs → vs.length ≤ 2 → (vs = [] ∧ fs = []) ∨ (∃ v0 f0 g0, vs = [v0] ∧ fs = [f0] ∧ own_st Z h v0 g0 f0) ∨ (∃ v0 f0 g0 v1 f1 g1, vs = [v0, v1] ∧ fs = [f0, f1] ∧ own_st Z h v0 g0 f0 ∧ own_st Z h v1 g1 f1)
 | [], [], _, _ => Or.inl ⟨rfl, rfl⟩
 | [v0], [f0], ⟨⟨g0, s0⟩, _⟩, _ => Or.inr (Or.inl ⟨v0, f0, g0, rfl, rfl, s0⟩)
 | [v0, v1], [f0, f1], ⟨⟨g0, s0⟩, ⟨g1, s1⟩, _⟩, _ => Or.inr (Or.inr ⟨v0, f0, g0, v1, f1, g1, rfl, rfl, s0, s1⟩)
 | _ :: _ :: _ :: _, _, _, q => by simp at q
 | [], _ :: _, a, _ => a.elim
 | _ :: _, [], a, _ => a.elim
 | [_], _ :: _ :: _, ⟨_, a⟩, _ => a.elim
 | [_, _], [_], ⟨_, a⟩, _ => a.elim
 | [_, _], _ :: _ :: _ :: _, ⟨_, _, a⟩, _ => a.elim
def own_sel (qs : List (Int32 × Int32)) (j : Nat) (po kx : Int32) (ms os : List Int32) (cq : Int32) (ws : List Int32) : Prop :=
 qs.length ≤ j ∨ ∃ a b, qs[j]? = some (a, b) ∧ ((Int32.ofNat j < po ∧ ms[j]? = some a ∧ os[j]? = some b ∧ j < 3) ∨ (¬ Int32.ofNat j < po ∧ Int32.ofNat j < po + kx ∧ cq = a ∧ ∃ i, Int32.ofNat j - po = Int32.ofNat i ∧ ws[i]? = some b ∧ i < 2) ∨ (¬ Int32.ofNat j < po ∧ ¬ Int32.ofNat j < po + kx ∧ ∃ i, Int32.ofNat j - kx = Int32.ofNat i ∧ ms[i]? = some a ∧ os[i]? = some b ∧ i < 3))
theorem own_getD {α : Type} {f : α → Value} {ms : List α} {i : Nat} {a : α} {d : Value} (h : ms[i]? = some a) : (ms.map f).getD i d = f a := by
 simp [List.getD_eq_getElem?_getD, h]
theorem own_hget {α : Type} {f : α → Value} {ms : List α} {i : Nat} {a : α} {d : Value} (hi : i ≤ 100) (h : ms[i]? = some a) : (ms.map f).getD (Int32.ofNat i).toNatClampNeg d = f a := by
 rw [own_ncl hi]; exact own_getD h
theorem own_inn {i m : Nat} (h : i < m) (hm : m ≤ 100) : ¬ Int32.ofNat i < (0 : Int32) ∧ Int32.ofNat i < Int32.ofNat m := by
 refine ⟨?_, (own_nlt (by omega) hm).mpr h⟩
 intro q
 exact Nat.not_lt_zero _ ((own_nlt (a := i) (b := 0) (by omega) (by omega)).mp q)
def own_pos (cz : Int32) : List (Int32 × Int32) → Nat
 | [] => 0
 | p :: ps => if p.1 = cz then 0 else own_pos cz ps + 1
abbrev own_fl (cz : Int32) (ps : List (Int32 × Int32)) : List (Int32 × Int32) := ps.filter fun p => !decide (p.1 = cz)
theorem own_go2t (cz : Int32) (as : List (Int32 × Int32)) : ∀ ps, own_go2 cz as ps true = own_fl cz ps
 | [] => rfl
 | p :: ps => by
  by_cases h : p.1 = cz
  ·simp [own_go2, h, own_go2t cz as ps, own_fl]
  ·simp [own_go2, h, own_go2t cz as ps, own_fl]
theorem own_split (cz : Int32) (as : List (Int32 × Int32)) : ∀ ps, own_go2 cz as ps false = (own_fl cz ps).take (own_pos cz ps) ++ as ++ (own_fl cz ps).drop (own_pos cz ps)
 | [] => by simp [own_go2, own_pos]
 | p :: ps => by
  by_cases h : p.1 = cz
  ·simp [own_go2, h, own_pos, own_go2t, own_fl]
  ·simp [own_go2, h, own_pos, own_split cz as ps, own_fl]
def own_kept (cz : Int32) (ps : List (Int32 × Int32)) (n i : Nat) : List (Int32 × Int32) := own_fl cz (ps.take (min i n))
theorem own_kp1 {cz : Int32} {ps : List (Int32 × Int32)} {n i : Nat} {p : Int32 × Int32} (hp : ps[i]? = some p) (hi : i < n) (hc : ¬ p.1 = cz) : own_kept cz ps n (i + 1) = own_kept cz ps n i ++ [p] := by
 unfold own_kept own_fl
 rw [Nat.min_eq_left (by omega : i + 1 ≤ n), Nat.min_eq_left (by omega : i ≤ n), List.take_add_one, hp]
 simp [hc]
theorem own_kp0 {cz : Int32} {ps : List (Int32 × Int32)} {n i : Nat} {p : Int32 × Int32} (hp : ps[i]? = some p) (h : i < n → p.1 = cz) : own_kept cz ps n (i + 1) = own_kept cz ps n i := by
 unfold own_kept own_fl
 by_cases hi : i < n
 ·rw [Nat.min_eq_left (by omega : i + 1 ≤ n), Nat.min_eq_left (by omega : i ≤ n), List.take_add_one, hp]
  simp [h hi]
 ·rw [Nat.min_eq_right (by omega : n ≤ i + 1), Nat.min_eq_right (by omega : n ≤ i)]
theorem own_kp3 {cz : Int32} {ps : List (Int32 × Int32)} {n : Nat} (hn : n ≤ 3) : own_kept cz ps n 3 = own_fl cz (ps.take n) := by
 unfold own_kept
 rw [Nat.min_eq_right hn]
section Pos
variable {cz c0 c1 c2 d0 d1 d2 : Int32} {n : Nat}
theorem own_pos0 (h : 0 < n ∧ c0 = cz) : own_pos cz ([(c0, d0), (c1, d1), (c2, d2)].take n) = 0 := by
 obtain ⟨h1, rfl⟩ := h
 obtain ⟨m, rfl⟩ : ∃ m, n = m + 1 := ⟨n - 1, by omega⟩
 simp [own_pos]
theorem own_pos1 (g : ¬ (0 < n ∧ c0 = cz)) (h : 1 < n ∧ c1 = cz) : own_pos cz ([(c0, d0), (c1, d1), (c2, d2)].take n) = 1 := by
 obtain ⟨h1, rfl⟩ := h
 obtain ⟨m, rfl⟩ : ∃ m, n = m + 2 := ⟨n - 2, by omega⟩
 have g' : ¬ c0 = c1 := fun q => g ⟨by omega, q⟩
 simp [own_pos, g']
theorem own_pos2 (g : ¬ (0 < n ∧ c0 = cz)) (g1 : ¬ (1 < n ∧ c1 = cz)) (h : 2 < n ∧ c2 = cz) : own_pos cz ([(c0, d0), (c1, d1), (c2, d2)].take n) = 2 := by
 obtain ⟨h1, rfl⟩ := h
 obtain ⟨m, rfl⟩ : ∃ m, n = m + 3 := ⟨n - 3, by omega⟩
 have g' : ¬ c0 = c2 := fun q => g ⟨by omega, q⟩
 have g1' : ¬ c1 = c2 := fun q => g1 ⟨by omega, q⟩
 simp [own_pos, g', g1']
theorem own_pos3 (hn : n ≤ 3) (g : ¬ (0 < n ∧ c0 = cz)) (g1 : ¬ (1 < n ∧ c1 = cz)) (g2 : ¬ (2 < n ∧ c2 = cz)) {K : List (Int32 × Int32)} (hK : own_fl cz ([(c0, d0), (c1, d1), (c2, d2)].take n) = K) : own_pos cz ([(c0, d0), (c1, d1), (c2, d2)].take n) = K.length := by
 subst hK
 have h4 : n = 0 ∨ n = 1 ∨ n = 2 ∨ n = 3 := by omega
 rcases h4 with rfl | rfl | rfl | rfl
 ·simp [own_pos]
 ·have g' : ¬ c0 = cz := fun q => g ⟨by omega, q⟩
  simp [own_pos, g']
 ·have g' : ¬ c0 = cz := fun q => g ⟨by omega, q⟩
  have g1' : ¬ c1 = cz := fun q => g1 ⟨by omega, q⟩
  simp [own_pos, g', g1']
 ·have g' : ¬ c0 = cz := fun q => g ⟨by omega, q⟩
  have g1' : ¬ c1 = cz := fun q => g1 ⟨by omega, q⟩
  have g2' : ¬ c2 = cz := fun q => g2 ⟨by omega, q⟩
  simp [own_pos, g', g1', g2']
theorem own_no1 (g : ¬ (0 < n ∧ c0 = cz)) (h : 1 < n ∧ c1 = cz) {K : List (Int32 × Int32)} (hF : own_fl cz ([(c0, d0), (c1, d1), (c2, d2)].take n) = K) (hl : K.length < 1) : False := by
 subst hF
 obtain ⟨m, rfl⟩ : ∃ m, n = m + 1 := ⟨n - 1, by omega⟩
 have g' : ¬ c0 = cz := fun q => g ⟨by omega, q⟩
 simp [g'] at hl
theorem own_no2 (g : ¬ (0 < n ∧ c0 = cz)) (g1 : ¬ (1 < n ∧ c1 = cz)) (h : 2 < n ∧ c2 = cz) {K : List (Int32 × Int32)} (hF : own_fl cz ([(c0, d0), (c1, d1), (c2, d2)].take n) = K) (hl : K.length < 2) : False := by
 subst hF
 obtain ⟨m, rfl⟩ : ∃ m, n = m + 2 := ⟨n - 2, by omega⟩
 have g' : ¬ c0 = cz := fun q => g ⟨by omega, q⟩
 have g1' : ¬ c1 = cz := fun q => g1 ⟨by omega, q⟩
 simp [g', g1'] at hl
 omega
theorem own_m1 {z : Int32} {P : Prop} (h : (z = 1 ∧ P) ∨ (z = 0 ∧ ¬ P)) (q : ¬ z = (0 : Int32)) : P := h.elim (fun u => u.2) (fun u => (q u.1).elim)
theorem own_m0 {z : Int32} {P : Prop} (h : (z = 1 ∧ P) ∨ (z = 0 ∧ ¬ P)) (q : z = (0 : Int32)) : ¬ P := h.elim (fun u => absurd (u.1.symm.trans q) (by decide)) (fun u => u.2)
end Pos
theorem ef_rmCE (m : MethodId) (x0 : Int32) : entryFrame m #[(.int x0)] 1 = mkF m 0 #[vi x0] [] := by first | (simp [entryFrame, mkF, argsToLocals, Value.category]; done) | rfl
theorem pn_0 : plainName "java/lang/StringLatin1" = true := by first | (simp [plainName, overriddenIn]; done) | decide +kernel
theorem d6_0 : dk cD6 0 (.iload_n 0) 1 := by decide +kernel
theorem d6_1 : dk cD6 1 (.sipush 255) 3 := by decide +kernel
theorem d6_4 : dk cD6 4 (.if_icmp .gt 7) 3 := by decide +kernel
theorem d6_7 : dk cD6 7 (.iconst 1) 1 := by decide +kernel
theorem d6_8 : dk cD6 8 (.goto 4) 3 := by decide +kernel
theorem d6_12 : dk cD6 12 .ireturn 1 := by decide +kernel
def Q_rmCE (Z : State) (cc : Int32) (h0 : Heap) (n0 : Nat) (v : Option Value) (h : Heap) (L : List Loc) : Prop := v = some (.int 1) ∧ Fr n0 L ∧ h = h0
theorem rmCE (l : Launch) (Z : State) (a0 : Array Value) (hw : own_H Z a0) (ws : List Jvm.Cond) (cc : Int32) (h0 : Heap) (n0 : Nat) (XO0 : Old Z n0 h0) (hc : own_ch cc) :
  own_M l Z ym6 cD6 ws 1 (some .boolean) (own_R 0 0 0 0) #[(.int cc)] h0 (Q_rmCE Z cc h0 n0) := by
 refine own_open (plainFor_of_name pn_0) ?_
 intro p e s m below meth c s₁ hx hby hlk hret hml hown hnm hZ X0 e0
 have hW := own_hW hw
 have N0 := Fr.nil n0
 refine oo (fun tt_ kk_ => castTop (ef_rmCE m cc) kk_) ?_
 refine so (A := (s₁.setTop (mkF m 0 #[vi cc] []))) ?_
 refine oi (XS.iloadN X0.here hx rfl (hb hby d6_0) rfl) ?_
 refine oi (XS.sipush X0.here hx rfl (hb hby d6_1)) ?_
 have hb4_1 : ¬ ((255 : Int32) < cc) := hc.2
 refine oi (XS.icmpNo X0.here hx rfl (hb hby d6_4) rfl (flt hb4_1).2.2.1) ?_
 refine so (A := (s₁.setTop (mkF m 7 #[vi cc] []))) ?_
 refine oi (XS.iconst X0.here hx rfl (hb hby d6_7)) ?_
 refine oi (XS.goto X0.here hx rfl (pc0 := 8) (pc' := 12) rfl (hb hby d6_8) (by decide) (by decide)) ?_
 refine so (A := (s₁.setTop (mkF m 12 #[vi cc] [(.int 1)]))) ?_
 refine own_ret X0 hx hlk hret rfl (Or.inl ⟨rfl, by simp, _, rfl⟩) (hb hby d6_12) (by decide) (by decide) ?_
 rw [e0]
 exact ⟨rfl, N0, rfl⟩
theorem ef_rmTB (m : MethodId) (x0 : Int32) : entryFrame m #[(.int x0)] 1 = mkF m 0 #[vi x0] [] := by first | (simp [entryFrame, mkF, argsToLocals, Value.category]; done) | rfl
theorem d7_0 : dk cD7 0 (.iconst 1) 1 := by decide +kernel
theorem d7_1 : dk cD7 1 (.newarray .byte) 2 := by decide +kernel
theorem d7_3 : dk cD7 3 .dup 1 := by decide +kernel
theorem d7_4 : dk cD7 4 (.iconst 0) 1 := by decide +kernel
theorem d7_5 : dk cD7 5 (.iload_n 0) 1 := by decide +kernel
theorem d7_6 : dk cD7 6 .i2b 1 := by decide +kernel
theorem d7_7 : dk cD7 7 .bastore 1 := by decide +kernel
theorem d7_8 : dk cD7 8 .areturn 1 := by decide +kernel
def Q_rmTB (Z : State) (cc : Int32) (h0 : Heap) (n0 : Nat) (v : Option Value) (h : Heap) (L : List Loc) : Prop := ∃ (t : Nat) (kb : ClassId), v = some (.ref t) ∧ Fr n0 L ∧ Keep h0 h [] ∧ h0.size ≤ t ∧ t < h.size ∧ Arv Z h t kb .byte (1 : Int32) [(.int (own_lo8 cc))] (.int 0)
theorem rmTB (l : Launch) (Z : State) (a0 : Array Value) (hw : own_H Z a0) (ws : List Jvm.Cond) (cc : Int32) (h0 : Heap) (n0 : Nat) (XO0 : Old Z n0 h0) :
  own_M l Z ym7 cD7 ws 1 (some (.array .byte)) (own_R 0 1 1 0) #[(.int cc)] h0 (Q_rmTB Z cc h0 n0) := by
 refine own_open (plainFor_of_name pn_0) ?_
 intro p e s m below meth c s₁ hx hby hlk hret hml hown hnm hZ X0 e0
 have hW := own_hW hw
 have N0 := Fr.nil n0
 refine oo (fun tt_ kk_ => castTop (ef_rmTB m cc) kk_) ?_
 refine so (A := (s₁.setTop (mkF m 0 #[vi cc] []))) ?_
 have K0_ : Keep h0 h0 [] := Keep.refl h0 []
 refine oi (XS.iconst X0.here hx rfl (hb hby d7_0)) ?_
 obtain ⟨T1, h1, k1, X1, e1, E1, A1, st1⟩ := newP X0 hx hZ (hW 41 _ rfl) e0 (g := (mkF m 1 #[vi cc] [(.int 1)])) rfl (hb hby d7_1) rfl (by decide) (cap := 1) (by decide) (by decide) (by decide) (by decide)
 obtain ⟨b1, g1⟩ : ∃ z, z = h0.size := ⟨_, rfl⟩
 rw [← g1] at A1 st1
 refine oo st1 ?_
 have lt1 := olt A1.lt
 have sz1 : h0.size ≤ h1.size := E1.1
 have O1 : Old Z n0 h1 := XO0.ext E1
 have z1 : n0 ≤ b1 := by have := XO0.1 ▸ XO0.2.1; omega
 have K1 : Keep h0 h1 [] := K0_.ext E1
 have V1 : Arv Z h1 b1 k1 .byte (1 : Int32) [(.int 0)] (.int 0) := (Arv.new A1 (by decide)).pad (pad_rep [] (.int 0) 1)
 refine oi (XS.dup X1.here hx rfl (hb hby d7_3) rfl rfl) ?_
 refine oi (XS.iconst X1.here hx rfl (hb hby d7_4)) ?_
 refine oi (XS.iloadN X1.here hx rfl (hb hby d7_5) rfl) ?_
 refine oi (XS.i2b X1.here hx rfl (hb hby d7_6) rfl) ?_
 obtain ⟨cl2, Ar2, q2, S2, Ng2, H2, G2⟩ := V1
 obtain ⟨T2, h2, X2, e2, W2, st2⟩ := stB X1 hx hZ e1 Ar2 (j := (0 : Int32)) (inb_of S2 ⟨by decide, by decide⟩) (g := (mkF m 7 #[vi cc] [(.int (cc.toInt8.toInt32)), (.int 0), (.ref b1), (.ref b1)])) rfl rfl (hb hby d7_7)
 have V2 : Arv Z h2 b1 k1 .byte (1 : Int32) [(.int (nar .byte (cc.toInt8.toInt32)))] (.int 0) := Arv.set Ar2 q2 S2 Ng2 H2 G2 (fits_nar_byte _) W2 0 rfl (Nat.le_of_ble_eq_true rfl)
 refine oo st2 ?_
 have N2 := Fr.snoc X2 N0 (by omega : n0 ≤ b1)
 have sz2 : h2.size = h1.size := W2.size
 have O2 : Old Z n0 h2 := O1.wr W2 (by omega)
 have K2 : Keep h0 h2 [] := K1.wr W2 (Or.inr (by omega))
 refine so (A := (T2.setTop (mkF m 8 #[vi cc] [(.ref b1)]))) ?_
 refine own_ret X2 hx hlk hret rfl (Or.inr (Or.inr (Or.inr (Or.inr ⟨rfl, rfl, rfl⟩)))) (hb hby d7_8) (by decide) (by decide) ?_
 rw [e2]
 have fin := V2
 rw [own_narb] at fin
 exact ⟨b1, k1, rfl, N2, K2, by omega, by omega, fin⟩
theorem ef_rmSB (m : MethodId) (x0 : Nat) (x1 : Nat) (x2 : Int32) : entryFrame m #[(.ref x0), (.ref x1), (.int x2)] 3 = mkF m 0 #[vr x0, vr x1, vi x2] [] := by first | (simp [entryFrame, mkF, argsToLocals, Value.category]; done) | rfl
theorem pn_1 : plainName "java/lang/String" = true := by first | (simp [plainName, overriddenIn]; done) | decide +kernel
theorem d8_0 : dk cD8 0 (.aload_n 0) 1 := by decide +kernel
theorem d8_1 : dk cD8 1 (.invokespecial 1) 3 := by decide +kernel
theorem d8_4 : dk cD8 4 (.aload_n 0) 1 := by decide +kernel
theorem d8_5 : dk cD8 5 (.aload_n 1) 1 := by decide +kernel
theorem d8_6 : dk cD8 6 (.putfield 9) 3 := by decide +kernel
theorem pf_0 : parseFieldDescriptor "[B" = some (.array .byte) := by decide +kernel
theorem d8_9 : dk cD8 9 (.aload_n 0) 1 := by decide +kernel
theorem d8_10 : dk cD8 10 (.iload_n 2) 1 := by decide +kernel
theorem d8_11 : dk cD8 11 (.putfield 15) 3 := by decide +kernel
theorem pf_1 : parseFieldDescriptor "B" = some .byte := by decide +kernel
theorem d8_14 : dk cD8 14 .return_ 1 := by decide +kernel
def Q_rmSB (Z : State) (x : Nat) (t : Nat) (h0 : Heap) (n0 : Nat) (v : Option Value) (h : Heap) (L : List Loc) : Prop := v = none ∧ Fr n0 L ∧ Keep h0 h [x] ∧ Fld Z h x "java/lang/String" "value" "[B" (.ref t) ∧ Fld Z h x "java/lang/String" "coder" "B" (.int 0)
theorem rmSB (l : Launch) (Z : State) (a0 : Array Value) (hw : own_H Z a0) (ws : List Jvm.Cond) (x : Nat) (t : Nat) (h0 : Heap) (n0 : Nat) (XO0 : Old Z n0 h0) (g_x : n0 ≤ x) (E_x : Exa Z h0 x "java/lang/String") (F_v : Fld Z h0 x "java/lang/String" "value" "[B" .null) (F_c : Fld Z h0 x "java/lang/String" "coder" "B" (.int 0)) :
  own_M l Z ym8 cD8 ws 3 none (own_R 1 0 0 12) #[(.ref x), (.ref t), (.int 0)] h0 (Q_rmSB Z x t h0 n0) := by
 refine own_open (plainFor_of_name pn_1) ?_
 intro p e s m below meth c s₁ hx hby hlk hret hml hown hnm hZ X0 e0
 have hW := own_hW hw
 have N0 := Fr.nil n0
 refine oo (fun tt_ kk_ => castTop (ef_rmSB m x t (0 : Int32)) kk_) ?_
 refine so (A := (s₁.setTop (mkF m 0 #[vr x, vr t, vz] []))) ?_
 have K0_ : Keep h0 h0 [x] := Keep.refl h0 [x]
 have lt_x := olt E_x.lt
 refine oi (XS.aloadN X0.here hx rfl (hb hby d8_0) rfl rfl) ?_
 obtain ⟨T1, X1, e1, st1⟩ := initO X0 hx hZ hown (hW 46 _ rfl) (hW 20 _ rfl) (hW 21 _ rfl) e0 (g := (mkF m 1 #[vr x, vr t, vz] [(.ref x)])) rfl (by rw [hml]; rfl) rfl (hb hby d8_1) (by decide) (W := 0) (Nat.le_of_eq rfl) (by decide)
 refine oo st1 ?_
 refine oi (XS.aloadN X1.here hx rfl (hb hby d8_4) rfl rfl) ?_
 refine oi (XS.aloadN X1.here hx rfl (hb hby d8_5) rfl rfl) ?_
 obtain ⟨T2, h2, X2, e2, W2, st2⟩ := putF X1 hx hZ hown (host := "") (Or.inl (hW 47 _ rfl)) Via.refl e1 F_v E_x (Or.inr ⟨(hW 48 _ rfl), rfl, hnm⟩) (hW 37 _ rfl) (ty := (.array .byte)) pf_0 rfl rfl (g := (mkF m 6 #[vr x, vr t, vz] [(.ref t), (.ref x)])) rfl rfl (hb hby d8_6)
 refine oo st2 ?_
 have N2 := Fr.snoc X2 N0 (by omega : n0 ≤ x)
 have sz2 : h2.size = h0.size := W2.size
 have O2 : Old Z n0 h2 := XO0.wr W2 (by omega)
 have K2 : Keep h0 h2 [x] := K0_.wr W2 (Or.inl (List.mem_of_getElem? (i := 0) rfl))
 have Fw2 := F_v.same W2
 refine oi (XS.aloadN X2.here hx rfl (hb hby d8_9) rfl rfl) ?_
 refine oi (XS.iloadN X2.here hx rfl (hb hby d8_10) rfl) ?_
 have f3 : Exa Z h2 x "java/lang/String" := (E_x.wr W2)
 have f4 : Fld Z h2 x "java/lang/String" "coder" "B" (.int 0) := (F_c.other W2 (Or.inr (slot_ne (Or.inr (hW 50 _ rfl)) (Or.inr (hW 48 _ rfl)) (by decide) pf_1 pf_0)))
 obtain ⟨T5, h5, X5, e5, W5, st5⟩ := putFN X2 hx hZ hown (hW 49 _ rfl) Via.refl e2 f4 f3 (Or.inr ⟨(hW 50 _ rfl), rfl, hnm⟩) (hW 37 _ rfl) (ty := .byte) (v' := .int (nar .byte (0 : Int32))) pf_1 rfl (fits_nar_byte _) (g := (mkF m 11 #[vr x, vr t, vz] [(.int 0), (.ref x)])) rfl rfl (hb hby d8_11)
 refine oo st5 ?_
 have N5 := Fr.snoc X5 N2 (by omega : n0 ≤ x)
 have sz5 : h5.size = h2.size := W5.size
 have O5 : Old Z n0 h5 := O2.wr W5 (by omega)
 have K5 : Keep h0 h5 [x] := K2.wr W5 (Or.inl (List.mem_of_getElem? (i := 0) rfl))
 have Fw5 := f4.same W5
 refine so (A := (T5.setTop (mkF m 14 #[vr x, vr t, vz] []))) ?_
 refine own_retV X5 hx hlk hret (hb hby d8_14) (by decide) (by decide) ?_
 rw [e5]
 have f6 : Fld Z h5 x "java/lang/String" "value" "[B" (.ref t) := (Fw2.other W5 (Or.inr (slot_ne (Or.inr (hW 48 _ rfl)) (Or.inr (hW 50 _ rfl)) (by decide) pf_0 pf_1)))
 exact ⟨rfl, N5, K5, f6, Fw5⟩
theorem ef_rmVO (m : MethodId) (x0 : Int32) : entryFrame m #[(.int x0)] 1 = mkF m 0 #[vi x0] [] := by first | (simp [entryFrame, mkF, argsToLocals, Value.category]; done) | rfl
theorem d5_0 : dk cD5 0 (.getstatic 38) 3 := by decide +kernel
theorem d5_3 : dk cD5 3 (.ifCond .eq 23) 3 := by decide +kernel
theorem d5_6 : dk cD5 6 (.iload_n 0) 1 := by decide +kernel
theorem d5_7 : dk cD5 7 (.invokestatic 1015) 3 := by decide +kernel
theorem pd_0 : parseMethodDescriptor "(C)Z" = some ⟨[.char], some .boolean⟩ := by decide +kernel
theorem d5_10 : dk cD5 10 (.ifCond .eq 16) 3 := by decide +kernel
theorem d5_13 : dk cD5 13 (.new 10) 3 := by decide +kernel
theorem d5_16 : dk cD5 16 .dup 1 := by decide +kernel
theorem d5_17 : dk cD5 17 (.iload_n 0) 1 := by decide +kernel
theorem d5_18 : dk cD5 18 (.invokestatic 1018) 3 := by decide +kernel
theorem pd_1 : parseMethodDescriptor "(C)[B" = some ⟨[.char], some (.array .byte)⟩ := by decide +kernel
theorem d5_21 : dk cD5 21 (.iconst 0) 1 := by decide +kernel
theorem d5_22 : dk cD5 22 (.invokespecial 209) 3 := by decide +kernel
theorem pd_2 : parseMethodDescriptor "([BB)V" = some ⟨[(.array .byte), .byte], none⟩ := by decide +kernel
theorem d5_25 : dk cD5 25 .areturn 1 := by decide +kernel
def Q_rmVO (Z : State) (cc : Int32) (Gc : Int32) (h0 : Heap) (n0 : Nat) (v : Option Value) (h : Heap) (L : List Loc) : Prop := ∃ (x t : Nat), v = some (.ref x) ∧ Fr n0 L ∧ Keep h0 h [] ∧ h0.size ≤ x ∧ x < h.size ∧ h0.size ≤ t ∧ t < h.size ∧ x < t ∧ own_st Z h x t cc
theorem rmVO (l : Launch) (Z : State) (a0 : Array Value) (hw : own_H Z a0) (ws : List Jvm.Cond) (cc : Int32) (Gc : Int32) (h0 : Heap) (n0 : Nat) (XO0 : Old Z n0 h0) (Oc : Sta Z Z.heap "java/lang/String" "COMPACT_STRINGS" "Z" (.int Gc)) (Pc : ¬ (Gc = (0 : Int32))) (hc : own_ch cc) :
  own_M l Z ym5 cD5 ws 1 (some (.object "java/lang/String")) (own_R 2 2 5 27) #[(.int cc)] h0 (Q_rmVO Z cc Gc h0 n0) := by
 refine own_open (plainFor_of_name pn_1) ?_
 intro p e s m below meth c s₁ hx hby hlk hret hml hown hnm hZ X0 e0
 have hW := own_hW hw
 have N0 := Fr.nil n0
 refine oo (fun tt_ kk_ => castTop (ef_rmVO m cc) kk_) ?_
 refine so (A := (s₁.setTop (mkF m 0 #[vi cc] []))) ?_
 have K0_ : Keep h0 h0 [] := Keep.refl h0 []
 obtain ⟨T1, X1, e1, st1⟩ := getS2 X0 hx hZ hown (host := "") (Or.inl (hW 31 _ rfl)) Via.refl e0 (Oc.ext XO0.2) (g := (mkF m 0 #[vi cc] [])) rfl (hb hby d5_0)
 refine oo st1 ?_
 have hb3_2 : ¬ (Gc = (0 : Int32)) := Pc
 refine oi (XS.ifNo X1.here hx rfl (hb hby d5_3) rfl ((if0 _ _).trans (feq hb3_2).1)) ?_
 refine so (A := (T1.setTop (mkF m 6 #[vi cc] []))) ?_
 refine oi (XS.iloadN X1.here hx rfl (hb hby d5_6) rfl) ?_
 refine so (A := (T1.setTop (mkF m 7 #[vi cc] [(.int cc)]))) ?_
 obtain ⟨_, T3, Lc3, X3, hQ3, st3⟩ := own_c1 X1 <| Jvm.LawKit.callS X1 hx (y := ym6) hown (mvT hZ (hW 32 _ rfl)) (mvT hZ (hW 33 _ rfl)) (mvT hZ (hW 34 _ rfl)) (mvT hZ (hW 35 _ rfl)) (by decide) (backOf (W := 0) (rmCE l Z a0 hw [] cc h0 n0 XO0 hc) hZ (hW 35 _ rfl) (hW 34 _ rfl) (by decide) (by decide)) (g := (mkF m 7 #[vi cc] [(.int cc)])) rfl (by rw [hml]; rfl) (argsL := [(.int cc)]) (rest := []) (lenOf pd_0 rfl) rfl (Nat.le_of_eq rfl) (hb hby d5_7) (fun _ _ => ⟨rfl, e1, (by decide : 0 + 0 ≤ _), (by decide : 0 + 0 ≤ _)⟩)
 obtain ⟨rfl, Nq3, eh3⟩ := hQ3
 have N3 := Fr.app N0 Nq3
 refine oo st3 ?_
 have hb10_4 : ¬ ((1 : Int32) = (0 : Int32)) := by decide
 refine oi (XS.ifNo X3.here hx rfl (hb hby d5_10) rfl ((if0 _ _).trans (feq hb10_4).1)) ?_
 obtain ⟨T5, h5, X5, e5, E5, A5, D5, -, st5⟩ := newO X3 hx hZ hown (hW 36 _ rfl) (hW 37 _ rfl) (hW 29 _ rfl) eh3 (g := (mkF m 13 #[vi cc] [])) rfl (hb hby d5_13) (by decide) (by decide)
 obtain ⟨b5, g5⟩ : ∃ z, z = h0.size := ⟨_, rfl⟩
 rw [← g5] at A5 D5 st5
 refine oo st5 ?_
 have lt5 := olt A5.lt
 have sz5 : h0.size ≤ h5.size := E5.1
 have O5 : Old Z n0 h5 := XO0.ext E5
 have z5 : n0 ≤ b5 := by have := XO0.1 ▸ XO0.2.1; omega
 have K5 : Keep h0 h5 [] := K0_.ext E5
 have F5_value : Fld Z h5 b5 "java/lang/String" "value" "[B" .null := D5 (Or.inr (hW 48 _ rfl)) (ty := (.array .byte)) pf_0
 have F5_coder : Fld Z h5 b5 "java/lang/String" "coder" "B" (.int 0) := D5 (Or.inr (hW 50 _ rfl)) (ty := .byte) pf_1
 refine oi (XS.dup X5.here hx rfl (hb hby d5_16) rfl rfl) ?_
 refine oi (XS.iloadN X5.here hx rfl (hb hby d5_17) rfl) ?_
 refine so (A := (T5.setTop (mkF m 18 #[vi cc] [(.int cc), (.ref b5), (.ref b5)]))) ?_
 obtain ⟨_, T6, Lc6, X6, hQ6, st6⟩ := own_c1 X5 <| Jvm.LawKit.callS X5 hx (y := ym7) hown (mvT hZ (hW 38 _ rfl)) (mvT hZ (hW 39 _ rfl)) (mvT hZ (hW 34 _ rfl)) (mvT hZ (hW 40 _ rfl)) (by decide) (backOf (W := 2) (rmTB l Z a0 hw [] cc h5 n0 O5) hZ (hW 40 _ rfl) (hW 34 _ rfl) (by decide) (by decide)) (g := (mkF m 18 #[vi cc] [(.int cc), (.ref b5), (.ref b5)])) rfl (by rw [hml]; rfl) (argsL := [(.int cc)]) (rest := [(.ref b5), (.ref b5)]) (lenOf pd_1 rfl) rfl (Nat.le_of_eq rfl) (hb hby d5_18) (fun _ _ => ⟨rfl, e5, (by decide : 1 + 1 ≤ _), (by decide : 4 + 1 ≤ _)⟩)
 obtain ⟨t6, kb6, rfl, Nq6, Kp6, gt6, lq6, Vt6⟩ := hQ6
 have N6 := Fr.app N3 Nq6
 refine oo st6 ?_
 have sz6 : h5.size ≤ T6.heap.size := Kp6.1
 have O6 : Old Z n0 T6.heap := O5.keep Kp6 all0
 have K6 : Keep h0 T6.heap [] := K5.trans Kp6 all0
 refine oi (XS.iconst X6.here hx rfl (hb hby d5_21)) ?_
 refine so (A := (T6.setTop (mkF m 22 #[vi cc] [(.int 0), (.ref t6), (.ref b5), (.ref b5)]))) ?_
 have f7 : Exa Z T6.heap b5 "java/lang/String" := (A5.keep Kp6)
 have f8 : Fld Z T6.heap b5 "java/lang/String" "value" "[B" .null := (F5_value.keep Kp6 nin0)
 have f9 : Fld Z T6.heap b5 "java/lang/String" "coder" "B" (.int 0) := (F5_coder.keep Kp6 nin0)
 obtain ⟨_, T10, Lc10, X10, hQ10, st10⟩ := own_c1 X6 <| X6.specialBack hx (y := ym8) rfl hown (mvT hZ (hW 42 _ rfl)) (mvT hZ (hW 43 _ rfl)) (mvT hZ (hW 45 _ rfl)) (by decide) (backOf (W := 1) (rmSB l Z a0 hw [] b5 t6 T6.heap n0 O6 (by omega) f7 f8 f9) hZ (hW 45 _ rfl) (hW 29 _ rfl) (by decide) (by decide)) (g := (mkF m 22 #[vi cc] [(.int 0), (.ref t6), (.ref b5), (.ref b5)])) rfl (by rw [hml]; rfl) (Steps.refl _) (a := b5) (argsL := [(.ref t6), (.int 0)]) (rest := [(.ref b5)]) (lenOf pd_2 rfl) rfl (Nat.le_of_eq rfl) (hb hby d5_22) (fun _ _ => ⟨rfl, rfl, (by decide : 2 + 0 ≤ _), (by decide : 5 + 0 ≤ _)⟩)
 obtain ⟨rfl, Nq10, Kp10, Fv10, Fc10⟩ := hQ10
 have N10 := Fr.app N6 Nq10
 refine oo (fun tt_ kk_ => st10.trans kk_) ?_
 have sz10 : T6.heap.size ≤ T10.heap.size := Kp10.1
 have O10 : Old Z n0 T10.heap := O6.keep Kp10 (allS (by omega) all0)
 have K10 : Keep h0 T10.heap [] := K6.trans Kp10 (allS (Or.inr (by omega)) all0)
 refine so (A := (T10.setTop (mkF m 25 #[vi cc] [(.ref b5)]))) ?_
 refine own_ret X10 hx hlk hret rfl (Or.inr (Or.inr (Or.inr (Or.inr ⟨rfl, rfl, rfl⟩)))) (hb hby d5_25) (by decide) (by decide) ?_
 skip
 have f11 : Exa Z T10.heap b5 "java/lang/String" := (f7.keep Kp10)
 have f12 : Arv Z T10.heap t6 kb6 .byte (1 : Int32) [(.int (own_lo8 cc))] (.int 0) := (Vt6.keep Kp10 (ninS (one (by omega)) nin0))
 exact ⟨b5, t6, rfl, N10, K10, by omega, by omega, by omega, by omega, by omega, hc, kb6, f11, Fv10, Fc10, f12⟩
theorem ef_rmABC (m : MethodId) (x0 : Nat) : entryFrame m #[(.ref x0)] 1 = mkF m 0 #[vr x0] [] := by first | (simp [entryFrame, mkF, argsToLocals, Value.category]; done) | rfl
theorem pn_2 : plainName "java/util/AbstractCollection" = true := by first | (simp [plainName, overriddenIn]; done) | decide +kernel
theorem d3_0 : dk cD3 0 (.aload_n 0) 1 := by decide +kernel
theorem d3_1 : dk cD3 1 (.invokespecial 1) 3 := by decide +kernel
theorem d3_4 : dk cD3 4 .return_ 1 := by decide +kernel
def Q_rmABC (Z : State) (la : Nat) (h0 : Heap) (n0 : Nat) (v : Option Value) (h : Heap) (L : List Loc) : Prop := v = none ∧ Fr n0 L ∧ h = h0
theorem rmABC (l : Launch) (Z : State) (a0 : Array Value) (hw : own_H Z a0) (ws : List Jvm.Cond) (la : Nat) (h0 : Heap) (n0 : Nat) (XO0 : Old Z n0 h0) :
  own_M l Z ym3 cD3 ws 1 none (own_R 1 0 0 12) #[(.ref la)] h0 (Q_rmABC Z la h0 n0) := by
 refine own_open (plainFor_of_name pn_2) ?_
 intro p e s m below meth c s₁ hx hby hlk hret hml hown hnm hZ X0 e0
 have hW := own_hW hw
 have N0 := Fr.nil n0
 refine oo (fun tt_ kk_ => castTop (ef_rmABC m la) kk_) ?_
 refine so (A := (s₁.setTop (mkF m 0 #[vr la] []))) ?_
 refine oi (XS.aloadN X0.here hx rfl (hb hby d3_0) rfl rfl) ?_
 obtain ⟨T1, X1, e1, st1⟩ := initO X0 hx hZ hown (hW 19 _ rfl) (hW 20 _ rfl) (hW 21 _ rfl) e0 (g := (mkF m 1 #[vr la] [(.ref la)])) rfl (by rw [hml]; rfl) rfl (hb hby d3_1) (by decide) (W := 0) (Nat.le_of_eq rfl) (by decide)
 refine oo st1 ?_
 refine so (A := (T1.setTop (mkF m 4 #[vr la] []))) ?_
 refine own_retV X1 hx hlk hret (hb hby d3_4) (by decide) (by decide) ?_
 rw [e1]
 exact ⟨rfl, N0, rfl⟩
theorem ef_rmABL (m : MethodId) (x0 : Nat) : entryFrame m #[(.ref x0)] 1 = mkF m 0 #[vr x0] [] := by first | (simp [entryFrame, mkF, argsToLocals, Value.category]; done) | rfl
theorem pn_3 : plainName "java/util/AbstractList" = true := by first | (simp [plainName, overriddenIn]; done) | decide +kernel
theorem d2_0 : dk cD2 0 (.aload_n 0) 1 := by decide +kernel
theorem d2_1 : dk cD2 1 (.invokespecial 1) 3 := by decide +kernel
theorem pd_3 : parseMethodDescriptor "()V" = some ⟨[], none⟩ := by decide +kernel
theorem d2_4 : dk cD2 4 (.aload_n 0) 1 := by decide +kernel
theorem d2_5 : dk cD2 5 (.iconst 0) 1 := by decide +kernel
theorem d2_6 : dk cD2 6 (.putfield 7) 3 := by decide +kernel
theorem pf_2 : parseFieldDescriptor "I" = some .int := by decide +kernel
theorem d2_9 : dk cD2 9 .return_ 1 := by decide +kernel
theorem pf_3 : parseFieldDescriptor "[Ljava/lang/Object;" = some (.array (.object "java/lang/Object")) := by decide +kernel
def Q_rmABL (Z : State) (la : Nat) (h0 : Heap) (n0 : Nat) (v : Option Value) (h : Heap) (L : List Loc) : Prop := v = none ∧ Fr n0 L ∧ Keep h0 h [la] ∧ Exa Z h la "java/util/ArrayList" ∧ Fld Z h la "java/util/ArrayList" "elementData" "[Ljava/lang/Object;" .null ∧ Fld Z h la "java/util/ArrayList" "size" "I" (.int 0) ∧ Fld Z h la "java/util/AbstractList" "modCount" "I" (.int 0)
theorem rmABL (l : Launch) (Z : State) (a0 : Array Value) (hw : own_H Z a0) (ws : List Jvm.Cond) (la : Nat) (h0 : Heap) (n0 : Nat) (XO0 : Old Z n0 h0) (g_l : n0 ≤ la) (E_l : Exa Z h0 la "java/util/ArrayList") (F_e : Fld Z h0 la "java/util/ArrayList" "elementData" "[Ljava/lang/Object;" .null) (F_z : Fld Z h0 la "java/util/ArrayList" "size" "I" (.int 0)) (F_m : Fld Z h0 la "java/util/AbstractList" "modCount" "I" (.int 0)) :
  own_M l Z ym2 cD2 ws 1 none (own_R 2 0 0 24) #[(.ref la)] h0 (Q_rmABL Z la h0 n0) := by
 refine own_open (plainFor_of_name pn_3) ?_
 intro p e s m below meth c s₁ hx hby hlk hret hml hown hnm hZ X0 e0
 have hW := own_hW hw
 have N0 := Fr.nil n0
 refine oo (fun tt_ kk_ => castTop (ef_rmABL m la) kk_) ?_
 refine so (A := (s₁.setTop (mkF m 0 #[vr la] []))) ?_
 have K0_ : Keep h0 h0 [la] := Keep.refl h0 [la]
 have lt_la := olt E_l.lt
 refine oi (XS.aloadN X0.here hx rfl (hb hby d2_0) rfl rfl) ?_
 refine so (A := (s₁.setTop (mkF m 1 #[vr la] [(.ref la)]))) ?_
 obtain ⟨_, T1, Lc1, X1, hQ1, st1⟩ := own_c1 X0 <| X0.specialBack hx (y := ym3) rfl hown (mvT hZ (hW 13 _ rfl)) (mvT hZ (hW 14 _ rfl)) (mvT hZ (hW 18 _ rfl)) (by decide) (backOf (W := 0) (rmABC l Z a0 hw [] la h0 n0 XO0) hZ (hW 18 _ rfl) (hW 17 _ rfl) (by decide) (by decide)) (g := (mkF m 1 #[vr la] [(.ref la)])) rfl (by rw [hml]; rfl) (Steps.refl _) (a := la) (argsL := []) (rest := []) (lenOf pd_3 rfl) rfl (Nat.le_of_eq rfl) (hb hby d2_1) (fun _ _ => ⟨rfl, e0, (by decide : 0 + 0 ≤ _), (by decide : 0 + 0 ≤ _)⟩)
 obtain ⟨rfl, Nq1, eh1⟩ := hQ1
 have N1 := Fr.app N0 Nq1
 refine oo (fun tt_ kk_ => st1.trans kk_) ?_
 refine oi (XS.aloadN X1.here hx rfl (hb hby d2_4) rfl rfl) ?_
 refine oi (XS.iconst X1.here hx rfl (hb hby d2_5)) ?_
 obtain ⟨T2, h2, X2, e2, W2, st2⟩ := putF X1 hx hZ hown (host := "") (Or.inl (hW 22 _ rfl)) Via.refl eh1 F_m E_l (Or.inl (hW 23 _ rfl)) (hW 2 _ rfl) (ty := .int) pf_2 rfl rfl (g := (mkF m 6 #[vr la] [(.int 0), (.ref la)])) rfl rfl (hb hby d2_6)
 refine oo st2 ?_
 have N2 := Fr.snoc X2 N1 (by omega : n0 ≤ la)
 have sz2 : h2.size = h0.size := W2.size
 have O2 : Old Z n0 h2 := XO0.wr W2 (by omega)
 have K2 : Keep h0 h2 [la] := K0_.wr W2 (Or.inl (List.mem_of_getElem? (i := 0) rfl))
 have Fw2 := F_m.same W2
 refine so (A := (T2.setTop (mkF m 9 #[vr la] []))) ?_
 refine own_retV X2 hx hlk hret (hb hby d2_9) (by decide) (by decide) ?_
 rw [e2]
 have f3 : Exa Z h2 la "java/util/ArrayList" := (E_l.wr W2)
 have f4 : Fld Z h2 la "java/util/ArrayList" "elementData" "[Ljava/lang/Object;" .null := (F_e.other W2 (Or.inr (slot_ne (Or.inl (hW 26 _ rfl)) (Or.inl (hW 23 _ rfl)) (by decide) pf_3 pf_2)))
 have f5 : Fld Z h2 la "java/util/ArrayList" "size" "I" (.int 0) := (F_z.other W2 (Or.inr (slot_ne (Or.inl (hW 94 _ rfl)) (Or.inl (hW 23 _ rfl)) (by decide) pf_2 pf_2)))
 exact ⟨rfl, N2, K2, f3, f4, f5, Fw2⟩
theorem ef_rmLI (m : MethodId) (x0 : Nat) : entryFrame m #[(.ref x0)] 1 = mkF m 0 #[vr x0] [] := by first | (simp [entryFrame, mkF, argsToLocals, Value.category]; done) | rfl
theorem pn_4 : plainName "java/util/ArrayList" = true := by first | (simp [plainName, overriddenIn]; done) | decide +kernel
theorem d1_0 : dk cD1 0 (.aload_n 0) 1 := by decide +kernel
theorem d1_1 : dk cD1 1 (.invokespecial 1) 3 := by decide +kernel
theorem d1_4 : dk cD1 4 (.aload_n 0) 1 := by decide +kernel
theorem d1_5 : dk cD1 5 (.getstatic 39) 3 := by decide +kernel
theorem d1_8 : dk cD1 8 (.putfield 9) 3 := by decide +kernel
theorem d1_11 : dk cD1 11 .return_ 1 := by decide +kernel
def Q_rmLI (Z : State) (la : Nat) (dq : Nat) (kd : ClassId) (mr : Nat) (h0 : Heap) (n0 : Nat) (v : Option Value) (h : Heap) (L : List Loc) : Prop := v = none ∧ Fr n0 L ∧ Keep h0 h [la] ∧ own_al Z h dq n0 la dq kd [] (0 : Int32)
theorem rmLI (l : Launch) (Z : State) (a0 : Array Value) (hw : own_H Z a0) (ws : List Jvm.Cond) (la : Nat) (dq : Nat) (kd : ClassId) (mr : Nat) (h0 : Heap) (n0 : Nat) (XO0 : Old Z n0 h0) (g_l : n0 ≤ la) (S_d : Sta Z Z.heap "java/util/ArrayList" "DEFAULTCAPACITY_EMPTY_ELEMENTDATA" "[Ljava/lang/Object;" (.ref dq)) (V_d : Arv Z Z.heap dq kd (.object "java/lang/Object") (0 : Int32) [] .null) (E_d : Exa Z Z.heap dq "[Ljava/lang/Object;") (M_r : own_mir Z "[Ljava/lang/Object;" mr) (l_d : dq < n0) (E_l : Exa Z h0 la "java/util/ArrayList") (F_e : Fld Z h0 la "java/util/ArrayList" "elementData" "[Ljava/lang/Object;" .null) (F_z : Fld Z h0 la "java/util/ArrayList" "size" "I" (.int 0)) (F_m : Fld Z h0 la "java/util/AbstractList" "modCount" "I" (.int 0)) :
  own_M l Z ym1 cD1 ws 1 none (own_R 3 0 0 36) #[(.ref la)] h0 (Q_rmLI Z la dq kd mr h0 n0) := by
 refine own_open (plainFor_of_name pn_4) ?_
 intro p e s m below meth c s₁ hx hby hlk hret hml hown hnm hZ X0 e0
 have hW := own_hW hw
 have N0 := Fr.nil n0
 refine oo (fun tt_ kk_ => castTop (ef_rmLI m la) kk_) ?_
 refine so (A := (s₁.setTop (mkF m 0 #[vr la] []))) ?_
 have K0_ : Keep h0 h0 [la] := Keep.refl h0 [la]
 have lt_la := olt E_l.lt
 refine oi (XS.aloadN X0.here hx rfl (hb hby d1_0) rfl rfl) ?_
 refine so (A := (s₁.setTop (mkF m 1 #[vr la] [(.ref la)]))) ?_
 obtain ⟨_, T1, Lc1, X1, hQ1, st1⟩ := own_c1 X0 <| X0.specialBack hx (y := ym2) rfl hown (mvT hZ (hW 7 _ rfl)) (mvT hZ (hW 8 _ rfl)) (mvT hZ (hW 12 _ rfl)) (by decide) (backOf (W := 0) (rmABL l Z a0 hw [] la h0 n0 XO0 g_l E_l F_e F_z F_m) hZ (hW 12 _ rfl) (hW 11 _ rfl) (by decide) (by decide)) (g := (mkF m 1 #[vr la] [(.ref la)])) rfl (by rw [hml]; rfl) (Steps.refl _) (a := la) (argsL := []) (rest := []) (lenOf pd_3 rfl) rfl (Nat.le_of_eq rfl) (hb hby d1_1) (fun _ _ => ⟨rfl, e0, (by decide : 0 + 0 ≤ _), (by decide : 0 + 0 ≤ _)⟩)
 obtain ⟨rfl, Nq1, Kp1, El1, Fe1, Fz1, Fm1⟩ := hQ1
 have N1 := Fr.app N0 Nq1
 refine oo (fun tt_ kk_ => st1.trans kk_) ?_
 have sz1 : h0.size ≤ T1.heap.size := Kp1.1
 have O1 : Old Z n0 T1.heap := XO0.keep Kp1 (allS (by omega) all0)
 have K1 : Keep h0 T1.heap [la] := K0_.trans Kp1 (allS (Or.inl (List.mem_of_getElem? (i := 0) rfl)) all0)
 refine oi (XS.aloadN X1.here hx rfl (hb hby d1_4) rfl rfl) ?_
 obtain ⟨T2, X2, e2, st2⟩ := getS2 X1 hx hZ hown (host := "") (Or.inl (hW 24 _ rfl)) Via.refl rfl (S_d.ext O1.2) (g := (mkF m 5 #[vr la] [(.ref la)])) rfl (hb hby d1_5)
 refine oo st2 ?_
 obtain ⟨T3, h3, X3, e3, W3, st3⟩ := putF X2 hx hZ hown (host := "") (Or.inl (hW 25 _ rfl)) Via.refl e2 Fe1 El1 (Or.inl (hW 26 _ rfl)) (hW 2 _ rfl) (ty := (.array (.object "java/lang/Object"))) pf_3 rfl rfl (g := (mkF m 8 #[vr la] [(.ref dq), (.ref la)])) rfl rfl (hb hby d1_8)
 refine oo st3 ?_
 have N3 := Fr.snoc X3 N1 (by omega : n0 ≤ la)
 have sz3 : h3.size = T1.heap.size := W3.size
 have O3 : Old Z n0 h3 := O1.wr W3 (by omega)
 have K3 : Keep h0 h3 [la] := K1.wr W3 (Or.inl (List.mem_of_getElem? (i := 0) rfl))
 have Fw3 := Fe1.same W3
 refine so (A := (T3.setTop (mkF m 11 #[vr la] []))) ?_
 refine own_retV X3 hx hlk hret (hb hby d1_11) (by decide) (by decide) ?_
 rw [e3]
 have f4 : Exa Z h3 la "java/util/ArrayList" := (El1.wr W3)
 have f5 : Fld Z h3 la "java/util/ArrayList" "size" "I" (.int 0) := (Fz1.other W3 (Or.inr (slot_ne (Or.inl (hW 94 _ rfl)) (Or.inl (hW 26 _ rfl)) (by decide) pf_2 pf_3)))
 have f6 : Fld Z h3 la "java/util/AbstractList" "modCount" "I" (.int 0) := (Fm1.other W3 (Or.inr (slot_ne (Or.inl (hW 23 _ rfl)) (Or.inl (hW 26 _ rfl)) (by decide) pf_2 pf_3)))
 have f7 : Exa Z h3 dq "[Ljava/lang/Object;" := E_d.ext O3.2
 have f8 : Arv Z h3 dq kd (.object "java/lang/Object") (0 : Int32) [] .null := V_d.ext O3.2
 exact ⟨rfl, N3, K3, f4, Fw3, f5, f6, f7, Or.inl ⟨rfl, rfl, f8⟩⟩
theorem ef_rmMax (m : MethodId) (x0 : Int32) (x1 : Int32) : entryFrame m #[(.int x0), (.int x1)] 2 = mkF m 0 #[vi x0, vi x1] [] := by first | (simp [entryFrame, mkF, argsToLocals, Value.category]; done) | rfl
theorem d26_0 : dk cD26 0 (.iload_n 0) 1 := by decide +kernel
theorem d26_1 : dk cD26 1 (.iload_n 1) 1 := by decide +kernel
theorem d26_2 : dk cD26 2 (.if_icmp .lt 7) 3 := by decide +kernel
theorem d26_5 : dk cD26 5 (.iload_n 0) 1 := by decide +kernel
theorem d26_6 : dk cD26 6 (.goto 4) 3 := by decide +kernel
theorem d26_10 : dk cD26 10 .ireturn 1 := by decide +kernel
def Q_rmMax (Z : State) (jx : Int32) (h0 : Heap) (n0 : Nat) (v : Option Value) (h : Heap) (L : List Loc) : Prop := v = some (.int 10) ∧ Fr n0 L ∧ h = h0
theorem rmMax (l : Launch) (Z : State) (a0 : Array Value) (hw : own_H Z a0) (ws : List Jvm.Cond) (jx : Int32) (h0 : Heap) (n0 : Nat) (XO0 : Old Z n0 h0) (hj : ¬ (10 : Int32) < jx) :
  own_M l Z ym26 cD26 ws 2 (some .int) (own_R 0 0 0 0) #[(.int 10), (.int jx)] h0 (Q_rmMax Z jx h0 n0) := by
 refine own_open (Jvm.Free.JP.mathPlain rfl (by decide +kernel)) ?_
 intro p e s m below meth c s₁ hx hby hlk hret hml hown hnm hZ X0 e0
 have hW := own_hW hw
 have N0 := Fr.nil n0
 refine oo (fun tt_ kk_ => castTop (ef_rmMax m (10 : Int32) jx) kk_) ?_
 refine so (A := (s₁.setTop (mkF m 0 #[vi 10, vi jx] []))) ?_
 refine oi (XS.iloadN X0.here hx rfl (hb hby d26_0) rfl) ?_
 refine oi (XS.iloadN X0.here hx rfl (hb hby d26_1) rfl) ?_
 have hb2_1 : ¬ ((10 : Int32) < jx) := hj
 refine oi (XS.icmpNo X0.here hx rfl (hb hby d26_2) rfl (flt hb2_1).1) ?_
 refine so (A := (s₁.setTop (mkF m 5 #[vi 10, vi jx] []))) ?_
 refine oi (XS.iloadN X0.here hx rfl (hb hby d26_5) rfl) ?_
 refine oi (XS.goto X0.here hx rfl (pc0 := 6) (pc' := 10) rfl (hb hby d26_6) (by decide) (by decide)) ?_
 refine so (A := (s₁.setTop (mkF m 10 #[vi 10, vi jx] [(.int 10)]))) ?_
 refine own_ret X0 hx hlk hret rfl (Or.inl ⟨rfl, by simp, _, rfl⟩) (hb hby d26_10) (by decide) (by decide) ?_
 rw [e0]
 exact ⟨rfl, N0, rfl⟩
theorem ef_rmMin (m : MethodId) (x0 : Int32) (x1 : Int32) : entryFrame m #[(.int x0), (.int x1)] 2 = mkF m 0 #[vi x0, vi x1] [] := by first | (simp [entryFrame, mkF, argsToLocals, Value.category]; done) | rfl
theorem d17_0 : dk cD17 0 (.iload_n 0) 1 := by decide +kernel
theorem d17_1 : dk cD17 1 (.iload_n 1) 1 := by decide +kernel
theorem d17_2 : dk cD17 2 (.if_icmp .gt 7) 3 := by decide +kernel
theorem d17_9 : dk cD17 9 (.iload_n 1) 1 := by decide +kernel
theorem d17_10 : dk cD17 10 .ireturn 1 := by decide +kernel
theorem d17_5 : dk cD17 5 (.iload_n 0) 1 := by decide +kernel
theorem d17_6 : dk cD17 6 (.goto 4) 3 := by decide +kernel
def Q_rmMin (Z : State) (ix : Int32) (jx : Int32) (h0 : Heap) (n0 : Nat) (v : Option Value) (h : Heap) (L : List Loc) : Prop := v = some (.int jx) ∧ Fr n0 L ∧ h = h0
theorem rmMin (l : Launch) (Z : State) (a0 : Array Value) (hw : own_H Z a0) (ws : List Jvm.Cond) (ix : Int32) (jx : Int32) (h0 : Heap) (n0 : Nat) (XO0 : Old Z n0 h0) (hj : ¬ jx < ix → ix = jx) :
  own_M l Z ym17 cD17 ws 2 (some .int) (own_R 0 0 0 0) #[(.int ix), (.int jx)] h0 (Q_rmMin Z ix jx h0 n0) := by
 refine own_open (Jvm.Free.JP.mathPlain rfl (by decide +kernel)) ?_
 intro p e s m below meth c s₁ hx hby hlk hret hml hown hnm hZ X0 e0
 have hW := own_hW hw
 have N0 := Fr.nil n0
 refine oo (fun tt_ kk_ => castTop (ef_rmMin m ix jx) kk_) ?_
 refine so (A := (s₁.setTop (mkF m 0 #[vi ix, vi jx] []))) ?_
 refine oi (XS.iloadN X0.here hx rfl (hb hby d17_0) rfl) ?_
 refine oi (XS.iloadN X0.here hx rfl (hb hby d17_1) rfl) ?_
 by_cases hb2_1 : jx < ix
 ·refine oi (XS.icmpYes X0.here hx rfl (pc0 := 2) (pc' := 9) rfl (hb hby d17_2) rfl (tlt hb2_1).2.2.1 (by decide) (by decide)) ?_
  refine so (A := (s₁.setTop (mkF m 9 #[vi ix, vi jx] []))) ?_
  refine oi (XS.iloadN X0.here hx rfl (hb hby d17_9) rfl) ?_
  refine so (A := (s₁.setTop (mkF m 10 #[vi ix, vi jx] [(.int jx)]))) ?_
  refine own_ret X0 hx hlk hret rfl (Or.inl ⟨rfl, by simp, _, rfl⟩) (hb hby d17_10) (by decide) (by decide) ?_
  rw [e0]
  exact ⟨rfl, N0, rfl⟩
 ·refine oi (XS.icmpNo X0.here hx rfl (hb hby d17_2) rfl (flt hb2_1).2.2.1) ?_
  refine so (A := (s₁.setTop (mkF m 5 #[vi ix, vi jx] []))) ?_
  refine oi (XS.iloadN X0.here hx rfl (hb hby d17_5) rfl) ?_
  refine oi (XS.goto X0.here hx rfl (pc0 := 6) (pc' := 10) rfl (hb hby d17_6) (by decide) (by decide)) ?_
  refine so (A := (s₁.setTop (mkF m 10 #[vi ix, vi jx] [(.int ix)]))) ?_
  refine own_ret X0 hx hlk hret rfl (Or.inl ⟨rfl, by simp, _, rfl⟩) (hb hby d17_10) (by decide) (by decide) ?_
  rw [e0]
  exact ⟨(by rw [hj hb2_1]), N0, rfl⟩
theorem ef_rmGrI (m : MethodId) (x0 : Nat) (x1 : Int32) : entryFrame m #[(.ref x0), (.int x1)] 4 = mkF m 0 #[vr x0, vi x1, uu, uu] [] := by first | (simp [entryFrame, mkF, argsToLocals, Value.category]; done) | rfl
theorem d25_0 : dk cD25 0 (.aload_n 0) 1 := by decide +kernel
theorem d25_1 : dk cD25 1 (.getfield 9) 3 := by decide +kernel
theorem d25_4 : dk cD25 4 .arraylength 1 := by decide +kernel
theorem d25_5 : dk cD25 5 (.istore_n 2) 1 := by decide +kernel
theorem d25_6 : dk cD25 6 (.iload_n 2) 1 := by decide +kernel
theorem d25_7 : dk cD25 7 (.ifCond .gt 13) 3 := by decide +kernel
theorem d25_10 : dk cD25 10 (.aload_n 0) 1 := by decide +kernel
theorem d25_11 : dk cD25 11 (.getfield 9) 3 := by decide +kernel
theorem d25_14 : dk cD25 14 (.getstatic 39) 3 := by decide +kernel
theorem d25_17 : dk cD25 17 (.if_acmp .eq 28) 3 := by decide +kernel
theorem d25_45 : dk cD25 45 (.aload_n 0) 1 := by decide +kernel
theorem d25_46 : dk cD25 46 (.bipush 10) 2 := by decide +kernel
theorem d25_48 : dk cD25 48 (.iload_n 1) 1 := by decide +kernel
theorem d25_49 : dk cD25 49 (.invokestatic 79) 3 := by decide +kernel
theorem pd_4 : parseMethodDescriptor "(II)I" = some ⟨[.int, .int], some .int⟩ := by decide +kernel
theorem d25_52 : dk cD25 52 (.anewarray 7) 3 := by decide +kernel
theorem d25_55 : dk cD25 55 .dup_x1 1 := by decide +kernel
theorem d25_56 : dk cD25 56 (.putfield 9) 3 := by decide +kernel
theorem d25_59 : dk cD25 59 .areturn 1 := by decide +kernel
def Q_rmGrI (Z : State) (la : Nat) (dq : Nat) (kd : ClassId) (mr : Nat) (mc : Int32) (jx : Int32) (h0 : Heap) (n0 : Nat) (v : Option Value) (h : Heap) (L : List Loc) : Prop := ∃ (e2 : Nat) (k2 : ClassId), v = some (.ref e2) ∧ Fr n0 L ∧ Keep h0 h [la] ∧ h0.size ≤ e2 ∧ e2 < h.size ∧ Exa Z h la "java/util/ArrayList" ∧ Fld Z h la "java/util/ArrayList" "elementData" "[Ljava/lang/Object;" (.ref e2) ∧ Fld Z h la "java/util/ArrayList" "size" "I" (.int 0) ∧ Fld Z h la "java/util/AbstractList" "modCount" "I" (.int mc) ∧ Arv Z h e2 k2 (.object "java/lang/Object") (10 : Int32) ([]) .null ∧ Ovr Z k2 "java/lang/Object" ∧ Exa Z h e2 "[Ljava/lang/Object;"
theorem rmGrI (l : Launch) (Z : State) (a0 : Array Value) (hw : own_H Z a0) (ws : List Jvm.Cond) (la : Nat) (dq : Nat) (kd : ClassId) (mr : Nat) (mc : Int32) (jx : Int32) (h0 : Heap) (n0 : Nat) (XO0 : Old Z n0 h0) (g_l : n0 ≤ la) (S_d : Sta Z Z.heap "java/util/ArrayList" "DEFAULTCAPACITY_EMPTY_ELEMENTDATA" "[Ljava/lang/Object;" (.ref dq)) (V_d : Arv Z Z.heap dq kd (.object "java/lang/Object") (0 : Int32) [] .null) (E_d : Exa Z Z.heap dq "[Ljava/lang/Object;") (M_r : own_mir Z "[Ljava/lang/Object;" mr) (l_d : dq < n0) (E_l : Exa Z h0 la "java/util/ArrayList") (F_e : Fld Z h0 la "java/util/ArrayList" "elementData" "[Ljava/lang/Object;" (.ref dq)) (F_z : Fld Z h0 la "java/util/ArrayList" "size" "I" (.int 0)) (F_m : Fld Z h0 la "java/util/AbstractList" "modCount" "I" (.int mc)) (hj : ¬ (10 : Int32) < jx) :
  own_M l Z ym25 cD25 ws 4 (some (.array (.object "java/lang/Object"))) (own_R 1 1 10 14) #[(.ref la), (.int jx)] h0 (Q_rmGrI Z la dq kd mr mc jx h0 n0) := by
 refine own_open (plainFor_of_name pn_4) ?_
 intro p e s m below meth c s₁ hx hby hlk hret hml hown hnm hZ X0 e0
 have hW := own_hW hw
 have N0 := Fr.nil n0
 refine oo (fun tt_ kk_ => castTop (ef_rmGrI m la jx) kk_) ?_
 refine so (A := (s₁.setTop (mkF m 0 #[vr la, vi jx, uu, uu] []))) ?_
 have K0_ : Keep h0 h0 [la] := Keep.refl h0 [la]
 have lt_la := olt E_l.lt
 refine oi (XS.aloadN X0.here hx rfl (hb hby d25_0) rfl rfl) ?_
 obtain ⟨T1, X1, e1, st1⟩ := getF X0 hx hZ hown (host := "") (Or.inl (hW 25 _ rfl)) Via.refl e0 F_e (g := (mkF m 1 #[vr la, vi jx, uu, uu] [(.ref la)])) rfl rfl (hb hby d25_1)
 refine oo st1 ?_
 have f2 : Arv Z h0 dq kd (.object "java/lang/Object") (0 : Int32) [] .null := V_d.ext XO0.2
 obtain ⟨cl3, Ar3, q3, S3, Ng3, H3, G3⟩ := id f2
 refine oo (fun tt_ kk => X1.arraylength hx (by rw [e1]; exact Ar3.1) (State.isArrayOf_alike hZ.alike Ar3.2.1) (g := (mkF m 4 #[vr la, vi jx, uu, uu] [(.ref dq)])) rfl rfl (hb hby d25_4) _ (by rw [len_of S3 Ng3]; exact kk)) ?_
 refine oi (XS.istoreN X1.here hx rfl (hb hby d25_5) rfl (l' := #[vr la, vi jx, vz, uu]) rfl) ?_
 refine oi (XS.iloadN X1.here hx rfl (hb hby d25_6) rfl) ?_
 have hb7_4 : ¬ ((0 : Int32) < (0 : Int32)) := by decide
 refine oi (XS.ifNo X1.here hx rfl (hb hby d25_7) rfl ((if0 _ _).trans (flt hb7_4).2.2.1)) ?_
 refine oi (XS.aloadN X1.here hx rfl (hb hby d25_10) rfl rfl) ?_
 obtain ⟨T5, X5, e5, st5⟩ := getF X1 hx hZ hown (host := "") (Or.inl (hW 25 _ rfl)) Via.refl e1 F_e (g := (mkF m 11 #[vr la, vi jx, vz, uu] [(.ref la)])) rfl rfl (hb hby d25_11)
 refine oo st5 ?_
 obtain ⟨T6, X6, e6, st6⟩ := getS2 X5 hx hZ hown (host := "") (Or.inl (hW 24 _ rfl)) Via.refl e5 (S_d.ext XO0.2) (g := (mkF m 14 #[vr la, vi jx, vz, uu] [(.ref dq)])) rfl (hb hby d25_14)
 refine oo st6 ?_
 refine oo (fun _ => Jvm.RoadKit.acmp (g := (mkF m 17 #[vr la, vi jx, vz, uu] [(.ref dq), (.ref dq)])) X6 hx rfl rfl rfl (pc0 := 17) (pc' := 45) (same := true) rfl (hb hby d25_17) rfl (decide_eq_true rfl) (by decide) (by decide)) ?_
 refine oi (XS.aloadN X6.here hx rfl (hb hby d25_45) rfl rfl) ?_
 refine oi (XS.bipush X6.here hx rfl (hb hby d25_46)) ?_
 refine oi (XS.iloadN X6.here hx rfl (hb hby d25_48) rfl) ?_
 refine so (A := (T6.setTop (mkF m 49 #[vr la, vi jx, vz, uu] [(.int jx), (.int 10), (.ref la)]))) ?_
 obtain ⟨_, T7, Lc7, X7, hQ7, st7⟩ := own_c1 X6 <| Jvm.LawKit.callS X6 hx (y := ym26) hown (mvT hZ (hW 183 _ rfl)) (mvT hZ (hW 184 _ rfl)) (mvT hZ (hW 128 _ rfl)) (mvT hZ (hW 185 _ rfl)) (by decide) (backOf (W := 1) (rmMax l Z a0 hw [] jx h0 n0 XO0 hj) hZ (hW 185 _ rfl) (hW 128 _ rfl) (by decide) (by decide)) (g := (mkF m 49 #[vr la, vi jx, vz, uu] [(.int jx), (.int 10), (.ref la)])) rfl (by rw [hml]; rfl) (argsL := [(.int 10), (.int jx)]) (rest := [(.ref la)]) (lenOf pd_4 rfl) rfl (Nat.le_of_eq rfl) (hb hby d25_49) (fun _ _ => ⟨rfl, e6, (by decide : 0 + 0 ≤ _), (by decide : 0 + 0 ≤ _)⟩)
 obtain ⟨rfl, Nq7, eh7⟩ := hQ7
 have N7 := Fr.app N0 Nq7
 refine oo st7 ?_
 obtain ⟨T8, h8, k8, X8, e8, E8, A8, Ea8, Ov8, st8⟩ := newRE X7 hx hZ hown (hW 186 _ rfl) (hW 125 _ rfl) eh7 (g := (mkF m 52 #[vr la, vi jx, vz, uu] [(.int 10), (.ref la)])) rfl (hb hby d25_52) rfl (by decide) (cap := 10) (by decide) (by decide) (by decide) (by decide) rfl
 obtain ⟨b8, g8⟩ : ∃ z, z = h0.size := ⟨_, rfl⟩
 rw [← g8] at A8 Ea8 st8
 refine oo st8 ?_
 have lt8 := olt A8.lt
 have sz8 : h0.size ≤ h8.size := E8.1
 have O8 : Old Z n0 h8 := XO0.ext E8
 have z8 : n0 ≤ b8 := by have := XO0.1 ▸ XO0.2.1; omega
 have K8 : Keep h0 h8 [la] := K0_.ext E8
 have V8 : Arv Z h8 b8 k8 (.object "java/lang/Object") (10 : Int32) [] .null := Arv.new A8 (by decide)
 refine oi (XS.dupX1 X8.here hx rfl (hb hby d25_55) rfl rfl rfl) ?_
 have f9 : Exa Z h8 la "java/util/ArrayList" := (E_l.ext E8)
 have f10 : Fld Z h8 la "java/util/ArrayList" "elementData" "[Ljava/lang/Object;" (.ref dq) := (F_e.ext E8)
 obtain ⟨T11, h11, X11, e11, W11, st11⟩ := putF X8 hx hZ hown (host := "") (Or.inl (hW 25 _ rfl)) Via.refl e8 f10 f9 (Or.inl (hW 26 _ rfl)) (hW 2 _ rfl) (ty := (.array (.object "java/lang/Object"))) pf_3 rfl rfl (g := (mkF m 56 #[vr la, vi jx, vz, uu] [(.ref b8), (.ref la), (.ref b8)])) rfl rfl (hb hby d25_56)
 refine oo st11 ?_
 have N11 := Fr.snoc X11 N7 (by omega : n0 ≤ la)
 have sz11 : h11.size = h8.size := W11.size
 have O11 : Old Z n0 h11 := O8.wr W11 (by omega)
 have K11 : Keep h0 h11 [la] := K8.wr W11 (Or.inl (List.mem_of_getElem? (i := 0) rfl))
 have Fw11 := f10.same W11
 refine so (A := (T11.setTop (mkF m 59 #[vr la, vi jx, vz, uu] [(.ref b8)]))) ?_
 refine own_ret X11 hx hlk hret rfl (Or.inr (Or.inr (Or.inr (Or.inr ⟨rfl, rfl, rfl⟩)))) (hb hby d25_59) (by decide) (by decide) ?_
 rw [e11]
 have f12 : Exa Z h11 la "java/util/ArrayList" := (f9.wr W11)
 have f13 : Fld Z h11 la "java/util/ArrayList" "size" "I" (.int 0) := ((F_z.ext E8).other W11 (Or.inr (slot_ne (Or.inl (hW 94 _ rfl)) (Or.inl (hW 26 _ rfl)) (by decide) pf_2 pf_3)))
 have f14 : Fld Z h11 la "java/util/AbstractList" "modCount" "I" (.int mc) := ((F_m.ext E8).other W11 (Or.inr (slot_ne (Or.inl (hW 23 _ rfl)) (Or.inl (hW 26 _ rfl)) (by decide) pf_2 pf_3)))
 have f15 : Arv Z h11 b8 k8 (.object "java/lang/Object") (10 : Int32) [] .null := (V8.other W11 (one (by omega)))
 have f16 : Exa Z h11 b8 "[Ljava/lang/Object;" := (Ea8.wr W11)
 exact ⟨b8, k8, rfl, N11, K11, by omega, by omega, f12, Fw11, f13, f14, f15, Ov8, f16⟩
theorem ef_rmGr (m : MethodId) (x0 : Nat) : entryFrame m #[(.ref x0)] 1 = mkF m 0 #[vr x0] [] := by first | (simp [entryFrame, mkF, argsToLocals, Value.category]; done) | rfl
theorem d24_0 : dk cD24 0 (.aload_n 0) 1 := by decide +kernel
theorem d24_1 : dk cD24 1 (.aload_n 0) 1 := by decide +kernel
theorem d24_2 : dk cD24 2 (.getfield 48) 3 := by decide +kernel
theorem d24_5 : dk cD24 5 (.iconst 1) 1 := by decide +kernel
theorem d24_6 : dk cD24 6 .iadd 1 := by decide +kernel
theorem d24_7 : dk cD24 7 (.invokevirtual 69) 3 := by decide +kernel
theorem pd_5 : parseMethodDescriptor "(I)[Ljava/lang/Object;" = some ⟨[.int], some (.array (.object "java/lang/Object"))⟩ := by decide +kernel
theorem d24_10 : dk cD24 10 .areturn 1 := by decide +kernel
def Q_rmGr (Z : State) (la : Nat) (dq : Nat) (kd : ClassId) (mr : Nat) (mc : Int32) (h0 : Heap) (n0 : Nat) (v : Option Value) (h : Heap) (L : List Loc) : Prop := ∃ (e2 : Nat) (k2 : ClassId), v = some (.ref e2) ∧ Fr n0 L ∧ Keep h0 h [la] ∧ h0.size ≤ e2 ∧ e2 < h.size ∧ Exa Z h la "java/util/ArrayList" ∧ Fld Z h la "java/util/ArrayList" "elementData" "[Ljava/lang/Object;" (.ref e2) ∧ Fld Z h la "java/util/ArrayList" "size" "I" (.int 0) ∧ Fld Z h la "java/util/AbstractList" "modCount" "I" (.int mc) ∧ Arv Z h e2 k2 (.object "java/lang/Object") (10 : Int32) ([]) .null ∧ Ovr Z k2 "java/lang/Object" ∧ Exa Z h e2 "[Ljava/lang/Object;"
theorem rmGr (l : Launch) (Z : State) (a0 : Array Value) (hw : own_H Z a0) (ws : List Jvm.Cond) (la : Nat) (dq : Nat) (kd : ClassId) (mr : Nat) (mc : Int32) (h0 : Heap) (n0 : Nat) (XO0 : Old Z n0 h0) (g_l : n0 ≤ la) (S_d : Sta Z Z.heap "java/util/ArrayList" "DEFAULTCAPACITY_EMPTY_ELEMENTDATA" "[Ljava/lang/Object;" (.ref dq)) (V_d : Arv Z Z.heap dq kd (.object "java/lang/Object") (0 : Int32) [] .null) (E_d : Exa Z Z.heap dq "[Ljava/lang/Object;") (M_r : own_mir Z "[Ljava/lang/Object;" mr) (l_d : dq < n0) (E_l : Exa Z h0 la "java/util/ArrayList") (F_e : Fld Z h0 la "java/util/ArrayList" "elementData" "[Ljava/lang/Object;" (.ref dq)) (F_z : Fld Z h0 la "java/util/ArrayList" "size" "I" (.int 0)) (F_m : Fld Z h0 la "java/util/AbstractList" "modCount" "I" (.int mc)) :
  own_M l Z ym24 cD24 ws 1 (some (.array (.object "java/lang/Object"))) (own_R 2 1 10 29) #[(.ref la)] h0 (Q_rmGr Z la dq kd mr mc h0 n0) := by
 refine own_open (plainFor_of_name pn_4) ?_
 intro p e s m below meth c s₁ hx hby hlk hret hml hown hnm hZ X0 e0
 have hW := own_hW hw
 have N0 := Fr.nil n0
 refine oo (fun tt_ kk_ => castTop (ef_rmGr m la) kk_) ?_
 refine so (A := (s₁.setTop (mkF m 0 #[vr la] []))) ?_
 have K0_ : Keep h0 h0 [la] := Keep.refl h0 [la]
 have lt_la := olt E_l.lt
 refine oi (XS.aloadN X0.here hx rfl (hb hby d24_0) rfl rfl) ?_
 refine oi (XS.aloadN X0.here hx rfl (hb hby d24_1) rfl rfl) ?_
 obtain ⟨T1, X1, e1, st1⟩ := getF X0 hx hZ hown (host := "") (Or.inl (hW 109 _ rfl)) Via.refl e0 F_z (g := (mkF m 2 #[vr la] [(.ref la), (.ref la)])) rfl rfl (hb hby d24_2)
 refine oo st1 ?_
 refine oi (XS.iconst X1.here hx rfl (hb hby d24_5)) ?_
 refine oi (XS.iadd X1.here hx rfl (hb hby d24_6) rfl) ?_
 refine so (A := (T1.setTop (mkF m 7 #[vr la] [(.int 1), (.ref la)]))) ?_
 obtain ⟨cq2, q2, q2'⟩ := E_l.cell
 obtain ⟨_, T2, Lc2, X2, hQ2, st2⟩ := own_c1 X1 <| X1.privateBack hx (y := ym25) hown (mvT hZ (hW 178 _ rfl)) (mvT hZ (hW 179 _ rfl)) (mvT hZ (hW 181 _ rfl)) (Cond.privateMethod_at (mvP hZ (hW 180 _ rfl) (args := #[]))) (mvT hZ (hW 182 _ rfl)) (by decide) (backOf (W := 0) (rmGrI l Z a0 hw [] la dq kd mr mc (1 : Int32) h0 n0 XO0 (by omega) S_d V_d E_d M_r l_d E_l F_e F_z F_m (by decide)) hZ (hW 182 _ rfl) (hW 3 _ rfl) (by decide) (by decide)) (g := (mkF m 7 #[vr la] [(.int 1), (.ref la)])) rfl (by rw [hml]; rfl) (Steps.refl _) (a := la) (by rw [e1]; exact q2) q2' (argsL := [(.int 1)]) (rest := []) (lenOf pd_5 rfl) rfl (Nat.le_of_eq rfl) (hb hby d24_7) (fun _ _ => ⟨rfl, e1, (by decide : 0 + 1 ≤ _), (by decide : 0 + 10 ≤ _)⟩)
 obtain ⟨e2, k2, rfl, Nq2, Kp2, ge2, le2, El2, Fe2, Fz2, Fm2, Ve2, Oe2, Ee2⟩ := hQ2
 have N2 := Fr.app N0 Nq2
 refine oo (fun tt_ kk_ => st2.trans kk_) ?_
 have sz2 : h0.size ≤ T2.heap.size := Kp2.1
 have O2 : Old Z n0 T2.heap := XO0.keep Kp2 (allS (by omega) all0)
 have K2 : Keep h0 T2.heap [la] := K0_.trans Kp2 (allS (Or.inl (List.mem_of_getElem? (i := 0) rfl)) all0)
 refine so (A := (T2.setTop (mkF m 10 #[vr la] [(.ref e2)]))) ?_
 refine own_ret X2 hx hlk hret rfl (Or.inr (Or.inr (Or.inr (Or.inr ⟨rfl, rfl, rfl⟩)))) (hb hby d24_10) (by decide) (by decide) ?_
 skip
 exact ⟨e2, k2, rfl, N2, K2, by omega, by omega, El2, Fe2, Fz2, Fm2, Ve2, Oe2, Ee2⟩
def Q_A3 (Z : State) (dq la ea : Nat) (xs : List Nat) (yy : Nat) (mc : Int32) (h0 : Heap) (n0 : Nat) (v : Option Value) (h : Heap) (L : List Loc) : Prop := ∃ (e2 : Nat) (k2 : ClassId) (z2 : Nat), v = none ∧ Fr n0 L ∧ n0 ≤ z2 ∧ ((z2 = la ∧ ea = dq ∧ h0.size ≤ e2) ∨ (z2 = ea ∧ n0 ≤ ea ∧ e2 = ea)) ∧ Keep h0 h [la, z2] ∧ own_al Z h dq n0 la e2 k2 (xs ++ [yy]) mc
def Q_Ad (Z : State) (dq la ea : Nat) (xs : List Nat) (yy : Nat) (mc : Int32) (h0 : Heap) (n0 : Nat) (v : Option Value) (h : Heap) (L : List Loc) : Prop := ∃ (e2 : Nat) (k2 : ClassId) (z2 : Nat), v = some (.int 1) ∧ Fr n0 L ∧ n0 ≤ z2 ∧ ((z2 = la ∧ ea = dq ∧ h0.size ≤ e2) ∨ (z2 = ea ∧ n0 ≤ ea ∧ e2 = ea)) ∧ Keep h0 h [la, z2] ∧ own_al Z h dq n0 la e2 k2 (xs ++ [yy]) (mc + (1 : Int32))
theorem ef_rmA3_1 (m : MethodId) (x0 : Nat) (x1 : Nat) (x2 : Nat) (x3 : Int32) : entryFrame m #[(.ref x0), (.ref x1), (.ref x2), (.int x3)] 4 = mkF m 0 #[vr x0, vr x1, vr x2, vi x3] [] := by first | (simp [entryFrame, mkF, argsToLocals, Value.category]; done) | rfl
theorem d23_0 : dk cD23 0 (.iload_n 3) 1 := by decide +kernel
theorem d23_1 : dk cD23 1 (.aload_n 2) 1 := by decide +kernel
theorem d23_2 : dk cD23 2 .arraylength 1 := by decide +kernel
theorem d23_3 : dk cD23 3 (.if_icmp .ne 8) 3 := by decide +kernel
theorem d23_6 : dk cD23 6 (.aload_n 0) 1 := by decide +kernel
theorem d23_7 : dk cD23 7 (.invokevirtual 129) 3 := by decide +kernel
theorem pd_6 : parseMethodDescriptor "()[Ljava/lang/Object;" = some ⟨[], some (.array (.object "java/lang/Object"))⟩ := by decide +kernel
theorem d23_10 : dk cD23 10 (.astore_n 2) 1 := by decide +kernel
theorem d23_11 : dk cD23 11 (.aload_n 2) 1 := by decide +kernel
theorem d23_12 : dk cD23 12 (.iload_n 3) 1 := by decide +kernel
theorem d23_13 : dk cD23 13 (.aload_n 1) 1 := by decide +kernel
theorem d23_14 : dk cD23 14 .aastore 1 := by decide +kernel
theorem d23_15 : dk cD23 15 (.aload_n 0) 1 := by decide +kernel
theorem d23_16 : dk cD23 16 (.iload_n 3) 1 := by decide +kernel
theorem d23_17 : dk cD23 17 (.iconst 1) 1 := by decide +kernel
theorem d23_18 : dk cD23 18 .iadd 1 := by decide +kernel
theorem d23_19 : dk cD23 19 (.putfield 48) 3 := by decide +kernel
theorem d23_22 : dk cD23 22 .return_ 1 := by decide +kernel
theorem rmA3_1 (l : Launch) (Z : State) (a0 : Array Value) (hw : own_H Z a0) (ws : List Jvm.Cond) (la : Nat) (dq : Nat) (kd : ClassId) (mr : Nat) (yy : Nat) (cy : String) (mc : Int32) (h0 : Heap) (n0 : Nat) (XO0 : Old Z n0 h0) (g_l : n0 ≤ la) (S_d : Sta Z Z.heap "java/util/ArrayList" "DEFAULTCAPACITY_EMPTY_ELEMENTDATA" "[Ljava/lang/Object;" (.ref dq)) (V_d : Arv Z Z.heap dq kd (.object "java/lang/Object") (0 : Int32) [] .null) (E_d : Exa Z Z.heap dq "[Ljava/lang/Object;") (M_r : own_mir Z "[Ljava/lang/Object;" mr) (l_d : dq < n0) (E_l : Exa Z h0 la "java/util/ArrayList") (F_e : Fld Z h0 la "java/util/ArrayList" "elementData" "[Ljava/lang/Object;" (.ref dq)) (F_z : Fld Z h0 la "java/util/ArrayList" "size" "I" (.int 0)) (F_m : Fld Z h0 la "java/util/AbstractList" "modCount" "I" (.int mc)) (E_y : Exa Z h0 yy cy) (w_y : (Jvm.Cond.castable cy "java/lang/Object").before a0 Z = true) :
  own_M l Z ym23 cD23 ws 4 none (own_R 3 1 10 41) #[(.ref la), (.ref yy), (.ref dq), (.int 0)] h0 (Q_A3 Z dq la dq [] yy mc h0 n0) := by
 refine own_open (plainFor_of_name pn_4) ?_
 intro p e s m below meth c s₁ hx hby hlk hret hml hown hnm hZ X0 e0
 have hW := own_hW hw
 have N0 := Fr.nil n0
 refine oo (fun tt_ kk_ => castTop (ef_rmA3_1 m la yy dq (0 : Int32)) kk_) ?_
 refine so (A := (s₁.setTop (mkF m 0 #[vr la, vr yy, vr dq, vz] []))) ?_
 have K0_ : Keep h0 h0 [la, la] := Keep.refl h0 [la, la]
 have lt_la := olt E_l.lt
 have lt_yy := olt E_y.lt
 refine oi (XS.iloadN X0.here hx rfl (hb hby d23_0) rfl) ?_
 refine oi (XS.aloadN X0.here hx rfl (hb hby d23_1) rfl rfl) ?_
 have f1 : Arv Z h0 dq kd (.object "java/lang/Object") (0 : Int32) [] .null := V_d.ext XO0.2
 obtain ⟨cl2, Ar2, q2, S2, Ng2, H2, G2⟩ := id f1
 refine oo (fun tt_ kk => X0.arraylength hx (by rw [e0]; exact Ar2.1) (State.isArrayOf_alike hZ.alike Ar2.2.1) (g := (mkF m 2 #[vr la, vr yy, vr dq, vz] [(.ref dq), (.int 0)])) rfl rfl (hb hby d23_2) _ (by rw [len_of S2 Ng2]; exact kk)) ?_
 have hb3_3 : (0 : Int32) = (0 : Int32) := by decide
 refine oi (XS.icmpNo X0.here hx rfl (hb hby d23_3) rfl (teq hb3_3).2) ?_
 refine oi (XS.aloadN X0.here hx rfl (hb hby d23_6) rfl rfl) ?_
 refine so (A := (s₁.setTop (mkF m 7 #[vr la, vr yy, vr dq, vz] [(.ref la)]))) ?_
 obtain ⟨cq4, q4, q4'⟩ := E_l.cell
 obtain ⟨_, T4, Lc4, X4, hQ4, st4⟩ := own_c1 X0 <| X0.privateBack hx (y := ym24) hown (mvT hZ (hW 173 _ rfl)) (mvT hZ (hW 174 _ rfl)) (mvT hZ (hW 176 _ rfl)) (Cond.privateMethod_at (mvP hZ (hW 175 _ rfl) (args := #[]))) (mvT hZ (hW 177 _ rfl)) (by decide) (backOf (W := 0) (rmGr l Z a0 hw [] la dq kd mr mc h0 n0 XO0 (by omega) S_d V_d E_d M_r l_d E_l F_e F_z F_m) hZ (hW 177 _ rfl) (hW 3 _ rfl) (by decide) (by decide)) (g := (mkF m 7 #[vr la, vr yy, vr dq, vz] [(.ref la)])) rfl (by rw [hml]; rfl) (Steps.refl _) (a := la) (by rw [e0]; exact q4) q4' (argsL := []) (rest := []) (lenOf pd_6 rfl) rfl (Nat.le_of_eq rfl) (hb hby d23_7) (fun _ _ => ⟨rfl, e0, (by decide : 0 + 1 ≤ _), (by decide : 0 + 10 ≤ _)⟩)
 obtain ⟨e4, k4, rfl, Nq4, Kp4, ge4, le4, El4, Fe4, Fz4, Fm4, Ve4, Oe4, Ee4⟩ := hQ4
 have N4 := Fr.app N0 Nq4
 refine oo (fun tt_ kk_ => st4.trans kk_) ?_
 have sz4 : h0.size ≤ T4.heap.size := Kp4.1
 have O4 : Old Z n0 T4.heap := XO0.keep Kp4 (allS (by omega) all0)
 have K4 : Keep h0 T4.heap [la, la] := K0_.trans Kp4 (allS (Or.inl (List.mem_of_getElem? (i := 0) rfl)) all0)
 refine oi (XS.astoreN X4.here hx rfl (hb hby d23_10) rfl rfl (l' := #[vr la, vr yy, vr e4, vz]) rfl) ?_
 refine oi (XS.aloadN X4.here hx rfl (hb hby d23_11) rfl rfl) ?_
 refine oi (XS.iloadN X4.here hx rfl (hb hby d23_12) rfl) ?_
 refine oi (XS.aloadN X4.here hx rfl (hb hby d23_13) rfl rfl) ?_
 refine so (A := (T4.setTop (mkF m 14 #[vr la, vr yy, vr e4, vz] [(.ref yy), (.int 0), (.ref e4)]))) ?_
 obtain ⟨cl5, Ar5, q5, S5, Ng5, H5, G5⟩ := id Ve4
 have hin5 : ¬ ((0 : Int32) < 0 ∨ cl5.slots.size ≤ ((0 : Int32)).toNatClampNeg) := inb_of S5 ⟨by decide, by decide⟩
 have f6 : Exa Z T4.heap yy cy := (E_y.keep Kp4)
 obtain ⟨T5, h5, X5, e5, W5, st5⟩ := stR X4 hx hZ rfl Ar5 (j := (0 : Int32)) hin5 rfl (Sto.ofV Ar5 q5 Oe4 (Ins.of_exa f6 w_y)) (g := (mkF m 14 #[vr la, vr yy, vr e4, vz] [(.ref yy), (.int 0), (.ref e4)])) rfl rfl (hb hby d23_14)
 have V5 : Arv Z h5 e4 k4 (.object "java/lang/Object") (10 : Int32) (([] ++ [yy]).map Value.ref) .null := own_push (xs := []) Ar5 q5 S5 Ng5 H5 G5 rfl W5 rfl
 refine oo st5 ?_
 have N5 := Fr.snoc X5 N4 (by omega : n0 ≤ e4)
 have sz5 : h5.size = T4.heap.size := W5.size
 have O5 : Old Z n0 h5 := O4.wr W5 (by omega)
 have K5 : Keep h0 h5 [la, la] := K4.wr W5 (Or.inr (by omega))
 refine oi (XS.aloadN X5.here hx rfl (hb hby d23_15) rfl rfl) ?_
 refine oi (XS.iloadN X5.here hx rfl (hb hby d23_16) rfl) ?_
 refine oi (XS.iconst X5.here hx rfl (hb hby d23_17)) ?_
 refine oi (XS.iadd X5.here hx rfl (hb hby d23_18) rfl) ?_
 have f7 : Exa Z h5 la "java/util/ArrayList" := (El4.wr W5)
 have f8 : Fld Z h5 la "java/util/ArrayList" "size" "I" (.int 0) := (Fz4.other W5 (Or.inl (one (by omega))))
 obtain ⟨T9, h9, X9, e9, W9, st9⟩ := putF X5 hx hZ hown (host := "") (Or.inl (hW 109 _ rfl)) Via.refl e5 f8 f7 (Or.inl (hW 94 _ rfl)) (hW 2 _ rfl) (ty := .int) pf_2 rfl rfl (g := (mkF m 19 #[vr la, vr yy, vr e4, vz] [(.int 1), (.ref la)])) rfl rfl (hb hby d23_19)
 refine oo st9 ?_
 have N9 := Fr.snoc X9 N5 (by omega : n0 ≤ la)
 have sz9 : h9.size = h5.size := W9.size
 have O9 : Old Z n0 h9 := O5.wr W9 (by omega)
 have K9 : Keep h0 h9 [la, la] := K5.wr W9 (Or.inl (List.mem_of_getElem? (i := 0) rfl))
 have Fw9 := f8.same W9
 refine so (A := (T9.setTop (mkF m 22 #[vr la, vr yy, vr e4, vz] []))) ?_
 refine own_retV X9 hx hlk hret (hb hby d23_22) (by decide) (by decide) ?_
 rw [e9]
 have f10 : Exa Z h9 la "java/util/ArrayList" := (f7.wr W9)
 have f11 : Fld Z h9 la "java/util/ArrayList" "elementData" "[Ljava/lang/Object;" (.ref e4) := ((Fe4.other W5 (Or.inl (one (by omega)))).other W9 (Or.inr (slot_ne (Or.inl (hW 26 _ rfl)) (Or.inl (hW 94 _ rfl)) (by decide) pf_3 pf_2)))
 have f12 : Fld Z h9 la "java/util/AbstractList" "modCount" "I" (.int mc) := ((Fm4.other W5 (Or.inl (one (by omega)))).other W9 (Or.inr (slot_ne (Or.inl (hW 23 _ rfl)) (Or.inl (hW 94 _ rfl)) (by decide) pf_2 pf_2)))
 have f13 : Exa Z h9 e4 "[Ljava/lang/Object;" := ((Ee4.wr W5).wr W9)
 have f14 : Arv Z h9 e4 k4 (.object "java/lang/Object") (10 : Int32) (([] ++ [yy]).map Value.ref) .null := (V5.other W9 (one (by omega)))
 exact ⟨e4, k4, la, rfl, N9, by omega, Or.inl ⟨rfl, rfl, by omega⟩, K9, ⟨f10, f11, Fw9, f12, f13, Or.inr ⟨by omega, by omega, Oe4, f14⟩⟩⟩
theorem ef_rmA3_2 (m : MethodId) (x0 : Nat) (x1 : Nat) (x2 : Nat) (x3 : Int32) : entryFrame m #[(.ref x0), (.ref x1), (.ref x2), (.int x3)] 4 = mkF m 0 #[vr x0, vr x1, vr x2, vi x3] [] := by first | (simp [entryFrame, mkF, argsToLocals, Value.category]; done) | rfl
theorem rmA3_2 (l : Launch) (Z : State) (a0 : Array Value) (hw : own_H Z a0) (ws : List Jvm.Cond) (la : Nat) (dq : Nat) (kd : ClassId) (mr : Nat) (ea : Nat) (ke : ClassId) (xs : List Nat) (yy : Nat) (cy : String) (mc : Int32) (h0 : Heap) (n0 : Nat) (XO0 : Old Z n0 h0) (g_l : n0 ≤ la) (S_d : Sta Z Z.heap "java/util/ArrayList" "DEFAULTCAPACITY_EMPTY_ELEMENTDATA" "[Ljava/lang/Object;" (.ref dq)) (V_d : Arv Z Z.heap dq kd (.object "java/lang/Object") (0 : Int32) [] .null) (E_d : Exa Z Z.heap dq "[Ljava/lang/Object;") (M_r : own_mir Z "[Ljava/lang/Object;" mr) (l_d : dq < n0) (E_l : Exa Z h0 la "java/util/ArrayList") (F_e : Fld Z h0 la "java/util/ArrayList" "elementData" "[Ljava/lang/Object;" (.ref ea)) (F_z : Fld Z h0 la "java/util/ArrayList" "size" "I" (.int (Int32.ofNat xs.length))) (F_m : Fld Z h0 la "java/util/AbstractList" "modCount" "I" (.int mc)) (g_e : n0 ≤ ea) (n_le : la ≠ ea) (O_e : Ovr Z ke "java/lang/Object") (V_e : Arv Z h0 ea ke (.object "java/lang/Object") (10 : Int32) (xs.map Value.ref) .null) (E_e : Exa Z h0 ea "[Ljava/lang/Object;") (hl : xs.length < 10) (E_y : Exa Z h0 yy cy) (w_y : (Jvm.Cond.castable cy "java/lang/Object").before a0 Z = true) :
  own_M l Z ym23 cD23 ws 4 none (own_R 0 0 0 0) #[(.ref la), (.ref yy), (.ref ea), (.int (Int32.ofNat xs.length))] h0 (Q_A3 Z dq la ea xs yy mc h0 n0) := by
 refine own_open (plainFor_of_name pn_4) ?_
 intro p e s m below meth c s₁ hx hby hlk hret hml hown hnm hZ X0 e0
 have hW := own_hW hw
 have N0 := Fr.nil n0
 refine oo (fun tt_ kk_ => castTop (ef_rmA3_2 m la yy ea (Int32.ofNat xs.length)) kk_) ?_
 refine so (A := (s₁.setTop (mkF m 0 #[vr la, vr yy, vr ea, vi (Int32.ofNat xs.length)] []))) ?_
 have K0_ : Keep h0 h0 [la, ea] := Keep.refl h0 [la, ea]
 have lt_la := olt E_l.lt
 have lt_yy := olt E_y.lt
 have lt_ea := olt V_e.lt
 refine oi (XS.iloadN X0.here hx rfl (hb hby d23_0) rfl) ?_
 refine oi (XS.aloadN X0.here hx rfl (hb hby d23_1) rfl rfl) ?_
 obtain ⟨cl1, Ar1, q1, S1, Ng1, H1, G1⟩ := id V_e
 refine oo (fun tt_ kk => X0.arraylength hx (by rw [e0]; exact Ar1.1) (State.isArrayOf_alike hZ.alike Ar1.2.1) (g := (mkF m 2 #[vr la, vr yy, vr ea, vi (Int32.ofNat xs.length)] [(.ref ea), (.int (Int32.ofNat xs.length))])) rfl rfl (hb hby d23_2) _ (by rw [len_of S1 Ng1]; exact kk)) ?_
 have hb3_2 : ¬ ((Int32.ofNat xs.length) = (10 : Int32)) := fun q => Nat.ne_of_lt hl ((own_neq (by omega) (b := 10) (by omega)).mp q)
 refine oi (XS.icmpYes X0.here hx rfl (pc0 := 3) (pc' := 11) rfl (hb hby d23_3) rfl (feq hb3_2).2 (by decide) (by decide)) ?_
 refine so (A := (s₁.setTop (mkF m 11 #[vr la, vr yy, vr ea, vi (Int32.ofNat xs.length)] []))) ?_
 refine oi (XS.aloadN X0.here hx rfl (hb hby d23_11) rfl rfl) ?_
 refine oi (XS.iloadN X0.here hx rfl (hb hby d23_12) rfl) ?_
 refine oi (XS.aloadN X0.here hx rfl (hb hby d23_13) rfl rfl) ?_
 refine so (A := (s₁.setTop (mkF m 14 #[vr la, vr yy, vr ea, vi (Int32.ofNat xs.length)] [(.ref yy), (.int (Int32.ofNat xs.length)), (.ref ea)]))) ?_
 obtain ⟨cl3, Ar3, q3, S3, Ng3, H3, G3⟩ := id V_e
 have hin3 : ¬ ((Int32.ofNat xs.length) < 0 ∨ cl3.slots.size ≤ ((Int32.ofNat xs.length)).toNatClampNeg) := inb_of S3 (own_inn (m := 10) hl (by omega))
 obtain ⟨T3, h3, X3, e3, W3, st3⟩ := stR X0 hx hZ e0 Ar3 (j := (Int32.ofNat xs.length)) hin3 rfl (Sto.ofV Ar3 q3 O_e (Ins.of_exa E_y w_y)) (g := (mkF m 14 #[vr la, vr yy, vr ea, vi (Int32.ofNat xs.length)] [(.ref yy), (.int (Int32.ofNat xs.length)), (.ref ea)])) rfl rfl (hb hby d23_14)
 have V3 : Arv Z h3 ea ke (.object "java/lang/Object") (10 : Int32) ((xs ++ [yy]).map Value.ref) .null := own_push (xs := xs) Ar3 q3 S3 Ng3 H3 G3 rfl W3 (own_ncl (by omega))
 refine oo st3 ?_
 have N3 := Fr.snoc X3 N0 (by omega : n0 ≤ ea)
 have sz3 : h3.size = h0.size := W3.size
 have O3 : Old Z n0 h3 := XO0.wr W3 (by omega)
 have K3 : Keep h0 h3 [la, ea] := K0_.wr W3 (Or.inl (List.mem_of_getElem? (i := 1) rfl))
 refine oi (XS.aloadN X3.here hx rfl (hb hby d23_15) rfl rfl) ?_
 refine oi (XS.iloadN X3.here hx rfl (hb hby d23_16) rfl) ?_
 refine oi (XS.iconst X3.here hx rfl (hb hby d23_17)) ?_
 refine oi (XS.iadd X3.here hx rfl (hb hby d23_18) rfl) ?_
 have f4 : Exa Z h3 la "java/util/ArrayList" := (E_l.wr W3)
 have f5 : Fld Z h3 la "java/util/ArrayList" "size" "I" (.int (Int32.ofNat xs.length)) := (F_z.other W3 (Or.inl (one (by omega))))
 obtain ⟨T6, h6, X6, e6, W6, st6⟩ := putF X3 hx hZ hown (host := "") (Or.inl (hW 109 _ rfl)) Via.refl e3 f5 f4 (Or.inl (hW 94 _ rfl)) (hW 2 _ rfl) (ty := .int) pf_2 rfl rfl (g := (mkF m 19 #[vr la, vr yy, vr ea, vi (Int32.ofNat xs.length)] [(.int ((Int32.ofNat xs.length) + (1 : Int32))), (.ref la)])) rfl rfl (hb hby d23_19)
 refine oo st6 ?_
 have N6 := Fr.snoc X6 N3 (by omega : n0 ≤ la)
 have sz6 : h6.size = h3.size := W6.size
 have O6 : Old Z n0 h6 := O3.wr W6 (by omega)
 have K6 : Keep h0 h6 [la, ea] := K3.wr W6 (Or.inl (List.mem_of_getElem? (i := 0) rfl))
 have Fw6 := f5.same W6
 refine so (A := (T6.setTop (mkF m 22 #[vr la, vr yy, vr ea, vi (Int32.ofNat xs.length)] []))) ?_
 refine own_retV X6 hx hlk hret (hb hby d23_22) (by decide) (by decide) ?_
 rw [e6]
 have f7 : Exa Z h6 la "java/util/ArrayList" := (f4.wr W6)
 have f8 : Fld Z h6 la "java/util/ArrayList" "elementData" "[Ljava/lang/Object;" (.ref ea) := ((F_e.other W3 (Or.inl (one (by omega)))).other W6 (Or.inr (slot_ne (Or.inl (hW 26 _ rfl)) (Or.inl (hW 94 _ rfl)) (by decide) pf_3 pf_2)))
 have f9 : Fld Z h6 la "java/util/AbstractList" "modCount" "I" (.int mc) := ((F_m.other W3 (Or.inl (one (by omega)))).other W6 (Or.inr (slot_ne (Or.inl (hW 23 _ rfl)) (Or.inl (hW 94 _ rfl)) (by decide) pf_2 pf_2)))
 have f10 : Exa Z h6 ea "[Ljava/lang/Object;" := ((E_e.wr W3).wr W6)
 have f11 : Arv Z h6 ea ke (.object "java/lang/Object") (10 : Int32) ((xs ++ [yy]).map Value.ref) .null := (V3.other W6 (one (by omega)))
 exact ⟨ea, ke, ea, rfl, N6, by omega, Or.inr ⟨rfl, by omega, rfl⟩, K6, ⟨f7, f8, (by rw [← own_sz1]; exact Fw6), f9, f10, Or.inr ⟨by omega, by omega, O_e, f11⟩⟩⟩
theorem ef_rmAd_1 (m : MethodId) (x0 : Nat) (x1 : Nat) : entryFrame m #[(.ref x0), (.ref x1)] 2 = mkF m 0 #[vr x0, vr x1] [] := by first | (simp [entryFrame, mkF, argsToLocals, Value.category]; done) | rfl
theorem d22_0 : dk cD22 0 (.aload_n 0) 1 := by decide +kernel
theorem d22_1 : dk cD22 1 .dup 1 := by decide +kernel
theorem d22_2 : dk cD22 2 (.getfield 63) 3 := by decide +kernel
theorem d22_5 : dk cD22 5 (.iconst 1) 1 := by decide +kernel
theorem d22_6 : dk cD22 6 .iadd 1 := by decide +kernel
theorem d22_7 : dk cD22 7 (.putfield 63) 3 := by decide +kernel
theorem d22_10 : dk cD22 10 (.aload_n 0) 1 := by decide +kernel
theorem d22_11 : dk cD22 11 (.aload_n 1) 1 := by decide +kernel
theorem d22_12 : dk cD22 12 (.aload_n 0) 1 := by decide +kernel
theorem d22_13 : dk cD22 13 (.getfield 9) 3 := by decide +kernel
theorem d22_16 : dk cD22 16 (.aload_n 0) 1 := by decide +kernel
theorem d22_17 : dk cD22 17 (.getfield 48) 3 := by decide +kernel
theorem d22_20 : dk cD22 20 (.invokevirtual 131) 3 := by decide +kernel
theorem pd_7 : parseMethodDescriptor "(Ljava/lang/Object;[Ljava/lang/Object;I)V" = some ⟨[(.object "java/lang/Object"), (.array (.object "java/lang/Object")), .int], none⟩ := by decide +kernel
theorem d22_23 : dk cD22 23 (.iconst 1) 1 := by decide +kernel
theorem d22_24 : dk cD22 24 .ireturn 1 := by decide +kernel
theorem rmAd_1 (l : Launch) (Z : State) (a0 : Array Value) (hw : own_H Z a0) (ws : List Jvm.Cond) (la : Nat) (dq : Nat) (kd : ClassId) (mr : Nat) (yy : Nat) (cy : String) (mc : Int32) (h0 : Heap) (n0 : Nat) (XO0 : Old Z n0 h0) (g_l : n0 ≤ la) (S_d : Sta Z Z.heap "java/util/ArrayList" "DEFAULTCAPACITY_EMPTY_ELEMENTDATA" "[Ljava/lang/Object;" (.ref dq)) (V_d : Arv Z Z.heap dq kd (.object "java/lang/Object") (0 : Int32) [] .null) (E_d : Exa Z Z.heap dq "[Ljava/lang/Object;") (M_r : own_mir Z "[Ljava/lang/Object;" mr) (l_d : dq < n0) (E_l : Exa Z h0 la "java/util/ArrayList") (F_e : Fld Z h0 la "java/util/ArrayList" "elementData" "[Ljava/lang/Object;" (.ref dq)) (F_z : Fld Z h0 la "java/util/ArrayList" "size" "I" (.int 0)) (F_m : Fld Z h0 la "java/util/AbstractList" "modCount" "I" (.int mc)) (E_y : Exa Z h0 yy cy) (w_y : (Jvm.Cond.castable cy "java/lang/Object").before a0 Z = true) :
  own_M l Z ym22 cD22 ws 2 (some .boolean) (own_R 4 1 10 56) #[(.ref la), (.ref yy)] h0 (Q_Ad Z dq la dq [] yy mc h0 n0) := by
 refine own_open (plainFor_of_name pn_4) ?_
 intro p e s m below meth c s₁ hx hby hlk hret hml hown hnm hZ X0 e0
 have hW := own_hW hw
 have N0 := Fr.nil n0
 refine oo (fun tt_ kk_ => castTop (ef_rmAd_1 m la yy) kk_) ?_
 refine so (A := (s₁.setTop (mkF m 0 #[vr la, vr yy] []))) ?_
 have K0_ : Keep h0 h0 [la, la] := Keep.refl h0 [la, la]
 have lt_la := olt E_l.lt
 have lt_yy := olt E_y.lt
 refine oi (XS.aloadN X0.here hx rfl (hb hby d22_0) rfl rfl) ?_
 refine oi (XS.dup X0.here hx rfl (hb hby d22_1) rfl rfl) ?_
 obtain ⟨T1, X1, e1, st1⟩ := getF X0 hx hZ hown (host := "") (Or.inl (hW 134 _ rfl)) (Via.of (hW 79 _ rfl)) e0 F_m (g := (mkF m 2 #[vr la, vr yy] [(.ref la), (.ref la)])) rfl rfl (hb hby d22_2)
 refine oo st1 ?_
 refine oi (XS.iconst X1.here hx rfl (hb hby d22_5)) ?_
 refine oi (XS.iadd X1.here hx rfl (hb hby d22_6) rfl) ?_
 obtain ⟨T2, h2, X2, e2, W2, st2⟩ := putF X1 hx hZ hown (host := "") (Or.inl (hW 134 _ rfl)) (Via.of (hW 79 _ rfl)) e1 F_m E_l (Or.inl (hW 23 _ rfl)) (hW 2 _ rfl) (ty := .int) pf_2 rfl rfl (g := (mkF m 7 #[vr la, vr yy] [(.int (mc + (1 : Int32))), (.ref la)])) rfl rfl (hb hby d22_7)
 refine oo st2 ?_
 have N2 := Fr.snoc X2 N0 (by omega : n0 ≤ la)
 have sz2 : h2.size = h0.size := W2.size
 have O2 : Old Z n0 h2 := XO0.wr W2 (by omega)
 have Fw2 := F_m.same W2
 refine so (A := (T2.setTop (mkF m 10 #[vr la, vr yy] []))) ?_
 have Kw2 : Keep h0 h2 [la] := Keep.of_wr W2
 refine oi (XS.aloadN X2.here hx rfl (hb hby d22_10) rfl rfl) ?_
 refine oi (XS.aloadN X2.here hx rfl (hb hby d22_11) rfl rfl) ?_
 refine oi (XS.aloadN X2.here hx rfl (hb hby d22_12) rfl rfl) ?_
 have f3 : Fld Z h2 la "java/util/ArrayList" "elementData" "[Ljava/lang/Object;" (.ref dq) := (F_e.other W2 (Or.inr (slot_ne (Or.inl (hW 26 _ rfl)) (Or.inl (hW 23 _ rfl)) (by decide) pf_3 pf_2)))
 obtain ⟨T4, X4, e4, st4⟩ := getF X2 hx hZ hown (host := "") (Or.inl (hW 25 _ rfl)) Via.refl e2 f3 (g := (mkF m 13 #[vr la, vr yy] [(.ref la), (.ref yy), (.ref la)])) rfl rfl (hb hby d22_13)
 refine oo st4 ?_
 refine oi (XS.aloadN X4.here hx rfl (hb hby d22_16) rfl rfl) ?_
 have f5 : Fld Z h2 la "java/util/ArrayList" "size" "I" (.int 0) := (F_z.other W2 (Or.inr (slot_ne (Or.inl (hW 94 _ rfl)) (Or.inl (hW 23 _ rfl)) (by decide) pf_2 pf_2)))
 obtain ⟨T6, X6, e6, st6⟩ := getF X4 hx hZ hown (host := "") (Or.inl (hW 109 _ rfl)) Via.refl e4 f5 (g := (mkF m 17 #[vr la, vr yy] [(.ref la), (.ref dq), (.ref yy), (.ref la)])) rfl rfl (hb hby d22_17)
 refine oo st6 ?_
 refine so (A := (T6.setTop (mkF m 20 #[vr la, vr yy] [(.int 0), (.ref dq), (.ref yy), (.ref la)]))) ?_
 have f7 : Exa Z h2 la "java/util/ArrayList" := (E_l.wr W2)
 have f8 : Exa Z h2 yy cy := (E_y.wr W2)
 obtain ⟨cq9, q9, q9'⟩ := f7.cell
 obtain ⟨_, T9, Lc9, X9, hQ9, st9⟩ := own_c1 X6 <| X6.privateBack hx (y := ym23) hown (mvT hZ (hW 168 _ rfl)) (mvT hZ (hW 169 _ rfl)) (mvT hZ (hW 171 _ rfl)) (Cond.privateMethod_at (mvP hZ (hW 170 _ rfl) (args := #[]))) (mvT hZ (hW 172 _ rfl)) (by decide) (backOf (W := 0) (rmA3_1 l Z a0 hw [] la dq kd mr  yy cy (mc + (1 : Int32)) h2 n0 O2 g_l S_d V_d E_d M_r l_d f7 f3 f5 Fw2  f8 w_y) hZ (hW 172 _ rfl) (hW 3 _ rfl) (by decide) (by decide)) (g := (mkF m 20 #[vr la, vr yy] [(.int 0), (.ref dq), (.ref yy), (.ref la)])) rfl (by rw [hml]; rfl) (Steps.refl _) (a := la) (by rw [e6]; exact q9) q9' (argsL := [(.ref yy), (.ref dq), (.int 0)]) (rest := []) (lenOf pd_7 rfl) rfl (Nat.le_of_eq rfl) (hb hby d22_20) (fun _ _ => ⟨rfl, e6, (by decide : 0 + 1 ≤ _), (by decide : 0 + 10 ≤ _)⟩)
 obtain ⟨e9, k9, z9, rfl, Nq9, gz9, hz9, Kp9, AL9⟩ := hQ9
 have N9 := Fr.app N2 Nq9
 refine oo (fun tt_ kk_ => st9.trans kk_) ?_
 have sz9 : h2.size ≤ T9.heap.size := Kp9.1
 have O9 : Old Z n0 T9.heap := O2.keep Kp9 (allS (by omega) (allS (by omega) all0))
 refine oi (XS.iconst X9.here hx rfl (hb hby d22_23)) ?_
 refine so (A := (T9.setTop (mkF m 24 #[vr la, vr yy] [(.int 1)]))) ?_
 refine own_ret X9 hx hlk hret rfl (Or.inl ⟨rfl, by simp, _, rfl⟩) (hb hby d22_24) (by decide) (by decide) ?_
 skip
 have Kf : Keep h0 T9.heap [la, z9] := (own_wk Kw2 (fun x hx_ => by simp only [List.mem_cons, List.not_mem_nil, or_false] at hx_ ⊢; exact Or.inl hx_)).trans Kp9 (fun x hx_ => Or.inl hx_)
 exact ⟨e9, k9, z9, rfl, N9, gz9, by omega, Kf, AL9⟩
theorem ef_rmAd_2 (m : MethodId) (x0 : Nat) (x1 : Nat) : entryFrame m #[(.ref x0), (.ref x1)] 2 = mkF m 0 #[vr x0, vr x1] [] := by first | (simp [entryFrame, mkF, argsToLocals, Value.category]; done) | rfl
theorem rmAd_2 (l : Launch) (Z : State) (a0 : Array Value) (hw : own_H Z a0) (ws : List Jvm.Cond) (la : Nat) (dq : Nat) (kd : ClassId) (mr : Nat) (ea : Nat) (ke : ClassId) (xs : List Nat) (yy : Nat) (cy : String) (mc : Int32) (h0 : Heap) (n0 : Nat) (XO0 : Old Z n0 h0) (g_l : n0 ≤ la) (S_d : Sta Z Z.heap "java/util/ArrayList" "DEFAULTCAPACITY_EMPTY_ELEMENTDATA" "[Ljava/lang/Object;" (.ref dq)) (V_d : Arv Z Z.heap dq kd (.object "java/lang/Object") (0 : Int32) [] .null) (E_d : Exa Z Z.heap dq "[Ljava/lang/Object;") (M_r : own_mir Z "[Ljava/lang/Object;" mr) (l_d : dq < n0) (E_l : Exa Z h0 la "java/util/ArrayList") (F_e : Fld Z h0 la "java/util/ArrayList" "elementData" "[Ljava/lang/Object;" (.ref ea)) (F_z : Fld Z h0 la "java/util/ArrayList" "size" "I" (.int (Int32.ofNat xs.length))) (F_m : Fld Z h0 la "java/util/AbstractList" "modCount" "I" (.int mc)) (g_e : n0 ≤ ea) (n_le : la ≠ ea) (O_e : Ovr Z ke "java/lang/Object") (V_e : Arv Z h0 ea ke (.object "java/lang/Object") (10 : Int32) (xs.map Value.ref) .null) (E_e : Exa Z h0 ea "[Ljava/lang/Object;") (hl : xs.length < 10) (E_y : Exa Z h0 yy cy) (w_y : (Jvm.Cond.castable cy "java/lang/Object").before a0 Z = true) :
  own_M l Z ym22 cD22 ws 2 (some .boolean) (own_R 4 1 10 56) #[(.ref la), (.ref yy)] h0 (Q_Ad Z dq la ea xs yy mc h0 n0) := by
 refine own_open (plainFor_of_name pn_4) ?_
 intro p e s m below meth c s₁ hx hby hlk hret hml hown hnm hZ X0 e0
 have hW := own_hW hw
 have N0 := Fr.nil n0
 refine oo (fun tt_ kk_ => castTop (ef_rmAd_2 m la yy) kk_) ?_
 refine so (A := (s₁.setTop (mkF m 0 #[vr la, vr yy] []))) ?_
 have K0_ : Keep h0 h0 [la, ea] := Keep.refl h0 [la, ea]
 have lt_la := olt E_l.lt
 have lt_yy := olt E_y.lt
 have lt_ea := olt V_e.lt
 refine oi (XS.aloadN X0.here hx rfl (hb hby d22_0) rfl rfl) ?_
 refine oi (XS.dup X0.here hx rfl (hb hby d22_1) rfl rfl) ?_
 obtain ⟨T1, X1, e1, st1⟩ := getF X0 hx hZ hown (host := "") (Or.inl (hW 134 _ rfl)) (Via.of (hW 79 _ rfl)) e0 F_m (g := (mkF m 2 #[vr la, vr yy] [(.ref la), (.ref la)])) rfl rfl (hb hby d22_2)
 refine oo st1 ?_
 refine oi (XS.iconst X1.here hx rfl (hb hby d22_5)) ?_
 refine oi (XS.iadd X1.here hx rfl (hb hby d22_6) rfl) ?_
 obtain ⟨T2, h2, X2, e2, W2, st2⟩ := putF X1 hx hZ hown (host := "") (Or.inl (hW 134 _ rfl)) (Via.of (hW 79 _ rfl)) e1 F_m E_l (Or.inl (hW 23 _ rfl)) (hW 2 _ rfl) (ty := .int) pf_2 rfl rfl (g := (mkF m 7 #[vr la, vr yy] [(.int (mc + (1 : Int32))), (.ref la)])) rfl rfl (hb hby d22_7)
 refine oo st2 ?_
 have N2 := Fr.snoc X2 N0 (by omega : n0 ≤ la)
 have sz2 : h2.size = h0.size := W2.size
 have O2 : Old Z n0 h2 := XO0.wr W2 (by omega)
 have Fw2 := F_m.same W2
 refine so (A := (T2.setTop (mkF m 10 #[vr la, vr yy] []))) ?_
 have Kw2 : Keep h0 h2 [la] := Keep.of_wr W2
 refine oi (XS.aloadN X2.here hx rfl (hb hby d22_10) rfl rfl) ?_
 refine oi (XS.aloadN X2.here hx rfl (hb hby d22_11) rfl rfl) ?_
 refine oi (XS.aloadN X2.here hx rfl (hb hby d22_12) rfl rfl) ?_
 have f3 : Fld Z h2 la "java/util/ArrayList" "elementData" "[Ljava/lang/Object;" (.ref ea) := (F_e.other W2 (Or.inr (slot_ne (Or.inl (hW 26 _ rfl)) (Or.inl (hW 23 _ rfl)) (by decide) pf_3 pf_2)))
 obtain ⟨T4, X4, e4, st4⟩ := getF X2 hx hZ hown (host := "") (Or.inl (hW 25 _ rfl)) Via.refl e2 f3 (g := (mkF m 13 #[vr la, vr yy] [(.ref la), (.ref yy), (.ref la)])) rfl rfl (hb hby d22_13)
 refine oo st4 ?_
 refine oi (XS.aloadN X4.here hx rfl (hb hby d22_16) rfl rfl) ?_
 have f5 : Fld Z h2 la "java/util/ArrayList" "size" "I" (.int (Int32.ofNat xs.length)) := (F_z.other W2 (Or.inr (slot_ne (Or.inl (hW 94 _ rfl)) (Or.inl (hW 23 _ rfl)) (by decide) pf_2 pf_2)))
 obtain ⟨T6, X6, e6, st6⟩ := getF X4 hx hZ hown (host := "") (Or.inl (hW 109 _ rfl)) Via.refl e4 f5 (g := (mkF m 17 #[vr la, vr yy] [(.ref la), (.ref ea), (.ref yy), (.ref la)])) rfl rfl (hb hby d22_17)
 refine oo st6 ?_
 refine so (A := (T6.setTop (mkF m 20 #[vr la, vr yy] [(.int (Int32.ofNat xs.length)), (.ref ea), (.ref yy), (.ref la)]))) ?_
 have f7 : Exa Z h2 la "java/util/ArrayList" := (E_l.wr W2)
 have f8 : Arv Z h2 ea ke (.object "java/lang/Object") (10 : Int32) (xs.map Value.ref) .null := (V_e.other W2 (one (by omega)))
 have f9 : Exa Z h2 ea "[Ljava/lang/Object;" := (E_e.wr W2)
 have f10 : Exa Z h2 yy cy := (E_y.wr W2)
 obtain ⟨cq11, q11, q11'⟩ := f7.cell
 obtain ⟨_, T11, Lc11, X11, hQ11, st11⟩ := own_c1 X6 <| X6.privateBack hx (y := ym23) hown (mvT hZ (hW 168 _ rfl)) (mvT hZ (hW 169 _ rfl)) (mvT hZ (hW 171 _ rfl)) (Cond.privateMethod_at (mvP hZ (hW 170 _ rfl) (args := #[]))) (mvT hZ (hW 172 _ rfl)) (by decide) (backOf (W := 0) (rmA3_2 l Z a0 hw [] la dq kd mr ea ke xs yy cy (mc + (1 : Int32)) h2 n0 O2 g_l S_d V_d E_d M_r l_d f7 f3 f5 Fw2 g_e n_le O_e f8 f9 hl f10 w_y) hZ (hW 172 _ rfl) (hW 3 _ rfl) (by decide) (by decide)) (g := (mkF m 20 #[vr la, vr yy] [(.int (Int32.ofNat xs.length)), (.ref ea), (.ref yy), (.ref la)])) rfl (by rw [hml]; rfl) (Steps.refl _) (a := la) (by rw [e6]; exact q11) q11' (argsL := [(.ref yy), (.ref ea), (.int (Int32.ofNat xs.length))]) (rest := []) (lenOf pd_7 rfl) rfl (Nat.le_of_eq rfl) (hb hby d22_20) (fun _ _ => ⟨rfl, e6, (by decide : 0 + 0 ≤ _), (by decide : 0 + 0 ≤ _)⟩)
 obtain ⟨e11, k11, z11, rfl, Nq11, gz11, hz11, Kp11, AL11⟩ := hQ11
 have N11 := Fr.app N2 Nq11
 refine oo (fun tt_ kk_ => st11.trans kk_) ?_
 have sz11 : h2.size ≤ T11.heap.size := Kp11.1
 have O11 : Old Z n0 T11.heap := O2.keep Kp11 (allS (by omega) (allS (by omega) all0))
 refine oi (XS.iconst X11.here hx rfl (hb hby d22_23)) ?_
 refine so (A := (T11.setTop (mkF m 24 #[vr la, vr yy] [(.int 1)]))) ?_
 refine own_ret X11 hx hlk hret rfl (Or.inl ⟨rfl, by simp, _, rfl⟩) (hb hby d22_24) (by decide) (by decide) ?_
 skip
 have Kf : Keep h0 T11.heap [la, z11] := (own_wk Kw2 (fun x hx_ => by simp only [List.mem_cons, List.not_mem_nil, or_false] at hx_ ⊢; exact Or.inl hx_)).trans Kp11 (fun x hx_ => Or.inl hx_)
 exact ⟨e11, k11, z11, rfl, N11, gz11, by omega, Kf, AL11⟩
theorem rmAd (l : Launch) (Z : State) (a0 : Array Value) (hw : own_H Z a0) (ws : List Jvm.Cond) (la : Nat) (dq : Nat) (kd : ClassId) (mr : Nat) (ea : Nat) (ke : ClassId) (xs : List Nat) (yy : Nat) (cy : String) (mc : Int32) (h0 : Heap) (n0 : Nat) (XO0 : Old Z n0 h0) (g_l : n0 ≤ la) (S_d : Sta Z Z.heap "java/util/ArrayList" "DEFAULTCAPACITY_EMPTY_ELEMENTDATA" "[Ljava/lang/Object;" (.ref dq)) (V_d : Arv Z Z.heap dq kd (.object "java/lang/Object") (0 : Int32) [] .null) (E_d : Exa Z Z.heap dq "[Ljava/lang/Object;") (M_r : own_mir Z "[Ljava/lang/Object;" mr) (l_d : dq < n0) (AL : own_al Z h0 dq n0 la ea ke xs mc) (hl : xs.length < 10) (E_y : Exa Z h0 yy cy) (w_y : (Jvm.Cond.castable cy "java/lang/Object").before a0 Z = true) :
  own_M l Z ym22 cD22 ws 2 (some .boolean) (own_R 4 1 10 56) #[(.ref la), (.ref yy)] h0 (Q_Ad Z dq la ea xs yy mc h0 n0) := by
 obtain ⟨E_l, F_e, F_z, F_m, E_e, AL⟩ := AL
 rcases AL with ⟨e1, e2, V_e⟩ | ⟨g_e, n_le, O_e, V_e⟩
 ·subst e1
  have e3 := e2.symm
  subst e3
  exact rmAd_1 l Z a0 hw ws la dq kd mr yy cy mc h0 n0 XO0 g_l S_d V_d E_d M_r l_d E_l F_e F_z F_m E_y w_y
 ·exact rmAd_2 l Z a0 hw ws la dq kd mr ea ke xs yy cy mc h0 n0 XO0 g_l S_d V_d E_d M_r l_d E_l F_e F_z F_m g_e n_le O_e V_e E_e hl E_y w_y
theorem ef_rmII (m : MethodId) (x0 : Nat) (x1 : Nat) : entryFrame m #[(.ref x0), (.ref x1)] 2 = mkF m 0 #[vr x0, vr x1] [] := by first | (simp [entryFrame, mkF, argsToLocals, Value.category]; done) | rfl
theorem pn_5 : plainName "java/util/ArrayList$Itr" = true := by first | (simp [plainName, overriddenIn]; done) | decide +kernel
theorem d11_0 : dk cD11 0 (.aload_n 0) 1 := by decide +kernel
theorem d11_1 : dk cD11 1 (.aload_n 1) 1 := by decide +kernel
theorem d11_2 : dk cD11 2 (.putfield 1) 3 := by decide +kernel
theorem pf_4 : parseFieldDescriptor "Ljava/util/ArrayList;" = some (.object "java/util/ArrayList") := by decide +kernel
theorem d11_5 : dk cD11 5 (.aload_n 0) 1 := by decide +kernel
theorem d11_6 : dk cD11 6 (.invokespecial 7) 3 := by decide +kernel
theorem d11_9 : dk cD11 9 (.aload_n 0) 1 := by decide +kernel
theorem d11_10 : dk cD11 10 (.iconst (-1)) 1 := by decide +kernel
theorem d11_11 : dk cD11 11 (.putfield 13) 3 := by decide +kernel
theorem d11_14 : dk cD11 14 (.aload_n 0) 1 := by decide +kernel
theorem d11_15 : dk cD11 15 (.aload_n 0) 1 := by decide +kernel
theorem d11_16 : dk cD11 16 (.getfield 1) 3 := by decide +kernel
theorem d11_19 : dk cD11 19 (.getfield 17) 3 := by decide +kernel
theorem d11_22 : dk cD11 22 (.putfield 22) 3 := by decide +kernel
theorem d11_25 : dk cD11 25 .return_ 1 := by decide +kernel
def Q_rmII (Z : State) (it : Nat) (la : Nat) (mc : Int32) (h0 : Heap) (n0 : Nat) (v : Option Value) (h : Heap) (L : List Loc) : Prop := v = none ∧ Fr n0 L ∧ Keep h0 h [it] ∧ Exa Z h it "java/util/ArrayList$Itr" ∧ Fld Z h it "java/util/ArrayList$Itr" "this$0" "Ljava/util/ArrayList;" (.ref la) ∧ Fld Z h it "java/util/ArrayList$Itr" "cursor" "I" (.int (Int32.ofNat 0)) ∧ Fld Z h it "java/util/ArrayList$Itr" "lastRet" "I" (.int (-1)) ∧ Fld Z h it "java/util/ArrayList$Itr" "expectedModCount" "I" (.int mc)
theorem rmII (l : Launch) (Z : State) (a0 : Array Value) (hw : own_H Z a0) (ws : List Jvm.Cond) (it : Nat) (la : Nat) (mc : Int32) (h0 : Heap) (n0 : Nat) (XO0 : Old Z n0 h0) (g_i : n0 ≤ it) (n_il : it ≠ la) (E_i : Exa Z h0 it "java/util/ArrayList$Itr") (F_t : Fld Z h0 it "java/util/ArrayList$Itr" "this$0" "Ljava/util/ArrayList;" .null) (F_cu : Fld Z h0 it "java/util/ArrayList$Itr" "cursor" "I" (.int 0)) (F_lr : Fld Z h0 it "java/util/ArrayList$Itr" "lastRet" "I" (.int 0)) (F_em : Fld Z h0 it "java/util/ArrayList$Itr" "expectedModCount" "I" (.int 0)) (E_l : Exa Z h0 la "java/util/ArrayList") (F_m : Fld Z h0 la "java/util/AbstractList" "modCount" "I" (.int mc)) :
  own_M l Z ym11 cD11 ws 2 none (own_R 1 0 0 12) #[(.ref it), (.ref la)] h0 (Q_rmII Z it la mc h0 n0) := by
 refine own_open (plainFor_of_name pn_5) ?_
 intro p e s m below meth c s₁ hx hby hlk hret hml hown hnm hZ X0 e0
 have hW := own_hW hw
 have N0 := Fr.nil n0
 refine oo (fun tt_ kk_ => castTop (ef_rmII m it la) kk_) ?_
 refine so (A := (s₁.setTop (mkF m 0 #[vr it, vr la] []))) ?_
 have K0_ : Keep h0 h0 [it] := Keep.refl h0 [it]
 have lt_it := olt E_i.lt
 have lt_la := olt E_l.lt
 refine oi (XS.aloadN X0.here hx rfl (hb hby d11_0) rfl rfl) ?_
 refine oi (XS.aloadN X0.here hx rfl (hb hby d11_1) rfl rfl) ?_
 obtain ⟨T1, h1, X1, e1, W1, st1⟩ := putF X0 hx hZ hown (host := "") (Or.inl (hW 73 _ rfl)) Via.refl e0 F_t E_i (Or.inr ⟨(hW 74 _ rfl), rfl, hnm⟩) (hW 67 _ rfl) (ty := (.object "java/util/ArrayList")) pf_4 rfl rfl (g := (mkF m 2 #[vr it, vr la] [(.ref la), (.ref it)])) rfl rfl (hb hby d11_2)
 refine oo st1 ?_
 have N1 := Fr.snoc X1 N0 (by omega : n0 ≤ it)
 have sz1 : h1.size = h0.size := W1.size
 have O1 : Old Z n0 h1 := XO0.wr W1 (by omega)
 have K1 : Keep h0 h1 [it] := K0_.wr W1 (Or.inl (List.mem_of_getElem? (i := 0) rfl))
 have Fw1 := F_t.same W1
 refine oi (XS.aloadN X1.here hx rfl (hb hby d11_5) rfl rfl) ?_
 obtain ⟨T2, X2, e2, st2⟩ := initO X1 hx hZ hown (hW 75 _ rfl) (hW 20 _ rfl) (hW 21 _ rfl) e1 (g := (mkF m 6 #[vr it, vr la] [(.ref it)])) rfl (by rw [hml]; rfl) rfl (hb hby d11_6) (by decide) (W := 0) (Nat.le_of_eq rfl) (by decide)
 refine oo st2 ?_
 refine oi (XS.aloadN X2.here hx rfl (hb hby d11_9) rfl rfl) ?_
 refine oi (XS.iconst X2.here hx rfl (hb hby d11_10)) ?_
 have f3 : Exa Z h1 it "java/util/ArrayList$Itr" := (E_i.wr W1)
 have f4 : Fld Z h1 it "java/util/ArrayList$Itr" "lastRet" "I" (.int 0) := (F_lr.other W1 (Or.inr (slot_ne (Or.inl (hW 77 _ rfl)) (Or.inr (hW 74 _ rfl)) (by decide) pf_2 pf_4)))
 obtain ⟨T5, h5, X5, e5, W5, st5⟩ := putF X2 hx hZ hown (host := "") (Or.inl (hW 76 _ rfl)) Via.refl e2 f4 f3 (Or.inl (hW 77 _ rfl)) (hW 67 _ rfl) (ty := .int) pf_2 rfl rfl (g := (mkF m 11 #[vr it, vr la] [(.int (-1)), (.ref it)])) rfl rfl (hb hby d11_11)
 refine oo st5 ?_
 have N5 := Fr.snoc X5 N1 (by omega : n0 ≤ it)
 have sz5 : h5.size = h1.size := W5.size
 have O5 : Old Z n0 h5 := O1.wr W5 (by omega)
 have K5 : Keep h0 h5 [it] := K1.wr W5 (Or.inl (List.mem_of_getElem? (i := 0) rfl))
 have Fw5 := f4.same W5
 refine oi (XS.aloadN X5.here hx rfl (hb hby d11_14) rfl rfl) ?_
 refine oi (XS.aloadN X5.here hx rfl (hb hby d11_15) rfl rfl) ?_
 have f6 : Fld Z h5 it "java/util/ArrayList$Itr" "this$0" "Ljava/util/ArrayList;" (.ref la) := (Fw1.other W5 (Or.inr (slot_ne (Or.inr (hW 74 _ rfl)) (Or.inl (hW 77 _ rfl)) (by decide) pf_4 pf_2)))
 obtain ⟨T7, X7, e7, st7⟩ := getF X5 hx hZ hown (host := "") (Or.inl (hW 73 _ rfl)) Via.refl e5 f6 (g := (mkF m 16 #[vr it, vr la] [(.ref it), (.ref it)])) rfl rfl (hb hby d11_16)
 refine oo st7 ?_
 have f8 : Fld Z h5 la "java/util/AbstractList" "modCount" "I" (.int mc) := ((F_m.other W1 (Or.inl (one (by omega)))).other W5 (Or.inl (one (by omega))))
 obtain ⟨T9, X9, e9, st9⟩ := getF X7 hx hZ hown (host := "") (Or.inl (hW 78 _ rfl)) (Via.of (hW 79 _ rfl)) e7 f8 (g := (mkF m 19 #[vr it, vr la] [(.ref la), (.ref it)])) rfl rfl (hb hby d11_19)
 refine oo st9 ?_
 have f10 : Exa Z h5 it "java/util/ArrayList$Itr" := (f3.wr W5)
 have f11 : Fld Z h5 it "java/util/ArrayList$Itr" "expectedModCount" "I" (.int 0) := ((F_em.other W1 (Or.inr (slot_ne (Or.inl (hW 81 _ rfl)) (Or.inr (hW 74 _ rfl)) (by decide) pf_2 pf_4))).other W5 (Or.inr (slot_ne (Or.inl (hW 81 _ rfl)) (Or.inl (hW 77 _ rfl)) (by decide) pf_2 pf_2)))
 obtain ⟨T12, h12, X12, e12, W12, st12⟩ := putF X9 hx hZ hown (host := "") (Or.inl (hW 80 _ rfl)) Via.refl e9 f11 f10 (Or.inl (hW 81 _ rfl)) (hW 67 _ rfl) (ty := .int) pf_2 rfl rfl (g := (mkF m 22 #[vr it, vr la] [(.int mc), (.ref it)])) rfl rfl (hb hby d11_22)
 refine oo st12 ?_
 have N12 := Fr.snoc X12 N5 (by omega : n0 ≤ it)
 have sz12 : h12.size = h5.size := W12.size
 have O12 : Old Z n0 h12 := O5.wr W12 (by omega)
 have K12 : Keep h0 h12 [it] := K5.wr W12 (Or.inl (List.mem_of_getElem? (i := 0) rfl))
 have Fw12 := f11.same W12
 refine so (A := (T12.setTop (mkF m 25 #[vr it, vr la] []))) ?_
 refine own_retV X12 hx hlk hret (hb hby d11_25) (by decide) (by decide) ?_
 rw [e12]
 have f13 : Exa Z h12 it "java/util/ArrayList$Itr" := (f10.wr W12)
 have f14 : Fld Z h12 it "java/util/ArrayList$Itr" "this$0" "Ljava/util/ArrayList;" (.ref la) := (f6.other W12 (Or.inr (slot_ne (Or.inr (hW 74 _ rfl)) (Or.inl (hW 81 _ rfl)) (by decide) pf_4 pf_2)))
 have f15 : Fld Z h12 it "java/util/ArrayList$Itr" "cursor" "I" (.int 0) := (((F_cu.other W1 (Or.inr (slot_ne (Or.inl (hW 92 _ rfl)) (Or.inr (hW 74 _ rfl)) (by decide) pf_2 pf_4))).other W5 (Or.inr (slot_ne (Or.inl (hW 92 _ rfl)) (Or.inl (hW 77 _ rfl)) (by decide) pf_2 pf_2))).other W12 (Or.inr (slot_ne (Or.inl (hW 92 _ rfl)) (Or.inl (hW 81 _ rfl)) (by decide) pf_2 pf_2)))
 have f16 : Fld Z h12 it "java/util/ArrayList$Itr" "lastRet" "I" (.int (-1)) := (Fw5.other W12 (Or.inr (slot_ne (Or.inl (hW 77 _ rfl)) (Or.inl (hW 81 _ rfl)) (by decide) pf_2 pf_2)))
 exact ⟨rfl, N12, K12, f13, f14, f15, f16, Fw12⟩
theorem ef_rmIt (m : MethodId) (x0 : Nat) : entryFrame m #[(.ref x0)] 1 = mkF m 0 #[vr x0] [] := by first | (simp [entryFrame, mkF, argsToLocals, Value.category]; done) | rfl
theorem d10_0 : dk cD10 0 (.new 267) 3 := by decide +kernel
theorem d10_3 : dk cD10 3 .dup 1 := by decide +kernel
theorem d10_4 : dk cD10 4 (.aload_n 0) 1 := by decide +kernel
theorem d10_5 : dk cD10 5 (.invokespecial 269) 3 := by decide +kernel
theorem pd_8 : parseMethodDescriptor "(Ljava/util/ArrayList;)V" = some ⟨[(.object "java/util/ArrayList")], none⟩ := by decide +kernel
theorem d10_8 : dk cD10 8 .areturn 1 := by decide +kernel
def Q_rmIt (Z : State) (la : Nat) (mc : Int32) (h0 : Heap) (n0 : Nat) (v : Option Value) (h : Heap) (L : List Loc) : Prop := ∃ it : Nat, v = some (.ref it) ∧ Fr n0 L ∧ Keep h0 h [] ∧ h0.size ≤ it ∧ it < h.size ∧ Exa Z h it "java/util/ArrayList$Itr" ∧ Fld Z h it "java/util/ArrayList$Itr" "this$0" "Ljava/util/ArrayList;" (.ref la) ∧ Fld Z h it "java/util/ArrayList$Itr" "cursor" "I" (.int (Int32.ofNat 0)) ∧ Fld Z h it "java/util/ArrayList$Itr" "lastRet" "I" (.int (-1)) ∧ Fld Z h it "java/util/ArrayList$Itr" "expectedModCount" "I" (.int mc)
theorem rmIt (l : Launch) (Z : State) (a0 : Array Value) (hw : own_H Z a0) (ws : List Jvm.Cond) (la : Nat) (mc : Int32) (h0 : Heap) (n0 : Nat) (XO0 : Old Z n0 h0) (E_l : Exa Z h0 la "java/util/ArrayList") (F_m : Fld Z h0 la "java/util/AbstractList" "modCount" "I" (.int mc)) :
  own_M l Z ym10 cD10 ws 1 (some (.object "java/util/Iterator")) (own_R 2 1 4 26) #[(.ref la)] h0 (Q_rmIt Z la mc h0 n0) := by
 refine own_open (plainFor_of_name pn_4) ?_
 intro p e s m below meth c s₁ hx hby hlk hret hml hown hnm hZ X0 e0
 have hW := own_hW hw
 have N0 := Fr.nil n0
 refine oo (fun tt_ kk_ => castTop (ef_rmIt m la) kk_) ?_
 refine so (A := (s₁.setTop (mkF m 0 #[vr la] []))) ?_
 have K0_ : Keep h0 h0 [] := Keep.refl h0 []
 have lt_la := olt E_l.lt
 obtain ⟨T1, h1, X1, e1, E1, A1, D1, -, st1⟩ := newO X0 hx hZ hown (hW 66 _ rfl) (hW 67 _ rfl) (hW 68 _ rfl) e0 (g := (mkF m 0 #[vr la] [])) rfl (hb hby d10_0) (by decide) (by decide)
 obtain ⟨b1, g1⟩ : ∃ z, z = h0.size := ⟨_, rfl⟩
 rw [← g1] at A1 D1 st1
 refine oo st1 ?_
 have lt1 := olt A1.lt
 have sz1 : h0.size ≤ h1.size := E1.1
 have O1 : Old Z n0 h1 := XO0.ext E1
 have z1 : n0 ≤ b1 := by have := XO0.1 ▸ XO0.2.1; omega
 have K1 : Keep h0 h1 [] := K0_.ext E1
 have F1_this_0 : Fld Z h1 b1 "java/util/ArrayList$Itr" "this$0" "Ljava/util/ArrayList;" .null := D1 (Or.inr (hW 74 _ rfl)) (ty := (.object "java/util/ArrayList")) pf_4
 have F1_lastRet : Fld Z h1 b1 "java/util/ArrayList$Itr" "lastRet" "I" (.int 0) := D1 (Or.inl (hW 77 _ rfl)) (ty := .int) pf_2
 have F1_expectedModCount : Fld Z h1 b1 "java/util/ArrayList$Itr" "expectedModCount" "I" (.int 0) := D1 (Or.inl (hW 81 _ rfl)) (ty := .int) pf_2
 have F1_cursor : Fld Z h1 b1 "java/util/ArrayList$Itr" "cursor" "I" (.int 0) := D1 (Or.inl (hW 92 _ rfl)) (ty := .int) pf_2
 refine oi (XS.dup X1.here hx rfl (hb hby d10_3) rfl rfl) ?_
 refine oi (XS.aloadN X1.here hx rfl (hb hby d10_4) rfl rfl) ?_
 refine so (A := (T1.setTop (mkF m 5 #[vr la] [(.ref la), (.ref b1), (.ref b1)]))) ?_
 have f2 : Exa Z h1 la "java/util/ArrayList" := (E_l.ext E1)
 have f3 : Fld Z h1 la "java/util/AbstractList" "modCount" "I" (.int mc) := (F_m.ext E1)
 obtain ⟨_, T4, Lc4, X4, hQ4, st4⟩ := own_c1 X1 <| X1.specialBack hx (y := ym11) rfl hown (mvT hZ (hW 69 _ rfl)) (mvT hZ (hW 70 _ rfl)) (mvT hZ (hW 72 _ rfl)) (by decide) (backOf (W := 1) (rmII l Z a0 hw [] b1 la mc h1 n0 O1 (by omega) (by omega) A1 F1_this_0 F1_cursor F1_lastRet F1_expectedModCount f2 f3) hZ (hW 72 _ rfl) (hW 68 _ rfl) (by decide) (by decide)) (g := (mkF m 5 #[vr la] [(.ref la), (.ref b1), (.ref b1)])) rfl (by rw [hml]; rfl) (Steps.refl _) (a := b1) (argsL := [(.ref la)]) (rest := [(.ref b1)]) (lenOf pd_8 rfl) rfl (Nat.le_of_eq rfl) (hb hby d10_5) (fun _ _ => ⟨rfl, e1, (by decide : 1 + 0 ≤ _), (by decide : 4 + 0 ≤ _)⟩)
 obtain ⟨rfl, Nq4, Kp4, Ei4, Ft4, Fc4, Fl4, Fx4⟩ := hQ4
 have N4 := Fr.app N0 Nq4
 refine oo (fun tt_ kk_ => st4.trans kk_) ?_
 have sz4 : h1.size ≤ T4.heap.size := Kp4.1
 have O4 : Old Z n0 T4.heap := O1.keep Kp4 (allS (by omega) all0)
 have K4 : Keep h0 T4.heap [] := K1.trans Kp4 (allS (Or.inr (by omega)) all0)
 refine so (A := (T4.setTop (mkF m 8 #[vr la] [(.ref b1)]))) ?_
 refine own_ret X4 hx hlk hret rfl (Or.inr (Or.inr (Or.inr (Or.inr ⟨rfl, rfl, rfl⟩)))) (hb hby d10_8) (by decide) (by decide) ?_
 skip
 exact ⟨b1, rfl, N4, K4, by omega, by omega, Ei4, Ft4, Fc4, Fl4, Fx4⟩
theorem ef_rmCC (m : MethodId) (x0 : Nat) : entryFrame m #[(.ref x0)] 1 = mkF m 0 #[vr x0] [] := by first | (simp [entryFrame, mkF, argsToLocals, Value.category]; done) | rfl
theorem d28_0 : dk cD28 0 (.aload_n 0) 1 := by decide +kernel
theorem d28_1 : dk cD28 1 (.getfield 1) 3 := by decide +kernel
theorem d28_4 : dk cD28 4 (.getfield 17) 3 := by decide +kernel
theorem d28_7 : dk cD28 7 (.aload_n 0) 1 := by decide +kernel
theorem d28_8 : dk cD28 8 (.getfield 22) 3 := by decide +kernel
theorem d28_11 : dk cD28 11 (.if_icmp .eq 11) 3 := by decide +kernel
theorem d28_22 : dk cD28 22 .return_ 1 := by decide +kernel
def Q_rmCC (Z : State) (it : Nat) (la : Nat) (mc : Int32) (h0 : Heap) (n0 : Nat) (v : Option Value) (h : Heap) (L : List Loc) : Prop := v = none ∧ Fr n0 L ∧ h = h0
theorem rmCC (l : Launch) (Z : State) (a0 : Array Value) (hw : own_H Z a0) (ws : List Jvm.Cond) (it : Nat) (la : Nat) (mc : Int32) (h0 : Heap) (n0 : Nat) (XO0 : Old Z n0 h0) (F_t : Fld Z h0 it "java/util/ArrayList$Itr" "this$0" "Ljava/util/ArrayList;" (.ref la)) (F_em : Fld Z h0 it "java/util/ArrayList$Itr" "expectedModCount" "I" (.int mc)) (E_i : Exa Z h0 it "java/util/ArrayList$Itr") (E_l : Exa Z h0 la "java/util/ArrayList") (F_m : Fld Z h0 la "java/util/AbstractList" "modCount" "I" (.int mc)) :
  own_M l Z ym28 cD28 ws 1 none (own_R 0 0 0 0) #[(.ref it)] h0 (Q_rmCC Z it la mc h0 n0) := by
 refine own_open (plainFor_of_name pn_5) ?_
 intro p e s m below meth c s₁ hx hby hlk hret hml hown hnm hZ X0 e0
 have hW := own_hW hw
 have N0 := Fr.nil n0
 refine oo (fun tt_ kk_ => castTop (ef_rmCC m it) kk_) ?_
 refine so (A := (s₁.setTop (mkF m 0 #[vr it] []))) ?_
 refine oi (XS.aloadN X0.here hx rfl (hb hby d28_0) rfl rfl) ?_
 obtain ⟨T1, X1, e1, st1⟩ := getF X0 hx hZ hown (host := "") (Or.inl (hW 73 _ rfl)) Via.refl e0 F_t (g := (mkF m 1 #[vr it] [(.ref it)])) rfl rfl (hb hby d28_1)
 refine oo st1 ?_
 obtain ⟨T2, X2, e2, st2⟩ := getF X1 hx hZ hown (host := "") (Or.inl (hW 78 _ rfl)) (Via.of (hW 79 _ rfl)) e1 F_m (g := (mkF m 4 #[vr it] [(.ref la)])) rfl rfl (hb hby d28_4)
 refine oo st2 ?_
 refine oi (XS.aloadN X2.here hx rfl (hb hby d28_7) rfl rfl) ?_
 obtain ⟨T3, X3, e3, st3⟩ := getF X2 hx hZ hown (host := "") (Or.inl (hW 80 _ rfl)) Via.refl e2 F_em (g := (mkF m 8 #[vr it] [(.ref it), (.int mc)])) rfl rfl (hb hby d28_8)
 refine oo st3 ?_
 have hb11_4 : mc = mc := rfl
 refine oi (XS.icmpYes X3.here hx rfl (pc0 := 11) (pc' := 22) rfl (hb hby d28_11) rfl (teq hb11_4).1 (by decide) (by decide)) ?_
 refine so (A := (T3.setTop (mkF m 22 #[vr it] []))) ?_
 refine own_retV X3 hx hlk hret (hb hby d28_22) (by decide) (by decide) ?_
 rw [e3]
 exact ⟨rfl, N0, rfl⟩
theorem ef_rmHN0 (m : MethodId) (x0 : Nat) : entryFrame m #[(.ref x0)] 1 = mkF m 0 #[vr x0] [] := by first | (simp [entryFrame, mkF, argsToLocals, Value.category]; done) | rfl
theorem d12_0 : dk cD12 0 (.aload_n 0) 1 := by decide +kernel
theorem d12_1 : dk cD12 1 (.getfield 25) 3 := by decide +kernel
theorem d12_4 : dk cD12 4 (.aload_n 0) 1 := by decide +kernel
theorem d12_5 : dk cD12 5 (.getfield 1) 3 := by decide +kernel
theorem d12_8 : dk cD12 8 (.getfield 28) 3 := by decide +kernel
theorem d12_11 : dk cD12 11 (.if_icmp .eq 7) 3 := by decide +kernel
theorem d12_18 : dk cD12 18 (.iconst 0) 1 := by decide +kernel
theorem d12_19 : dk cD12 19 .ireturn 1 := by decide +kernel
def Q_rmHN0 (Z : State) (it : Nat) (la : Nat) (ci : Int32) (sz : Int32) (h0 : Heap) (n0 : Nat) (v : Option Value) (h : Heap) (L : List Loc) : Prop := v = some (.int 0) ∧ Fr n0 L ∧ h = h0
theorem rmHN0 (l : Launch) (Z : State) (a0 : Array Value) (hw : own_H Z a0) (ws : List Jvm.Cond) (it : Nat) (la : Nat) (ci : Int32) (sz : Int32) (h0 : Heap) (n0 : Nat) (XO0 : Old Z n0 h0) (F_t : Fld Z h0 it "java/util/ArrayList$Itr" "this$0" "Ljava/util/ArrayList;" (.ref la)) (F_cu : Fld Z h0 it "java/util/ArrayList$Itr" "cursor" "I" (.int ci)) (E_i : Exa Z h0 it "java/util/ArrayList$Itr") (E_l : Exa Z h0 la "java/util/ArrayList") (F_z : Fld Z h0 la "java/util/ArrayList" "size" "I" (.int sz)) (hq : ci = sz) :
  own_M l Z ym12 cD12 ws 1 (some .boolean) (own_R 0 0 0 0) #[(.ref it)] h0 (Q_rmHN0 Z it la ci sz h0 n0) := by
 refine own_open (plainFor_of_name pn_5) ?_
 intro p e s m below meth c s₁ hx hby hlk hret hml hown hnm hZ X0 e0
 have hW := own_hW hw
 have N0 := Fr.nil n0
 refine oo (fun tt_ kk_ => castTop (ef_rmHN0 m it) kk_) ?_
 refine so (A := (s₁.setTop (mkF m 0 #[vr it] []))) ?_
 refine oi (XS.aloadN X0.here hx rfl (hb hby d12_0) rfl rfl) ?_
 obtain ⟨T1, X1, e1, st1⟩ := getF X0 hx hZ hown (host := "") (Or.inl (hW 91 _ rfl)) Via.refl e0 F_cu (g := (mkF m 1 #[vr it] [(.ref it)])) rfl rfl (hb hby d12_1)
 refine oo st1 ?_
 refine oi (XS.aloadN X1.here hx rfl (hb hby d12_4) rfl rfl) ?_
 obtain ⟨T2, X2, e2, st2⟩ := getF X1 hx hZ hown (host := "") (Or.inl (hW 73 _ rfl)) Via.refl e1 F_t (g := (mkF m 5 #[vr it] [(.ref it), (.int ci)])) rfl rfl (hb hby d12_5)
 refine oo st2 ?_
 obtain ⟨T3, X3, e3, st3⟩ := getF X2 hx hZ hown (Or.inr (hW 93 _ rfl)) Via.refl e2 F_z (g := (mkF m 8 #[vr it] [(.ref la), (.int ci)])) rfl rfl (hb hby d12_8)
 refine oo st3 ?_
 have hb11_4 : ci = sz := hq
 refine oi (XS.icmpYes X3.here hx rfl (pc0 := 11) (pc' := 18) rfl (hb hby d12_11) rfl (teq hb11_4).1 (by decide) (by decide)) ?_
 refine so (A := (T3.setTop (mkF m 18 #[vr it] []))) ?_
 refine oi (XS.iconst X3.here hx rfl (hb hby d12_18)) ?_
 refine so (A := (T3.setTop (mkF m 19 #[vr it] [(.int 0)]))) ?_
 refine own_ret X3 hx hlk hret rfl (Or.inl ⟨rfl, by simp, _, rfl⟩) (hb hby d12_19) (by decide) (by decide) ?_
 rw [e3]
 exact ⟨rfl, N0, rfl⟩
theorem ef_rmHN1 (m : MethodId) (x0 : Nat) : entryFrame m #[(.ref x0)] 1 = mkF m 0 #[vr x0] [] := by first | (simp [entryFrame, mkF, argsToLocals, Value.category]; done) | rfl
theorem d12_14 : dk cD12 14 (.iconst 1) 1 := by decide +kernel
theorem d12_15 : dk cD12 15 (.goto 4) 3 := by decide +kernel
def Q_rmHN1 (Z : State) (it : Nat) (la : Nat) (ci : Int32) (sz : Int32) (h0 : Heap) (n0 : Nat) (v : Option Value) (h : Heap) (L : List Loc) : Prop := v = some (.int 1) ∧ Fr n0 L ∧ h = h0
theorem rmHN1 (l : Launch) (Z : State) (a0 : Array Value) (hw : own_H Z a0) (ws : List Jvm.Cond) (it : Nat) (la : Nat) (ci : Int32) (sz : Int32) (h0 : Heap) (n0 : Nat) (XO0 : Old Z n0 h0) (F_t : Fld Z h0 it "java/util/ArrayList$Itr" "this$0" "Ljava/util/ArrayList;" (.ref la)) (F_cu : Fld Z h0 it "java/util/ArrayList$Itr" "cursor" "I" (.int ci)) (E_i : Exa Z h0 it "java/util/ArrayList$Itr") (E_l : Exa Z h0 la "java/util/ArrayList") (F_z : Fld Z h0 la "java/util/ArrayList" "size" "I" (.int sz)) (hq : ¬ ci = sz) :
  own_M l Z ym12 cD12 ws 1 (some .boolean) (own_R 0 0 0 0) #[(.ref it)] h0 (Q_rmHN1 Z it la ci sz h0 n0) := by
 refine own_open (plainFor_of_name pn_5) ?_
 intro p e s m below meth c s₁ hx hby hlk hret hml hown hnm hZ X0 e0
 have hW := own_hW hw
 have N0 := Fr.nil n0
 refine oo (fun tt_ kk_ => castTop (ef_rmHN1 m it) kk_) ?_
 refine so (A := (s₁.setTop (mkF m 0 #[vr it] []))) ?_
 refine oi (XS.aloadN X0.here hx rfl (hb hby d12_0) rfl rfl) ?_
 obtain ⟨T1, X1, e1, st1⟩ := getF X0 hx hZ hown (host := "") (Or.inl (hW 91 _ rfl)) Via.refl e0 F_cu (g := (mkF m 1 #[vr it] [(.ref it)])) rfl rfl (hb hby d12_1)
 refine oo st1 ?_
 refine oi (XS.aloadN X1.here hx rfl (hb hby d12_4) rfl rfl) ?_
 obtain ⟨T2, X2, e2, st2⟩ := getF X1 hx hZ hown (host := "") (Or.inl (hW 73 _ rfl)) Via.refl e1 F_t (g := (mkF m 5 #[vr it] [(.ref it), (.int ci)])) rfl rfl (hb hby d12_5)
 refine oo st2 ?_
 obtain ⟨T3, X3, e3, st3⟩ := getF X2 hx hZ hown (Or.inr (hW 93 _ rfl)) Via.refl e2 F_z (g := (mkF m 8 #[vr it] [(.ref la), (.int ci)])) rfl rfl (hb hby d12_8)
 refine oo st3 ?_
 have hb11_4 : ¬ (ci = sz) := hq
 refine oi (XS.icmpNo X3.here hx rfl (hb hby d12_11) rfl (feq hb11_4).1) ?_
 refine so (A := (T3.setTop (mkF m 14 #[vr it] []))) ?_
 refine oi (XS.iconst X3.here hx rfl (hb hby d12_14)) ?_
 refine oi (XS.goto X3.here hx rfl (pc0 := 15) (pc' := 19) rfl (hb hby d12_15) (by decide) (by decide)) ?_
 refine so (A := (T3.setTop (mkF m 19 #[vr it] [(.int 1)]))) ?_
 refine own_ret X3 hx hlk hret rfl (Or.inl ⟨rfl, by simp, _, rfl⟩) (hb hby d12_19) (by decide) (by decide) ?_
 rw [e3]
 exact ⟨rfl, N0, rfl⟩
def Q_Nx (Z : State) (it la i y : Nat) (mc : Int32) (h0 : Heap) (n0 : Nat) (v : Option Value) (h : Heap) (L : List Loc) : Prop := v = some (.ref y) ∧ Fr n0 L ∧ Keep h0 h [it] ∧ Exa Z h it "java/util/ArrayList$Itr" ∧ Fld Z h it "java/util/ArrayList$Itr" "this$0" "Ljava/util/ArrayList;" (.ref la) ∧ Fld Z h it "java/util/ArrayList$Itr" "cursor" "I" (.int (Int32.ofNat (i + 1))) ∧ Fld Z h it "java/util/ArrayList$Itr" "lastRet" "I" (.int (Int32.ofNat i)) ∧ Fld Z h it "java/util/ArrayList$Itr" "expectedModCount" "I" (.int mc)
theorem ef_rmNx_2 (m : MethodId) (x0 : Nat) : entryFrame m #[(.ref x0)] 3 = mkF m 0 #[vr x0, uu, uu] [] := by first | (simp [entryFrame, mkF, argsToLocals, Value.category]; done) | rfl
theorem d27_0 : dk cD27 0 (.aload_n 0) 1 := by decide +kernel
theorem d27_1 : dk cD27 1 (.invokevirtual 31) 3 := by decide +kernel
theorem d27_4 : dk cD27 4 (.aload_n 0) 1 := by decide +kernel
theorem d27_5 : dk cD27 5 (.getfield 25) 3 := by decide +kernel
theorem d27_8 : dk cD27 8 (.istore_n 1) 1 := by decide +kernel
theorem d27_9 : dk cD27 9 (.iload_n 1) 1 := by decide +kernel
theorem d27_10 : dk cD27 10 (.aload_n 0) 1 := by decide +kernel
theorem d27_11 : dk cD27 11 (.getfield 1) 3 := by decide +kernel
theorem d27_14 : dk cD27 14 (.getfield 28) 3 := by decide +kernel
theorem d27_17 : dk cD27 17 (.if_icmp .lt 11) 3 := by decide +kernel
theorem d27_28 : dk cD27 28 (.aload_n 0) 1 := by decide +kernel
theorem d27_29 : dk cD27 29 (.getfield 1) 3 := by decide +kernel
theorem d27_32 : dk cD27 32 (.getfield 37) 3 := by decide +kernel
theorem d27_35 : dk cD27 35 (.astore_n 2) 1 := by decide +kernel
theorem d27_36 : dk cD27 36 (.iload_n 1) 1 := by decide +kernel
theorem d27_37 : dk cD27 37 (.aload_n 2) 1 := by decide +kernel
theorem d27_38 : dk cD27 38 .arraylength 1 := by decide +kernel
theorem d27_39 : dk cD27 39 (.if_icmp .lt 11) 3 := by decide +kernel
theorem d27_50 : dk cD27 50 (.aload_n 0) 1 := by decide +kernel
theorem d27_51 : dk cD27 51 (.iload_n 1) 1 := by decide +kernel
theorem d27_52 : dk cD27 52 (.iconst 1) 1 := by decide +kernel
theorem d27_53 : dk cD27 53 .iadd 1 := by decide +kernel
theorem d27_54 : dk cD27 54 (.putfield 25) 3 := by decide +kernel
theorem d27_57 : dk cD27 57 (.aload_n 2) 1 := by decide +kernel
theorem d27_58 : dk cD27 58 (.aload_n 0) 1 := by decide +kernel
theorem d27_59 : dk cD27 59 (.iload_n 1) 1 := by decide +kernel
theorem d27_60 : dk cD27 60 .dup_x1 1 := by decide +kernel
theorem d27_61 : dk cD27 61 (.putfield 13) 3 := by decide +kernel
theorem d27_64 : dk cD27 64 .aaload 1 := by decide +kernel
theorem d27_65 : dk cD27 65 .areturn 1 := by decide +kernel
theorem rmNx_2 (l : Launch) (Z : State) (a0 : Array Value) (hw : own_H Z a0) (ws : List Jvm.Cond) (it : Nat) (la : Nat) (ea : Nat) (ke : ClassId) (xs : List Nat) (i : Nat) (y : Nat) (mc : Int32) (lr : Int32) (h0 : Heap) (n0 : Nat) (XO0 : Old Z n0 h0) (g_i : n0 ≤ it) (n_il : it ≠ la) (n_ie : it ≠ ea) (E_i : Exa Z h0 it "java/util/ArrayList$Itr") (F_t : Fld Z h0 it "java/util/ArrayList$Itr" "this$0" "Ljava/util/ArrayList;" (.ref la)) (F_cu : Fld Z h0 it "java/util/ArrayList$Itr" "cursor" "I" (.int (Int32.ofNat i))) (F_lr : Fld Z h0 it "java/util/ArrayList$Itr" "lastRet" "I" (.int lr)) (F_em : Fld Z h0 it "java/util/ArrayList$Itr" "expectedModCount" "I" (.int mc)) (E_l : Exa Z h0 la "java/util/ArrayList") (F_e : Fld Z h0 la "java/util/ArrayList" "elementData" "[Ljava/lang/Object;" (.ref ea)) (F_z : Fld Z h0 la "java/util/ArrayList" "size" "I" (.int (Int32.ofNat xs.length))) (F_m : Fld Z h0 la "java/util/AbstractList" "modCount" "I" (.int mc)) (g_e : n0 ≤ ea) (n_le : la ≠ ea) (O_e : Ovr Z ke "java/lang/Object") (V_e : Arv Z h0 ea ke (.object "java/lang/Object") (10 : Int32) (xs.map Value.ref) .null) (E_e : Exa Z h0 ea "[Ljava/lang/Object;") (hi : i < xs.length) (hx9 : xs.length ≤ 9) (hy : xs[i]? = some y) :
  own_M l Z ym27 cD27 ws 3 (some (.object "java/lang/Object")) (own_R 1 0 0 12) #[(.ref it)] h0 (Q_Nx Z it la i y mc h0 n0) := by
 refine own_open (plainFor_of_name pn_5) ?_
 intro p e s m below meth c s₁ hx hby hlk hret hml hown hnm hZ X0 e0
 have hW := own_hW hw
 have N0 := Fr.nil n0
 refine oo (fun tt_ kk_ => castTop (ef_rmNx_2 m it) kk_) ?_
 refine so (A := (s₁.setTop (mkF m 0 #[vr it, uu, uu] []))) ?_
 have K0_ : Keep h0 h0 [it] := Keep.refl h0 [it]
 have lt_it := olt E_i.lt
 have lt_la := olt E_l.lt
 have lt_ea := olt V_e.lt
 refine oi (XS.aloadN X0.here hx rfl (hb hby d27_0) rfl rfl) ?_
 refine so (A := (s₁.setTop (mkF m 1 #[vr it, uu, uu] [(.ref it)]))) ?_
 obtain ⟨cq1, kq1, q1a, q1b, q1c⟩ := isOf hZ e0 E_i
 obtain ⟨_, T1, Lc1, X1, hQ1, st1⟩ := own_c1 X0 <| X0.virtualBack hx (y := ym28) (z := ym28) hown (mvT hZ (hW 196 _ rfl)) (mvT hZ (hW 197 _ rfl)) (notFace_of_selects (args := #[]) (mvT hZ (hW 199 _ rfl))) (mvT hZ (hW 199 _ rfl)) (mvT hZ (hW 198 _ rfl)) (by decide) (backOf (W := 0) (rmCC l Z a0 hw [] it la mc h0 n0 XO0 F_t F_em E_i E_l F_m) hZ (hW 200 _ rfl) (hW 68 _ rfl) (by decide) (by decide)) q1a q1c (g := (mkF m 1 #[vr it, uu, uu] [(.ref it)])) rfl (by rw [hml]; rfl) (Steps.refl _) (argsL := []) (rest := []) (lenOf pd_3 rfl) rfl (Nat.le_of_eq rfl) (hb hby d27_1) (fun _ _ => ⟨rfl, e0, (by decide : 0 + 0 ≤ _), (by decide : 0 + 0 ≤ _)⟩)
 obtain ⟨rfl, Nq1, eh1⟩ := hQ1
 have N1 := Fr.app N0 Nq1
 refine oo (fun tt_ kk_ => st1.trans kk_) ?_
 refine oi (XS.aloadN X1.here hx rfl (hb hby d27_4) rfl rfl) ?_
 obtain ⟨T2, X2, e2, st2⟩ := getF X1 hx hZ hown (host := "") (Or.inl (hW 91 _ rfl)) Via.refl eh1 F_cu (g := (mkF m 5 #[vr it, uu, uu] [(.ref it)])) rfl rfl (hb hby d27_5)
 refine oo st2 ?_
 refine oi (XS.istoreN X2.here hx rfl (hb hby d27_8) rfl (l' := #[vr it, vn i, uu]) rfl) ?_
 refine oi (XS.iloadN X2.here hx rfl (hb hby d27_9) rfl) ?_
 refine oi (XS.aloadN X2.here hx rfl (hb hby d27_10) rfl rfl) ?_
 obtain ⟨T3, X3, e3, st3⟩ := getF X2 hx hZ hown (host := "") (Or.inl (hW 73 _ rfl)) Via.refl e2 F_t (g := (mkF m 11 #[vr it, vn i, uu] [(.ref it), (.int (Int32.ofNat i))])) rfl rfl (hb hby d27_11)
 refine oo st3 ?_
 obtain ⟨T4, X4, e4, st4⟩ := getF X3 hx hZ hown (Or.inr (hW 93 _ rfl)) Via.refl e3 F_z (g := (mkF m 14 #[vr it, vn i, uu] [(.ref la), (.int (Int32.ofNat i))])) rfl rfl (hb hby d27_14)
 refine oo st4 ?_
 have hb17_5 : (Int32.ofNat i) < (Int32.ofNat xs.length) := (own_nlt (by omega) (by omega)).mpr hi
 refine oi (XS.icmpYes X4.here hx rfl (pc0 := 17) (pc' := 28) rfl (hb hby d27_17) rfl (tlt hb17_5).1 (by decide) (by decide)) ?_
 refine so (A := (T4.setTop (mkF m 28 #[vr it, vn i, uu] []))) ?_
 refine oi (XS.aloadN X4.here hx rfl (hb hby d27_28) rfl rfl) ?_
 obtain ⟨T6, X6, e6, st6⟩ := getF X4 hx hZ hown (host := "") (Or.inl (hW 73 _ rfl)) Via.refl e4 F_t (g := (mkF m 29 #[vr it, vn i, uu] [(.ref it)])) rfl rfl (hb hby d27_29)
 refine oo st6 ?_
 obtain ⟨T7, X7, e7, st7⟩ := getF X6 hx hZ hown (host := "") (Or.inl (hW 201 _ rfl)) Via.refl e6 F_e (g := (mkF m 32 #[vr it, vn i, uu] [(.ref la)])) rfl rfl (hb hby d27_32)
 refine oo st7 ?_
 refine oi (XS.astoreN X7.here hx rfl (hb hby d27_35) rfl rfl (l' := #[vr it, vn i, vr ea]) rfl) ?_
 refine oi (XS.iloadN X7.here hx rfl (hb hby d27_36) rfl) ?_
 refine oi (XS.aloadN X7.here hx rfl (hb hby d27_37) rfl rfl) ?_
 obtain ⟨cl8, Ar8, q8, S8, Ng8, H8, G8⟩ := id V_e
 refine oo (fun tt_ kk => X7.arraylength hx (by rw [e7]; exact Ar8.1) (State.isArrayOf_alike hZ.alike Ar8.2.1) (g := (mkF m 38 #[vr it, vn i, vr ea] [(.ref ea), (.int (Int32.ofNat i))])) rfl rfl (hb hby d27_38) _ (by rw [len_of S8 Ng8]; exact kk)) ?_
 have hb39_9 : (Int32.ofNat i) < (10 : Int32) := (own_inn (m := 10) (by omega) (by omega)).2
 refine oi (XS.icmpYes X7.here hx rfl (pc0 := 39) (pc' := 50) rfl (hb hby d27_39) rfl (tlt hb39_9).1 (by decide) (by decide)) ?_
 refine so (A := (T7.setTop (mkF m 50 #[vr it, vn i, vr ea] []))) ?_
 refine oi (XS.aloadN X7.here hx rfl (hb hby d27_50) rfl rfl) ?_
 refine so (A := (T7.setTop (mkF m 51 #[vr it, vn i, vr ea] [(.ref it)]))) ?_
 refine oi (XS.iloadN X7.here hx rfl (hb hby d27_51) rfl) ?_
 refine oi (XS.iconst X7.here hx rfl (hb hby d27_52)) ?_
 refine oi (XS.iadd X7.here hx rfl (hb hby d27_53) rfl) ?_
 obtain ⟨T10, h10, X10, e10, W10, st10⟩ := putF X7 hx hZ hown (host := "") (Or.inl (hW 91 _ rfl)) Via.refl e7 F_cu E_i (Or.inl (hW 92 _ rfl)) (hW 67 _ rfl) (ty := .int) pf_2 rfl rfl (g := (mkF m 54 #[vr it, vn i, vr ea] [(.int ((Int32.ofNat i) + (1 : Int32))), (.ref it)])) rfl rfl (hb hby d27_54)
 refine oo st10 ?_
 have N10 := Fr.snoc X10 N1 (by omega : n0 ≤ it)
 have sz10 : h10.size = h0.size := W10.size
 have O10 : Old Z n0 h10 := XO0.wr W10 (by omega)
 have K10 : Keep h0 h10 [it] := K0_.wr W10 (Or.inl (List.mem_of_getElem? (i := 0) rfl))
 have Fw10 := F_cu.same W10
 refine oi (XS.aloadN X10.here hx rfl (hb hby d27_57) rfl rfl) ?_
 refine oi (XS.aloadN X10.here hx rfl (hb hby d27_58) rfl rfl) ?_
 refine oi (XS.iloadN X10.here hx rfl (hb hby d27_59) rfl) ?_
 refine oi (XS.dupX1 X10.here hx rfl (hb hby d27_60) rfl rfl rfl) ?_
 have f11 : Exa Z h10 it "java/util/ArrayList$Itr" := (E_i.wr W10)
 have f12 : Fld Z h10 it "java/util/ArrayList$Itr" "lastRet" "I" (.int lr) := (F_lr.other W10 (Or.inr (slot_ne (Or.inl (hW 77 _ rfl)) (Or.inl (hW 92 _ rfl)) (by decide) pf_2 pf_2)))
 obtain ⟨T13, h13, X13, e13, W13, st13⟩ := putF X10 hx hZ hown (host := "") (Or.inl (hW 76 _ rfl)) Via.refl e10 f12 f11 (Or.inl (hW 77 _ rfl)) (hW 67 _ rfl) (ty := .int) pf_2 rfl rfl (g := (mkF m 61 #[vr it, vn i, vr ea] [(.int (Int32.ofNat i)), (.ref it), (.int (Int32.ofNat i)), (.ref ea)])) rfl rfl (hb hby d27_61)
 refine oo st13 ?_
 have N13 := Fr.snoc X13 N10 (by omega : n0 ≤ it)
 have sz13 : h13.size = h10.size := W13.size
 have O13 : Old Z n0 h13 := O10.wr W13 (by omega)
 have K13 : Keep h0 h13 [it] := K10.wr W13 (Or.inl (List.mem_of_getElem? (i := 0) rfl))
 have Fw13 := f12.same W13
 refine so (A := (T13.setTop (mkF m 64 #[vr it, vn i, vr ea] [(.int (Int32.ofNat i)), (.ref ea)]))) ?_
 have f14 : Arv Z h13 ea ke (.object "java/lang/Object") (10 : Int32) (xs.map Value.ref) .null := ((V_e.other W10 (one (by omega))).other W13 (one (by omega)))
 obtain ⟨cl15, Ar15, q15, S15, Ng15, H15, G15⟩ := id f14
 have hin15 : ¬ ((Int32.ofNat i) < 0 ∨ cl15.slots.size ≤ ((Int32.ofNat i)).toNatClampNeg) := inb_of S15 (own_inn (m := 10) (by omega) (by omega))
 have hat15 : cl15.slots[((Int32.ofNat i)).toNatClampNeg]? = some (.ref y) := Has.at H15 hin15 (own_hget (by omega) hy)
 refine oo (fun _ => X13.aaload hx (j := (Int32.ofNat i)) (v := (.ref y)) (by rw [e13]; exact Ar15.1) (State.isArrayOf_alike hZ.alike Ar15.2.1) rfl Ar15.2.2 hin15 hat15 (g := (mkF m 64 #[vr it, vn i, vr ea] [(.int (Int32.ofNat i)), (.ref ea)])) rfl rfl (hb hby d27_64) _) ?_
 refine so (A := (T13.setTop (mkF m 65 #[vr it, vn i, vr ea] [(.ref y)]))) ?_
 refine own_ret X13 hx hlk hret rfl (Or.inr (Or.inr (Or.inr (Or.inr ⟨rfl, rfl, rfl⟩)))) (hb hby d27_65) (by decide) (by decide) ?_
 rw [e13]
 have f16 : Exa Z h13 it "java/util/ArrayList$Itr" := (f11.wr W13)
 have f17 : Fld Z h13 it "java/util/ArrayList$Itr" "this$0" "Ljava/util/ArrayList;" (.ref la) := ((F_t.other W10 (Or.inr (slot_ne (Or.inr (hW 74 _ rfl)) (Or.inl (hW 92 _ rfl)) (by decide) pf_4 pf_2))).other W13 (Or.inr (slot_ne (Or.inr (hW 74 _ rfl)) (Or.inl (hW 77 _ rfl)) (by decide) pf_4 pf_2)))
 have f18 : Fld Z h13 it "java/util/ArrayList$Itr" "cursor" "I" (.int ((Int32.ofNat i) + (1 : Int32))) := (Fw10.other W13 (Or.inr (slot_ne (Or.inl (hW 92 _ rfl)) (Or.inl (hW 77 _ rfl)) (by decide) pf_2 pf_2)))
 have f19 : Fld Z h13 it "java/util/ArrayList$Itr" "expectedModCount" "I" (.int mc) := ((F_em.other W10 (Or.inr (slot_ne (Or.inl (hW 81 _ rfl)) (Or.inl (hW 92 _ rfl)) (by decide) pf_2 pf_2))).other W13 (Or.inr (slot_ne (Or.inl (hW 81 _ rfl)) (Or.inl (hW 77 _ rfl)) (by decide) pf_2 pf_2)))
 exact ⟨rfl, N13, K13, f16, f17, (by rw [← own_nadd]; exact f18), Fw13, f19⟩
theorem rmNx (l : Launch) (Z : State) (a0 : Array Value) (hw : own_H Z a0) (ws : List Jvm.Cond) (dq : Nat) (it : Nat) (la : Nat) (ea : Nat) (ke : ClassId) (xs : List Nat) (i : Nat) (y : Nat) (mc : Int32) (lr : Int32) (h0 : Heap) (n0 : Nat) (XO0 : Old Z n0 h0) (g_i : n0 ≤ it) (n_il : it ≠ la) (n_ie : it ≠ ea) (E_i : Exa Z h0 it "java/util/ArrayList$Itr") (F_t : Fld Z h0 it "java/util/ArrayList$Itr" "this$0" "Ljava/util/ArrayList;" (.ref la)) (F_cu : Fld Z h0 it "java/util/ArrayList$Itr" "cursor" "I" (.int (Int32.ofNat i))) (F_lr : Fld Z h0 it "java/util/ArrayList$Itr" "lastRet" "I" (.int lr)) (F_em : Fld Z h0 it "java/util/ArrayList$Itr" "expectedModCount" "I" (.int mc)) (AL : own_al Z h0 dq n0 la ea ke xs mc) (hi : i < xs.length) (hx9 : xs.length ≤ 9) (hy : xs[i]? = some y) :
  own_M l Z ym27 cD27 ws 3 (some (.object "java/lang/Object")) (own_R 1 0 0 12) #[(.ref it)] h0 (Q_Nx Z it la i y mc h0 n0) := by
 obtain ⟨E_l, F_e, F_z, F_m, E_e, AL⟩ := AL
 rcases AL with ⟨e1, e2, V_e⟩ | ⟨g_e, n_le, O_e, V_e⟩
 ·subst e1
  simp at hi
 ·exact rmNx_2 l Z a0 hw ws it la ea ke xs i y mc lr h0 n0 XO0 g_i n_il n_ie E_i F_t F_cu F_lr F_em E_l F_e F_z F_m g_e n_le O_e V_e E_e hi hx9 hy
theorem ef_rmSL (m : MethodId) (x0 : Nat) (x1 : Nat) : entryFrame m #[(.ref x0), (.ref x1)] 3 = mkF m 0 #[vr x0, vr x1, uu] [] := by first | (simp [entryFrame, mkF, argsToLocals, Value.category]; done) | rfl
theorem d31_0 : dk cD31 0 (.aload_n 0) 1 := by decide +kernel
theorem d31_1 : dk cD31 1 .arraylength 1 := by decide +kernel
theorem d31_2 : dk cD31 2 (.aload_n 1) 1 := by decide +kernel
theorem d31_3 : dk cD31 3 .arraylength 1 := by decide +kernel
theorem d31_4 : dk cD31 4 (.if_icmp .ne 30) 3 := by decide +kernel
theorem d31_7 : dk cD31 7 (.iconst 0) 1 := by decide +kernel
theorem d31_8 : dk cD31 8 (.istore_n 2) 1 := by decide +kernel
theorem d31_9 : dk cD31 9 (.iload_n 2) 1 := by decide +kernel
theorem d31_10 : dk cD31 10 (.aload_n 0) 1 := by decide +kernel
theorem d31_11 : dk cD31 11 .arraylength 1 := by decide +kernel
theorem d31_12 : dk cD31 12 (.if_icmp .ge 20) 3 := by decide +kernel
theorem d31_15 : dk cD31 15 (.aload_n 0) 1 := by decide +kernel
theorem d31_16 : dk cD31 16 (.iload_n 2) 1 := by decide +kernel
theorem d31_17 : dk cD31 17 .baload 1 := by decide +kernel
theorem d31_18 : dk cD31 18 (.aload_n 1) 1 := by decide +kernel
theorem d31_19 : dk cD31 19 (.iload_n 2) 1 := by decide +kernel
theorem d31_20 : dk cD31 20 .baload 1 := by decide +kernel
theorem d31_21 : dk cD31 21 (.if_icmp .eq 5) 3 := by decide +kernel
theorem d31_26 : dk cD31 26 (.iinc 2 1) 3 := by decide +kernel
theorem d31_29 : dk cD31 29 (.goto (-20)) 3 := by decide +kernel
theorem d31_32 : dk cD31 32 (.iconst 1) 1 := by decide +kernel
theorem d31_33 : dk cD31 33 .ireturn 1 := by decide +kernel
theorem d31_24 : dk cD31 24 (.iconst 0) 1 := by decide +kernel
theorem d31_25 : dk cD31 25 .ireturn 1 := by decide +kernel
def Q_rmSL (Z : State) (t : Nat) (t2 : Nat) (kb : ClassId) (kb2 : ClassId) (a_ : Int32) (b_ : Int32) (h0 : Heap) (n0 : Nat) (v : Option Value) (h : Heap) (L : List Loc) : Prop := v = some (.int (own_eqi a_ b_)) ∧ Fr n0 L ∧ h = h0
theorem rmSL (l : Launch) (Z : State) (a0 : Array Value) (hw : own_H Z a0) (ws : List Jvm.Cond) (t : Nat) (t2 : Nat) (kb : ClassId) (kb2 : ClassId) (a_ : Int32) (b_ : Int32) (h0 : Heap) (n0 : Nat) (XO0 : Old Z n0 h0) (V_t : Arv Z h0 t kb .byte (1 : Int32) [(.int (own_lo8 a_))] (.int 0)) (V_u : Arv Z h0 t2 kb2 .byte (1 : Int32) [(.int (own_lo8 b_))] (.int 0)) (hca : own_ch a_) (hcb : own_ch b_) :
  own_M l Z ym31 cD31 ws 3 (some .boolean) (own_R 0 0 0 0) #[(.ref t), (.ref t2)] h0 (Q_rmSL Z t t2 kb kb2 a_ b_ h0 n0) := by
 refine own_open (plainFor_of_name pn_0) ?_
 intro p e s m below meth c s₁ hx hby hlk hret hml hown hnm hZ X0 e0
 have hW := own_hW hw
 have N0 := Fr.nil n0
 refine oo (fun tt_ kk_ => castTop (ef_rmSL m t t2) kk_) ?_
 refine so (A := (s₁.setTop (mkF m 0 #[vr t, vr t2, uu] []))) ?_
 refine oi (XS.aloadN X0.here hx rfl (hb hby d31_0) rfl rfl) ?_
 obtain ⟨cl1, Ar1, q1, S1, Ng1, H1, G1⟩ := id V_t
 refine oo (fun tt_ kk => X0.arraylength hx (by rw [e0]; exact Ar1.1) (State.isArrayOf_alike hZ.alike Ar1.2.1) (g := (mkF m 1 #[vr t, vr t2, uu] [(.ref t)])) rfl rfl (hb hby d31_1) _ (by rw [len_of S1 Ng1]; exact kk)) ?_
 refine oi (XS.aloadN X0.here hx rfl (hb hby d31_2) rfl rfl) ?_
 obtain ⟨cl2, Ar2, q2, S2, Ng2, H2, G2⟩ := id V_u
 refine oo (fun tt_ kk => X0.arraylength hx (by rw [e0]; exact Ar2.1) (State.isArrayOf_alike hZ.alike Ar2.2.1) (g := (mkF m 3 #[vr t, vr t2, uu] [(.ref t2), (.int 1)])) rfl rfl (hb hby d31_3) _ (by rw [len_of S2 Ng2]; exact kk)) ?_
 have hb4_3 : (1 : Int32) = (1 : Int32) := by decide
 refine oi (XS.icmpNo X0.here hx rfl (hb hby d31_4) rfl (teq hb4_3).2) ?_
 refine oi (XS.iconst X0.here hx rfl (hb hby d31_7)) ?_
 refine oi (XS.istoreN X0.here hx rfl (hb hby d31_8) rfl (l' := #[vr t, vr t2, vz]) rfl) ?_
 refine oi (XS.iloadN X0.here hx rfl (hb hby d31_9) rfl) ?_
 refine oi (XS.aloadN X0.here hx rfl (hb hby d31_10) rfl rfl) ?_
 obtain ⟨cl4, Ar4, q4, S4, Ng4, H4, G4⟩ := id V_t
 refine oo (fun tt_ kk => X0.arraylength hx (by rw [e0]; exact Ar4.1) (State.isArrayOf_alike hZ.alike Ar4.2.1) (g := (mkF m 11 #[vr t, vr t2, vz] [(.ref t), (.int 0)])) rfl rfl (hb hby d31_11) _ (by rw [len_of S4 Ng4]; exact kk)) ?_
 have hb12_5 : (0 : Int32) < (1 : Int32) := by decide
 refine oi (XS.icmpNo X0.here hx rfl (hb hby d31_12) rfl (tlt hb12_5).2.1) ?_
 refine oi (XS.aloadN X0.here hx rfl (hb hby d31_15) rfl rfl) ?_
 refine oi (XS.iloadN X0.here hx rfl (hb hby d31_16) rfl) ?_
 obtain ⟨cl6, Ar6, q6, S6, Ng6, H6, G6⟩ := id V_t
 have hin6 : ¬ ((0 : Int32) < 0 ∨ cl6.slots.size ≤ ((0 : Int32)).toNatClampNeg) := inb_of S6 ⟨by decide, by decide⟩
 have hat6 : cl6.slots[((0 : Int32)).toNatClampNeg]? = some (.int (own_lo8 a_)) := H6 0 (by rw [S6]; decide)
 refine oo (fun _ => X0.baloadBytes hx (j := (0 : Int32)) (v := (.int (own_lo8 a_))) (by rw [e0]; exact Ar6.1) (State.isArrayOf_alike hZ.alike Ar6.2.1) Ar6.2.2 hin6 hat6 (g := (mkF m 17 #[vr t, vr t2, vz] [(.int 0), (.ref t)])) rfl rfl (hb hby d31_17) _) ?_
 refine oi (XS.aloadN X0.here hx rfl (hb hby d31_18) rfl rfl) ?_
 refine oi (XS.iloadN X0.here hx rfl (hb hby d31_19) rfl) ?_
 refine so (A := (s₁.setTop (mkF m 20 #[vr t, vr t2, vz] [(.int 0), (.ref t2), (.int (own_lo8 a_))]))) ?_
 obtain ⟨cl7, Ar7, q7, S7, Ng7, H7, G7⟩ := id V_u
 have hin7 : ¬ ((0 : Int32) < 0 ∨ cl7.slots.size ≤ ((0 : Int32)).toNatClampNeg) := inb_of S7 ⟨by decide, by decide⟩
 have hat7 : cl7.slots[((0 : Int32)).toNatClampNeg]? = some (.int (own_lo8 b_)) := H7 0 (by rw [S7]; decide)
 refine oo (fun _ => X0.baloadBytes hx (j := (0 : Int32)) (v := (.int (own_lo8 b_))) (by rw [e0]; exact Ar7.1) (State.isArrayOf_alike hZ.alike Ar7.2.1) Ar7.2.2 hin7 hat7 (g := (mkF m 20 #[vr t, vr t2, vz] [(.int 0), (.ref t2), (.int (own_lo8 a_))])) rfl rfl (hb hby d31_20) _) ?_
 by_cases hb21_8 : (own_lo8 a_) = (own_lo8 b_)
 ·refine oi (XS.icmpYes X0.here hx rfl (pc0 := 21) (pc' := 26) rfl (hb hby d31_21) rfl (teq hb21_8).1 (by decide) (by decide)) ?_
  refine so (A := (s₁.setTop (mkF m 26 #[vr t, vr t2, vz] []))) ?_
  refine oi (XS.iinc X0.here hx rfl (hb hby d31_26) rfl (l' := #[vr t, vr t2, vi 1]) rfl) ?_
  refine oi (XS.goto X0.here hx rfl (pc0 := 29) (pc' := 9) rfl (hb hby d31_29) (by decide) (by decide)) ?_
  refine oi (XS.iloadN X0.here hx rfl (hb hby d31_9) rfl) ?_
  refine oi (XS.aloadN X0.here hx rfl (hb hby d31_10) rfl rfl) ?_
  obtain ⟨cl9, Ar9, q9, S9, Ng9, H9, G9⟩ := id V_t
  refine oo (fun tt_ kk => X0.arraylength hx (by rw [e0]; exact Ar9.1) (State.isArrayOf_alike hZ.alike Ar9.2.1) (g := (mkF m 11 #[vr t, vr t2, vi 1] [(.ref t), (.int 1)])) rfl rfl (hb hby d31_11) _ (by rw [len_of S9 Ng9]; exact kk)) ?_
  have hb12_10 : ¬ ((1 : Int32) < (1 : Int32)) := by decide
  refine oi (XS.icmpYes X0.here hx rfl (pc0 := 12) (pc' := 32) rfl (hb hby d31_12) rfl (flt hb12_10).2.1 (by decide) (by decide)) ?_
  refine oi (XS.iconst X0.here hx rfl (hb hby d31_32)) ?_
  refine so (A := (s₁.setTop (mkF m 33 #[vr t, vr t2, vi 1] [(.int 1)]))) ?_
  refine own_ret X0 hx hlk hret rfl (Or.inl ⟨rfl, by simp, _, rfl⟩) (hb hby d31_33) (by decide) (by decide) ?_
  rw [e0]
  exact ⟨by rw [show own_eqi a_ b_ = _ from if_pos (own_lo_inj hca hcb hb21_8)], N0, rfl⟩
 ·refine oi (XS.icmpNo X0.here hx rfl (hb hby d31_21) rfl (feq hb21_8).1) ?_
  refine so (A := (s₁.setTop (mkF m 24 #[vr t, vr t2, vz] []))) ?_
  refine oi (XS.iconst X0.here hx rfl (hb hby d31_24)) ?_
  refine so (A := (s₁.setTop (mkF m 25 #[vr t, vr t2, vz] [(.int 0)]))) ?_
  refine own_ret X0 hx hlk hret rfl (Or.inl ⟨rfl, by simp, _, rfl⟩) (hb hby d31_25) (by decide) (by decide) ?_
  rw [e0]
  exact ⟨by rw [show own_eqi a_ b_ = _ from if_neg (fun q => hb21_8 (by rw [q]))], N0, rfl⟩
theorem ef_rmEq (m : MethodId) (x0 : Nat) (x1 : Nat) : entryFrame m #[(.ref x0), (.ref x1)] 3 = mkF m 0 #[vr x0, vr x1, uu] [] := by first | (simp [entryFrame, mkF, argsToLocals, Value.category]; done) | rfl
theorem d30_0 : dk cD30 0 (.aload_n 0) 1 := by decide +kernel
theorem d30_1 : dk cD30 1 (.aload_n 1) 1 := by decide +kernel
theorem d30_2 : dk cD30 2 (.if_acmp .ne 5) 3 := by decide +kernel
theorem d30_7 : dk cD30 7 (.aload_n 1) 1 := by decide +kernel
theorem d30_8 : dk cD30 8 (.instanceof 10) 3 := by decide +kernel
theorem d30_11 : dk cD30 11 (.ifCond .eq 43) 3 := by decide +kernel
theorem d30_14 : dk cD30 14 (.aload_n 1) 1 := by decide +kernel
theorem d30_15 : dk cD30 15 (.checkcast 10) 3 := by decide +kernel
theorem d30_18 : dk cD30 18 (.astore_n 2) 1 := by decide +kernel
theorem d30_19 : dk cD30 19 (.getstatic 38) 3 := by decide +kernel
theorem d30_22 : dk cD30 22 (.ifCond .eq 14) 3 := by decide +kernel
theorem d30_25 : dk cD30 25 (.aload_n 0) 1 := by decide +kernel
theorem d30_26 : dk cD30 26 (.getfield 15) 3 := by decide +kernel
theorem d30_29 : dk cD30 29 (.aload_n 2) 1 := by decide +kernel
theorem d30_30 : dk cD30 30 (.getfield 15) 3 := by decide +kernel
theorem d30_33 : dk cD30 33 (.if_icmp .ne 21) 3 := by decide +kernel
theorem d30_36 : dk cD30 36 (.aload_n 0) 1 := by decide +kernel
theorem d30_37 : dk cD30 37 (.getfield 9) 3 := by decide +kernel
theorem d30_40 : dk cD30 40 (.aload_n 2) 1 := by decide +kernel
theorem d30_41 : dk cD30 41 (.getfield 9) 3 := by decide +kernel
theorem d30_44 : dk cD30 44 (.invokestatic 541) 3 := by decide +kernel
theorem pd_9 : parseMethodDescriptor "([B[B)Z" = some ⟨[(.array .byte), (.array .byte)], some .boolean⟩ := by decide +kernel
theorem d30_47 : dk cD30 47 (.ifCond .eq 7) 3 := by decide +kernel
theorem d30_54 : dk cD30 54 (.iconst 0) 1 := by decide +kernel
theorem d30_55 : dk cD30 55 .ireturn 1 := by decide +kernel
theorem d30_50 : dk cD30 50 (.iconst 1) 1 := by decide +kernel
theorem d30_51 : dk cD30 51 (.goto 4) 3 := by decide +kernel
def Q_rmEq (Z : State) (x : Nat) (t : Nat) (x2 : Nat) (t2 : Nat) (a_ : Int32) (b_ : Int32) (Gc : Int32) (h0 : Heap) (n0 : Nat) (v : Option Value) (h : Heap) (L : List Loc) : Prop := v = some (.int (own_eqi a_ b_)) ∧ Fr n0 L ∧ h = h0
theorem rmEq (l : Launch) (Z : State) (a0 : Array Value) (hw : own_H Z a0) (ws : List Jvm.Cond) (x : Nat) (t : Nat) (x2 : Nat) (t2 : Nat) (a_ : Int32) (b_ : Int32) (Gc : Int32) (h0 : Heap) (n0 : Nat) (XO0 : Old Z n0 h0) (Oc : Sta Z Z.heap "java/lang/String" "COMPACT_STRINGS" "Z" (.int Gc)) (Pc : ¬ (Gc = (0 : Int32))) (S_1 : own_st Z h0 x t a_) (S_2 : own_st Z h0 x2 t2 b_) (n_x : ¬ x = x2) :
  own_M l Z ym30 cD30 ws 3 (some .boolean) (own_R 1 0 0 14) #[(.ref x), (.ref x2)] h0 (Q_rmEq Z x t x2 t2 a_ b_ Gc h0 n0) := by
 refine own_open (plainFor_of_name pn_1) ?_
 intro p e s m below meth c s₁ hx hby hlk hret hml hown hnm hZ X0 e0
 have hW := own_hW hw
 have N0 := Fr.nil n0
 refine oo (fun tt_ kk_ => castTop (ef_rmEq m x x2) kk_) ?_
 refine so (A := (s₁.setTop (mkF m 0 #[vr x, vr x2, uu] []))) ?_
 obtain ⟨hca, kb, E_1, F_1, C_1, V_1⟩ := id S_1
 obtain ⟨hcb, kb2, E_2, F_2, C_2, V_2⟩ := id S_2
 refine oi (XS.aloadN X0.here hx rfl (hb hby d30_0) rfl rfl) ?_
 refine oi (XS.aloadN X0.here hx rfl (hb hby d30_1) rfl rfl) ?_
 have hb2_1 : ¬ (x = x2) := n_x
 refine oo (fun _ => Jvm.RoadKit.acmp (g := (mkF m 2 #[vr x, vr x2, uu] [(.ref x2), (.ref x)])) X0 hx rfl rfl rfl (pc0 := 2) (pc' := 7) (same := false) rfl (hb hby d30_2) rfl (decide_eq_false fun q => hb2_1 (Value.ref.inj q)) (by decide) (by decide)) ?_
 refine so (A := (s₁.setTop (mkF m 7 #[vr x, vr x2, uu] []))) ?_
 refine oi (XS.aloadN X0.here hx rfl (hb hby d30_7) rfl rfl) ?_
 obtain ⟨T2, X2, e2, st2⟩ := instY X0 hx hZ hown (hW 36 _ rfl) e0 (Ins.self E_2) (g := (mkF m 8 #[vr x, vr x2, uu] [(.ref x2)])) rfl rfl (hb hby d30_8)
 refine oo st2 ?_
 have hb11_3 : ¬ ((1 : Int32) = (0 : Int32)) := by decide
 refine oi (XS.ifNo X2.here hx rfl (hb hby d30_11) rfl ((if0 _ _).trans (feq hb11_3).1)) ?_
 refine oi (XS.aloadN X2.here hx rfl (hb hby d30_14) rfl rfl) ?_
 obtain ⟨T4, X4, e4, st4⟩ := castY X2 hx hZ hown (hW 36 _ rfl) e2 (Ins.self E_2) (g := (mkF m 15 #[vr x, vr x2, uu] [(.ref x2)])) rfl rfl (hb hby d30_15)
 refine oo st4 ?_
 refine oi (XS.astoreN X4.here hx rfl (hb hby d30_18) rfl rfl (l' := #[vr x, vr x2, vr x2]) rfl) ?_
 obtain ⟨T5, X5, e5, st5⟩ := getS2 X4 hx hZ hown (host := "") (Or.inl (hW 31 _ rfl)) Via.refl e4 (Oc.ext XO0.2) (g := (mkF m 19 #[vr x, vr x2, vr x2] [])) rfl (hb hby d30_19)
 refine oo st5 ?_
 have hb22_6 : ¬ (Gc = (0 : Int32)) := Pc
 refine oi (XS.ifNo X5.here hx rfl (hb hby d30_22) rfl ((if0 _ _).trans (feq hb22_6).1)) ?_
 refine so (A := (T5.setTop (mkF m 25 #[vr x, vr x2, vr x2] []))) ?_
 refine oi (XS.aloadN X5.here hx rfl (hb hby d30_25) rfl rfl) ?_
 obtain ⟨T7, X7, e7, st7⟩ := getF X5 hx hZ hown (host := "") (Or.inl (hW 49 _ rfl)) Via.refl e5 C_1 (g := (mkF m 26 #[vr x, vr x2, vr x2] [(.ref x)])) rfl rfl (hb hby d30_26)
 refine oo st7 ?_
 refine oi (XS.aloadN X7.here hx rfl (hb hby d30_29) rfl rfl) ?_
 obtain ⟨T8, X8, e8, st8⟩ := getF X7 hx hZ hown (host := "") (Or.inl (hW 49 _ rfl)) Via.refl e7 C_2 (g := (mkF m 30 #[vr x, vr x2, vr x2] [(.ref x2), (.int 0)])) rfl rfl (hb hby d30_30)
 refine oo st8 ?_
 have hb33_9 : (0 : Int32) = (0 : Int32) := by decide
 refine oi (XS.icmpNo X8.here hx rfl (hb hby d30_33) rfl (teq hb33_9).2) ?_
 refine oi (XS.aloadN X8.here hx rfl (hb hby d30_36) rfl rfl) ?_
 obtain ⟨T10, X10, e10, st10⟩ := getF X8 hx hZ hown (host := "") (Or.inl (hW 47 _ rfl)) Via.refl e8 F_1 (g := (mkF m 37 #[vr x, vr x2, vr x2] [(.ref x)])) rfl rfl (hb hby d30_37)
 refine oo st10 ?_
 refine so (A := (T10.setTop (mkF m 40 #[vr x, vr x2, vr x2] [(.ref t)]))) ?_
 refine oi (XS.aloadN X10.here hx rfl (hb hby d30_40) rfl rfl) ?_
 obtain ⟨T11, X11, e11, st11⟩ := getF X10 hx hZ hown (host := "") (Or.inl (hW 47 _ rfl)) Via.refl e10 F_2 (g := (mkF m 41 #[vr x, vr x2, vr x2] [(.ref x2), (.ref t)])) rfl rfl (hb hby d30_41)
 refine oo st11 ?_
 refine so (A := (T11.setTop (mkF m 44 #[vr x, vr x2, vr x2] [(.ref t2), (.ref t)]))) ?_
 obtain ⟨_, T12, Lc12, X12, hQ12, st12⟩ := own_c1 X11 <| Jvm.LawKit.callS X11 hx (y := ym31) hown (mvT hZ (hW 214 _ rfl)) (mvT hZ (hW 215 _ rfl)) (mvT hZ (hW 34 _ rfl)) (mvT hZ (hW 216 _ rfl)) (by decide) (backOf (W := 0) (rmSL l Z a0 hw [] t t2 kb kb2 a_ b_ h0 n0 XO0 V_1 V_2 hca hcb) hZ (hW 216 _ rfl) (hW 34 _ rfl) (by decide) (by decide)) (g := (mkF m 44 #[vr x, vr x2, vr x2] [(.ref t2), (.ref t)])) rfl (by rw [hml]; rfl) (argsL := [(.ref t), (.ref t2)]) (rest := []) (lenOf pd_9 rfl) rfl (Nat.le_of_eq rfl) (hb hby d30_44) (fun _ _ => ⟨rfl, e11, (by decide : 0 + 0 ≤ _), (by decide : 0 + 0 ≤ _)⟩)
 obtain ⟨rfl, Nq12, eh12⟩ := hQ12
 have N12 := Fr.app N0 Nq12
 refine oo st12 ?_
 by_cases hb47_13 : (own_eqi a_ b_) = (0 : Int32)
 ·refine oi (XS.ifYes X12.here hx rfl (pc0 := 47) (pc' := 54) rfl (hb hby d30_47) rfl ((if0 _ _).trans (teq hb47_13).1) (by decide) (by decide)) ?_
  refine so (A := (T12.setTop (mkF m 54 #[vr x, vr x2, vr x2] []))) ?_
  refine oi (XS.iconst X12.here hx rfl (hb hby d30_54)) ?_
  refine so (A := (T12.setTop (mkF m 55 #[vr x, vr x2, vr x2] [(.int 0)]))) ?_
  refine own_ret X12 hx hlk hret rfl (Or.inl ⟨rfl, by simp, _, rfl⟩) (hb hby d30_55) (by decide) (by decide) ?_
  rw [eh12]
  exact ⟨by rw [show own_eqi a_ b_ = 0 from hb47_13], N12, rfl⟩
 ·refine oi (XS.ifNo X12.here hx rfl (hb hby d30_47) rfl ((if0 _ _).trans (feq hb47_13).1)) ?_
  refine so (A := (T12.setTop (mkF m 50 #[vr x, vr x2, vr x2] []))) ?_
  refine oi (XS.iconst X12.here hx rfl (hb hby d30_50)) ?_
  refine oi (XS.goto X12.here hx rfl (pc0 := 51) (pc' := 55) rfl (hb hby d30_51) (by decide) (by decide)) ?_
  refine so (A := (T12.setTop (mkF m 55 #[vr x, vr x2, vr x2] [(.int 1)]))) ?_
  refine own_ret X12 hx hlk hret rfl (Or.inl ⟨rfl, by simp, _, rfl⟩) (hb hby d30_55) (by decide) (by decide) ?_
  rw [eh12]
  exact ⟨by rw [show own_eqi a_ b_ = 1 from by unfold own_eqi at *; split <;> simp_all], N12, rfl⟩
theorem ef_rmR (m : MethodId) (x0 : Nat) : entryFrame m #[(.ref x0)] 1 = mkF m 0 #[vr x0] [] := by first | (simp [entryFrame, mkF, argsToLocals, Value.category]; done) | rfl
theorem pn_6 : plainName "java/lang/Record" = true := by first | (simp [plainName, overriddenIn]; done) | decide +kernel
theorem d21_0 : dk cD21 0 (.aload_n 0) 1 := by decide +kernel
theorem d21_1 : dk cD21 1 (.invokespecial 1) 3 := by decide +kernel
theorem d21_4 : dk cD21 4 .return_ 1 := by decide +kernel
def Q_rmR (Z : State) (y : Nat) (h0 : Heap) (n0 : Nat) (v : Option Value) (h : Heap) (L : List Loc) : Prop := v = none ∧ Fr n0 L ∧ h = h0
theorem rmR (l : Launch) (Z : State) (a0 : Array Value) (hw : own_H Z a0) (ws : List Jvm.Cond) (y : Nat) (h0 : Heap) (n0 : Nat) (XO0 : Old Z n0 h0) :
  own_M l Z ym21 cD21 ws 1 none (own_R 1 0 0 12) #[(.ref y)] h0 (Q_rmR Z y h0 n0) := by
 refine own_open (plainFor_of_name pn_6) ?_
 intro p e s m below meth c s₁ hx hby hlk hret hml hown hnm hZ X0 e0
 have hW := own_hW hw
 have N0 := Fr.nil n0
 refine oo (fun tt_ kk_ => castTop (ef_rmR m y) kk_) ?_
 refine so (A := (s₁.setTop (mkF m 0 #[vr y] []))) ?_
 refine oi (XS.aloadN X0.here hx rfl (hb hby d21_0) rfl rfl) ?_
 obtain ⟨T1, X1, e1, st1⟩ := initO X0 hx hZ hown (hW 158 _ rfl) (hW 20 _ rfl) (hW 21 _ rfl) e0 (g := (mkF m 1 #[vr y] [(.ref y)])) rfl (by rw [hml]; rfl) rfl (hb hby d21_1) (by decide) (W := 0) (Nat.le_of_eq rfl) (by decide)
 refine oo st1 ?_
 refine so (A := (T1.setTop (mkF m 4 #[vr y] []))) ?_
 refine own_retV X1 hx hlk hret (hb hby d21_4) (by decide) (by decide) ?_
 rw [e1]
 exact ⟨rfl, N0, rfl⟩
theorem ef_rmPI (m : MethodId) (x0 : Nat) (x1 : Nat) (x2 : Nat) : entryFrame m #[(.ref x0), (.ref x1), (.ref x2)] 3 = mkF m 0 #[vr x0, vr x1, vr x2] [] := by first | (simp [entryFrame, mkF, argsToLocals, Value.category]; done) | rfl
theorem pn_7 : plainName "com/example/practory/practory/server/SearchQuery$Parameter" = true := by first | (simp [plainName, overriddenIn]; done) | decide +kernel
theorem d20_0 : dk cD20 0 (.aload_n 0) 1 := by decide +kernel
theorem d20_1 : dk cD20 1 (.invokespecial 1) 3 := by decide +kernel
theorem d20_4 : dk cD20 4 (.aload_n 0) 1 := by decide +kernel
theorem d20_5 : dk cD20 5 (.aload_n 1) 1 := by decide +kernel
theorem d20_6 : dk cD20 6 (.putfield 7) 3 := by decide +kernel
theorem pf_5 : parseFieldDescriptor "Ljava/lang/String;" = some (.object "java/lang/String") := by decide +kernel
theorem d20_9 : dk cD20 9 (.aload_n 0) 1 := by decide +kernel
theorem d20_10 : dk cD20 10 (.aload_n 2) 1 := by decide +kernel
theorem d20_11 : dk cD20 11 (.putfield 13) 3 := by decide +kernel
theorem d20_14 : dk cD20 14 .return_ 1 := by decide +kernel
def Q_rmPI (Z : State) (y : Nat) (x : Nat) (x2 : Nat) (h0 : Heap) (n0 : Nat) (v : Option Value) (h : Heap) (L : List Loc) : Prop := v = none ∧ Fr n0 L ∧ Keep h0 h [y] ∧ Exa Z h y "com/example/practory/practory/server/SearchQuery$Parameter" ∧ Fld Z h y "com/example/practory/practory/server/SearchQuery$Parameter" "name" "Ljava/lang/String;" (.ref x) ∧ Fld Z h y "com/example/practory/practory/server/SearchQuery$Parameter" "value" "Ljava/lang/String;" (.ref x2)
theorem rmPI (l : Launch) (Z : State) (a0 : Array Value) (hw : own_H Z a0) (ws : List Jvm.Cond) (y : Nat) (x : Nat) (x2 : Nat) (h0 : Heap) (n0 : Nat) (XO0 : Old Z n0 h0) (g_y : n0 ≤ y) (E_y : Exa Z h0 y "com/example/practory/practory/server/SearchQuery$Parameter") (F_a : Fld Z h0 y "com/example/practory/practory/server/SearchQuery$Parameter" "name" "Ljava/lang/String;" .null) (F_b : Fld Z h0 y "com/example/practory/practory/server/SearchQuery$Parameter" "value" "Ljava/lang/String;" .null) :
  own_M l Z ym20 cD20 ws 3 none (own_R 2 0 0 24) #[(.ref y), (.ref x), (.ref x2)] h0 (Q_rmPI Z y x x2 h0 n0) := by
 refine own_open (plainFor_of_name pn_7) ?_
 intro p e s m below meth c s₁ hx hby hlk hret hml hown hnm hZ X0 e0
 have hW := own_hW hw
 have N0 := Fr.nil n0
 refine oo (fun tt_ kk_ => castTop (ef_rmPI m y x x2) kk_) ?_
 refine so (A := (s₁.setTop (mkF m 0 #[vr y, vr x, vr x2] []))) ?_
 have K0_ : Keep h0 h0 [y] := Keep.refl h0 [y]
 have lt_y := olt E_y.lt
 refine oi (XS.aloadN X0.here hx rfl (hb hby d20_0) rfl rfl) ?_
 refine so (A := (s₁.setTop (mkF m 1 #[vr y, vr x, vr x2] [(.ref y)]))) ?_
 obtain ⟨_, T1, Lc1, X1, hQ1, st1⟩ := own_c1 X0 <| X0.specialBack hx (y := ym21) rfl hown (mvT hZ (hW 153 _ rfl)) (mvT hZ (hW 154 _ rfl)) (mvT hZ (hW 157 _ rfl)) (by decide) (backOf (W := 0) (rmR l Z a0 hw [] y h0 n0 XO0) hZ (hW 157 _ rfl) (hW 156 _ rfl) (by decide) (by decide)) (g := (mkF m 1 #[vr y, vr x, vr x2] [(.ref y)])) rfl (by rw [hml]; rfl) (Steps.refl _) (a := y) (argsL := []) (rest := []) (lenOf pd_3 rfl) rfl (Nat.le_of_eq rfl) (hb hby d20_1) (fun _ _ => ⟨rfl, e0, (by decide : 0 + 0 ≤ _), (by decide : 0 + 0 ≤ _)⟩)
 obtain ⟨rfl, Nq1, eh1⟩ := hQ1
 have N1 := Fr.app N0 Nq1
 refine oo (fun tt_ kk_ => st1.trans kk_) ?_
 refine oi (XS.aloadN X1.here hx rfl (hb hby d20_4) rfl rfl) ?_
 refine oi (XS.aloadN X1.here hx rfl (hb hby d20_5) rfl rfl) ?_
 obtain ⟨T2, h2, X2, e2, W2, st2⟩ := putF X1 hx hZ hown (host := "") (Or.inl (hW 159 _ rfl)) Via.refl eh1 F_a E_y (Or.inr ⟨(hW 160 _ rfl), rfl, hnm⟩) (hW 148 _ rfl) (ty := (.object "java/lang/String")) pf_5 rfl rfl (g := (mkF m 6 #[vr y, vr x, vr x2] [(.ref x), (.ref y)])) rfl rfl (hb hby d20_6)
 refine oo st2 ?_
 have N2 := Fr.snoc X2 N1 (by omega : n0 ≤ y)
 have sz2 : h2.size = h0.size := W2.size
 have O2 : Old Z n0 h2 := XO0.wr W2 (by omega)
 have K2 : Keep h0 h2 [y] := K0_.wr W2 (Or.inl (List.mem_of_getElem? (i := 0) rfl))
 have Fw2 := F_a.same W2
 refine oi (XS.aloadN X2.here hx rfl (hb hby d20_9) rfl rfl) ?_
 refine oi (XS.aloadN X2.here hx rfl (hb hby d20_10) rfl rfl) ?_
 have f3 : Exa Z h2 y "com/example/practory/practory/server/SearchQuery$Parameter" := (E_y.wr W2)
 have f4 : Fld Z h2 y "com/example/practory/practory/server/SearchQuery$Parameter" "value" "Ljava/lang/String;" .null := (F_b.other W2 (Or.inr (slot_ne (Or.inr (hW 162 _ rfl)) (Or.inr (hW 160 _ rfl)) (by decide) pf_5 pf_5)))
 obtain ⟨T5, h5, X5, e5, W5, st5⟩ := putF X2 hx hZ hown (host := "") (Or.inl (hW 161 _ rfl)) Via.refl e2 f4 f3 (Or.inr ⟨(hW 162 _ rfl), rfl, hnm⟩) (hW 148 _ rfl) (ty := (.object "java/lang/String")) pf_5 rfl rfl (g := (mkF m 11 #[vr y, vr x, vr x2] [(.ref x2), (.ref y)])) rfl rfl (hb hby d20_11)
 refine oo st5 ?_
 have N5 := Fr.snoc X5 N2 (by omega : n0 ≤ y)
 have sz5 : h5.size = h2.size := W5.size
 have O5 : Old Z n0 h5 := O2.wr W5 (by omega)
 have K5 : Keep h0 h5 [y] := K2.wr W5 (Or.inl (List.mem_of_getElem? (i := 0) rfl))
 have Fw5 := f4.same W5
 refine so (A := (T5.setTop (mkF m 14 #[vr y, vr x, vr x2] []))) ?_
 refine own_retV X5 hx hlk hret (hb hby d20_14) (by decide) (by decide) ?_
 rw [e5]
 have f6 : Exa Z h5 y "com/example/practory/practory/server/SearchQuery$Parameter" := (f3.wr W5)
 have f7 : Fld Z h5 y "com/example/practory/practory/server/SearchQuery$Parameter" "name" "Ljava/lang/String;" (.ref x) := (Fw2.other W5 (Or.inr (slot_ne (Or.inr (hW 160 _ rfl)) (Or.inr (hW 162 _ rfl)) (by decide) pf_5 pf_5)))
 exact ⟨rfl, N5, K5, f6, f7, Fw5⟩
theorem ef_rmN_name (m : MethodId) (x0 : Nat) : entryFrame m #[(.ref x0)] 1 = mkF m 0 #[vr x0] [] := by first | (simp [entryFrame, mkF, argsToLocals, Value.category]; done) | rfl
theorem d29_0 : dk cD29 0 (.aload_n 0) 1 := by decide +kernel
theorem d29_1 : dk cD29 1 (.getfield 7) 3 := by decide +kernel
theorem d29_4 : dk cD29 4 .areturn 1 := by decide +kernel
def Q_rmN_name (Z : State) (y : Nat) (x : Nat) (h0 : Heap) (n0 : Nat) (v : Option Value) (h : Heap) (L : List Loc) : Prop := v = some (.ref x) ∧ Fr n0 L ∧ h = h0
theorem rmN_name (l : Launch) (Z : State) (a0 : Array Value) (hw : own_H Z a0) (ws : List Jvm.Cond) (y : Nat) (x : Nat) (h0 : Heap) (n0 : Nat) (XO0 : Old Z n0 h0) (F_a : Fld Z h0 y "com/example/practory/practory/server/SearchQuery$Parameter" "name" "Ljava/lang/String;" (.ref x)) :
  own_M l Z ym29 cD29 ws 1 (some (.object "java/lang/String")) (own_R 0 0 0 0) #[(.ref y)] h0 (Q_rmN_name Z y x h0 n0) := by
 refine own_open (plainFor_of_name pn_7) ?_
 intro p e s m below meth c s₁ hx hby hlk hret hml hown hnm hZ X0 e0
 have hW := own_hW hw
 have N0 := Fr.nil n0
 refine oo (fun tt_ kk_ => castTop (ef_rmN_name m y) kk_) ?_
 refine so (A := (s₁.setTop (mkF m 0 #[vr y] []))) ?_
 refine oi (XS.aloadN X0.here hx rfl (hb hby d29_0) rfl rfl) ?_
 obtain ⟨T1, X1, e1, st1⟩ := getF X0 hx hZ hown (host := "") (Or.inl (hW 159 _ rfl)) Via.refl e0 F_a (g := (mkF m 1 #[vr y] [(.ref y)])) rfl rfl (hb hby d29_1)
 refine oo st1 ?_
 refine so (A := (T1.setTop (mkF m 4 #[vr y] [(.ref x)]))) ?_
 refine own_ret X1 hx hlk hret rfl (Or.inr (Or.inr (Or.inr (Or.inr ⟨rfl, rfl, rfl⟩)))) (hb hby d29_4) (by decide) (by decide) ?_
 rw [e1]
 exact ⟨rfl, N0, rfl⟩
theorem ef_rmN_value (m : MethodId) (x0 : Nat) : entryFrame m #[(.ref x0)] 1 = mkF m 0 #[vr x0] [] := by first | (simp [entryFrame, mkF, argsToLocals, Value.category]; done) | rfl
theorem d36_0 : dk cD36 0 (.aload_n 0) 1 := by decide +kernel
theorem d36_1 : dk cD36 1 (.getfield 13) 3 := by decide +kernel
theorem d36_4 : dk cD36 4 .areturn 1 := by decide +kernel
def Q_rmN_value (Z : State) (y : Nat) (x2 : Nat) (h0 : Heap) (n0 : Nat) (v : Option Value) (h : Heap) (L : List Loc) : Prop := v = some (.ref x2) ∧ Fr n0 L ∧ h = h0
theorem rmN_value (l : Launch) (Z : State) (a0 : Array Value) (hw : own_H Z a0) (ws : List Jvm.Cond) (y : Nat) (x2 : Nat) (h0 : Heap) (n0 : Nat) (XO0 : Old Z n0 h0) (F_a : Fld Z h0 y "com/example/practory/practory/server/SearchQuery$Parameter" "value" "Ljava/lang/String;" (.ref x2)) :
  own_M l Z ym36 cD36 ws 1 (some (.object "java/lang/String")) (own_R 0 0 0 0) #[(.ref y)] h0 (Q_rmN_value Z y x2 h0 n0) := by
 refine own_open (plainFor_of_name pn_7) ?_
 intro p e s m below meth c s₁ hx hby hlk hret hml hown hnm hZ X0 e0
 have hW := own_hW hw
 have N0 := Fr.nil n0
 refine oo (fun tt_ kk_ => castTop (ef_rmN_value m y) kk_) ?_
 refine so (A := (s₁.setTop (mkF m 0 #[vr y] []))) ?_
 refine oi (XS.aloadN X0.here hx rfl (hb hby d36_0) rfl rfl) ?_
 obtain ⟨T1, X1, e1, st1⟩ := getF X0 hx hZ hown (host := "") (Or.inl (hW 161 _ rfl)) Via.refl e0 F_a (g := (mkF m 1 #[vr y] [(.ref y)])) rfl rfl (hb hby d36_1)
 refine oo st1 ?_
 refine so (A := (T1.setTop (mkF m 4 #[vr y] [(.ref x2)]))) ?_
 refine own_ret X1 hx hlk hret rfl (Or.inr (Or.inr (Or.inr (Or.inr ⟨rfl, rfl, rfl⟩)))) (hb hby d36_4) (by decide) (by decide) ?_
 rw [e1]
 exact ⟨rfl, N0, rfl⟩
theorem ef_rmC3_1 (m : MethodId) (x0 : Nat) (x1 : Int32) (x2 : Nat) : entryFrame m #[(.ref x0), (.int x1), (.ref x2)] 4 = mkF m 0 #[vr x0, vi x1, vr x2, uu] [] := by first | (simp [entryFrame, mkF, argsToLocals, Value.category]; done) | rfl
theorem pn_8 : plainName "java/util/Arrays" = true := by first | (simp [plainName, overriddenIn]; done) | decide +kernel
theorem d16_0 : dk cD16 0 (.aload_n 2) 1 := by decide +kernel
theorem d16_1 : dk cD16 1 (.ldc 110) 2 := by decide +kernel
theorem d16_3 : dk cD16 3 (.if_acmp .ne 10) 3 := by decide +kernel
theorem d16_6 : dk cD16 6 (.iload_n 1) 1 := by decide +kernel
theorem d16_7 : dk cD16 7 (.anewarray 2) 3 := by decide +kernel
theorem d16_10 : dk cD16 10 (.goto 14) 3 := by decide +kernel
theorem d16_24 : dk cD16 24 (.astore_n 3) 1 := by decide +kernel
theorem d16_25 : dk cD16 25 (.aload_n 0) 1 := by decide +kernel
theorem d16_26 : dk cD16 26 (.iconst 0) 1 := by decide +kernel
theorem d16_27 : dk cD16 27 (.aload_n 3) 1 := by decide +kernel
theorem d16_28 : dk cD16 28 (.iconst 0) 1 := by decide +kernel
theorem d16_29 : dk cD16 29 (.aload_n 0) 1 := by decide +kernel
theorem d16_30 : dk cD16 30 .arraylength 1 := by decide +kernel
theorem d16_31 : dk cD16 31 (.iload_n 1) 1 := by decide +kernel
theorem d16_32 : dk cD16 32 (.invokestatic 304) 3 := by decide +kernel
theorem d16_35 : dk cD16 35 (.invokestatic 150) 3 := by decide +kernel
theorem d16_38 : dk cD16 38 (.aload_n 3) 1 := by decide +kernel
theorem d16_39 : dk cD16 39 .areturn 1 := by decide +kernel
def Q_rmC3_1 (Z : State) (dq : Nat) (kd : ClassId) (mr : Nat) (h0 : Heap) (n0 : Nat) (v : Option Value) (h : Heap) (L : List Loc) : Prop := ∃ (ar : Nat) (kr : ClassId), v = some (.ref ar) ∧ Fr n0 L ∧ Keep h0 h [] ∧ h0.size ≤ ar ∧ ar < h.size ∧ Arv Z h ar kr (.object "java/lang/Object") (0 : Int32) ([]) .null
theorem rmC3_1 (l : Launch) (Z : State) (a0 : Array Value) (hw : own_H Z a0) (ws : List Jvm.Cond) (dq : Nat) (kd : ClassId) (mr : Nat) (h0 : Heap) (n0 : Nat) (XO0 : Old Z n0 h0) (S_d : Sta Z Z.heap "java/util/ArrayList" "DEFAULTCAPACITY_EMPTY_ELEMENTDATA" "[Ljava/lang/Object;" (.ref dq)) (V_d : Arv Z Z.heap dq kd (.object "java/lang/Object") (0 : Int32) [] .null) (E_d : Exa Z Z.heap dq "[Ljava/lang/Object;") (M_r : own_mir Z "[Ljava/lang/Object;" mr) (l_d : dq < n0) :
  own_M l Z ym16 cD16 ws 4 (some (.array (.object "java/lang/Object"))) (own_R 1 1 0 40) #[(.ref dq), (.int 0), (.ref mr)] h0 (Q_rmC3_1 Z dq kd mr h0 n0) := by
 refine own_open (plainFor_of_name pn_8) ?_
 intro p e s m below meth c s₁ hx hby hlk hret hml hown hnm hZ X0 e0
 have hW := own_hW hw
 have N0 := Fr.nil n0
 refine oo (fun tt_ kk_ => castTop (ef_rmC3_1 m dq (0 : Int32) mr) kk_) ?_
 refine so (A := (s₁.setTop (mkF m 0 #[vr dq, vz, vr mr, uu] []))) ?_
 have K0_ : Keep h0 h0 [] := Keep.refl h0 []
 refine oi (XS.aloadN X0.here hx rfl (hb hby d16_0) rfl rfl) ?_
 obtain ⟨T1, X1, e1, st1⟩ := own_ldcM X0 hx hZ hown (hW 123 _ rfl) e0 M_r (g := (mkF m 1 #[vr dq, vz, vr mr, uu] [(.ref mr)])) rfl (hb hby d16_1)
 refine oo st1 ?_
 refine oo (fun _ => Jvm.RoadKit.acmp (g := (mkF m 3 #[vr dq, vz, vr mr, uu] [(.ref mr), (.ref mr)])) X1 hx rfl rfl rfl (pc0 := 3) (pc' := 6) (same := true) rfl (hb hby d16_3) rfl (decide_eq_true rfl) (by decide) (by decide)) ?_
 refine oi (XS.iloadN X1.here hx rfl (hb hby d16_6) rfl) ?_
 obtain ⟨T2, h2, k2, X2, e2, E2, A2, Ea2, Ov2, st2⟩ := newRE X1 hx hZ hown (hW 124 _ rfl) (hW 125 _ rfl) e1 (g := (mkF m 7 #[vr dq, vz, vr mr, uu] [(.int 0)])) rfl (hb hby d16_7) rfl (by decide) (cap := 0) (by decide) (by decide) (by decide) (by decide) rfl
 obtain ⟨b2, g2⟩ : ∃ z, z = h0.size := ⟨_, rfl⟩
 rw [← g2] at A2 Ea2 st2
 refine oo st2 ?_
 have lt2 := olt A2.lt
 have sz2 : h0.size ≤ h2.size := E2.1
 have O2 : Old Z n0 h2 := XO0.ext E2
 have z2 : n0 ≤ b2 := by have := XO0.1 ▸ XO0.2.1; omega
 have K2 : Keep h0 h2 [] := K0_.ext E2
 have V2 : Arv Z h2 b2 k2 (.object "java/lang/Object") (0 : Int32) [] .null := Arv.new A2 (by decide)
 refine oi (XS.goto X2.here hx rfl (pc0 := 10) (pc' := 24) rfl (hb hby d16_10) (by decide) (by decide)) ?_
 refine oi (XS.astoreN X2.here hx rfl (hb hby d16_24) rfl rfl (l' := #[vr dq, vz, vr mr, vr b2]) rfl) ?_
 refine oi (XS.aloadN X2.here hx rfl (hb hby d16_25) rfl rfl) ?_
 refine oi (XS.iconst X2.here hx rfl (hb hby d16_26)) ?_
 refine oi (XS.aloadN X2.here hx rfl (hb hby d16_27) rfl rfl) ?_
 refine oi (XS.iconst X2.here hx rfl (hb hby d16_28)) ?_
 refine oi (XS.aloadN X2.here hx rfl (hb hby d16_29) rfl rfl) ?_
 have f3 : Arv Z h2 dq kd (.object "java/lang/Object") (0 : Int32) [] .null := V_d.ext O2.2
 obtain ⟨cl4, Ar4, q4, S4, Ng4, H4, G4⟩ := id f3
 refine oo (fun tt_ kk => X2.arraylength hx (by rw [e2]; exact Ar4.1) (State.isArrayOf_alike hZ.alike Ar4.2.1) (g := (mkF m 30 #[vr dq, vz, vr mr, vr b2] [(.ref dq), (.int 0), (.ref b2), (.int 0), (.ref dq)])) rfl rfl (hb hby d16_30) _ (by rw [len_of S4 Ng4]; exact kk)) ?_
 refine oi (XS.iloadN X2.here hx rfl (hb hby d16_31) rfl) ?_
 refine so (A := (T2.setTop (mkF m 32 #[vr dq, vz, vr mr, vr b2] [(.int 0), (.int 0), (.int 0), (.ref b2), (.int 0), (.ref dq)]))) ?_
 obtain ⟨_, T5, Lc5, X5, hQ5, st5⟩ := own_c1 X2 <| Jvm.LawKit.callS X2 hx (y := ym17) hown (mvT hZ (hW 126 _ rfl)) (mvT hZ (hW 127 _ rfl)) (mvT hZ (hW 128 _ rfl)) (mvT hZ (hW 129 _ rfl)) (by decide) (backOf (W := 4) (rmMin l Z a0 hw [] (0 : Int32) (0 : Int32) h2 n0 O2 (fun _ => rfl)) hZ (hW 129 _ rfl) (hW 128 _ rfl) (by decide) (by decide)) (g := (mkF m 32 #[vr dq, vz, vr mr, vr b2] [(.int 0), (.int 0), (.int 0), (.ref b2), (.int 0), (.ref dq)])) rfl (by rw [hml]; rfl) (argsL := [(.int 0), (.int 0)]) (rest := [(.int 0), (.ref b2), (.int 0), (.ref dq)]) (lenOf pd_4 rfl) rfl (Nat.le_of_eq rfl) (hb hby d16_32) (fun _ _ => ⟨rfl, e2, (by decide : 1 + 0 ≤ _), (by decide : 0 + 0 ≤ _)⟩)
 obtain ⟨rfl, Nq5, eh5⟩ := hQ5
 have N5 := Fr.app N0 Nq5
 refine oo st5 ?_
 refine so (A := (T5.setTop (mkF m 35 #[vr dq, vz, vr mr, vr b2] [(.int 0), (.int 0), (.ref b2), (.int 0), (.ref dq)]))) ?_
 obtain ⟨cl7, Ar7, q7, S7, Ng7, H7, G7⟩ := id V2
 obtain ⟨T6, h6, L6, X6, e6, N6, Kp6, V6, st6⟩ := cpA X5 hx hZ hown (hW 130 _ rfl) (hW 133 _ rfl) (hW 131 _ rfl) (hW 132 _ rfl) eh5 (us := []) f3 V2 (Or.inr ⟨rfl, rfl, trivial⟩) (by decide) (by decide) (by decide) (by decide) (by decide) rfl (by simpa using (by decide)) N5 (by omega : n0 ≤ b2) (g := (mkF m 35 #[vr dq, vz, vr mr, vr b2] [(.int 0), (.int 0), (.ref b2), (.int 0), (.ref dq)])) rfl (by rw [hml]; rfl) rfl (hb hby d16_35) (by decide) (W := 0) (Nat.le_of_eq rfl) (by decide +kernel)
 refine oo st6 ?_
 have sz6 : h2.size ≤ h6.size := Kp6.1
 have O6 : Old Z n0 h6 := O2.keep Kp6 (allS (by omega) all0)
 have K6 : Keep h0 h6 [] := K2.trans Kp6 (allS (Or.inr (by omega)) all0)
 refine oi (XS.aloadN X6.here hx rfl (hb hby d16_38) rfl rfl) ?_
 refine so (A := (T6.setTop (mkF m 39 #[vr dq, vz, vr mr, vr b2] [(.ref b2)]))) ?_
 refine own_ret X6 hx hlk hret rfl (Or.inr (Or.inr (Or.inr (Or.inr ⟨rfl, rfl, rfl⟩)))) (hb hby d16_39) (by decide) (by decide) ?_
 rw [e6]
 exact ⟨b2, k2, rfl, N6, K6, by omega, by omega, V6⟩
theorem ef_rmC2_1 (m : MethodId) (x0 : Nat) (x1 : Int32) : entryFrame m #[(.ref x0), (.int x1)] 2 = mkF m 0 #[vr x0, vi x1] [] := by first | (simp [entryFrame, mkF, argsToLocals, Value.category]; done) | rfl
theorem d15_0 : dk cD15 0 (.aload_n 0) 1 := by decide +kernel
theorem d15_1 : dk cD15 1 (.iload_n 1) 1 := by decide +kernel
theorem d15_2 : dk cD15 2 (.aload_n 0) 1 := by decide +kernel
theorem d15_3 : dk cD15 3 (.invokevirtual 86) 3 := by decide +kernel
theorem d15_6 : dk cD15 6 (.invokestatic 300) 3 := by decide +kernel
theorem pd_10 : parseMethodDescriptor "([Ljava/lang/Object;ILjava/lang/Class;)[Ljava/lang/Object;" = some ⟨[(.array (.object "java/lang/Object")), .int, (.object "java/lang/Class")], some (.array (.object "java/lang/Object"))⟩ := by decide +kernel
theorem d15_9 : dk cD15 9 .areturn 1 := by decide +kernel
def Q_rmC2_1 (Z : State) (dq : Nat) (kd : ClassId) (mr : Nat) (h0 : Heap) (n0 : Nat) (v : Option Value) (h : Heap) (L : List Loc) : Prop := ∃ (ar : Nat) (kr : ClassId), v = some (.ref ar) ∧ Fr n0 L ∧ Keep h0 h [] ∧ h0.size ≤ ar ∧ ar < h.size ∧ Arv Z h ar kr (.object "java/lang/Object") (0 : Int32) ([]) .null
theorem rmC2_1 (l : Launch) (Z : State) (a0 : Array Value) (hw : own_H Z a0) (ws : List Jvm.Cond) (dq : Nat) (kd : ClassId) (mr : Nat) (h0 : Heap) (n0 : Nat) (XO0 : Old Z n0 h0) (S_d : Sta Z Z.heap "java/util/ArrayList" "DEFAULTCAPACITY_EMPTY_ELEMENTDATA" "[Ljava/lang/Object;" (.ref dq)) (V_d : Arv Z Z.heap dq kd (.object "java/lang/Object") (0 : Int32) [] .null) (E_d : Exa Z Z.heap dq "[Ljava/lang/Object;") (M_r : own_mir Z "[Ljava/lang/Object;" mr) (l_d : dq < n0) :
  own_M l Z ym15 cD15 ws 2 (some (.array (.object "java/lang/Object"))) (own_R 2 1 0 55) #[(.ref dq), (.int 0)] h0 (Q_rmC2_1 Z dq kd mr h0 n0) := by
 refine own_open (plainFor_of_name pn_8) ?_
 intro p e s m below meth c s₁ hx hby hlk hret hml hown hnm hZ X0 e0
 have hW := own_hW hw
 have N0 := Fr.nil n0
 refine oo (fun tt_ kk_ => castTop (ef_rmC2_1 m dq (0 : Int32)) kk_) ?_
 refine so (A := (s₁.setTop (mkF m 0 #[vr dq, vz] []))) ?_
 have K0_ : Keep h0 h0 [] := Keep.refl h0 []
 refine oi (XS.aloadN X0.here hx rfl (hb hby d15_0) rfl rfl) ?_
 refine oi (XS.iloadN X0.here hx rfl (hb hby d15_1) rfl) ?_
 refine oi (XS.aloadN X0.here hx rfl (hb hby d15_2) rfl rfl) ?_
 have f1 : Exa Z h0 dq "[Ljava/lang/Object;" := E_d.ext XO0.2
 obtain ⟨T2, X2, e2, st2⟩ := own_gcls X0 hx hZ hown (hW 114 _ rfl) (hW 115 _ rfl) (hW 117 _ rfl) (hW 116 _ rfl) (hW 118 _ rfl) e0 f1 M_r (g := (mkF m 3 #[vr dq, vz] [(.ref dq), (.int 0), (.ref dq)])) rfl (by rw [hml]; rfl) rfl (hb hby d15_3) (by decide) (W := 2) (Nat.le_of_eq rfl) (by decide +kernel)
 refine oo st2 ?_
 refine so (A := (T2.setTop (mkF m 6 #[vr dq, vz] [(.ref mr), (.int 0), (.ref dq)]))) ?_
 obtain ⟨_, T3, Lc3, X3, hQ3, st3⟩ := own_c1 X2 <| Jvm.LawKit.callS X2 hx (y := ym16) hown (mvT hZ (hW 120 _ rfl)) (mvT hZ (hW 121 _ rfl)) (mvT hZ (hW 112 _ rfl)) (mvT hZ (hW 122 _ rfl)) (by decide) (backOf (W := 0) (rmC3_1 l Z a0 hw [] dq kd mr h0 n0 XO0 S_d V_d E_d M_r l_d) hZ (hW 122 _ rfl) (hW 112 _ rfl) (by decide) (by decide)) (g := (mkF m 6 #[vr dq, vz] [(.ref mr), (.int 0), (.ref dq)])) rfl (by rw [hml]; rfl) (argsL := [(.ref dq), (.int 0), (.ref mr)]) (rest := []) (lenOf pd_10 rfl) rfl (Nat.le_of_eq rfl) (hb hby d15_6) (fun _ _ => ⟨rfl, e2, (by decide : 0 + 1 ≤ _), (by decide : 0 + 0 ≤ _)⟩)
 obtain ⟨ar3, kr3, rfl, Nq3, Kp3, ga3, la3, Va3⟩ := hQ3
 have N3 := Fr.app N0 Nq3
 refine oo st3 ?_
 have sz3 : h0.size ≤ T3.heap.size := Kp3.1
 have O3 : Old Z n0 T3.heap := XO0.keep Kp3 all0
 have K3 : Keep h0 T3.heap [] := K0_.trans Kp3 all0
 refine so (A := (T3.setTop (mkF m 9 #[vr dq, vz] [(.ref ar3)]))) ?_
 refine own_ret X3 hx hlk hret rfl (Or.inr (Or.inr (Or.inr (Or.inr ⟨rfl, rfl, rfl⟩)))) (hb hby d15_9) (by decide) (by decide) ?_
 skip
 exact ⟨ar3, kr3, rfl, N3, K3, by omega, by omega, Va3⟩
theorem ef_rmTA_1 (m : MethodId) (x0 : Nat) : entryFrame m #[(.ref x0)] 1 = mkF m 0 #[vr x0] [] := by first | (simp [entryFrame, mkF, argsToLocals, Value.category]; done) | rfl
theorem d14_0 : dk cD14 0 (.aload_n 0) 1 := by decide +kernel
theorem d14_1 : dk cD14 1 (.getfield 9) 3 := by decide +kernel
theorem d14_4 : dk cD14 4 (.aload_n 0) 1 := by decide +kernel
theorem d14_5 : dk cD14 5 (.getfield 48) 3 := by decide +kernel
theorem d14_8 : dk cD14 8 (.invokestatic 66) 3 := by decide +kernel
theorem pd_11 : parseMethodDescriptor "([Ljava/lang/Object;I)[Ljava/lang/Object;" = some ⟨[(.array (.object "java/lang/Object")), .int], some (.array (.object "java/lang/Object"))⟩ := by decide +kernel
theorem d14_11 : dk cD14 11 .areturn 1 := by decide +kernel
def Q_rmTA_1 (Z : State) (la : Nat) (dq : Nat) (kd : ClassId) (mr : Nat) (h0 : Heap) (n0 : Nat) (v : Option Value) (h : Heap) (L : List Loc) : Prop := ∃ (ar : Nat) (kr : ClassId), v = some (.ref ar) ∧ Fr n0 L ∧ Keep h0 h [] ∧ h0.size ≤ ar ∧ ar < h.size ∧ Arv Z h ar kr (.object "java/lang/Object") (0 : Int32) ([]) .null
theorem rmTA_1 (l : Launch) (Z : State) (a0 : Array Value) (hw : own_H Z a0) (ws : List Jvm.Cond) (la : Nat) (dq : Nat) (kd : ClassId) (mr : Nat) (h0 : Heap) (n0 : Nat) (XO0 : Old Z n0 h0) (S_d : Sta Z Z.heap "java/util/ArrayList" "DEFAULTCAPACITY_EMPTY_ELEMENTDATA" "[Ljava/lang/Object;" (.ref dq)) (V_d : Arv Z Z.heap dq kd (.object "java/lang/Object") (0 : Int32) [] .null) (E_d : Exa Z Z.heap dq "[Ljava/lang/Object;") (M_r : own_mir Z "[Ljava/lang/Object;" mr) (l_d : dq < n0) (F_e : Fld Z h0 la "java/util/ArrayList" "elementData" "[Ljava/lang/Object;" (.ref dq)) (F_z : Fld Z h0 la "java/util/ArrayList" "size" "I" (.int 0)) :
  own_M l Z ym14 cD14 ws 1 (some (.array (.object "java/lang/Object"))) (own_R 3 1 0 68) #[(.ref la)] h0 (Q_rmTA_1 Z la dq kd mr h0 n0) := by
 refine own_open (plainFor_of_name pn_4) ?_
 intro p e s m below meth c s₁ hx hby hlk hret hml hown hnm hZ X0 e0
 have hW := own_hW hw
 have N0 := Fr.nil n0
 refine oo (fun tt_ kk_ => castTop (ef_rmTA_1 m la) kk_) ?_
 refine so (A := (s₁.setTop (mkF m 0 #[vr la] []))) ?_
 have K0_ : Keep h0 h0 [] := Keep.refl h0 []
 refine oi (XS.aloadN X0.here hx rfl (hb hby d14_0) rfl rfl) ?_
 obtain ⟨T1, X1, e1, st1⟩ := getF X0 hx hZ hown (host := "") (Or.inl (hW 25 _ rfl)) Via.refl e0 F_e (g := (mkF m 1 #[vr la] [(.ref la)])) rfl rfl (hb hby d14_1)
 refine oo st1 ?_
 refine oi (XS.aloadN X1.here hx rfl (hb hby d14_4) rfl rfl) ?_
 obtain ⟨T2, X2, e2, st2⟩ := getF X1 hx hZ hown (host := "") (Or.inl (hW 109 _ rfl)) Via.refl e1 F_z (g := (mkF m 5 #[vr la] [(.ref la), (.ref dq)])) rfl rfl (hb hby d14_5)
 refine oo st2 ?_
 refine so (A := (T2.setTop (mkF m 8 #[vr la] [(.int 0), (.ref dq)]))) ?_
 obtain ⟨_, T3, Lc3, X3, hQ3, st3⟩ := own_c1 X2 <| Jvm.LawKit.callS X2 hx (y := ym15) hown (mvT hZ (hW 110 _ rfl)) (mvT hZ (hW 111 _ rfl)) (mvT hZ (hW 112 _ rfl)) (mvT hZ (hW 113 _ rfl)) (by decide) (backOf (W := 0) (rmC2_1 l Z a0 hw [] dq kd mr h0 n0 XO0 S_d V_d E_d M_r l_d) hZ (hW 113 _ rfl) (hW 112 _ rfl) (by decide) (by decide)) (g := (mkF m 8 #[vr la] [(.int 0), (.ref dq)])) rfl (by rw [hml]; rfl) (argsL := [(.ref dq), (.int 0)]) (rest := []) (lenOf pd_11 rfl) rfl (Nat.le_of_eq rfl) (hb hby d14_8) (fun _ _ => ⟨rfl, e2, (by decide : 0 + 1 ≤ _), (by decide : 0 + 0 ≤ _)⟩)
 obtain ⟨ar3, kr3, rfl, Nq3, Kp3, ga3, la3, Va3⟩ := hQ3
 have N3 := Fr.app N0 Nq3
 refine oo st3 ?_
 have sz3 : h0.size ≤ T3.heap.size := Kp3.1
 have O3 : Old Z n0 T3.heap := XO0.keep Kp3 all0
 have K3 : Keep h0 T3.heap [] := K0_.trans Kp3 all0
 refine so (A := (T3.setTop (mkF m 11 #[vr la] [(.ref ar3)]))) ?_
 refine own_ret X3 hx hlk hret rfl (Or.inr (Or.inr (Or.inr (Or.inr ⟨rfl, rfl, rfl⟩)))) (hb hby d14_11) (by decide) (by decide) ?_
 skip
 exact ⟨ar3, kr3, rfl, N3, K3, by omega, by omega, Va3⟩
def Q_AA (Z : State) (dq lb eb : Nat) (zs xs : List Nat) (mc : Int32) (h0 : Heap) (n0 : Nat) (v : Option Value) (h : Heap) (L : List Loc) : Prop := ∃ (e2 : Nat) (k2 : ClassId) (z2 : Nat) (r2 : Int32), v = some (.int r2) ∧ Fr n0 L ∧ n0 ≤ z2 ∧ ((z2 = lb ∧ eb = dq ∧ (e2 = eb ∨ h0.size ≤ e2)) ∨ (z2 = eb ∧ n0 ≤ eb ∧ e2 = eb)) ∧ Keep h0 h [lb, z2] ∧ own_al Z h dq n0 lb e2 k2 (zs ++ xs) (mc + (1 : Int32))
theorem ef_rmAA_11 (m : MethodId) (x0 : Nat) (x1 : Nat) : entryFrame m #[(.ref x0), (.ref x1)] 6 = mkF m 0 #[vr x0, vr x1, uu, uu, uu, uu] [] := by first | (simp [entryFrame, mkF, argsToLocals, Value.category]; done) | rfl
theorem d13_0 : dk cD13 0 (.aload_n 1) 1 := by decide +kernel
theorem d13_1 : dk cD13 1 (.invokeinterface 42 1) 5 := by decide +kernel
theorem d13_6 : dk cD13 6 (.astore_n 2) 1 := by decide +kernel
theorem d13_7 : dk cD13 7 (.aload_n 0) 1 := by decide +kernel
theorem d13_8 : dk cD13 8 .dup 1 := by decide +kernel
theorem d13_9 : dk cD13 9 (.getfield 63) 3 := by decide +kernel
theorem d13_12 : dk cD13 12 (.iconst 1) 1 := by decide +kernel
theorem d13_13 : dk cD13 13 .iadd 1 := by decide +kernel
theorem d13_14 : dk cD13 14 (.putfield 63) 3 := by decide +kernel
theorem d13_17 : dk cD13 17 (.aload_n 2) 1 := by decide +kernel
theorem d13_18 : dk cD13 18 .arraylength 1 := by decide +kernel
theorem d13_19 : dk cD13 19 (.istore_n 3) 1 := by decide +kernel
theorem d13_20 : dk cD13 20 (.iload_n 3) 1 := by decide +kernel
theorem d13_21 : dk cD13 21 (.ifCond .ne 5) 3 := by decide +kernel
theorem d13_24 : dk cD13 24 (.iconst 0) 1 := by decide +kernel
theorem d13_25 : dk cD13 25 .ireturn 1 := by decide +kernel
theorem rmAA_11 (l : Launch) (Z : State) (a0 : Array Value) (hw : own_H Z a0) (ws : List Jvm.Cond) (lb : Nat) (la : Nat) (dq : Nat) (kd : ClassId) (mr : Nat) (mc : Int32) (h0 : Heap) (n0 : Nat) (XO0 : Old Z n0 h0) (S_d : Sta Z Z.heap "java/util/ArrayList" "DEFAULTCAPACITY_EMPTY_ELEMENTDATA" "[Ljava/lang/Object;" (.ref dq)) (V_d : Arv Z Z.heap dq kd (.object "java/lang/Object") (0 : Int32) [] .null) (E_d : Exa Z Z.heap dq "[Ljava/lang/Object;") (M_r : own_mir Z "[Ljava/lang/Object;" mr) (l_d : dq < n0) (E_l : Exa Z h0 la "java/util/ArrayList") (F_e : Fld Z h0 la "java/util/ArrayList" "elementData" "[Ljava/lang/Object;" (.ref dq)) (F_z : Fld Z h0 la "java/util/ArrayList" "size" "I" (.int 0)) (g_b : n0 ≤ lb) (n_ab : la ≠ lb) (B_l : Exa Z h0 lb "java/util/ArrayList") (B_e : Fld Z h0 lb "java/util/ArrayList" "elementData" "[Ljava/lang/Object;" (.ref dq)) (B_z : Fld Z h0 lb "java/util/ArrayList" "size" "I" (.int 0)) (B_m : Fld Z h0 lb "java/util/AbstractList" "modCount" "I" (.int mc)) :
  own_M l Z ym13 cD13 ws 6 (some .boolean) (own_R 4 2 20 80) #[(.ref lb), (.ref la)] h0 (Q_AA Z dq lb dq [] [] mc h0 n0) := by
 refine own_open (plainFor_of_name pn_4) ?_
 intro p e s m below meth c s₁ hx hby hlk hret hml hown hnm hZ X0 e0
 have hW := own_hW hw
 have N0 := Fr.nil n0
 refine oo (fun tt_ kk_ => castTop (ef_rmAA_11 m lb la) kk_) ?_
 refine so (A := (s₁.setTop (mkF m 0 #[vr lb, vr la, uu, uu, uu, uu] []))) ?_
 have K0_ : Keep h0 h0 [lb, lb] := Keep.refl h0 [lb, lb]
 have lt_la := olt E_l.lt
 have lt_lb := olt B_l.lt
 refine oi (XS.aloadN X0.here hx rfl (hb hby d13_0) rfl rfl) ?_
 refine so (A := (s₁.setTop (mkF m 1 #[vr lb, vr la, uu, uu, uu, uu] [(.ref la)]))) ?_
 obtain ⟨cq1, kq1, q1a, q1b, q1c⟩ := isOf hZ e0 E_l
 obtain ⟨_, T1, Lc1, X1, hQ1, st1⟩ := own_c1 X0 <| X0.interfaceBack hx (xi := ym9554) (y := ym14) hown (mvT hZ (hW 100 _ rfl)) (mvT hZ (hW 101 _ rfl)) (mvT hZ (hW 102 _ rfl)) (mvT hZ (hW 103 _ rfl)) (mvT hZ (hW 104 _ rfl)) (mvT hZ (hW 105 _ rfl)) (mvT hZ (hW 106 _ rfl)) (mvT hZ (hW 107 _ rfl)) (by decide) (backOf (W := 0) (rmTA_1 l Z a0 hw [] la dq kd mr h0 n0 XO0 S_d V_d E_d M_r l_d F_e F_z) hZ (hW 108 _ rfl) (hW 3 _ rfl) (by decide) (by decide)) q1a q1b q1c (g := (mkF m 1 #[vr lb, vr la, uu, uu, uu, uu] [(.ref la)])) rfl (by rw [hml]; rfl) (Steps.refl _) (argsL := []) (rest := []) (lenOf pd_6 rfl) rfl (Nat.le_of_eq rfl) (hb hby d13_1) (fun _ _ => ⟨rfl, e0, (by decide : 0 + 1 ≤ _), (by decide : 0 + 0 ≤ _)⟩)
 obtain ⟨ar1, kr1, rfl, Nq1, Kp1, ga1, la1, Va1⟩ := hQ1
 have N1 := Fr.app N0 Nq1
 refine oo (fun tt_ kk_ => st1.trans kk_) ?_
 have sz1 : h0.size ≤ T1.heap.size := Kp1.1
 have O1 : Old Z n0 T1.heap := XO0.keep Kp1 all0
 have K1 : Keep h0 T1.heap [lb, lb] := K0_.trans Kp1 all0
 refine oi (XS.astoreN X1.here hx rfl (hb hby d13_6) rfl rfl (l' := #[vr lb, vr la, vr ar1, uu, uu, uu]) rfl) ?_
 refine oi (XS.aloadN X1.here hx rfl (hb hby d13_7) rfl rfl) ?_
 refine oi (XS.dup X1.here hx rfl (hb hby d13_8) rfl rfl) ?_
 have f2 : Fld Z T1.heap lb "java/util/AbstractList" "modCount" "I" (.int mc) := (B_m.keep Kp1 nin0)
 obtain ⟨T3, X3, e3, st3⟩ := getF X1 hx hZ hown (host := "") (Or.inl (hW 134 _ rfl)) (Via.of (hW 79 _ rfl)) rfl f2 (g := (mkF m 9 #[vr lb, vr la, vr ar1, uu, uu, uu] [(.ref lb), (.ref lb)])) rfl rfl (hb hby d13_9)
 refine oo st3 ?_
 refine oi (XS.iconst X3.here hx rfl (hb hby d13_12)) ?_
 refine oi (XS.iadd X3.here hx rfl (hb hby d13_13) rfl) ?_
 have f4 : Exa Z T1.heap lb "java/util/ArrayList" := (B_l.keep Kp1)
 obtain ⟨T5, h5, X5, e5, W5, st5⟩ := putF X3 hx hZ hown (host := "") (Or.inl (hW 134 _ rfl)) (Via.of (hW 79 _ rfl)) e3 f2 f4 (Or.inl (hW 23 _ rfl)) (hW 2 _ rfl) (ty := .int) pf_2 rfl rfl (g := (mkF m 14 #[vr lb, vr la, vr ar1, uu, uu, uu] [(.int (mc + (1 : Int32))), (.ref lb)])) rfl rfl (hb hby d13_14)
 refine oo st5 ?_
 have N5 := Fr.snoc X5 N1 (by omega : n0 ≤ lb)
 have sz5 : h5.size = T1.heap.size := W5.size
 have O5 : Old Z n0 h5 := O1.wr W5 (by omega)
 have K5 : Keep h0 h5 [lb, lb] := K1.wr W5 (Or.inl (List.mem_of_getElem? (i := 0) rfl))
 have Fw5 := f2.same W5
 refine oi (XS.aloadN X5.here hx rfl (hb hby d13_17) rfl rfl) ?_
 have f6 : Arv Z h5 ar1 kr1 (.object "java/lang/Object") (0 : Int32) [] .null := (Va1.other W5 (one (by omega)))
 obtain ⟨cl7, Ar7, q7, S7, Ng7, H7, G7⟩ := id f6
 refine oo (fun tt_ kk => X5.arraylength hx (by rw [e5]; exact Ar7.1) (State.isArrayOf_alike hZ.alike Ar7.2.1) (g := (mkF m 18 #[vr lb, vr la, vr ar1, uu, uu, uu] [(.ref ar1)])) rfl rfl (hb hby d13_18) _ (by rw [len_of S7 Ng7]; exact kk)) ?_
 refine oi (XS.istoreN X5.here hx rfl (hb hby d13_19) rfl (l' := #[vr lb, vr la, vr ar1, vz, uu, uu]) rfl) ?_
 refine oi (XS.iloadN X5.here hx rfl (hb hby d13_20) rfl) ?_
 have hb21_8 : (0 : Int32) = (0 : Int32) := by decide
 refine oi (XS.ifNo X5.here hx rfl (hb hby d13_21) rfl ((if0 _ _).trans (teq hb21_8).2)) ?_
 refine oi (XS.iconst X5.here hx rfl (hb hby d13_24)) ?_
 refine so (A := (T5.setTop (mkF m 25 #[vr lb, vr la, vr ar1, vz, uu, uu] [(.int 0)]))) ?_
 refine own_ret X5 hx hlk hret rfl (Or.inl ⟨rfl, by simp, _, rfl⟩) (hb hby d13_25) (by decide) (by decide) ?_
 rw [e5]
 have f9 : Exa Z h5 lb "java/util/ArrayList" := (f4.wr W5)
 have f10 : Fld Z h5 lb "java/util/ArrayList" "elementData" "[Ljava/lang/Object;" (.ref dq) := ((B_e.keep Kp1 nin0).other W5 (Or.inr (slot_ne (Or.inl (hW 26 _ rfl)) (Or.inl (hW 23 _ rfl)) (by decide) pf_3 pf_2)))
 have f11 : Fld Z h5 lb "java/util/ArrayList" "size" "I" (.int 0) := ((B_z.keep Kp1 nin0).other W5 (Or.inr (slot_ne (Or.inl (hW 94 _ rfl)) (Or.inl (hW 23 _ rfl)) (by decide) pf_2 pf_2)))
 have f12 : Exa Z h5 dq "[Ljava/lang/Object;" := E_d.ext O5.2
 have f13 : Arv Z h5 dq kd (.object "java/lang/Object") (0 : Int32) [] .null := V_d.ext O5.2
 exact ⟨dq, kd, lb, _, rfl, N5, by omega, Or.inl ⟨rfl, rfl, Or.inl rfl⟩, K5, by simpa using (show own_al Z h5 dq n0 lb dq kd [] (mc + (1 : Int32)) from ⟨f9, f10, f11, Fw5, f12, Or.inl ⟨rfl, rfl, f13⟩⟩)⟩
theorem ef_rmAA_12 (m : MethodId) (x0 : Nat) (x1 : Nat) : entryFrame m #[(.ref x0), (.ref x1)] 6 = mkF m 0 #[vr x0, vr x1, uu, uu, uu, uu] [] := by first | (simp [entryFrame, mkF, argsToLocals, Value.category]; done) | rfl
theorem rmAA_12 (l : Launch) (Z : State) (a0 : Array Value) (hw : own_H Z a0) (ws : List Jvm.Cond) (lb : Nat) (la : Nat) (dq : Nat) (kd : ClassId) (mr : Nat) (eb : Nat) (kb : ClassId) (zs : List Nat) (mc : Int32) (h0 : Heap) (n0 : Nat) (XO0 : Old Z n0 h0) (S_d : Sta Z Z.heap "java/util/ArrayList" "DEFAULTCAPACITY_EMPTY_ELEMENTDATA" "[Ljava/lang/Object;" (.ref dq)) (V_d : Arv Z Z.heap dq kd (.object "java/lang/Object") (0 : Int32) [] .null) (E_d : Exa Z Z.heap dq "[Ljava/lang/Object;") (M_r : own_mir Z "[Ljava/lang/Object;" mr) (l_d : dq < n0) (E_l : Exa Z h0 la "java/util/ArrayList") (F_e : Fld Z h0 la "java/util/ArrayList" "elementData" "[Ljava/lang/Object;" (.ref dq)) (F_z : Fld Z h0 la "java/util/ArrayList" "size" "I" (.int 0)) (g_b : n0 ≤ lb) (n_ab : la ≠ lb) (B_l : Exa Z h0 lb "java/util/ArrayList") (B_e : Fld Z h0 lb "java/util/ArrayList" "elementData" "[Ljava/lang/Object;" (.ref eb)) (B_z : Fld Z h0 lb "java/util/ArrayList" "size" "I" (.int (Int32.ofNat zs.length))) (B_m : Fld Z h0 lb "java/util/AbstractList" "modCount" "I" (.int mc)) (B_g : n0 ≤ eb) (B_n : lb ≠ eb) (B_o : Ovr Z kb "java/lang/Object") (B_v : Arv Z h0 eb kb (.object "java/lang/Object") (10 : Int32) (zs.map Value.ref) .null) (B_x : Exa Z h0 eb "[Ljava/lang/Object;") :
  own_M l Z ym13 cD13 ws 6 (some .boolean) (own_R 4 2 20 80) #[(.ref lb), (.ref la)] h0 (Q_AA Z dq lb eb zs [] mc h0 n0) := by
 refine own_open (plainFor_of_name pn_4) ?_
 intro p e s m below meth c s₁ hx hby hlk hret hml hown hnm hZ X0 e0
 have hW := own_hW hw
 have N0 := Fr.nil n0
 refine oo (fun tt_ kk_ => castTop (ef_rmAA_12 m lb la) kk_) ?_
 refine so (A := (s₁.setTop (mkF m 0 #[vr lb, vr la, uu, uu, uu, uu] []))) ?_
 have K0_ : Keep h0 h0 [lb, eb] := Keep.refl h0 [lb, eb]
 have lt_la := olt E_l.lt
 have lt_lb := olt B_l.lt
 have lt_eb := olt B_v.lt
 refine oi (XS.aloadN X0.here hx rfl (hb hby d13_0) rfl rfl) ?_
 refine so (A := (s₁.setTop (mkF m 1 #[vr lb, vr la, uu, uu, uu, uu] [(.ref la)]))) ?_
 obtain ⟨cq1, kq1, q1a, q1b, q1c⟩ := isOf hZ e0 E_l
 obtain ⟨_, T1, Lc1, X1, hQ1, st1⟩ := own_c1 X0 <| X0.interfaceBack hx (xi := ym9554) (y := ym14) hown (mvT hZ (hW 100 _ rfl)) (mvT hZ (hW 101 _ rfl)) (mvT hZ (hW 102 _ rfl)) (mvT hZ (hW 103 _ rfl)) (mvT hZ (hW 104 _ rfl)) (mvT hZ (hW 105 _ rfl)) (mvT hZ (hW 106 _ rfl)) (mvT hZ (hW 107 _ rfl)) (by decide) (backOf (W := 0) (rmTA_1 l Z a0 hw [] la dq kd mr h0 n0 XO0 S_d V_d E_d M_r l_d F_e F_z) hZ (hW 108 _ rfl) (hW 3 _ rfl) (by decide) (by decide)) q1a q1b q1c (g := (mkF m 1 #[vr lb, vr la, uu, uu, uu, uu] [(.ref la)])) rfl (by rw [hml]; rfl) (Steps.refl _) (argsL := []) (rest := []) (lenOf pd_6 rfl) rfl (Nat.le_of_eq rfl) (hb hby d13_1) (fun _ _ => ⟨rfl, e0, (by decide : 0 + 1 ≤ _), (by decide : 0 + 0 ≤ _)⟩)
 obtain ⟨ar1, kr1, rfl, Nq1, Kp1, ga1, la1, Va1⟩ := hQ1
 have N1 := Fr.app N0 Nq1
 refine oo (fun tt_ kk_ => st1.trans kk_) ?_
 have sz1 : h0.size ≤ T1.heap.size := Kp1.1
 have O1 : Old Z n0 T1.heap := XO0.keep Kp1 all0
 have K1 : Keep h0 T1.heap [lb, eb] := K0_.trans Kp1 all0
 refine oi (XS.astoreN X1.here hx rfl (hb hby d13_6) rfl rfl (l' := #[vr lb, vr la, vr ar1, uu, uu, uu]) rfl) ?_
 refine oi (XS.aloadN X1.here hx rfl (hb hby d13_7) rfl rfl) ?_
 refine oi (XS.dup X1.here hx rfl (hb hby d13_8) rfl rfl) ?_
 have f2 : Fld Z T1.heap lb "java/util/AbstractList" "modCount" "I" (.int mc) := (B_m.keep Kp1 nin0)
 obtain ⟨T3, X3, e3, st3⟩ := getF X1 hx hZ hown (host := "") (Or.inl (hW 134 _ rfl)) (Via.of (hW 79 _ rfl)) rfl f2 (g := (mkF m 9 #[vr lb, vr la, vr ar1, uu, uu, uu] [(.ref lb), (.ref lb)])) rfl rfl (hb hby d13_9)
 refine oo st3 ?_
 refine oi (XS.iconst X3.here hx rfl (hb hby d13_12)) ?_
 refine oi (XS.iadd X3.here hx rfl (hb hby d13_13) rfl) ?_
 have f4 : Exa Z T1.heap lb "java/util/ArrayList" := (B_l.keep Kp1)
 obtain ⟨T5, h5, X5, e5, W5, st5⟩ := putF X3 hx hZ hown (host := "") (Or.inl (hW 134 _ rfl)) (Via.of (hW 79 _ rfl)) e3 f2 f4 (Or.inl (hW 23 _ rfl)) (hW 2 _ rfl) (ty := .int) pf_2 rfl rfl (g := (mkF m 14 #[vr lb, vr la, vr ar1, uu, uu, uu] [(.int (mc + (1 : Int32))), (.ref lb)])) rfl rfl (hb hby d13_14)
 refine oo st5 ?_
 have N5 := Fr.snoc X5 N1 (by omega : n0 ≤ lb)
 have sz5 : h5.size = T1.heap.size := W5.size
 have O5 : Old Z n0 h5 := O1.wr W5 (by omega)
 have K5 : Keep h0 h5 [lb, eb] := K1.wr W5 (Or.inl (List.mem_of_getElem? (i := 0) rfl))
 have Fw5 := f2.same W5
 refine oi (XS.aloadN X5.here hx rfl (hb hby d13_17) rfl rfl) ?_
 have f6 : Arv Z h5 ar1 kr1 (.object "java/lang/Object") (0 : Int32) [] .null := (Va1.other W5 (one (by omega)))
 obtain ⟨cl7, Ar7, q7, S7, Ng7, H7, G7⟩ := id f6
 refine oo (fun tt_ kk => X5.arraylength hx (by rw [e5]; exact Ar7.1) (State.isArrayOf_alike hZ.alike Ar7.2.1) (g := (mkF m 18 #[vr lb, vr la, vr ar1, uu, uu, uu] [(.ref ar1)])) rfl rfl (hb hby d13_18) _ (by rw [len_of S7 Ng7]; exact kk)) ?_
 refine oi (XS.istoreN X5.here hx rfl (hb hby d13_19) rfl (l' := #[vr lb, vr la, vr ar1, vz, uu, uu]) rfl) ?_
 refine oi (XS.iloadN X5.here hx rfl (hb hby d13_20) rfl) ?_
 have hb21_8 : (0 : Int32) = (0 : Int32) := by decide
 refine oi (XS.ifNo X5.here hx rfl (hb hby d13_21) rfl ((if0 _ _).trans (teq hb21_8).2)) ?_
 refine oi (XS.iconst X5.here hx rfl (hb hby d13_24)) ?_
 refine so (A := (T5.setTop (mkF m 25 #[vr lb, vr la, vr ar1, vz, uu, uu] [(.int 0)]))) ?_
 refine own_ret X5 hx hlk hret rfl (Or.inl ⟨rfl, by simp, _, rfl⟩) (hb hby d13_25) (by decide) (by decide) ?_
 rw [e5]
 have f9 : Exa Z h5 lb "java/util/ArrayList" := (f4.wr W5)
 have f10 : Fld Z h5 lb "java/util/ArrayList" "elementData" "[Ljava/lang/Object;" (.ref eb) := ((B_e.keep Kp1 nin0).other W5 (Or.inr (slot_ne (Or.inl (hW 26 _ rfl)) (Or.inl (hW 23 _ rfl)) (by decide) pf_3 pf_2)))
 have f11 : Fld Z h5 lb "java/util/ArrayList" "size" "I" (.int (Int32.ofNat zs.length)) := ((B_z.keep Kp1 nin0).other W5 (Or.inr (slot_ne (Or.inl (hW 94 _ rfl)) (Or.inl (hW 23 _ rfl)) (by decide) pf_2 pf_2)))
 have f12 : Exa Z h5 eb "[Ljava/lang/Object;" := ((B_x.keep Kp1).wr W5)
 have f13 : Arv Z h5 eb kb (.object "java/lang/Object") (10 : Int32) (zs.map Value.ref) .null := ((B_v.keep Kp1 nin0).other W5 (one (by omega)))
 exact ⟨eb, kb, eb, _, rfl, N5, by omega, Or.inr ⟨rfl, by omega, rfl⟩, K5, by simpa using (show own_al Z h5 dq n0 lb eb kb zs (mc + (1 : Int32)) from ⟨f9, f10, f11, Fw5, f12, Or.inr ⟨by omega, by omega, B_o, f13⟩⟩)⟩
theorem ef_rmC3_2 (m : MethodId) (x0 : Nat) (x1 : Int32) (x2 : Nat) : entryFrame m #[(.ref x0), (.int x1), (.ref x2)] 4 = mkF m 0 #[vr x0, vi x1, vr x2, uu] [] := by first | (simp [entryFrame, mkF, argsToLocals, Value.category]; done) | rfl
def Q_rmC3_2 (Z : State) (dq : Nat) (kd : ClassId) (mr : Nat) (ea : Nat) (ke : ClassId) (xs : List Nat) (h0 : Heap) (n0 : Nat) (v : Option Value) (h : Heap) (L : List Loc) : Prop := ∃ (ar : Nat) (kr : ClassId), v = some (.ref ar) ∧ Fr n0 L ∧ Keep h0 h [] ∧ h0.size ≤ ar ∧ ar < h.size ∧ Arv Z h ar kr (.object "java/lang/Object") (Int32.ofNat xs.length) (xs.map Value.ref) .null
theorem rmC3_2 (l : Launch) (Z : State) (a0 : Array Value) (hw : own_H Z a0) (ws : List Jvm.Cond) (dq : Nat) (kd : ClassId) (mr : Nat) (ea : Nat) (ke : ClassId) (xs : List Nat) (h0 : Heap) (n0 : Nat) (XO0 : Old Z n0 h0) (S_d : Sta Z Z.heap "java/util/ArrayList" "DEFAULTCAPACITY_EMPTY_ELEMENTDATA" "[Ljava/lang/Object;" (.ref dq)) (V_d : Arv Z Z.heap dq kd (.object "java/lang/Object") (0 : Int32) [] .null) (E_d : Exa Z Z.heap dq "[Ljava/lang/Object;") (M_r : own_mir Z "[Ljava/lang/Object;" mr) (l_d : dq < n0) (V_e : Arv Z h0 ea ke (.object "java/lang/Object") (10 : Int32) (xs.map Value.ref) .null) (E_e : Exa Z h0 ea "[Ljava/lang/Object;") (E_ys : own_exs Z h0 xs) (hx9 : xs.length ≤ 9) :
  own_M l Z ym16 cD16 ws 4 (some (.array (.object "java/lang/Object"))) (own_R 1 1 10 40) #[(.ref ea), (.int (Int32.ofNat xs.length)), (.ref mr)] h0 (Q_rmC3_2 Z dq kd mr ea ke xs h0 n0) := by
 refine own_open (plainFor_of_name pn_8) ?_
 intro p e s m below meth c s₁ hx hby hlk hret hml hown hnm hZ X0 e0
 have hW := own_hW hw
 have N0 := Fr.nil n0
 refine oo (fun tt_ kk_ => castTop (ef_rmC3_2 m ea (Int32.ofNat xs.length) mr) kk_) ?_
 refine so (A := (s₁.setTop (mkF m 0 #[vr ea, vi (Int32.ofNat xs.length), vr mr, uu] []))) ?_
 have K0_ : Keep h0 h0 [] := Keep.refl h0 []
 have lt_ea := olt V_e.lt
 refine oi (XS.aloadN X0.here hx rfl (hb hby d16_0) rfl rfl) ?_
 obtain ⟨T1, X1, e1, st1⟩ := own_ldcM X0 hx hZ hown (hW 123 _ rfl) e0 M_r (g := (mkF m 1 #[vr ea, vi (Int32.ofNat xs.length), vr mr, uu] [(.ref mr)])) rfl (hb hby d16_1)
 refine oo st1 ?_
 refine oo (fun _ => Jvm.RoadKit.acmp (g := (mkF m 3 #[vr ea, vi (Int32.ofNat xs.length), vr mr, uu] [(.ref mr), (.ref mr)])) X1 hx rfl rfl rfl (pc0 := 3) (pc' := 6) (same := true) rfl (hb hby d16_3) rfl (decide_eq_true rfl) (by decide) (by decide)) ?_
 refine oi (XS.iloadN X1.here hx rfl (hb hby d16_6) rfl) ?_
 obtain ⟨T2, h2, k2, X2, e2, E2, A2, Ea2, Ov2, st2⟩ := newRE X1 hx hZ hown (hW 124 _ rfl) (hW 125 _ rfl) e1 (g := (mkF m 7 #[vr ea, vi (Int32.ofNat xs.length), vr mr, uu] [(.int (Int32.ofNat xs.length))])) rfl (hb hby d16_7) rfl (own_inn (m := 10) (by omega) (by omega)).1 (cap := 10) (by rw [own_ncl (by omega)]; omega) (by decide) (by decide) (by decide) rfl
 obtain ⟨b2, g2⟩ : ∃ z, z = h0.size := ⟨_, rfl⟩
 rw [← g2] at A2 Ea2 st2
 refine oo st2 ?_
 have lt2 := olt A2.lt
 have sz2 : h0.size ≤ h2.size := E2.1
 have O2 : Old Z n0 h2 := XO0.ext E2
 have z2 : n0 ≤ b2 := by have := XO0.1 ▸ XO0.2.1; omega
 have K2 : Keep h0 h2 [] := K0_.ext E2
 have V2 : Arv Z h2 b2 k2 (.object "java/lang/Object") (Int32.ofNat xs.length) [] .null := Arv.new A2 (own_inn (m := 10) (by omega) (by omega)).1
 refine oi (XS.goto X2.here hx rfl (pc0 := 10) (pc' := 24) rfl (hb hby d16_10) (by decide) (by decide)) ?_
 refine oi (XS.astoreN X2.here hx rfl (hb hby d16_24) rfl rfl (l' := #[vr ea, vi (Int32.ofNat xs.length), vr mr, vr b2]) rfl) ?_
 refine oi (XS.aloadN X2.here hx rfl (hb hby d16_25) rfl rfl) ?_
 refine oi (XS.iconst X2.here hx rfl (hb hby d16_26)) ?_
 refine oi (XS.aloadN X2.here hx rfl (hb hby d16_27) rfl rfl) ?_
 refine oi (XS.iconst X2.here hx rfl (hb hby d16_28)) ?_
 refine oi (XS.aloadN X2.here hx rfl (hb hby d16_29) rfl rfl) ?_
 have f3 : Arv Z h2 ea ke (.object "java/lang/Object") (10 : Int32) (xs.map Value.ref) .null := (V_e.ext E2)
 obtain ⟨cl4, Ar4, q4, S4, Ng4, H4, G4⟩ := id f3
 refine oo (fun tt_ kk => X2.arraylength hx (by rw [e2]; exact Ar4.1) (State.isArrayOf_alike hZ.alike Ar4.2.1) (g := (mkF m 30 #[vr ea, vi (Int32.ofNat xs.length), vr mr, vr b2] [(.ref ea), (.int 0), (.ref b2), (.int 0), (.ref ea)])) rfl rfl (hb hby d16_30) _ (by rw [len_of S4 Ng4]; exact kk)) ?_
 refine oi (XS.iloadN X2.here hx rfl (hb hby d16_31) rfl) ?_
 refine so (A := (T2.setTop (mkF m 32 #[vr ea, vi (Int32.ofNat xs.length), vr mr, vr b2] [(.int (Int32.ofNat xs.length)), (.int 10), (.int 0), (.ref b2), (.int 0), (.ref ea)]))) ?_
 obtain ⟨_, T5, Lc5, X5, hQ5, st5⟩ := own_c1 X2 <| Jvm.LawKit.callS X2 hx (y := ym17) hown (mvT hZ (hW 126 _ rfl)) (mvT hZ (hW 127 _ rfl)) (mvT hZ (hW 128 _ rfl)) (mvT hZ (hW 129 _ rfl)) (by decide) (backOf (W := 4) (rmMin l Z a0 hw [] (10 : Int32) (Int32.ofNat xs.length) h2 n0 O2 (fun q => (q (own_inn (m := 10) (by omega) (by omega)).2).elim)) hZ (hW 129 _ rfl) (hW 128 _ rfl) (by decide) (by decide)) (g := (mkF m 32 #[vr ea, vi (Int32.ofNat xs.length), vr mr, vr b2] [(.int (Int32.ofNat xs.length)), (.int 10), (.int 0), (.ref b2), (.int 0), (.ref ea)])) rfl (by rw [hml]; rfl) (argsL := [(.int 10), (.int (Int32.ofNat xs.length))]) (rest := [(.int 0), (.ref b2), (.int 0), (.ref ea)]) (lenOf pd_4 rfl) rfl (Nat.le_of_eq rfl) (hb hby d16_32) (fun _ _ => ⟨rfl, e2, (by decide : 1 + 0 ≤ _), (by decide : 10 + 0 ≤ _)⟩)
 obtain ⟨rfl, Nq5, eh5⟩ := hQ5
 have N5 := Fr.app N0 Nq5
 refine oo st5 ?_
 refine so (A := (T5.setTop (mkF m 35 #[vr ea, vi (Int32.ofNat xs.length), vr mr, vr b2] [(.int (Int32.ofNat xs.length)), (.int 0), (.ref b2), (.int 0), (.ref ea)]))) ?_
 have f6 : own_exs Z h2 xs := (E_ys.ext E2)
 have Bp7 : Arv Z h2 b2 k2 (.object "java/lang/Object") (Int32.ofNat xs.length) (([] : List Value) ++ List.replicate xs.length Value.null) .null := Arv.pad (vs := ([] : List Value)) V2 (fun i => own_pad0 _ _ _ i)
 obtain ⟨cl8, Ar8, q8, S8, Ng8, H8, G8⟩ := id Bp7
 have ed7 : ((0 : Int32)).toNatClampNeg = 0 := rfl
 have en7 : ((Int32.ofNat xs.length)).toNatClampNeg = xs.length := own_ncl (by omega)
 obtain ⟨T7, h7, L7, X7, e7, N7, Kp7, V7, st7⟩ := cpA X5 hx hZ hown (hW 130 _ rfl) (hW 133 _ rfl) (hW 131 _ rfl) (hW 132 _ rfl) eh5 (us := xs.map Value.ref) f3 Bp7 (Or.inr ⟨rfl, rfl, own_stol Ar8 q8 Ov2 (hW 187 _ rfl) xs f6⟩) (by decide) (by decide) (own_inn (m := 10) (by omega) (by omega)).1 (by rw [en7]; show 0 + _ ≤ _; first | omega | (rw [own_ncl (by omega)]; omega) | (show _ ≤ 10; omega)) (by rw [ed7, en7]; first | omega | (rw [own_ncl (by omega)]; omega)) (by rw [en7]; exact own_hus rfl) (by rw [ed7, en7]; simp) N5 (by omega : n0 ≤ b2) (g := (mkF m 35 #[vr ea, vi (Int32.ofNat xs.length), vr mr, vr b2] [(.int (Int32.ofNat xs.length)), (.int 0), (.ref b2), (.int 0), (.ref ea)])) rfl (by rw [hml]; rfl) rfl (hb hby d16_35) (by decide) (W := 0) (Nat.le_of_eq rfl) (by decide +kernel)
 have Vc7 : Arv Z h7 b2 k2 (.object "java/lang/Object") (Int32.ofNat xs.length) (xs.map Value.ref) .null := by rw [ed7, en7] at V7; simpa [List.drop_eq_nil_of_le] using V7
 refine oo st7 ?_
 have sz7 : h2.size ≤ h7.size := Kp7.1
 have O7 : Old Z n0 h7 := O2.keep Kp7 (allS (by omega) all0)
 have K7 : Keep h0 h7 [] := K2.trans Kp7 (allS (Or.inr (by omega)) all0)
 refine oi (XS.aloadN X7.here hx rfl (hb hby d16_38) rfl rfl) ?_
 refine so (A := (T7.setTop (mkF m 39 #[vr ea, vi (Int32.ofNat xs.length), vr mr, vr b2] [(.ref b2)]))) ?_
 refine own_ret X7 hx hlk hret rfl (Or.inr (Or.inr (Or.inr (Or.inr ⟨rfl, rfl, rfl⟩)))) (hb hby d16_39) (by decide) (by decide) ?_
 rw [e7]
 exact ⟨b2, k2, rfl, N7, K7, by omega, by omega, Vc7⟩
theorem ef_rmC2_2 (m : MethodId) (x0 : Nat) (x1 : Int32) : entryFrame m #[(.ref x0), (.int x1)] 2 = mkF m 0 #[vr x0, vi x1] [] := by first | (simp [entryFrame, mkF, argsToLocals, Value.category]; done) | rfl
def Q_rmC2_2 (Z : State) (dq : Nat) (kd : ClassId) (mr : Nat) (ea : Nat) (ke : ClassId) (xs : List Nat) (h0 : Heap) (n0 : Nat) (v : Option Value) (h : Heap) (L : List Loc) : Prop := ∃ (ar : Nat) (kr : ClassId), v = some (.ref ar) ∧ Fr n0 L ∧ Keep h0 h [] ∧ h0.size ≤ ar ∧ ar < h.size ∧ Arv Z h ar kr (.object "java/lang/Object") (Int32.ofNat xs.length) (xs.map Value.ref) .null
theorem rmC2_2 (l : Launch) (Z : State) (a0 : Array Value) (hw : own_H Z a0) (ws : List Jvm.Cond) (dq : Nat) (kd : ClassId) (mr : Nat) (ea : Nat) (ke : ClassId) (xs : List Nat) (h0 : Heap) (n0 : Nat) (XO0 : Old Z n0 h0) (S_d : Sta Z Z.heap "java/util/ArrayList" "DEFAULTCAPACITY_EMPTY_ELEMENTDATA" "[Ljava/lang/Object;" (.ref dq)) (V_d : Arv Z Z.heap dq kd (.object "java/lang/Object") (0 : Int32) [] .null) (E_d : Exa Z Z.heap dq "[Ljava/lang/Object;") (M_r : own_mir Z "[Ljava/lang/Object;" mr) (l_d : dq < n0) (V_e : Arv Z h0 ea ke (.object "java/lang/Object") (10 : Int32) (xs.map Value.ref) .null) (E_e : Exa Z h0 ea "[Ljava/lang/Object;") (E_ys : own_exs Z h0 xs) (hx9 : xs.length ≤ 9) :
  own_M l Z ym15 cD15 ws 2 (some (.array (.object "java/lang/Object"))) (own_R 2 1 10 55) #[(.ref ea), (.int (Int32.ofNat xs.length))] h0 (Q_rmC2_2 Z dq kd mr ea ke xs h0 n0) := by
 refine own_open (plainFor_of_name pn_8) ?_
 intro p e s m below meth c s₁ hx hby hlk hret hml hown hnm hZ X0 e0
 have hW := own_hW hw
 have N0 := Fr.nil n0
 refine oo (fun tt_ kk_ => castTop (ef_rmC2_2 m ea (Int32.ofNat xs.length)) kk_) ?_
 refine so (A := (s₁.setTop (mkF m 0 #[vr ea, vi (Int32.ofNat xs.length)] []))) ?_
 have K0_ : Keep h0 h0 [] := Keep.refl h0 []
 have lt_ea := olt V_e.lt
 refine oi (XS.aloadN X0.here hx rfl (hb hby d15_0) rfl rfl) ?_
 refine oi (XS.iloadN X0.here hx rfl (hb hby d15_1) rfl) ?_
 refine oi (XS.aloadN X0.here hx rfl (hb hby d15_2) rfl rfl) ?_
 obtain ⟨T1, X1, e1, st1⟩ := own_gcls X0 hx hZ hown (hW 114 _ rfl) (hW 115 _ rfl) (hW 117 _ rfl) (hW 116 _ rfl) (hW 118 _ rfl) e0 E_e M_r (g := (mkF m 3 #[vr ea, vi (Int32.ofNat xs.length)] [(.ref ea), (.int (Int32.ofNat xs.length)), (.ref ea)])) rfl (by rw [hml]; rfl) rfl (hb hby d15_3) (by decide) (W := 2) (Nat.le_of_eq rfl) (by decide +kernel)
 refine oo st1 ?_
 refine so (A := (T1.setTop (mkF m 6 #[vr ea, vi (Int32.ofNat xs.length)] [(.ref mr), (.int (Int32.ofNat xs.length)), (.ref ea)]))) ?_
 obtain ⟨_, T2, Lc2, X2, hQ2, st2⟩ := own_c1 X1 <| Jvm.LawKit.callS X1 hx (y := ym16) hown (mvT hZ (hW 120 _ rfl)) (mvT hZ (hW 121 _ rfl)) (mvT hZ (hW 112 _ rfl)) (mvT hZ (hW 122 _ rfl)) (by decide) (backOf (W := 0) (rmC3_2 l Z a0 hw [] dq kd mr ea ke xs h0 n0 XO0 S_d V_d E_d M_r l_d V_e E_e E_ys hx9) hZ (hW 122 _ rfl) (hW 112 _ rfl) (by decide) (by decide)) (g := (mkF m 6 #[vr ea, vi (Int32.ofNat xs.length)] [(.ref mr), (.int (Int32.ofNat xs.length)), (.ref ea)])) rfl (by rw [hml]; rfl) (argsL := [(.ref ea), (.int (Int32.ofNat xs.length)), (.ref mr)]) (rest := []) (lenOf pd_10 rfl) rfl (Nat.le_of_eq rfl) (hb hby d15_6) (fun _ _ => ⟨rfl, e1, (by decide : 0 + 1 ≤ _), (by decide : 0 + 10 ≤ _)⟩)
 obtain ⟨ar2, kr2, rfl, Nq2, Kp2, ga2, la2, Va2⟩ := hQ2
 have N2 := Fr.app N0 Nq2
 refine oo st2 ?_
 have sz2 : h0.size ≤ T2.heap.size := Kp2.1
 have O2 : Old Z n0 T2.heap := XO0.keep Kp2 all0
 have K2 : Keep h0 T2.heap [] := K0_.trans Kp2 all0
 refine so (A := (T2.setTop (mkF m 9 #[vr ea, vi (Int32.ofNat xs.length)] [(.ref ar2)]))) ?_
 refine own_ret X2 hx hlk hret rfl (Or.inr (Or.inr (Or.inr (Or.inr ⟨rfl, rfl, rfl⟩)))) (hb hby d15_9) (by decide) (by decide) ?_
 skip
 exact ⟨ar2, kr2, rfl, N2, K2, by omega, by omega, Va2⟩
theorem ef_rmTA_2 (m : MethodId) (x0 : Nat) : entryFrame m #[(.ref x0)] 1 = mkF m 0 #[vr x0] [] := by first | (simp [entryFrame, mkF, argsToLocals, Value.category]; done) | rfl
def Q_rmTA_2 (Z : State) (la : Nat) (dq : Nat) (kd : ClassId) (mr : Nat) (ea : Nat) (ke : ClassId) (xs : List Nat) (h0 : Heap) (n0 : Nat) (v : Option Value) (h : Heap) (L : List Loc) : Prop := ∃ (ar : Nat) (kr : ClassId), v = some (.ref ar) ∧ Fr n0 L ∧ Keep h0 h [] ∧ h0.size ≤ ar ∧ ar < h.size ∧ Arv Z h ar kr (.object "java/lang/Object") (Int32.ofNat xs.length) (xs.map Value.ref) .null
theorem rmTA_2 (l : Launch) (Z : State) (a0 : Array Value) (hw : own_H Z a0) (ws : List Jvm.Cond) (la : Nat) (dq : Nat) (kd : ClassId) (mr : Nat) (ea : Nat) (ke : ClassId) (xs : List Nat) (h0 : Heap) (n0 : Nat) (XO0 : Old Z n0 h0) (S_d : Sta Z Z.heap "java/util/ArrayList" "DEFAULTCAPACITY_EMPTY_ELEMENTDATA" "[Ljava/lang/Object;" (.ref dq)) (V_d : Arv Z Z.heap dq kd (.object "java/lang/Object") (0 : Int32) [] .null) (E_d : Exa Z Z.heap dq "[Ljava/lang/Object;") (M_r : own_mir Z "[Ljava/lang/Object;" mr) (l_d : dq < n0) (V_e : Arv Z h0 ea ke (.object "java/lang/Object") (10 : Int32) (xs.map Value.ref) .null) (E_e : Exa Z h0 ea "[Ljava/lang/Object;") (E_ys : own_exs Z h0 xs) (hx9 : xs.length ≤ 9) (F_e : Fld Z h0 la "java/util/ArrayList" "elementData" "[Ljava/lang/Object;" (.ref ea)) (F_z : Fld Z h0 la "java/util/ArrayList" "size" "I" (.int (Int32.ofNat xs.length))) :
  own_M l Z ym14 cD14 ws 1 (some (.array (.object "java/lang/Object"))) (own_R 3 1 10 68) #[(.ref la)] h0 (Q_rmTA_2 Z la dq kd mr ea ke xs h0 n0) := by
 refine own_open (plainFor_of_name pn_4) ?_
 intro p e s m below meth c s₁ hx hby hlk hret hml hown hnm hZ X0 e0
 have hW := own_hW hw
 have N0 := Fr.nil n0
 refine oo (fun tt_ kk_ => castTop (ef_rmTA_2 m la) kk_) ?_
 refine so (A := (s₁.setTop (mkF m 0 #[vr la] []))) ?_
 have K0_ : Keep h0 h0 [] := Keep.refl h0 []
 have lt_ea := olt V_e.lt
 refine oi (XS.aloadN X0.here hx rfl (hb hby d14_0) rfl rfl) ?_
 obtain ⟨T1, X1, e1, st1⟩ := getF X0 hx hZ hown (host := "") (Or.inl (hW 25 _ rfl)) Via.refl e0 F_e (g := (mkF m 1 #[vr la] [(.ref la)])) rfl rfl (hb hby d14_1)
 refine oo st1 ?_
 refine oi (XS.aloadN X1.here hx rfl (hb hby d14_4) rfl rfl) ?_
 obtain ⟨T2, X2, e2, st2⟩ := getF X1 hx hZ hown (host := "") (Or.inl (hW 109 _ rfl)) Via.refl e1 F_z (g := (mkF m 5 #[vr la] [(.ref la), (.ref ea)])) rfl rfl (hb hby d14_5)
 refine oo st2 ?_
 refine so (A := (T2.setTop (mkF m 8 #[vr la] [(.int (Int32.ofNat xs.length)), (.ref ea)]))) ?_
 obtain ⟨_, T3, Lc3, X3, hQ3, st3⟩ := own_c1 X2 <| Jvm.LawKit.callS X2 hx (y := ym15) hown (mvT hZ (hW 110 _ rfl)) (mvT hZ (hW 111 _ rfl)) (mvT hZ (hW 112 _ rfl)) (mvT hZ (hW 113 _ rfl)) (by decide) (backOf (W := 0) (rmC2_2 l Z a0 hw [] dq kd mr ea ke xs h0 n0 XO0 S_d V_d E_d M_r l_d V_e E_e E_ys hx9) hZ (hW 113 _ rfl) (hW 112 _ rfl) (by decide) (by decide)) (g := (mkF m 8 #[vr la] [(.int (Int32.ofNat xs.length)), (.ref ea)])) rfl (by rw [hml]; rfl) (argsL := [(.ref ea), (.int (Int32.ofNat xs.length))]) (rest := []) (lenOf pd_11 rfl) rfl (Nat.le_of_eq rfl) (hb hby d14_8) (fun _ _ => ⟨rfl, e2, (by decide : 0 + 1 ≤ _), (by decide : 0 + 10 ≤ _)⟩)
 obtain ⟨ar3, kr3, rfl, Nq3, Kp3, ga3, la3, Va3⟩ := hQ3
 have N3 := Fr.app N0 Nq3
 refine oo st3 ?_
 have sz3 : h0.size ≤ T3.heap.size := Kp3.1
 have O3 : Old Z n0 T3.heap := XO0.keep Kp3 all0
 have K3 : Keep h0 T3.heap [] := K0_.trans Kp3 all0
 refine so (A := (T3.setTop (mkF m 11 #[vr la] [(.ref ar3)]))) ?_
 refine own_ret X3 hx hlk hret rfl (Or.inr (Or.inr (Or.inr (Or.inr ⟨rfl, rfl, rfl⟩)))) (hb hby d14_11) (by decide) (by decide) ?_
 skip
 exact ⟨ar3, kr3, rfl, N3, K3, by omega, by omega, Va3⟩
theorem ef_rmAA_21 (m : MethodId) (x0 : Nat) (x1 : Nat) : entryFrame m #[(.ref x0), (.ref x1)] 6 = mkF m 0 #[vr x0, vr x1, uu, uu, uu, uu] [] := by first | (simp [entryFrame, mkF, argsToLocals, Value.category]; done) | rfl
theorem d13_26 : dk cD13 26 (.iload_n 3) 1 := by decide +kernel
theorem d13_27 : dk cD13 27 (.aload_n 0) 1 := by decide +kernel
theorem d13_28 : dk cD13 28 (.getfield 9) 3 := by decide +kernel
theorem d13_31 : dk cD13 31 .dup 1 := by decide +kernel
theorem d13_32 : dk cD13 32 (.astore 4) 2 := by decide +kernel
theorem d13_34 : dk cD13 34 .arraylength 1 := by decide +kernel
theorem d13_35 : dk cD13 35 (.aload_n 0) 1 := by decide +kernel
theorem d13_36 : dk cD13 36 (.getfield 48) 3 := by decide +kernel
theorem d13_39 : dk cD13 39 .dup 1 := by decide +kernel
theorem d13_40 : dk cD13 40 (.istore 5) 2 := by decide +kernel
theorem d13_42 : dk cD13 42 .isub 1 := by decide +kernel
theorem d13_43 : dk cD13 43 (.if_icmp .le 13) 3 := by decide +kernel
theorem d13_46 : dk cD13 46 (.aload_n 0) 1 := by decide +kernel
theorem d13_47 : dk cD13 47 (.iload 5) 2 := by decide +kernel
theorem d13_49 : dk cD13 49 (.iload_n 3) 1 := by decide +kernel
theorem d13_50 : dk cD13 50 .iadd 1 := by decide +kernel
theorem d13_51 : dk cD13 51 (.invokevirtual 69) 3 := by decide +kernel
theorem d13_54 : dk cD13 54 (.astore 4) 2 := by decide +kernel
theorem d13_56 : dk cD13 56 (.aload_n 2) 1 := by decide +kernel
theorem d13_57 : dk cD13 57 (.iconst 0) 1 := by decide +kernel
theorem d13_58 : dk cD13 58 (.aload 4) 2 := by decide +kernel
theorem d13_60 : dk cD13 60 (.iload 5) 2 := by decide +kernel
theorem d13_62 : dk cD13 62 (.iload_n 3) 1 := by decide +kernel
theorem d13_63 : dk cD13 63 (.invokestatic 112) 3 := by decide +kernel
theorem d13_66 : dk cD13 66 (.aload_n 0) 1 := by decide +kernel
theorem d13_67 : dk cD13 67 (.iload 5) 2 := by decide +kernel
theorem d13_69 : dk cD13 69 (.iload_n 3) 1 := by decide +kernel
theorem d13_70 : dk cD13 70 .iadd 1 := by decide +kernel
theorem d13_71 : dk cD13 71 (.putfield 48) 3 := by decide +kernel
theorem d13_74 : dk cD13 74 (.iconst 1) 1 := by decide +kernel
theorem d13_75 : dk cD13 75 .ireturn 1 := by decide +kernel
theorem rmAA_21 (l : Launch) (Z : State) (a0 : Array Value) (hw : own_H Z a0) (ws : List Jvm.Cond) (lb : Nat) (la : Nat) (dq : Nat) (kd : ClassId) (mr : Nat) (ea : Nat) (ke : ClassId) (xs : List Nat) (mc : Int32) (h0 : Heap) (n0 : Nat) (XO0 : Old Z n0 h0) (S_d : Sta Z Z.heap "java/util/ArrayList" "DEFAULTCAPACITY_EMPTY_ELEMENTDATA" "[Ljava/lang/Object;" (.ref dq)) (V_d : Arv Z Z.heap dq kd (.object "java/lang/Object") (0 : Int32) [] .null) (E_d : Exa Z Z.heap dq "[Ljava/lang/Object;") (M_r : own_mir Z "[Ljava/lang/Object;" mr) (l_d : dq < n0) (V_e : Arv Z h0 ea ke (.object "java/lang/Object") (10 : Int32) (xs.map Value.ref) .null) (E_e : Exa Z h0 ea "[Ljava/lang/Object;") (E_ys : own_exs Z h0 xs) (hx9 : xs.length ≤ 9) (E_l : Exa Z h0 la "java/util/ArrayList") (F_e : Fld Z h0 la "java/util/ArrayList" "elementData" "[Ljava/lang/Object;" (.ref ea)) (F_z : Fld Z h0 la "java/util/ArrayList" "size" "I" (.int (Int32.ofNat xs.length))) (g_b : n0 ≤ lb) (n_ab : la ≠ lb) (n_lb : lb ≠ ea) (hx0 : 0 < xs.length) (B_l : Exa Z h0 lb "java/util/ArrayList") (B_e : Fld Z h0 lb "java/util/ArrayList" "elementData" "[Ljava/lang/Object;" (.ref dq)) (B_z : Fld Z h0 lb "java/util/ArrayList" "size" "I" (.int 0)) (B_m : Fld Z h0 lb "java/util/AbstractList" "modCount" "I" (.int mc)) :
  own_M l Z ym13 cD13 ws 6 (some .boolean) (own_R 4 2 20 80) #[(.ref lb), (.ref la)] h0 (Q_AA Z dq lb dq [] xs mc h0 n0) := by
 refine own_open (plainFor_of_name pn_4) ?_
 intro p e s m below meth c s₁ hx hby hlk hret hml hown hnm hZ X0 e0
 have hW := own_hW hw
 have N0 := Fr.nil n0
 refine oo (fun tt_ kk_ => castTop (ef_rmAA_21 m lb la) kk_) ?_
 refine so (A := (s₁.setTop (mkF m 0 #[vr lb, vr la, uu, uu, uu, uu] []))) ?_
 have K0_ : Keep h0 h0 [lb, lb] := Keep.refl h0 [lb, lb]
 have lt_la := olt E_l.lt
 have lt_lb := olt B_l.lt
 have lt_ea := olt V_e.lt
 refine oi (XS.aloadN X0.here hx rfl (hb hby d13_0) rfl rfl) ?_
 refine so (A := (s₁.setTop (mkF m 1 #[vr lb, vr la, uu, uu, uu, uu] [(.ref la)]))) ?_
 obtain ⟨cq1, kq1, q1a, q1b, q1c⟩ := isOf hZ e0 E_l
 obtain ⟨_, T1, Lc1, X1, hQ1, st1⟩ := own_c1 X0 <| X0.interfaceBack hx (xi := ym9554) (y := ym14) hown (mvT hZ (hW 100 _ rfl)) (mvT hZ (hW 101 _ rfl)) (mvT hZ (hW 102 _ rfl)) (mvT hZ (hW 103 _ rfl)) (mvT hZ (hW 104 _ rfl)) (mvT hZ (hW 105 _ rfl)) (mvT hZ (hW 106 _ rfl)) (mvT hZ (hW 107 _ rfl)) (by decide) (backOf (W := 0) (rmTA_2 l Z a0 hw [] la dq kd mr ea ke xs h0 n0 XO0 S_d V_d E_d M_r l_d V_e E_e E_ys hx9 F_e F_z) hZ (hW 108 _ rfl) (hW 3 _ rfl) (by decide) (by decide)) q1a q1b q1c (g := (mkF m 1 #[vr lb, vr la, uu, uu, uu, uu] [(.ref la)])) rfl (by rw [hml]; rfl) (Steps.refl _) (argsL := []) (rest := []) (lenOf pd_6 rfl) rfl (Nat.le_of_eq rfl) (hb hby d13_1) (fun _ _ => ⟨rfl, e0, (by decide : 0 + 1 ≤ _), (by decide : 0 + 10 ≤ _)⟩)
 obtain ⟨ar1, kr1, rfl, Nq1, Kp1, ga1, la1, Va1⟩ := hQ1
 have N1 := Fr.app N0 Nq1
 refine oo (fun tt_ kk_ => st1.trans kk_) ?_
 have sz1 : h0.size ≤ T1.heap.size := Kp1.1
 have O1 : Old Z n0 T1.heap := XO0.keep Kp1 all0
 have K1 : Keep h0 T1.heap [lb, lb] := K0_.trans Kp1 all0
 refine oi (XS.astoreN X1.here hx rfl (hb hby d13_6) rfl rfl (l' := #[vr lb, vr la, vr ar1, uu, uu, uu]) rfl) ?_
 refine oi (XS.aloadN X1.here hx rfl (hb hby d13_7) rfl rfl) ?_
 refine oi (XS.dup X1.here hx rfl (hb hby d13_8) rfl rfl) ?_
 have f2 : Fld Z T1.heap lb "java/util/AbstractList" "modCount" "I" (.int mc) := (B_m.keep Kp1 nin0)
 obtain ⟨T3, X3, e3, st3⟩ := getF X1 hx hZ hown (host := "") (Or.inl (hW 134 _ rfl)) (Via.of (hW 79 _ rfl)) rfl f2 (g := (mkF m 9 #[vr lb, vr la, vr ar1, uu, uu, uu] [(.ref lb), (.ref lb)])) rfl rfl (hb hby d13_9)
 refine oo st3 ?_
 refine oi (XS.iconst X3.here hx rfl (hb hby d13_12)) ?_
 refine oi (XS.iadd X3.here hx rfl (hb hby d13_13) rfl) ?_
 have f4 : Exa Z T1.heap lb "java/util/ArrayList" := (B_l.keep Kp1)
 obtain ⟨T5, h5, X5, e5, W5, st5⟩ := putF X3 hx hZ hown (host := "") (Or.inl (hW 134 _ rfl)) (Via.of (hW 79 _ rfl)) e3 f2 f4 (Or.inl (hW 23 _ rfl)) (hW 2 _ rfl) (ty := .int) pf_2 rfl rfl (g := (mkF m 14 #[vr lb, vr la, vr ar1, uu, uu, uu] [(.int (mc + (1 : Int32))), (.ref lb)])) rfl rfl (hb hby d13_14)
 refine oo st5 ?_
 have N5 := Fr.snoc X5 N1 (by omega : n0 ≤ lb)
 have sz5 : h5.size = T1.heap.size := W5.size
 have O5 : Old Z n0 h5 := O1.wr W5 (by omega)
 have K5 : Keep h0 h5 [lb, lb] := K1.wr W5 (Or.inl (List.mem_of_getElem? (i := 0) rfl))
 have Fw5 := f2.same W5
 refine oi (XS.aloadN X5.here hx rfl (hb hby d13_17) rfl rfl) ?_
 have f6 : Arv Z h5 ar1 kr1 (.object "java/lang/Object") (Int32.ofNat xs.length) (xs.map Value.ref) .null := (Va1.other W5 (one (by omega)))
 obtain ⟨cl7, Ar7, q7, S7, Ng7, H7, G7⟩ := id f6
 refine oo (fun tt_ kk => X5.arraylength hx (by rw [e5]; exact Ar7.1) (State.isArrayOf_alike hZ.alike Ar7.2.1) (g := (mkF m 18 #[vr lb, vr la, vr ar1, uu, uu, uu] [(.ref ar1)])) rfl rfl (hb hby d13_18) _ (by rw [len_of S7 Ng7]; exact kk)) ?_
 refine oi (XS.istoreN X5.here hx rfl (hb hby d13_19) rfl (l' := #[vr lb, vr la, vr ar1, vi (Int32.ofNat xs.length), uu, uu]) rfl) ?_
 refine oi (XS.iloadN X5.here hx rfl (hb hby d13_20) rfl) ?_
 have hb21_8 : ¬ ((Int32.ofNat xs.length) = (0 : Int32)) := fun q => Nat.ne_of_gt hx0 ((own_neq (by omega) (b := 0) (by omega)).mp q)
 refine oi (XS.ifYes X5.here hx rfl (pc0 := 21) (pc' := 26) rfl (hb hby d13_21) rfl ((if0 _ _).trans (feq hb21_8).2) (by decide) (by decide)) ?_
 refine so (A := (T5.setTop (mkF m 26 #[vr lb, vr la, vr ar1, vi (Int32.ofNat xs.length), uu, uu] []))) ?_
 refine oi (XS.iloadN X5.here hx rfl (hb hby d13_26) rfl) ?_
 refine oi (XS.aloadN X5.here hx rfl (hb hby d13_27) rfl rfl) ?_
 have f9 : Fld Z h5 lb "java/util/ArrayList" "elementData" "[Ljava/lang/Object;" (.ref dq) := ((B_e.keep Kp1 nin0).other W5 (Or.inr (slot_ne (Or.inl (hW 26 _ rfl)) (Or.inl (hW 23 _ rfl)) (by decide) pf_3 pf_2)))
 obtain ⟨T10, X10, e10, st10⟩ := getF X5 hx hZ hown (host := "") (Or.inl (hW 25 _ rfl)) Via.refl e5 f9 (g := (mkF m 28 #[vr lb, vr la, vr ar1, vi (Int32.ofNat xs.length), uu, uu] [(.ref lb), (.int (Int32.ofNat xs.length))])) rfl rfl (hb hby d13_28)
 refine oo st10 ?_
 refine oi (XS.dup X10.here hx rfl (hb hby d13_31) rfl rfl) ?_
 refine so (A := (T10.setTop (mkF m 32 #[vr lb, vr la, vr ar1, vi (Int32.ofNat xs.length), uu, uu] [(.ref dq), (.ref dq), (.int (Int32.ofNat xs.length))]))) ?_
 refine oi (XS.astore X10.here hx rfl (hb hby d13_32) rfl rfl (l' := #[vr lb, vr la, vr ar1, vi (Int32.ofNat xs.length), vr dq, uu]) rfl) ?_
 have f11 : Arv Z h5 dq kd (.object "java/lang/Object") (0 : Int32) [] .null := V_d.ext O5.2
 obtain ⟨cl12, Ar12, q12, S12, Ng12, H12, G12⟩ := id f11
 refine oo (fun tt_ kk => X10.arraylength hx (by rw [e10]; exact Ar12.1) (State.isArrayOf_alike hZ.alike Ar12.2.1) (g := (mkF m 34 #[vr lb, vr la, vr ar1, vi (Int32.ofNat xs.length), vr dq, uu] [(.ref dq), (.int (Int32.ofNat xs.length))])) rfl rfl (hb hby d13_34) _ (by rw [len_of S12 Ng12]; exact kk)) ?_
 refine oi (XS.aloadN X10.here hx rfl (hb hby d13_35) rfl rfl) ?_
 have f13 : Fld Z h5 lb "java/util/ArrayList" "size" "I" (.int 0) := ((B_z.keep Kp1 nin0).other W5 (Or.inr (slot_ne (Or.inl (hW 94 _ rfl)) (Or.inl (hW 23 _ rfl)) (by decide) pf_2 pf_2)))
 obtain ⟨T14, X14, e14, st14⟩ := getF X10 hx hZ hown (host := "") (Or.inl (hW 109 _ rfl)) Via.refl e10 f13 (g := (mkF m 36 #[vr lb, vr la, vr ar1, vi (Int32.ofNat xs.length), vr dq, uu] [(.ref lb), (.int 0), (.int (Int32.ofNat xs.length))])) rfl rfl (hb hby d13_36)
 refine oo st14 ?_
 refine oi (XS.dup X14.here hx rfl (hb hby d13_39) rfl rfl) ?_
 refine oi (XS.istore X14.here hx rfl (hb hby d13_40) rfl (l' := #[vr lb, vr la, vr ar1, vi (Int32.ofNat xs.length), vr dq, vz]) rfl) ?_
 refine oi (XS.isub X14.here hx rfl (hb hby d13_42) rfl) ?_
 have hb43_15 : (0 : Int32) < (Int32.ofNat xs.length) := (own_nlt (a := 0) (by omega) (by omega)).mpr hx0
 refine oi (XS.icmpNo X14.here hx rfl (hb hby d13_43) rfl (tlt hb43_15).2.2.2) ?_
 refine so (A := (T14.setTop (mkF m 46 #[vr lb, vr la, vr ar1, vi (Int32.ofNat xs.length), vr dq, vz] []))) ?_
 refine oi (XS.aloadN X14.here hx rfl (hb hby d13_46) rfl rfl) ?_
 refine oi (XS.iload X14.here hx rfl (hb hby d13_47) rfl) ?_
 refine oi (XS.iloadN X14.here hx rfl (hb hby d13_49) rfl) ?_
 refine oi (XS.iadd X14.here hx rfl (hb hby d13_50) rfl) ?_
 refine so (A := (T14.setTop (mkF m 51 #[vr lb, vr la, vr ar1, vi (Int32.ofNat xs.length), vr dq, vz] [(.int ((0 : Int32) + (Int32.ofNat xs.length))), (.ref lb)]))) ?_
 have f16 : Exa Z h5 lb "java/util/ArrayList" := (f4.wr W5)
 obtain ⟨cq17, q17, q17'⟩ := f16.cell
 obtain ⟨_, T17, Lc17, X17, hQ17, st17⟩ := own_c1 X14 <| X14.privateBack hx (y := ym25) hown (mvT hZ (hW 178 _ rfl)) (mvT hZ (hW 179 _ rfl)) (mvT hZ (hW 181 _ rfl)) (Cond.privateMethod_at (mvP hZ (hW 180 _ rfl) (args := #[]))) (mvT hZ (hW 182 _ rfl)) (by decide) (backOf (W := 0) (rmGrI l Z a0 hw [] lb dq kd mr (mc + (1 : Int32)) ((0 : Int32) + (Int32.ofNat xs.length)) h5 n0 O5 (by omega) S_d V_d E_d M_r l_d f16 f9 f13 Fw5 (by rw [show (0 : Int32) + Int32.ofNat xs.length = Int32.ofNat (0 + xs.length) from own_nadd 0 _, show (10 : Int32) = Int32.ofNat 10 from rfl, own_nlt (by omega) (by omega)]; omega)) hZ (hW 182 _ rfl) (hW 3 _ rfl) (by decide) (by decide)) (g := (mkF m 51 #[vr lb, vr la, vr ar1, vi (Int32.ofNat xs.length), vr dq, vz] [(.int ((0 : Int32) + (Int32.ofNat xs.length))), (.ref lb)])) rfl (by rw [hml]; rfl) (Steps.refl _) (a := lb) (by rw [e14]; exact q17) q17' (argsL := [(.int ((0 : Int32) + (Int32.ofNat xs.length)))]) (rest := []) (lenOf pd_5 rfl) rfl (Nat.le_of_eq rfl) (hb hby d13_51) (fun _ _ => ⟨rfl, e14, (by decide : 1 + 1 ≤ _), (by decide : 10 + 10 ≤ _)⟩)
 obtain ⟨e17, k17, rfl, Nq17, Kp17, ge17, le17, El17, Fe17, Fz17, Fm17, Ve17, Oe17, Ee17⟩ := hQ17
 have N17 := Fr.app N5 Nq17
 refine oo (fun tt_ kk_ => st17.trans kk_) ?_
 have sz17 : h5.size ≤ T17.heap.size := Kp17.1
 have O17 : Old Z n0 T17.heap := O5.keep Kp17 (allS (by omega) all0)
 have K17 : Keep h0 T17.heap [lb, lb] := K5.trans Kp17 (allS (Or.inl (List.mem_of_getElem? (i := 0) rfl)) all0)
 refine oi (XS.astore X17.here hx rfl (hb hby d13_54) rfl rfl (l' := #[vr lb, vr la, vr ar1, vi (Int32.ofNat xs.length), vr e17, vz]) rfl) ?_
 refine oi (XS.aloadN X17.here hx rfl (hb hby d13_56) rfl rfl) ?_
 refine oi (XS.iconst X17.here hx rfl (hb hby d13_57)) ?_
 refine oi (XS.aload X17.here hx rfl (hb hby d13_58) rfl rfl) ?_
 refine oi (XS.iload X17.here hx rfl (hb hby d13_60) rfl) ?_
 refine oi (XS.iloadN X17.here hx rfl (hb hby d13_62) rfl) ?_
 refine so (A := (T17.setTop (mkF m 63 #[vr lb, vr la, vr ar1, vi (Int32.ofNat xs.length), vr e17, vz] [(.int (Int32.ofNat xs.length)), (.int 0), (.ref e17), (.int 0), (.ref ar1)]))) ?_
 have f18 : own_exs Z T17.heap xs := (((E_ys.keep Kp1).wr W5).keep Kp17)
 have f19 : Arv Z T17.heap ar1 kr1 (.object "java/lang/Object") (Int32.ofNat xs.length) (xs.map Value.ref) .null := (f6.keep Kp17 (ninS (one (by omega)) nin0))
 have Bp20 : Arv Z T17.heap e17 k17 (.object "java/lang/Object") (10 : Int32) (([] : List Value) ++ List.replicate xs.length Value.null) .null := Arv.pad (vs := ([] : List Value)) Ve17 (fun i => own_pad0 _ _ _ i)
 obtain ⟨cl21, Ar21, q21, S21, Ng21, H21, G21⟩ := id Bp20
 have ed20 : ((0 : Int32)).toNatClampNeg = 0 := rfl
 have en20 : ((Int32.ofNat xs.length)).toNatClampNeg = xs.length := own_ncl (by omega)
 obtain ⟨T20, h20, L20, X20, e20, N20, Kp20, V20, st20⟩ := cpA X17 hx hZ hown (hW 249 _ rfl) (hW 133 _ rfl) (hW 131 _ rfl) (hW 132 _ rfl) rfl (us := xs.map Value.ref) f19 Bp20 (Or.inr ⟨rfl, rfl, own_stol Ar21 q21 Oe17 (hW 187 _ rfl) xs f18⟩) (by decide) (by decide) (own_inn (m := 10) (by omega) (by omega)).1 (by rw [en20]; show 0 + _ ≤ _; first | omega | (rw [own_ncl (by omega)]; omega) | (show _ ≤ 10; omega)) (by rw [ed20, en20]; show 0 + xs.length ≤ 10; omega) (by rw [en20]; exact own_hus rfl) (by rw [ed20, en20]; simp) N17 (by omega : n0 ≤ e17) (g := (mkF m 63 #[vr lb, vr la, vr ar1, vi (Int32.ofNat xs.length), vr e17, vz] [(.int (Int32.ofNat xs.length)), (.int 0), (.ref e17), (.int 0), (.ref ar1)])) rfl (by rw [hml]; rfl) rfl (hb hby d13_63) (by decide) (W := 0) (Nat.le_of_eq rfl) (by decide +kernel)
 have Vc20 : Arv Z h20 e17 k17 (.object "java/lang/Object") (10 : Int32) (xs.map Value.ref) .null := by rw [ed20, en20] at V20; simpa [List.drop_eq_nil_of_le] using V20
 refine oo st20 ?_
 have sz20 : T17.heap.size ≤ h20.size := Kp20.1
 have O20 : Old Z n0 h20 := O17.keep Kp20 (allS (by omega) all0)
 have K20 : Keep h0 h20 [lb, lb] := K17.trans Kp20 (allS (Or.inr (by omega)) all0)
 refine oi (XS.aloadN X20.here hx rfl (hb hby d13_66) rfl rfl) ?_
 refine oi (XS.iload X20.here hx rfl (hb hby d13_67) rfl) ?_
 refine oi (XS.iloadN X20.here hx rfl (hb hby d13_69) rfl) ?_
 refine oi (XS.iadd X20.here hx rfl (hb hby d13_70) rfl) ?_
 have f22 : Exa Z h20 lb "java/util/ArrayList" := (El17.keep Kp20)
 have f23 : Fld Z h20 lb "java/util/ArrayList" "size" "I" (.int 0) := (Fz17.keep Kp20 (ninS (one (by omega)) nin0))
 obtain ⟨T24, h24, X24, e24, W24, st24⟩ := putF X20 hx hZ hown (host := "") (Or.inl (hW 109 _ rfl)) Via.refl e20 f23 f22 (Or.inl (hW 94 _ rfl)) (hW 2 _ rfl) (ty := .int) pf_2 rfl rfl (g := (mkF m 71 #[vr lb, vr la, vr ar1, vi (Int32.ofNat xs.length), vr e17, vz] [(.int ((0 : Int32) + (Int32.ofNat xs.length))), (.ref lb)])) rfl rfl (hb hby d13_71)
 refine oo st24 ?_
 have N24 := Fr.snoc X24 N20 (by omega : n0 ≤ lb)
 have sz24 : h24.size = h20.size := W24.size
 have O24 : Old Z n0 h24 := O20.wr W24 (by omega)
 have K24 : Keep h0 h24 [lb, lb] := K20.wr W24 (Or.inl (List.mem_of_getElem? (i := 0) rfl))
 have Fw24 := f23.same W24
 refine oi (XS.iconst X24.here hx rfl (hb hby d13_74)) ?_
 refine so (A := (T24.setTop (mkF m 75 #[vr lb, vr la, vr ar1, vi (Int32.ofNat xs.length), vr e17, vz] [(.int 1)]))) ?_
 refine own_ret X24 hx hlk hret rfl (Or.inl ⟨rfl, by simp, _, rfl⟩) (hb hby d13_75) (by decide) (by decide) ?_
 rw [e24]
 have f25 : Exa Z h24 lb "java/util/ArrayList" := (f22.wr W24)
 have f26 : Fld Z h24 lb "java/util/ArrayList" "elementData" "[Ljava/lang/Object;" (.ref e17) := ((Fe17.keep Kp20 (ninS (one (by omega)) nin0)).other W24 (Or.inr (slot_ne (Or.inl (hW 26 _ rfl)) (Or.inl (hW 94 _ rfl)) (by decide) pf_3 pf_2)))
 have f27 : Fld Z h24 lb "java/util/AbstractList" "modCount" "I" (.int (mc + (1 : Int32))) := ((Fm17.keep Kp20 (ninS (one (by omega)) nin0)).other W24 (Or.inr (slot_ne (Or.inl (hW 23 _ rfl)) (Or.inl (hW 94 _ rfl)) (by decide) pf_2 pf_2)))
 have f28 : Exa Z h24 e17 "[Ljava/lang/Object;" := ((Ee17.keep Kp20).wr W24)
 have f29 : Arv Z h24 e17 k17 (.object "java/lang/Object") (10 : Int32) (xs.map Value.ref) .null := (Vc20.other W24 (one (by omega)))
 exact ⟨e17, k17, lb, _, rfl, N24, by omega, Or.inl ⟨rfl, rfl, Or.inr (by omega)⟩, K24, ⟨f25, f26, (by rw [← own_sz2]; exact Fw24), f27, f28, Or.inr ⟨by omega, by omega, Oe17, f29⟩⟩⟩
theorem ef_rmAA_22 (m : MethodId) (x0 : Nat) (x1 : Nat) : entryFrame m #[(.ref x0), (.ref x1)] 6 = mkF m 0 #[vr x0, vr x1, uu, uu, uu, uu] [] := by first | (simp [entryFrame, mkF, argsToLocals, Value.category]; done) | rfl
theorem rmAA_22 (l : Launch) (Z : State) (a0 : Array Value) (hw : own_H Z a0) (ws : List Jvm.Cond) (lb : Nat) (la : Nat) (dq : Nat) (kd : ClassId) (mr : Nat) (ea : Nat) (ke : ClassId) (xs : List Nat) (eb : Nat) (kb : ClassId) (zs : List Nat) (mc : Int32) (h0 : Heap) (n0 : Nat) (XO0 : Old Z n0 h0) (S_d : Sta Z Z.heap "java/util/ArrayList" "DEFAULTCAPACITY_EMPTY_ELEMENTDATA" "[Ljava/lang/Object;" (.ref dq)) (V_d : Arv Z Z.heap dq kd (.object "java/lang/Object") (0 : Int32) [] .null) (E_d : Exa Z Z.heap dq "[Ljava/lang/Object;") (M_r : own_mir Z "[Ljava/lang/Object;" mr) (l_d : dq < n0) (V_e : Arv Z h0 ea ke (.object "java/lang/Object") (10 : Int32) (xs.map Value.ref) .null) (E_e : Exa Z h0 ea "[Ljava/lang/Object;") (E_ys : own_exs Z h0 xs) (hx9 : xs.length ≤ 9) (E_l : Exa Z h0 la "java/util/ArrayList") (F_e : Fld Z h0 la "java/util/ArrayList" "elementData" "[Ljava/lang/Object;" (.ref ea)) (F_z : Fld Z h0 la "java/util/ArrayList" "size" "I" (.int (Int32.ofNat xs.length))) (g_b : n0 ≤ lb) (n_ab : la ≠ lb) (n_lb : lb ≠ ea) (hx0 : 0 < xs.length) (B_l : Exa Z h0 lb "java/util/ArrayList") (B_e : Fld Z h0 lb "java/util/ArrayList" "elementData" "[Ljava/lang/Object;" (.ref eb)) (B_z : Fld Z h0 lb "java/util/ArrayList" "size" "I" (.int (Int32.ofNat zs.length))) (B_m : Fld Z h0 lb "java/util/AbstractList" "modCount" "I" (.int mc)) (B_g : n0 ≤ eb) (B_n : lb ≠ eb) (B_o : Ovr Z kb "java/lang/Object") (B_v : Arv Z h0 eb kb (.object "java/lang/Object") (10 : Int32) (zs.map Value.ref) .null) (B_x : Exa Z h0 eb "[Ljava/lang/Object;") (n_ee : ea ≠ eb) (hxz : xs.length + zs.length ≤ 10) :
  own_M l Z ym13 cD13 ws 6 (some .boolean) (own_R 4 2 20 80) #[(.ref lb), (.ref la)] h0 (Q_AA Z dq lb eb zs xs mc h0 n0) := by
 refine own_open (plainFor_of_name pn_4) ?_
 intro p e s m below meth c s₁ hx hby hlk hret hml hown hnm hZ X0 e0
 have hW := own_hW hw
 have N0 := Fr.nil n0
 refine oo (fun tt_ kk_ => castTop (ef_rmAA_22 m lb la) kk_) ?_
 refine so (A := (s₁.setTop (mkF m 0 #[vr lb, vr la, uu, uu, uu, uu] []))) ?_
 have K0_ : Keep h0 h0 [lb, eb] := Keep.refl h0 [lb, eb]
 have lt_la := olt E_l.lt
 have lt_lb := olt B_l.lt
 have lt_ea := olt V_e.lt
 have lt_eb := olt B_v.lt
 refine oi (XS.aloadN X0.here hx rfl (hb hby d13_0) rfl rfl) ?_
 refine so (A := (s₁.setTop (mkF m 1 #[vr lb, vr la, uu, uu, uu, uu] [(.ref la)]))) ?_
 obtain ⟨cq1, kq1, q1a, q1b, q1c⟩ := isOf hZ e0 E_l
 obtain ⟨_, T1, Lc1, X1, hQ1, st1⟩ := own_c1 X0 <| X0.interfaceBack hx (xi := ym9554) (y := ym14) hown (mvT hZ (hW 100 _ rfl)) (mvT hZ (hW 101 _ rfl)) (mvT hZ (hW 102 _ rfl)) (mvT hZ (hW 103 _ rfl)) (mvT hZ (hW 104 _ rfl)) (mvT hZ (hW 105 _ rfl)) (mvT hZ (hW 106 _ rfl)) (mvT hZ (hW 107 _ rfl)) (by decide) (backOf (W := 0) (rmTA_2 l Z a0 hw [] la dq kd mr ea ke xs h0 n0 XO0 S_d V_d E_d M_r l_d V_e E_e E_ys hx9 F_e F_z) hZ (hW 108 _ rfl) (hW 3 _ rfl) (by decide) (by decide)) q1a q1b q1c (g := (mkF m 1 #[vr lb, vr la, uu, uu, uu, uu] [(.ref la)])) rfl (by rw [hml]; rfl) (Steps.refl _) (argsL := []) (rest := []) (lenOf pd_6 rfl) rfl (Nat.le_of_eq rfl) (hb hby d13_1) (fun _ _ => ⟨rfl, e0, (by decide : 0 + 1 ≤ _), (by decide : 0 + 10 ≤ _)⟩)
 obtain ⟨ar1, kr1, rfl, Nq1, Kp1, ga1, la1, Va1⟩ := hQ1
 have N1 := Fr.app N0 Nq1
 refine oo (fun tt_ kk_ => st1.trans kk_) ?_
 have sz1 : h0.size ≤ T1.heap.size := Kp1.1
 have O1 : Old Z n0 T1.heap := XO0.keep Kp1 all0
 have K1 : Keep h0 T1.heap [lb, eb] := K0_.trans Kp1 all0
 refine oi (XS.astoreN X1.here hx rfl (hb hby d13_6) rfl rfl (l' := #[vr lb, vr la, vr ar1, uu, uu, uu]) rfl) ?_
 refine oi (XS.aloadN X1.here hx rfl (hb hby d13_7) rfl rfl) ?_
 refine oi (XS.dup X1.here hx rfl (hb hby d13_8) rfl rfl) ?_
 have f2 : Fld Z T1.heap lb "java/util/AbstractList" "modCount" "I" (.int mc) := (B_m.keep Kp1 nin0)
 obtain ⟨T3, X3, e3, st3⟩ := getF X1 hx hZ hown (host := "") (Or.inl (hW 134 _ rfl)) (Via.of (hW 79 _ rfl)) rfl f2 (g := (mkF m 9 #[vr lb, vr la, vr ar1, uu, uu, uu] [(.ref lb), (.ref lb)])) rfl rfl (hb hby d13_9)
 refine oo st3 ?_
 refine oi (XS.iconst X3.here hx rfl (hb hby d13_12)) ?_
 refine oi (XS.iadd X3.here hx rfl (hb hby d13_13) rfl) ?_
 have f4 : Exa Z T1.heap lb "java/util/ArrayList" := (B_l.keep Kp1)
 obtain ⟨T5, h5, X5, e5, W5, st5⟩ := putF X3 hx hZ hown (host := "") (Or.inl (hW 134 _ rfl)) (Via.of (hW 79 _ rfl)) e3 f2 f4 (Or.inl (hW 23 _ rfl)) (hW 2 _ rfl) (ty := .int) pf_2 rfl rfl (g := (mkF m 14 #[vr lb, vr la, vr ar1, uu, uu, uu] [(.int (mc + (1 : Int32))), (.ref lb)])) rfl rfl (hb hby d13_14)
 refine oo st5 ?_
 have N5 := Fr.snoc X5 N1 (by omega : n0 ≤ lb)
 have sz5 : h5.size = T1.heap.size := W5.size
 have O5 : Old Z n0 h5 := O1.wr W5 (by omega)
 have K5 : Keep h0 h5 [lb, eb] := K1.wr W5 (Or.inl (List.mem_of_getElem? (i := 0) rfl))
 have Fw5 := f2.same W5
 refine oi (XS.aloadN X5.here hx rfl (hb hby d13_17) rfl rfl) ?_
 have f6 : Arv Z h5 ar1 kr1 (.object "java/lang/Object") (Int32.ofNat xs.length) (xs.map Value.ref) .null := (Va1.other W5 (one (by omega)))
 obtain ⟨cl7, Ar7, q7, S7, Ng7, H7, G7⟩ := id f6
 refine oo (fun tt_ kk => X5.arraylength hx (by rw [e5]; exact Ar7.1) (State.isArrayOf_alike hZ.alike Ar7.2.1) (g := (mkF m 18 #[vr lb, vr la, vr ar1, uu, uu, uu] [(.ref ar1)])) rfl rfl (hb hby d13_18) _ (by rw [len_of S7 Ng7]; exact kk)) ?_
 refine oi (XS.istoreN X5.here hx rfl (hb hby d13_19) rfl (l' := #[vr lb, vr la, vr ar1, vi (Int32.ofNat xs.length), uu, uu]) rfl) ?_
 refine oi (XS.iloadN X5.here hx rfl (hb hby d13_20) rfl) ?_
 have hb21_8 : ¬ ((Int32.ofNat xs.length) = (0 : Int32)) := fun q => Nat.ne_of_gt hx0 ((own_neq (by omega) (b := 0) (by omega)).mp q)
 refine oi (XS.ifYes X5.here hx rfl (pc0 := 21) (pc' := 26) rfl (hb hby d13_21) rfl ((if0 _ _).trans (feq hb21_8).2) (by decide) (by decide)) ?_
 refine so (A := (T5.setTop (mkF m 26 #[vr lb, vr la, vr ar1, vi (Int32.ofNat xs.length), uu, uu] []))) ?_
 refine oi (XS.iloadN X5.here hx rfl (hb hby d13_26) rfl) ?_
 refine oi (XS.aloadN X5.here hx rfl (hb hby d13_27) rfl rfl) ?_
 have f9 : Fld Z h5 lb "java/util/ArrayList" "elementData" "[Ljava/lang/Object;" (.ref eb) := ((B_e.keep Kp1 nin0).other W5 (Or.inr (slot_ne (Or.inl (hW 26 _ rfl)) (Or.inl (hW 23 _ rfl)) (by decide) pf_3 pf_2)))
 obtain ⟨T10, X10, e10, st10⟩ := getF X5 hx hZ hown (host := "") (Or.inl (hW 25 _ rfl)) Via.refl e5 f9 (g := (mkF m 28 #[vr lb, vr la, vr ar1, vi (Int32.ofNat xs.length), uu, uu] [(.ref lb), (.int (Int32.ofNat xs.length))])) rfl rfl (hb hby d13_28)
 refine oo st10 ?_
 refine oi (XS.dup X10.here hx rfl (hb hby d13_31) rfl rfl) ?_
 refine so (A := (T10.setTop (mkF m 32 #[vr lb, vr la, vr ar1, vi (Int32.ofNat xs.length), uu, uu] [(.ref eb), (.ref eb), (.int (Int32.ofNat xs.length))]))) ?_
 refine oi (XS.astore X10.here hx rfl (hb hby d13_32) rfl rfl (l' := #[vr lb, vr la, vr ar1, vi (Int32.ofNat xs.length), vr eb, uu]) rfl) ?_
 have f11 : Arv Z h5 eb kb (.object "java/lang/Object") (10 : Int32) (zs.map Value.ref) .null := ((B_v.keep Kp1 nin0).other W5 (one (by omega)))
 obtain ⟨cl12, Ar12, q12, S12, Ng12, H12, G12⟩ := id f11
 refine oo (fun tt_ kk => X10.arraylength hx (by rw [e10]; exact Ar12.1) (State.isArrayOf_alike hZ.alike Ar12.2.1) (g := (mkF m 34 #[vr lb, vr la, vr ar1, vi (Int32.ofNat xs.length), vr eb, uu] [(.ref eb), (.int (Int32.ofNat xs.length))])) rfl rfl (hb hby d13_34) _ (by rw [len_of S12 Ng12]; exact kk)) ?_
 refine oi (XS.aloadN X10.here hx rfl (hb hby d13_35) rfl rfl) ?_
 have f13 : Fld Z h5 lb "java/util/ArrayList" "size" "I" (.int (Int32.ofNat zs.length)) := ((B_z.keep Kp1 nin0).other W5 (Or.inr (slot_ne (Or.inl (hW 94 _ rfl)) (Or.inl (hW 23 _ rfl)) (by decide) pf_2 pf_2)))
 obtain ⟨T14, X14, e14, st14⟩ := getF X10 hx hZ hown (host := "") (Or.inl (hW 109 _ rfl)) Via.refl e10 f13 (g := (mkF m 36 #[vr lb, vr la, vr ar1, vi (Int32.ofNat xs.length), vr eb, uu] [(.ref lb), (.int 10), (.int (Int32.ofNat xs.length))])) rfl rfl (hb hby d13_36)
 refine oo st14 ?_
 refine oi (XS.dup X14.here hx rfl (hb hby d13_39) rfl rfl) ?_
 refine oi (XS.istore X14.here hx rfl (hb hby d13_40) rfl (l' := #[vr lb, vr la, vr ar1, vi (Int32.ofNat xs.length), vr eb, vi (Int32.ofNat zs.length)]) rfl) ?_
 refine oi (XS.isub X14.here hx rfl (hb hby d13_42) rfl) ?_
 have hb43_15 : ¬ (((10 : Int32) - (Int32.ofNat zs.length)) < (Int32.ofNat xs.length)) := by rw [show (10 : Int32) - Int32.ofNat zs.length = Int32.ofNat (10 - zs.length) from own_nsub (a := 10) (by omega) (by omega), own_nlt (by omega) (by omega)]; omega
 refine oi (XS.icmpYes X14.here hx rfl (pc0 := 43) (pc' := 56) rfl (hb hby d13_43) rfl (flt hb43_15).2.2.2 (by decide) (by decide)) ?_
 refine so (A := (T14.setTop (mkF m 56 #[vr lb, vr la, vr ar1, vi (Int32.ofNat xs.length), vr eb, vi (Int32.ofNat zs.length)] []))) ?_
 refine oi (XS.aloadN X14.here hx rfl (hb hby d13_56) rfl rfl) ?_
 refine oi (XS.iconst X14.here hx rfl (hb hby d13_57)) ?_
 refine oi (XS.aload X14.here hx rfl (hb hby d13_58) rfl rfl) ?_
 refine oi (XS.iload X14.here hx rfl (hb hby d13_60) rfl) ?_
 refine oi (XS.iloadN X14.here hx rfl (hb hby d13_62) rfl) ?_
 refine so (A := (T14.setTop (mkF m 63 #[vr lb, vr la, vr ar1, vi (Int32.ofNat xs.length), vr eb, vi (Int32.ofNat zs.length)] [(.int (Int32.ofNat xs.length)), (.int (Int32.ofNat zs.length)), (.ref eb), (.int 0), (.ref ar1)]))) ?_
 have f16 : own_exs Z h5 xs := ((E_ys.keep Kp1).wr W5)
 have Bp17 : Arv Z h5 eb kb (.object "java/lang/Object") (10 : Int32) ((zs.map Value.ref) ++ List.replicate xs.length Value.null) .null := Arv.pad (vs := (zs.map Value.ref)) f11 (fun i => own_pad0 _ _ _ i)
 obtain ⟨cl18, Ar18, q18, S18, Ng18, H18, G18⟩ := id Bp17
 have ed17 : ((Int32.ofNat zs.length)).toNatClampNeg = zs.length := own_ncl (by omega)
 have en17 : ((Int32.ofNat xs.length)).toNatClampNeg = xs.length := own_ncl (by omega)
 obtain ⟨T17, h17, L17, X17, e17, N17, Kp17, V17, st17⟩ := cpA X14 hx hZ hown (hW 249 _ rfl) (hW 133 _ rfl) (hW 131 _ rfl) (hW 132 _ rfl) e14 (us := xs.map Value.ref) f6 Bp17 (Or.inr ⟨rfl, rfl, own_stol Ar18 q18 B_o (hW 187 _ rfl) xs f16⟩) (by decide) (own_inn (m := 10) (by omega) (by omega)).1 (own_inn (m := 10) (by omega) (by omega)).1 (by rw [en17]; show 0 + _ ≤ _; first | omega | (rw [own_ncl (by omega)]; omega) | (show _ ≤ 10; omega)) (by rw [ed17, en17]; show zs.length + xs.length ≤ 10; omega) (by rw [en17]; exact own_hus rfl) (by rw [ed17, en17]; simp) N5 (by omega : n0 ≤ eb) (g := (mkF m 63 #[vr lb, vr la, vr ar1, vi (Int32.ofNat xs.length), vr eb, vi (Int32.ofNat zs.length)] [(.int (Int32.ofNat xs.length)), (.int (Int32.ofNat zs.length)), (.ref eb), (.int 0), (.ref ar1)])) rfl (by rw [hml]; rfl) rfl (hb hby d13_63) (by decide) (W := 0) (Nat.le_of_eq rfl) (by decide +kernel)
 have Vc17 : Arv Z h17 eb kb (.object "java/lang/Object") (10 : Int32) ((zs ++ xs).map Value.ref) .null := by rw [ed17, en17] at V17; simpa [List.drop_eq_nil_of_le] using V17
 refine oo st17 ?_
 have sz17 : h5.size ≤ h17.size := Kp17.1
 have O17 : Old Z n0 h17 := O5.keep Kp17 (allS (by omega) all0)
 have K17 : Keep h0 h17 [lb, eb] := K5.trans Kp17 (allS (Or.inl (List.mem_of_getElem? (i := 1) rfl)) all0)
 refine oi (XS.aloadN X17.here hx rfl (hb hby d13_66) rfl rfl) ?_
 refine oi (XS.iload X17.here hx rfl (hb hby d13_67) rfl) ?_
 refine oi (XS.iloadN X17.here hx rfl (hb hby d13_69) rfl) ?_
 refine oi (XS.iadd X17.here hx rfl (hb hby d13_70) rfl) ?_
 have f19 : Exa Z h17 lb "java/util/ArrayList" := ((f4.wr W5).keep Kp17)
 have f20 : Fld Z h17 lb "java/util/ArrayList" "size" "I" (.int (Int32.ofNat zs.length)) := (f13.keep Kp17 (ninS (one (by omega)) nin0))
 obtain ⟨T21, h21, X21, e21, W21, st21⟩ := putF X17 hx hZ hown (host := "") (Or.inl (hW 109 _ rfl)) Via.refl e17 f20 f19 (Or.inl (hW 94 _ rfl)) (hW 2 _ rfl) (ty := .int) pf_2 rfl rfl (g := (mkF m 71 #[vr lb, vr la, vr ar1, vi (Int32.ofNat xs.length), vr eb, vi (Int32.ofNat zs.length)] [(.int ((Int32.ofNat zs.length) + (Int32.ofNat xs.length))), (.ref lb)])) rfl rfl (hb hby d13_71)
 refine oo st21 ?_
 have N21 := Fr.snoc X21 N17 (by omega : n0 ≤ lb)
 have sz21 : h21.size = h17.size := W21.size
 have O21 : Old Z n0 h21 := O17.wr W21 (by omega)
 have K21 : Keep h0 h21 [lb, eb] := K17.wr W21 (Or.inl (List.mem_of_getElem? (i := 0) rfl))
 have Fw21 := f20.same W21
 refine oi (XS.iconst X21.here hx rfl (hb hby d13_74)) ?_
 refine so (A := (T21.setTop (mkF m 75 #[vr lb, vr la, vr ar1, vi (Int32.ofNat xs.length), vr eb, vi (Int32.ofNat zs.length)] [(.int 1)]))) ?_
 refine own_ret X21 hx hlk hret rfl (Or.inl ⟨rfl, by simp, _, rfl⟩) (hb hby d13_75) (by decide) (by decide) ?_
 rw [e21]
 have f22 : Exa Z h21 lb "java/util/ArrayList" := (f19.wr W21)
 have f23 : Fld Z h21 lb "java/util/ArrayList" "elementData" "[Ljava/lang/Object;" (.ref eb) := ((f9.keep Kp17 (ninS (one (by omega)) nin0)).other W21 (Or.inr (slot_ne (Or.inl (hW 26 _ rfl)) (Or.inl (hW 94 _ rfl)) (by decide) pf_3 pf_2)))
 have f24 : Fld Z h21 lb "java/util/AbstractList" "modCount" "I" (.int (mc + (1 : Int32))) := ((Fw5.keep Kp17 (ninS (one (by omega)) nin0)).other W21 (Or.inr (slot_ne (Or.inl (hW 23 _ rfl)) (Or.inl (hW 94 _ rfl)) (by decide) pf_2 pf_2)))
 have f25 : Exa Z h21 eb "[Ljava/lang/Object;" := ((((B_x.keep Kp1).wr W5).keep Kp17).wr W21)
 have f26 : Arv Z h21 eb kb (.object "java/lang/Object") (10 : Int32) ((zs ++ xs).map Value.ref) .null := (Vc17.other W21 (one (by omega)))
 exact ⟨eb, kb, eb, _, rfl, N21, by omega, Or.inr ⟨rfl, by omega, rfl⟩, K21, ⟨f22, f23, (by rw [← own_sz2]; exact Fw21), f24, f25, Or.inr ⟨by omega, by omega, B_o, f26⟩⟩⟩
theorem rmAA (l : Launch) (Z : State) (a0 : Array Value) (hw : own_H Z a0) (ws : List Jvm.Cond) (lb : Nat) (la : Nat) (dq : Nat) (kd : ClassId) (mr : Nat) (ea : Nat) (ke : ClassId) (xs : List Nat) (eb : Nat) (kb : ClassId) (zs : List Nat) (mcl : Int32) (mc : Int32) (h0 : Heap) (n0 : Nat) (XO0 : Old Z n0 h0) (S_d : Sta Z Z.heap "java/util/ArrayList" "DEFAULTCAPACITY_EMPTY_ELEMENTDATA" "[Ljava/lang/Object;" (.ref dq)) (V_d : Arv Z Z.heap dq kd (.object "java/lang/Object") (0 : Int32) [] .null) (E_d : Exa Z Z.heap dq "[Ljava/lang/Object;") (M_r : own_mir Z "[Ljava/lang/Object;" mr) (l_d : dq < n0) (AL : own_al Z h0 dq n0 la ea ke xs mcl) (BL : own_al Z h0 dq n0 lb eb kb zs mc) (E_ys : own_exs Z h0 xs) (g_b : n0 ≤ lb) (n_ab : la ≠ lb) (n_lb : lb ≠ ea) (n_ee : n0 ≤ ea → ea ≠ eb) (hxz : xs.length + zs.length ≤ 9) (hx0 : n0 ≤ ea → 0 < xs.length) :
  own_M l Z ym13 cD13 ws 6 (some .boolean) (own_R 4 2 20 80) #[(.ref lb), (.ref la)] h0 (Q_AA Z dq lb eb zs xs mc h0 n0) := by
 obtain ⟨E_l, F_e, F_z, F_m, E_e, AL⟩ := AL
 obtain ⟨B_l, B_e, B_z, B_m, B_x, BL⟩ := BL
 rcases AL with ⟨e1, e2, V_e⟩ | ⟨g_e, n_le, O_e, V_e⟩ <;> rcases BL with ⟨f1, f2, B_v⟩ | ⟨B_g, B_n, B_o, B_v⟩
 ·subst e1 f1
  have e3 := e2.symm
  subst e3
  have f3 := f2.symm
  subst f3
  exact rmAA_11 l Z a0 hw ws lb la dq kd mr mc h0 n0 XO0 S_d V_d E_d M_r l_d E_l F_e F_z g_b n_ab B_l B_e B_z B_m
 ·subst e1
  have e3 := e2.symm
  subst e3
  exact rmAA_12 l Z a0 hw ws lb la dq kd mr eb kb zs mc h0 n0 XO0 S_d V_d E_d M_r l_d E_l F_e F_z g_b n_ab B_l B_e B_z B_m B_g B_n B_o B_v B_x
 ·subst f1
  have f3 := f2.symm
  subst f3
  exact rmAA_21 l Z a0 hw ws lb la dq kd mr ea ke xs mc h0 n0 XO0 S_d V_d E_d M_r l_d V_e E_e E_ys (by omega) E_l F_e F_z g_b n_ab (by omega) (hx0 g_e) B_l B_e B_z B_m
 ·exact rmAA_22 l Z a0 hw ws lb la dq kd mr ea ke xs eb kb zs mc h0 n0 XO0 S_d V_d E_d M_r l_d V_e E_e E_ys (by omega) E_l F_e F_z g_b n_ab (by omega) (hx0 g_e) B_l B_e B_z B_m B_g B_n B_o B_v B_x (by omega) (by omega)
theorem ef_rmW (m : MethodId) (x0 : Nat) (x1 : Nat) (x2 : Nat) : entryFrame m #[(.ref x0), (.ref x1), (.ref x2)] 8 = mkF m 0 #[vr x0, vr x1, vr x2, uu, uu, uu, uu, uu] [] := by first | (simp [entryFrame, mkF, argsToLocals, Value.category]; done) | rfl
theorem pn_9 : plainName "com/example/practory/practory/server/SearchQuery" = true := by first | (simp [plainName, overriddenIn]; done) | decide +kernel
theorem d9_56 : dk cD9 56 (.new 7) 3 := by decide +kernel
theorem d9_59 : dk cD9 59 .dup 1 := by decide +kernel
theorem d9_60 : dk cD9 60 (.invokespecial 9) 3 := by decide +kernel
theorem d9_63 : dk cD9 63 (.astore 4) 2 := by decide +kernel
theorem d9_65 : dk cD9 65 (.iconst 0) 1 := by decide +kernel
theorem d9_66 : dk cD9 66 (.istore 5) 2 := by decide +kernel
theorem d9_68 : dk cD9 68 (.aload_n 0) 1 := by decide +kernel
theorem d9_69 : dk cD9 69 (.invokeinterface 67 1) 5 := by decide +kernel
theorem pd_12 : parseMethodDescriptor "()Ljava/util/Iterator;" = some ⟨[], some (.object "java/util/Iterator")⟩ := by decide +kernel
theorem d9_74 : dk cD9 74 (.astore 6) 2 := by decide +kernel
theorem d9_76 : dk cD9 76 (.aload 6) 2 := by decide +kernel
theorem d9_78 : dk cD9 78 (.invokeinterface 73 1) 5 := by decide +kernel
theorem pd_13 : parseMethodDescriptor "()Z" = some ⟨[], some .boolean⟩ := by decide +kernel
theorem d9_83 : dk cD9 83 (.ifCond .eq 56) 3 := by decide +kernel
theorem d9_139 : dk cD9 139 (.iload 5) 2 := by decide +kernel
theorem d9_141 : dk cD9 141 (.ifCond .ne 10) 3 := by decide +kernel
theorem d9_144 : dk cD9 144 (.aload 4) 2 := by decide +kernel
theorem d9_146 : dk cD9 146 (.aload_n 3) 1 := by decide +kernel
theorem d9_147 : dk cD9 147 (.invokevirtual 89) 3 := by decide +kernel
theorem pd_14 : parseMethodDescriptor "(Ljava/util/Collection;)Z" = some ⟨[(.object "java/util/Collection")], some .boolean⟩ := by decide +kernel
theorem d9_150 : dk cD9 150 .pop 1 := by decide +kernel
theorem d9_151 : dk cD9 151 (.aload 4) 2 := by decide +kernel
theorem d9_153 : dk cD9 153 .areturn 1 := by decide +kernel
theorem d9_86 : dk cD9 86 (.aload 6) 2 := by decide +kernel
theorem d9_88 : dk cD9 88 (.invokeinterface 78 1) 5 := by decide +kernel
theorem pd_15 : parseMethodDescriptor "()Ljava/lang/Object;" = some ⟨[], some (.object "java/lang/Object")⟩ := by decide +kernel
theorem d9_93 : dk cD9 93 (.checkcast 35) 3 := by decide +kernel
theorem d9_96 : dk cD9 96 (.astore 7) 2 := by decide +kernel
theorem d9_98 : dk cD9 98 (.aload 7) 2 := by decide +kernel
theorem d9_100 : dk cD9 100 (.invokevirtual 82) 3 := by decide +kernel
theorem pd_16 : parseMethodDescriptor "()Ljava/lang/String;" = some ⟨[], some (.object "java/lang/String")⟩ := by decide +kernel
theorem d9_103 : dk cD9 103 (.aload_n 1) 1 := by decide +kernel
theorem d9_104 : dk cD9 104 (.invokevirtual 86) 3 := by decide +kernel
theorem pd_17 : parseMethodDescriptor "(Ljava/lang/Object;)Z" = some ⟨[(.object "java/lang/Object")], some .boolean⟩ := by decide +kernel
theorem d9_107 : dk cD9 107 (.ifCond .ne 14) 3 := by decide +kernel
theorem d9_110 : dk cD9 110 (.aload 4) 2 := by decide +kernel
theorem d9_112 : dk cD9 112 (.aload 7) 2 := by decide +kernel
theorem d9_114 : dk cD9 114 (.invokevirtual 52) 3 := by decide +kernel
theorem d9_117 : dk cD9 117 .pop 1 := by decide +kernel
theorem d9_118 : dk cD9 118 (.goto 18) 3 := by decide +kernel
theorem d9_136 : dk cD9 136 (.goto (-60)) 3 := by decide +kernel
theorem d9_121 : dk cD9 121 (.iload 5) 2 := by decide +kernel
theorem d9_123 : dk cD9 123 (.ifCond .ne 13) 3 := by decide +kernel
theorem d9_126 : dk cD9 126 (.aload 4) 2 := by decide +kernel
theorem d9_128 : dk cD9 128 (.aload_n 3) 1 := by decide +kernel
theorem d9_129 : dk cD9 129 (.invokevirtual 89) 3 := by decide +kernel
theorem d9_132 : dk cD9 132 .pop 1 := by decide +kernel
theorem d9_133 : dk cD9 133 (.iconst 1) 1 := by decide +kernel
theorem d9_134 : dk cD9 134 (.istore 5) 2 := by decide +kernel
theorem d9_0 : dk cD9 0 (.new 7) 3 := by decide +kernel
theorem d9_3 : dk cD9 3 .dup 1 := by decide +kernel
theorem d9_4 : dk cD9 4 (.invokespecial 9) 3 := by decide +kernel
theorem d9_7 : dk cD9 7 (.astore_n 3) 1 := by decide +kernel
theorem d9_8 : dk cD9 8 (.aload_n 2) 1 := by decide +kernel
theorem d9_9 : dk cD9 9 (.invokeinterface 67 1) 5 := by decide +kernel
theorem d9_14 : dk cD9 14 (.astore 4) 2 := by decide +kernel
theorem d9_16 : dk cD9 16 (.aload 4) 2 := by decide +kernel
theorem d9_18 : dk cD9 18 (.invokeinterface 73 1) 5 := by decide +kernel
theorem d9_23 : dk cD9 23 (.ifCond .eq 33) 3 := by decide +kernel
theorem d9_26 : dk cD9 26 (.aload 4) 2 := by decide +kernel
theorem d9_28 : dk cD9 28 (.invokeinterface 78 1) 5 := by decide +kernel
theorem d9_33 : dk cD9 33 (.checkcast 10) 3 := by decide +kernel
theorem d9_36 : dk cD9 36 (.astore 5) 2 := by decide +kernel
theorem d9_38 : dk cD9 38 (.aload_n 3) 1 := by decide +kernel
theorem d9_39 : dk cD9 39 (.new 35) 3 := by decide +kernel
theorem d9_42 : dk cD9 42 .dup 1 := by decide +kernel
theorem d9_43 : dk cD9 43 (.aload_n 1) 1 := by decide +kernel
theorem d9_44 : dk cD9 44 (.aload 5) 2 := by decide +kernel
theorem d9_46 : dk cD9 46 (.invokespecial 49) 3 := by decide +kernel
theorem pd_18 : parseMethodDescriptor "(Ljava/lang/String;Ljava/lang/String;)V" = some ⟨[(.object "java/lang/String"), (.object "java/lang/String")], none⟩ := by decide +kernel
theorem d9_49 : dk cD9 49 (.invokevirtual 52) 3 := by decide +kernel
theorem d9_52 : dk cD9 52 .pop 1 := by decide +kernel
theorem d9_53 : dk cD9 53 (.goto (-37)) 3 := by decide +kernel
def Q_rmW (Z : State) (lp : Nat) (lv : Nat) (dq : Nat) (kd : ClassId) (mr : Nat) (ep : Nat) (kp : ClassId) (ys : List Nat) (mp : Int32) (ev : Nat) (kv : ClassId) (vs : List Nat) (mv : Int32) (xn : Nat) (tn : Nat) (cn : Int32) (bp : Nat) (ps : List (Int32 × Int32)) (fs : List Int32) (Gc : Int32) (h0 : Heap) (n0 : Nat) (v : Option Value) (h : Heap) (L : List Loc) : Prop := ∃ (rs er : Nat) (kr : ClassId) (rm : Int32) (zs : List Nat), v = some (.ref rs) ∧ Fr n0 L ∧ Keep h0 h [] ∧ own_al Z h dq n0 rs er kr zs rm ∧ own_its Z h h.size zs (own_go2 cn (fs.map fun f => (cn, f)) ps false)
theorem rmW (l : Launch) (Z : State) (a0 : Array Value) (hw : own_H Z a0) (ws : List Jvm.Cond) (lp : Nat) (lv : Nat) (dq : Nat) (kd : ClassId) (mr : Nat) (ep : Nat) (kp : ClassId) (ys : List Nat) (mp : Int32) (ev : Nat) (kv : ClassId) (vs : List Nat) (mv : Int32) (xn : Nat) (tn : Nat) (cn : Int32) (bp : Nat) (ps : List (Int32 × Int32)) (fs : List Int32) (Gc : Int32) (h0 : Heap) (n0 : Nat) (XO0 : Old Z n0 h0) (Oc : Sta Z Z.heap "java/lang/String" "COMPACT_STRINGS" "Z" (.int Gc)) (Pc : ¬ (Gc = (0 : Int32))) (S_d : Sta Z Z.heap "java/util/ArrayList" "DEFAULTCAPACITY_EMPTY_ELEMENTDATA" "[Ljava/lang/Object;" (.ref dq)) (V_d : Arv Z Z.heap dq kd (.object "java/lang/Object") (0 : Int32) [] .null) (E_d : Exa Z Z.heap dq "[Ljava/lang/Object;") (M_r : own_mir Z "[Ljava/lang/Object;" mr) (l_d : dq < n0) (AP : own_al Z h0 dq n0 lp ep kp ys mp) (IP : own_its Z h0 bp ys ps) (AV : own_al Z h0 dq n0 lv ev kv vs mv) (SV : own_sts Z h0 vs fs) (S_n : own_st Z h0 xn tn cn) (l_b : bp ≤ xn) (hy3 : ys.length ≤ 3) (hv2 : vs.length ≤ 2) :
  own_M l Z ym9 cD9 ws 8 (some (.object "java/util/List")) (own_R 5 16 130 97) #[(.ref lp), (.ref xn), (.ref lv)] h0 (Q_rmW Z lp lv dq kd mr ep kp ys mp ev kv vs mv xn tn cn bp ps fs Gc h0 n0) := by
 refine own_open (plainFor_of_name pn_9) ?_
 intro p e s m below meth c s₁ hx hby hlk hret hml hown hnm hZ X0 e0
 have hW := own_hW hw
 have N0 := Fr.nil n0
 refine oo (fun tt_ kk_ => castTop (ef_rmW m lp xn lv) kk_) ?_
 refine so (A := (s₁.setTop (mkF m 0 #[vr lp, vr xn, vr lv, uu, uu, uu, uu, uu] []))) ?_
 have K0_ : Keep h0 h0 [] := Keep.refl h0 []
 have ltp := AP.lt2
 have ltv := AV.lt2
 have ltn := S_n.lts
 have J56 : ∀ (H5 : Heap) (T5 : State) (ls5 : List Loc) (la ea : Nat) (ke : ClassId) (zs : List Nat) (ma : Int32) (i4 : Nat) (l5 : Slot), (Stand p l e (own_R 5 16 130 97) s m #[.ref lp, .ref xn, .ref lv] below meth c T5 ls5 6 40) → (T5.heap = H5) → (Fr n0 ls5) → (Old Z n0 H5) → (Keep h0 H5 []) → (n0 ≤ la) → (h0.size ≤ la) → (own_al Z H5 dq n0 la ea ke zs ma) → (own_its Z H5 H5.size zs (fs.map fun f => (cn, f))) → (n0 ≤ ea → 0 < zs.length) → ((ea = dq ∨ h0.size ≤ ea)) → ((l5 = .unset ∨ ∃ z : Nat, l5 = vr z)) → own_go p e below s (Q_rmW Z lp lv dq kd mr ep kp ys mp ev kv vs mv xn tn cn bp ps fs Gc h0 n0) ((own_R 5 16 130 97)).cells ((own_R 5 16 130 97)).slots (T5.setTop (mkF m 56 #[vr lp, vr xn, vr lv, vr la, vr i4, l5, uu, uu] [])) := by
  intro H5 T5 ls5 la ea ke zs ma i4 l5 X5 e5 N5 O5 K5 g5 gl5 AA5 IA5 hx0 hea h5
  have ltA5 := AA5.lt2
  have hz2 : zs.length ≤ 2 := by have q := IA5.len; have q2 := own_sts_len SV; simp only [List.length_map] at q; omega
  refine so (A := (T5.setTop (mkF m 56 #[vr lp, vr xn, vr lv, vr la, vr i4, l5, uu, uu] []))) ?_
  obtain ⟨T1, h1, X1, e1, E1, A1, D1, -, st1⟩ := newO X5 hx hZ hown (hW 55 _ rfl) (hW 2 _ rfl) (hW 3 _ rfl) e5 (g := (mkF m 56 #[vr lp, vr xn, vr lv, vr la, vr i4, l5, uu, uu] [])) rfl (hb hby d9_56) (by decide) (by decide)
  obtain ⟨b1, g1⟩ : ∃ z, z = H5.size := ⟨_, rfl⟩
  rw [← g1] at A1 D1 st1
  refine oo st1 ?_
  have lt1 := olt A1.lt
  have sz1 : H5.size ≤ h1.size := E1.1
  have O1 : Old Z n0 h1 := O5.ext E1
  have z1 : n0 ≤ b1 := by have := O5.1 ▸ O5.2.1; omega
  have K1 : Keep h0 h1 [] := K5.ext E1
  have F1_modCount : Fld Z h1 b1 "java/util/AbstractList" "modCount" "I" (.int 0) := D1 (Or.inl (hW 23 _ rfl)) (ty := .int) pf_2
  have F1_elementData : Fld Z h1 b1 "java/util/ArrayList" "elementData" "[Ljava/lang/Object;" .null := D1 (Or.inl (hW 26 _ rfl)) (ty := (.array (.object "java/lang/Object"))) pf_3
  have F1_size : Fld Z h1 b1 "java/util/ArrayList" "size" "I" (.int 0) := D1 (Or.inl (hW 94 _ rfl)) (ty := .int) pf_2
  refine oi (XS.dup X1.here hx rfl (hb hby d9_59) rfl rfl) ?_
  refine so (A := (T1.setTop (mkF m 60 #[vr lp, vr xn, vr lv, vr la, vr i4, l5, uu, uu] [(.ref b1), (.ref b1)]))) ?_
  obtain ⟨_, T2, Lc2, X2, hQ2, st2⟩ := own_c1 X1 <| X1.specialBack hx (y := ym1) rfl hown (mvT hZ (hW 56 _ rfl)) (mvT hZ (hW 5 _ rfl)) (mvT hZ (hW 6 _ rfl)) (by decide) (backOf (W := 1) (rmLI l Z a0 hw [] b1 dq kd mr h1 n0 O1 (by omega) S_d V_d E_d M_r l_d A1 F1_elementData F1_size F1_modCount) hZ (hW 6 _ rfl) (hW 3 _ rfl) (by decide) (by decide)) (g := (mkF m 60 #[vr lp, vr xn, vr lv, vr la, vr i4, l5, uu, uu] [(.ref b1), (.ref b1)])) rfl (by rw [hml]; rfl) (Steps.refl _) (a := b1) (argsL := []) (rest := [(.ref b1)]) (lenOf pd_3 rfl) rfl (Nat.le_of_eq rfl) (hb hby d9_60) (fun _ _ => ⟨rfl, e1, (by decide : 7 + 0 ≤ _), (by decide : 43 + 0 ≤ _)⟩)
  obtain ⟨rfl, Nq2, Kp2, AL2⟩ := hQ2
  have N2 := Fr.app N5 Nq2
  refine oo (fun tt_ kk_ => st2.trans kk_) ?_
  have sz2 : h1.size ≤ T2.heap.size := Kp2.1
  have O2 : Old Z n0 T2.heap := O1.keep Kp2 (allS (by omega) all0)
  have K2 : Keep h0 T2.heap [] := K1.trans Kp2 (allS (Or.inr (by omega)) all0)
  refine oi (XS.astore X2.here hx rfl (hb hby d9_63) rfl rfl (l' := #[vr lp, vr xn, vr lv, vr la, vr b1, l5, uu, uu]) (by rcases h5 with rfl | ⟨z5, rfl⟩ <;> rfl)) ?_
  refine oi (XS.iconst X2.here hx rfl (hb hby d9_65)) ?_
  refine oi (XS.istore X2.here hx rfl (hb hby d9_66) rfl (l' := #[vr lp, vr xn, vr lv, vr la, vr b1, vz, uu, uu]) (by rcases h5 with rfl | ⟨z5, rfl⟩ <;> rfl)) ?_
  refine oi (XS.aloadN X2.here hx rfl (hb hby d9_68) rfl rfl) ?_
  refine so (A := (T2.setTop (mkF m 69 #[vr lp, vr xn, vr lv, vr la, vr b1, vz, uu, uu] [(.ref lp)]))) ?_
  have f3 : own_al Z T2.heap dq n0 lp ep kp ys mp := AP.keep K2 nin0 nin0
  obtain ⟨cq4, kq4, q4a, q4b, q4c⟩ := isOf hZ rfl f3.1
  obtain ⟨_, T4, Lc4, X4, hQ4, st4⟩ := own_c1 X2 <| X2.interfaceBack hx (xi := ym9246) (y := ym10) hown (mvT hZ (hW 57 _ rfl)) (mvT hZ (hW 58 _ rfl)) (mvT hZ (hW 59 _ rfl)) (mvT hZ (hW 60 _ rfl)) (mvT hZ (hW 61 _ rfl)) (mvT hZ (hW 62 _ rfl)) (mvT hZ (hW 63 _ rfl)) (mvT hZ (hW 64 _ rfl)) (by decide) (backOf (W := 0) (rmIt l Z a0 hw [] lp mp T2.heap n0 O2 f3.1 f3.2.2.2.1) hZ (hW 65 _ rfl) (hW 3 _ rfl) (by decide) (by decide)) q4a q4b q4c (g := (mkF m 69 #[vr lp, vr xn, vr lv, vr la, vr b1, vz, uu, uu] [(.ref lp)])) rfl (by rw [hml]; rfl) (Steps.refl _) (argsL := []) (rest := []) (lenOf pd_12 rfl) rfl (Nat.le_of_eq rfl) (hb hby d9_69) (fun _ _ => ⟨rfl, rfl, (by decide : 7 + 1 ≤ _), (by decide : 43 + 4 ≤ _)⟩)
  obtain ⟨it4, rfl, Nq4, Kp4, gi4, li4, Ei4, Ft4, Fc4, Fl4, Fx4⟩ := hQ4
  have N4 := Fr.app N2 Nq4
  refine oo (fun tt_ kk_ => st4.trans kk_) ?_
  have sz4 : T2.heap.size ≤ T4.heap.size := Kp4.1
  have O4 : Old Z n0 T4.heap := O2.keep Kp4 all0
  have K4 : Keep h0 T4.heap [] := K2.trans Kp4 all0
  refine oi (XS.astore X4.here hx rfl (hb hby d9_74) rfl rfl (l' := #[vr lp, vr xn, vr lv, vr la, vr b1, vz, vr it4, uu]) rfl) ?_
  refine so (A := (T4.setTop (mkF m 76 #[vr lp, vr xn, vr lv, vr la, vr b1, vz, vr it4, uu] []))) ?_
  have seg_0_0 : ∀ (i : Nat) (H : Heap) (T' : State) (ls : List Loc) (er : Nat) (kr : ClassId) (xs : List Nat) (qs : List (Int32 × Int32)) (mq lq : Int32) (l7 : Slot), (i + 0 = ys.length) → (Stand p l e (own_R 5 16 130 97) s m #[.ref lp, .ref xn, .ref lv] below meth c T' ls 14 110) → (T'.heap = H) → (Fr n0 ls) → (Old Z n0 H) → (Keep h0 H []) → (H5.size ≤ H.size) → (Exa Z H it4 "java/util/ArrayList$Itr") → (Fld Z H it4 "java/util/ArrayList$Itr" "this$0" "Ljava/util/ArrayList;" (.ref lp)) → (Fld Z H it4 "java/util/ArrayList$Itr" "cursor" "I" (.int (Int32.ofNat i))) → (Fld Z H it4 "java/util/ArrayList$Itr" "lastRet" "I" (.int lq)) → (Fld Z H it4 "java/util/ArrayList$Itr" "expectedModCount" "I" (.int mp)) → (own_al Z H dq n0 b1 er kr xs mq) → (own_its Z H H5.size xs qs) → (own_al Z H dq n0 la ea ke zs ma) → (own_its Z H H5.size zs (fs.map fun f => (cn, f))) → ((er = dq ∨ H5.size ≤ er)) → (er ≠ it4) → ((l7 = .unset ∨ ∃ z : Nat, l7 = vr z)) → (xs.length + 0 ≤ 3) → (qs ++ own_go2 cn (fs.map fun f => (cn, f)) (ps.drop i) false = (own_go2 cn (fs.map fun f => (cn, f)) ps false)) → own_go p e below s (Q_rmW Z lp lv dq kd mr ep kp ys mp ev kv vs mv xn tn cn bp ps fs Gc h0 n0) ((own_R 5 16 130 97)).cells ((own_R 5 16 130 97)).slots (T'.setTop (mkF m 76 #[vr lp, vr xn, vr lv, vr la, vr b1, vz, vr it4, l7] [])) := by
   intro i H T' ls er kr xs qs mq lq l7 hi X' eT N' O' K' hB Ei' Ft' Fc' Fl' Fx' AR IR AA IA hE hEi h7 hX hS
   have ltR := AR.lt2
   have ltA := AA.lt2
   have ltI := olt Ei'.lt
   refine so (A := (T'.setTop (mkF m 76 #[vr lp, vr xn, vr lv, vr la, vr b1, vz, vr it4, l7] []))) ?_
   refine oi (XS.aload X'.here hx rfl (hb hby d9_76) rfl rfl) ?_
   refine so (A := (T'.setTop (mkF m 78 #[vr lp, vr xn, vr lv, vr la, vr b1, vz, vr it4, l7] [(.ref it4)]))) ?_
   have f5 : own_al Z H dq n0 lp ep kp ys mp := AP.keep K' nin0 nin0
   obtain ⟨cq6, kq6, q6a, q6b, q6c⟩ := isOf hZ eT Ei'
   obtain ⟨_, T6, Lc6, X6, hQ6, st6⟩ := own_c1 X' <| X'.interfaceBack hx (xi := ym7688) (y := ym12) hown (mvT hZ (hW 82 _ rfl)) (mvT hZ (hW 83 _ rfl)) (mvT hZ (hW 84 _ rfl)) (mvT hZ (hW 85 _ rfl)) (mvT hZ (hW 86 _ rfl)) (mvT hZ (hW 87 _ rfl)) (mvT hZ (hW 88 _ rfl)) (mvT hZ (hW 89 _ rfl)) (by decide) (backOf (W := 0) (rmHN0 l Z a0 hw [] it4 lp (Int32.ofNat (i)) (Int32.ofNat ys.length) H n0 O' Ft' Fc' Ei' f5.1 f5.2.2.1 (congrArg Int32.ofNat (by omega))) hZ (hW 90 _ rfl) (hW 68 _ rfl) (by decide) (by decide)) q6a q6b q6c (g := (mkF m 78 #[vr lp, vr xn, vr lv, vr la, vr b1, vz, vr it4, l7] [(.ref it4)])) rfl (by rw [hml]; rfl) (Steps.refl _) (argsL := []) (rest := []) (lenOf pd_13 rfl) rfl (Nat.le_of_eq rfl) (hb hby d9_78) (fun _ _ => ⟨rfl, eT, (by decide : 14 + 0 ≤ _), (by decide : 110 + 0 ≤ _)⟩)
   obtain ⟨rfl, Nq6, eh6⟩ := hQ6
   have N6 := Fr.app N' Nq6
   refine oo (fun tt_ kk_ => st6.trans kk_) ?_
   have hb83_7 : (0 : Int32) = (0 : Int32) := by decide
   refine oi (XS.ifYes X6.here hx rfl (pc0 := 83) (pc' := 139) rfl (hb hby d9_83) rfl ((if0 _ _).trans (teq hb83_7).1) (by decide) (by decide)) ?_
   refine oi (XS.iload X6.here hx rfl (hb hby d9_139) rfl) ?_
   have hb141_8 : (0 : Int32) = (0 : Int32) := by decide
   refine oi (XS.ifNo X6.here hx rfl (hb hby d9_141) rfl ((if0 _ _).trans (teq hb141_8).2)) ?_
   refine oi (XS.aload X6.here hx rfl (hb hby d9_144) rfl rfl) ?_
   refine oi (XS.aloadN X6.here hx rfl (hb hby d9_146) rfl rfl) ?_
   refine so (A := (T6.setTop (mkF m 147 #[vr lp, vr xn, vr lv, vr la, vr b1, vz, vr it4, l7] [(.ref la), (.ref b1)]))) ?_
   obtain ⟨cq9, kq9, q9a, q9b, q9c⟩ := isOf hZ eh6 AR.1
   obtain ⟨_, T9, Lc9, X9, hQ9, st9⟩ := own_c1 X6 <| X6.virtualBack hx (y := ym13) (z := ym13) hown (mvT hZ (hW 95 _ rfl)) (mvT hZ (hW 96 _ rfl)) (notFace_of_selects (args := #[]) (mvT hZ (hW 98 _ rfl))) (mvT hZ (hW 98 _ rfl)) (mvT hZ (hW 97 _ rfl)) (by decide) (backOf (W := 0) (rmAA l Z a0 hw [] b1 la dq kd mr ea ke zs er kr xs ma mq H n0 O' S_d V_d E_d M_r l_d AA AR (own_its.exa IA) (by omega) (by omega) (by omega) (fun _ => by omega) (by omega) hx0) hZ (hW 99 _ rfl) (hW 3 _ rfl) (by decide) (by decide)) q9a q9c (g := (mkF m 147 #[vr lp, vr xn, vr lv, vr la, vr b1, vz, vr it4, l7] [(.ref la), (.ref b1)])) rfl (by rw [hml]; rfl) (Steps.refl _) (argsL := [(.ref la)]) (rest := []) (lenOf pd_14 rfl) rfl (Nat.le_of_eq rfl) (hb hby d9_147) (fun _ _ => ⟨rfl, eh6, (by decide : 14 + 2 ≤ _), (by decide : 110 + 20 ≤ _)⟩)
   obtain ⟨e9, k9, z9, r9, rfl, Nq9, gz9, hz9, Kp9, AL9⟩ := hQ9
   have N9 := Fr.app N6 Nq9
   refine oo (fun tt_ kk_ => st9.trans kk_) ?_
   have sz9 : H.size ≤ T9.heap.size := Kp9.1
   have O9 : Old Z n0 T9.heap := O'.keep Kp9 (allS (by omega) (allS (by omega) all0))
   have K9 : Keep h0 T9.heap [] := K'.trans Kp9 (allS (Or.inr (by omega)) (allS (Or.inr (by omega)) all0))
   have la9 := AL9.lt2
   have f10 : own_its Z T9.heap H5.size xs qs := (IR.keep Kp9 (allS (by omega) (allS (by omega) all0)))
   have f11 : own_its Z T9.heap H5.size zs (fs.map fun f => (cn, f)) := (IA.keep Kp9 (allS (by omega) (allS (by omega) all0)))
   refine oi (XS.pop X9.here hx rfl (hb hby d9_150) rfl rfl) ?_
   refine oi (XS.aload X9.here hx rfl (hb hby d9_151) rfl rfl) ?_
   refine so (A := (T9.setTop (mkF m 153 #[vr lp, vr xn, vr lv, vr la, vr b1, vz, vr it4, l7] [(.ref b1)]))) ?_
   refine own_ret X9 hx hlk hret rfl (Or.inr (Or.inr (Or.inr (Or.inr ⟨rfl, rfl, rfl⟩)))) (hb hby d9_153) (by decide) (by decide) ?_
   skip
   have fi : own_its Z T9.heap H5.size (xs ++ zs) (own_go2 cn (fs.map fun f => (cn, f)) ps false) := by have q := (own_its.app f10 f11); rw [← hS, List.drop_eq_nil_of_le (by have := IP.len; omega)]; simpa [own_go2] using q
   exact ⟨b1, e9, k9, (mq + (1 : Int32)), (xs ++ zs), rfl, N9, K9, AL9, fi.up (by omega)⟩
  have seg_0_1 : ∀ (i : Nat) (H : Heap) (T' : State) (ls : List Loc) (er : Nat) (kr : ClassId) (xs : List Nat) (qs : List (Int32 × Int32)) (mq lq : Int32) (l7 : Slot), (i + 0 = ys.length) → (Stand p l e (own_R 5 16 130 97) s m #[.ref lp, .ref xn, .ref lv] below meth c T' ls 14 110) → (T'.heap = H) → (Fr n0 ls) → (Old Z n0 H) → (Keep h0 H []) → (H5.size ≤ H.size) → (Exa Z H it4 "java/util/ArrayList$Itr") → (Fld Z H it4 "java/util/ArrayList$Itr" "this$0" "Ljava/util/ArrayList;" (.ref lp)) → (Fld Z H it4 "java/util/ArrayList$Itr" "cursor" "I" (.int (Int32.ofNat i))) → (Fld Z H it4 "java/util/ArrayList$Itr" "lastRet" "I" (.int lq)) → (Fld Z H it4 "java/util/ArrayList$Itr" "expectedModCount" "I" (.int mp)) → (own_al Z H dq n0 b1 er kr xs mq) → (own_its Z H H5.size xs qs) → (own_al Z H dq n0 la ea ke zs ma) → (own_its Z H H5.size zs (fs.map fun f => (cn, f))) → ((er = dq ∨ H5.size ≤ er)) → (er ≠ it4) → ((l7 = .unset ∨ ∃ z : Nat, l7 = vr z)) → (xs.length + 0 ≤ 5) → (qs ++ own_go2 cn (fs.map fun f => (cn, f)) (ps.drop i) true = (own_go2 cn (fs.map fun f => (cn, f)) ps false)) → own_go p e below s (Q_rmW Z lp lv dq kd mr ep kp ys mp ev kv vs mv xn tn cn bp ps fs Gc h0 n0) ((own_R 5 16 130 97)).cells ((own_R 5 16 130 97)).slots (T'.setTop (mkF m 76 #[vr lp, vr xn, vr lv, vr la, vr b1, vi 1, vr it4, l7] [])) := by
   intro i H T' ls er kr xs qs mq lq l7 hi X' eT N' O' K' hB Ei' Ft' Fc' Fl' Fx' AR IR AA IA hE hEi h7 hX hS
   have ltR := AR.lt2
   have ltA := AA.lt2
   have ltI := olt Ei'.lt
   refine so (A := (T'.setTop (mkF m 76 #[vr lp, vr xn, vr lv, vr la, vr b1, vi 1, vr it4, l7] []))) ?_
   refine oi (XS.aload X'.here hx rfl (hb hby d9_76) rfl rfl) ?_
   refine so (A := (T'.setTop (mkF m 78 #[vr lp, vr xn, vr lv, vr la, vr b1, vi 1, vr it4, l7] [(.ref it4)]))) ?_
   have f12 : own_al Z H dq n0 lp ep kp ys mp := AP.keep K' nin0 nin0
   obtain ⟨cq13, kq13, q13a, q13b, q13c⟩ := isOf hZ eT Ei'
   obtain ⟨_, T13, Lc13, X13, hQ13, st13⟩ := own_c1 X' <| X'.interfaceBack hx (xi := ym7688) (y := ym12) hown (mvT hZ (hW 82 _ rfl)) (mvT hZ (hW 83 _ rfl)) (mvT hZ (hW 84 _ rfl)) (mvT hZ (hW 85 _ rfl)) (mvT hZ (hW 86 _ rfl)) (mvT hZ (hW 87 _ rfl)) (mvT hZ (hW 88 _ rfl)) (mvT hZ (hW 89 _ rfl)) (by decide) (backOf (W := 0) (rmHN0 l Z a0 hw [] it4 lp (Int32.ofNat (i)) (Int32.ofNat ys.length) H n0 O' Ft' Fc' Ei' f12.1 f12.2.2.1 (congrArg Int32.ofNat (by omega))) hZ (hW 90 _ rfl) (hW 68 _ rfl) (by decide) (by decide)) q13a q13b q13c (g := (mkF m 78 #[vr lp, vr xn, vr lv, vr la, vr b1, vi 1, vr it4, l7] [(.ref it4)])) rfl (by rw [hml]; rfl) (Steps.refl _) (argsL := []) (rest := []) (lenOf pd_13 rfl) rfl (Nat.le_of_eq rfl) (hb hby d9_78) (fun _ _ => ⟨rfl, eT, (by decide : 14 + 0 ≤ _), (by decide : 110 + 0 ≤ _)⟩)
   obtain ⟨rfl, Nq13, eh13⟩ := hQ13
   have N13 := Fr.app N' Nq13
   refine oo (fun tt_ kk_ => st13.trans kk_) ?_
   have hb83_14 : (0 : Int32) = (0 : Int32) := by decide
   refine oi (XS.ifYes X13.here hx rfl (pc0 := 83) (pc' := 139) rfl (hb hby d9_83) rfl ((if0 _ _).trans (teq hb83_14).1) (by decide) (by decide)) ?_
   refine oi (XS.iload X13.here hx rfl (hb hby d9_139) rfl) ?_
   have hb141_15 : ¬ ((1 : Int32) = (0 : Int32)) := by decide
   refine oi (XS.ifYes X13.here hx rfl (pc0 := 141) (pc' := 151) rfl (hb hby d9_141) rfl ((if0 _ _).trans (feq hb141_15).2) (by decide) (by decide)) ?_
   refine oi (XS.aload X13.here hx rfl (hb hby d9_151) rfl rfl) ?_
   refine so (A := (T13.setTop (mkF m 153 #[vr lp, vr xn, vr lv, vr la, vr b1, vi 1, vr it4, l7] [(.ref b1)]))) ?_
   refine own_ret X13 hx hlk hret rfl (Or.inr (Or.inr (Or.inr (Or.inr ⟨rfl, rfl, rfl⟩)))) (hb hby d9_153) (by decide) (by decide) ?_
   rw [eh13]
   have fi : own_its Z H H5.size xs (own_go2 cn (fs.map fun f => (cn, f)) ps false) := by have q := IR; rw [← hS, List.drop_eq_nil_of_le (by have := IP.len; omega)]; simpa [own_go2] using q
   exact ⟨b1, er, kr, mq, xs, rfl, N13, K', AR, fi.up (by omega)⟩
  have seg_1_0 : ∀ (i : Nat) (H : Heap) (T' : State) (ls : List Loc) (er : Nat) (kr : ClassId) (xs : List Nat) (qs : List (Int32 × Int32)) (mq lq : Int32) (l7 : Slot), (i + 1 = ys.length) → (Stand p l e (own_R 5 16 130 97) s m #[.ref lp, .ref xn, .ref lv] below meth c T' ls 12 90) → (T'.heap = H) → (Fr n0 ls) → (Old Z n0 H) → (Keep h0 H []) → (H5.size ≤ H.size) → (Exa Z H it4 "java/util/ArrayList$Itr") → (Fld Z H it4 "java/util/ArrayList$Itr" "this$0" "Ljava/util/ArrayList;" (.ref lp)) → (Fld Z H it4 "java/util/ArrayList$Itr" "cursor" "I" (.int (Int32.ofNat i))) → (Fld Z H it4 "java/util/ArrayList$Itr" "lastRet" "I" (.int lq)) → (Fld Z H it4 "java/util/ArrayList$Itr" "expectedModCount" "I" (.int mp)) → (own_al Z H dq n0 b1 er kr xs mq) → (own_its Z H H5.size xs qs) → (own_al Z H dq n0 la ea ke zs ma) → (own_its Z H H5.size zs (fs.map fun f => (cn, f))) → ((er = dq ∨ H5.size ≤ er)) → (er ≠ it4) → ((l7 = .unset ∨ ∃ z : Nat, l7 = vr z)) → (xs.length + 1 ≤ 3) → (qs ++ own_go2 cn (fs.map fun f => (cn, f)) (ps.drop i) false = (own_go2 cn (fs.map fun f => (cn, f)) ps false)) → own_go p e below s (Q_rmW Z lp lv dq kd mr ep kp ys mp ev kv vs mv xn tn cn bp ps fs Gc h0 n0) ((own_R 5 16 130 97)).cells ((own_R 5 16 130 97)).slots (T'.setTop (mkF m 76 #[vr lp, vr xn, vr lv, vr la, vr b1, vz, vr it4, l7] [])) := by
   intro i H T' ls er kr xs qs mq lq l7 hi X' eT N' O' K' hB Ei' Ft' Fc' Fl' Fx' AR IR AA IA hE hEi h7 hX hS
   have ltR := AR.lt2
   have ltA := AA.lt2
   have ltI := olt Ei'.lt
   obtain ⟨⟨pa, pb⟩, hp⟩ : ∃ pq, ps[i]? = some pq := ⟨_, List.getElem?_eq_getElem (by have := IP.len; omega)⟩
   obtain ⟨y, hy, x, t, x2, t2, Py, bd1, bd2, bd3, bd4, bd5⟩ := own_its.get IP hp
   have Py' : own_par Z h0 y x t x2 t2 pa pb := Py
   have ltP := Py'.lts
   refine so (A := (T'.setTop (mkF m 76 #[vr lp, vr xn, vr lv, vr la, vr b1, vz, vr it4, l7] []))) ?_
   refine oi (XS.aload X'.here hx rfl (hb hby d9_76) rfl rfl) ?_
   refine so (A := (T'.setTop (mkF m 78 #[vr lp, vr xn, vr lv, vr la, vr b1, vz, vr it4, l7] [(.ref it4)]))) ?_
   have f16 : own_al Z H dq n0 lp ep kp ys mp := AP.keep K' nin0 nin0
   obtain ⟨cq17, kq17, q17a, q17b, q17c⟩ := isOf hZ eT Ei'
   obtain ⟨_, T17, Lc17, X17, hQ17, st17⟩ := own_c1 X' <| X'.interfaceBack hx (xi := ym7688) (y := ym12) hown (mvT hZ (hW 82 _ rfl)) (mvT hZ (hW 83 _ rfl)) (mvT hZ (hW 84 _ rfl)) (mvT hZ (hW 85 _ rfl)) (mvT hZ (hW 86 _ rfl)) (mvT hZ (hW 87 _ rfl)) (mvT hZ (hW 88 _ rfl)) (mvT hZ (hW 89 _ rfl)) (by decide) (backOf (W := 0) (rmHN1 l Z a0 hw [] it4 lp (Int32.ofNat (i)) (Int32.ofNat ys.length) H n0 O' Ft' Fc' Ei' f16.1 f16.2.2.1 (fun q => by have := (own_neq (by omega) (by omega)).mp q; omega)) hZ (hW 90 _ rfl) (hW 68 _ rfl) (by decide) (by decide)) q17a q17b q17c (g := (mkF m 78 #[vr lp, vr xn, vr lv, vr la, vr b1, vz, vr it4, l7] [(.ref it4)])) rfl (by rw [hml]; rfl) (Steps.refl _) (argsL := []) (rest := []) (lenOf pd_13 rfl) rfl (Nat.le_of_eq rfl) (hb hby d9_78) (fun _ _ => ⟨rfl, eT, (by decide : 12 + 0 ≤ _), (by decide : 90 + 0 ≤ _)⟩)
   obtain ⟨rfl, Nq17, eh17⟩ := hQ17
   have N17 := Fr.app N' Nq17
   refine oo (fun tt_ kk_ => st17.trans kk_) ?_
   have hb83_18 : ¬ ((1 : Int32) = (0 : Int32)) := by decide
   refine oi (XS.ifNo X17.here hx rfl (hb hby d9_83) rfl ((if0 _ _).trans (feq hb83_18).1)) ?_
   refine oi (XS.aload X17.here hx rfl (hb hby d9_86) rfl rfl) ?_
   refine so (A := (T17.setTop (mkF m 88 #[vr lp, vr xn, vr lv, vr la, vr b1, vz, vr it4, l7] [(.ref it4)]))) ?_
   obtain ⟨cq19, kq19, q19a, q19b, q19c⟩ := isOf hZ eh17 Ei'
   obtain ⟨_, T19, Lc19, X19, hQ19, st19⟩ := own_c1 X17 <| X17.interfaceBack hx (xi := ym8978) (y := ym27) hown (mvT hZ (hW 188 _ rfl)) (mvT hZ (hW 189 _ rfl)) (mvT hZ (hW 190 _ rfl)) (mvT hZ (hW 191 _ rfl)) (mvT hZ (hW 192 _ rfl)) (mvT hZ (hW 193 _ rfl)) (mvT hZ (hW 194 _ rfl)) (mvT hZ (hW 89 _ rfl)) (by decide) (backOf (W := 0) (rmNx l Z a0 hw [] dq it4 lp ep kp ys (i) y mp lq H n0 O' (by omega) (by omega) (by omega) Ei' Ft' Fc' Fl' Fx' f16 (by omega) (by omega) hy) hZ (hW 195 _ rfl) (hW 68 _ rfl) (by decide) (by decide)) q19a q19b q19c (g := (mkF m 88 #[vr lp, vr xn, vr lv, vr la, vr b1, vz, vr it4, l7] [(.ref it4)])) rfl (by rw [hml]; rfl) (Steps.refl _) (argsL := []) (rest := []) (lenOf pd_15 rfl) rfl (Nat.le_of_eq rfl) (hb hby d9_88) (fun _ _ => ⟨rfl, eh17, (by decide : 12 + 0 ≤ _), (by decide : 90 + 0 ≤ _)⟩)
   obtain ⟨rfl, Nq19, Kp19, Ei19, Ft19, Fc19, Fl19, Fx19⟩ := hQ19
   have N19 := Fr.app N17 Nq19
   refine oo (fun tt_ kk_ => st19.trans kk_) ?_
   have sz19 : H.size ≤ T19.heap.size := Kp19.1
   have O19 : Old Z n0 T19.heap := O'.keep Kp19 (allS (by omega) all0)
   have K19 : Keep h0 T19.heap [] := K'.trans Kp19 (allS (Or.inr (by omega)) all0)
   have f20 : Exa Z T19.heap y "com/example/practory/practory/server/SearchQuery$Parameter" := Py'.1.keep K19
   obtain ⟨T21, X21, e21, st21⟩ := castY X19 hx hZ hown (hW 202 _ rfl) rfl (Ins.self f20) (g := (mkF m 93 #[vr lp, vr xn, vr lv, vr la, vr b1, vz, vr it4, l7] [(.ref y)])) rfl rfl (hb hby d9_93)
   refine oo st21 ?_
   refine oi (XS.astore X21.here hx rfl (hb hby d9_96) rfl rfl (l' := #[vr lp, vr xn, vr lv, vr la, vr b1, vz, vr it4, vr y]) (by rcases h7 with rfl | ⟨z7, rfl⟩ <;> rfl)) ?_
   refine oi (XS.aload X21.here hx rfl (hb hby d9_98) rfl rfl) ?_
   refine so (A := (T21.setTop (mkF m 100 #[vr lp, vr xn, vr lv, vr la, vr b1, vz, vr it4, vr y] [(.ref y)]))) ?_
   have f22 : own_par Z T19.heap y x t x2 t2 pa pb := Py'.keep K19 nin0 nin0 nin0 nin0 nin0
   obtain ⟨cq23, kq23, q23a, q23b, q23c⟩ := isOf hZ e21 f20
   obtain ⟨_, T23, Lc23, X23, hQ23, st23⟩ := own_c1 X21 <| X21.virtualBack hx (y := ym29) (z := ym29) hown (mvT hZ (hW 204 _ rfl)) (mvT hZ (hW 205 _ rfl)) (notFace_of_selects (args := #[]) (mvT hZ (hW 207 _ rfl))) (mvT hZ (hW 207 _ rfl)) (mvT hZ (hW 206 _ rfl)) (by decide) (backOf (W := 0) (rmN_name l Z a0 hw [] y x T19.heap n0 O19 f22.2.1) hZ (hW 208 _ rfl) (hW 149 _ rfl) (by decide) (by decide)) q23a q23c (g := (mkF m 100 #[vr lp, vr xn, vr lv, vr la, vr b1, vz, vr it4, vr y] [(.ref y)])) rfl (by rw [hml]; rfl) (Steps.refl _) (argsL := []) (rest := []) (lenOf pd_16 rfl) rfl (Nat.le_of_eq rfl) (hb hby d9_100) (fun _ _ => ⟨rfl, e21, (by decide : 12 + 0 ≤ _), (by decide : 90 + 0 ≤ _)⟩)
   obtain ⟨rfl, Nq23, eh23⟩ := hQ23
   have N23 := Fr.app N19 Nq23
   refine oo (fun tt_ kk_ => st23.trans kk_) ?_
   refine oi (XS.aloadN X23.here hx rfl (hb hby d9_103) rfl rfl) ?_
   refine so (A := (T23.setTop (mkF m 104 #[vr lp, vr xn, vr lv, vr la, vr b1, vz, vr it4, vr y] [(.ref xn), (.ref x)]))) ?_
   have f24 : own_st Z T19.heap xn tn cn := S_n.keep K19 nin0 nin0
   obtain ⟨cq25, kq25, q25a, q25b, q25c⟩ := isOf hZ eh23 f22.2.2.2.1.exa
   obtain ⟨_, T25, Lc25, X25, hQ25, st25⟩ := own_c1 X23 <| X23.virtualBack hx (y := ym30) (z := ym30) hown (mvT hZ (hW 209 _ rfl)) (mvT hZ (hW 210 _ rfl)) (notFace_of_selects (args := #[]) (mvT hZ (hW 212 _ rfl))) (mvT hZ (hW 212 _ rfl)) (mvT hZ (hW 211 _ rfl)) (by decide) (backOf (W := 0) (rmEq l Z a0 hw [] x t xn tn pa cn Gc T19.heap n0 O19 Oc Pc f22.2.2.2.1 f24 (by omega)) hZ (hW 213 _ rfl) (hW 29 _ rfl) (by decide) (by decide)) q25a q25c (g := (mkF m 104 #[vr lp, vr xn, vr lv, vr la, vr b1, vz, vr it4, vr y] [(.ref xn), (.ref x)])) rfl (by rw [hml]; rfl) (Steps.refl _) (argsL := [(.ref xn)]) (rest := []) (lenOf pd_17 rfl) rfl (Nat.le_of_eq rfl) (hb hby d9_104) (fun _ _ => ⟨rfl, eh23, (by decide : 12 + 0 ≤ _), (by decide : 90 + 0 ≤ _)⟩)
   obtain ⟨rfl, Nq25, eh25⟩ := hQ25
   have N25 := Fr.app N23 Nq25
   refine oo (fun tt_ kk_ => st25.trans kk_) ?_
   by_cases hb107_26 : (own_eqi pa cn) = (0 : Int32)
   ·refine oi (XS.ifNo X25.here hx rfl (hb hby d9_107) rfl ((if0 _ _).trans (teq hb107_26).2)) ?_
    refine so (A := (T25.setTop (mkF m 110 #[vr lp, vr xn, vr lv, vr la, vr b1, vz, vr it4, vr y] []))) ?_
    have nm_ := own_eqi0 hb107_26
    refine oi (XS.aload X25.here hx rfl (hb hby d9_110) rfl rfl) ?_
    refine oi (XS.aload X25.here hx rfl (hb hby d9_112) rfl rfl) ?_
    refine so (A := (T25.setTop (mkF m 114 #[vr lp, vr xn, vr lv, vr la, vr b1, vz, vr it4, vr y] [(.ref y), (.ref b1)]))) ?_
    have f27 : own_al Z T19.heap dq n0 b1 er kr xs mq := (AR.keep Kp19 (ninS (one (by omega)) nin0) (ninS (one (by omega)) nin0))
    have f29 : Exa Z T19.heap b1 "java/util/ArrayList" := (AR.1.keep Kp19)
    obtain ⟨cq28, kq28, q28a, q28b, q28c⟩ := isOf hZ eh25 f29
    obtain ⟨_, T28, Lc28, X28, hQ28, st28⟩ := own_c1 X25 <| X25.virtualBack hx (y := ym22) (z := ym22) hown (mvT hZ (hW 217 _ rfl)) (mvT hZ (hW 164 _ rfl)) (notFace_of_selects (args := #[]) (mvT hZ (hW 166 _ rfl))) (mvT hZ (hW 166 _ rfl)) (mvT hZ (hW 165 _ rfl)) (by decide) (backOf (W := 0) (rmAd l Z a0 hw [] b1 dq kd mr er kr xs y "com/example/practory/practory/server/SearchQuery$Parameter" mq T19.heap n0 O19 (by omega) S_d V_d E_d M_r l_d f27 (by omega) f20 (hW 187 _ rfl)) hZ (hW 167 _ rfl) (hW 3 _ rfl) (by decide) (by decide)) q28a q28c (g := (mkF m 114 #[vr lp, vr xn, vr lv, vr la, vr b1, vz, vr it4, vr y] [(.ref y), (.ref b1)])) rfl (by rw [hml]; rfl) (Steps.refl _) (argsL := [(.ref y)]) (rest := []) (lenOf pd_17 rfl) rfl (Nat.le_of_eq rfl) (hb hby d9_114) (fun _ _ => ⟨rfl, eh25, (by decide : 12 + 1 ≤ _), (by decide : 90 + 10 ≤ _)⟩)
    obtain ⟨e28, k28, z28, rfl, Nq28, gz28, hz28, Kp28, AL28⟩ := hQ28
    have N28 := Fr.app N25 Nq28
    refine oo (fun tt_ kk_ => st28.trans kk_) ?_
    have sz28 : T19.heap.size ≤ T28.heap.size := Kp28.1
    have O28 : Old Z n0 T28.heap := O19.keep Kp28 (allS (by omega) (allS (by omega) all0))
    have K28 : Keep h0 T28.heap [] := K19.trans Kp28 (allS (Or.inr (by omega)) (allS (Or.inr (by omega)) all0))
    have la28 := AL28.lt2
    refine oi (XS.pop X28.here hx rfl (hb hby d9_117) rfl rfl) ?_
    refine oi (XS.goto X28.here hx rfl (pc0 := 118) (pc' := 136) rfl (hb hby d9_118) (by decide) (by decide)) ?_
    refine oi (XS.goto X28.here hx rfl (pc0 := 136) (pc' := 76) rfl (hb hby d9_136) (by decide) (by decide)) ?_
    refine so (A := (T28.setTop (mkF m 76 #[vr lp, vr xn, vr lv, vr la, vr b1, vz, vr it4, vr y] []))) ?_
    have f30 : own_its Z T28.heap H5.size xs qs := ((IR.keep Kp19 (allS (by omega) all0)).keep Kp28 (allS (by omega) (allS (by omega) all0)))
    have f31 : own_par Z T28.heap y x t x2 t2 pa pb := (f22.keep Kp28 (ninS (one (by omega)) (ninS (one (by omega)) nin0)) (ninS (one (by omega)) (ninS (one (by omega)) nin0)) (ninS (one (by omega)) (ninS (one (by omega)) nin0)) (ninS (one (by omega)) (ninS (one (by omega)) nin0)) (ninS (one (by omega)) (ninS (one (by omega)) nin0)))
    have f32 : Exa Z T28.heap it4 "java/util/ArrayList$Itr" := (Ei19.keep Kp28)
    have f33 : Fld Z T28.heap it4 "java/util/ArrayList$Itr" "this$0" "Ljava/util/ArrayList;" (.ref lp) := (Ft19.keep Kp28 (ninS (one (by omega)) (ninS (one (by omega)) nin0)))
    have f34 : Fld Z T28.heap it4 "java/util/ArrayList$Itr" "cursor" "I" (.int (Int32.ofNat (i + 1))) := (Fc19.keep Kp28 (ninS (one (by omega)) (ninS (one (by omega)) nin0)))
    have f35 : Fld Z T28.heap it4 "java/util/ArrayList$Itr" "lastRet" "I" (.int (Int32.ofNat (i))) := (Fl19.keep Kp28 (ninS (one (by omega)) (ninS (one (by omega)) nin0)))
    have f36 : Fld Z T28.heap it4 "java/util/ArrayList$Itr" "expectedModCount" "I" (.int mp) := (Fx19.keep Kp28 (ninS (one (by omega)) (ninS (one (by omega)) nin0)))
    have f37 : own_al Z T28.heap dq n0 la ea ke zs ma := ((AA.keep Kp19 (ninS (one (by omega)) nin0) (ninS (one (by omega)) nin0)).keep Kp28 (ninS (one (by omega)) (ninS (one (by omega)) nin0)) (ninS (one (by omega)) (ninS (one (by omega)) nin0)))
    have f38 : own_its Z T28.heap H5.size zs (fs.map fun f => (cn, f)) := ((IA.keep Kp19 (allS (by omega) all0)).keep Kp28 (allS (by omega) (allS (by omega) all0)))
    exact seg_0_0 (i + 1) _ _ _ e28 k28 (xs ++ [y]) (qs ++ [(pa, pb)]) (mq + (1 : Int32)) _ _ (by omega) (X28.more (by decide) (by decide)) rfl N28 O28 K28 (by omega) f32 f33 f34 f35 f36 AL28 (own_its.app f30 ⟨(own_itb.up ⟨x, t, x2, t2, f31, bd1, bd2, bd3, bd4, bd5⟩ (by omega)), trivial⟩) f37 f38 (by omega) (by omega) (Or.inr ⟨_, rfl⟩) (by first | omega | (simp only [List.length_append, List.length_cons, List.length_nil]; omega)) (by rw [← hS, own_drop hp]; simp [own_go2, nm_])
   ·refine oi (XS.ifYes X25.here hx rfl (pc0 := 107) (pc' := 121) rfl (hb hby d9_107) rfl ((if0 _ _).trans (feq hb107_26).2) (by decide) (by decide)) ?_
    refine so (A := (T25.setTop (mkF m 121 #[vr lp, vr xn, vr lv, vr la, vr b1, vz, vr it4, vr y] []))) ?_
    have nm_ := own_eqi1 hb107_26
    refine oi (XS.iload X25.here hx rfl (hb hby d9_121) rfl) ?_
    have hb123_39 : (0 : Int32) = (0 : Int32) := by decide
    refine oi (XS.ifNo X25.here hx rfl (hb hby d9_123) rfl ((if0 _ _).trans (teq hb123_39).2)) ?_
    refine oi (XS.aload X25.here hx rfl (hb hby d9_126) rfl rfl) ?_
    refine oi (XS.aloadN X25.here hx rfl (hb hby d9_128) rfl rfl) ?_
    refine so (A := (T25.setTop (mkF m 129 #[vr lp, vr xn, vr lv, vr la, vr b1, vz, vr it4, vr y] [(.ref la), (.ref b1)]))) ?_
    have f40 : own_its Z T19.heap H5.size zs (fs.map fun f => (cn, f)) := (IA.keep Kp19 (allS (by omega) all0))
    have f41 : own_al Z T19.heap dq n0 la ea ke zs ma := (AA.keep Kp19 (ninS (one (by omega)) nin0) (ninS (one (by omega)) nin0))
    have f42 : own_al Z T19.heap dq n0 b1 er kr xs mq := (AR.keep Kp19 (ninS (one (by omega)) nin0) (ninS (one (by omega)) nin0))
    have f44 : Exa Z T19.heap b1 "java/util/ArrayList" := (AR.1.keep Kp19)
    obtain ⟨cq43, kq43, q43a, q43b, q43c⟩ := isOf hZ eh25 f44
    obtain ⟨_, T43, Lc43, X43, hQ43, st43⟩ := own_c1 X25 <| X25.virtualBack hx (y := ym13) (z := ym13) hown (mvT hZ (hW 95 _ rfl)) (mvT hZ (hW 96 _ rfl)) (notFace_of_selects (args := #[]) (mvT hZ (hW 98 _ rfl))) (mvT hZ (hW 98 _ rfl)) (mvT hZ (hW 97 _ rfl)) (by decide) (backOf (W := 0) (rmAA l Z a0 hw [] b1 la dq kd mr ea ke zs er kr xs ma mq T19.heap n0 O19 S_d V_d E_d M_r l_d f41 f42 (own_its.exa f40) (by omega) (by omega) (by omega) (fun _ => by omega) (by omega) hx0) hZ (hW 99 _ rfl) (hW 3 _ rfl) (by decide) (by decide)) q43a q43c (g := (mkF m 129 #[vr lp, vr xn, vr lv, vr la, vr b1, vz, vr it4, vr y] [(.ref la), (.ref b1)])) rfl (by rw [hml]; rfl) (Steps.refl _) (argsL := [(.ref la)]) (rest := []) (lenOf pd_14 rfl) rfl (Nat.le_of_eq rfl) (hb hby d9_129) (fun _ _ => ⟨rfl, eh25, (by decide : 12 + 2 ≤ _), (by decide : 90 + 20 ≤ _)⟩)
    obtain ⟨e43, k43, z43, r43, rfl, Nq43, gz43, hz43, Kp43, AL43⟩ := hQ43
    have N43 := Fr.app N25 Nq43
    refine oo (fun tt_ kk_ => st43.trans kk_) ?_
    have sz43 : T19.heap.size ≤ T43.heap.size := Kp43.1
    have O43 : Old Z n0 T43.heap := O19.keep Kp43 (allS (by omega) (allS (by omega) all0))
    have K43 : Keep h0 T43.heap [] := K19.trans Kp43 (allS (Or.inr (by omega)) (allS (Or.inr (by omega)) all0))
    have la43 := AL43.lt2
    refine oi (XS.pop X43.here hx rfl (hb hby d9_132) rfl rfl) ?_
    refine oi (XS.iconst X43.here hx rfl (hb hby d9_133)) ?_
    refine oi (XS.istore X43.here hx rfl (hb hby d9_134) rfl (l' := #[vr lp, vr xn, vr lv, vr la, vr b1, vi 1, vr it4, vr y]) rfl) ?_
    refine oi (XS.goto X43.here hx rfl (pc0 := 136) (pc' := 76) rfl (hb hby d9_136) (by decide) (by decide)) ?_
    refine so (A := (T43.setTop (mkF m 76 #[vr lp, vr xn, vr lv, vr la, vr b1, vi 1, vr it4, vr y] []))) ?_
    have f45 : own_its Z T43.heap H5.size xs qs := ((IR.keep Kp19 (allS (by omega) all0)).keep Kp43 (allS (by omega) (allS (by omega) all0)))
    have f46 : own_its Z T43.heap H5.size zs (fs.map fun f => (cn, f)) := (f40.keep Kp43 (allS (by omega) (allS (by omega) all0)))
    have f47 : Exa Z T43.heap it4 "java/util/ArrayList$Itr" := (Ei19.keep Kp43)
    have f48 : Fld Z T43.heap it4 "java/util/ArrayList$Itr" "this$0" "Ljava/util/ArrayList;" (.ref lp) := (Ft19.keep Kp43 (ninS (one (by omega)) (ninS (one (by omega)) nin0)))
    have f49 : Fld Z T43.heap it4 "java/util/ArrayList$Itr" "cursor" "I" (.int (Int32.ofNat (i + 1))) := (Fc19.keep Kp43 (ninS (one (by omega)) (ninS (one (by omega)) nin0)))
    have f50 : Fld Z T43.heap it4 "java/util/ArrayList$Itr" "lastRet" "I" (.int (Int32.ofNat (i))) := (Fl19.keep Kp43 (ninS (one (by omega)) (ninS (one (by omega)) nin0)))
    have f51 : Fld Z T43.heap it4 "java/util/ArrayList$Itr" "expectedModCount" "I" (.int mp) := (Fx19.keep Kp43 (ninS (one (by omega)) (ninS (one (by omega)) nin0)))
    have f52 : own_al Z T43.heap dq n0 la ea ke zs ma := (f41.keep Kp43 (ninS (one (by omega)) (ninS (one (by omega)) nin0)) (ninS (one (by omega)) (ninS (one (by omega)) nin0)))
    exact seg_0_1 (i + 1) _ _ _ e43 k43 (xs ++ zs) (qs ++ (fs.map fun f => (cn, f))) (mq + (1 : Int32)) _ _ (by omega) (X43.more (by decide) (by decide)) rfl N43 O43 K43 (by omega) f47 f48 f49 f50 f51 AL43 (own_its.app f45 f46) f52 f46 (by omega) (by omega) (Or.inr ⟨_, rfl⟩) (by first | omega | (simp only [List.length_append, List.length_cons, List.length_nil]; omega)) (by rw [← hS, own_drop hp]; simp [own_go2, nm_])
  have seg_1_1 : ∀ (i : Nat) (H : Heap) (T' : State) (ls : List Loc) (er : Nat) (kr : ClassId) (xs : List Nat) (qs : List (Int32 × Int32)) (mq lq : Int32) (l7 : Slot), (i + 1 = ys.length) → (Stand p l e (own_R 5 16 130 97) s m #[.ref lp, .ref xn, .ref lv] below meth c T' ls 12 90) → (T'.heap = H) → (Fr n0 ls) → (Old Z n0 H) → (Keep h0 H []) → (H5.size ≤ H.size) → (Exa Z H it4 "java/util/ArrayList$Itr") → (Fld Z H it4 "java/util/ArrayList$Itr" "this$0" "Ljava/util/ArrayList;" (.ref lp)) → (Fld Z H it4 "java/util/ArrayList$Itr" "cursor" "I" (.int (Int32.ofNat i))) → (Fld Z H it4 "java/util/ArrayList$Itr" "lastRet" "I" (.int lq)) → (Fld Z H it4 "java/util/ArrayList$Itr" "expectedModCount" "I" (.int mp)) → (own_al Z H dq n0 b1 er kr xs mq) → (own_its Z H H5.size xs qs) → (own_al Z H dq n0 la ea ke zs ma) → (own_its Z H H5.size zs (fs.map fun f => (cn, f))) → ((er = dq ∨ H5.size ≤ er)) → (er ≠ it4) → ((l7 = .unset ∨ ∃ z : Nat, l7 = vr z)) → (xs.length + 1 ≤ 5) → (qs ++ own_go2 cn (fs.map fun f => (cn, f)) (ps.drop i) true = (own_go2 cn (fs.map fun f => (cn, f)) ps false)) → own_go p e below s (Q_rmW Z lp lv dq kd mr ep kp ys mp ev kv vs mv xn tn cn bp ps fs Gc h0 n0) ((own_R 5 16 130 97)).cells ((own_R 5 16 130 97)).slots (T'.setTop (mkF m 76 #[vr lp, vr xn, vr lv, vr la, vr b1, vi 1, vr it4, l7] [])) := by
   intro i H T' ls er kr xs qs mq lq l7 hi X' eT N' O' K' hB Ei' Ft' Fc' Fl' Fx' AR IR AA IA hE hEi h7 hX hS
   have ltR := AR.lt2
   have ltA := AA.lt2
   have ltI := olt Ei'.lt
   obtain ⟨⟨pa, pb⟩, hp⟩ : ∃ pq, ps[i]? = some pq := ⟨_, List.getElem?_eq_getElem (by have := IP.len; omega)⟩
   obtain ⟨y, hy, x, t, x2, t2, Py, bd1, bd2, bd3, bd4, bd5⟩ := own_its.get IP hp
   have Py' : own_par Z h0 y x t x2 t2 pa pb := Py
   have ltP := Py'.lts
   refine so (A := (T'.setTop (mkF m 76 #[vr lp, vr xn, vr lv, vr la, vr b1, vi 1, vr it4, l7] []))) ?_
   refine oi (XS.aload X'.here hx rfl (hb hby d9_76) rfl rfl) ?_
   refine so (A := (T'.setTop (mkF m 78 #[vr lp, vr xn, vr lv, vr la, vr b1, vi 1, vr it4, l7] [(.ref it4)]))) ?_
   have f53 : own_al Z H dq n0 lp ep kp ys mp := AP.keep K' nin0 nin0
   obtain ⟨cq54, kq54, q54a, q54b, q54c⟩ := isOf hZ eT Ei'
   obtain ⟨_, T54, Lc54, X54, hQ54, st54⟩ := own_c1 X' <| X'.interfaceBack hx (xi := ym7688) (y := ym12) hown (mvT hZ (hW 82 _ rfl)) (mvT hZ (hW 83 _ rfl)) (mvT hZ (hW 84 _ rfl)) (mvT hZ (hW 85 _ rfl)) (mvT hZ (hW 86 _ rfl)) (mvT hZ (hW 87 _ rfl)) (mvT hZ (hW 88 _ rfl)) (mvT hZ (hW 89 _ rfl)) (by decide) (backOf (W := 0) (rmHN1 l Z a0 hw [] it4 lp (Int32.ofNat (i)) (Int32.ofNat ys.length) H n0 O' Ft' Fc' Ei' f53.1 f53.2.2.1 (fun q => by have := (own_neq (by omega) (by omega)).mp q; omega)) hZ (hW 90 _ rfl) (hW 68 _ rfl) (by decide) (by decide)) q54a q54b q54c (g := (mkF m 78 #[vr lp, vr xn, vr lv, vr la, vr b1, vi 1, vr it4, l7] [(.ref it4)])) rfl (by rw [hml]; rfl) (Steps.refl _) (argsL := []) (rest := []) (lenOf pd_13 rfl) rfl (Nat.le_of_eq rfl) (hb hby d9_78) (fun _ _ => ⟨rfl, eT, (by decide : 12 + 0 ≤ _), (by decide : 90 + 0 ≤ _)⟩)
   obtain ⟨rfl, Nq54, eh54⟩ := hQ54
   have N54 := Fr.app N' Nq54
   refine oo (fun tt_ kk_ => st54.trans kk_) ?_
   have hb83_55 : ¬ ((1 : Int32) = (0 : Int32)) := by decide
   refine oi (XS.ifNo X54.here hx rfl (hb hby d9_83) rfl ((if0 _ _).trans (feq hb83_55).1)) ?_
   refine oi (XS.aload X54.here hx rfl (hb hby d9_86) rfl rfl) ?_
   refine so (A := (T54.setTop (mkF m 88 #[vr lp, vr xn, vr lv, vr la, vr b1, vi 1, vr it4, l7] [(.ref it4)]))) ?_
   obtain ⟨cq56, kq56, q56a, q56b, q56c⟩ := isOf hZ eh54 Ei'
   obtain ⟨_, T56, Lc56, X56, hQ56, st56⟩ := own_c1 X54 <| X54.interfaceBack hx (xi := ym8978) (y := ym27) hown (mvT hZ (hW 188 _ rfl)) (mvT hZ (hW 189 _ rfl)) (mvT hZ (hW 190 _ rfl)) (mvT hZ (hW 191 _ rfl)) (mvT hZ (hW 192 _ rfl)) (mvT hZ (hW 193 _ rfl)) (mvT hZ (hW 194 _ rfl)) (mvT hZ (hW 89 _ rfl)) (by decide) (backOf (W := 0) (rmNx l Z a0 hw [] dq it4 lp ep kp ys (i) y mp lq H n0 O' (by omega) (by omega) (by omega) Ei' Ft' Fc' Fl' Fx' f53 (by omega) (by omega) hy) hZ (hW 195 _ rfl) (hW 68 _ rfl) (by decide) (by decide)) q56a q56b q56c (g := (mkF m 88 #[vr lp, vr xn, vr lv, vr la, vr b1, vi 1, vr it4, l7] [(.ref it4)])) rfl (by rw [hml]; rfl) (Steps.refl _) (argsL := []) (rest := []) (lenOf pd_15 rfl) rfl (Nat.le_of_eq rfl) (hb hby d9_88) (fun _ _ => ⟨rfl, eh54, (by decide : 12 + 0 ≤ _), (by decide : 90 + 0 ≤ _)⟩)
   obtain ⟨rfl, Nq56, Kp56, Ei56, Ft56, Fc56, Fl56, Fx56⟩ := hQ56
   have N56 := Fr.app N54 Nq56
   refine oo (fun tt_ kk_ => st56.trans kk_) ?_
   have sz56 : H.size ≤ T56.heap.size := Kp56.1
   have O56 : Old Z n0 T56.heap := O'.keep Kp56 (allS (by omega) all0)
   have K56 : Keep h0 T56.heap [] := K'.trans Kp56 (allS (Or.inr (by omega)) all0)
   have f57 : Exa Z T56.heap y "com/example/practory/practory/server/SearchQuery$Parameter" := Py'.1.keep K56
   obtain ⟨T58, X58, e58, st58⟩ := castY X56 hx hZ hown (hW 202 _ rfl) rfl (Ins.self f57) (g := (mkF m 93 #[vr lp, vr xn, vr lv, vr la, vr b1, vi 1, vr it4, l7] [(.ref y)])) rfl rfl (hb hby d9_93)
   refine oo st58 ?_
   refine oi (XS.astore X58.here hx rfl (hb hby d9_96) rfl rfl (l' := #[vr lp, vr xn, vr lv, vr la, vr b1, vi 1, vr it4, vr y]) (by rcases h7 with rfl | ⟨z7, rfl⟩ <;> rfl)) ?_
   refine oi (XS.aload X58.here hx rfl (hb hby d9_98) rfl rfl) ?_
   refine so (A := (T58.setTop (mkF m 100 #[vr lp, vr xn, vr lv, vr la, vr b1, vi 1, vr it4, vr y] [(.ref y)]))) ?_
   have f59 : own_par Z T56.heap y x t x2 t2 pa pb := Py'.keep K56 nin0 nin0 nin0 nin0 nin0
   obtain ⟨cq60, kq60, q60a, q60b, q60c⟩ := isOf hZ e58 f57
   obtain ⟨_, T60, Lc60, X60, hQ60, st60⟩ := own_c1 X58 <| X58.virtualBack hx (y := ym29) (z := ym29) hown (mvT hZ (hW 204 _ rfl)) (mvT hZ (hW 205 _ rfl)) (notFace_of_selects (args := #[]) (mvT hZ (hW 207 _ rfl))) (mvT hZ (hW 207 _ rfl)) (mvT hZ (hW 206 _ rfl)) (by decide) (backOf (W := 0) (rmN_name l Z a0 hw [] y x T56.heap n0 O56 f59.2.1) hZ (hW 208 _ rfl) (hW 149 _ rfl) (by decide) (by decide)) q60a q60c (g := (mkF m 100 #[vr lp, vr xn, vr lv, vr la, vr b1, vi 1, vr it4, vr y] [(.ref y)])) rfl (by rw [hml]; rfl) (Steps.refl _) (argsL := []) (rest := []) (lenOf pd_16 rfl) rfl (Nat.le_of_eq rfl) (hb hby d9_100) (fun _ _ => ⟨rfl, e58, (by decide : 12 + 0 ≤ _), (by decide : 90 + 0 ≤ _)⟩)
   obtain ⟨rfl, Nq60, eh60⟩ := hQ60
   have N60 := Fr.app N56 Nq60
   refine oo (fun tt_ kk_ => st60.trans kk_) ?_
   refine oi (XS.aloadN X60.here hx rfl (hb hby d9_103) rfl rfl) ?_
   refine so (A := (T60.setTop (mkF m 104 #[vr lp, vr xn, vr lv, vr la, vr b1, vi 1, vr it4, vr y] [(.ref xn), (.ref x)]))) ?_
   have f61 : own_st Z T56.heap xn tn cn := S_n.keep K56 nin0 nin0
   obtain ⟨cq62, kq62, q62a, q62b, q62c⟩ := isOf hZ eh60 f59.2.2.2.1.exa
   obtain ⟨_, T62, Lc62, X62, hQ62, st62⟩ := own_c1 X60 <| X60.virtualBack hx (y := ym30) (z := ym30) hown (mvT hZ (hW 209 _ rfl)) (mvT hZ (hW 210 _ rfl)) (notFace_of_selects (args := #[]) (mvT hZ (hW 212 _ rfl))) (mvT hZ (hW 212 _ rfl)) (mvT hZ (hW 211 _ rfl)) (by decide) (backOf (W := 0) (rmEq l Z a0 hw [] x t xn tn pa cn Gc T56.heap n0 O56 Oc Pc f59.2.2.2.1 f61 (by omega)) hZ (hW 213 _ rfl) (hW 29 _ rfl) (by decide) (by decide)) q62a q62c (g := (mkF m 104 #[vr lp, vr xn, vr lv, vr la, vr b1, vi 1, vr it4, vr y] [(.ref xn), (.ref x)])) rfl (by rw [hml]; rfl) (Steps.refl _) (argsL := [(.ref xn)]) (rest := []) (lenOf pd_17 rfl) rfl (Nat.le_of_eq rfl) (hb hby d9_104) (fun _ _ => ⟨rfl, eh60, (by decide : 12 + 0 ≤ _), (by decide : 90 + 0 ≤ _)⟩)
   obtain ⟨rfl, Nq62, eh62⟩ := hQ62
   have N62 := Fr.app N60 Nq62
   refine oo (fun tt_ kk_ => st62.trans kk_) ?_
   by_cases hb107_63 : (own_eqi pa cn) = (0 : Int32)
   ·refine oi (XS.ifNo X62.here hx rfl (hb hby d9_107) rfl ((if0 _ _).trans (teq hb107_63).2)) ?_
    refine so (A := (T62.setTop (mkF m 110 #[vr lp, vr xn, vr lv, vr la, vr b1, vi 1, vr it4, vr y] []))) ?_
    have nm_ := own_eqi0 hb107_63
    refine oi (XS.aload X62.here hx rfl (hb hby d9_110) rfl rfl) ?_
    refine oi (XS.aload X62.here hx rfl (hb hby d9_112) rfl rfl) ?_
    refine so (A := (T62.setTop (mkF m 114 #[vr lp, vr xn, vr lv, vr la, vr b1, vi 1, vr it4, vr y] [(.ref y), (.ref b1)]))) ?_
    have f64 : own_al Z T56.heap dq n0 b1 er kr xs mq := (AR.keep Kp56 (ninS (one (by omega)) nin0) (ninS (one (by omega)) nin0))
    have f66 : Exa Z T56.heap b1 "java/util/ArrayList" := (AR.1.keep Kp56)
    obtain ⟨cq65, kq65, q65a, q65b, q65c⟩ := isOf hZ eh62 f66
    obtain ⟨_, T65, Lc65, X65, hQ65, st65⟩ := own_c1 X62 <| X62.virtualBack hx (y := ym22) (z := ym22) hown (mvT hZ (hW 217 _ rfl)) (mvT hZ (hW 164 _ rfl)) (notFace_of_selects (args := #[]) (mvT hZ (hW 166 _ rfl))) (mvT hZ (hW 166 _ rfl)) (mvT hZ (hW 165 _ rfl)) (by decide) (backOf (W := 0) (rmAd l Z a0 hw [] b1 dq kd mr er kr xs y "com/example/practory/practory/server/SearchQuery$Parameter" mq T56.heap n0 O56 (by omega) S_d V_d E_d M_r l_d f64 (by omega) f57 (hW 187 _ rfl)) hZ (hW 167 _ rfl) (hW 3 _ rfl) (by decide) (by decide)) q65a q65c (g := (mkF m 114 #[vr lp, vr xn, vr lv, vr la, vr b1, vi 1, vr it4, vr y] [(.ref y), (.ref b1)])) rfl (by rw [hml]; rfl) (Steps.refl _) (argsL := [(.ref y)]) (rest := []) (lenOf pd_17 rfl) rfl (Nat.le_of_eq rfl) (hb hby d9_114) (fun _ _ => ⟨rfl, eh62, (by decide : 12 + 1 ≤ _), (by decide : 90 + 10 ≤ _)⟩)
    obtain ⟨e65, k65, z65, rfl, Nq65, gz65, hz65, Kp65, AL65⟩ := hQ65
    have N65 := Fr.app N62 Nq65
    refine oo (fun tt_ kk_ => st65.trans kk_) ?_
    have sz65 : T56.heap.size ≤ T65.heap.size := Kp65.1
    have O65 : Old Z n0 T65.heap := O56.keep Kp65 (allS (by omega) (allS (by omega) all0))
    have K65 : Keep h0 T65.heap [] := K56.trans Kp65 (allS (Or.inr (by omega)) (allS (Or.inr (by omega)) all0))
    have la65 := AL65.lt2
    refine oi (XS.pop X65.here hx rfl (hb hby d9_117) rfl rfl) ?_
    refine oi (XS.goto X65.here hx rfl (pc0 := 118) (pc' := 136) rfl (hb hby d9_118) (by decide) (by decide)) ?_
    refine oi (XS.goto X65.here hx rfl (pc0 := 136) (pc' := 76) rfl (hb hby d9_136) (by decide) (by decide)) ?_
    refine so (A := (T65.setTop (mkF m 76 #[vr lp, vr xn, vr lv, vr la, vr b1, vi 1, vr it4, vr y] []))) ?_
    have f67 : own_its Z T65.heap H5.size xs qs := ((IR.keep Kp56 (allS (by omega) all0)).keep Kp65 (allS (by omega) (allS (by omega) all0)))
    have f68 : own_par Z T65.heap y x t x2 t2 pa pb := (f59.keep Kp65 (ninS (one (by omega)) (ninS (one (by omega)) nin0)) (ninS (one (by omega)) (ninS (one (by omega)) nin0)) (ninS (one (by omega)) (ninS (one (by omega)) nin0)) (ninS (one (by omega)) (ninS (one (by omega)) nin0)) (ninS (one (by omega)) (ninS (one (by omega)) nin0)))
    have f69 : Exa Z T65.heap it4 "java/util/ArrayList$Itr" := (Ei56.keep Kp65)
    have f70 : Fld Z T65.heap it4 "java/util/ArrayList$Itr" "this$0" "Ljava/util/ArrayList;" (.ref lp) := (Ft56.keep Kp65 (ninS (one (by omega)) (ninS (one (by omega)) nin0)))
    have f71 : Fld Z T65.heap it4 "java/util/ArrayList$Itr" "cursor" "I" (.int (Int32.ofNat (i + 1))) := (Fc56.keep Kp65 (ninS (one (by omega)) (ninS (one (by omega)) nin0)))
    have f72 : Fld Z T65.heap it4 "java/util/ArrayList$Itr" "lastRet" "I" (.int (Int32.ofNat (i))) := (Fl56.keep Kp65 (ninS (one (by omega)) (ninS (one (by omega)) nin0)))
    have f73 : Fld Z T65.heap it4 "java/util/ArrayList$Itr" "expectedModCount" "I" (.int mp) := (Fx56.keep Kp65 (ninS (one (by omega)) (ninS (one (by omega)) nin0)))
    have f74 : own_al Z T65.heap dq n0 la ea ke zs ma := ((AA.keep Kp56 (ninS (one (by omega)) nin0) (ninS (one (by omega)) nin0)).keep Kp65 (ninS (one (by omega)) (ninS (one (by omega)) nin0)) (ninS (one (by omega)) (ninS (one (by omega)) nin0)))
    have f75 : own_its Z T65.heap H5.size zs (fs.map fun f => (cn, f)) := ((IA.keep Kp56 (allS (by omega) all0)).keep Kp65 (allS (by omega) (allS (by omega) all0)))
    exact seg_0_1 (i + 1) _ _ _ e65 k65 (xs ++ [y]) (qs ++ [(pa, pb)]) (mq + (1 : Int32)) _ _ (by omega) (X65.more (by decide) (by decide)) rfl N65 O65 K65 (by omega) f69 f70 f71 f72 f73 AL65 (own_its.app f67 ⟨(own_itb.up ⟨x, t, x2, t2, f68, bd1, bd2, bd3, bd4, bd5⟩ (by omega)), trivial⟩) f74 f75 (by omega) (by omega) (Or.inr ⟨_, rfl⟩) (by first | omega | (simp only [List.length_append, List.length_cons, List.length_nil]; omega)) (by rw [← hS, own_drop hp]; simp [own_go2, nm_])
   ·refine oi (XS.ifYes X62.here hx rfl (pc0 := 107) (pc' := 121) rfl (hb hby d9_107) rfl ((if0 _ _).trans (feq hb107_63).2) (by decide) (by decide)) ?_
    refine so (A := (T62.setTop (mkF m 121 #[vr lp, vr xn, vr lv, vr la, vr b1, vi 1, vr it4, vr y] []))) ?_
    have nm_ := own_eqi1 hb107_63
    refine oi (XS.iload X62.here hx rfl (hb hby d9_121) rfl) ?_
    have hb123_76 : ¬ ((1 : Int32) = (0 : Int32)) := by decide
    refine oi (XS.ifYes X62.here hx rfl (pc0 := 123) (pc' := 136) rfl (hb hby d9_123) rfl ((if0 _ _).trans (feq hb123_76).2) (by decide) (by decide)) ?_
    refine oi (XS.goto X62.here hx rfl (pc0 := 136) (pc' := 76) rfl (hb hby d9_136) (by decide) (by decide)) ?_
    refine so (A := (T62.setTop (mkF m 76 #[vr lp, vr xn, vr lv, vr la, vr b1, vi 1, vr it4, vr y] []))) ?_
    have f77 : own_its Z T56.heap H5.size xs qs := (IR.keep Kp56 (allS (by omega) all0))
    have f78 : own_al Z T56.heap dq n0 b1 er kr xs mq := (AR.keep Kp56 (ninS (one (by omega)) nin0) (ninS (one (by omega)) nin0))
    have f79 : own_al Z T56.heap dq n0 la ea ke zs ma := (AA.keep Kp56 (ninS (one (by omega)) nin0) (ninS (one (by omega)) nin0))
    have f80 : own_its Z T56.heap H5.size zs (fs.map fun f => (cn, f)) := (IA.keep Kp56 (allS (by omega) all0))
    exact seg_0_1 (i + 1) _ _ _ er kr xs qs mq _ _ (by omega) (X62.more (by decide) (by decide)) eh62 N62 O56 K56 (by omega) Ei56 Ft56 Fc56 Fl56 Fx56 f78 f77 f79 f80 (by omega) (by omega) (Or.inr ⟨_, rfl⟩) (by first | omega | (simp only [List.length_append, List.length_cons, List.length_nil]; omega)) (by rw [← hS, own_drop hp]; simp [own_go2, nm_])
  have seg_2_0 : ∀ (i : Nat) (H : Heap) (T' : State) (ls : List Loc) (er : Nat) (kr : ClassId) (xs : List Nat) (qs : List (Int32 × Int32)) (mq lq : Int32) (l7 : Slot), (i + 2 = ys.length) → (Stand p l e (own_R 5 16 130 97) s m #[.ref lp, .ref xn, .ref lv] below meth c T' ls 10 70) → (T'.heap = H) → (Fr n0 ls) → (Old Z n0 H) → (Keep h0 H []) → (H5.size ≤ H.size) → (Exa Z H it4 "java/util/ArrayList$Itr") → (Fld Z H it4 "java/util/ArrayList$Itr" "this$0" "Ljava/util/ArrayList;" (.ref lp)) → (Fld Z H it4 "java/util/ArrayList$Itr" "cursor" "I" (.int (Int32.ofNat i))) → (Fld Z H it4 "java/util/ArrayList$Itr" "lastRet" "I" (.int lq)) → (Fld Z H it4 "java/util/ArrayList$Itr" "expectedModCount" "I" (.int mp)) → (own_al Z H dq n0 b1 er kr xs mq) → (own_its Z H H5.size xs qs) → (own_al Z H dq n0 la ea ke zs ma) → (own_its Z H H5.size zs (fs.map fun f => (cn, f))) → ((er = dq ∨ H5.size ≤ er)) → (er ≠ it4) → ((l7 = .unset ∨ ∃ z : Nat, l7 = vr z)) → (xs.length + 2 ≤ 3) → (qs ++ own_go2 cn (fs.map fun f => (cn, f)) (ps.drop i) false = (own_go2 cn (fs.map fun f => (cn, f)) ps false)) → own_go p e below s (Q_rmW Z lp lv dq kd mr ep kp ys mp ev kv vs mv xn tn cn bp ps fs Gc h0 n0) ((own_R 5 16 130 97)).cells ((own_R 5 16 130 97)).slots (T'.setTop (mkF m 76 #[vr lp, vr xn, vr lv, vr la, vr b1, vz, vr it4, l7] [])) := by
   intro i H T' ls er kr xs qs mq lq l7 hi X' eT N' O' K' hB Ei' Ft' Fc' Fl' Fx' AR IR AA IA hE hEi h7 hX hS
   have ltR := AR.lt2
   have ltA := AA.lt2
   have ltI := olt Ei'.lt
   obtain ⟨⟨pa, pb⟩, hp⟩ : ∃ pq, ps[i]? = some pq := ⟨_, List.getElem?_eq_getElem (by have := IP.len; omega)⟩
   obtain ⟨y, hy, x, t, x2, t2, Py, bd1, bd2, bd3, bd4, bd5⟩ := own_its.get IP hp
   have Py' : own_par Z h0 y x t x2 t2 pa pb := Py
   have ltP := Py'.lts
   refine so (A := (T'.setTop (mkF m 76 #[vr lp, vr xn, vr lv, vr la, vr b1, vz, vr it4, l7] []))) ?_
   refine oi (XS.aload X'.here hx rfl (hb hby d9_76) rfl rfl) ?_
   refine so (A := (T'.setTop (mkF m 78 #[vr lp, vr xn, vr lv, vr la, vr b1, vz, vr it4, l7] [(.ref it4)]))) ?_
   have f81 : own_al Z H dq n0 lp ep kp ys mp := AP.keep K' nin0 nin0
   obtain ⟨cq82, kq82, q82a, q82b, q82c⟩ := isOf hZ eT Ei'
   obtain ⟨_, T82, Lc82, X82, hQ82, st82⟩ := own_c1 X' <| X'.interfaceBack hx (xi := ym7688) (y := ym12) hown (mvT hZ (hW 82 _ rfl)) (mvT hZ (hW 83 _ rfl)) (mvT hZ (hW 84 _ rfl)) (mvT hZ (hW 85 _ rfl)) (mvT hZ (hW 86 _ rfl)) (mvT hZ (hW 87 _ rfl)) (mvT hZ (hW 88 _ rfl)) (mvT hZ (hW 89 _ rfl)) (by decide) (backOf (W := 0) (rmHN1 l Z a0 hw [] it4 lp (Int32.ofNat (i)) (Int32.ofNat ys.length) H n0 O' Ft' Fc' Ei' f81.1 f81.2.2.1 (fun q => by have := (own_neq (by omega) (by omega)).mp q; omega)) hZ (hW 90 _ rfl) (hW 68 _ rfl) (by decide) (by decide)) q82a q82b q82c (g := (mkF m 78 #[vr lp, vr xn, vr lv, vr la, vr b1, vz, vr it4, l7] [(.ref it4)])) rfl (by rw [hml]; rfl) (Steps.refl _) (argsL := []) (rest := []) (lenOf pd_13 rfl) rfl (Nat.le_of_eq rfl) (hb hby d9_78) (fun _ _ => ⟨rfl, eT, (by decide : 10 + 0 ≤ _), (by decide : 70 + 0 ≤ _)⟩)
   obtain ⟨rfl, Nq82, eh82⟩ := hQ82
   have N82 := Fr.app N' Nq82
   refine oo (fun tt_ kk_ => st82.trans kk_) ?_
   have hb83_83 : ¬ ((1 : Int32) = (0 : Int32)) := by decide
   refine oi (XS.ifNo X82.here hx rfl (hb hby d9_83) rfl ((if0 _ _).trans (feq hb83_83).1)) ?_
   refine oi (XS.aload X82.here hx rfl (hb hby d9_86) rfl rfl) ?_
   refine so (A := (T82.setTop (mkF m 88 #[vr lp, vr xn, vr lv, vr la, vr b1, vz, vr it4, l7] [(.ref it4)]))) ?_
   obtain ⟨cq84, kq84, q84a, q84b, q84c⟩ := isOf hZ eh82 Ei'
   obtain ⟨_, T84, Lc84, X84, hQ84, st84⟩ := own_c1 X82 <| X82.interfaceBack hx (xi := ym8978) (y := ym27) hown (mvT hZ (hW 188 _ rfl)) (mvT hZ (hW 189 _ rfl)) (mvT hZ (hW 190 _ rfl)) (mvT hZ (hW 191 _ rfl)) (mvT hZ (hW 192 _ rfl)) (mvT hZ (hW 193 _ rfl)) (mvT hZ (hW 194 _ rfl)) (mvT hZ (hW 89 _ rfl)) (by decide) (backOf (W := 0) (rmNx l Z a0 hw [] dq it4 lp ep kp ys (i) y mp lq H n0 O' (by omega) (by omega) (by omega) Ei' Ft' Fc' Fl' Fx' f81 (by omega) (by omega) hy) hZ (hW 195 _ rfl) (hW 68 _ rfl) (by decide) (by decide)) q84a q84b q84c (g := (mkF m 88 #[vr lp, vr xn, vr lv, vr la, vr b1, vz, vr it4, l7] [(.ref it4)])) rfl (by rw [hml]; rfl) (Steps.refl _) (argsL := []) (rest := []) (lenOf pd_15 rfl) rfl (Nat.le_of_eq rfl) (hb hby d9_88) (fun _ _ => ⟨rfl, eh82, (by decide : 10 + 0 ≤ _), (by decide : 70 + 0 ≤ _)⟩)
   obtain ⟨rfl, Nq84, Kp84, Ei84, Ft84, Fc84, Fl84, Fx84⟩ := hQ84
   have N84 := Fr.app N82 Nq84
   refine oo (fun tt_ kk_ => st84.trans kk_) ?_
   have sz84 : H.size ≤ T84.heap.size := Kp84.1
   have O84 : Old Z n0 T84.heap := O'.keep Kp84 (allS (by omega) all0)
   have K84 : Keep h0 T84.heap [] := K'.trans Kp84 (allS (Or.inr (by omega)) all0)
   have f85 : Exa Z T84.heap y "com/example/practory/practory/server/SearchQuery$Parameter" := Py'.1.keep K84
   obtain ⟨T86, X86, e86, st86⟩ := castY X84 hx hZ hown (hW 202 _ rfl) rfl (Ins.self f85) (g := (mkF m 93 #[vr lp, vr xn, vr lv, vr la, vr b1, vz, vr it4, l7] [(.ref y)])) rfl rfl (hb hby d9_93)
   refine oo st86 ?_
   refine oi (XS.astore X86.here hx rfl (hb hby d9_96) rfl rfl (l' := #[vr lp, vr xn, vr lv, vr la, vr b1, vz, vr it4, vr y]) (by rcases h7 with rfl | ⟨z7, rfl⟩ <;> rfl)) ?_
   refine oi (XS.aload X86.here hx rfl (hb hby d9_98) rfl rfl) ?_
   refine so (A := (T86.setTop (mkF m 100 #[vr lp, vr xn, vr lv, vr la, vr b1, vz, vr it4, vr y] [(.ref y)]))) ?_
   have f87 : own_par Z T84.heap y x t x2 t2 pa pb := Py'.keep K84 nin0 nin0 nin0 nin0 nin0
   obtain ⟨cq88, kq88, q88a, q88b, q88c⟩ := isOf hZ e86 f85
   obtain ⟨_, T88, Lc88, X88, hQ88, st88⟩ := own_c1 X86 <| X86.virtualBack hx (y := ym29) (z := ym29) hown (mvT hZ (hW 204 _ rfl)) (mvT hZ (hW 205 _ rfl)) (notFace_of_selects (args := #[]) (mvT hZ (hW 207 _ rfl))) (mvT hZ (hW 207 _ rfl)) (mvT hZ (hW 206 _ rfl)) (by decide) (backOf (W := 0) (rmN_name l Z a0 hw [] y x T84.heap n0 O84 f87.2.1) hZ (hW 208 _ rfl) (hW 149 _ rfl) (by decide) (by decide)) q88a q88c (g := (mkF m 100 #[vr lp, vr xn, vr lv, vr la, vr b1, vz, vr it4, vr y] [(.ref y)])) rfl (by rw [hml]; rfl) (Steps.refl _) (argsL := []) (rest := []) (lenOf pd_16 rfl) rfl (Nat.le_of_eq rfl) (hb hby d9_100) (fun _ _ => ⟨rfl, e86, (by decide : 10 + 0 ≤ _), (by decide : 70 + 0 ≤ _)⟩)
   obtain ⟨rfl, Nq88, eh88⟩ := hQ88
   have N88 := Fr.app N84 Nq88
   refine oo (fun tt_ kk_ => st88.trans kk_) ?_
   refine oi (XS.aloadN X88.here hx rfl (hb hby d9_103) rfl rfl) ?_
   refine so (A := (T88.setTop (mkF m 104 #[vr lp, vr xn, vr lv, vr la, vr b1, vz, vr it4, vr y] [(.ref xn), (.ref x)]))) ?_
   have f89 : own_st Z T84.heap xn tn cn := S_n.keep K84 nin0 nin0
   obtain ⟨cq90, kq90, q90a, q90b, q90c⟩ := isOf hZ eh88 f87.2.2.2.1.exa
   obtain ⟨_, T90, Lc90, X90, hQ90, st90⟩ := own_c1 X88 <| X88.virtualBack hx (y := ym30) (z := ym30) hown (mvT hZ (hW 209 _ rfl)) (mvT hZ (hW 210 _ rfl)) (notFace_of_selects (args := #[]) (mvT hZ (hW 212 _ rfl))) (mvT hZ (hW 212 _ rfl)) (mvT hZ (hW 211 _ rfl)) (by decide) (backOf (W := 0) (rmEq l Z a0 hw [] x t xn tn pa cn Gc T84.heap n0 O84 Oc Pc f87.2.2.2.1 f89 (by omega)) hZ (hW 213 _ rfl) (hW 29 _ rfl) (by decide) (by decide)) q90a q90c (g := (mkF m 104 #[vr lp, vr xn, vr lv, vr la, vr b1, vz, vr it4, vr y] [(.ref xn), (.ref x)])) rfl (by rw [hml]; rfl) (Steps.refl _) (argsL := [(.ref xn)]) (rest := []) (lenOf pd_17 rfl) rfl (Nat.le_of_eq rfl) (hb hby d9_104) (fun _ _ => ⟨rfl, eh88, (by decide : 10 + 0 ≤ _), (by decide : 70 + 0 ≤ _)⟩)
   obtain ⟨rfl, Nq90, eh90⟩ := hQ90
   have N90 := Fr.app N88 Nq90
   refine oo (fun tt_ kk_ => st90.trans kk_) ?_
   by_cases hb107_91 : (own_eqi pa cn) = (0 : Int32)
   ·refine oi (XS.ifNo X90.here hx rfl (hb hby d9_107) rfl ((if0 _ _).trans (teq hb107_91).2)) ?_
    refine so (A := (T90.setTop (mkF m 110 #[vr lp, vr xn, vr lv, vr la, vr b1, vz, vr it4, vr y] []))) ?_
    have nm_ := own_eqi0 hb107_91
    refine oi (XS.aload X90.here hx rfl (hb hby d9_110) rfl rfl) ?_
    refine oi (XS.aload X90.here hx rfl (hb hby d9_112) rfl rfl) ?_
    refine so (A := (T90.setTop (mkF m 114 #[vr lp, vr xn, vr lv, vr la, vr b1, vz, vr it4, vr y] [(.ref y), (.ref b1)]))) ?_
    have f92 : own_al Z T84.heap dq n0 b1 er kr xs mq := (AR.keep Kp84 (ninS (one (by omega)) nin0) (ninS (one (by omega)) nin0))
    have f94 : Exa Z T84.heap b1 "java/util/ArrayList" := (AR.1.keep Kp84)
    obtain ⟨cq93, kq93, q93a, q93b, q93c⟩ := isOf hZ eh90 f94
    obtain ⟨_, T93, Lc93, X93, hQ93, st93⟩ := own_c1 X90 <| X90.virtualBack hx (y := ym22) (z := ym22) hown (mvT hZ (hW 217 _ rfl)) (mvT hZ (hW 164 _ rfl)) (notFace_of_selects (args := #[]) (mvT hZ (hW 166 _ rfl))) (mvT hZ (hW 166 _ rfl)) (mvT hZ (hW 165 _ rfl)) (by decide) (backOf (W := 0) (rmAd l Z a0 hw [] b1 dq kd mr er kr xs y "com/example/practory/practory/server/SearchQuery$Parameter" mq T84.heap n0 O84 (by omega) S_d V_d E_d M_r l_d f92 (by omega) f85 (hW 187 _ rfl)) hZ (hW 167 _ rfl) (hW 3 _ rfl) (by decide) (by decide)) q93a q93c (g := (mkF m 114 #[vr lp, vr xn, vr lv, vr la, vr b1, vz, vr it4, vr y] [(.ref y), (.ref b1)])) rfl (by rw [hml]; rfl) (Steps.refl _) (argsL := [(.ref y)]) (rest := []) (lenOf pd_17 rfl) rfl (Nat.le_of_eq rfl) (hb hby d9_114) (fun _ _ => ⟨rfl, eh90, (by decide : 10 + 1 ≤ _), (by decide : 70 + 10 ≤ _)⟩)
    obtain ⟨e93, k93, z93, rfl, Nq93, gz93, hz93, Kp93, AL93⟩ := hQ93
    have N93 := Fr.app N90 Nq93
    refine oo (fun tt_ kk_ => st93.trans kk_) ?_
    have sz93 : T84.heap.size ≤ T93.heap.size := Kp93.1
    have O93 : Old Z n0 T93.heap := O84.keep Kp93 (allS (by omega) (allS (by omega) all0))
    have K93 : Keep h0 T93.heap [] := K84.trans Kp93 (allS (Or.inr (by omega)) (allS (Or.inr (by omega)) all0))
    have la93 := AL93.lt2
    refine oi (XS.pop X93.here hx rfl (hb hby d9_117) rfl rfl) ?_
    refine oi (XS.goto X93.here hx rfl (pc0 := 118) (pc' := 136) rfl (hb hby d9_118) (by decide) (by decide)) ?_
    refine oi (XS.goto X93.here hx rfl (pc0 := 136) (pc' := 76) rfl (hb hby d9_136) (by decide) (by decide)) ?_
    refine so (A := (T93.setTop (mkF m 76 #[vr lp, vr xn, vr lv, vr la, vr b1, vz, vr it4, vr y] []))) ?_
    have f95 : own_its Z T93.heap H5.size xs qs := ((IR.keep Kp84 (allS (by omega) all0)).keep Kp93 (allS (by omega) (allS (by omega) all0)))
    have f96 : own_par Z T93.heap y x t x2 t2 pa pb := (f87.keep Kp93 (ninS (one (by omega)) (ninS (one (by omega)) nin0)) (ninS (one (by omega)) (ninS (one (by omega)) nin0)) (ninS (one (by omega)) (ninS (one (by omega)) nin0)) (ninS (one (by omega)) (ninS (one (by omega)) nin0)) (ninS (one (by omega)) (ninS (one (by omega)) nin0)))
    have f97 : Exa Z T93.heap it4 "java/util/ArrayList$Itr" := (Ei84.keep Kp93)
    have f98 : Fld Z T93.heap it4 "java/util/ArrayList$Itr" "this$0" "Ljava/util/ArrayList;" (.ref lp) := (Ft84.keep Kp93 (ninS (one (by omega)) (ninS (one (by omega)) nin0)))
    have f99 : Fld Z T93.heap it4 "java/util/ArrayList$Itr" "cursor" "I" (.int (Int32.ofNat (i + 1))) := (Fc84.keep Kp93 (ninS (one (by omega)) (ninS (one (by omega)) nin0)))
    have f100 : Fld Z T93.heap it4 "java/util/ArrayList$Itr" "lastRet" "I" (.int (Int32.ofNat (i))) := (Fl84.keep Kp93 (ninS (one (by omega)) (ninS (one (by omega)) nin0)))
    have f101 : Fld Z T93.heap it4 "java/util/ArrayList$Itr" "expectedModCount" "I" (.int mp) := (Fx84.keep Kp93 (ninS (one (by omega)) (ninS (one (by omega)) nin0)))
    have f102 : own_al Z T93.heap dq n0 la ea ke zs ma := ((AA.keep Kp84 (ninS (one (by omega)) nin0) (ninS (one (by omega)) nin0)).keep Kp93 (ninS (one (by omega)) (ninS (one (by omega)) nin0)) (ninS (one (by omega)) (ninS (one (by omega)) nin0)))
    have f103 : own_its Z T93.heap H5.size zs (fs.map fun f => (cn, f)) := ((IA.keep Kp84 (allS (by omega) all0)).keep Kp93 (allS (by omega) (allS (by omega) all0)))
    exact seg_1_0 (i + 1) _ _ _ e93 k93 (xs ++ [y]) (qs ++ [(pa, pb)]) (mq + (1 : Int32)) _ _ (by omega) (X93.more (by decide) (by decide)) rfl N93 O93 K93 (by omega) f97 f98 f99 f100 f101 AL93 (own_its.app f95 ⟨(own_itb.up ⟨x, t, x2, t2, f96, bd1, bd2, bd3, bd4, bd5⟩ (by omega)), trivial⟩) f102 f103 (by omega) (by omega) (Or.inr ⟨_, rfl⟩) (by first | omega | (simp only [List.length_append, List.length_cons, List.length_nil]; omega)) (by rw [← hS, own_drop hp]; simp [own_go2, nm_])
   ·refine oi (XS.ifYes X90.here hx rfl (pc0 := 107) (pc' := 121) rfl (hb hby d9_107) rfl ((if0 _ _).trans (feq hb107_91).2) (by decide) (by decide)) ?_
    refine so (A := (T90.setTop (mkF m 121 #[vr lp, vr xn, vr lv, vr la, vr b1, vz, vr it4, vr y] []))) ?_
    have nm_ := own_eqi1 hb107_91
    refine oi (XS.iload X90.here hx rfl (hb hby d9_121) rfl) ?_
    have hb123_104 : (0 : Int32) = (0 : Int32) := by decide
    refine oi (XS.ifNo X90.here hx rfl (hb hby d9_123) rfl ((if0 _ _).trans (teq hb123_104).2)) ?_
    refine oi (XS.aload X90.here hx rfl (hb hby d9_126) rfl rfl) ?_
    refine oi (XS.aloadN X90.here hx rfl (hb hby d9_128) rfl rfl) ?_
    refine so (A := (T90.setTop (mkF m 129 #[vr lp, vr xn, vr lv, vr la, vr b1, vz, vr it4, vr y] [(.ref la), (.ref b1)]))) ?_
    have f105 : own_its Z T84.heap H5.size zs (fs.map fun f => (cn, f)) := (IA.keep Kp84 (allS (by omega) all0))
    have f106 : own_al Z T84.heap dq n0 la ea ke zs ma := (AA.keep Kp84 (ninS (one (by omega)) nin0) (ninS (one (by omega)) nin0))
    have f107 : own_al Z T84.heap dq n0 b1 er kr xs mq := (AR.keep Kp84 (ninS (one (by omega)) nin0) (ninS (one (by omega)) nin0))
    have f109 : Exa Z T84.heap b1 "java/util/ArrayList" := (AR.1.keep Kp84)
    obtain ⟨cq108, kq108, q108a, q108b, q108c⟩ := isOf hZ eh90 f109
    obtain ⟨_, T108, Lc108, X108, hQ108, st108⟩ := own_c1 X90 <| X90.virtualBack hx (y := ym13) (z := ym13) hown (mvT hZ (hW 95 _ rfl)) (mvT hZ (hW 96 _ rfl)) (notFace_of_selects (args := #[]) (mvT hZ (hW 98 _ rfl))) (mvT hZ (hW 98 _ rfl)) (mvT hZ (hW 97 _ rfl)) (by decide) (backOf (W := 0) (rmAA l Z a0 hw [] b1 la dq kd mr ea ke zs er kr xs ma mq T84.heap n0 O84 S_d V_d E_d M_r l_d f106 f107 (own_its.exa f105) (by omega) (by omega) (by omega) (fun _ => by omega) (by omega) hx0) hZ (hW 99 _ rfl) (hW 3 _ rfl) (by decide) (by decide)) q108a q108c (g := (mkF m 129 #[vr lp, vr xn, vr lv, vr la, vr b1, vz, vr it4, vr y] [(.ref la), (.ref b1)])) rfl (by rw [hml]; rfl) (Steps.refl _) (argsL := [(.ref la)]) (rest := []) (lenOf pd_14 rfl) rfl (Nat.le_of_eq rfl) (hb hby d9_129) (fun _ _ => ⟨rfl, eh90, (by decide : 10 + 2 ≤ _), (by decide : 70 + 20 ≤ _)⟩)
    obtain ⟨e108, k108, z108, r108, rfl, Nq108, gz108, hz108, Kp108, AL108⟩ := hQ108
    have N108 := Fr.app N90 Nq108
    refine oo (fun tt_ kk_ => st108.trans kk_) ?_
    have sz108 : T84.heap.size ≤ T108.heap.size := Kp108.1
    have O108 : Old Z n0 T108.heap := O84.keep Kp108 (allS (by omega) (allS (by omega) all0))
    have K108 : Keep h0 T108.heap [] := K84.trans Kp108 (allS (Or.inr (by omega)) (allS (Or.inr (by omega)) all0))
    have la108 := AL108.lt2
    refine oi (XS.pop X108.here hx rfl (hb hby d9_132) rfl rfl) ?_
    refine oi (XS.iconst X108.here hx rfl (hb hby d9_133)) ?_
    refine oi (XS.istore X108.here hx rfl (hb hby d9_134) rfl (l' := #[vr lp, vr xn, vr lv, vr la, vr b1, vi 1, vr it4, vr y]) rfl) ?_
    refine oi (XS.goto X108.here hx rfl (pc0 := 136) (pc' := 76) rfl (hb hby d9_136) (by decide) (by decide)) ?_
    refine so (A := (T108.setTop (mkF m 76 #[vr lp, vr xn, vr lv, vr la, vr b1, vi 1, vr it4, vr y] []))) ?_
    have f110 : own_its Z T108.heap H5.size xs qs := ((IR.keep Kp84 (allS (by omega) all0)).keep Kp108 (allS (by omega) (allS (by omega) all0)))
    have f111 : own_its Z T108.heap H5.size zs (fs.map fun f => (cn, f)) := (f105.keep Kp108 (allS (by omega) (allS (by omega) all0)))
    have f112 : Exa Z T108.heap it4 "java/util/ArrayList$Itr" := (Ei84.keep Kp108)
    have f113 : Fld Z T108.heap it4 "java/util/ArrayList$Itr" "this$0" "Ljava/util/ArrayList;" (.ref lp) := (Ft84.keep Kp108 (ninS (one (by omega)) (ninS (one (by omega)) nin0)))
    have f114 : Fld Z T108.heap it4 "java/util/ArrayList$Itr" "cursor" "I" (.int (Int32.ofNat (i + 1))) := (Fc84.keep Kp108 (ninS (one (by omega)) (ninS (one (by omega)) nin0)))
    have f115 : Fld Z T108.heap it4 "java/util/ArrayList$Itr" "lastRet" "I" (.int (Int32.ofNat (i))) := (Fl84.keep Kp108 (ninS (one (by omega)) (ninS (one (by omega)) nin0)))
    have f116 : Fld Z T108.heap it4 "java/util/ArrayList$Itr" "expectedModCount" "I" (.int mp) := (Fx84.keep Kp108 (ninS (one (by omega)) (ninS (one (by omega)) nin0)))
    have f117 : own_al Z T108.heap dq n0 la ea ke zs ma := (f106.keep Kp108 (ninS (one (by omega)) (ninS (one (by omega)) nin0)) (ninS (one (by omega)) (ninS (one (by omega)) nin0)))
    exact seg_1_1 (i + 1) _ _ _ e108 k108 (xs ++ zs) (qs ++ (fs.map fun f => (cn, f))) (mq + (1 : Int32)) _ _ (by omega) (X108.more (by decide) (by decide)) rfl N108 O108 K108 (by omega) f112 f113 f114 f115 f116 AL108 (own_its.app f110 f111) f117 f111 (by omega) (by omega) (Or.inr ⟨_, rfl⟩) (by first | omega | (simp only [List.length_append, List.length_cons, List.length_nil]; omega)) (by rw [← hS, own_drop hp]; simp [own_go2, nm_])
  have seg_2_1 : ∀ (i : Nat) (H : Heap) (T' : State) (ls : List Loc) (er : Nat) (kr : ClassId) (xs : List Nat) (qs : List (Int32 × Int32)) (mq lq : Int32) (l7 : Slot), (i + 2 = ys.length) → (Stand p l e (own_R 5 16 130 97) s m #[.ref lp, .ref xn, .ref lv] below meth c T' ls 10 70) → (T'.heap = H) → (Fr n0 ls) → (Old Z n0 H) → (Keep h0 H []) → (H5.size ≤ H.size) → (Exa Z H it4 "java/util/ArrayList$Itr") → (Fld Z H it4 "java/util/ArrayList$Itr" "this$0" "Ljava/util/ArrayList;" (.ref lp)) → (Fld Z H it4 "java/util/ArrayList$Itr" "cursor" "I" (.int (Int32.ofNat i))) → (Fld Z H it4 "java/util/ArrayList$Itr" "lastRet" "I" (.int lq)) → (Fld Z H it4 "java/util/ArrayList$Itr" "expectedModCount" "I" (.int mp)) → (own_al Z H dq n0 b1 er kr xs mq) → (own_its Z H H5.size xs qs) → (own_al Z H dq n0 la ea ke zs ma) → (own_its Z H H5.size zs (fs.map fun f => (cn, f))) → ((er = dq ∨ H5.size ≤ er)) → (er ≠ it4) → ((l7 = .unset ∨ ∃ z : Nat, l7 = vr z)) → (xs.length + 2 ≤ 5) → (qs ++ own_go2 cn (fs.map fun f => (cn, f)) (ps.drop i) true = (own_go2 cn (fs.map fun f => (cn, f)) ps false)) → own_go p e below s (Q_rmW Z lp lv dq kd mr ep kp ys mp ev kv vs mv xn tn cn bp ps fs Gc h0 n0) ((own_R 5 16 130 97)).cells ((own_R 5 16 130 97)).slots (T'.setTop (mkF m 76 #[vr lp, vr xn, vr lv, vr la, vr b1, vi 1, vr it4, l7] [])) := by
   intro i H T' ls er kr xs qs mq lq l7 hi X' eT N' O' K' hB Ei' Ft' Fc' Fl' Fx' AR IR AA IA hE hEi h7 hX hS
   have ltR := AR.lt2
   have ltA := AA.lt2
   have ltI := olt Ei'.lt
   obtain ⟨⟨pa, pb⟩, hp⟩ : ∃ pq, ps[i]? = some pq := ⟨_, List.getElem?_eq_getElem (by have := IP.len; omega)⟩
   obtain ⟨y, hy, x, t, x2, t2, Py, bd1, bd2, bd3, bd4, bd5⟩ := own_its.get IP hp
   have Py' : own_par Z h0 y x t x2 t2 pa pb := Py
   have ltP := Py'.lts
   refine so (A := (T'.setTop (mkF m 76 #[vr lp, vr xn, vr lv, vr la, vr b1, vi 1, vr it4, l7] []))) ?_
   refine oi (XS.aload X'.here hx rfl (hb hby d9_76) rfl rfl) ?_
   refine so (A := (T'.setTop (mkF m 78 #[vr lp, vr xn, vr lv, vr la, vr b1, vi 1, vr it4, l7] [(.ref it4)]))) ?_
   have f118 : own_al Z H dq n0 lp ep kp ys mp := AP.keep K' nin0 nin0
   obtain ⟨cq119, kq119, q119a, q119b, q119c⟩ := isOf hZ eT Ei'
   obtain ⟨_, T119, Lc119, X119, hQ119, st119⟩ := own_c1 X' <| X'.interfaceBack hx (xi := ym7688) (y := ym12) hown (mvT hZ (hW 82 _ rfl)) (mvT hZ (hW 83 _ rfl)) (mvT hZ (hW 84 _ rfl)) (mvT hZ (hW 85 _ rfl)) (mvT hZ (hW 86 _ rfl)) (mvT hZ (hW 87 _ rfl)) (mvT hZ (hW 88 _ rfl)) (mvT hZ (hW 89 _ rfl)) (by decide) (backOf (W := 0) (rmHN1 l Z a0 hw [] it4 lp (Int32.ofNat (i)) (Int32.ofNat ys.length) H n0 O' Ft' Fc' Ei' f118.1 f118.2.2.1 (fun q => by have := (own_neq (by omega) (by omega)).mp q; omega)) hZ (hW 90 _ rfl) (hW 68 _ rfl) (by decide) (by decide)) q119a q119b q119c (g := (mkF m 78 #[vr lp, vr xn, vr lv, vr la, vr b1, vi 1, vr it4, l7] [(.ref it4)])) rfl (by rw [hml]; rfl) (Steps.refl _) (argsL := []) (rest := []) (lenOf pd_13 rfl) rfl (Nat.le_of_eq rfl) (hb hby d9_78) (fun _ _ => ⟨rfl, eT, (by decide : 10 + 0 ≤ _), (by decide : 70 + 0 ≤ _)⟩)
   obtain ⟨rfl, Nq119, eh119⟩ := hQ119
   have N119 := Fr.app N' Nq119
   refine oo (fun tt_ kk_ => st119.trans kk_) ?_
   have hb83_120 : ¬ ((1 : Int32) = (0 : Int32)) := by decide
   refine oi (XS.ifNo X119.here hx rfl (hb hby d9_83) rfl ((if0 _ _).trans (feq hb83_120).1)) ?_
   refine oi (XS.aload X119.here hx rfl (hb hby d9_86) rfl rfl) ?_
   refine so (A := (T119.setTop (mkF m 88 #[vr lp, vr xn, vr lv, vr la, vr b1, vi 1, vr it4, l7] [(.ref it4)]))) ?_
   obtain ⟨cq121, kq121, q121a, q121b, q121c⟩ := isOf hZ eh119 Ei'
   obtain ⟨_, T121, Lc121, X121, hQ121, st121⟩ := own_c1 X119 <| X119.interfaceBack hx (xi := ym8978) (y := ym27) hown (mvT hZ (hW 188 _ rfl)) (mvT hZ (hW 189 _ rfl)) (mvT hZ (hW 190 _ rfl)) (mvT hZ (hW 191 _ rfl)) (mvT hZ (hW 192 _ rfl)) (mvT hZ (hW 193 _ rfl)) (mvT hZ (hW 194 _ rfl)) (mvT hZ (hW 89 _ rfl)) (by decide) (backOf (W := 0) (rmNx l Z a0 hw [] dq it4 lp ep kp ys (i) y mp lq H n0 O' (by omega) (by omega) (by omega) Ei' Ft' Fc' Fl' Fx' f118 (by omega) (by omega) hy) hZ (hW 195 _ rfl) (hW 68 _ rfl) (by decide) (by decide)) q121a q121b q121c (g := (mkF m 88 #[vr lp, vr xn, vr lv, vr la, vr b1, vi 1, vr it4, l7] [(.ref it4)])) rfl (by rw [hml]; rfl) (Steps.refl _) (argsL := []) (rest := []) (lenOf pd_15 rfl) rfl (Nat.le_of_eq rfl) (hb hby d9_88) (fun _ _ => ⟨rfl, eh119, (by decide : 10 + 0 ≤ _), (by decide : 70 + 0 ≤ _)⟩)
   obtain ⟨rfl, Nq121, Kp121, Ei121, Ft121, Fc121, Fl121, Fx121⟩ := hQ121
   have N121 := Fr.app N119 Nq121
   refine oo (fun tt_ kk_ => st121.trans kk_) ?_
   have sz121 : H.size ≤ T121.heap.size := Kp121.1
   have O121 : Old Z n0 T121.heap := O'.keep Kp121 (allS (by omega) all0)
   have K121 : Keep h0 T121.heap [] := K'.trans Kp121 (allS (Or.inr (by omega)) all0)
   have f122 : Exa Z T121.heap y "com/example/practory/practory/server/SearchQuery$Parameter" := Py'.1.keep K121
   obtain ⟨T123, X123, e123, st123⟩ := castY X121 hx hZ hown (hW 202 _ rfl) rfl (Ins.self f122) (g := (mkF m 93 #[vr lp, vr xn, vr lv, vr la, vr b1, vi 1, vr it4, l7] [(.ref y)])) rfl rfl (hb hby d9_93)
   refine oo st123 ?_
   refine oi (XS.astore X123.here hx rfl (hb hby d9_96) rfl rfl (l' := #[vr lp, vr xn, vr lv, vr la, vr b1, vi 1, vr it4, vr y]) (by rcases h7 with rfl | ⟨z7, rfl⟩ <;> rfl)) ?_
   refine oi (XS.aload X123.here hx rfl (hb hby d9_98) rfl rfl) ?_
   refine so (A := (T123.setTop (mkF m 100 #[vr lp, vr xn, vr lv, vr la, vr b1, vi 1, vr it4, vr y] [(.ref y)]))) ?_
   have f124 : own_par Z T121.heap y x t x2 t2 pa pb := Py'.keep K121 nin0 nin0 nin0 nin0 nin0
   obtain ⟨cq125, kq125, q125a, q125b, q125c⟩ := isOf hZ e123 f122
   obtain ⟨_, T125, Lc125, X125, hQ125, st125⟩ := own_c1 X123 <| X123.virtualBack hx (y := ym29) (z := ym29) hown (mvT hZ (hW 204 _ rfl)) (mvT hZ (hW 205 _ rfl)) (notFace_of_selects (args := #[]) (mvT hZ (hW 207 _ rfl))) (mvT hZ (hW 207 _ rfl)) (mvT hZ (hW 206 _ rfl)) (by decide) (backOf (W := 0) (rmN_name l Z a0 hw [] y x T121.heap n0 O121 f124.2.1) hZ (hW 208 _ rfl) (hW 149 _ rfl) (by decide) (by decide)) q125a q125c (g := (mkF m 100 #[vr lp, vr xn, vr lv, vr la, vr b1, vi 1, vr it4, vr y] [(.ref y)])) rfl (by rw [hml]; rfl) (Steps.refl _) (argsL := []) (rest := []) (lenOf pd_16 rfl) rfl (Nat.le_of_eq rfl) (hb hby d9_100) (fun _ _ => ⟨rfl, e123, (by decide : 10 + 0 ≤ _), (by decide : 70 + 0 ≤ _)⟩)
   obtain ⟨rfl, Nq125, eh125⟩ := hQ125
   have N125 := Fr.app N121 Nq125
   refine oo (fun tt_ kk_ => st125.trans kk_) ?_
   refine oi (XS.aloadN X125.here hx rfl (hb hby d9_103) rfl rfl) ?_
   refine so (A := (T125.setTop (mkF m 104 #[vr lp, vr xn, vr lv, vr la, vr b1, vi 1, vr it4, vr y] [(.ref xn), (.ref x)]))) ?_
   have f126 : own_st Z T121.heap xn tn cn := S_n.keep K121 nin0 nin0
   obtain ⟨cq127, kq127, q127a, q127b, q127c⟩ := isOf hZ eh125 f124.2.2.2.1.exa
   obtain ⟨_, T127, Lc127, X127, hQ127, st127⟩ := own_c1 X125 <| X125.virtualBack hx (y := ym30) (z := ym30) hown (mvT hZ (hW 209 _ rfl)) (mvT hZ (hW 210 _ rfl)) (notFace_of_selects (args := #[]) (mvT hZ (hW 212 _ rfl))) (mvT hZ (hW 212 _ rfl)) (mvT hZ (hW 211 _ rfl)) (by decide) (backOf (W := 0) (rmEq l Z a0 hw [] x t xn tn pa cn Gc T121.heap n0 O121 Oc Pc f124.2.2.2.1 f126 (by omega)) hZ (hW 213 _ rfl) (hW 29 _ rfl) (by decide) (by decide)) q127a q127c (g := (mkF m 104 #[vr lp, vr xn, vr lv, vr la, vr b1, vi 1, vr it4, vr y] [(.ref xn), (.ref x)])) rfl (by rw [hml]; rfl) (Steps.refl _) (argsL := [(.ref xn)]) (rest := []) (lenOf pd_17 rfl) rfl (Nat.le_of_eq rfl) (hb hby d9_104) (fun _ _ => ⟨rfl, eh125, (by decide : 10 + 0 ≤ _), (by decide : 70 + 0 ≤ _)⟩)
   obtain ⟨rfl, Nq127, eh127⟩ := hQ127
   have N127 := Fr.app N125 Nq127
   refine oo (fun tt_ kk_ => st127.trans kk_) ?_
   by_cases hb107_128 : (own_eqi pa cn) = (0 : Int32)
   ·refine oi (XS.ifNo X127.here hx rfl (hb hby d9_107) rfl ((if0 _ _).trans (teq hb107_128).2)) ?_
    refine so (A := (T127.setTop (mkF m 110 #[vr lp, vr xn, vr lv, vr la, vr b1, vi 1, vr it4, vr y] []))) ?_
    have nm_ := own_eqi0 hb107_128
    refine oi (XS.aload X127.here hx rfl (hb hby d9_110) rfl rfl) ?_
    refine oi (XS.aload X127.here hx rfl (hb hby d9_112) rfl rfl) ?_
    refine so (A := (T127.setTop (mkF m 114 #[vr lp, vr xn, vr lv, vr la, vr b1, vi 1, vr it4, vr y] [(.ref y), (.ref b1)]))) ?_
    have f129 : own_al Z T121.heap dq n0 b1 er kr xs mq := (AR.keep Kp121 (ninS (one (by omega)) nin0) (ninS (one (by omega)) nin0))
    have f131 : Exa Z T121.heap b1 "java/util/ArrayList" := (AR.1.keep Kp121)
    obtain ⟨cq130, kq130, q130a, q130b, q130c⟩ := isOf hZ eh127 f131
    obtain ⟨_, T130, Lc130, X130, hQ130, st130⟩ := own_c1 X127 <| X127.virtualBack hx (y := ym22) (z := ym22) hown (mvT hZ (hW 217 _ rfl)) (mvT hZ (hW 164 _ rfl)) (notFace_of_selects (args := #[]) (mvT hZ (hW 166 _ rfl))) (mvT hZ (hW 166 _ rfl)) (mvT hZ (hW 165 _ rfl)) (by decide) (backOf (W := 0) (rmAd l Z a0 hw [] b1 dq kd mr er kr xs y "com/example/practory/practory/server/SearchQuery$Parameter" mq T121.heap n0 O121 (by omega) S_d V_d E_d M_r l_d f129 (by omega) f122 (hW 187 _ rfl)) hZ (hW 167 _ rfl) (hW 3 _ rfl) (by decide) (by decide)) q130a q130c (g := (mkF m 114 #[vr lp, vr xn, vr lv, vr la, vr b1, vi 1, vr it4, vr y] [(.ref y), (.ref b1)])) rfl (by rw [hml]; rfl) (Steps.refl _) (argsL := [(.ref y)]) (rest := []) (lenOf pd_17 rfl) rfl (Nat.le_of_eq rfl) (hb hby d9_114) (fun _ _ => ⟨rfl, eh127, (by decide : 10 + 1 ≤ _), (by decide : 70 + 10 ≤ _)⟩)
    obtain ⟨e130, k130, z130, rfl, Nq130, gz130, hz130, Kp130, AL130⟩ := hQ130
    have N130 := Fr.app N127 Nq130
    refine oo (fun tt_ kk_ => st130.trans kk_) ?_
    have sz130 : T121.heap.size ≤ T130.heap.size := Kp130.1
    have O130 : Old Z n0 T130.heap := O121.keep Kp130 (allS (by omega) (allS (by omega) all0))
    have K130 : Keep h0 T130.heap [] := K121.trans Kp130 (allS (Or.inr (by omega)) (allS (Or.inr (by omega)) all0))
    have la130 := AL130.lt2
    refine oi (XS.pop X130.here hx rfl (hb hby d9_117) rfl rfl) ?_
    refine oi (XS.goto X130.here hx rfl (pc0 := 118) (pc' := 136) rfl (hb hby d9_118) (by decide) (by decide)) ?_
    refine oi (XS.goto X130.here hx rfl (pc0 := 136) (pc' := 76) rfl (hb hby d9_136) (by decide) (by decide)) ?_
    refine so (A := (T130.setTop (mkF m 76 #[vr lp, vr xn, vr lv, vr la, vr b1, vi 1, vr it4, vr y] []))) ?_
    have f132 : own_its Z T130.heap H5.size xs qs := ((IR.keep Kp121 (allS (by omega) all0)).keep Kp130 (allS (by omega) (allS (by omega) all0)))
    have f133 : own_par Z T130.heap y x t x2 t2 pa pb := (f124.keep Kp130 (ninS (one (by omega)) (ninS (one (by omega)) nin0)) (ninS (one (by omega)) (ninS (one (by omega)) nin0)) (ninS (one (by omega)) (ninS (one (by omega)) nin0)) (ninS (one (by omega)) (ninS (one (by omega)) nin0)) (ninS (one (by omega)) (ninS (one (by omega)) nin0)))
    have f134 : Exa Z T130.heap it4 "java/util/ArrayList$Itr" := (Ei121.keep Kp130)
    have f135 : Fld Z T130.heap it4 "java/util/ArrayList$Itr" "this$0" "Ljava/util/ArrayList;" (.ref lp) := (Ft121.keep Kp130 (ninS (one (by omega)) (ninS (one (by omega)) nin0)))
    have f136 : Fld Z T130.heap it4 "java/util/ArrayList$Itr" "cursor" "I" (.int (Int32.ofNat (i + 1))) := (Fc121.keep Kp130 (ninS (one (by omega)) (ninS (one (by omega)) nin0)))
    have f137 : Fld Z T130.heap it4 "java/util/ArrayList$Itr" "lastRet" "I" (.int (Int32.ofNat (i))) := (Fl121.keep Kp130 (ninS (one (by omega)) (ninS (one (by omega)) nin0)))
    have f138 : Fld Z T130.heap it4 "java/util/ArrayList$Itr" "expectedModCount" "I" (.int mp) := (Fx121.keep Kp130 (ninS (one (by omega)) (ninS (one (by omega)) nin0)))
    have f139 : own_al Z T130.heap dq n0 la ea ke zs ma := ((AA.keep Kp121 (ninS (one (by omega)) nin0) (ninS (one (by omega)) nin0)).keep Kp130 (ninS (one (by omega)) (ninS (one (by omega)) nin0)) (ninS (one (by omega)) (ninS (one (by omega)) nin0)))
    have f140 : own_its Z T130.heap H5.size zs (fs.map fun f => (cn, f)) := ((IA.keep Kp121 (allS (by omega) all0)).keep Kp130 (allS (by omega) (allS (by omega) all0)))
    exact seg_1_1 (i + 1) _ _ _ e130 k130 (xs ++ [y]) (qs ++ [(pa, pb)]) (mq + (1 : Int32)) _ _ (by omega) (X130.more (by decide) (by decide)) rfl N130 O130 K130 (by omega) f134 f135 f136 f137 f138 AL130 (own_its.app f132 ⟨(own_itb.up ⟨x, t, x2, t2, f133, bd1, bd2, bd3, bd4, bd5⟩ (by omega)), trivial⟩) f139 f140 (by omega) (by omega) (Or.inr ⟨_, rfl⟩) (by first | omega | (simp only [List.length_append, List.length_cons, List.length_nil]; omega)) (by rw [← hS, own_drop hp]; simp [own_go2, nm_])
   ·refine oi (XS.ifYes X127.here hx rfl (pc0 := 107) (pc' := 121) rfl (hb hby d9_107) rfl ((if0 _ _).trans (feq hb107_128).2) (by decide) (by decide)) ?_
    refine so (A := (T127.setTop (mkF m 121 #[vr lp, vr xn, vr lv, vr la, vr b1, vi 1, vr it4, vr y] []))) ?_
    have nm_ := own_eqi1 hb107_128
    refine oi (XS.iload X127.here hx rfl (hb hby d9_121) rfl) ?_
    have hb123_141 : ¬ ((1 : Int32) = (0 : Int32)) := by decide
    refine oi (XS.ifYes X127.here hx rfl (pc0 := 123) (pc' := 136) rfl (hb hby d9_123) rfl ((if0 _ _).trans (feq hb123_141).2) (by decide) (by decide)) ?_
    refine oi (XS.goto X127.here hx rfl (pc0 := 136) (pc' := 76) rfl (hb hby d9_136) (by decide) (by decide)) ?_
    refine so (A := (T127.setTop (mkF m 76 #[vr lp, vr xn, vr lv, vr la, vr b1, vi 1, vr it4, vr y] []))) ?_
    have f142 : own_its Z T121.heap H5.size xs qs := (IR.keep Kp121 (allS (by omega) all0))
    have f143 : own_al Z T121.heap dq n0 b1 er kr xs mq := (AR.keep Kp121 (ninS (one (by omega)) nin0) (ninS (one (by omega)) nin0))
    have f144 : own_al Z T121.heap dq n0 la ea ke zs ma := (AA.keep Kp121 (ninS (one (by omega)) nin0) (ninS (one (by omega)) nin0))
    have f145 : own_its Z T121.heap H5.size zs (fs.map fun f => (cn, f)) := (IA.keep Kp121 (allS (by omega) all0))
    exact seg_1_1 (i + 1) _ _ _ er kr xs qs mq _ _ (by omega) (X127.more (by decide) (by decide)) eh127 N127 O121 K121 (by omega) Ei121 Ft121 Fc121 Fl121 Fx121 f143 f142 f144 f145 (by omega) (by omega) (Or.inr ⟨_, rfl⟩) (by first | omega | (simp only [List.length_append, List.length_cons, List.length_nil]; omega)) (by rw [← hS, own_drop hp]; simp [own_go2, nm_])
  have seg_3_0 : ∀ (i : Nat) (H : Heap) (T' : State) (ls : List Loc) (er : Nat) (kr : ClassId) (xs : List Nat) (qs : List (Int32 × Int32)) (mq lq : Int32) (l7 : Slot), (i + 3 = ys.length) → (Stand p l e (own_R 5 16 130 97) s m #[.ref lp, .ref xn, .ref lv] below meth c T' ls 8 50) → (T'.heap = H) → (Fr n0 ls) → (Old Z n0 H) → (Keep h0 H []) → (H5.size ≤ H.size) → (Exa Z H it4 "java/util/ArrayList$Itr") → (Fld Z H it4 "java/util/ArrayList$Itr" "this$0" "Ljava/util/ArrayList;" (.ref lp)) → (Fld Z H it4 "java/util/ArrayList$Itr" "cursor" "I" (.int (Int32.ofNat i))) → (Fld Z H it4 "java/util/ArrayList$Itr" "lastRet" "I" (.int lq)) → (Fld Z H it4 "java/util/ArrayList$Itr" "expectedModCount" "I" (.int mp)) → (own_al Z H dq n0 b1 er kr xs mq) → (own_its Z H H5.size xs qs) → (own_al Z H dq n0 la ea ke zs ma) → (own_its Z H H5.size zs (fs.map fun f => (cn, f))) → ((er = dq ∨ H5.size ≤ er)) → (er ≠ it4) → ((l7 = .unset ∨ ∃ z : Nat, l7 = vr z)) → (xs.length + 3 ≤ 3) → (qs ++ own_go2 cn (fs.map fun f => (cn, f)) (ps.drop i) false = (own_go2 cn (fs.map fun f => (cn, f)) ps false)) → own_go p e below s (Q_rmW Z lp lv dq kd mr ep kp ys mp ev kv vs mv xn tn cn bp ps fs Gc h0 n0) ((own_R 5 16 130 97)).cells ((own_R 5 16 130 97)).slots (T'.setTop (mkF m 76 #[vr lp, vr xn, vr lv, vr la, vr b1, vz, vr it4, l7] [])) := by
   intro i H T' ls er kr xs qs mq lq l7 hi X' eT N' O' K' hB Ei' Ft' Fc' Fl' Fx' AR IR AA IA hE hEi h7 hX hS
   have ltR := AR.lt2
   have ltA := AA.lt2
   have ltI := olt Ei'.lt
   obtain ⟨⟨pa, pb⟩, hp⟩ : ∃ pq, ps[i]? = some pq := ⟨_, List.getElem?_eq_getElem (by have := IP.len; omega)⟩
   obtain ⟨y, hy, x, t, x2, t2, Py, bd1, bd2, bd3, bd4, bd5⟩ := own_its.get IP hp
   have Py' : own_par Z h0 y x t x2 t2 pa pb := Py
   have ltP := Py'.lts
   refine so (A := (T'.setTop (mkF m 76 #[vr lp, vr xn, vr lv, vr la, vr b1, vz, vr it4, l7] []))) ?_
   refine oi (XS.aload X'.here hx rfl (hb hby d9_76) rfl rfl) ?_
   refine so (A := (T'.setTop (mkF m 78 #[vr lp, vr xn, vr lv, vr la, vr b1, vz, vr it4, l7] [(.ref it4)]))) ?_
   have f146 : own_al Z H dq n0 lp ep kp ys mp := AP.keep K' nin0 nin0
   obtain ⟨cq147, kq147, q147a, q147b, q147c⟩ := isOf hZ eT Ei'
   obtain ⟨_, T147, Lc147, X147, hQ147, st147⟩ := own_c1 X' <| X'.interfaceBack hx (xi := ym7688) (y := ym12) hown (mvT hZ (hW 82 _ rfl)) (mvT hZ (hW 83 _ rfl)) (mvT hZ (hW 84 _ rfl)) (mvT hZ (hW 85 _ rfl)) (mvT hZ (hW 86 _ rfl)) (mvT hZ (hW 87 _ rfl)) (mvT hZ (hW 88 _ rfl)) (mvT hZ (hW 89 _ rfl)) (by decide) (backOf (W := 0) (rmHN1 l Z a0 hw [] it4 lp (Int32.ofNat (i)) (Int32.ofNat ys.length) H n0 O' Ft' Fc' Ei' f146.1 f146.2.2.1 (fun q => by have := (own_neq (by omega) (by omega)).mp q; omega)) hZ (hW 90 _ rfl) (hW 68 _ rfl) (by decide) (by decide)) q147a q147b q147c (g := (mkF m 78 #[vr lp, vr xn, vr lv, vr la, vr b1, vz, vr it4, l7] [(.ref it4)])) rfl (by rw [hml]; rfl) (Steps.refl _) (argsL := []) (rest := []) (lenOf pd_13 rfl) rfl (Nat.le_of_eq rfl) (hb hby d9_78) (fun _ _ => ⟨rfl, eT, (by decide : 8 + 0 ≤ _), (by decide : 50 + 0 ≤ _)⟩)
   obtain ⟨rfl, Nq147, eh147⟩ := hQ147
   have N147 := Fr.app N' Nq147
   refine oo (fun tt_ kk_ => st147.trans kk_) ?_
   have hb83_148 : ¬ ((1 : Int32) = (0 : Int32)) := by decide
   refine oi (XS.ifNo X147.here hx rfl (hb hby d9_83) rfl ((if0 _ _).trans (feq hb83_148).1)) ?_
   refine oi (XS.aload X147.here hx rfl (hb hby d9_86) rfl rfl) ?_
   refine so (A := (T147.setTop (mkF m 88 #[vr lp, vr xn, vr lv, vr la, vr b1, vz, vr it4, l7] [(.ref it4)]))) ?_
   obtain ⟨cq149, kq149, q149a, q149b, q149c⟩ := isOf hZ eh147 Ei'
   obtain ⟨_, T149, Lc149, X149, hQ149, st149⟩ := own_c1 X147 <| X147.interfaceBack hx (xi := ym8978) (y := ym27) hown (mvT hZ (hW 188 _ rfl)) (mvT hZ (hW 189 _ rfl)) (mvT hZ (hW 190 _ rfl)) (mvT hZ (hW 191 _ rfl)) (mvT hZ (hW 192 _ rfl)) (mvT hZ (hW 193 _ rfl)) (mvT hZ (hW 194 _ rfl)) (mvT hZ (hW 89 _ rfl)) (by decide) (backOf (W := 0) (rmNx l Z a0 hw [] dq it4 lp ep kp ys (i) y mp lq H n0 O' (by omega) (by omega) (by omega) Ei' Ft' Fc' Fl' Fx' f146 (by omega) (by omega) hy) hZ (hW 195 _ rfl) (hW 68 _ rfl) (by decide) (by decide)) q149a q149b q149c (g := (mkF m 88 #[vr lp, vr xn, vr lv, vr la, vr b1, vz, vr it4, l7] [(.ref it4)])) rfl (by rw [hml]; rfl) (Steps.refl _) (argsL := []) (rest := []) (lenOf pd_15 rfl) rfl (Nat.le_of_eq rfl) (hb hby d9_88) (fun _ _ => ⟨rfl, eh147, (by decide : 8 + 0 ≤ _), (by decide : 50 + 0 ≤ _)⟩)
   obtain ⟨rfl, Nq149, Kp149, Ei149, Ft149, Fc149, Fl149, Fx149⟩ := hQ149
   have N149 := Fr.app N147 Nq149
   refine oo (fun tt_ kk_ => st149.trans kk_) ?_
   have sz149 : H.size ≤ T149.heap.size := Kp149.1
   have O149 : Old Z n0 T149.heap := O'.keep Kp149 (allS (by omega) all0)
   have K149 : Keep h0 T149.heap [] := K'.trans Kp149 (allS (Or.inr (by omega)) all0)
   have f150 : Exa Z T149.heap y "com/example/practory/practory/server/SearchQuery$Parameter" := Py'.1.keep K149
   obtain ⟨T151, X151, e151, st151⟩ := castY X149 hx hZ hown (hW 202 _ rfl) rfl (Ins.self f150) (g := (mkF m 93 #[vr lp, vr xn, vr lv, vr la, vr b1, vz, vr it4, l7] [(.ref y)])) rfl rfl (hb hby d9_93)
   refine oo st151 ?_
   refine oi (XS.astore X151.here hx rfl (hb hby d9_96) rfl rfl (l' := #[vr lp, vr xn, vr lv, vr la, vr b1, vz, vr it4, vr y]) (by rcases h7 with rfl | ⟨z7, rfl⟩ <;> rfl)) ?_
   refine oi (XS.aload X151.here hx rfl (hb hby d9_98) rfl rfl) ?_
   refine so (A := (T151.setTop (mkF m 100 #[vr lp, vr xn, vr lv, vr la, vr b1, vz, vr it4, vr y] [(.ref y)]))) ?_
   have f152 : own_par Z T149.heap y x t x2 t2 pa pb := Py'.keep K149 nin0 nin0 nin0 nin0 nin0
   obtain ⟨cq153, kq153, q153a, q153b, q153c⟩ := isOf hZ e151 f150
   obtain ⟨_, T153, Lc153, X153, hQ153, st153⟩ := own_c1 X151 <| X151.virtualBack hx (y := ym29) (z := ym29) hown (mvT hZ (hW 204 _ rfl)) (mvT hZ (hW 205 _ rfl)) (notFace_of_selects (args := #[]) (mvT hZ (hW 207 _ rfl))) (mvT hZ (hW 207 _ rfl)) (mvT hZ (hW 206 _ rfl)) (by decide) (backOf (W := 0) (rmN_name l Z a0 hw [] y x T149.heap n0 O149 f152.2.1) hZ (hW 208 _ rfl) (hW 149 _ rfl) (by decide) (by decide)) q153a q153c (g := (mkF m 100 #[vr lp, vr xn, vr lv, vr la, vr b1, vz, vr it4, vr y] [(.ref y)])) rfl (by rw [hml]; rfl) (Steps.refl _) (argsL := []) (rest := []) (lenOf pd_16 rfl) rfl (Nat.le_of_eq rfl) (hb hby d9_100) (fun _ _ => ⟨rfl, e151, (by decide : 8 + 0 ≤ _), (by decide : 50 + 0 ≤ _)⟩)
   obtain ⟨rfl, Nq153, eh153⟩ := hQ153
   have N153 := Fr.app N149 Nq153
   refine oo (fun tt_ kk_ => st153.trans kk_) ?_
   refine oi (XS.aloadN X153.here hx rfl (hb hby d9_103) rfl rfl) ?_
   refine so (A := (T153.setTop (mkF m 104 #[vr lp, vr xn, vr lv, vr la, vr b1, vz, vr it4, vr y] [(.ref xn), (.ref x)]))) ?_
   have f154 : own_st Z T149.heap xn tn cn := S_n.keep K149 nin0 nin0
   obtain ⟨cq155, kq155, q155a, q155b, q155c⟩ := isOf hZ eh153 f152.2.2.2.1.exa
   obtain ⟨_, T155, Lc155, X155, hQ155, st155⟩ := own_c1 X153 <| X153.virtualBack hx (y := ym30) (z := ym30) hown (mvT hZ (hW 209 _ rfl)) (mvT hZ (hW 210 _ rfl)) (notFace_of_selects (args := #[]) (mvT hZ (hW 212 _ rfl))) (mvT hZ (hW 212 _ rfl)) (mvT hZ (hW 211 _ rfl)) (by decide) (backOf (W := 0) (rmEq l Z a0 hw [] x t xn tn pa cn Gc T149.heap n0 O149 Oc Pc f152.2.2.2.1 f154 (by omega)) hZ (hW 213 _ rfl) (hW 29 _ rfl) (by decide) (by decide)) q155a q155c (g := (mkF m 104 #[vr lp, vr xn, vr lv, vr la, vr b1, vz, vr it4, vr y] [(.ref xn), (.ref x)])) rfl (by rw [hml]; rfl) (Steps.refl _) (argsL := [(.ref xn)]) (rest := []) (lenOf pd_17 rfl) rfl (Nat.le_of_eq rfl) (hb hby d9_104) (fun _ _ => ⟨rfl, eh153, (by decide : 8 + 0 ≤ _), (by decide : 50 + 0 ≤ _)⟩)
   obtain ⟨rfl, Nq155, eh155⟩ := hQ155
   have N155 := Fr.app N153 Nq155
   refine oo (fun tt_ kk_ => st155.trans kk_) ?_
   by_cases hb107_156 : (own_eqi pa cn) = (0 : Int32)
   ·refine oi (XS.ifNo X155.here hx rfl (hb hby d9_107) rfl ((if0 _ _).trans (teq hb107_156).2)) ?_
    refine so (A := (T155.setTop (mkF m 110 #[vr lp, vr xn, vr lv, vr la, vr b1, vz, vr it4, vr y] []))) ?_
    have nm_ := own_eqi0 hb107_156
    refine oi (XS.aload X155.here hx rfl (hb hby d9_110) rfl rfl) ?_
    refine oi (XS.aload X155.here hx rfl (hb hby d9_112) rfl rfl) ?_
    refine so (A := (T155.setTop (mkF m 114 #[vr lp, vr xn, vr lv, vr la, vr b1, vz, vr it4, vr y] [(.ref y), (.ref b1)]))) ?_
    have f157 : own_al Z T149.heap dq n0 b1 er kr xs mq := (AR.keep Kp149 (ninS (one (by omega)) nin0) (ninS (one (by omega)) nin0))
    have f159 : Exa Z T149.heap b1 "java/util/ArrayList" := (AR.1.keep Kp149)
    obtain ⟨cq158, kq158, q158a, q158b, q158c⟩ := isOf hZ eh155 f159
    obtain ⟨_, T158, Lc158, X158, hQ158, st158⟩ := own_c1 X155 <| X155.virtualBack hx (y := ym22) (z := ym22) hown (mvT hZ (hW 217 _ rfl)) (mvT hZ (hW 164 _ rfl)) (notFace_of_selects (args := #[]) (mvT hZ (hW 166 _ rfl))) (mvT hZ (hW 166 _ rfl)) (mvT hZ (hW 165 _ rfl)) (by decide) (backOf (W := 0) (rmAd l Z a0 hw [] b1 dq kd mr er kr xs y "com/example/practory/practory/server/SearchQuery$Parameter" mq T149.heap n0 O149 (by omega) S_d V_d E_d M_r l_d f157 (by omega) f150 (hW 187 _ rfl)) hZ (hW 167 _ rfl) (hW 3 _ rfl) (by decide) (by decide)) q158a q158c (g := (mkF m 114 #[vr lp, vr xn, vr lv, vr la, vr b1, vz, vr it4, vr y] [(.ref y), (.ref b1)])) rfl (by rw [hml]; rfl) (Steps.refl _) (argsL := [(.ref y)]) (rest := []) (lenOf pd_17 rfl) rfl (Nat.le_of_eq rfl) (hb hby d9_114) (fun _ _ => ⟨rfl, eh155, (by decide : 8 + 1 ≤ _), (by decide : 50 + 10 ≤ _)⟩)
    obtain ⟨e158, k158, z158, rfl, Nq158, gz158, hz158, Kp158, AL158⟩ := hQ158
    have N158 := Fr.app N155 Nq158
    refine oo (fun tt_ kk_ => st158.trans kk_) ?_
    have sz158 : T149.heap.size ≤ T158.heap.size := Kp158.1
    have O158 : Old Z n0 T158.heap := O149.keep Kp158 (allS (by omega) (allS (by omega) all0))
    have K158 : Keep h0 T158.heap [] := K149.trans Kp158 (allS (Or.inr (by omega)) (allS (Or.inr (by omega)) all0))
    have la158 := AL158.lt2
    refine oi (XS.pop X158.here hx rfl (hb hby d9_117) rfl rfl) ?_
    refine oi (XS.goto X158.here hx rfl (pc0 := 118) (pc' := 136) rfl (hb hby d9_118) (by decide) (by decide)) ?_
    refine oi (XS.goto X158.here hx rfl (pc0 := 136) (pc' := 76) rfl (hb hby d9_136) (by decide) (by decide)) ?_
    refine so (A := (T158.setTop (mkF m 76 #[vr lp, vr xn, vr lv, vr la, vr b1, vz, vr it4, vr y] []))) ?_
    have f160 : own_its Z T158.heap H5.size xs qs := ((IR.keep Kp149 (allS (by omega) all0)).keep Kp158 (allS (by omega) (allS (by omega) all0)))
    have f161 : own_par Z T158.heap y x t x2 t2 pa pb := (f152.keep Kp158 (ninS (one (by omega)) (ninS (one (by omega)) nin0)) (ninS (one (by omega)) (ninS (one (by omega)) nin0)) (ninS (one (by omega)) (ninS (one (by omega)) nin0)) (ninS (one (by omega)) (ninS (one (by omega)) nin0)) (ninS (one (by omega)) (ninS (one (by omega)) nin0)))
    have f162 : Exa Z T158.heap it4 "java/util/ArrayList$Itr" := (Ei149.keep Kp158)
    have f163 : Fld Z T158.heap it4 "java/util/ArrayList$Itr" "this$0" "Ljava/util/ArrayList;" (.ref lp) := (Ft149.keep Kp158 (ninS (one (by omega)) (ninS (one (by omega)) nin0)))
    have f164 : Fld Z T158.heap it4 "java/util/ArrayList$Itr" "cursor" "I" (.int (Int32.ofNat (i + 1))) := (Fc149.keep Kp158 (ninS (one (by omega)) (ninS (one (by omega)) nin0)))
    have f165 : Fld Z T158.heap it4 "java/util/ArrayList$Itr" "lastRet" "I" (.int (Int32.ofNat (i))) := (Fl149.keep Kp158 (ninS (one (by omega)) (ninS (one (by omega)) nin0)))
    have f166 : Fld Z T158.heap it4 "java/util/ArrayList$Itr" "expectedModCount" "I" (.int mp) := (Fx149.keep Kp158 (ninS (one (by omega)) (ninS (one (by omega)) nin0)))
    have f167 : own_al Z T158.heap dq n0 la ea ke zs ma := ((AA.keep Kp149 (ninS (one (by omega)) nin0) (ninS (one (by omega)) nin0)).keep Kp158 (ninS (one (by omega)) (ninS (one (by omega)) nin0)) (ninS (one (by omega)) (ninS (one (by omega)) nin0)))
    have f168 : own_its Z T158.heap H5.size zs (fs.map fun f => (cn, f)) := ((IA.keep Kp149 (allS (by omega) all0)).keep Kp158 (allS (by omega) (allS (by omega) all0)))
    exact seg_2_0 (i + 1) _ _ _ e158 k158 (xs ++ [y]) (qs ++ [(pa, pb)]) (mq + (1 : Int32)) _ _ (by omega) (X158.more (by decide) (by decide)) rfl N158 O158 K158 (by omega) f162 f163 f164 f165 f166 AL158 (own_its.app f160 ⟨(own_itb.up ⟨x, t, x2, t2, f161, bd1, bd2, bd3, bd4, bd5⟩ (by omega)), trivial⟩) f167 f168 (by omega) (by omega) (Or.inr ⟨_, rfl⟩) (by first | omega | (simp only [List.length_append, List.length_cons, List.length_nil]; omega)) (by rw [← hS, own_drop hp]; simp [own_go2, nm_])
   ·refine oi (XS.ifYes X155.here hx rfl (pc0 := 107) (pc' := 121) rfl (hb hby d9_107) rfl ((if0 _ _).trans (feq hb107_156).2) (by decide) (by decide)) ?_
    refine so (A := (T155.setTop (mkF m 121 #[vr lp, vr xn, vr lv, vr la, vr b1, vz, vr it4, vr y] []))) ?_
    have nm_ := own_eqi1 hb107_156
    refine oi (XS.iload X155.here hx rfl (hb hby d9_121) rfl) ?_
    have hb123_169 : (0 : Int32) = (0 : Int32) := by decide
    refine oi (XS.ifNo X155.here hx rfl (hb hby d9_123) rfl ((if0 _ _).trans (teq hb123_169).2)) ?_
    refine oi (XS.aload X155.here hx rfl (hb hby d9_126) rfl rfl) ?_
    refine oi (XS.aloadN X155.here hx rfl (hb hby d9_128) rfl rfl) ?_
    refine so (A := (T155.setTop (mkF m 129 #[vr lp, vr xn, vr lv, vr la, vr b1, vz, vr it4, vr y] [(.ref la), (.ref b1)]))) ?_
    have f170 : own_its Z T149.heap H5.size zs (fs.map fun f => (cn, f)) := (IA.keep Kp149 (allS (by omega) all0))
    have f171 : own_al Z T149.heap dq n0 la ea ke zs ma := (AA.keep Kp149 (ninS (one (by omega)) nin0) (ninS (one (by omega)) nin0))
    have f172 : own_al Z T149.heap dq n0 b1 er kr xs mq := (AR.keep Kp149 (ninS (one (by omega)) nin0) (ninS (one (by omega)) nin0))
    have f174 : Exa Z T149.heap b1 "java/util/ArrayList" := (AR.1.keep Kp149)
    obtain ⟨cq173, kq173, q173a, q173b, q173c⟩ := isOf hZ eh155 f174
    obtain ⟨_, T173, Lc173, X173, hQ173, st173⟩ := own_c1 X155 <| X155.virtualBack hx (y := ym13) (z := ym13) hown (mvT hZ (hW 95 _ rfl)) (mvT hZ (hW 96 _ rfl)) (notFace_of_selects (args := #[]) (mvT hZ (hW 98 _ rfl))) (mvT hZ (hW 98 _ rfl)) (mvT hZ (hW 97 _ rfl)) (by decide) (backOf (W := 0) (rmAA l Z a0 hw [] b1 la dq kd mr ea ke zs er kr xs ma mq T149.heap n0 O149 S_d V_d E_d M_r l_d f171 f172 (own_its.exa f170) (by omega) (by omega) (by omega) (fun _ => by omega) (by omega) hx0) hZ (hW 99 _ rfl) (hW 3 _ rfl) (by decide) (by decide)) q173a q173c (g := (mkF m 129 #[vr lp, vr xn, vr lv, vr la, vr b1, vz, vr it4, vr y] [(.ref la), (.ref b1)])) rfl (by rw [hml]; rfl) (Steps.refl _) (argsL := [(.ref la)]) (rest := []) (lenOf pd_14 rfl) rfl (Nat.le_of_eq rfl) (hb hby d9_129) (fun _ _ => ⟨rfl, eh155, (by decide : 8 + 2 ≤ _), (by decide : 50 + 20 ≤ _)⟩)
    obtain ⟨e173, k173, z173, r173, rfl, Nq173, gz173, hz173, Kp173, AL173⟩ := hQ173
    have N173 := Fr.app N155 Nq173
    refine oo (fun tt_ kk_ => st173.trans kk_) ?_
    have sz173 : T149.heap.size ≤ T173.heap.size := Kp173.1
    have O173 : Old Z n0 T173.heap := O149.keep Kp173 (allS (by omega) (allS (by omega) all0))
    have K173 : Keep h0 T173.heap [] := K149.trans Kp173 (allS (Or.inr (by omega)) (allS (Or.inr (by omega)) all0))
    have la173 := AL173.lt2
    refine oi (XS.pop X173.here hx rfl (hb hby d9_132) rfl rfl) ?_
    refine oi (XS.iconst X173.here hx rfl (hb hby d9_133)) ?_
    refine oi (XS.istore X173.here hx rfl (hb hby d9_134) rfl (l' := #[vr lp, vr xn, vr lv, vr la, vr b1, vi 1, vr it4, vr y]) rfl) ?_
    refine oi (XS.goto X173.here hx rfl (pc0 := 136) (pc' := 76) rfl (hb hby d9_136) (by decide) (by decide)) ?_
    refine so (A := (T173.setTop (mkF m 76 #[vr lp, vr xn, vr lv, vr la, vr b1, vi 1, vr it4, vr y] []))) ?_
    have f175 : own_its Z T173.heap H5.size xs qs := ((IR.keep Kp149 (allS (by omega) all0)).keep Kp173 (allS (by omega) (allS (by omega) all0)))
    have f176 : own_its Z T173.heap H5.size zs (fs.map fun f => (cn, f)) := (f170.keep Kp173 (allS (by omega) (allS (by omega) all0)))
    have f177 : Exa Z T173.heap it4 "java/util/ArrayList$Itr" := (Ei149.keep Kp173)
    have f178 : Fld Z T173.heap it4 "java/util/ArrayList$Itr" "this$0" "Ljava/util/ArrayList;" (.ref lp) := (Ft149.keep Kp173 (ninS (one (by omega)) (ninS (one (by omega)) nin0)))
    have f179 : Fld Z T173.heap it4 "java/util/ArrayList$Itr" "cursor" "I" (.int (Int32.ofNat (i + 1))) := (Fc149.keep Kp173 (ninS (one (by omega)) (ninS (one (by omega)) nin0)))
    have f180 : Fld Z T173.heap it4 "java/util/ArrayList$Itr" "lastRet" "I" (.int (Int32.ofNat (i))) := (Fl149.keep Kp173 (ninS (one (by omega)) (ninS (one (by omega)) nin0)))
    have f181 : Fld Z T173.heap it4 "java/util/ArrayList$Itr" "expectedModCount" "I" (.int mp) := (Fx149.keep Kp173 (ninS (one (by omega)) (ninS (one (by omega)) nin0)))
    have f182 : own_al Z T173.heap dq n0 la ea ke zs ma := (f171.keep Kp173 (ninS (one (by omega)) (ninS (one (by omega)) nin0)) (ninS (one (by omega)) (ninS (one (by omega)) nin0)))
    exact seg_2_1 (i + 1) _ _ _ e173 k173 (xs ++ zs) (qs ++ (fs.map fun f => (cn, f))) (mq + (1 : Int32)) _ _ (by omega) (X173.more (by decide) (by decide)) rfl N173 O173 K173 (by omega) f177 f178 f179 f180 f181 AL173 (own_its.app f175 f176) f182 f176 (by omega) (by omega) (Or.inr ⟨_, rfl⟩) (by first | omega | (simp only [List.length_append, List.length_cons, List.length_nil]; omega)) (by rw [← hS, own_drop hp]; simp [own_go2, nm_])
  have hL : ys.length = 0 ∨ ys.length = 1 ∨ ys.length = 2 ∨ ys.length = 3 := by omega
  have f183 : own_al Z T4.heap dq n0 b1 dq kd [] (0 : Int32) := (AL2.keep Kp4 nin0 nin0)
  have f184 : own_al Z T4.heap dq n0 la ea ke zs ma := (((AA5.ext E1).keep Kp2 (ninS (one (by omega)) nin0) (ninS (one (by omega)) nin0)).keep Kp4 nin0 nin0)
  have f185 : own_its Z T4.heap H5.size zs (fs.map fun f => (cn, f)) := (((IA5.ext E1).keep Kp2 (allS (by omega) all0)).keep Kp4 all0)
  rcases hL with hL | hL | hL | hL
  ·exact seg_0_0 0 _ _ _ dq kd [] [] (0 : Int32) _ _ (by omega) (X4.more (by decide) (by decide)) rfl N4 O4 K4 (by omega) Ei4 Ft4 Fc4 Fl4 Fx4 f183 trivial f184 f185 (Or.inl rfl) (by omega) (Or.inl rfl) (by simp) rfl
  ·exact seg_1_0 0 _ _ _ dq kd [] [] (0 : Int32) _ _ (by omega) (X4.more (by decide) (by decide)) rfl N4 O4 K4 (by omega) Ei4 Ft4 Fc4 Fl4 Fx4 f183 trivial f184 f185 (Or.inl rfl) (by omega) (Or.inl rfl) (by simp) rfl
  ·exact seg_2_0 0 _ _ _ dq kd [] [] (0 : Int32) _ _ (by omega) (X4.more (by decide) (by decide)) rfl N4 O4 K4 (by omega) Ei4 Ft4 Fc4 Fl4 Fx4 f183 trivial f184 f185 (Or.inl rfl) (by omega) (Or.inl rfl) (by simp) rfl
  ·exact seg_3_0 0 _ _ _ dq kd [] [] (0 : Int32) _ _ (by omega) (X4.more (by decide) (by decide)) rfl N4 O4 K4 (by omega) Ei4 Ft4 Fc4 Fl4 Fx4 f183 trivial f184 f185 (Or.inl rfl) (by omega) (Or.inl rfl) (by simp) rfl
 rcases own_sts2 SV hv2 with ⟨rfl, rfl⟩ | ⟨v0, f0, g0, rfl, rfl, S_0⟩ | ⟨v0, f0, g0, v1, f1, g1, rfl, rfl, S_0, S_1⟩
 ·refine so (A := (s₁.setTop (mkF m 0 #[vr lp, vr xn, vr lv, uu, uu, uu, uu, uu] []))) ?_
  obtain ⟨T186, h186, X186, e186, E186, A186, D186, -, st186⟩ := newO X0 hx hZ hown (hW 55 _ rfl) (hW 2 _ rfl) (hW 3 _ rfl) e0 (g := (mkF m 0 #[vr lp, vr xn, vr lv, uu, uu, uu, uu, uu] [])) rfl (hb hby d9_0) (by decide) (by decide)
  obtain ⟨b186, g186⟩ : ∃ z, z = h0.size := ⟨_, rfl⟩
  rw [← g186] at A186 D186 st186
  refine oo st186 ?_
  have lt186 := olt A186.lt
  have sz186 : h0.size ≤ h186.size := E186.1
  have O186 : Old Z n0 h186 := XO0.ext E186
  have z186 : n0 ≤ b186 := by have := XO0.1 ▸ XO0.2.1; omega
  have K186 : Keep h0 h186 [] := K0_.ext E186
  have F186_modCount : Fld Z h186 b186 "java/util/AbstractList" "modCount" "I" (.int 0) := D186 (Or.inl (hW 23 _ rfl)) (ty := .int) pf_2
  have F186_elementData : Fld Z h186 b186 "java/util/ArrayList" "elementData" "[Ljava/lang/Object;" .null := D186 (Or.inl (hW 26 _ rfl)) (ty := (.array (.object "java/lang/Object"))) pf_3
  have F186_size : Fld Z h186 b186 "java/util/ArrayList" "size" "I" (.int 0) := D186 (Or.inl (hW 94 _ rfl)) (ty := .int) pf_2
  refine oi (XS.dup X186.here hx rfl (hb hby d9_3) rfl rfl) ?_
  refine so (A := (T186.setTop (mkF m 4 #[vr lp, vr xn, vr lv, uu, uu, uu, uu, uu] [(.ref b186), (.ref b186)]))) ?_
  obtain ⟨_, T187, Lc187, X187, hQ187, st187⟩ := own_c1 X186 <| X186.specialBack hx (y := ym1) rfl hown (mvT hZ (hW 56 _ rfl)) (mvT hZ (hW 5 _ rfl)) (mvT hZ (hW 6 _ rfl)) (by decide) (backOf (W := 1) (rmLI l Z a0 hw [] b186 dq kd mr h186 n0 O186 (by omega) S_d V_d E_d M_r l_d A186 F186_elementData F186_size F186_modCount) hZ (hW 6 _ rfl) (hW 3 _ rfl) (by decide) (by decide)) (g := (mkF m 4 #[vr lp, vr xn, vr lv, uu, uu, uu, uu, uu] [(.ref b186), (.ref b186)])) rfl (by rw [hml]; rfl) (Steps.refl _) (a := b186) (argsL := []) (rest := [(.ref b186)]) (lenOf pd_3 rfl) rfl (Nat.le_of_eq rfl) (hb hby d9_4) (fun _ _ => ⟨rfl, e186, (by decide : 1 + 0 ≤ _), (by decide : 3 + 0 ≤ _)⟩)
  obtain ⟨rfl, Nq187, Kp187, AL187⟩ := hQ187
  have N187 := Fr.app N0 Nq187
  refine oo (fun tt_ kk_ => st187.trans kk_) ?_
  have sz187 : h186.size ≤ T187.heap.size := Kp187.1
  have O187 : Old Z n0 T187.heap := O186.keep Kp187 (allS (by omega) all0)
  have K187 : Keep h0 T187.heap [] := K186.trans Kp187 (allS (Or.inr (by omega)) all0)
  refine oi (XS.astoreN X187.here hx rfl (hb hby d9_7) rfl rfl (l' := #[vr lp, vr xn, vr lv, vr b186, uu, uu, uu, uu]) rfl) ?_
  refine oi (XS.aloadN X187.here hx rfl (hb hby d9_8) rfl rfl) ?_
  refine so (A := (T187.setTop (mkF m 9 #[vr lp, vr xn, vr lv, vr b186, uu, uu, uu, uu] [(.ref lv)]))) ?_
  have f188 : own_al Z T187.heap dq n0 lv ev kv [] mv := AV.keep K187 nin0 nin0
  obtain ⟨cq189, kq189, q189a, q189b, q189c⟩ := isOf hZ rfl f188.1
  obtain ⟨_, T189, Lc189, X189, hQ189, st189⟩ := own_c1 X187 <| X187.interfaceBack hx (xi := ym9246) (y := ym10) hown (mvT hZ (hW 57 _ rfl)) (mvT hZ (hW 58 _ rfl)) (mvT hZ (hW 59 _ rfl)) (mvT hZ (hW 60 _ rfl)) (mvT hZ (hW 61 _ rfl)) (mvT hZ (hW 62 _ rfl)) (mvT hZ (hW 63 _ rfl)) (mvT hZ (hW 64 _ rfl)) (by decide) (backOf (W := 0) (rmIt l Z a0 hw [] lv mv T187.heap n0 O187 f188.1 f188.2.2.2.1) hZ (hW 65 _ rfl) (hW 3 _ rfl) (by decide) (by decide)) q189a q189b q189c (g := (mkF m 9 #[vr lp, vr xn, vr lv, vr b186, uu, uu, uu, uu] [(.ref lv)])) rfl (by rw [hml]; rfl) (Steps.refl _) (argsL := []) (rest := []) (lenOf pd_12 rfl) rfl (Nat.le_of_eq rfl) (hb hby d9_9) (fun _ _ => ⟨rfl, rfl, (by decide : 1 + 1 ≤ _), (by decide : 3 + 4 ≤ _)⟩)
  obtain ⟨it189, rfl, Nq189, Kp189, gi189, li189, Ei189, Ft189, Fc189, Fl189, Fx189⟩ := hQ189
  have N189 := Fr.app N187 Nq189
  refine oo (fun tt_ kk_ => st189.trans kk_) ?_
  have sz189 : T187.heap.size ≤ T189.heap.size := Kp189.1
  have O189 : Old Z n0 T189.heap := O187.keep Kp189 all0
  have K189 : Keep h0 T189.heap [] := K187.trans Kp189 all0
  refine oi (XS.astore X189.here hx rfl (hb hby d9_14) rfl rfl (l' := #[vr lp, vr xn, vr lv, vr b186, vr it189, uu, uu, uu]) rfl) ?_
  refine oi (XS.aload X189.here hx rfl (hb hby d9_16) rfl rfl) ?_
  refine so (A := (T189.setTop (mkF m 18 #[vr lp, vr xn, vr lv, vr b186, vr it189, uu, uu, uu] [(.ref it189)]))) ?_
  have f190 : own_al Z T189.heap dq n0 lv ev kv [] mv := (f188.keep Kp189 nin0 nin0)
  obtain ⟨cq191, kq191, q191a, q191b, q191c⟩ := isOf hZ rfl Ei189
  obtain ⟨_, T191, Lc191, X191, hQ191, st191⟩ := own_c1 X189 <| X189.interfaceBack hx (xi := ym7688) (y := ym12) hown (mvT hZ (hW 82 _ rfl)) (mvT hZ (hW 83 _ rfl)) (mvT hZ (hW 84 _ rfl)) (mvT hZ (hW 85 _ rfl)) (mvT hZ (hW 86 _ rfl)) (mvT hZ (hW 87 _ rfl)) (mvT hZ (hW 88 _ rfl)) (mvT hZ (hW 89 _ rfl)) (by decide) (backOf (W := 0) (rmHN0 l Z a0 hw [] it189 lv (Int32.ofNat (0)) (Int32.ofNat [].length) T189.heap n0 O189 Ft189 Fc189 Ei189 f190.1 f190.2.2.1 rfl) hZ (hW 90 _ rfl) (hW 68 _ rfl) (by decide) (by decide)) q191a q191b q191c (g := (mkF m 18 #[vr lp, vr xn, vr lv, vr b186, vr it189, uu, uu, uu] [(.ref it189)])) rfl (by rw [hml]; rfl) (Steps.refl _) (argsL := []) (rest := []) (lenOf pd_13 rfl) rfl (Nat.le_of_eq rfl) (hb hby d9_18) (fun _ _ => ⟨rfl, rfl, (by decide : 2 + 0 ≤ _), (by decide : 7 + 0 ≤ _)⟩)
  obtain ⟨rfl, Nq191, eh191⟩ := hQ191
  have N191 := Fr.app N189 Nq191
  refine oo (fun tt_ kk_ => st191.trans kk_) ?_
  have hb23_192 : (0 : Int32) = (0 : Int32) := by decide
  refine oi (XS.ifYes X191.here hx rfl (pc0 := 23) (pc' := 56) rfl (hb hby d9_23) rfl ((if0 _ _).trans (teq hb23_192).1) (by decide) (by decide)) ?_
  refine so (A := (T191.setTop (mkF m 56 #[vr lp, vr xn, vr lv, vr b186, vr it189, uu, uu, uu] []))) ?_
  have f193 : own_al Z T189.heap dq n0 b186 dq kd [] (0 : Int32) := (AL187.keep Kp189 nin0 nin0)
  exact J56 _ _ _ b186 dq kd [] (0 : Int32) _ _ (X191.more (by decide) (by decide)) eh191 N191 O189 K189 (by omega) (by omega) f193 trivial (fun _ => by omega) (by omega) (Or.inl rfl)
 ·have ltS0 := S_0.lts
  refine so (A := (s₁.setTop (mkF m 0 #[vr lp, vr xn, vr lv, uu, uu, uu, uu, uu] []))) ?_
  obtain ⟨T194, h194, X194, e194, E194, A194, D194, -, st194⟩ := newO X0 hx hZ hown (hW 55 _ rfl) (hW 2 _ rfl) (hW 3 _ rfl) e0 (g := (mkF m 0 #[vr lp, vr xn, vr lv, uu, uu, uu, uu, uu] [])) rfl (hb hby d9_0) (by decide) (by decide)
  obtain ⟨b194, g194⟩ : ∃ z, z = h0.size := ⟨_, rfl⟩
  rw [← g194] at A194 D194 st194
  refine oo st194 ?_
  have lt194 := olt A194.lt
  have sz194 : h0.size ≤ h194.size := E194.1
  have O194 : Old Z n0 h194 := XO0.ext E194
  have z194 : n0 ≤ b194 := by have := XO0.1 ▸ XO0.2.1; omega
  have K194 : Keep h0 h194 [] := K0_.ext E194
  have F194_modCount : Fld Z h194 b194 "java/util/AbstractList" "modCount" "I" (.int 0) := D194 (Or.inl (hW 23 _ rfl)) (ty := .int) pf_2
  have F194_elementData : Fld Z h194 b194 "java/util/ArrayList" "elementData" "[Ljava/lang/Object;" .null := D194 (Or.inl (hW 26 _ rfl)) (ty := (.array (.object "java/lang/Object"))) pf_3
  have F194_size : Fld Z h194 b194 "java/util/ArrayList" "size" "I" (.int 0) := D194 (Or.inl (hW 94 _ rfl)) (ty := .int) pf_2
  refine oi (XS.dup X194.here hx rfl (hb hby d9_3) rfl rfl) ?_
  refine so (A := (T194.setTop (mkF m 4 #[vr lp, vr xn, vr lv, uu, uu, uu, uu, uu] [(.ref b194), (.ref b194)]))) ?_
  obtain ⟨_, T195, Lc195, X195, hQ195, st195⟩ := own_c1 X194 <| X194.specialBack hx (y := ym1) rfl hown (mvT hZ (hW 56 _ rfl)) (mvT hZ (hW 5 _ rfl)) (mvT hZ (hW 6 _ rfl)) (by decide) (backOf (W := 1) (rmLI l Z a0 hw [] b194 dq kd mr h194 n0 O194 (by omega) S_d V_d E_d M_r l_d A194 F194_elementData F194_size F194_modCount) hZ (hW 6 _ rfl) (hW 3 _ rfl) (by decide) (by decide)) (g := (mkF m 4 #[vr lp, vr xn, vr lv, uu, uu, uu, uu, uu] [(.ref b194), (.ref b194)])) rfl (by rw [hml]; rfl) (Steps.refl _) (a := b194) (argsL := []) (rest := [(.ref b194)]) (lenOf pd_3 rfl) rfl (Nat.le_of_eq rfl) (hb hby d9_4) (fun _ _ => ⟨rfl, e194, (by decide : 1 + 0 ≤ _), (by decide : 3 + 0 ≤ _)⟩)
  obtain ⟨rfl, Nq195, Kp195, AL195⟩ := hQ195
  have N195 := Fr.app N0 Nq195
  refine oo (fun tt_ kk_ => st195.trans kk_) ?_
  have sz195 : h194.size ≤ T195.heap.size := Kp195.1
  have O195 : Old Z n0 T195.heap := O194.keep Kp195 (allS (by omega) all0)
  have K195 : Keep h0 T195.heap [] := K194.trans Kp195 (allS (Or.inr (by omega)) all0)
  refine oi (XS.astoreN X195.here hx rfl (hb hby d9_7) rfl rfl (l' := #[vr lp, vr xn, vr lv, vr b194, uu, uu, uu, uu]) rfl) ?_
  refine oi (XS.aloadN X195.here hx rfl (hb hby d9_8) rfl rfl) ?_
  refine so (A := (T195.setTop (mkF m 9 #[vr lp, vr xn, vr lv, vr b194, uu, uu, uu, uu] [(.ref lv)]))) ?_
  have f196 : own_al Z T195.heap dq n0 lv ev kv [v0] mv := AV.keep K195 nin0 nin0
  obtain ⟨cq197, kq197, q197a, q197b, q197c⟩ := isOf hZ rfl f196.1
  obtain ⟨_, T197, Lc197, X197, hQ197, st197⟩ := own_c1 X195 <| X195.interfaceBack hx (xi := ym9246) (y := ym10) hown (mvT hZ (hW 57 _ rfl)) (mvT hZ (hW 58 _ rfl)) (mvT hZ (hW 59 _ rfl)) (mvT hZ (hW 60 _ rfl)) (mvT hZ (hW 61 _ rfl)) (mvT hZ (hW 62 _ rfl)) (mvT hZ (hW 63 _ rfl)) (mvT hZ (hW 64 _ rfl)) (by decide) (backOf (W := 0) (rmIt l Z a0 hw [] lv mv T195.heap n0 O195 f196.1 f196.2.2.2.1) hZ (hW 65 _ rfl) (hW 3 _ rfl) (by decide) (by decide)) q197a q197b q197c (g := (mkF m 9 #[vr lp, vr xn, vr lv, vr b194, uu, uu, uu, uu] [(.ref lv)])) rfl (by rw [hml]; rfl) (Steps.refl _) (argsL := []) (rest := []) (lenOf pd_12 rfl) rfl (Nat.le_of_eq rfl) (hb hby d9_9) (fun _ _ => ⟨rfl, rfl, (by decide : 1 + 1 ≤ _), (by decide : 3 + 4 ≤ _)⟩)
  obtain ⟨it197, rfl, Nq197, Kp197, gi197, li197, Ei197, Ft197, Fc197, Fl197, Fx197⟩ := hQ197
  have N197 := Fr.app N195 Nq197
  refine oo (fun tt_ kk_ => st197.trans kk_) ?_
  have sz197 : T195.heap.size ≤ T197.heap.size := Kp197.1
  have O197 : Old Z n0 T197.heap := O195.keep Kp197 all0
  have K197 : Keep h0 T197.heap [] := K195.trans Kp197 all0
  refine oi (XS.astore X197.here hx rfl (hb hby d9_14) rfl rfl (l' := #[vr lp, vr xn, vr lv, vr b194, vr it197, uu, uu, uu]) rfl) ?_
  refine oi (XS.aload X197.here hx rfl (hb hby d9_16) rfl rfl) ?_
  refine so (A := (T197.setTop (mkF m 18 #[vr lp, vr xn, vr lv, vr b194, vr it197, uu, uu, uu] [(.ref it197)]))) ?_
  have f198 : own_al Z T197.heap dq n0 lv ev kv [v0] mv := (f196.keep Kp197 nin0 nin0)
  obtain ⟨cq199, kq199, q199a, q199b, q199c⟩ := isOf hZ rfl Ei197
  obtain ⟨_, T199, Lc199, X199, hQ199, st199⟩ := own_c1 X197 <| X197.interfaceBack hx (xi := ym7688) (y := ym12) hown (mvT hZ (hW 82 _ rfl)) (mvT hZ (hW 83 _ rfl)) (mvT hZ (hW 84 _ rfl)) (mvT hZ (hW 85 _ rfl)) (mvT hZ (hW 86 _ rfl)) (mvT hZ (hW 87 _ rfl)) (mvT hZ (hW 88 _ rfl)) (mvT hZ (hW 89 _ rfl)) (by decide) (backOf (W := 0) (rmHN1 l Z a0 hw [] it197 lv (Int32.ofNat (0)) (Int32.ofNat [v0].length) T197.heap n0 O197 Ft197 Fc197 Ei197 f198.1 f198.2.2.1 (fun q => by have q2 := (own_neq (by omega) (by simp)).mp q; simp at q2)) hZ (hW 90 _ rfl) (hW 68 _ rfl) (by decide) (by decide)) q199a q199b q199c (g := (mkF m 18 #[vr lp, vr xn, vr lv, vr b194, vr it197, uu, uu, uu] [(.ref it197)])) rfl (by rw [hml]; rfl) (Steps.refl _) (argsL := []) (rest := []) (lenOf pd_13 rfl) rfl (Nat.le_of_eq rfl) (hb hby d9_18) (fun _ _ => ⟨rfl, rfl, (by decide : 2 + 0 ≤ _), (by decide : 7 + 0 ≤ _)⟩)
  obtain ⟨rfl, Nq199, eh199⟩ := hQ199
  have N199 := Fr.app N197 Nq199
  refine oo (fun tt_ kk_ => st199.trans kk_) ?_
  have hb23_200 : ¬ ((1 : Int32) = (0 : Int32)) := by decide
  refine oi (XS.ifNo X199.here hx rfl (hb hby d9_23) rfl ((if0 _ _).trans (feq hb23_200).1)) ?_
  refine oi (XS.aload X199.here hx rfl (hb hby d9_26) rfl rfl) ?_
  refine so (A := (T199.setTop (mkF m 28 #[vr lp, vr xn, vr lv, vr b194, vr it197, uu, uu, uu] [(.ref it197)]))) ?_
  obtain ⟨cq201, kq201, q201a, q201b, q201c⟩ := isOf hZ eh199 Ei197
  obtain ⟨_, T201, Lc201, X201, hQ201, st201⟩ := own_c1 X199 <| X199.interfaceBack hx (xi := ym8978) (y := ym27) hown (mvT hZ (hW 188 _ rfl)) (mvT hZ (hW 189 _ rfl)) (mvT hZ (hW 190 _ rfl)) (mvT hZ (hW 191 _ rfl)) (mvT hZ (hW 192 _ rfl)) (mvT hZ (hW 193 _ rfl)) (mvT hZ (hW 194 _ rfl)) (mvT hZ (hW 89 _ rfl)) (by decide) (backOf (W := 0) (rmNx l Z a0 hw [] dq it197 lv ev kv [v0] (0) v0 mv (-1 : Int32) T197.heap n0 O197 (by omega) (by omega) (by omega) Ei197 Ft197 Fc197 Fl197 Fx197 f198 (by simp) (by simp) rfl) hZ (hW 195 _ rfl) (hW 68 _ rfl) (by decide) (by decide)) q201a q201b q201c (g := (mkF m 28 #[vr lp, vr xn, vr lv, vr b194, vr it197, uu, uu, uu] [(.ref it197)])) rfl (by rw [hml]; rfl) (Steps.refl _) (argsL := []) (rest := []) (lenOf pd_15 rfl) rfl (Nat.le_of_eq rfl) (hb hby d9_28) (fun _ _ => ⟨rfl, eh199, (by decide : 2 + 0 ≤ _), (by decide : 7 + 0 ≤ _)⟩)
  obtain ⟨rfl, Nq201, Kp201, Ei201, Ft201, Fc201, Fl201, Fx201⟩ := hQ201
  have N201 := Fr.app N199 Nq201
  refine oo (fun tt_ kk_ => st201.trans kk_) ?_
  have sz201 : T197.heap.size ≤ T201.heap.size := Kp201.1
  have O201 : Old Z n0 T201.heap := O197.keep Kp201 (allS (by omega) all0)
  have K201 : Keep h0 T201.heap [] := K197.trans Kp201 (allS (Or.inr (by omega)) all0)
  have f202 : Exa Z T201.heap v0 "java/lang/String" := S_0.exa.keep K201
  obtain ⟨T203, X203, e203, st203⟩ := castY X201 hx hZ hown (hW 247 _ rfl) rfl (Ins.self f202) (g := (mkF m 33 #[vr lp, vr xn, vr lv, vr b194, vr it197, uu, uu, uu] [(.ref v0)])) rfl rfl (hb hby d9_33)
  refine oo st203 ?_
  refine oi (XS.astore X203.here hx rfl (hb hby d9_36) rfl rfl (l' := #[vr lp, vr xn, vr lv, vr b194, vr it197, vr v0, uu, uu]) rfl) ?_
  refine oi (XS.aloadN X203.here hx rfl (hb hby d9_38) rfl rfl) ?_
  obtain ⟨T204, h204, X204, e204, E204, A204, D204, -, st204⟩ := newO X203 hx hZ hown (hW 202 _ rfl) (hW 148 _ rfl) (hW 149 _ rfl) e203 (g := (mkF m 39 #[vr lp, vr xn, vr lv, vr b194, vr it197, vr v0, uu, uu] [(.ref b194)])) rfl (hb hby d9_39) (by decide) (by decide)
  obtain ⟨b204, g204⟩ : ∃ z, z = T201.heap.size := ⟨_, rfl⟩
  rw [← g204] at A204 D204 st204
  refine oo st204 ?_
  have lt204 := olt A204.lt
  have sz204 : T201.heap.size ≤ h204.size := E204.1
  have O204 : Old Z n0 h204 := O201.ext E204
  have z204 : n0 ≤ b204 := by have := O201.1 ▸ O201.2.1; omega
  have K204 : Keep h0 h204 [] := K201.ext E204
  have F204_name : Fld Z h204 b204 "com/example/practory/practory/server/SearchQuery$Parameter" "name" "Ljava/lang/String;" .null := D204 (Or.inr (hW 160 _ rfl)) (ty := (.object "java/lang/String")) pf_5
  have F204_value : Fld Z h204 b204 "com/example/practory/practory/server/SearchQuery$Parameter" "value" "Ljava/lang/String;" .null := D204 (Or.inr (hW 162 _ rfl)) (ty := (.object "java/lang/String")) pf_5
  refine oi (XS.dup X204.here hx rfl (hb hby d9_42) rfl rfl) ?_
  refine oi (XS.aloadN X204.here hx rfl (hb hby d9_43) rfl rfl) ?_
  refine oi (XS.aload X204.here hx rfl (hb hby d9_44) rfl rfl) ?_
  refine so (A := (T204.setTop (mkF m 46 #[vr lp, vr xn, vr lv, vr b194, vr it197, vr v0, uu, uu] [(.ref v0), (.ref xn), (.ref b204), (.ref b204), (.ref b194)]))) ?_
  obtain ⟨_, T205, Lc205, X205, hQ205, st205⟩ := own_c1 X204 <| X204.specialBack hx (y := ym20) rfl hown (mvT hZ (hW 248 _ rfl)) (mvT hZ (hW 151 _ rfl)) (mvT hZ (hW 152 _ rfl)) (by decide) (backOf (W := 2) (rmPI l Z a0 hw [] b204 xn v0 h204 n0 O204 (by omega) A204 F204_name F204_value) hZ (hW 152 _ rfl) (hW 149 _ rfl) (by decide) (by decide)) (g := (mkF m 46 #[vr lp, vr xn, vr lv, vr b194, vr it197, vr v0, uu, uu] [(.ref v0), (.ref xn), (.ref b204), (.ref b204), (.ref b194)])) rfl (by rw [hml]; rfl) (Steps.refl _) (a := b204) (argsL := [(.ref xn), (.ref v0)]) (rest := [(.ref b204), (.ref b194)]) (lenOf pd_18 rfl) rfl (Nat.le_of_eq rfl) (hb hby d9_46) (fun _ _ => ⟨rfl, e204, (by decide : 3 + 0 ≤ _), (by decide : 9 + 0 ≤ _)⟩)
  obtain ⟨rfl, Nq205, Kp205, Ey205, Fa205, Fb205⟩ := hQ205
  have N205 := Fr.app N201 Nq205
  refine oo (fun tt_ kk_ => st205.trans kk_) ?_
  have sz205 : h204.size ≤ T205.heap.size := Kp205.1
  have O205 : Old Z n0 T205.heap := O204.keep Kp205 (allS (by omega) all0)
  have K205 : Keep h0 T205.heap [] := K204.trans Kp205 (allS (Or.inr (by omega)) all0)
  have f206 : own_st Z T205.heap xn tn cn := S_n.keep K205 nin0 nin0
  have f207 : own_st Z T205.heap v0 g0 f0 := S_0.keep K205 nin0 nin0
  have Pq205 : own_par Z T205.heap b204 xn tn v0 g0 cn f0 := ⟨Ey205, Fa205, Fb205, f206, f207⟩
  refine so (A := (T205.setTop (mkF m 49 #[vr lp, vr xn, vr lv, vr b194, vr it197, vr v0, uu, uu] [(.ref b204), (.ref b194)]))) ?_
  have f208 : own_al Z T205.heap dq n0 b194 dq kd [] (0 : Int32) := ((((AL195.keep Kp197 nin0 nin0).keep Kp201 (ninS (one (by omega)) nin0) (ninS (one (by omega)) nin0)).ext E204).keep Kp205 (ninS (one (by omega)) nin0) (ninS (one (by omega)) nin0))
  have f210 : Exa Z T205.heap b194 "java/util/ArrayList" := ((((AL195.1.keep Kp197).keep Kp201).ext E204).keep Kp205)
  obtain ⟨cq209, kq209, q209a, q209b, q209c⟩ := isOf hZ rfl f210
  obtain ⟨_, T209, Lc209, X209, hQ209, st209⟩ := own_c1 X205 <| X205.virtualBack hx (y := ym22) (z := ym22) hown (mvT hZ (hW 217 _ rfl)) (mvT hZ (hW 164 _ rfl)) (notFace_of_selects (args := #[]) (mvT hZ (hW 166 _ rfl))) (mvT hZ (hW 166 _ rfl)) (mvT hZ (hW 165 _ rfl)) (by decide) (backOf (W := 0) (rmAd l Z a0 hw [] b194 dq kd mr dq kd [] b204 "com/example/practory/practory/server/SearchQuery$Parameter" (0 : Int32) T205.heap n0 O205 (by omega) S_d V_d E_d M_r l_d f208 (by simp) Ey205 (hW 187 _ rfl)) hZ (hW 167 _ rfl) (hW 3 _ rfl) (by decide) (by decide)) q209a q209c (g := (mkF m 49 #[vr lp, vr xn, vr lv, vr b194, vr it197, vr v0, uu, uu] [(.ref b204), (.ref b194)])) rfl (by rw [hml]; rfl) (Steps.refl _) (argsL := [(.ref b204)]) (rest := []) (lenOf pd_17 rfl) rfl (Nat.le_of_eq rfl) (hb hby d9_49) (fun _ _ => ⟨rfl, rfl, (by decide : 3 + 1 ≤ _), (by decide : 9 + 10 ≤ _)⟩)
  obtain ⟨e209, k209, z209, rfl, Nq209, gz209, hz209, Kp209, AL209⟩ := hQ209
  have N209 := Fr.app N205 Nq209
  refine oo (fun tt_ kk_ => st209.trans kk_) ?_
  have sz209 : T205.heap.size ≤ T209.heap.size := Kp209.1
  have O209 : Old Z n0 T209.heap := O205.keep Kp209 (allS (by omega) (allS (by omega) all0))
  have K209 : Keep h0 T209.heap [] := K205.trans Kp209 (allS (Or.inr (by omega)) (allS (Or.inr (by omega)) all0))
  obtain ⟨hz1209, he209⟩ : z209 = b194 ∧ T205.heap.size ≤ e209 := hz209.elim (fun q => ⟨q.1, q.2.2⟩) (fun q => absurd l_d (Nat.not_lt_of_le q.2.1))
  clear hz209
  have la209 := AL209.lt2
  have ga209 : n0 ≤ e209 := by omega
  refine oi (XS.pop X209.here hx rfl (hb hby d9_52) rfl rfl) ?_
  refine oi (XS.goto X209.here hx rfl (pc0 := 53) (pc' := 16) rfl (hb hby d9_53) (by decide) (by decide)) ?_
  refine oi (XS.aload X209.here hx rfl (hb hby d9_16) rfl rfl) ?_
  refine so (A := (T209.setTop (mkF m 18 #[vr lp, vr xn, vr lv, vr b194, vr it197, vr v0, uu, uu] [(.ref it197)]))) ?_
  have f211 : own_al Z T209.heap dq n0 lv ev kv [v0] mv := ((((f198.keep Kp201 (ninS (one (by omega)) nin0) (ninS (one (by omega)) nin0)).ext E204).keep Kp205 (ninS (one (by omega)) nin0) (ninS (one (by omega)) nin0)).keep Kp209 (ninS (one (by omega)) (ninS (one (by omega)) nin0)) (ninS (one (by omega)) (ninS (one (by omega)) nin0)))
  have f212 : Fld Z T209.heap it197 "java/util/ArrayList$Itr" "this$0" "Ljava/util/ArrayList;" (.ref lv) := (((Ft201.ext E204).keep Kp205 (ninS (one (by omega)) nin0)).keep Kp209 (ninS (one (by omega)) (ninS (one (by omega)) nin0)))
  have f213 : Fld Z T209.heap it197 "java/util/ArrayList$Itr" "cursor" "I" (.int (Int32.ofNat (1))) := (((Fc201.ext E204).keep Kp205 (ninS (one (by omega)) nin0)).keep Kp209 (ninS (one (by omega)) (ninS (one (by omega)) nin0)))
  have f214 : Exa Z T209.heap it197 "java/util/ArrayList$Itr" := (((Ei201.ext E204).keep Kp205).keep Kp209)
  obtain ⟨cq215, kq215, q215a, q215b, q215c⟩ := isOf hZ rfl f214
  obtain ⟨_, T215, Lc215, X215, hQ215, st215⟩ := own_c1 X209 <| X209.interfaceBack hx (xi := ym7688) (y := ym12) hown (mvT hZ (hW 82 _ rfl)) (mvT hZ (hW 83 _ rfl)) (mvT hZ (hW 84 _ rfl)) (mvT hZ (hW 85 _ rfl)) (mvT hZ (hW 86 _ rfl)) (mvT hZ (hW 87 _ rfl)) (mvT hZ (hW 88 _ rfl)) (mvT hZ (hW 89 _ rfl)) (by decide) (backOf (W := 0) (rmHN0 l Z a0 hw [] it197 lv (Int32.ofNat (1)) (Int32.ofNat [v0].length) T209.heap n0 O209 f212 f213 f214 f211.1 f211.2.2.1 rfl) hZ (hW 90 _ rfl) (hW 68 _ rfl) (by decide) (by decide)) q215a q215b q215c (g := (mkF m 18 #[vr lp, vr xn, vr lv, vr b194, vr it197, vr v0, uu, uu] [(.ref it197)])) rfl (by rw [hml]; rfl) (Steps.refl _) (argsL := []) (rest := []) (lenOf pd_13 rfl) rfl (Nat.le_of_eq rfl) (hb hby d9_18) (fun _ _ => ⟨rfl, rfl, (by decide : 4 + 0 ≤ _), (by decide : 19 + 0 ≤ _)⟩)
  obtain ⟨rfl, Nq215, eh215⟩ := hQ215
  have N215 := Fr.app N209 Nq215
  refine oo (fun tt_ kk_ => st215.trans kk_) ?_
  have hb23_216 : (0 : Int32) = (0 : Int32) := by decide
  refine oi (XS.ifYes X215.here hx rfl (pc0 := 23) (pc' := 56) rfl (hb hby d9_23) rfl ((if0 _ _).trans (teq hb23_216).1) (by decide) (by decide)) ?_
  refine so (A := (T215.setTop (mkF m 56 #[vr lp, vr xn, vr lv, vr b194, vr it197, vr v0, uu, uu] []))) ?_
  have f217 : own_par Z T209.heap b204 xn tn v0 g0 cn f0 := (Pq205.keep Kp209 (ninS (one (by omega)) (ninS (one (by omega)) nin0)) (ninS (one (by omega)) (ninS (one (by omega)) nin0)) (ninS (one (by omega)) (ninS (one (by omega)) nin0)) (ninS (one (by omega)) (ninS (one (by omega)) nin0)) (ninS (one (by omega)) (ninS (one (by omega)) nin0)))
  exact J56 _ _ _ b194 e209 k209 [b204] ((0 : Int32) + (1 : Int32)) _ _ (X215.more (by decide) (by decide)) eh215 N215 O209 K209 (by omega) (by omega) AL209 ⟨own_itb.mk f217, trivial⟩ (fun _ => by simp) (by omega) (Or.inr ⟨_, rfl⟩)
 ·have ltS0 := S_0.lts
  have ltS1 := S_1.lts
  refine so (A := (s₁.setTop (mkF m 0 #[vr lp, vr xn, vr lv, uu, uu, uu, uu, uu] []))) ?_
  obtain ⟨T218, h218, X218, e218, E218, A218, D218, -, st218⟩ := newO X0 hx hZ hown (hW 55 _ rfl) (hW 2 _ rfl) (hW 3 _ rfl) e0 (g := (mkF m 0 #[vr lp, vr xn, vr lv, uu, uu, uu, uu, uu] [])) rfl (hb hby d9_0) (by decide) (by decide)
  obtain ⟨b218, g218⟩ : ∃ z, z = h0.size := ⟨_, rfl⟩
  rw [← g218] at A218 D218 st218
  refine oo st218 ?_
  have lt218 := olt A218.lt
  have sz218 : h0.size ≤ h218.size := E218.1
  have O218 : Old Z n0 h218 := XO0.ext E218
  have z218 : n0 ≤ b218 := by have := XO0.1 ▸ XO0.2.1; omega
  have K218 : Keep h0 h218 [] := K0_.ext E218
  have F218_modCount : Fld Z h218 b218 "java/util/AbstractList" "modCount" "I" (.int 0) := D218 (Or.inl (hW 23 _ rfl)) (ty := .int) pf_2
  have F218_elementData : Fld Z h218 b218 "java/util/ArrayList" "elementData" "[Ljava/lang/Object;" .null := D218 (Or.inl (hW 26 _ rfl)) (ty := (.array (.object "java/lang/Object"))) pf_3
  have F218_size : Fld Z h218 b218 "java/util/ArrayList" "size" "I" (.int 0) := D218 (Or.inl (hW 94 _ rfl)) (ty := .int) pf_2
  refine oi (XS.dup X218.here hx rfl (hb hby d9_3) rfl rfl) ?_
  refine so (A := (T218.setTop (mkF m 4 #[vr lp, vr xn, vr lv, uu, uu, uu, uu, uu] [(.ref b218), (.ref b218)]))) ?_
  obtain ⟨_, T219, Lc219, X219, hQ219, st219⟩ := own_c1 X218 <| X218.specialBack hx (y := ym1) rfl hown (mvT hZ (hW 56 _ rfl)) (mvT hZ (hW 5 _ rfl)) (mvT hZ (hW 6 _ rfl)) (by decide) (backOf (W := 1) (rmLI l Z a0 hw [] b218 dq kd mr h218 n0 O218 (by omega) S_d V_d E_d M_r l_d A218 F218_elementData F218_size F218_modCount) hZ (hW 6 _ rfl) (hW 3 _ rfl) (by decide) (by decide)) (g := (mkF m 4 #[vr lp, vr xn, vr lv, uu, uu, uu, uu, uu] [(.ref b218), (.ref b218)])) rfl (by rw [hml]; rfl) (Steps.refl _) (a := b218) (argsL := []) (rest := [(.ref b218)]) (lenOf pd_3 rfl) rfl (Nat.le_of_eq rfl) (hb hby d9_4) (fun _ _ => ⟨rfl, e218, (by decide : 1 + 0 ≤ _), (by decide : 3 + 0 ≤ _)⟩)
  obtain ⟨rfl, Nq219, Kp219, AL219⟩ := hQ219
  have N219 := Fr.app N0 Nq219
  refine oo (fun tt_ kk_ => st219.trans kk_) ?_
  have sz219 : h218.size ≤ T219.heap.size := Kp219.1
  have O219 : Old Z n0 T219.heap := O218.keep Kp219 (allS (by omega) all0)
  have K219 : Keep h0 T219.heap [] := K218.trans Kp219 (allS (Or.inr (by omega)) all0)
  refine oi (XS.astoreN X219.here hx rfl (hb hby d9_7) rfl rfl (l' := #[vr lp, vr xn, vr lv, vr b218, uu, uu, uu, uu]) rfl) ?_
  refine oi (XS.aloadN X219.here hx rfl (hb hby d9_8) rfl rfl) ?_
  refine so (A := (T219.setTop (mkF m 9 #[vr lp, vr xn, vr lv, vr b218, uu, uu, uu, uu] [(.ref lv)]))) ?_
  have f220 : own_al Z T219.heap dq n0 lv ev kv [v0, v1] mv := AV.keep K219 nin0 nin0
  obtain ⟨cq221, kq221, q221a, q221b, q221c⟩ := isOf hZ rfl f220.1
  obtain ⟨_, T221, Lc221, X221, hQ221, st221⟩ := own_c1 X219 <| X219.interfaceBack hx (xi := ym9246) (y := ym10) hown (mvT hZ (hW 57 _ rfl)) (mvT hZ (hW 58 _ rfl)) (mvT hZ (hW 59 _ rfl)) (mvT hZ (hW 60 _ rfl)) (mvT hZ (hW 61 _ rfl)) (mvT hZ (hW 62 _ rfl)) (mvT hZ (hW 63 _ rfl)) (mvT hZ (hW 64 _ rfl)) (by decide) (backOf (W := 0) (rmIt l Z a0 hw [] lv mv T219.heap n0 O219 f220.1 f220.2.2.2.1) hZ (hW 65 _ rfl) (hW 3 _ rfl) (by decide) (by decide)) q221a q221b q221c (g := (mkF m 9 #[vr lp, vr xn, vr lv, vr b218, uu, uu, uu, uu] [(.ref lv)])) rfl (by rw [hml]; rfl) (Steps.refl _) (argsL := []) (rest := []) (lenOf pd_12 rfl) rfl (Nat.le_of_eq rfl) (hb hby d9_9) (fun _ _ => ⟨rfl, rfl, (by decide : 1 + 1 ≤ _), (by decide : 3 + 4 ≤ _)⟩)
  obtain ⟨it221, rfl, Nq221, Kp221, gi221, li221, Ei221, Ft221, Fc221, Fl221, Fx221⟩ := hQ221
  have N221 := Fr.app N219 Nq221
  refine oo (fun tt_ kk_ => st221.trans kk_) ?_
  have sz221 : T219.heap.size ≤ T221.heap.size := Kp221.1
  have O221 : Old Z n0 T221.heap := O219.keep Kp221 all0
  have K221 : Keep h0 T221.heap [] := K219.trans Kp221 all0
  refine oi (XS.astore X221.here hx rfl (hb hby d9_14) rfl rfl (l' := #[vr lp, vr xn, vr lv, vr b218, vr it221, uu, uu, uu]) rfl) ?_
  refine oi (XS.aload X221.here hx rfl (hb hby d9_16) rfl rfl) ?_
  refine so (A := (T221.setTop (mkF m 18 #[vr lp, vr xn, vr lv, vr b218, vr it221, uu, uu, uu] [(.ref it221)]))) ?_
  have f222 : own_al Z T221.heap dq n0 lv ev kv [v0, v1] mv := (f220.keep Kp221 nin0 nin0)
  obtain ⟨cq223, kq223, q223a, q223b, q223c⟩ := isOf hZ rfl Ei221
  obtain ⟨_, T223, Lc223, X223, hQ223, st223⟩ := own_c1 X221 <| X221.interfaceBack hx (xi := ym7688) (y := ym12) hown (mvT hZ (hW 82 _ rfl)) (mvT hZ (hW 83 _ rfl)) (mvT hZ (hW 84 _ rfl)) (mvT hZ (hW 85 _ rfl)) (mvT hZ (hW 86 _ rfl)) (mvT hZ (hW 87 _ rfl)) (mvT hZ (hW 88 _ rfl)) (mvT hZ (hW 89 _ rfl)) (by decide) (backOf (W := 0) (rmHN1 l Z a0 hw [] it221 lv (Int32.ofNat (0)) (Int32.ofNat [v0, v1].length) T221.heap n0 O221 Ft221 Fc221 Ei221 f222.1 f222.2.2.1 (fun q => by have q2 := (own_neq (by omega) (by simp)).mp q; simp at q2)) hZ (hW 90 _ rfl) (hW 68 _ rfl) (by decide) (by decide)) q223a q223b q223c (g := (mkF m 18 #[vr lp, vr xn, vr lv, vr b218, vr it221, uu, uu, uu] [(.ref it221)])) rfl (by rw [hml]; rfl) (Steps.refl _) (argsL := []) (rest := []) (lenOf pd_13 rfl) rfl (Nat.le_of_eq rfl) (hb hby d9_18) (fun _ _ => ⟨rfl, rfl, (by decide : 2 + 0 ≤ _), (by decide : 7 + 0 ≤ _)⟩)
  obtain ⟨rfl, Nq223, eh223⟩ := hQ223
  have N223 := Fr.app N221 Nq223
  refine oo (fun tt_ kk_ => st223.trans kk_) ?_
  have hb23_224 : ¬ ((1 : Int32) = (0 : Int32)) := by decide
  refine oi (XS.ifNo X223.here hx rfl (hb hby d9_23) rfl ((if0 _ _).trans (feq hb23_224).1)) ?_
  refine oi (XS.aload X223.here hx rfl (hb hby d9_26) rfl rfl) ?_
  refine so (A := (T223.setTop (mkF m 28 #[vr lp, vr xn, vr lv, vr b218, vr it221, uu, uu, uu] [(.ref it221)]))) ?_
  obtain ⟨cq225, kq225, q225a, q225b, q225c⟩ := isOf hZ eh223 Ei221
  obtain ⟨_, T225, Lc225, X225, hQ225, st225⟩ := own_c1 X223 <| X223.interfaceBack hx (xi := ym8978) (y := ym27) hown (mvT hZ (hW 188 _ rfl)) (mvT hZ (hW 189 _ rfl)) (mvT hZ (hW 190 _ rfl)) (mvT hZ (hW 191 _ rfl)) (mvT hZ (hW 192 _ rfl)) (mvT hZ (hW 193 _ rfl)) (mvT hZ (hW 194 _ rfl)) (mvT hZ (hW 89 _ rfl)) (by decide) (backOf (W := 0) (rmNx l Z a0 hw [] dq it221 lv ev kv [v0, v1] (0) v0 mv (-1 : Int32) T221.heap n0 O221 (by omega) (by omega) (by omega) Ei221 Ft221 Fc221 Fl221 Fx221 f222 (by simp) (by simp) rfl) hZ (hW 195 _ rfl) (hW 68 _ rfl) (by decide) (by decide)) q225a q225b q225c (g := (mkF m 28 #[vr lp, vr xn, vr lv, vr b218, vr it221, uu, uu, uu] [(.ref it221)])) rfl (by rw [hml]; rfl) (Steps.refl _) (argsL := []) (rest := []) (lenOf pd_15 rfl) rfl (Nat.le_of_eq rfl) (hb hby d9_28) (fun _ _ => ⟨rfl, eh223, (by decide : 2 + 0 ≤ _), (by decide : 7 + 0 ≤ _)⟩)
  obtain ⟨rfl, Nq225, Kp225, Ei225, Ft225, Fc225, Fl225, Fx225⟩ := hQ225
  have N225 := Fr.app N223 Nq225
  refine oo (fun tt_ kk_ => st225.trans kk_) ?_
  have sz225 : T221.heap.size ≤ T225.heap.size := Kp225.1
  have O225 : Old Z n0 T225.heap := O221.keep Kp225 (allS (by omega) all0)
  have K225 : Keep h0 T225.heap [] := K221.trans Kp225 (allS (Or.inr (by omega)) all0)
  have f226 : Exa Z T225.heap v0 "java/lang/String" := S_0.exa.keep K225
  obtain ⟨T227, X227, e227, st227⟩ := castY X225 hx hZ hown (hW 247 _ rfl) rfl (Ins.self f226) (g := (mkF m 33 #[vr lp, vr xn, vr lv, vr b218, vr it221, uu, uu, uu] [(.ref v0)])) rfl rfl (hb hby d9_33)
  refine oo st227 ?_
  refine oi (XS.astore X227.here hx rfl (hb hby d9_36) rfl rfl (l' := #[vr lp, vr xn, vr lv, vr b218, vr it221, vr v0, uu, uu]) rfl) ?_
  refine oi (XS.aloadN X227.here hx rfl (hb hby d9_38) rfl rfl) ?_
  obtain ⟨T228, h228, X228, e228, E228, A228, D228, -, st228⟩ := newO X227 hx hZ hown (hW 202 _ rfl) (hW 148 _ rfl) (hW 149 _ rfl) e227 (g := (mkF m 39 #[vr lp, vr xn, vr lv, vr b218, vr it221, vr v0, uu, uu] [(.ref b218)])) rfl (hb hby d9_39) (by decide) (by decide)
  obtain ⟨b228, g228⟩ : ∃ z, z = T225.heap.size := ⟨_, rfl⟩
  rw [← g228] at A228 D228 st228
  refine oo st228 ?_
  have lt228 := olt A228.lt
  have sz228 : T225.heap.size ≤ h228.size := E228.1
  have O228 : Old Z n0 h228 := O225.ext E228
  have z228 : n0 ≤ b228 := by have := O225.1 ▸ O225.2.1; omega
  have K228 : Keep h0 h228 [] := K225.ext E228
  have F228_name : Fld Z h228 b228 "com/example/practory/practory/server/SearchQuery$Parameter" "name" "Ljava/lang/String;" .null := D228 (Or.inr (hW 160 _ rfl)) (ty := (.object "java/lang/String")) pf_5
  have F228_value : Fld Z h228 b228 "com/example/practory/practory/server/SearchQuery$Parameter" "value" "Ljava/lang/String;" .null := D228 (Or.inr (hW 162 _ rfl)) (ty := (.object "java/lang/String")) pf_5
  refine oi (XS.dup X228.here hx rfl (hb hby d9_42) rfl rfl) ?_
  refine oi (XS.aloadN X228.here hx rfl (hb hby d9_43) rfl rfl) ?_
  refine oi (XS.aload X228.here hx rfl (hb hby d9_44) rfl rfl) ?_
  refine so (A := (T228.setTop (mkF m 46 #[vr lp, vr xn, vr lv, vr b218, vr it221, vr v0, uu, uu] [(.ref v0), (.ref xn), (.ref b228), (.ref b228), (.ref b218)]))) ?_
  obtain ⟨_, T229, Lc229, X229, hQ229, st229⟩ := own_c1 X228 <| X228.specialBack hx (y := ym20) rfl hown (mvT hZ (hW 248 _ rfl)) (mvT hZ (hW 151 _ rfl)) (mvT hZ (hW 152 _ rfl)) (by decide) (backOf (W := 2) (rmPI l Z a0 hw [] b228 xn v0 h228 n0 O228 (by omega) A228 F228_name F228_value) hZ (hW 152 _ rfl) (hW 149 _ rfl) (by decide) (by decide)) (g := (mkF m 46 #[vr lp, vr xn, vr lv, vr b218, vr it221, vr v0, uu, uu] [(.ref v0), (.ref xn), (.ref b228), (.ref b228), (.ref b218)])) rfl (by rw [hml]; rfl) (Steps.refl _) (a := b228) (argsL := [(.ref xn), (.ref v0)]) (rest := [(.ref b228), (.ref b218)]) (lenOf pd_18 rfl) rfl (Nat.le_of_eq rfl) (hb hby d9_46) (fun _ _ => ⟨rfl, e228, (by decide : 3 + 0 ≤ _), (by decide : 9 + 0 ≤ _)⟩)
  obtain ⟨rfl, Nq229, Kp229, Ey229, Fa229, Fb229⟩ := hQ229
  have N229 := Fr.app N225 Nq229
  refine oo (fun tt_ kk_ => st229.trans kk_) ?_
  have sz229 : h228.size ≤ T229.heap.size := Kp229.1
  have O229 : Old Z n0 T229.heap := O228.keep Kp229 (allS (by omega) all0)
  have K229 : Keep h0 T229.heap [] := K228.trans Kp229 (allS (Or.inr (by omega)) all0)
  have f230 : own_st Z T229.heap xn tn cn := S_n.keep K229 nin0 nin0
  have f231 : own_st Z T229.heap v0 g0 f0 := S_0.keep K229 nin0 nin0
  have Pq229 : own_par Z T229.heap b228 xn tn v0 g0 cn f0 := ⟨Ey229, Fa229, Fb229, f230, f231⟩
  refine so (A := (T229.setTop (mkF m 49 #[vr lp, vr xn, vr lv, vr b218, vr it221, vr v0, uu, uu] [(.ref b228), (.ref b218)]))) ?_
  have f232 : own_al Z T229.heap dq n0 b218 dq kd [] (0 : Int32) := ((((AL219.keep Kp221 nin0 nin0).keep Kp225 (ninS (one (by omega)) nin0) (ninS (one (by omega)) nin0)).ext E228).keep Kp229 (ninS (one (by omega)) nin0) (ninS (one (by omega)) nin0))
  have f234 : Exa Z T229.heap b218 "java/util/ArrayList" := ((((AL219.1.keep Kp221).keep Kp225).ext E228).keep Kp229)
  obtain ⟨cq233, kq233, q233a, q233b, q233c⟩ := isOf hZ rfl f234
  obtain ⟨_, T233, Lc233, X233, hQ233, st233⟩ := own_c1 X229 <| X229.virtualBack hx (y := ym22) (z := ym22) hown (mvT hZ (hW 217 _ rfl)) (mvT hZ (hW 164 _ rfl)) (notFace_of_selects (args := #[]) (mvT hZ (hW 166 _ rfl))) (mvT hZ (hW 166 _ rfl)) (mvT hZ (hW 165 _ rfl)) (by decide) (backOf (W := 0) (rmAd l Z a0 hw [] b218 dq kd mr dq kd [] b228 "com/example/practory/practory/server/SearchQuery$Parameter" (0 : Int32) T229.heap n0 O229 (by omega) S_d V_d E_d M_r l_d f232 (by simp) Ey229 (hW 187 _ rfl)) hZ (hW 167 _ rfl) (hW 3 _ rfl) (by decide) (by decide)) q233a q233c (g := (mkF m 49 #[vr lp, vr xn, vr lv, vr b218, vr it221, vr v0, uu, uu] [(.ref b228), (.ref b218)])) rfl (by rw [hml]; rfl) (Steps.refl _) (argsL := [(.ref b228)]) (rest := []) (lenOf pd_17 rfl) rfl (Nat.le_of_eq rfl) (hb hby d9_49) (fun _ _ => ⟨rfl, rfl, (by decide : 3 + 1 ≤ _), (by decide : 9 + 10 ≤ _)⟩)
  obtain ⟨e233, k233, z233, rfl, Nq233, gz233, hz233, Kp233, AL233⟩ := hQ233
  have N233 := Fr.app N229 Nq233
  refine oo (fun tt_ kk_ => st233.trans kk_) ?_
  have sz233 : T229.heap.size ≤ T233.heap.size := Kp233.1
  have O233 : Old Z n0 T233.heap := O229.keep Kp233 (allS (by omega) (allS (by omega) all0))
  have K233 : Keep h0 T233.heap [] := K229.trans Kp233 (allS (Or.inr (by omega)) (allS (Or.inr (by omega)) all0))
  obtain ⟨hz1233, he233⟩ : z233 = b218 ∧ T229.heap.size ≤ e233 := hz233.elim (fun q => ⟨q.1, q.2.2⟩) (fun q => absurd l_d (Nat.not_lt_of_le q.2.1))
  clear hz233
  have la233 := AL233.lt2
  have ga233 : n0 ≤ e233 := by omega
  refine oi (XS.pop X233.here hx rfl (hb hby d9_52) rfl rfl) ?_
  refine oi (XS.goto X233.here hx rfl (pc0 := 53) (pc' := 16) rfl (hb hby d9_53) (by decide) (by decide)) ?_
  refine oi (XS.aload X233.here hx rfl (hb hby d9_16) rfl rfl) ?_
  refine so (A := (T233.setTop (mkF m 18 #[vr lp, vr xn, vr lv, vr b218, vr it221, vr v0, uu, uu] [(.ref it221)]))) ?_
  have f235 : own_al Z T233.heap dq n0 lv ev kv [v0, v1] mv := ((((f222.keep Kp225 (ninS (one (by omega)) nin0) (ninS (one (by omega)) nin0)).ext E228).keep Kp229 (ninS (one (by omega)) nin0) (ninS (one (by omega)) nin0)).keep Kp233 (ninS (one (by omega)) (ninS (one (by omega)) nin0)) (ninS (one (by omega)) (ninS (one (by omega)) nin0)))
  have f236 : Fld Z T233.heap it221 "java/util/ArrayList$Itr" "this$0" "Ljava/util/ArrayList;" (.ref lv) := (((Ft225.ext E228).keep Kp229 (ninS (one (by omega)) nin0)).keep Kp233 (ninS (one (by omega)) (ninS (one (by omega)) nin0)))
  have f237 : Fld Z T233.heap it221 "java/util/ArrayList$Itr" "cursor" "I" (.int (Int32.ofNat (1))) := (((Fc225.ext E228).keep Kp229 (ninS (one (by omega)) nin0)).keep Kp233 (ninS (one (by omega)) (ninS (one (by omega)) nin0)))
  have f238 : Exa Z T233.heap it221 "java/util/ArrayList$Itr" := (((Ei225.ext E228).keep Kp229).keep Kp233)
  obtain ⟨cq239, kq239, q239a, q239b, q239c⟩ := isOf hZ rfl f238
  obtain ⟨_, T239, Lc239, X239, hQ239, st239⟩ := own_c1 X233 <| X233.interfaceBack hx (xi := ym7688) (y := ym12) hown (mvT hZ (hW 82 _ rfl)) (mvT hZ (hW 83 _ rfl)) (mvT hZ (hW 84 _ rfl)) (mvT hZ (hW 85 _ rfl)) (mvT hZ (hW 86 _ rfl)) (mvT hZ (hW 87 _ rfl)) (mvT hZ (hW 88 _ rfl)) (mvT hZ (hW 89 _ rfl)) (by decide) (backOf (W := 0) (rmHN1 l Z a0 hw [] it221 lv (Int32.ofNat (1)) (Int32.ofNat [v0, v1].length) T233.heap n0 O233 f236 f237 f238 f235.1 f235.2.2.1 (fun q => by have q2 := (own_neq (by omega) (by simp)).mp q; simp at q2)) hZ (hW 90 _ rfl) (hW 68 _ rfl) (by decide) (by decide)) q239a q239b q239c (g := (mkF m 18 #[vr lp, vr xn, vr lv, vr b218, vr it221, vr v0, uu, uu] [(.ref it221)])) rfl (by rw [hml]; rfl) (Steps.refl _) (argsL := []) (rest := []) (lenOf pd_13 rfl) rfl (Nat.le_of_eq rfl) (hb hby d9_18) (fun _ _ => ⟨rfl, rfl, (by decide : 4 + 0 ≤ _), (by decide : 19 + 0 ≤ _)⟩)
  obtain ⟨rfl, Nq239, eh239⟩ := hQ239
  have N239 := Fr.app N233 Nq239
  refine oo (fun tt_ kk_ => st239.trans kk_) ?_
  have hb23_240 : ¬ ((1 : Int32) = (0 : Int32)) := by decide
  refine oi (XS.ifNo X239.here hx rfl (hb hby d9_23) rfl ((if0 _ _).trans (feq hb23_240).1)) ?_
  refine oi (XS.aload X239.here hx rfl (hb hby d9_26) rfl rfl) ?_
  refine so (A := (T239.setTop (mkF m 28 #[vr lp, vr xn, vr lv, vr b218, vr it221, vr v0, uu, uu] [(.ref it221)]))) ?_
  have f241 : Fld Z T233.heap it221 "java/util/ArrayList$Itr" "lastRet" "I" (.int (Int32.ofNat (0))) := (((Fl225.ext E228).keep Kp229 (ninS (one (by omega)) nin0)).keep Kp233 (ninS (one (by omega)) (ninS (one (by omega)) nin0)))
  have f242 : Fld Z T233.heap it221 "java/util/ArrayList$Itr" "expectedModCount" "I" (.int mv) := (((Fx225.ext E228).keep Kp229 (ninS (one (by omega)) nin0)).keep Kp233 (ninS (one (by omega)) (ninS (one (by omega)) nin0)))
  obtain ⟨cq243, kq243, q243a, q243b, q243c⟩ := isOf hZ eh239 f238
  obtain ⟨_, T243, Lc243, X243, hQ243, st243⟩ := own_c1 X239 <| X239.interfaceBack hx (xi := ym8978) (y := ym27) hown (mvT hZ (hW 188 _ rfl)) (mvT hZ (hW 189 _ rfl)) (mvT hZ (hW 190 _ rfl)) (mvT hZ (hW 191 _ rfl)) (mvT hZ (hW 192 _ rfl)) (mvT hZ (hW 193 _ rfl)) (mvT hZ (hW 194 _ rfl)) (mvT hZ (hW 89 _ rfl)) (by decide) (backOf (W := 0) (rmNx l Z a0 hw [] dq it221 lv ev kv [v0, v1] (1) v1 mv (Int32.ofNat (0)) T233.heap n0 O233 (by omega) (by omega) (by omega) f238 f236 f237 f241 f242 f235 (by simp) (by simp) rfl) hZ (hW 195 _ rfl) (hW 68 _ rfl) (by decide) (by decide)) q243a q243b q243c (g := (mkF m 28 #[vr lp, vr xn, vr lv, vr b218, vr it221, vr v0, uu, uu] [(.ref it221)])) rfl (by rw [hml]; rfl) (Steps.refl _) (argsL := []) (rest := []) (lenOf pd_15 rfl) rfl (Nat.le_of_eq rfl) (hb hby d9_28) (fun _ _ => ⟨rfl, eh239, (by decide : 4 + 0 ≤ _), (by decide : 19 + 0 ≤ _)⟩)
  obtain ⟨rfl, Nq243, Kp243, Ei243, Ft243, Fc243, Fl243, Fx243⟩ := hQ243
  have N243 := Fr.app N239 Nq243
  refine oo (fun tt_ kk_ => st243.trans kk_) ?_
  have sz243 : T233.heap.size ≤ T243.heap.size := Kp243.1
  have O243 : Old Z n0 T243.heap := O233.keep Kp243 (allS (by omega) all0)
  have K243 : Keep h0 T243.heap [] := K233.trans Kp243 (allS (Or.inr (by omega)) all0)
  have f244 : Exa Z T243.heap v1 "java/lang/String" := S_1.exa.keep K243
  obtain ⟨T245, X245, e245, st245⟩ := castY X243 hx hZ hown (hW 247 _ rfl) rfl (Ins.self f244) (g := (mkF m 33 #[vr lp, vr xn, vr lv, vr b218, vr it221, vr v0, uu, uu] [(.ref v1)])) rfl rfl (hb hby d9_33)
  refine oo st245 ?_
  refine oi (XS.astore X245.here hx rfl (hb hby d9_36) rfl rfl (l' := #[vr lp, vr xn, vr lv, vr b218, vr it221, vr v1, uu, uu]) rfl) ?_
  refine oi (XS.aloadN X245.here hx rfl (hb hby d9_38) rfl rfl) ?_
  obtain ⟨T246, h246, X246, e246, E246, A246, D246, -, st246⟩ := newO X245 hx hZ hown (hW 202 _ rfl) (hW 148 _ rfl) (hW 149 _ rfl) e245 (g := (mkF m 39 #[vr lp, vr xn, vr lv, vr b218, vr it221, vr v1, uu, uu] [(.ref b218)])) rfl (hb hby d9_39) (by decide) (by decide)
  obtain ⟨b246, g246⟩ : ∃ z, z = T243.heap.size := ⟨_, rfl⟩
  rw [← g246] at A246 D246 st246
  refine oo st246 ?_
  have lt246 := olt A246.lt
  have sz246 : T243.heap.size ≤ h246.size := E246.1
  have O246 : Old Z n0 h246 := O243.ext E246
  have z246 : n0 ≤ b246 := by have := O243.1 ▸ O243.2.1; omega
  have K246 : Keep h0 h246 [] := K243.ext E246
  have F246_name : Fld Z h246 b246 "com/example/practory/practory/server/SearchQuery$Parameter" "name" "Ljava/lang/String;" .null := D246 (Or.inr (hW 160 _ rfl)) (ty := (.object "java/lang/String")) pf_5
  have F246_value : Fld Z h246 b246 "com/example/practory/practory/server/SearchQuery$Parameter" "value" "Ljava/lang/String;" .null := D246 (Or.inr (hW 162 _ rfl)) (ty := (.object "java/lang/String")) pf_5
  refine oi (XS.dup X246.here hx rfl (hb hby d9_42) rfl rfl) ?_
  refine oi (XS.aloadN X246.here hx rfl (hb hby d9_43) rfl rfl) ?_
  refine oi (XS.aload X246.here hx rfl (hb hby d9_44) rfl rfl) ?_
  refine so (A := (T246.setTop (mkF m 46 #[vr lp, vr xn, vr lv, vr b218, vr it221, vr v1, uu, uu] [(.ref v1), (.ref xn), (.ref b246), (.ref b246), (.ref b218)]))) ?_
  obtain ⟨_, T247, Lc247, X247, hQ247, st247⟩ := own_c1 X246 <| X246.specialBack hx (y := ym20) rfl hown (mvT hZ (hW 248 _ rfl)) (mvT hZ (hW 151 _ rfl)) (mvT hZ (hW 152 _ rfl)) (by decide) (backOf (W := 2) (rmPI l Z a0 hw [] b246 xn v1 h246 n0 O246 (by omega) A246 F246_name F246_value) hZ (hW 152 _ rfl) (hW 149 _ rfl) (by decide) (by decide)) (g := (mkF m 46 #[vr lp, vr xn, vr lv, vr b218, vr it221, vr v1, uu, uu] [(.ref v1), (.ref xn), (.ref b246), (.ref b246), (.ref b218)])) rfl (by rw [hml]; rfl) (Steps.refl _) (a := b246) (argsL := [(.ref xn), (.ref v1)]) (rest := [(.ref b246), (.ref b218)]) (lenOf pd_18 rfl) rfl (Nat.le_of_eq rfl) (hb hby d9_46) (fun _ _ => ⟨rfl, e246, (by decide : 5 + 0 ≤ _), (by decide : 21 + 0 ≤ _)⟩)
  obtain ⟨rfl, Nq247, Kp247, Ey247, Fa247, Fb247⟩ := hQ247
  have N247 := Fr.app N243 Nq247
  refine oo (fun tt_ kk_ => st247.trans kk_) ?_
  have sz247 : h246.size ≤ T247.heap.size := Kp247.1
  have O247 : Old Z n0 T247.heap := O246.keep Kp247 (allS (by omega) all0)
  have K247 : Keep h0 T247.heap [] := K246.trans Kp247 (allS (Or.inr (by omega)) all0)
  have f248 : own_st Z T247.heap xn tn cn := ((((f230.keep Kp233 (ninS (one (by omega)) (ninS (one (by omega)) nin0)) (ninS (one (by omega)) (ninS (one (by omega)) nin0))).keep Kp243 (ninS (one (by omega)) nin0) (ninS (one (by omega)) nin0)).ext E246).keep Kp247 (ninS (one (by omega)) nin0) (ninS (one (by omega)) nin0))
  have f249 : own_st Z T247.heap v1 g1 f1 := S_1.keep K247 nin0 nin0
  have Pq247 : own_par Z T247.heap b246 xn tn v1 g1 cn f1 := ⟨Ey247, Fa247, Fb247, f248, f249⟩
  refine so (A := (T247.setTop (mkF m 49 #[vr lp, vr xn, vr lv, vr b218, vr it221, vr v1, uu, uu] [(.ref b246), (.ref b218)]))) ?_
  have f250 : own_al Z T247.heap dq n0 b218 e233 k233 [b228] ((0 : Int32) + (1 : Int32)) := (((AL233.keep Kp243 (ninS (one (by omega)) nin0) (ninS (one (by omega)) nin0)).ext E246).keep Kp247 (ninS (one (by omega)) nin0) (ninS (one (by omega)) nin0))
  have f252 : Exa Z T247.heap b218 "java/util/ArrayList" := (((AL233.1.keep Kp243).ext E246).keep Kp247)
  obtain ⟨cq251, kq251, q251a, q251b, q251c⟩ := isOf hZ rfl f252
  obtain ⟨_, T251, Lc251, X251, hQ251, st251⟩ := own_c1 X247 <| X247.virtualBack hx (y := ym22) (z := ym22) hown (mvT hZ (hW 217 _ rfl)) (mvT hZ (hW 164 _ rfl)) (notFace_of_selects (args := #[]) (mvT hZ (hW 166 _ rfl))) (mvT hZ (hW 166 _ rfl)) (mvT hZ (hW 165 _ rfl)) (by decide) (backOf (W := 0) (rmAd l Z a0 hw [] b218 dq kd mr e233 k233 [b228] b246 "com/example/practory/practory/server/SearchQuery$Parameter" ((0 : Int32) + (1 : Int32)) T247.heap n0 O247 (by omega) S_d V_d E_d M_r l_d f250 (by simp) Ey247 (hW 187 _ rfl)) hZ (hW 167 _ rfl) (hW 3 _ rfl) (by decide) (by decide)) q251a q251c (g := (mkF m 49 #[vr lp, vr xn, vr lv, vr b218, vr it221, vr v1, uu, uu] [(.ref b246), (.ref b218)])) rfl (by rw [hml]; rfl) (Steps.refl _) (argsL := [(.ref b246)]) (rest := []) (lenOf pd_17 rfl) rfl (Nat.le_of_eq rfl) (hb hby d9_49) (fun _ _ => ⟨rfl, rfl, (by decide : 5 + 1 ≤ _), (by decide : 21 + 10 ≤ _)⟩)
  obtain ⟨e251, k251, z251, rfl, Nq251, gz251, hz251, Kp251, AL251⟩ := hQ251
  have N251 := Fr.app N247 Nq251
  refine oo (fun tt_ kk_ => st251.trans kk_) ?_
  have sz251 : T247.heap.size ≤ T251.heap.size := Kp251.1
  have O251 : Old Z n0 T251.heap := O247.keep Kp251 (allS (by omega) (allS (by omega) all0))
  have K251 : Keep h0 T251.heap [] := K247.trans Kp251 (allS (Or.inr (by omega)) (allS (Or.inr (by omega)) all0))
  obtain ⟨hz1251, he251⟩ : z251 = e233 ∧ e251 = e233 := hz251.elim (fun q => absurd q.2.1 (Nat.ne_of_gt (Nat.lt_of_lt_of_le l_d ga233))) (fun q => ⟨q.1, q.2.2⟩)
  clear hz251
  have ALq251 : own_al Z T251.heap dq n0 b218 e233 k251 [b228, b246] (((0 : Int32) + (1 : Int32)) + (1 : Int32)) := he251 ▸ AL251
  have la251 := ALq251.lt2
  refine oi (XS.pop X251.here hx rfl (hb hby d9_52) rfl rfl) ?_
  refine oi (XS.goto X251.here hx rfl (pc0 := 53) (pc' := 16) rfl (hb hby d9_53) (by decide) (by decide)) ?_
  refine oi (XS.aload X251.here hx rfl (hb hby d9_16) rfl rfl) ?_
  refine so (A := (T251.setTop (mkF m 18 #[vr lp, vr xn, vr lv, vr b218, vr it221, vr v1, uu, uu] [(.ref it221)]))) ?_
  have f253 : own_al Z T251.heap dq n0 lv ev kv [v0, v1] mv := ((((f235.keep Kp243 (ninS (one (by omega)) nin0) (ninS (one (by omega)) nin0)).ext E246).keep Kp247 (ninS (one (by omega)) nin0) (ninS (one (by omega)) nin0)).keep Kp251 (ninS (one (by omega)) (ninS (one (by omega)) nin0)) (ninS (one (by omega)) (ninS (one (by omega)) nin0)))
  have f254 : Fld Z T251.heap it221 "java/util/ArrayList$Itr" "this$0" "Ljava/util/ArrayList;" (.ref lv) := (((Ft243.ext E246).keep Kp247 (ninS (one (by omega)) nin0)).keep Kp251 (ninS (one (by omega)) (ninS (one (by omega)) nin0)))
  have f255 : Fld Z T251.heap it221 "java/util/ArrayList$Itr" "cursor" "I" (.int (Int32.ofNat (2))) := (((Fc243.ext E246).keep Kp247 (ninS (one (by omega)) nin0)).keep Kp251 (ninS (one (by omega)) (ninS (one (by omega)) nin0)))
  have f256 : Exa Z T251.heap it221 "java/util/ArrayList$Itr" := (((Ei243.ext E246).keep Kp247).keep Kp251)
  obtain ⟨cq257, kq257, q257a, q257b, q257c⟩ := isOf hZ rfl f256
  obtain ⟨_, T257, Lc257, X257, hQ257, st257⟩ := own_c1 X251 <| X251.interfaceBack hx (xi := ym7688) (y := ym12) hown (mvT hZ (hW 82 _ rfl)) (mvT hZ (hW 83 _ rfl)) (mvT hZ (hW 84 _ rfl)) (mvT hZ (hW 85 _ rfl)) (mvT hZ (hW 86 _ rfl)) (mvT hZ (hW 87 _ rfl)) (mvT hZ (hW 88 _ rfl)) (mvT hZ (hW 89 _ rfl)) (by decide) (backOf (W := 0) (rmHN0 l Z a0 hw [] it221 lv (Int32.ofNat (2)) (Int32.ofNat [v0, v1].length) T251.heap n0 O251 f254 f255 f256 f253.1 f253.2.2.1 rfl) hZ (hW 90 _ rfl) (hW 68 _ rfl) (by decide) (by decide)) q257a q257b q257c (g := (mkF m 18 #[vr lp, vr xn, vr lv, vr b218, vr it221, vr v1, uu, uu] [(.ref it221)])) rfl (by rw [hml]; rfl) (Steps.refl _) (argsL := []) (rest := []) (lenOf pd_13 rfl) rfl (Nat.le_of_eq rfl) (hb hby d9_18) (fun _ _ => ⟨rfl, rfl, (by decide : 6 + 0 ≤ _), (by decide : 31 + 0 ≤ _)⟩)
  obtain ⟨rfl, Nq257, eh257⟩ := hQ257
  have N257 := Fr.app N251 Nq257
  refine oo (fun tt_ kk_ => st257.trans kk_) ?_
  have hb23_258 : (0 : Int32) = (0 : Int32) := by decide
  refine oi (XS.ifYes X257.here hx rfl (pc0 := 23) (pc' := 56) rfl (hb hby d9_23) rfl ((if0 _ _).trans (teq hb23_258).1) (by decide) (by decide)) ?_
  refine so (A := (T257.setTop (mkF m 56 #[vr lp, vr xn, vr lv, vr b218, vr it221, vr v1, uu, uu] []))) ?_
  have f259 : own_par Z T251.heap b246 xn tn v1 g1 cn f1 := (Pq247.keep Kp251 (ninS (one (by omega)) (ninS (one (by omega)) nin0)) (ninS (one (by omega)) (ninS (one (by omega)) nin0)) (ninS (one (by omega)) (ninS (one (by omega)) nin0)) (ninS (one (by omega)) (ninS (one (by omega)) nin0)) (ninS (one (by omega)) (ninS (one (by omega)) nin0)))
  have f260 : own_par Z T251.heap b228 xn tn v0 g0 cn f0 := (((((Pq229.keep Kp233 (ninS (one (by omega)) (ninS (one (by omega)) nin0)) (ninS (one (by omega)) (ninS (one (by omega)) nin0)) (ninS (one (by omega)) (ninS (one (by omega)) nin0)) (ninS (one (by omega)) (ninS (one (by omega)) nin0)) (ninS (one (by omega)) (ninS (one (by omega)) nin0))).keep Kp243 (ninS (one (by omega)) nin0) (ninS (one (by omega)) nin0) (ninS (one (by omega)) nin0) (ninS (one (by omega)) nin0) (ninS (one (by omega)) nin0)).ext E246).keep Kp247 (ninS (one (by omega)) nin0) (ninS (one (by omega)) nin0) (ninS (one (by omega)) nin0) (ninS (one (by omega)) nin0) (ninS (one (by omega)) nin0)).keep Kp251 (ninS (one (by omega)) (ninS (one (by omega)) nin0)) (ninS (one (by omega)) (ninS (one (by omega)) nin0)) (ninS (one (by omega)) (ninS (one (by omega)) nin0)) (ninS (one (by omega)) (ninS (one (by omega)) nin0)) (ninS (one (by omega)) (ninS (one (by omega)) nin0)))
  exact J56 _ _ _ b218 e233 k251 [b228, b246] (((0 : Int32) + (1 : Int32)) + (1 : Int32)) _ _ (X257.more (by decide) (by decide)) eh257 N257 O251 K251 (by omega) (by omega) ALq251 ⟨own_itb.mk f260, ⟨own_itb.mk f259, trivial⟩⟩ (fun _ => by simp) (by omega) (Or.inr ⟨_, rfl⟩)
theorem ef_rmSz (m : MethodId) (x0 : Nat) : entryFrame m #[(.ref x0)] 1 = mkF m 0 #[vr x0] [] := by first | (simp [entryFrame, mkF, argsToLocals, Value.category]; done) | rfl
theorem d18_0 : dk cD18 0 (.aload_n 0) 1 := by decide +kernel
theorem d18_1 : dk cD18 1 (.getfield 48) 3 := by decide +kernel
theorem d18_4 : dk cD18 4 .ireturn 1 := by decide +kernel
def Q_rmSz (Z : State) (la : Nat) (sz : Int32) (h0 : Heap) (n0 : Nat) (v : Option Value) (h : Heap) (L : List Loc) : Prop := v = some (.int sz) ∧ Fr n0 L ∧ h = h0
theorem rmSz (l : Launch) (Z : State) (a0 : Array Value) (hw : own_H Z a0) (ws : List Jvm.Cond) (la : Nat) (sz : Int32) (h0 : Heap) (n0 : Nat) (XO0 : Old Z n0 h0) (F_z : Fld Z h0 la "java/util/ArrayList" "size" "I" (.int sz)) :
  own_M l Z ym18 cD18 ws 1 (some .int) (own_R 0 0 0 0) #[(.ref la)] h0 (Q_rmSz Z la sz h0 n0) := by
 refine own_open (plainFor_of_name pn_4) ?_
 intro p e s m below meth c s₁ hx hby hlk hret hml hown hnm hZ X0 e0
 have hW := own_hW hw
 have N0 := Fr.nil n0
 refine oo (fun tt_ kk_ => castTop (ef_rmSz m la) kk_) ?_
 refine so (A := (s₁.setTop (mkF m 0 #[vr la] []))) ?_
 refine oi (XS.aloadN X0.here hx rfl (hb hby d18_0) rfl rfl) ?_
 obtain ⟨T1, X1, e1, st1⟩ := getF X0 hx hZ hown (host := "") (Or.inl (hW 109 _ rfl)) Via.refl e0 F_z (g := (mkF m 1 #[vr la] [(.ref la)])) rfl rfl (hb hby d18_1)
 refine oo st1 ?_
 refine so (A := (T1.setTop (mkF m 4 #[vr la] [(.int sz)]))) ?_
 refine own_ret X1 hx hlk hret rfl (Or.inl ⟨rfl, by simp, _, rfl⟩) (hb hby d18_4) (by decide) (by decide) ?_
 rw [e1]
 exact ⟨rfl, N0, rfl⟩
theorem ef_rmX1 (m : MethodId) (x0 : Int32) (x1 : Int32) : entryFrame m #[(.int x0), (.int x1), .null] 3 = mkF m 0 #[vi x0, vi x1, .val .null] [] := by first | (simp [entryFrame, mkF, argsToLocals, Value.category]; done) | rfl
theorem pn_10 : plainName "jdk/internal/util/Preconditions" = true := by first | (simp [plainName, overriddenIn]; done) | decide +kernel
theorem d34_0 : dk cD34 0 (.iload_n 0) 1 := by decide +kernel
theorem d34_1 : dk cD34 1 (.ifCond .lt 8) 3 := by decide +kernel
theorem d34_4 : dk cD34 4 (.iload_n 0) 1 := by decide +kernel
theorem d34_5 : dk cD34 5 (.iload_n 1) 1 := by decide +kernel
theorem d34_6 : dk cD34 6 (.if_icmp .lt 10) 3 := by decide +kernel
theorem d34_16 : dk cD34 16 (.iload_n 0) 1 := by decide +kernel
theorem d34_17 : dk cD34 17 .ireturn 1 := by decide +kernel
def Q_rmX1 (Z : State) (ix : Int32) (nx : Int32) (h0 : Heap) (n0 : Nat) (v : Option Value) (h : Heap) (L : List Loc) : Prop := v = some (.int ix) ∧ Fr n0 L ∧ h = h0
theorem rmX1 (l : Launch) (Z : State) (a0 : Array Value) (hw : own_H Z a0) (ws : List Jvm.Cond) (ix : Int32) (nx : Int32) (h0 : Heap) (n0 : Nat) (XO0 : Old Z n0 h0) (q_0 : ¬ ix < (0 : Int32)) (q_n : ix < nx) :
  own_M l Z ym34 cD34 ws 3 (some .int) (own_R 0 0 0 0) #[(.int ix), (.int nx), .null] h0 (Q_rmX1 Z ix nx h0 n0) := by
 refine own_open (plainFor_of_name pn_10) ?_
 intro p e s m below meth c s₁ hx hby hlk hret hml hown hnm hZ X0 e0
 have hW := own_hW hw
 have N0 := Fr.nil n0
 refine oo (fun tt_ kk_ => castTop (ef_rmX1 m ix nx) kk_) ?_
 refine so (A := (s₁.setTop (mkF m 0 #[vi ix, vi nx, .val .null] []))) ?_
 refine oi (XS.iloadN X0.here hx rfl (hb hby d34_0) rfl) ?_
 have hb1_1 : ¬ (ix < (0 : Int32)) := q_0
 refine oi (XS.ifNo X0.here hx rfl (hb hby d34_1) rfl ((if0 _ _).trans (flt hb1_1).1)) ?_
 refine so (A := (s₁.setTop (mkF m 4 #[vi ix, vi nx, .val .null] []))) ?_
 refine oi (XS.iloadN X0.here hx rfl (hb hby d34_4) rfl) ?_
 refine oi (XS.iloadN X0.here hx rfl (hb hby d34_5) rfl) ?_
 have hb6_2 : ix < nx := q_n
 refine oi (XS.icmpYes X0.here hx rfl (pc0 := 6) (pc' := 16) rfl (hb hby d34_6) rfl (tlt hb6_2).1 (by decide) (by decide)) ?_
 refine so (A := (s₁.setTop (mkF m 16 #[vi ix, vi nx, .val .null] []))) ?_
 refine oi (XS.iloadN X0.here hx rfl (hb hby d34_16) rfl) ?_
 refine so (A := (s₁.setTop (mkF m 17 #[vi ix, vi nx, .val .null] [(.int ix)]))) ?_
 refine own_ret X0 hx hlk hret rfl (Or.inl ⟨rfl, by simp, _, rfl⟩) (hb hby d34_17) (by decide) (by decide) ?_
 rw [e0]
 exact ⟨rfl, N0, rfl⟩
theorem ef_rmX2 (m : MethodId) (x0 : Int32) (x1 : Int32) : entryFrame m #[(.int x0), (.int x1)] 2 = mkF m 0 #[vi x0, vi x1] [] := by first | (simp [entryFrame, mkF, argsToLocals, Value.category]; done) | rfl
theorem pn_11 : plainName "java/util/Objects" = true := by first | (simp [plainName, overriddenIn]; done) | decide +kernel
theorem d33_0 : dk cD33 0 (.iload_n 0) 1 := by decide +kernel
theorem d33_1 : dk cD33 1 (.iload_n 1) 1 := by decide +kernel
theorem d33_2 : dk cD33 2 .aconst_null 1 := by decide +kernel
theorem d33_3 : dk cD33 3 (.invokestatic 105) 3 := by decide +kernel
theorem pd_19 : parseMethodDescriptor "(IILjava/util/function/BiFunction;)I" = some ⟨[.int, .int, (.object "java/util/function/BiFunction")], some .int⟩ := by decide +kernel
theorem d33_6 : dk cD33 6 .ireturn 1 := by decide +kernel
def Q_rmX2 (Z : State) (ix : Int32) (nx : Int32) (h0 : Heap) (n0 : Nat) (v : Option Value) (h : Heap) (L : List Loc) : Prop := v = some (.int ix) ∧ Fr n0 L ∧ h = h0
theorem rmX2 (l : Launch) (Z : State) (a0 : Array Value) (hw : own_H Z a0) (ws : List Jvm.Cond) (ix : Int32) (nx : Int32) (h0 : Heap) (n0 : Nat) (XO0 : Old Z n0 h0) (q_0 : ¬ ix < (0 : Int32)) (q_n : ix < nx) :
  own_M l Z ym33 cD33 ws 2 (some .int) (own_R 1 0 0 14) #[(.int ix), (.int nx)] h0 (Q_rmX2 Z ix nx h0 n0) := by
 refine own_open (plainFor_of_name pn_11) ?_
 intro p e s m below meth c s₁ hx hby hlk hret hml hown hnm hZ X0 e0
 have hW := own_hW hw
 have N0 := Fr.nil n0
 refine oo (fun tt_ kk_ => castTop (ef_rmX2 m ix nx) kk_) ?_
 refine so (A := (s₁.setTop (mkF m 0 #[vi ix, vi nx] []))) ?_
 refine oi (XS.iloadN X0.here hx rfl (hb hby d33_0) rfl) ?_
 refine oi (XS.iloadN X0.here hx rfl (hb hby d33_1) rfl) ?_
 refine oi (XS.aconstNull X0.here hx rfl (hb hby d33_2)) ?_
 refine so (A := (s₁.setTop (mkF m 3 #[vi ix, vi nx] [.null, (.int nx), (.int ix)]))) ?_
 obtain ⟨_, T1, Lc1, X1, hQ1, st1⟩ := own_c1 X0 <| Jvm.LawKit.callS X0 hx (y := ym34) hown (mvT hZ (hW 230 _ rfl)) (mvT hZ (hW 231 _ rfl)) (mvT hZ (hW 232 _ rfl)) (mvT hZ (hW 233 _ rfl)) (by decide) (backOf (W := 0) (rmX1 l Z a0 hw [] ix nx h0 n0 XO0 q_0 q_n) hZ (hW 233 _ rfl) (hW 232 _ rfl) (by decide) (by decide)) (g := (mkF m 3 #[vi ix, vi nx] [.null, (.int nx), (.int ix)])) rfl (by rw [hml]; rfl) (argsL := [(.int ix), (.int nx), .null]) (rest := []) (lenOf pd_19 rfl) rfl (Nat.le_of_eq rfl) (hb hby d33_3) (fun _ _ => ⟨rfl, e0, (by decide : 0 + 0 ≤ _), (by decide : 0 + 0 ≤ _)⟩)
 obtain ⟨rfl, Nq1, eh1⟩ := hQ1
 have N1 := Fr.app N0 Nq1
 refine oo st1 ?_
 refine so (A := (T1.setTop (mkF m 6 #[vi ix, vi nx] [(.int ix)]))) ?_
 refine own_ret X1 hx hlk hret rfl (Or.inl ⟨rfl, by simp, _, rfl⟩) (hb hby d33_6) (by decide) (by decide) ?_
 rw [eh1]
 exact ⟨rfl, N1, rfl⟩
def Q_Ge (y : Nat) (h0 : Heap) (n0 : Nat) (v : Option Value) (h : Heap) (L : List Loc) : Prop := v = some (.ref y) ∧ Fr n0 L ∧ h = h0
theorem ef_rmEd (m : MethodId) (x0 : Nat) (x1 : Int32) : entryFrame m #[(.ref x0), (.int x1)] 2 = mkF m 0 #[vr x0, vi x1] [] := by first | (simp [entryFrame, mkF, argsToLocals, Value.category]; done) | rfl
theorem d35_0 : dk cD35 0 (.aload_n 0) 1 := by decide +kernel
theorem d35_1 : dk cD35 1 (.getfield 9) 3 := by decide +kernel
theorem d35_4 : dk cD35 4 (.iload_n 1) 1 := by decide +kernel
theorem d35_5 : dk cD35 5 .aaload 1 := by decide +kernel
theorem d35_6 : dk cD35 6 .areturn 1 := by decide +kernel
theorem rmEd (l : Launch) (Z : State) (a0 : Array Value) (hw : own_H Z a0) (ws : List Jvm.Cond) (la : Nat) (ea : Nat) (ke : ClassId) (xs : List Nat) (mc : Int32) (j : Nat) (y : Nat) (h0 : Heap) (n0 : Nat) (XO0 : Old Z n0 h0) (E_l : Exa Z h0 la "java/util/ArrayList") (F_e : Fld Z h0 la "java/util/ArrayList" "elementData" "[Ljava/lang/Object;" (.ref ea)) (F_z : Fld Z h0 la "java/util/ArrayList" "size" "I" (.int (Int32.ofNat xs.length))) (F_m : Fld Z h0 la "java/util/AbstractList" "modCount" "I" (.int mc)) (g_e : n0 ≤ ea) (n_le : la ≠ ea) (O_e : Ovr Z ke "java/lang/Object") (V_e : Arv Z h0 ea ke (.object "java/lang/Object") (10 : Int32) (xs.map Value.ref) .null) (E_e : Exa Z h0 ea "[Ljava/lang/Object;") (hi : j < xs.length) (hx9 : xs.length ≤ 9) (hy : xs[j]? = some y) :
  own_M l Z ym35 cD35 ws 2 (some (.object "java/lang/Object")) (own_R 0 0 0 0) #[(.ref la), (.int (Int32.ofNat j))] h0 (Q_Ge y h0 n0) := by
 refine own_open (plainFor_of_name pn_4) ?_
 intro p e s m below meth c s₁ hx hby hlk hret hml hown hnm hZ X0 e0
 have hW := own_hW hw
 have N0 := Fr.nil n0
 refine oo (fun tt_ kk_ => castTop (ef_rmEd m la (Int32.ofNat j)) kk_) ?_
 refine so (A := (s₁.setTop (mkF m 0 #[vr la, vn j] []))) ?_
 refine oi (XS.aloadN X0.here hx rfl (hb hby d35_0) rfl rfl) ?_
 obtain ⟨T1, X1, e1, st1⟩ := getF X0 hx hZ hown (host := "") (Or.inl (hW 25 _ rfl)) Via.refl e0 F_e (g := (mkF m 1 #[vr la, vn j] [(.ref la)])) rfl rfl (hb hby d35_1)
 refine oo st1 ?_
 refine oi (XS.iloadN X1.here hx rfl (hb hby d35_4) rfl) ?_
 refine so (A := (T1.setTop (mkF m 5 #[vr la, vn j] [(.int (Int32.ofNat j)), (.ref ea)]))) ?_
 obtain ⟨cl2, Ar2, q2, S2, Ng2, H2, G2⟩ := id V_e
 have hin2 : ¬ ((Int32.ofNat j) < 0 ∨ cl2.slots.size ≤ ((Int32.ofNat j)).toNatClampNeg) := inb_of S2 (own_inn (m := 10) (by omega) (by omega))
 have hat2 : cl2.slots[((Int32.ofNat j)).toNatClampNeg]? = some (.ref y) := Has.at H2 hin2 (own_hget (by omega) hy)
 refine oo (fun _ => X1.aaload hx (j := (Int32.ofNat j)) (v := (.ref y)) (by rw [e1]; exact Ar2.1) (State.isArrayOf_alike hZ.alike Ar2.2.1) rfl Ar2.2.2 hin2 hat2 (g := (mkF m 5 #[vr la, vn j] [(.int (Int32.ofNat j)), (.ref ea)])) rfl rfl (hb hby d35_5) _) ?_
 refine so (A := (T1.setTop (mkF m 6 #[vr la, vn j] [(.ref y)]))) ?_
 refine own_ret X1 hx hlk hret rfl (Or.inr (Or.inr (Or.inr (Or.inr ⟨rfl, rfl, rfl⟩)))) (hb hby d35_6) (by decide) (by decide) ?_
 rw [e1]
 exact ⟨rfl, N0, rfl⟩
theorem ef_rmGe_2 (m : MethodId) (x0 : Nat) (x1 : Int32) : entryFrame m #[(.ref x0), (.int x1)] 2 = mkF m 0 #[vr x0, vi x1] [] := by first | (simp [entryFrame, mkF, argsToLocals, Value.category]; done) | rfl
theorem d32_0 : dk cD32 0 (.iload_n 1) 1 := by decide +kernel
theorem d32_1 : dk cD32 1 (.aload_n 0) 1 := by decide +kernel
theorem d32_2 : dk cD32 2 (.getfield 48) 3 := by decide +kernel
theorem d32_5 : dk cD32 5 (.invokestatic 118) 3 := by decide +kernel
theorem d32_8 : dk cD32 8 .pop 1 := by decide +kernel
theorem d32_9 : dk cD32 9 (.aload_n 0) 1 := by decide +kernel
theorem d32_10 : dk cD32 10 (.iload_n 1) 1 := by decide +kernel
theorem d32_11 : dk cD32 11 (.invokevirtual 123) 3 := by decide +kernel
theorem pd_20 : parseMethodDescriptor "(I)Ljava/lang/Object;" = some ⟨[.int], some (.object "java/lang/Object")⟩ := by decide +kernel
theorem d32_14 : dk cD32 14 .areturn 1 := by decide +kernel
theorem rmGe_2 (l : Launch) (Z : State) (a0 : Array Value) (hw : own_H Z a0) (ws : List Jvm.Cond) (la : Nat) (ea : Nat) (ke : ClassId) (xs : List Nat) (mc : Int32) (j : Nat) (y : Nat) (h0 : Heap) (n0 : Nat) (XO0 : Old Z n0 h0) (E_l : Exa Z h0 la "java/util/ArrayList") (F_e : Fld Z h0 la "java/util/ArrayList" "elementData" "[Ljava/lang/Object;" (.ref ea)) (F_z : Fld Z h0 la "java/util/ArrayList" "size" "I" (.int (Int32.ofNat xs.length))) (F_m : Fld Z h0 la "java/util/AbstractList" "modCount" "I" (.int mc)) (g_e : n0 ≤ ea) (n_le : la ≠ ea) (O_e : Ovr Z ke "java/lang/Object") (V_e : Arv Z h0 ea ke (.object "java/lang/Object") (10 : Int32) (xs.map Value.ref) .null) (E_e : Exa Z h0 ea "[Ljava/lang/Object;") (hi : j < xs.length) (hx9 : xs.length ≤ 9) (hy : xs[j]? = some y) :
  own_M l Z ym32 cD32 ws 2 (some (.object "java/lang/Object")) (own_R 2 0 0 27) #[(.ref la), (.int (Int32.ofNat j))] h0 (Q_Ge y h0 n0) := by
 refine own_open (plainFor_of_name pn_4) ?_
 intro p e s m below meth c s₁ hx hby hlk hret hml hown hnm hZ X0 e0
 have hW := own_hW hw
 have N0 := Fr.nil n0
 refine oo (fun tt_ kk_ => castTop (ef_rmGe_2 m la (Int32.ofNat j)) kk_) ?_
 refine so (A := (s₁.setTop (mkF m 0 #[vr la, vn j] []))) ?_
 refine oi (XS.iloadN X0.here hx rfl (hb hby d32_0) rfl) ?_
 refine oi (XS.aloadN X0.here hx rfl (hb hby d32_1) rfl rfl) ?_
 obtain ⟨T1, X1, e1, st1⟩ := getF X0 hx hZ hown (host := "") (Or.inl (hW 109 _ rfl)) Via.refl e0 F_z (g := (mkF m 2 #[vr la, vn j] [(.ref la), (.int (Int32.ofNat j))])) rfl rfl (hb hby d32_2)
 refine oo st1 ?_
 refine so (A := (T1.setTop (mkF m 5 #[vr la, vn j] [(.int (Int32.ofNat xs.length)), (.int (Int32.ofNat j))]))) ?_
 obtain ⟨_, T2, Lc2, X2, hQ2, st2⟩ := own_c1 X1 <| Jvm.LawKit.callS X1 hx (y := ym33) hown (mvT hZ (hW 226 _ rfl)) (mvT hZ (hW 227 _ rfl)) (mvT hZ (hW 228 _ rfl)) (mvT hZ (hW 229 _ rfl)) (by decide) (backOf (W := 0) (rmX2 l Z a0 hw [] (Int32.ofNat j) (Int32.ofNat xs.length) h0 n0 XO0 (own_inn (m := 10) (by omega) (by omega)).1 ((own_nlt (by omega) (by omega)).mpr hi)) hZ (hW 229 _ rfl) (hW 228 _ rfl) (by decide) (by decide)) (g := (mkF m 5 #[vr la, vn j] [(.int (Int32.ofNat xs.length)), (.int (Int32.ofNat j))])) rfl (by rw [hml]; rfl) (argsL := [(.int (Int32.ofNat j)), (.int (Int32.ofNat xs.length))]) (rest := []) (lenOf pd_4 rfl) rfl (Nat.le_of_eq rfl) (hb hby d32_5) (fun _ _ => ⟨rfl, e1, (by decide : 0 + 0 ≤ _), (by decide : 0 + 0 ≤ _)⟩)
 obtain ⟨rfl, Nq2, eh2⟩ := hQ2
 have N2 := Fr.app N0 Nq2
 refine oo st2 ?_
 refine oi (XS.pop X2.here hx rfl (hb hby d32_8) rfl rfl) ?_
 refine oi (XS.aloadN X2.here hx rfl (hb hby d32_9) rfl rfl) ?_
 refine oi (XS.iloadN X2.here hx rfl (hb hby d32_10) rfl) ?_
 refine so (A := (T2.setTop (mkF m 11 #[vr la, vn j] [(.int (Int32.ofNat j)), (.ref la)]))) ?_
 obtain ⟨cq3, kq3, q3a, q3b, q3c⟩ := isOf hZ eh2 E_l
 obtain ⟨_, T3, Lc3, X3, hQ3, st3⟩ := own_c1 X2 <| X2.virtualBack hx (y := ym35) (z := ym35) hown (mvT hZ (hW 234 _ rfl)) (mvT hZ (hW 235 _ rfl)) (notFace_of_selects (args := #[]) (mvT hZ (hW 237 _ rfl))) (mvT hZ (hW 237 _ rfl)) (mvT hZ (hW 236 _ rfl)) (by decide) (backOf (W := 0) (rmEd l Z a0 hw [] la ea ke xs mc j y h0 n0 XO0 E_l F_e F_z F_m g_e n_le O_e V_e E_e hi hx9 hy) hZ (hW 238 _ rfl) (hW 3 _ rfl) (by decide) (by decide)) q3a q3c (g := (mkF m 11 #[vr la, vn j] [(.int (Int32.ofNat j)), (.ref la)])) rfl (by rw [hml]; rfl) (Steps.refl _) (argsL := [(.int (Int32.ofNat j))]) (rest := []) (lenOf pd_20 rfl) rfl (Nat.le_of_eq rfl) (hb hby d32_11) (fun _ _ => ⟨rfl, eh2, (by decide : 0 + 0 ≤ _), (by decide : 0 + 0 ≤ _)⟩)
 obtain ⟨rfl, Nq3, eh3⟩ := hQ3
 have N3 := Fr.app N2 Nq3
 refine oo (fun tt_ kk_ => st3.trans kk_) ?_
 refine so (A := (T3.setTop (mkF m 14 #[vr la, vn j] [(.ref y)]))) ?_
 refine own_ret X3 hx hlk hret rfl (Or.inr (Or.inr (Or.inr (Or.inr ⟨rfl, rfl, rfl⟩)))) (hb hby d32_14) (by decide) (by decide) ?_
 rw [eh3]
 exact ⟨rfl, N3, rfl⟩
theorem rmGe (l : Launch) (Z : State) (a0 : Array Value) (hw : own_H Z a0) (ws : List Jvm.Cond) (dq : Nat) (la : Nat) (ea : Nat) (ke : ClassId) (xs : List Nat) (mc : Int32) (j : Nat) (y : Nat) (h0 : Heap) (n0 : Nat) (XO0 : Old Z n0 h0) (AL : own_al Z h0 dq n0 la ea ke xs mc) (hi : j < xs.length) (hx9 : xs.length ≤ 9) (hy : xs[j]? = some y) :
  own_M l Z ym32 cD32 ws 2 (some (.object "java/lang/Object")) (own_R 2 0 0 27) #[(.ref la), (.int (Int32.ofNat j))] h0 (Q_Ge y h0 n0) := by
 obtain ⟨E_l, F_e, F_z, F_m, E_e, AL⟩ := AL
 rcases AL with ⟨e1, e2, V_e⟩ | ⟨g_e, n_le, O_e, V_e⟩
 ·subst e1
  simp at hi
 ·exact rmGe_2 l Z a0 hw ws la ea ke xs mc j y h0 n0 XO0 E_l F_e F_z F_m g_e n_le O_e V_e E_e hi hx9 hy
def Q_At (h0 : Heap) (n0 : Nat) (v : Option Value) (h : Heap) (L : List Loc) : Prop := v = some (.int 1) ∧ Fr n0 L ∧ Keep h0 h []
theorem ef_rmAt0 (m : MethodId) (x0 : Nat) (x1 : Int32) (x2 : Int32) (x3 : Int32) (x4 : Int32) (x5 : Nat) (x6 : Nat) (x7 : Int32) (x8 : Nat) : entryFrame m #[(.ref x0), (.int x1), (.int x2), (.int x3), (.int x4), (.ref x5), (.ref x6), (.int x7), (.ref x8)] 12 = mkF m 0 #[vr x0, vi x1, vi x2, vi x3, vi x4, vr x5, vr x6, vi x7, vr x8, uu, uu, uu] [] := by first | (simp [entryFrame, mkF, argsToLocals, Value.category]; done) | rfl
theorem pn_12 : plainName "com/example/practory/practory/server/SearchQueryWithPinLaw" = true := by first | (simp [plainName, overriddenIn]; done) | decide +kernel
theorem d19_0 : dk cD19 0 (.iload_n 1) 1 := by decide +kernel
theorem d19_1 : dk cD19 1 (.iload_n 2) 1 := by decide +kernel
theorem d19_2 : dk cD19 2 (.if_icmp .lt 5) 3 := by decide +kernel
theorem d19_5 : dk cD19 5 (.iconst 1) 1 := by decide +kernel
theorem d19_6 : dk cD19 6 .ireturn 1 := by decide +kernel
theorem rmAt0 (l : Launch) (Z : State) (a0 : Array Value) (hw : own_H Z a0) (ws : List Jvm.Cond) (la : Nat) (dq : Nat) (ea : Nat) (ke : ClassId) (xs : List Nat) (mc : Int32) (qs : List (Int32 × Int32)) (bq : Nat) (j : Nat) (sz : Int32) (po : Int32) (kx : Int32) (cq : Int32) (an : Nat) (av : Nat) (aw : Nat) (k1 : ClassId) (k2 : ClassId) (k3 : ClassId) (ms : List Int32) (os : List Int32) (vw : List Int32) (Gc : Int32) (h0 : Heap) (n0 : Nat) (XO0 : Old Z n0 h0) (Oc : Sta Z Z.heap "java/lang/String" "COMPACT_STRINGS" "Z" (.int Gc)) (Pc : ¬ (Gc = (0 : Int32))) (AR : own_al Z h0 dq n0 la ea ke xs mc) (IR : own_its Z h0 bq xs qs) (hsz : sz = Int32.ofNat qs.length) (hx9 : xs.length ≤ 9) (hj9 : j ≤ 9) (V_n : Arv Z h0 an k1 .char (3 : Int32) (ms.map Value.int) (.int 0)) (V_w : Arv Z h0 av k2 .char (3 : Int32) (os.map Value.int) (.int 0)) (V_q : Arv Z h0 aw k3 .char (2 : Int32) (vw.map Value.int) (.int 0)) (hn : qs.length ≤ j) :
  own_M l Z ym19 cD19 ws 12 (some .boolean) (own_R 3 4 10 40) #[(.ref la), (.int (Int32.ofNat j)), (.int sz), (.int po), (.int kx), (.ref an), (.ref av), (.int cq), (.ref aw)] h0 (Q_At h0 n0) := by
 refine own_open (plainFor_of_name pn_12) ?_
 intro p e s m below meth c s₁ hx hby hlk hret hml hown hnm hZ X0 e0
 have hW := own_hW hw
 have N0 := Fr.nil n0
 refine oo (fun tt_ kk_ => castTop (ef_rmAt0 m la (Int32.ofNat j) sz po kx an av cq aw) kk_) ?_
 refine so (A := (s₁.setTop (mkF m 0 #[vr la, vn j, vi sz, vi po, vi kx, vr an, vr av, vi cq, vr aw, uu, uu, uu] []))) ?_
 have K0_ : Keep h0 h0 [] := Keep.refl h0 []
 refine oi (XS.iloadN X0.here hx rfl (hb hby d19_0) rfl) ?_
 refine oi (XS.iloadN X0.here hx rfl (hb hby d19_1) rfl) ?_
 have hb2_1 : ¬ ((Int32.ofNat j) < sz) := by rw [hsz, own_nlt (by omega) (by have := IR.len; omega)]; omega
 refine oi (XS.icmpNo X0.here hx rfl (hb hby d19_2) rfl (flt hb2_1).1) ?_
 refine so (A := (s₁.setTop (mkF m 5 #[vr la, vn j, vi sz, vi po, vi kx, vr an, vr av, vi cq, vr aw, uu, uu, uu] []))) ?_
 refine oi (XS.iconst X0.here hx rfl (hb hby d19_5)) ?_
 refine so (A := (s₁.setTop (mkF m 6 #[vr la, vn j, vi sz, vi po, vi kx, vr an, vr av, vi cq, vr aw, uu, uu, uu] [(.int 1)]))) ?_
 refine own_ret X0 hx hlk hret rfl (Or.inl ⟨rfl, by simp, _, rfl⟩) (hb hby d19_6) (by decide) (by decide) ?_
 rw [e0]
 exact ⟨rfl, N0, K0_⟩
theorem ef_rmAtA (m : MethodId) (x0 : Nat) (x1 : Int32) (x2 : Int32) (x3 : Int32) (x4 : Int32) (x5 : Nat) (x6 : Nat) (x7 : Int32) (x8 : Nat) : entryFrame m #[(.ref x0), (.int x1), (.int x2), (.int x3), (.int x4), (.ref x5), (.ref x6), (.int x7), (.ref x8)] 12 = mkF m 0 #[vr x0, vi x1, vi x2, vi x3, vi x4, vr x5, vr x6, vi x7, vr x8, uu, uu, uu] [] := by first | (simp [entryFrame, mkF, argsToLocals, Value.category]; done) | rfl
theorem d19_7 : dk cD19 7 (.iload_n 1) 1 := by decide +kernel
theorem d19_8 : dk cD19 8 (.iload_n 3) 1 := by decide +kernel
theorem d19_9 : dk cD19 9 (.if_icmp .ge 18) 3 := by decide +kernel
theorem d19_12 : dk cD19 12 (.aload 5) 2 := by decide +kernel
theorem d19_14 : dk cD19 14 (.iload_n 1) 1 := by decide +kernel
theorem d19_15 : dk cD19 15 .caload 1 := by decide +kernel
theorem d19_16 : dk cD19 16 (.istore 9) 2 := by decide +kernel
theorem d19_18 : dk cD19 18 (.aload 6) 2 := by decide +kernel
theorem d19_20 : dk cD19 20 (.iload_n 1) 1 := by decide +kernel
theorem d19_21 : dk cD19 21 .caload 1 := by decide +kernel
theorem d19_22 : dk cD19 22 (.istore 10) 2 := by decide +kernel
theorem d19_24 : dk cD19 24 (.goto 44) 3 := by decide +kernel
theorem d19_68 : dk cD19 68 (.aload_n 0) 1 := by decide +kernel
theorem d19_69 : dk cD19 69 (.iload_n 1) 1 := by decide +kernel
theorem d19_70 : dk cD19 70 (.invokeinterface 43 2) 5 := by decide +kernel
theorem d19_75 : dk cD19 75 (.checkcast 10) 3 := by decide +kernel
theorem d19_78 : dk cD19 78 (.astore 11) 2 := by decide +kernel
theorem d19_80 : dk cD19 80 (.aload 11) 2 := by decide +kernel
theorem d19_82 : dk cD19 82 (.invokevirtual 47) 3 := by decide +kernel
theorem d19_85 : dk cD19 85 (.iload 9) 2 := by decide +kernel
theorem d19_87 : dk cD19 87 (.invokestatic 12) 3 := by decide +kernel
theorem pd_21 : parseMethodDescriptor "(C)Ljava/lang/String;" = some ⟨[.char], some (.object "java/lang/String")⟩ := by decide +kernel
theorem d19_90 : dk cD19 90 (.invokevirtual 51) 3 := by decide +kernel
theorem d19_93 : dk cD19 93 (.ifCond .eq 23) 3 := by decide +kernel
theorem d19_96 : dk cD19 96 (.aload 11) 2 := by decide +kernel
theorem d19_98 : dk cD19 98 (.invokevirtual 54) 3 := by decide +kernel
theorem d19_101 : dk cD19 101 (.iload 10) 2 := by decide +kernel
theorem d19_103 : dk cD19 103 (.invokestatic 12) 3 := by decide +kernel
theorem d19_106 : dk cD19 106 (.invokevirtual 51) 3 := by decide +kernel
theorem d19_109 : dk cD19 109 (.ifCond .eq 7) 3 := by decide +kernel
theorem d19_112 : dk cD19 112 (.iconst 1) 1 := by decide +kernel
theorem d19_113 : dk cD19 113 (.goto 4) 3 := by decide +kernel
theorem d19_117 : dk cD19 117 .ireturn 1 := by decide +kernel
theorem rmAtA (l : Launch) (Z : State) (a0 : Array Value) (hw : own_H Z a0) (ws : List Jvm.Cond) (la : Nat) (dq : Nat) (ea : Nat) (ke : ClassId) (xs : List Nat) (mc : Int32) (qs : List (Int32 × Int32)) (bq : Nat) (j : Nat) (sz : Int32) (po : Int32) (kx : Int32) (cq : Int32) (an : Nat) (av : Nat) (aw : Nat) (k1 : ClassId) (k2 : ClassId) (k3 : ClassId) (ms : List Int32) (os : List Int32) (vw : List Int32) (Gc : Int32) (ca : Int32) (cb : Int32) (h0 : Heap) (n0 : Nat) (XO0 : Old Z n0 h0) (Oc : Sta Z Z.heap "java/lang/String" "COMPACT_STRINGS" "Z" (.int Gc)) (Pc : ¬ (Gc = (0 : Int32))) (AR : own_al Z h0 dq n0 la ea ke xs mc) (IR : own_its Z h0 bq xs qs) (hsz : sz = Int32.ofNat qs.length) (hx9 : xs.length ≤ 9) (hj9 : j ≤ 9) (V_n : Arv Z h0 an k1 .char (3 : Int32) (ms.map Value.int) (.int 0)) (V_w : Arv Z h0 av k2 .char (3 : Int32) (os.map Value.int) (.int 0)) (V_q : Arv Z h0 aw k3 .char (2 : Int32) (vw.map Value.int) (.int 0)) (hq : qs[j]? = some (ca, cb)) (q_p : (Int32.ofNat j) < po) (hm : ms[j]? = some ca) (ho : os[j]? = some cb) (h3 : j < 3) :
  own_M l Z ym19 cD19 ws 12 (some .boolean) (own_R 3 4 10 40) #[(.ref la), (.int (Int32.ofNat j)), (.int sz), (.int po), (.int kx), (.ref an), (.ref av), (.int cq), (.ref aw)] h0 (Q_At h0 n0) := by
 refine own_open (plainFor_of_name pn_12) ?_
 intro p e s m below meth c s₁ hx hby hlk hret hml hown hnm hZ X0 e0
 have hW := own_hW hw
 have N0 := Fr.nil n0
 refine oo (fun tt_ kk_ => castTop (ef_rmAtA m la (Int32.ofNat j) sz po kx an av cq aw) kk_) ?_
 refine so (A := (s₁.setTop (mkF m 0 #[vr la, vn j, vi sz, vi po, vi kx, vr an, vr av, vi cq, vr aw, uu, uu, uu] []))) ?_
 have K0_ : Keep h0 h0 [] := Keep.refl h0 []
 obtain ⟨y, hy, x, t, x2, t2, Py, bd1, bd2, bd3, bd4, bd5⟩ := own_its.get IR hq
 have Py' : own_par Z h0 y x t x2 t2 ca cb := Py
 have lt_y := Py'.lts
 have hjl : j < qs.length := (List.getElem?_eq_some_iff.mp hq).1
 have hle := IR.len
 refine oi (XS.iloadN X0.here hx rfl (hb hby d19_0) rfl) ?_
 refine oi (XS.iloadN X0.here hx rfl (hb hby d19_1) rfl) ?_
 have hb2_1 : (Int32.ofNat j) < sz := by rw [hsz]; exact (own_nlt (by omega) (by omega)).mpr hjl
 refine oi (XS.icmpYes X0.here hx rfl (pc0 := 2) (pc' := 7) rfl (hb hby d19_2) rfl (tlt hb2_1).1 (by decide) (by decide)) ?_
 refine so (A := (s₁.setTop (mkF m 7 #[vr la, vn j, vi sz, vi po, vi kx, vr an, vr av, vi cq, vr aw, uu, uu, uu] []))) ?_
 refine oi (XS.iloadN X0.here hx rfl (hb hby d19_7) rfl) ?_
 refine oi (XS.iloadN X0.here hx rfl (hb hby d19_8) rfl) ?_
 have hb9_2 : (Int32.ofNat j) < po := q_p
 refine oi (XS.icmpNo X0.here hx rfl (hb hby d19_9) rfl (tlt hb9_2).2.1) ?_
 refine so (A := (s₁.setTop (mkF m 12 #[vr la, vn j, vi sz, vi po, vi kx, vr an, vr av, vi cq, vr aw, uu, uu, uu] []))) ?_
 refine oi (XS.aload X0.here hx rfl (hb hby d19_12) rfl rfl) ?_
 refine oi (XS.iloadN X0.here hx rfl (hb hby d19_14) rfl) ?_
 refine so (A := (s₁.setTop (mkF m 15 #[vr la, vn j, vi sz, vi po, vi kx, vr an, vr av, vi cq, vr aw, uu, uu, uu] [(.int (Int32.ofNat j)), (.ref an)]))) ?_
 obtain ⟨cl3, Ar3, q3, S3, Ng3, H3, G3⟩ := id V_n
 have hin3 : ¬ ((Int32.ofNat j) < 0 ∨ cl3.slots.size ≤ ((Int32.ofNat j)).toNatClampNeg) := inb_of S3 (own_inn (m := 3) (by omega) (by omega))
 have hat3 : cl3.slots[((Int32.ofNat j)).toNatClampNeg]? = some (.int ca) := Has.at H3 hin3 (own_hget (by omega) hm)
 refine oo (fun _ => X0.caload hx (j := (Int32.ofNat j)) (v := (.int ca)) (by rw [e0]; exact Ar3.1) (State.isArrayOf_alike hZ.alike Ar3.2.1) Ar3.2.2 hin3 hat3 (g := (mkF m 15 #[vr la, vn j, vi sz, vi po, vi kx, vr an, vr av, vi cq, vr aw, uu, uu, uu] [(.int (Int32.ofNat j)), (.ref an)])) rfl rfl (hb hby d19_15) _) ?_
 refine oi (XS.istore X0.here hx rfl (hb hby d19_16) rfl (l' := #[vr la, vn j, vi sz, vi po, vi kx, vr an, vr av, vi cq, vr aw, vi ca, uu, uu]) rfl) ?_
 refine oi (XS.aload X0.here hx rfl (hb hby d19_18) rfl rfl) ?_
 refine oi (XS.iloadN X0.here hx rfl (hb hby d19_20) rfl) ?_
 refine so (A := (s₁.setTop (mkF m 21 #[vr la, vn j, vi sz, vi po, vi kx, vr an, vr av, vi cq, vr aw, vi ca, uu, uu] [(.int (Int32.ofNat j)), (.ref av)]))) ?_
 obtain ⟨cl4, Ar4, q4, S4, Ng4, H4, G4⟩ := id V_w
 have hin4 : ¬ ((Int32.ofNat j) < 0 ∨ cl4.slots.size ≤ ((Int32.ofNat j)).toNatClampNeg) := inb_of S4 (own_inn (m := 3) (by omega) (by omega))
 have hat4 : cl4.slots[((Int32.ofNat j)).toNatClampNeg]? = some (.int cb) := Has.at H4 hin4 (own_hget (by omega) ho)
 refine oo (fun _ => X0.caload hx (j := (Int32.ofNat j)) (v := (.int cb)) (by rw [e0]; exact Ar4.1) (State.isArrayOf_alike hZ.alike Ar4.2.1) Ar4.2.2 hin4 hat4 (g := (mkF m 21 #[vr la, vn j, vi sz, vi po, vi kx, vr an, vr av, vi cq, vr aw, vi ca, uu, uu] [(.int (Int32.ofNat j)), (.ref av)])) rfl rfl (hb hby d19_21) _) ?_
 refine oi (XS.istore X0.here hx rfl (hb hby d19_22) rfl (l' := #[vr la, vn j, vi sz, vi po, vi kx, vr an, vr av, vi cq, vr aw, vi ca, vi cb, uu]) rfl) ?_
 refine oi (XS.goto X0.here hx rfl (pc0 := 24) (pc' := 68) rfl (hb hby d19_24) (by decide) (by decide)) ?_
 refine oi (XS.aloadN X0.here hx rfl (hb hby d19_68) rfl rfl) ?_
 refine oi (XS.iloadN X0.here hx rfl (hb hby d19_69) rfl) ?_
 refine so (A := (s₁.setTop (mkF m 70 #[vr la, vn j, vi sz, vi po, vi kx, vr an, vr av, vi cq, vr aw, vi ca, vi cb, uu] [(.int (Int32.ofNat j)), (.ref la)]))) ?_
 obtain ⟨cq5, kq5, q5a, q5b, q5c⟩ := isOf hZ e0 AR.1
 obtain ⟨_, T5, Lc5, X5, hQ5, st5⟩ := own_c1 X0 <| X0.interfaceBack hx (xi := ym8494) (y := ym32) hown (mvT hZ (hW 218 _ rfl)) (mvT hZ (hW 219 _ rfl)) (mvT hZ (hW 220 _ rfl)) (mvT hZ (hW 221 _ rfl)) (mvT hZ (hW 222 _ rfl)) (mvT hZ (hW 223 _ rfl)) (mvT hZ (hW 224 _ rfl)) (mvT hZ (hW 64 _ rfl)) (by decide) (backOf (W := 0) (rmGe l Z a0 hw [] dq la ea ke xs mc j y h0 n0 XO0 AR (by omega) hx9 hy) hZ (hW 225 _ rfl) (hW 3 _ rfl) (by decide) (by decide)) q5a q5b q5c (g := (mkF m 70 #[vr la, vn j, vi sz, vi po, vi kx, vr an, vr av, vi cq, vr aw, vi ca, vi cb, uu] [(.int (Int32.ofNat j)), (.ref la)])) rfl (by rw [hml]; rfl) (Steps.refl _) (argsL := [(.int (Int32.ofNat j))]) (rest := []) (lenOf pd_20 rfl) rfl (Nat.le_of_eq rfl) (hb hby d19_70) (fun _ _ => ⟨rfl, e0, (by decide : 0 + 0 ≤ _), (by decide : 0 + 0 ≤ _)⟩)
 obtain ⟨rfl, Nq5, eh5⟩ := hQ5
 have N5 := Fr.app N0 Nq5
 refine oo (fun tt_ kk_ => st5.trans kk_) ?_
 obtain ⟨T6, X6, e6, st6⟩ := castY X5 hx hZ hown (hW 147 _ rfl) eh5 (Ins.self Py'.1) (g := (mkF m 75 #[vr la, vn j, vi sz, vi po, vi kx, vr an, vr av, vi cq, vr aw, vi ca, vi cb, uu] [(.ref y)])) rfl rfl (hb hby d19_75)
 refine oo st6 ?_
 refine oi (XS.astore X6.here hx rfl (hb hby d19_78) rfl rfl (l' := #[vr la, vn j, vi sz, vi po, vi kx, vr an, vr av, vi cq, vr aw, vi ca, vi cb, vr y]) rfl) ?_
 refine oi (XS.aload X6.here hx rfl (hb hby d19_80) rfl rfl) ?_
 refine so (A := (T6.setTop (mkF m 82 #[vr la, vn j, vi sz, vi po, vi kx, vr an, vr av, vi cq, vr aw, vi ca, vi cb, vr y] [(.ref y)]))) ?_
 obtain ⟨cq7, kq7, q7a, q7b, q7c⟩ := isOf hZ e6 Py'.1
 obtain ⟨_, T7, Lc7, X7, hQ7, st7⟩ := own_c1 X6 <| X6.virtualBack hx (y := ym29) (z := ym29) hown (mvT hZ (hW 239 _ rfl)) (mvT hZ (hW 205 _ rfl)) (notFace_of_selects (args := #[]) (mvT hZ (hW 207 _ rfl))) (mvT hZ (hW 207 _ rfl)) (mvT hZ (hW 206 _ rfl)) (by decide) (backOf (W := 0) (rmN_name l Z a0 hw [] y x h0 n0 XO0 Py'.2.1) hZ (hW 208 _ rfl) (hW 149 _ rfl) (by decide) (by decide)) q7a q7c (g := (mkF m 82 #[vr la, vn j, vi sz, vi po, vi kx, vr an, vr av, vi cq, vr aw, vi ca, vi cb, vr y] [(.ref y)])) rfl (by rw [hml]; rfl) (Steps.refl _) (argsL := []) (rest := []) (lenOf pd_16 rfl) rfl (Nat.le_of_eq rfl) (hb hby d19_82) (fun _ _ => ⟨rfl, e6, (by decide : 0 + 0 ≤ _), (by decide : 0 + 0 ≤ _)⟩)
 obtain ⟨rfl, Nq7, eh7⟩ := hQ7
 have N7 := Fr.app N5 Nq7
 refine oo (fun tt_ kk_ => st7.trans kk_) ?_
 refine oi (XS.iload X7.here hx rfl (hb hby d19_85) rfl) ?_
 refine so (A := (T7.setTop (mkF m 87 #[vr la, vn j, vi sz, vi po, vi kx, vr an, vr av, vi cq, vr aw, vi ca, vi cb, vr y] [(.int ca), (.ref x)]))) ?_
 obtain ⟨_, T8, Lc8, X8, hQ8, st8⟩ := own_c1 X7 <| Jvm.LawKit.callS X7 hx (y := ym5) hown (mvT hZ (hW 27 _ rfl)) (mvT hZ (hW 28 _ rfl)) (mvT hZ (hW 29 _ rfl)) (mvT hZ (hW 30 _ rfl)) (by decide) (backOf (W := 1) (rmVO l Z a0 hw [] ca Gc h0 n0 XO0 Oc Pc Py'.2.2.2.1.1) hZ (hW 30 _ rfl) (hW 29 _ rfl) (by decide) (by decide)) (g := (mkF m 87 #[vr la, vn j, vi sz, vi po, vi kx, vr an, vr av, vi cq, vr aw, vi ca, vi cb, vr y] [(.int ca), (.ref x)])) rfl (by rw [hml]; rfl) (argsL := [(.int ca)]) (rest := [(.ref x)]) (lenOf pd_21 rfl) rfl (Nat.le_of_eq rfl) (hb hby d19_87) (fun _ _ => ⟨rfl, eh7, (by decide : 0 + 2 ≤ _), (by decide : 0 + 5 ≤ _)⟩)
 obtain ⟨x8, t8, rfl, Nq8, Kp8, gx8, lx8, gt8, lt8, nx8, Sx8⟩ := hQ8
 have N8 := Fr.app N7 Nq8
 refine oo st8 ?_
 have sz8 : h0.size ≤ T8.heap.size := Kp8.1
 have O8 : Old Z n0 T8.heap := XO0.keep Kp8 all0
 have K8 : Keep h0 T8.heap [] := K0_.trans Kp8 all0
 have Ex8 := Sx8.exa
 refine so (A := (T8.setTop (mkF m 90 #[vr la, vn j, vi sz, vi po, vi kx, vr an, vr av, vi cq, vr aw, vi ca, vi cb, vr y] [(.ref x8), (.ref x)]))) ?_
 have f9 : own_par Z T8.heap y x t x2 t2 ca cb := Py'.keep K8 nin0 nin0 nin0 nin0 nin0
 have f11 : Exa Z T8.heap x "java/lang/String" := (Py'.2.2.2.1.exa.keep Kp8)
 obtain ⟨cq10, kq10, q10a, q10b, q10c⟩ := isOf hZ rfl f11
 obtain ⟨_, T10, Lc10, X10, hQ10, st10⟩ := own_c1 X8 <| X8.virtualBack hx (y := ym30) (z := ym30) hown (mvT hZ (hW 240 _ rfl)) (mvT hZ (hW 210 _ rfl)) (notFace_of_selects (args := #[]) (mvT hZ (hW 212 _ rfl))) (mvT hZ (hW 212 _ rfl)) (mvT hZ (hW 211 _ rfl)) (by decide) (backOf (W := 0) (rmEq l Z a0 hw [] x t x8 t8 ca ca Gc T8.heap n0 O8 Oc Pc f9.2.2.2.1 Sx8 (by omega)) hZ (hW 213 _ rfl) (hW 29 _ rfl) (by decide) (by decide)) q10a q10c (g := (mkF m 90 #[vr la, vn j, vi sz, vi po, vi kx, vr an, vr av, vi cq, vr aw, vi ca, vi cb, vr y] [(.ref x8), (.ref x)])) rfl (by rw [hml]; rfl) (Steps.refl _) (argsL := [(.ref x8)]) (rest := []) (lenOf pd_17 rfl) rfl (Nat.le_of_eq rfl) (hb hby d19_90) (fun _ _ => ⟨rfl, rfl, (by decide : 2 + 0 ≤ _), (by decide : 5 + 0 ≤ _)⟩)
 obtain ⟨rfl, Nq10, eh10⟩ := hQ10
 have N10 := Fr.app N8 Nq10
 refine oo (fun tt_ kk_ => st10.trans kk_) ?_
 have hb93_12 : ¬ ((own_eqi ca ca) = (0 : Int32)) := own_eqin _
 refine oi (XS.ifNo X10.here hx rfl (hb hby d19_93) rfl ((if0 _ _).trans (feq hb93_12).1)) ?_
 refine so (A := (T10.setTop (mkF m 96 #[vr la, vn j, vi sz, vi po, vi kx, vr an, vr av, vi cq, vr aw, vi ca, vi cb, vr y] []))) ?_
 refine oi (XS.aload X10.here hx rfl (hb hby d19_96) rfl rfl) ?_
 refine so (A := (T10.setTop (mkF m 98 #[vr la, vn j, vi sz, vi po, vi kx, vr an, vr av, vi cq, vr aw, vi ca, vi cb, vr y] [(.ref y)]))) ?_
 have f14 : Exa Z T8.heap y "com/example/practory/practory/server/SearchQuery$Parameter" := Py'.1.keep K8
 obtain ⟨cq13, kq13, q13a, q13b, q13c⟩ := isOf hZ eh10 f14
 obtain ⟨_, T13, Lc13, X13, hQ13, st13⟩ := own_c1 X10 <| X10.virtualBack hx (y := ym36) (z := ym36) hown (mvT hZ (hW 241 _ rfl)) (mvT hZ (hW 242 _ rfl)) (notFace_of_selects (args := #[]) (mvT hZ (hW 244 _ rfl))) (mvT hZ (hW 244 _ rfl)) (mvT hZ (hW 243 _ rfl)) (by decide) (backOf (W := 0) (rmN_value l Z a0 hw [] y x2 T8.heap n0 O8 f9.2.2.1) hZ (hW 245 _ rfl) (hW 149 _ rfl) (by decide) (by decide)) q13a q13c (g := (mkF m 98 #[vr la, vn j, vi sz, vi po, vi kx, vr an, vr av, vi cq, vr aw, vi ca, vi cb, vr y] [(.ref y)])) rfl (by rw [hml]; rfl) (Steps.refl _) (argsL := []) (rest := []) (lenOf pd_16 rfl) rfl (Nat.le_of_eq rfl) (hb hby d19_98) (fun _ _ => ⟨rfl, eh10, (by decide : 2 + 0 ≤ _), (by decide : 5 + 0 ≤ _)⟩)
 obtain ⟨rfl, Nq13, eh13⟩ := hQ13
 have N13 := Fr.app N10 Nq13
 refine oo (fun tt_ kk_ => st13.trans kk_) ?_
 refine oi (XS.iload X13.here hx rfl (hb hby d19_101) rfl) ?_
 refine so (A := (T13.setTop (mkF m 103 #[vr la, vn j, vi sz, vi po, vi kx, vr an, vr av, vi cq, vr aw, vi ca, vi cb, vr y] [(.int cb), (.ref x2)]))) ?_
 obtain ⟨_, T15, Lc15, X15, hQ15, st15⟩ := own_c1 X13 <| Jvm.LawKit.callS X13 hx (y := ym5) hown (mvT hZ (hW 27 _ rfl)) (mvT hZ (hW 28 _ rfl)) (mvT hZ (hW 29 _ rfl)) (mvT hZ (hW 30 _ rfl)) (by decide) (backOf (W := 1) (rmVO l Z a0 hw [] cb Gc T8.heap n0 O8 Oc Pc Py'.2.2.2.2.1) hZ (hW 30 _ rfl) (hW 29 _ rfl) (by decide) (by decide)) (g := (mkF m 103 #[vr la, vn j, vi sz, vi po, vi kx, vr an, vr av, vi cq, vr aw, vi ca, vi cb, vr y] [(.int cb), (.ref x2)])) rfl (by rw [hml]; rfl) (argsL := [(.int cb)]) (rest := [(.ref x2)]) (lenOf pd_21 rfl) rfl (Nat.le_of_eq rfl) (hb hby d19_103) (fun _ _ => ⟨rfl, eh13, (by decide : 2 + 2 ≤ _), (by decide : 5 + 5 ≤ _)⟩)
 obtain ⟨x15, t15, rfl, Nq15, Kp15, gx15, lx15, gt15, lt15, nx15, Sx15⟩ := hQ15
 have N15 := Fr.app N13 Nq15
 refine oo st15 ?_
 have sz15 : T8.heap.size ≤ T15.heap.size := Kp15.1
 have O15 : Old Z n0 T15.heap := O8.keep Kp15 all0
 have K15 : Keep h0 T15.heap [] := K8.trans Kp15 all0
 have Ex15 := Sx15.exa
 refine so (A := (T15.setTop (mkF m 106 #[vr la, vn j, vi sz, vi po, vi kx, vr an, vr av, vi cq, vr aw, vi ca, vi cb, vr y] [(.ref x15), (.ref x2)]))) ?_
 have f16 : own_par Z T15.heap y x t x2 t2 ca cb := (f9.keep Kp15 nin0 nin0 nin0 nin0 nin0)
 have f18 : Exa Z T15.heap x2 "java/lang/String" := (f9.2.2.2.2.exa.keep Kp15)
 obtain ⟨cq17, kq17, q17a, q17b, q17c⟩ := isOf hZ rfl f18
 obtain ⟨_, T17, Lc17, X17, hQ17, st17⟩ := own_c1 X15 <| X15.virtualBack hx (y := ym30) (z := ym30) hown (mvT hZ (hW 240 _ rfl)) (mvT hZ (hW 210 _ rfl)) (notFace_of_selects (args := #[]) (mvT hZ (hW 212 _ rfl))) (mvT hZ (hW 212 _ rfl)) (mvT hZ (hW 211 _ rfl)) (by decide) (backOf (W := 0) (rmEq l Z a0 hw [] x2 t2 x15 t15 cb cb Gc T15.heap n0 O15 Oc Pc f16.2.2.2.2 Sx15 (by omega)) hZ (hW 213 _ rfl) (hW 29 _ rfl) (by decide) (by decide)) q17a q17c (g := (mkF m 106 #[vr la, vn j, vi sz, vi po, vi kx, vr an, vr av, vi cq, vr aw, vi ca, vi cb, vr y] [(.ref x15), (.ref x2)])) rfl (by rw [hml]; rfl) (Steps.refl _) (argsL := [(.ref x15)]) (rest := []) (lenOf pd_17 rfl) rfl (Nat.le_of_eq rfl) (hb hby d19_106) (fun _ _ => ⟨rfl, rfl, (by decide : 4 + 0 ≤ _), (by decide : 10 + 0 ≤ _)⟩)
 obtain ⟨rfl, Nq17, eh17⟩ := hQ17
 have N17 := Fr.app N15 Nq17
 refine oo (fun tt_ kk_ => st17.trans kk_) ?_
 have hb109_19 : ¬ ((own_eqi cb cb) = (0 : Int32)) := own_eqin _
 refine oi (XS.ifNo X17.here hx rfl (hb hby d19_109) rfl ((if0 _ _).trans (feq hb109_19).1)) ?_
 refine so (A := (T17.setTop (mkF m 112 #[vr la, vn j, vi sz, vi po, vi kx, vr an, vr av, vi cq, vr aw, vi ca, vi cb, vr y] []))) ?_
 refine oi (XS.iconst X17.here hx rfl (hb hby d19_112)) ?_
 refine oi (XS.goto X17.here hx rfl (pc0 := 113) (pc' := 117) rfl (hb hby d19_113) (by decide) (by decide)) ?_
 refine so (A := (T17.setTop (mkF m 117 #[vr la, vn j, vi sz, vi po, vi kx, vr an, vr av, vi cq, vr aw, vi ca, vi cb, vr y] [(.int 1)]))) ?_
 refine own_ret X17 hx hlk hret rfl (Or.inl ⟨rfl, by simp, _, rfl⟩) (hb hby d19_117) (by decide) (by decide) ?_
 rw [eh17]
 exact ⟨rfl, N17, K15⟩
theorem ef_rmAtB (m : MethodId) (x0 : Nat) (x1 : Int32) (x2 : Int32) (x3 : Int32) (x4 : Int32) (x5 : Nat) (x6 : Nat) (x7 : Int32) (x8 : Nat) : entryFrame m #[(.ref x0), (.int x1), (.int x2), (.int x3), (.int x4), (.ref x5), (.ref x6), (.int x7), (.ref x8)] 12 = mkF m 0 #[vr x0, vi x1, vi x2, vi x3, vi x4, vr x5, vr x6, vi x7, vr x8, uu, uu, uu] [] := by first | (simp [entryFrame, mkF, argsToLocals, Value.category]; done) | rfl
theorem d19_27 : dk cD19 27 (.iload_n 1) 1 := by decide +kernel
theorem d19_28 : dk cD19 28 (.iload_n 3) 1 := by decide +kernel
theorem d19_29 : dk cD19 29 (.iload 4) 2 := by decide +kernel
theorem d19_31 : dk cD19 31 .iadd 1 := by decide +kernel
theorem d19_32 : dk cD19 32 (.if_icmp .ge 18) 3 := by decide +kernel
theorem d19_35 : dk cD19 35 (.iload 7) 2 := by decide +kernel
theorem d19_37 : dk cD19 37 (.istore 9) 2 := by decide +kernel
theorem d19_39 : dk cD19 39 (.aload 8) 2 := by decide +kernel
theorem d19_41 : dk cD19 41 (.iload_n 1) 1 := by decide +kernel
theorem d19_42 : dk cD19 42 (.iload_n 3) 1 := by decide +kernel
theorem d19_43 : dk cD19 43 .isub 1 := by decide +kernel
theorem d19_44 : dk cD19 44 .caload 1 := by decide +kernel
theorem d19_45 : dk cD19 45 (.istore 10) 2 := by decide +kernel
theorem d19_47 : dk cD19 47 (.goto 21) 3 := by decide +kernel
theorem rmAtB (l : Launch) (Z : State) (a0 : Array Value) (hw : own_H Z a0) (ws : List Jvm.Cond) (la : Nat) (dq : Nat) (ea : Nat) (ke : ClassId) (xs : List Nat) (mc : Int32) (qs : List (Int32 × Int32)) (bq : Nat) (j : Nat) (sz : Int32) (po : Int32) (kx : Int32) (cq : Int32) (an : Nat) (av : Nat) (aw : Nat) (k1 : ClassId) (k2 : ClassId) (k3 : ClassId) (ms : List Int32) (os : List Int32) (vw : List Int32) (Gc : Int32) (ca : Int32) (cb : Int32) (i : Nat) (h0 : Heap) (n0 : Nat) (XO0 : Old Z n0 h0) (Oc : Sta Z Z.heap "java/lang/String" "COMPACT_STRINGS" "Z" (.int Gc)) (Pc : ¬ (Gc = (0 : Int32))) (AR : own_al Z h0 dq n0 la ea ke xs mc) (IR : own_its Z h0 bq xs qs) (hsz : sz = Int32.ofNat qs.length) (hx9 : xs.length ≤ 9) (hj9 : j ≤ 9) (V_n : Arv Z h0 an k1 .char (3 : Int32) (ms.map Value.int) (.int 0)) (V_w : Arv Z h0 av k2 .char (3 : Int32) (os.map Value.int) (.int 0)) (V_q : Arv Z h0 aw k3 .char (2 : Int32) (vw.map Value.int) (.int 0)) (hq : qs[j]? = some (ca, cb)) (q_p : ¬ ((Int32.ofNat j) < po)) (q_k : (Int32.ofNat j) < (po + kx)) (e_c : cq = ca) (e_i : ((Int32.ofNat j) - po) = (Int32.ofNat i)) (ho : vw[i]? = some cb) (h3 : i < 2) :
  own_M l Z ym19 cD19 ws 12 (some .boolean) (own_R 3 4 10 40) #[(.ref la), (.int (Int32.ofNat j)), (.int sz), (.int po), (.int kx), (.ref an), (.ref av), (.int cq), (.ref aw)] h0 (Q_At h0 n0) := by
 refine own_open (plainFor_of_name pn_12) ?_
 intro p e s m below meth c s₁ hx hby hlk hret hml hown hnm hZ X0 e0
 have hW := own_hW hw
 have N0 := Fr.nil n0
 refine oo (fun tt_ kk_ => castTop (ef_rmAtB m la (Int32.ofNat j) sz po kx an av cq aw) kk_) ?_
 refine so (A := (s₁.setTop (mkF m 0 #[vr la, vn j, vi sz, vi po, vi kx, vr an, vr av, vi cq, vr aw, uu, uu, uu] []))) ?_
 have K0_ : Keep h0 h0 [] := Keep.refl h0 []
 obtain ⟨y, hy, x, t, x2, t2, Py, bd1, bd2, bd3, bd4, bd5⟩ := own_its.get IR hq
 have Py' : own_par Z h0 y x t x2 t2 ca cb := Py
 have lt_y := Py'.lts
 have hjl : j < qs.length := (List.getElem?_eq_some_iff.mp hq).1
 have hle := IR.len
 refine oi (XS.iloadN X0.here hx rfl (hb hby d19_0) rfl) ?_
 refine oi (XS.iloadN X0.here hx rfl (hb hby d19_1) rfl) ?_
 have hb2_1 : (Int32.ofNat j) < sz := by rw [hsz]; exact (own_nlt (by omega) (by omega)).mpr hjl
 refine oi (XS.icmpYes X0.here hx rfl (pc0 := 2) (pc' := 7) rfl (hb hby d19_2) rfl (tlt hb2_1).1 (by decide) (by decide)) ?_
 refine so (A := (s₁.setTop (mkF m 7 #[vr la, vn j, vi sz, vi po, vi kx, vr an, vr av, vi cq, vr aw, uu, uu, uu] []))) ?_
 refine oi (XS.iloadN X0.here hx rfl (hb hby d19_7) rfl) ?_
 refine oi (XS.iloadN X0.here hx rfl (hb hby d19_8) rfl) ?_
 have hb9_2 : ¬ ((Int32.ofNat j) < po) := q_p
 refine oi (XS.icmpYes X0.here hx rfl (pc0 := 9) (pc' := 27) rfl (hb hby d19_9) rfl (flt hb9_2).2.1 (by decide) (by decide)) ?_
 refine so (A := (s₁.setTop (mkF m 27 #[vr la, vn j, vi sz, vi po, vi kx, vr an, vr av, vi cq, vr aw, uu, uu, uu] []))) ?_
 refine oi (XS.iloadN X0.here hx rfl (hb hby d19_27) rfl) ?_
 refine oi (XS.iloadN X0.here hx rfl (hb hby d19_28) rfl) ?_
 refine oi (XS.iload X0.here hx rfl (hb hby d19_29) rfl) ?_
 refine oi (XS.iadd X0.here hx rfl (hb hby d19_31) rfl) ?_
 have hb32_3 : (Int32.ofNat j) < (po + kx) := q_k
 refine oi (XS.icmpNo X0.here hx rfl (hb hby d19_32) rfl (tlt hb32_3).2.1) ?_
 refine so (A := (s₁.setTop (mkF m 35 #[vr la, vn j, vi sz, vi po, vi kx, vr an, vr av, vi cq, vr aw, uu, uu, uu] []))) ?_
 refine oi (XS.iload X0.here hx rfl (hb hby d19_35) rfl) ?_
 refine so (A := (s₁.setTop (mkF m 37 #[vr la, vn j, vi sz, vi po, vi kx, vr an, vr av, vi cq, vr aw, uu, uu, uu] [(.int cq)]))) ?_
 rw [e_c]
 refine so (A := (s₁.setTop (mkF m 37 #[vr la, vn j, vi sz, vi po, vi kx, vr an, vr av, vi ca, vr aw, uu, uu, uu] [(.int ca)]))) ?_
 refine oi (XS.istore X0.here hx rfl (hb hby d19_37) rfl (l' := #[vr la, vn j, vi sz, vi po, vi kx, vr an, vr av, vi ca, vr aw, vi ca, uu, uu]) rfl) ?_
 refine oi (XS.aload X0.here hx rfl (hb hby d19_39) rfl rfl) ?_
 refine oi (XS.iloadN X0.here hx rfl (hb hby d19_41) rfl) ?_
 refine oi (XS.iloadN X0.here hx rfl (hb hby d19_42) rfl) ?_
 refine oi (XS.isub X0.here hx rfl (hb hby d19_43) rfl) ?_
 refine so (A := (s₁.setTop (mkF m 44 #[vr la, vn j, vi sz, vi po, vi kx, vr an, vr av, vi ca, vr aw, vi ca, uu, uu] [(.int ((Int32.ofNat j) - po)), (.ref aw)]))) ?_
 rw [e_i]
 refine so (A := (s₁.setTop (mkF m 44 #[vr la, vn j, vi sz, vi po, vi kx, vr an, vr av, vi ca, vr aw, vi ca, uu, uu] [(.int (Int32.ofNat i)), (.ref aw)]))) ?_
 obtain ⟨cl4, Ar4, q4, S4, Ng4, H4, G4⟩ := id V_q
 have hin4 : ¬ ((Int32.ofNat i) < 0 ∨ cl4.slots.size ≤ ((Int32.ofNat i)).toNatClampNeg) := inb_of S4 (own_inn (m := 2) (by omega) (by omega))
 have hat4 : cl4.slots[((Int32.ofNat i)).toNatClampNeg]? = some (.int cb) := Has.at H4 hin4 (own_hget (by omega) ho)
 refine oo (fun _ => X0.caload hx (j := (Int32.ofNat i)) (v := (.int cb)) (by rw [e0]; exact Ar4.1) (State.isArrayOf_alike hZ.alike Ar4.2.1) Ar4.2.2 hin4 hat4 (g := (mkF m 44 #[vr la, vn j, vi sz, vi po, vi kx, vr an, vr av, vi ca, vr aw, vi ca, uu, uu] [(.int (Int32.ofNat i)), (.ref aw)])) rfl rfl (hb hby d19_44) _) ?_
 refine oi (XS.istore X0.here hx rfl (hb hby d19_45) rfl (l' := #[vr la, vn j, vi sz, vi po, vi kx, vr an, vr av, vi ca, vr aw, vi ca, vi cb, uu]) rfl) ?_
 refine oi (XS.goto X0.here hx rfl (pc0 := 47) (pc' := 68) rfl (hb hby d19_47) (by decide) (by decide)) ?_
 refine oi (XS.aloadN X0.here hx rfl (hb hby d19_68) rfl rfl) ?_
 refine oi (XS.iloadN X0.here hx rfl (hb hby d19_69) rfl) ?_
 refine so (A := (s₁.setTop (mkF m 70 #[vr la, vn j, vi sz, vi po, vi kx, vr an, vr av, vi ca, vr aw, vi ca, vi cb, uu] [(.int (Int32.ofNat j)), (.ref la)]))) ?_
 obtain ⟨cq5, kq5, q5a, q5b, q5c⟩ := isOf hZ e0 AR.1
 obtain ⟨_, T5, Lc5, X5, hQ5, st5⟩ := own_c1 X0 <| X0.interfaceBack hx (xi := ym8494) (y := ym32) hown (mvT hZ (hW 218 _ rfl)) (mvT hZ (hW 219 _ rfl)) (mvT hZ (hW 220 _ rfl)) (mvT hZ (hW 221 _ rfl)) (mvT hZ (hW 222 _ rfl)) (mvT hZ (hW 223 _ rfl)) (mvT hZ (hW 224 _ rfl)) (mvT hZ (hW 64 _ rfl)) (by decide) (backOf (W := 0) (rmGe l Z a0 hw [] dq la ea ke xs mc j y h0 n0 XO0 AR (by omega) hx9 hy) hZ (hW 225 _ rfl) (hW 3 _ rfl) (by decide) (by decide)) q5a q5b q5c (g := (mkF m 70 #[vr la, vn j, vi sz, vi po, vi kx, vr an, vr av, vi ca, vr aw, vi ca, vi cb, uu] [(.int (Int32.ofNat j)), (.ref la)])) rfl (by rw [hml]; rfl) (Steps.refl _) (argsL := [(.int (Int32.ofNat j))]) (rest := []) (lenOf pd_20 rfl) rfl (Nat.le_of_eq rfl) (hb hby d19_70) (fun _ _ => ⟨rfl, e0, (by decide : 0 + 0 ≤ _), (by decide : 0 + 0 ≤ _)⟩)
 obtain ⟨rfl, Nq5, eh5⟩ := hQ5
 have N5 := Fr.app N0 Nq5
 refine oo (fun tt_ kk_ => st5.trans kk_) ?_
 obtain ⟨T6, X6, e6, st6⟩ := castY X5 hx hZ hown (hW 147 _ rfl) eh5 (Ins.self Py'.1) (g := (mkF m 75 #[vr la, vn j, vi sz, vi po, vi kx, vr an, vr av, vi ca, vr aw, vi ca, vi cb, uu] [(.ref y)])) rfl rfl (hb hby d19_75)
 refine oo st6 ?_
 refine oi (XS.astore X6.here hx rfl (hb hby d19_78) rfl rfl (l' := #[vr la, vn j, vi sz, vi po, vi kx, vr an, vr av, vi ca, vr aw, vi ca, vi cb, vr y]) rfl) ?_
 refine oi (XS.aload X6.here hx rfl (hb hby d19_80) rfl rfl) ?_
 refine so (A := (T6.setTop (mkF m 82 #[vr la, vn j, vi sz, vi po, vi kx, vr an, vr av, vi ca, vr aw, vi ca, vi cb, vr y] [(.ref y)]))) ?_
 obtain ⟨cq7, kq7, q7a, q7b, q7c⟩ := isOf hZ e6 Py'.1
 obtain ⟨_, T7, Lc7, X7, hQ7, st7⟩ := own_c1 X6 <| X6.virtualBack hx (y := ym29) (z := ym29) hown (mvT hZ (hW 239 _ rfl)) (mvT hZ (hW 205 _ rfl)) (notFace_of_selects (args := #[]) (mvT hZ (hW 207 _ rfl))) (mvT hZ (hW 207 _ rfl)) (mvT hZ (hW 206 _ rfl)) (by decide) (backOf (W := 0) (rmN_name l Z a0 hw [] y x h0 n0 XO0 Py'.2.1) hZ (hW 208 _ rfl) (hW 149 _ rfl) (by decide) (by decide)) q7a q7c (g := (mkF m 82 #[vr la, vn j, vi sz, vi po, vi kx, vr an, vr av, vi ca, vr aw, vi ca, vi cb, vr y] [(.ref y)])) rfl (by rw [hml]; rfl) (Steps.refl _) (argsL := []) (rest := []) (lenOf pd_16 rfl) rfl (Nat.le_of_eq rfl) (hb hby d19_82) (fun _ _ => ⟨rfl, e6, (by decide : 0 + 0 ≤ _), (by decide : 0 + 0 ≤ _)⟩)
 obtain ⟨rfl, Nq7, eh7⟩ := hQ7
 have N7 := Fr.app N5 Nq7
 refine oo (fun tt_ kk_ => st7.trans kk_) ?_
 refine oi (XS.iload X7.here hx rfl (hb hby d19_85) rfl) ?_
 refine so (A := (T7.setTop (mkF m 87 #[vr la, vn j, vi sz, vi po, vi kx, vr an, vr av, vi ca, vr aw, vi ca, vi cb, vr y] [(.int ca), (.ref x)]))) ?_
 obtain ⟨_, T8, Lc8, X8, hQ8, st8⟩ := own_c1 X7 <| Jvm.LawKit.callS X7 hx (y := ym5) hown (mvT hZ (hW 27 _ rfl)) (mvT hZ (hW 28 _ rfl)) (mvT hZ (hW 29 _ rfl)) (mvT hZ (hW 30 _ rfl)) (by decide) (backOf (W := 1) (rmVO l Z a0 hw [] ca Gc h0 n0 XO0 Oc Pc Py'.2.2.2.1.1) hZ (hW 30 _ rfl) (hW 29 _ rfl) (by decide) (by decide)) (g := (mkF m 87 #[vr la, vn j, vi sz, vi po, vi kx, vr an, vr av, vi ca, vr aw, vi ca, vi cb, vr y] [(.int ca), (.ref x)])) rfl (by rw [hml]; rfl) (argsL := [(.int ca)]) (rest := [(.ref x)]) (lenOf pd_21 rfl) rfl (Nat.le_of_eq rfl) (hb hby d19_87) (fun _ _ => ⟨rfl, eh7, (by decide : 0 + 2 ≤ _), (by decide : 0 + 5 ≤ _)⟩)
 obtain ⟨x8, t8, rfl, Nq8, Kp8, gx8, lx8, gt8, lt8, nx8, Sx8⟩ := hQ8
 have N8 := Fr.app N7 Nq8
 refine oo st8 ?_
 have sz8 : h0.size ≤ T8.heap.size := Kp8.1
 have O8 : Old Z n0 T8.heap := XO0.keep Kp8 all0
 have K8 : Keep h0 T8.heap [] := K0_.trans Kp8 all0
 have Ex8 := Sx8.exa
 refine so (A := (T8.setTop (mkF m 90 #[vr la, vn j, vi sz, vi po, vi kx, vr an, vr av, vi ca, vr aw, vi ca, vi cb, vr y] [(.ref x8), (.ref x)]))) ?_
 have f9 : own_par Z T8.heap y x t x2 t2 ca cb := Py'.keep K8 nin0 nin0 nin0 nin0 nin0
 have f11 : Exa Z T8.heap x "java/lang/String" := (Py'.2.2.2.1.exa.keep Kp8)
 obtain ⟨cq10, kq10, q10a, q10b, q10c⟩ := isOf hZ rfl f11
 obtain ⟨_, T10, Lc10, X10, hQ10, st10⟩ := own_c1 X8 <| X8.virtualBack hx (y := ym30) (z := ym30) hown (mvT hZ (hW 240 _ rfl)) (mvT hZ (hW 210 _ rfl)) (notFace_of_selects (args := #[]) (mvT hZ (hW 212 _ rfl))) (mvT hZ (hW 212 _ rfl)) (mvT hZ (hW 211 _ rfl)) (by decide) (backOf (W := 0) (rmEq l Z a0 hw [] x t x8 t8 ca ca Gc T8.heap n0 O8 Oc Pc f9.2.2.2.1 Sx8 (by omega)) hZ (hW 213 _ rfl) (hW 29 _ rfl) (by decide) (by decide)) q10a q10c (g := (mkF m 90 #[vr la, vn j, vi sz, vi po, vi kx, vr an, vr av, vi ca, vr aw, vi ca, vi cb, vr y] [(.ref x8), (.ref x)])) rfl (by rw [hml]; rfl) (Steps.refl _) (argsL := [(.ref x8)]) (rest := []) (lenOf pd_17 rfl) rfl (Nat.le_of_eq rfl) (hb hby d19_90) (fun _ _ => ⟨rfl, rfl, (by decide : 2 + 0 ≤ _), (by decide : 5 + 0 ≤ _)⟩)
 obtain ⟨rfl, Nq10, eh10⟩ := hQ10
 have N10 := Fr.app N8 Nq10
 refine oo (fun tt_ kk_ => st10.trans kk_) ?_
 have hb93_12 : ¬ ((own_eqi ca ca) = (0 : Int32)) := own_eqin _
 refine oi (XS.ifNo X10.here hx rfl (hb hby d19_93) rfl ((if0 _ _).trans (feq hb93_12).1)) ?_
 refine so (A := (T10.setTop (mkF m 96 #[vr la, vn j, vi sz, vi po, vi kx, vr an, vr av, vi ca, vr aw, vi ca, vi cb, vr y] []))) ?_
 refine oi (XS.aload X10.here hx rfl (hb hby d19_96) rfl rfl) ?_
 refine so (A := (T10.setTop (mkF m 98 #[vr la, vn j, vi sz, vi po, vi kx, vr an, vr av, vi ca, vr aw, vi ca, vi cb, vr y] [(.ref y)]))) ?_
 have f14 : Exa Z T8.heap y "com/example/practory/practory/server/SearchQuery$Parameter" := Py'.1.keep K8
 obtain ⟨cq13, kq13, q13a, q13b, q13c⟩ := isOf hZ eh10 f14
 obtain ⟨_, T13, Lc13, X13, hQ13, st13⟩ := own_c1 X10 <| X10.virtualBack hx (y := ym36) (z := ym36) hown (mvT hZ (hW 241 _ rfl)) (mvT hZ (hW 242 _ rfl)) (notFace_of_selects (args := #[]) (mvT hZ (hW 244 _ rfl))) (mvT hZ (hW 244 _ rfl)) (mvT hZ (hW 243 _ rfl)) (by decide) (backOf (W := 0) (rmN_value l Z a0 hw [] y x2 T8.heap n0 O8 f9.2.2.1) hZ (hW 245 _ rfl) (hW 149 _ rfl) (by decide) (by decide)) q13a q13c (g := (mkF m 98 #[vr la, vn j, vi sz, vi po, vi kx, vr an, vr av, vi ca, vr aw, vi ca, vi cb, vr y] [(.ref y)])) rfl (by rw [hml]; rfl) (Steps.refl _) (argsL := []) (rest := []) (lenOf pd_16 rfl) rfl (Nat.le_of_eq rfl) (hb hby d19_98) (fun _ _ => ⟨rfl, eh10, (by decide : 2 + 0 ≤ _), (by decide : 5 + 0 ≤ _)⟩)
 obtain ⟨rfl, Nq13, eh13⟩ := hQ13
 have N13 := Fr.app N10 Nq13
 refine oo (fun tt_ kk_ => st13.trans kk_) ?_
 refine oi (XS.iload X13.here hx rfl (hb hby d19_101) rfl) ?_
 refine so (A := (T13.setTop (mkF m 103 #[vr la, vn j, vi sz, vi po, vi kx, vr an, vr av, vi ca, vr aw, vi ca, vi cb, vr y] [(.int cb), (.ref x2)]))) ?_
 obtain ⟨_, T15, Lc15, X15, hQ15, st15⟩ := own_c1 X13 <| Jvm.LawKit.callS X13 hx (y := ym5) hown (mvT hZ (hW 27 _ rfl)) (mvT hZ (hW 28 _ rfl)) (mvT hZ (hW 29 _ rfl)) (mvT hZ (hW 30 _ rfl)) (by decide) (backOf (W := 1) (rmVO l Z a0 hw [] cb Gc T8.heap n0 O8 Oc Pc Py'.2.2.2.2.1) hZ (hW 30 _ rfl) (hW 29 _ rfl) (by decide) (by decide)) (g := (mkF m 103 #[vr la, vn j, vi sz, vi po, vi kx, vr an, vr av, vi ca, vr aw, vi ca, vi cb, vr y] [(.int cb), (.ref x2)])) rfl (by rw [hml]; rfl) (argsL := [(.int cb)]) (rest := [(.ref x2)]) (lenOf pd_21 rfl) rfl (Nat.le_of_eq rfl) (hb hby d19_103) (fun _ _ => ⟨rfl, eh13, (by decide : 2 + 2 ≤ _), (by decide : 5 + 5 ≤ _)⟩)
 obtain ⟨x15, t15, rfl, Nq15, Kp15, gx15, lx15, gt15, lt15, nx15, Sx15⟩ := hQ15
 have N15 := Fr.app N13 Nq15
 refine oo st15 ?_
 have sz15 : T8.heap.size ≤ T15.heap.size := Kp15.1
 have O15 : Old Z n0 T15.heap := O8.keep Kp15 all0
 have K15 : Keep h0 T15.heap [] := K8.trans Kp15 all0
 have Ex15 := Sx15.exa
 refine so (A := (T15.setTop (mkF m 106 #[vr la, vn j, vi sz, vi po, vi kx, vr an, vr av, vi ca, vr aw, vi ca, vi cb, vr y] [(.ref x15), (.ref x2)]))) ?_
 have f16 : own_par Z T15.heap y x t x2 t2 ca cb := (f9.keep Kp15 nin0 nin0 nin0 nin0 nin0)
 have f18 : Exa Z T15.heap x2 "java/lang/String" := (f9.2.2.2.2.exa.keep Kp15)
 obtain ⟨cq17, kq17, q17a, q17b, q17c⟩ := isOf hZ rfl f18
 obtain ⟨_, T17, Lc17, X17, hQ17, st17⟩ := own_c1 X15 <| X15.virtualBack hx (y := ym30) (z := ym30) hown (mvT hZ (hW 240 _ rfl)) (mvT hZ (hW 210 _ rfl)) (notFace_of_selects (args := #[]) (mvT hZ (hW 212 _ rfl))) (mvT hZ (hW 212 _ rfl)) (mvT hZ (hW 211 _ rfl)) (by decide) (backOf (W := 0) (rmEq l Z a0 hw [] x2 t2 x15 t15 cb cb Gc T15.heap n0 O15 Oc Pc f16.2.2.2.2 Sx15 (by omega)) hZ (hW 213 _ rfl) (hW 29 _ rfl) (by decide) (by decide)) q17a q17c (g := (mkF m 106 #[vr la, vn j, vi sz, vi po, vi kx, vr an, vr av, vi ca, vr aw, vi ca, vi cb, vr y] [(.ref x15), (.ref x2)])) rfl (by rw [hml]; rfl) (Steps.refl _) (argsL := [(.ref x15)]) (rest := []) (lenOf pd_17 rfl) rfl (Nat.le_of_eq rfl) (hb hby d19_106) (fun _ _ => ⟨rfl, rfl, (by decide : 4 + 0 ≤ _), (by decide : 10 + 0 ≤ _)⟩)
 obtain ⟨rfl, Nq17, eh17⟩ := hQ17
 have N17 := Fr.app N15 Nq17
 refine oo (fun tt_ kk_ => st17.trans kk_) ?_
 have hb109_19 : ¬ ((own_eqi cb cb) = (0 : Int32)) := own_eqin _
 refine oi (XS.ifNo X17.here hx rfl (hb hby d19_109) rfl ((if0 _ _).trans (feq hb109_19).1)) ?_
 refine so (A := (T17.setTop (mkF m 112 #[vr la, vn j, vi sz, vi po, vi kx, vr an, vr av, vi ca, vr aw, vi ca, vi cb, vr y] []))) ?_
 refine oi (XS.iconst X17.here hx rfl (hb hby d19_112)) ?_
 refine oi (XS.goto X17.here hx rfl (pc0 := 113) (pc' := 117) rfl (hb hby d19_113) (by decide) (by decide)) ?_
 refine so (A := (T17.setTop (mkF m 117 #[vr la, vn j, vi sz, vi po, vi kx, vr an, vr av, vi ca, vr aw, vi ca, vi cb, vr y] [(.int 1)]))) ?_
 refine own_ret X17 hx hlk hret rfl (Or.inl ⟨rfl, by simp, _, rfl⟩) (hb hby d19_117) (by decide) (by decide) ?_
 rw [eh17]
 exact ⟨rfl, N17, K15⟩
theorem ef_rmAtC (m : MethodId) (x0 : Nat) (x1 : Int32) (x2 : Int32) (x3 : Int32) (x4 : Int32) (x5 : Nat) (x6 : Nat) (x7 : Int32) (x8 : Nat) : entryFrame m #[(.ref x0), (.int x1), (.int x2), (.int x3), (.int x4), (.ref x5), (.ref x6), (.int x7), (.ref x8)] 12 = mkF m 0 #[vr x0, vi x1, vi x2, vi x3, vi x4, vr x5, vr x6, vi x7, vr x8, uu, uu, uu] [] := by first | (simp [entryFrame, mkF, argsToLocals, Value.category]; done) | rfl
theorem d19_50 : dk cD19 50 (.aload 5) 2 := by decide +kernel
theorem d19_52 : dk cD19 52 (.iload_n 1) 1 := by decide +kernel
theorem d19_53 : dk cD19 53 (.iload 4) 2 := by decide +kernel
theorem d19_55 : dk cD19 55 .isub 1 := by decide +kernel
theorem d19_56 : dk cD19 56 .caload 1 := by decide +kernel
theorem d19_57 : dk cD19 57 (.istore 9) 2 := by decide +kernel
theorem d19_59 : dk cD19 59 (.aload 6) 2 := by decide +kernel
theorem d19_61 : dk cD19 61 (.iload_n 1) 1 := by decide +kernel
theorem d19_62 : dk cD19 62 (.iload 4) 2 := by decide +kernel
theorem d19_64 : dk cD19 64 .isub 1 := by decide +kernel
theorem d19_65 : dk cD19 65 .caload 1 := by decide +kernel
theorem d19_66 : dk cD19 66 (.istore 10) 2 := by decide +kernel
theorem rmAtC (l : Launch) (Z : State) (a0 : Array Value) (hw : own_H Z a0) (ws : List Jvm.Cond) (la : Nat) (dq : Nat) (ea : Nat) (ke : ClassId) (xs : List Nat) (mc : Int32) (qs : List (Int32 × Int32)) (bq : Nat) (j : Nat) (sz : Int32) (po : Int32) (kx : Int32) (cq : Int32) (an : Nat) (av : Nat) (aw : Nat) (k1 : ClassId) (k2 : ClassId) (k3 : ClassId) (ms : List Int32) (os : List Int32) (vw : List Int32) (Gc : Int32) (ca : Int32) (cb : Int32) (i : Nat) (h0 : Heap) (n0 : Nat) (XO0 : Old Z n0 h0) (Oc : Sta Z Z.heap "java/lang/String" "COMPACT_STRINGS" "Z" (.int Gc)) (Pc : ¬ (Gc = (0 : Int32))) (AR : own_al Z h0 dq n0 la ea ke xs mc) (IR : own_its Z h0 bq xs qs) (hsz : sz = Int32.ofNat qs.length) (hx9 : xs.length ≤ 9) (hj9 : j ≤ 9) (V_n : Arv Z h0 an k1 .char (3 : Int32) (ms.map Value.int) (.int 0)) (V_w : Arv Z h0 av k2 .char (3 : Int32) (os.map Value.int) (.int 0)) (V_q : Arv Z h0 aw k3 .char (2 : Int32) (vw.map Value.int) (.int 0)) (hq : qs[j]? = some (ca, cb)) (q_p : ¬ ((Int32.ofNat j) < po)) (q_k : ¬ ((Int32.ofNat j) < (po + kx))) (e_i : ((Int32.ofNat j) - kx) = (Int32.ofNat i)) (hm : ms[i]? = some ca) (ho : os[i]? = some cb) (h3 : i < 3) :
  own_M l Z ym19 cD19 ws 12 (some .boolean) (own_R 3 4 10 40) #[(.ref la), (.int (Int32.ofNat j)), (.int sz), (.int po), (.int kx), (.ref an), (.ref av), (.int cq), (.ref aw)] h0 (Q_At h0 n0) := by
 refine own_open (plainFor_of_name pn_12) ?_
 intro p e s m below meth c s₁ hx hby hlk hret hml hown hnm hZ X0 e0
 have hW := own_hW hw
 have N0 := Fr.nil n0
 refine oo (fun tt_ kk_ => castTop (ef_rmAtC m la (Int32.ofNat j) sz po kx an av cq aw) kk_) ?_
 refine so (A := (s₁.setTop (mkF m 0 #[vr la, vn j, vi sz, vi po, vi kx, vr an, vr av, vi cq, vr aw, uu, uu, uu] []))) ?_
 have K0_ : Keep h0 h0 [] := Keep.refl h0 []
 obtain ⟨y, hy, x, t, x2, t2, Py, bd1, bd2, bd3, bd4, bd5⟩ := own_its.get IR hq
 have Py' : own_par Z h0 y x t x2 t2 ca cb := Py
 have lt_y := Py'.lts
 have hjl : j < qs.length := (List.getElem?_eq_some_iff.mp hq).1
 have hle := IR.len
 refine oi (XS.iloadN X0.here hx rfl (hb hby d19_0) rfl) ?_
 refine oi (XS.iloadN X0.here hx rfl (hb hby d19_1) rfl) ?_
 have hb2_1 : (Int32.ofNat j) < sz := by rw [hsz]; exact (own_nlt (by omega) (by omega)).mpr hjl
 refine oi (XS.icmpYes X0.here hx rfl (pc0 := 2) (pc' := 7) rfl (hb hby d19_2) rfl (tlt hb2_1).1 (by decide) (by decide)) ?_
 refine so (A := (s₁.setTop (mkF m 7 #[vr la, vn j, vi sz, vi po, vi kx, vr an, vr av, vi cq, vr aw, uu, uu, uu] []))) ?_
 refine oi (XS.iloadN X0.here hx rfl (hb hby d19_7) rfl) ?_
 refine oi (XS.iloadN X0.here hx rfl (hb hby d19_8) rfl) ?_
 have hb9_2 : ¬ ((Int32.ofNat j) < po) := q_p
 refine oi (XS.icmpYes X0.here hx rfl (pc0 := 9) (pc' := 27) rfl (hb hby d19_9) rfl (flt hb9_2).2.1 (by decide) (by decide)) ?_
 refine so (A := (s₁.setTop (mkF m 27 #[vr la, vn j, vi sz, vi po, vi kx, vr an, vr av, vi cq, vr aw, uu, uu, uu] []))) ?_
 refine oi (XS.iloadN X0.here hx rfl (hb hby d19_27) rfl) ?_
 refine oi (XS.iloadN X0.here hx rfl (hb hby d19_28) rfl) ?_
 refine oi (XS.iload X0.here hx rfl (hb hby d19_29) rfl) ?_
 refine oi (XS.iadd X0.here hx rfl (hb hby d19_31) rfl) ?_
 have hb32_3 : ¬ ((Int32.ofNat j) < (po + kx)) := q_k
 refine oi (XS.icmpYes X0.here hx rfl (pc0 := 32) (pc' := 50) rfl (hb hby d19_32) rfl (flt hb32_3).2.1 (by decide) (by decide)) ?_
 refine so (A := (s₁.setTop (mkF m 50 #[vr la, vn j, vi sz, vi po, vi kx, vr an, vr av, vi cq, vr aw, uu, uu, uu] []))) ?_
 refine oi (XS.aload X0.here hx rfl (hb hby d19_50) rfl rfl) ?_
 refine oi (XS.iloadN X0.here hx rfl (hb hby d19_52) rfl) ?_
 refine oi (XS.iload X0.here hx rfl (hb hby d19_53) rfl) ?_
 refine oi (XS.isub X0.here hx rfl (hb hby d19_55) rfl) ?_
 refine so (A := (s₁.setTop (mkF m 56 #[vr la, vn j, vi sz, vi po, vi kx, vr an, vr av, vi cq, vr aw, uu, uu, uu] [(.int ((Int32.ofNat j) - kx)), (.ref an)]))) ?_
 rw [e_i]
 refine so (A := (s₁.setTop (mkF m 56 #[vr la, vn j, vi sz, vi po, vi kx, vr an, vr av, vi cq, vr aw, uu, uu, uu] [(.int (Int32.ofNat i)), (.ref an)]))) ?_
 obtain ⟨cl4, Ar4, q4, S4, Ng4, H4, G4⟩ := id V_n
 have hin4 : ¬ ((Int32.ofNat i) < 0 ∨ cl4.slots.size ≤ ((Int32.ofNat i)).toNatClampNeg) := inb_of S4 (own_inn (m := 3) (by omega) (by omega))
 have hat4 : cl4.slots[((Int32.ofNat i)).toNatClampNeg]? = some (.int ca) := Has.at H4 hin4 (own_hget (by omega) hm)
 refine oo (fun _ => X0.caload hx (j := (Int32.ofNat i)) (v := (.int ca)) (by rw [e0]; exact Ar4.1) (State.isArrayOf_alike hZ.alike Ar4.2.1) Ar4.2.2 hin4 hat4 (g := (mkF m 56 #[vr la, vn j, vi sz, vi po, vi kx, vr an, vr av, vi cq, vr aw, uu, uu, uu] [(.int (Int32.ofNat i)), (.ref an)])) rfl rfl (hb hby d19_56) _) ?_
 refine oi (XS.istore X0.here hx rfl (hb hby d19_57) rfl (l' := #[vr la, vn j, vi sz, vi po, vi kx, vr an, vr av, vi cq, vr aw, vi ca, uu, uu]) rfl) ?_
 refine oi (XS.aload X0.here hx rfl (hb hby d19_59) rfl rfl) ?_
 refine oi (XS.iloadN X0.here hx rfl (hb hby d19_61) rfl) ?_
 refine oi (XS.iload X0.here hx rfl (hb hby d19_62) rfl) ?_
 refine oi (XS.isub X0.here hx rfl (hb hby d19_64) rfl) ?_
 refine so (A := (s₁.setTop (mkF m 65 #[vr la, vn j, vi sz, vi po, vi kx, vr an, vr av, vi cq, vr aw, vi ca, uu, uu] [(.int ((Int32.ofNat j) - kx)), (.ref av)]))) ?_
 rw [e_i]
 refine so (A := (s₁.setTop (mkF m 65 #[vr la, vn j, vi sz, vi po, vi kx, vr an, vr av, vi cq, vr aw, vi ca, uu, uu] [(.int (Int32.ofNat i)), (.ref av)]))) ?_
 obtain ⟨cl5, Ar5, q5, S5, Ng5, H5, G5⟩ := id V_w
 have hin5 : ¬ ((Int32.ofNat i) < 0 ∨ cl5.slots.size ≤ ((Int32.ofNat i)).toNatClampNeg) := inb_of S5 (own_inn (m := 3) (by omega) (by omega))
 have hat5 : cl5.slots[((Int32.ofNat i)).toNatClampNeg]? = some (.int cb) := Has.at H5 hin5 (own_hget (by omega) ho)
 refine oo (fun _ => X0.caload hx (j := (Int32.ofNat i)) (v := (.int cb)) (by rw [e0]; exact Ar5.1) (State.isArrayOf_alike hZ.alike Ar5.2.1) Ar5.2.2 hin5 hat5 (g := (mkF m 65 #[vr la, vn j, vi sz, vi po, vi kx, vr an, vr av, vi cq, vr aw, vi ca, uu, uu] [(.int (Int32.ofNat i)), (.ref av)])) rfl rfl (hb hby d19_65) _) ?_
 refine oi (XS.istore X0.here hx rfl (hb hby d19_66) rfl (l' := #[vr la, vn j, vi sz, vi po, vi kx, vr an, vr av, vi cq, vr aw, vi ca, vi cb, uu]) rfl) ?_
 refine oi (XS.aloadN X0.here hx rfl (hb hby d19_68) rfl rfl) ?_
 refine oi (XS.iloadN X0.here hx rfl (hb hby d19_69) rfl) ?_
 refine so (A := (s₁.setTop (mkF m 70 #[vr la, vn j, vi sz, vi po, vi kx, vr an, vr av, vi cq, vr aw, vi ca, vi cb, uu] [(.int (Int32.ofNat j)), (.ref la)]))) ?_
 obtain ⟨cq6, kq6, q6a, q6b, q6c⟩ := isOf hZ e0 AR.1
 obtain ⟨_, T6, Lc6, X6, hQ6, st6⟩ := own_c1 X0 <| X0.interfaceBack hx (xi := ym8494) (y := ym32) hown (mvT hZ (hW 218 _ rfl)) (mvT hZ (hW 219 _ rfl)) (mvT hZ (hW 220 _ rfl)) (mvT hZ (hW 221 _ rfl)) (mvT hZ (hW 222 _ rfl)) (mvT hZ (hW 223 _ rfl)) (mvT hZ (hW 224 _ rfl)) (mvT hZ (hW 64 _ rfl)) (by decide) (backOf (W := 0) (rmGe l Z a0 hw [] dq la ea ke xs mc j y h0 n0 XO0 AR (by omega) hx9 hy) hZ (hW 225 _ rfl) (hW 3 _ rfl) (by decide) (by decide)) q6a q6b q6c (g := (mkF m 70 #[vr la, vn j, vi sz, vi po, vi kx, vr an, vr av, vi cq, vr aw, vi ca, vi cb, uu] [(.int (Int32.ofNat j)), (.ref la)])) rfl (by rw [hml]; rfl) (Steps.refl _) (argsL := [(.int (Int32.ofNat j))]) (rest := []) (lenOf pd_20 rfl) rfl (Nat.le_of_eq rfl) (hb hby d19_70) (fun _ _ => ⟨rfl, e0, (by decide : 0 + 0 ≤ _), (by decide : 0 + 0 ≤ _)⟩)
 obtain ⟨rfl, Nq6, eh6⟩ := hQ6
 have N6 := Fr.app N0 Nq6
 refine oo (fun tt_ kk_ => st6.trans kk_) ?_
 obtain ⟨T7, X7, e7, st7⟩ := castY X6 hx hZ hown (hW 147 _ rfl) eh6 (Ins.self Py'.1) (g := (mkF m 75 #[vr la, vn j, vi sz, vi po, vi kx, vr an, vr av, vi cq, vr aw, vi ca, vi cb, uu] [(.ref y)])) rfl rfl (hb hby d19_75)
 refine oo st7 ?_
 refine oi (XS.astore X7.here hx rfl (hb hby d19_78) rfl rfl (l' := #[vr la, vn j, vi sz, vi po, vi kx, vr an, vr av, vi cq, vr aw, vi ca, vi cb, vr y]) rfl) ?_
 refine oi (XS.aload X7.here hx rfl (hb hby d19_80) rfl rfl) ?_
 refine so (A := (T7.setTop (mkF m 82 #[vr la, vn j, vi sz, vi po, vi kx, vr an, vr av, vi cq, vr aw, vi ca, vi cb, vr y] [(.ref y)]))) ?_
 obtain ⟨cq8, kq8, q8a, q8b, q8c⟩ := isOf hZ e7 Py'.1
 obtain ⟨_, T8, Lc8, X8, hQ8, st8⟩ := own_c1 X7 <| X7.virtualBack hx (y := ym29) (z := ym29) hown (mvT hZ (hW 239 _ rfl)) (mvT hZ (hW 205 _ rfl)) (notFace_of_selects (args := #[]) (mvT hZ (hW 207 _ rfl))) (mvT hZ (hW 207 _ rfl)) (mvT hZ (hW 206 _ rfl)) (by decide) (backOf (W := 0) (rmN_name l Z a0 hw [] y x h0 n0 XO0 Py'.2.1) hZ (hW 208 _ rfl) (hW 149 _ rfl) (by decide) (by decide)) q8a q8c (g := (mkF m 82 #[vr la, vn j, vi sz, vi po, vi kx, vr an, vr av, vi cq, vr aw, vi ca, vi cb, vr y] [(.ref y)])) rfl (by rw [hml]; rfl) (Steps.refl _) (argsL := []) (rest := []) (lenOf pd_16 rfl) rfl (Nat.le_of_eq rfl) (hb hby d19_82) (fun _ _ => ⟨rfl, e7, (by decide : 0 + 0 ≤ _), (by decide : 0 + 0 ≤ _)⟩)
 obtain ⟨rfl, Nq8, eh8⟩ := hQ8
 have N8 := Fr.app N6 Nq8
 refine oo (fun tt_ kk_ => st8.trans kk_) ?_
 refine oi (XS.iload X8.here hx rfl (hb hby d19_85) rfl) ?_
 refine so (A := (T8.setTop (mkF m 87 #[vr la, vn j, vi sz, vi po, vi kx, vr an, vr av, vi cq, vr aw, vi ca, vi cb, vr y] [(.int ca), (.ref x)]))) ?_
 obtain ⟨_, T9, Lc9, X9, hQ9, st9⟩ := own_c1 X8 <| Jvm.LawKit.callS X8 hx (y := ym5) hown (mvT hZ (hW 27 _ rfl)) (mvT hZ (hW 28 _ rfl)) (mvT hZ (hW 29 _ rfl)) (mvT hZ (hW 30 _ rfl)) (by decide) (backOf (W := 1) (rmVO l Z a0 hw [] ca Gc h0 n0 XO0 Oc Pc Py'.2.2.2.1.1) hZ (hW 30 _ rfl) (hW 29 _ rfl) (by decide) (by decide)) (g := (mkF m 87 #[vr la, vn j, vi sz, vi po, vi kx, vr an, vr av, vi cq, vr aw, vi ca, vi cb, vr y] [(.int ca), (.ref x)])) rfl (by rw [hml]; rfl) (argsL := [(.int ca)]) (rest := [(.ref x)]) (lenOf pd_21 rfl) rfl (Nat.le_of_eq rfl) (hb hby d19_87) (fun _ _ => ⟨rfl, eh8, (by decide : 0 + 2 ≤ _), (by decide : 0 + 5 ≤ _)⟩)
 obtain ⟨x9, t9, rfl, Nq9, Kp9, gx9, lx9, gt9, lt9, nx9, Sx9⟩ := hQ9
 have N9 := Fr.app N8 Nq9
 refine oo st9 ?_
 have sz9 : h0.size ≤ T9.heap.size := Kp9.1
 have O9 : Old Z n0 T9.heap := XO0.keep Kp9 all0
 have K9 : Keep h0 T9.heap [] := K0_.trans Kp9 all0
 have Ex9 := Sx9.exa
 refine so (A := (T9.setTop (mkF m 90 #[vr la, vn j, vi sz, vi po, vi kx, vr an, vr av, vi cq, vr aw, vi ca, vi cb, vr y] [(.ref x9), (.ref x)]))) ?_
 have f10 : own_par Z T9.heap y x t x2 t2 ca cb := Py'.keep K9 nin0 nin0 nin0 nin0 nin0
 have f12 : Exa Z T9.heap x "java/lang/String" := (Py'.2.2.2.1.exa.keep Kp9)
 obtain ⟨cq11, kq11, q11a, q11b, q11c⟩ := isOf hZ rfl f12
 obtain ⟨_, T11, Lc11, X11, hQ11, st11⟩ := own_c1 X9 <| X9.virtualBack hx (y := ym30) (z := ym30) hown (mvT hZ (hW 240 _ rfl)) (mvT hZ (hW 210 _ rfl)) (notFace_of_selects (args := #[]) (mvT hZ (hW 212 _ rfl))) (mvT hZ (hW 212 _ rfl)) (mvT hZ (hW 211 _ rfl)) (by decide) (backOf (W := 0) (rmEq l Z a0 hw [] x t x9 t9 ca ca Gc T9.heap n0 O9 Oc Pc f10.2.2.2.1 Sx9 (by omega)) hZ (hW 213 _ rfl) (hW 29 _ rfl) (by decide) (by decide)) q11a q11c (g := (mkF m 90 #[vr la, vn j, vi sz, vi po, vi kx, vr an, vr av, vi cq, vr aw, vi ca, vi cb, vr y] [(.ref x9), (.ref x)])) rfl (by rw [hml]; rfl) (Steps.refl _) (argsL := [(.ref x9)]) (rest := []) (lenOf pd_17 rfl) rfl (Nat.le_of_eq rfl) (hb hby d19_90) (fun _ _ => ⟨rfl, rfl, (by decide : 2 + 0 ≤ _), (by decide : 5 + 0 ≤ _)⟩)
 obtain ⟨rfl, Nq11, eh11⟩ := hQ11
 have N11 := Fr.app N9 Nq11
 refine oo (fun tt_ kk_ => st11.trans kk_) ?_
 have hb93_13 : ¬ ((own_eqi ca ca) = (0 : Int32)) := own_eqin _
 refine oi (XS.ifNo X11.here hx rfl (hb hby d19_93) rfl ((if0 _ _).trans (feq hb93_13).1)) ?_
 refine so (A := (T11.setTop (mkF m 96 #[vr la, vn j, vi sz, vi po, vi kx, vr an, vr av, vi cq, vr aw, vi ca, vi cb, vr y] []))) ?_
 refine oi (XS.aload X11.here hx rfl (hb hby d19_96) rfl rfl) ?_
 refine so (A := (T11.setTop (mkF m 98 #[vr la, vn j, vi sz, vi po, vi kx, vr an, vr av, vi cq, vr aw, vi ca, vi cb, vr y] [(.ref y)]))) ?_
 have f15 : Exa Z T9.heap y "com/example/practory/practory/server/SearchQuery$Parameter" := Py'.1.keep K9
 obtain ⟨cq14, kq14, q14a, q14b, q14c⟩ := isOf hZ eh11 f15
 obtain ⟨_, T14, Lc14, X14, hQ14, st14⟩ := own_c1 X11 <| X11.virtualBack hx (y := ym36) (z := ym36) hown (mvT hZ (hW 241 _ rfl)) (mvT hZ (hW 242 _ rfl)) (notFace_of_selects (args := #[]) (mvT hZ (hW 244 _ rfl))) (mvT hZ (hW 244 _ rfl)) (mvT hZ (hW 243 _ rfl)) (by decide) (backOf (W := 0) (rmN_value l Z a0 hw [] y x2 T9.heap n0 O9 f10.2.2.1) hZ (hW 245 _ rfl) (hW 149 _ rfl) (by decide) (by decide)) q14a q14c (g := (mkF m 98 #[vr la, vn j, vi sz, vi po, vi kx, vr an, vr av, vi cq, vr aw, vi ca, vi cb, vr y] [(.ref y)])) rfl (by rw [hml]; rfl) (Steps.refl _) (argsL := []) (rest := []) (lenOf pd_16 rfl) rfl (Nat.le_of_eq rfl) (hb hby d19_98) (fun _ _ => ⟨rfl, eh11, (by decide : 2 + 0 ≤ _), (by decide : 5 + 0 ≤ _)⟩)
 obtain ⟨rfl, Nq14, eh14⟩ := hQ14
 have N14 := Fr.app N11 Nq14
 refine oo (fun tt_ kk_ => st14.trans kk_) ?_
 refine oi (XS.iload X14.here hx rfl (hb hby d19_101) rfl) ?_
 refine so (A := (T14.setTop (mkF m 103 #[vr la, vn j, vi sz, vi po, vi kx, vr an, vr av, vi cq, vr aw, vi ca, vi cb, vr y] [(.int cb), (.ref x2)]))) ?_
 obtain ⟨_, T16, Lc16, X16, hQ16, st16⟩ := own_c1 X14 <| Jvm.LawKit.callS X14 hx (y := ym5) hown (mvT hZ (hW 27 _ rfl)) (mvT hZ (hW 28 _ rfl)) (mvT hZ (hW 29 _ rfl)) (mvT hZ (hW 30 _ rfl)) (by decide) (backOf (W := 1) (rmVO l Z a0 hw [] cb Gc T9.heap n0 O9 Oc Pc Py'.2.2.2.2.1) hZ (hW 30 _ rfl) (hW 29 _ rfl) (by decide) (by decide)) (g := (mkF m 103 #[vr la, vn j, vi sz, vi po, vi kx, vr an, vr av, vi cq, vr aw, vi ca, vi cb, vr y] [(.int cb), (.ref x2)])) rfl (by rw [hml]; rfl) (argsL := [(.int cb)]) (rest := [(.ref x2)]) (lenOf pd_21 rfl) rfl (Nat.le_of_eq rfl) (hb hby d19_103) (fun _ _ => ⟨rfl, eh14, (by decide : 2 + 2 ≤ _), (by decide : 5 + 5 ≤ _)⟩)
 obtain ⟨x16, t16, rfl, Nq16, Kp16, gx16, lx16, gt16, lt16, nx16, Sx16⟩ := hQ16
 have N16 := Fr.app N14 Nq16
 refine oo st16 ?_
 have sz16 : T9.heap.size ≤ T16.heap.size := Kp16.1
 have O16 : Old Z n0 T16.heap := O9.keep Kp16 all0
 have K16 : Keep h0 T16.heap [] := K9.trans Kp16 all0
 have Ex16 := Sx16.exa
 refine so (A := (T16.setTop (mkF m 106 #[vr la, vn j, vi sz, vi po, vi kx, vr an, vr av, vi cq, vr aw, vi ca, vi cb, vr y] [(.ref x16), (.ref x2)]))) ?_
 have f17 : own_par Z T16.heap y x t x2 t2 ca cb := (f10.keep Kp16 nin0 nin0 nin0 nin0 nin0)
 have f19 : Exa Z T16.heap x2 "java/lang/String" := (f10.2.2.2.2.exa.keep Kp16)
 obtain ⟨cq18, kq18, q18a, q18b, q18c⟩ := isOf hZ rfl f19
 obtain ⟨_, T18, Lc18, X18, hQ18, st18⟩ := own_c1 X16 <| X16.virtualBack hx (y := ym30) (z := ym30) hown (mvT hZ (hW 240 _ rfl)) (mvT hZ (hW 210 _ rfl)) (notFace_of_selects (args := #[]) (mvT hZ (hW 212 _ rfl))) (mvT hZ (hW 212 _ rfl)) (mvT hZ (hW 211 _ rfl)) (by decide) (backOf (W := 0) (rmEq l Z a0 hw [] x2 t2 x16 t16 cb cb Gc T16.heap n0 O16 Oc Pc f17.2.2.2.2 Sx16 (by omega)) hZ (hW 213 _ rfl) (hW 29 _ rfl) (by decide) (by decide)) q18a q18c (g := (mkF m 106 #[vr la, vn j, vi sz, vi po, vi kx, vr an, vr av, vi cq, vr aw, vi ca, vi cb, vr y] [(.ref x16), (.ref x2)])) rfl (by rw [hml]; rfl) (Steps.refl _) (argsL := [(.ref x16)]) (rest := []) (lenOf pd_17 rfl) rfl (Nat.le_of_eq rfl) (hb hby d19_106) (fun _ _ => ⟨rfl, rfl, (by decide : 4 + 0 ≤ _), (by decide : 10 + 0 ≤ _)⟩)
 obtain ⟨rfl, Nq18, eh18⟩ := hQ18
 have N18 := Fr.app N16 Nq18
 refine oo (fun tt_ kk_ => st18.trans kk_) ?_
 have hb109_20 : ¬ ((own_eqi cb cb) = (0 : Int32)) := own_eqin _
 refine oi (XS.ifNo X18.here hx rfl (hb hby d19_109) rfl ((if0 _ _).trans (feq hb109_20).1)) ?_
 refine so (A := (T18.setTop (mkF m 112 #[vr la, vn j, vi sz, vi po, vi kx, vr an, vr av, vi cq, vr aw, vi ca, vi cb, vr y] []))) ?_
 refine oi (XS.iconst X18.here hx rfl (hb hby d19_112)) ?_
 refine oi (XS.goto X18.here hx rfl (pc0 := 113) (pc' := 117) rfl (hb hby d19_113) (by decide) (by decide)) ?_
 refine so (A := (T18.setTop (mkF m 117 #[vr la, vn j, vi sz, vi po, vi kx, vr an, vr av, vi cq, vr aw, vi ca, vi cb, vr y] [(.int 1)]))) ?_
 refine own_ret X18 hx hlk hret rfl (Or.inl ⟨rfl, by simp, _, rfl⟩) (hb hby d19_117) (by decide) (by decide) ?_
 rw [eh18]
 exact ⟨rfl, N18, K16⟩
theorem rmAt (l : Launch) (Z : State) (a0 : Array Value) (hw : own_H Z a0) (ws : List Jvm.Cond) (la : Nat) (dq : Nat) (ea : Nat) (ke : ClassId) (xs : List Nat) (mc : Int32) (qs : List (Int32 × Int32)) (bq : Nat) (j : Nat) (sz : Int32) (po : Int32) (kx : Int32) (cq : Int32) (an : Nat) (av : Nat) (aw : Nat) (k1 : ClassId) (k2 : ClassId) (k3 : ClassId) (ms : List Int32) (os : List Int32) (vw : List Int32) (Gc : Int32) (h0 : Heap) (n0 : Nat) (XO0 : Old Z n0 h0) (Oc : Sta Z Z.heap "java/lang/String" "COMPACT_STRINGS" "Z" (.int Gc)) (Pc : ¬ (Gc = (0 : Int32))) (AR : own_al Z h0 dq n0 la ea ke xs mc) (IR : own_its Z h0 bq xs qs) (hsz : sz = Int32.ofNat qs.length) (hx9 : xs.length ≤ 9) (hj9 : j ≤ 9) (V_n : Arv Z h0 an k1 .char (3 : Int32) (ms.map Value.int) (.int 0)) (V_w : Arv Z h0 av k2 .char (3 : Int32) (os.map Value.int) (.int 0)) (V_q : Arv Z h0 aw k3 .char (2 : Int32) (vw.map Value.int) (.int 0)) (SL : own_sel qs j po kx ms os cq vw) :
  own_M l Z ym19 cD19 ws 12 (some .boolean) (own_R 3 4 10 40) #[(.ref la), (.int (Int32.ofNat j)), (.int sz), (.int po), (.int kx), (.ref an), (.ref av), (.int cq), (.ref aw)] h0 (Q_At h0 n0) := by
 rcases SL with hn | ⟨ca, cb, hq, ⟨q_p, hm, ho, h3⟩ | ⟨q_p, q_k, e_c, i, e_i, ho, h3⟩ | ⟨q_p, q_k, i, e_i, hm, ho, h3⟩⟩
 ·exact rmAt0 l Z a0 hw ws la dq ea ke xs mc qs bq j sz po kx cq an av aw k1 k2 k3 ms os vw Gc h0 n0 XO0 Oc Pc AR IR hsz hx9 hj9 V_n V_w V_q hn
 ·exact rmAtA l Z a0 hw ws la dq ea ke xs mc qs bq j sz po kx cq an av aw k1 k2 k3 ms os vw Gc ca cb h0 n0 XO0 Oc Pc AR IR hsz hx9 hj9 V_n V_w V_q hq q_p hm ho h3
 ·exact rmAtB l Z a0 hw ws la dq ea ke xs mc qs bq j sz po kx cq an av aw k1 k2 k3 ms os vw Gc ca cb i h0 n0 XO0 Oc Pc AR IR hsz hx9 hj9 V_n V_w V_q hq q_p q_k e_c e_i ho h3
 ·exact rmAtC l Z a0 hw ws la dq ea ke xs mc qs bq j sz po kx cq an av aw k1 k2 k3 ms os vw Gc ca cb i h0 n0 XO0 Oc Pc AR IR hsz hx9 hj9 V_n V_w V_q hq q_p q_k e_i hm ho h3
theorem ef_rm0 (m : MethodId) (x0 : Int32) (x1 : Int32) (x2 : Int32) (x3 : Int32) : entryFrame m #[(.int x0), (.int x1), (.int x2), (.int x3)] maxLocals = mkF m 0 #[vi x0, vi x1, vi x2, vi x3, uu, uu, uu, uu, uu, uu, uu, uu, uu, uu, uu, uu, uu, uu, uu, uu, uu] [] := by first | (simp [entryFrame, mkF, argsToLocals, Value.category, maxLocals]; done) | rfl
theorem pd_22 : parseMethodDescriptor "()I" = some ⟨[], some .int⟩ := by decide +kernel
theorem pd_23 : parseMethodDescriptor "(Ljava/util/List;IIII[C[CC[C)Z" = some ⟨[(.object "java/util/List"), .int, .int, .int, .int, (.array .char), (.array .char), .char, (.array .char)], some .boolean⟩ := by decide +kernel
theorem pd_24 : parseMethodDescriptor "(Ljava/util/List;Ljava/lang/String;Ljava/util/List;)Ljava/util/List;" = some ⟨[(.object "java/util/List"), (.object "java/lang/String"), (.object "java/util/List")], some (.object "java/util/List")⟩ := by decide +kernel
def Q_rm0 (Z : State) (p1 : Int32) (p2 : Int32) (p3 : Int32) (p4 : Int32) (dq : Nat) (kd : ClassId) (mr : Nat) (Gc : Int32) (h0 : Heap) (n0 : Nat) (v : Option Value) (h : Heap) (L : List Loc) : Prop := v = some (.int 1) ∧ Fr n0 L
theorem rm0 (l : Launch) (Z : State) (a0 : Array Value) (hw : ∀ d ∈ tables_1, d.before a0 Z = true) (ws : List Jvm.Cond) (p1 : Int32) (p2 : Int32) (p3 : Int32) (p4 : Int32) (dq : Nat) (kd : ClassId) (mr : Nat) (Gc : Int32) (h0 : Heap) (n0 : Nat) (XO0 : Old Z n0 h0) (Oc : Sta Z Z.heap "java/lang/String" "COMPACT_STRINGS" "Z" (.int Gc)) (Pc : ¬ (Gc = (0 : Int32))) (S_d : Sta Z Z.heap "java/util/ArrayList" "DEFAULTCAPACITY_EMPTY_ELEMENTDATA" "[Ljava/lang/Object;" (.ref dq)) (V_d : Arv Z Z.heap dq kd (.object "java/lang/Object") (0 : Int32) [] .null) (E_d : Exa Z Z.heap dq "[Ljava/lang/Object;") (M_r : own_mir Z "[Ljava/lang/Object;" mr) (l_d : dq < n0) :
  MetFree l x (head1 (Jvm.Cond.code x code maxLocals ret :: ws) room_1) (fun zz_ U => zz_ = #[(.int p1), (.int p2), (.int p3), (.int p4)] ∧ Z.Warmed39 U.vm ∧ U.heap = h0) (fun _ _ _ _ _ => True) (fun _ U o U' => ∃ v L, o = .returned v ∧ Q_rm0 Z p1 p2 p3 p4 dq kd mr Gc h0 n0 v U'.heap L ∧ FrameEnd U o U' L room_1.cells room_1.slots) := by
 refine MetFree.of_bodySF (plainFor_of_name pn_12) hisR ?_
 intro p e s m args below meth c s₁ Bd hml0 hP hK
 obtain ⟨rfl, hZ, hh⟩ := hP
 have hx := Bd.exec
 have hby := Bd.bytes
 have hlk := Bd.notSynchronized
 have hW : ∀ (i : Nat) (d : Jvm.Cond), tables_1[i]? = some d → d.before a0 Z = true := fun i d h => hw d (List.mem_of_getElem? h)
 have hml : c.maxLocals = 21 := hml0
 have hown : s.vm.findClass "com/example/practory/practory/server/SearchQueryWithPinLaw" = some m.cls := findClass_of_methodNamed Bd.named
 have hnm := (name_of_methodNamed Bd.named Bd.method).1
 have X0 : Stand p l e room_1 s m #[(.int p1), (.int p2), (.int p3), (.int p4)] below meth c s₁ [] 0 0 := Stand.of_body Bd
 have e0 : s₁.heap = h0 := by rw [← hh, Bd.state]; rfl
 have N0 := Fr.nil n0
 refine own_in ?_
 refine oo (fun tt_ kk_ => castTop (ef_rm0 m p1 p2 p3 p4) kk_) ?_
 refine so (A := (s₁.setTop (mkF m 0 #[vi p1, vi p2, vi p3, vi p4, uu, uu, uu, uu, uu, uu, uu, uu, uu, uu, uu, uu, uu, uu, uu, uu, uu] []))) ?_
 refine oi (XS.iloadN X0.here hx rfl (hb hby at_0) rfl) ?_
 refine oi (XS.iconst X0.here hx rfl (hb hby at_1)) ?_
 refine oi (XS.iand X0.here hx rfl (hb hby at_2) rfl) ?_
 refine so (A := (s₁.setTop (mkF m 3 #[vi p1, vi p2, vi p3, vi p4, uu, uu, uu, uu, uu, uu, uu, uu, uu, uu, uu, uu, uu, uu, uu, uu, uu] [(.int (p1 &&& (3 : Int32)))]))) ?_
 obtain ⟨n, hn3, en⟩ : ∃ n : Nat, n ≤ 3 ∧ p1 &&& 3 = Int32.ofNat n := by rcases own_and3 p1 with h | h | h | h <;> (rw [h]; first | exact ⟨0, by omega, rfl⟩ | exact ⟨1, by omega, rfl⟩ | exact ⟨2, by omega, rfl⟩ | exact ⟨3, by omega, rfl⟩)
 rw [en]
 refine so (A := (s₁.setTop (mkF m 3 #[vi p1, vi p2, vi p3, vi p4, uu, uu, uu, uu, uu, uu, uu, uu, uu, uu, uu, uu, uu, uu, uu, uu, uu] [(.int (Int32.ofNat n))]))) ?_
 refine oi (XS.istore X0.here hx rfl (hb hby at_3) rfl (l' := #[vi p1, vi p2, vi p3, vi p4, vn n, uu, uu, uu, uu, uu, uu, uu, uu, uu, uu, uu, uu, uu, uu, uu, uu]) rfl) ?_
 refine oi (XS.iloadN X0.here hx rfl (hb hby at_5) rfl) ?_
 refine oi (XS.iconst X0.here hx rfl (hb hby at_6)) ?_
 refine oi (XS.iushr X0.here hx rfl (hb hby at_7) rfl) ?_
 refine oi (XS.iconst X0.here hx rfl (hb hby at_8)) ?_
 refine oi (XS.iand X0.here hx rfl (hb hby at_9) rfl) ?_
 refine oi (XS.iconst X0.here hx rfl (hb hby at_10)) ?_
 refine oo (fun _ => iremM X0 hx rfl (hb hby at_11) rfl (by decide)) ?_
 refine so (A := (s₁.setTop (mkF m 12 #[vi p1, vi p2, vi p3, vi p4, vn n, uu, uu, uu, uu, uu, uu, uu, uu, uu, uu, uu, uu, uu, uu, uu, uu] [(.int ((((p1.toUInt32 >>> ((2 : Int32) &&& 31).toUInt32).toInt32) &&& (3 : Int32)) % (3 : Int32)))]))) ?_
 obtain ⟨k, hk2, ek⟩ : ∃ k : Nat, k ≤ 2 ∧ ((((p1.toUInt32 >>> ((2 : Int32) &&& 31).toUInt32).toInt32) &&& (3 : Int32)) % (3 : Int32)) = Int32.ofNat k := by rcases own_mod3 ((p1.toUInt32 >>> ((2 : Int32) &&& 31).toUInt32).toInt32) with h | h | h <;> (rw [h]; first | exact ⟨0, by omega, rfl⟩ | exact ⟨1, by omega, rfl⟩ | exact ⟨2, by omega, rfl⟩)
 rw [ek]
 refine so (A := (s₁.setTop (mkF m 12 #[vi p1, vi p2, vi p3, vi p4, vn n, uu, uu, uu, uu, uu, uu, uu, uu, uu, uu, uu, uu, uu, uu, uu, uu] [(.int (Int32.ofNat k))]))) ?_
 refine oi (XS.istore X0.here hx rfl (hb hby at_12) rfl (l' := #[vi p1, vi p2, vi p3, vi p4, vn n, vn k, uu, uu, uu, uu, uu, uu, uu, uu, uu, uu, uu, uu, uu, uu, uu]) rfl) ?_
 refine oi (XS.iloadN X0.here hx rfl (hb hby at_14) rfl) ?_
 refine oi (XS.sipush X0.here hx rfl (hb hby at_15)) ?_
 refine oi (XS.iand X0.here hx rfl (hb hby at_18) rfl) ?_
 refine oi (XS.i2c X0.here hx rfl (hb hby at_19) rfl) ?_
 refine so (A := (s₁.setTop (mkF m 20 #[vi p1, vi p2, vi p3, vi p4, vn n, vn k, uu, uu, uu, uu, uu, uu, uu, uu, uu, uu, uu, uu, uu, uu, uu] [(.int ((p2 &&& (255 : Int32)).toUInt32.toUInt16.toUInt32.toInt32))]))) ?_
 obtain ⟨cz, hcz, eccz⟩ : ∃ z : Int32, own_ch z ∧ ((p2 &&& (255 : Int32)).toUInt32.toUInt16.toUInt32.toInt32) = z := ⟨_, own_c255 _, rfl⟩
 rw [eccz]
 refine so (A := (s₁.setTop (mkF m 20 #[vi p1, vi p2, vi p3, vi p4, vn n, vn k, uu, uu, uu, uu, uu, uu, uu, uu, uu, uu, uu, uu, uu, uu, uu] [(.int cz)]))) ?_
 refine oi (XS.istore X0.here hx rfl (hb hby at_20) rfl (l' := #[vi p1, vi p2, vi p3, vi p4, vn n, vn k, vi cz, uu, uu, uu, uu, uu, uu, uu, uu, uu, uu, uu, uu, uu, uu]) rfl) ?_
 refine oi (XS.iconst X0.here hx rfl (hb hby at_22)) ?_
 obtain ⟨T1, h1, k1, X1, e1, E1, A1, st1⟩ := newP X0 hx hZ (hW 0 _ rfl) e0 (g := (mkF m 23 #[vi p1, vi p2, vi p3, vi p4, vn n, vn k, vi cz, uu, uu, uu, uu, uu, uu, uu, uu, uu, uu, uu, uu, uu, uu] [(.int 3)])) rfl (hb hby at_23) rfl (by decide) (cap := 3) (by decide) (by decide) (by decide) (by decide)
 obtain ⟨b1, g1⟩ : ∃ z, z = h0.size := ⟨_, rfl⟩
 rw [← g1] at A1 st1
 refine oo st1 ?_
 have lt1 := olt A1.lt
 have sz1 : h0.size ≤ h1.size := E1.1
 have O1 : Old Z n0 h1 := XO0.ext E1
 have z1 : n0 ≤ b1 := by have := XO0.1 ▸ XO0.2.1; omega
 have V1 : Arv Z h1 b1 k1 .char (3 : Int32) [(.int 0), (.int 0), (.int 0)] (.int 0) := (Arv.new A1 (by decide)).pad (pad_rep [] (.int 0) 3)
 refine oi (XS.astore X1.here hx rfl (hb hby at_25) rfl rfl (l' := #[vi p1, vi p2, vi p3, vi p4, vn n, vn k, vi cz, vr b1, uu, uu, uu, uu, uu, uu, uu, uu, uu, uu, uu, uu, uu]) rfl) ?_
 refine oi (XS.aload X1.here hx rfl (hb hby at_27) rfl rfl) ?_
 refine oi (XS.iconst X1.here hx rfl (hb hby at_29)) ?_
 refine oi (XS.iloadN X1.here hx rfl (hb hby at_30) rfl) ?_
 refine oi (XS.iconst X1.here hx rfl (hb hby at_31)) ?_
 refine oi (XS.iushr X1.here hx rfl (hb hby at_32) rfl) ?_
 refine oi (XS.iconst X1.here hx rfl (hb hby at_33)) ?_
 refine oi (XS.iand X1.here hx rfl (hb hby at_34) rfl) ?_
 refine so (A := (T1.setTop (mkF m 35 #[vi p1, vi p2, vi p3, vi p4, vn n, vn k, vi cz, vr b1, uu, uu, uu, uu, uu, uu, uu, uu, uu, uu, uu, uu, uu] [(.int (((p1.toUInt32 >>> ((4 : Int32) &&& 31).toUInt32).toInt32) &&& (1 : Int32))), (.int 0), (.ref b1)]))) ?_
 refine own_use X1 (h := h1) (g := fun t2 : {z : Int32 // own_ch z} => (mkF m 52 #[vi p1, vi p2, vi p3, vi p4, vn n, vn k, vi cz, vr b1, uu, uu, uu, uu, uu, uu, uu, uu, uu, uu, uu, uu, uu] [(.int t2.1), (.int 0), (.ref b1)])) (G := own_go p e below s _ _ _) ?_ ?_
 ·intro t2 T2 X2 e2
  refine so (A := (T2.setTop (mkF m 52 #[vi p1, vi p2, vi p3, vi p4, vn n, vn k, vi cz, vr b1, uu, uu, uu, uu, uu, uu, uu, uu, uu, uu, uu, uu, uu] [(.int t2.1), (.int 0), (.ref b1)]))) ?_
  obtain ⟨cl3, Ar3, q3, S3, Ng3, H3, G3⟩ := V1
  obtain ⟨T3, h3, X3, e3, W3, st3⟩ := stC X2 hx hZ e2 Ar3 (j := (0 : Int32)) (inb_of S3 ⟨by decide, by decide⟩) (g := (mkF m 52 #[vi p1, vi p2, vi p3, vi p4, vn n, vn k, vi cz, vr b1, uu, uu, uu, uu, uu, uu, uu, uu, uu, uu, uu, uu, uu] [(.int t2.1), (.int 0), (.ref b1)])) rfl rfl (hb hby at_52)
  have V3 : Arv Z h3 b1 k1 .char (3 : Int32) [(.int (nar .char t2.1)), (.int 0), (.int 0)] (.int 0) := Arv.set Ar3 q3 S3 Ng3 H3 G3 (fits_nar_char _) W3 0 rfl (Nat.le_of_ble_eq_true rfl)
  rw [own_nar t2.2] at V3
  refine oo st3 ?_
  have N3 := Fr.snoc X3 N0 (by omega : n0 ≤ b1)
  have sz3 : h3.size = h1.size := W3.size
  have O3 : Old Z n0 h3 := O1.wr W3 (by omega)
  refine oi (XS.aload X3.here hx rfl (hb hby at_53) rfl rfl) ?_
  refine oi (XS.iconst X3.here hx rfl (hb hby at_55)) ?_
  refine oi (XS.iloadN X3.here hx rfl (hb hby at_56) rfl) ?_
  refine oi (XS.iconst X3.here hx rfl (hb hby at_57)) ?_
  refine oi (XS.iushr X3.here hx rfl (hb hby at_58) rfl) ?_
  refine oi (XS.iconst X3.here hx rfl (hb hby at_59)) ?_
  refine oi (XS.iand X3.here hx rfl (hb hby at_60) rfl) ?_
  refine so (A := (T3.setTop (mkF m 61 #[vi p1, vi p2, vi p3, vi p4, vn n, vn k, vi cz, vr b1, uu, uu, uu, uu, uu, uu, uu, uu, uu, uu, uu, uu, uu] [(.int (((p1.toUInt32 >>> ((5 : Int32) &&& 31).toUInt32).toInt32) &&& (1 : Int32))), (.int 1), (.ref b1)]))) ?_
  refine own_use X3 (h := h3) (g := fun t4 : {z : Int32 // own_ch z} => (mkF m 78 #[vi p1, vi p2, vi p3, vi p4, vn n, vn k, vi cz, vr b1, uu, uu, uu, uu, uu, uu, uu, uu, uu, uu, uu, uu, uu] [(.int t4.1), (.int 1), (.ref b1)])) (G := own_go p e below s _ _ _) ?_ ?_
  ·intro t4 T4 X4 e4
   refine so (A := (T4.setTop (mkF m 78 #[vi p1, vi p2, vi p3, vi p4, vn n, vn k, vi cz, vr b1, uu, uu, uu, uu, uu, uu, uu, uu, uu, uu, uu, uu, uu] [(.int t4.1), (.int 1), (.ref b1)]))) ?_
   obtain ⟨cl5, Ar5, q5, S5, Ng5, H5, G5⟩ := V3
   obtain ⟨T5, h5, X5, e5, W5, st5⟩ := stC X4 hx hZ e4 Ar5 (j := (1 : Int32)) (inb_of S5 ⟨by decide, by decide⟩) (g := (mkF m 78 #[vi p1, vi p2, vi p3, vi p4, vn n, vn k, vi cz, vr b1, uu, uu, uu, uu, uu, uu, uu, uu, uu, uu, uu, uu, uu] [(.int t4.1), (.int 1), (.ref b1)])) rfl rfl (hb hby at_78)
   have V5 : Arv Z h5 b1 k1 .char (3 : Int32) [(.int t2.1), (.int (nar .char t4.1)), (.int 0)] (.int 0) := Arv.set Ar5 q5 S5 Ng5 H5 G5 (fits_nar_char _) W5 1 rfl (Nat.le_of_ble_eq_true rfl)
   rw [own_nar t4.2] at V5
   refine oo st5 ?_
   have N5 := Fr.snoc X5 N3 (by omega : n0 ≤ b1)
   have sz5 : h5.size = h3.size := W5.size
   have O5 : Old Z n0 h5 := O3.wr W5 (by omega)
   refine oi (XS.aload X5.here hx rfl (hb hby at_79) rfl rfl) ?_
   refine oi (XS.iconst X5.here hx rfl (hb hby at_81)) ?_
   refine oi (XS.iloadN X5.here hx rfl (hb hby at_82) rfl) ?_
   refine oi (XS.bipush X5.here hx rfl (hb hby at_83)) ?_
   refine oi (XS.iushr X5.here hx rfl (hb hby at_85) rfl) ?_
   refine oi (XS.iconst X5.here hx rfl (hb hby at_86)) ?_
   refine oi (XS.iand X5.here hx rfl (hb hby at_87) rfl) ?_
   refine so (A := (T5.setTop (mkF m 88 #[vi p1, vi p2, vi p3, vi p4, vn n, vn k, vi cz, vr b1, uu, uu, uu, uu, uu, uu, uu, uu, uu, uu, uu, uu, uu] [(.int (((p1.toUInt32 >>> ((6 : Int32) &&& 31).toUInt32).toInt32) &&& (1 : Int32))), (.int 2), (.ref b1)]))) ?_
   refine own_use X5 (h := h5) (g := fun t6 : {z : Int32 // own_ch z} => (mkF m 105 #[vi p1, vi p2, vi p3, vi p4, vn n, vn k, vi cz, vr b1, uu, uu, uu, uu, uu, uu, uu, uu, uu, uu, uu, uu, uu] [(.int t6.1), (.int 2), (.ref b1)])) (G := own_go p e below s _ _ _) ?_ ?_
   ·intro t6 T6 X6 e6
    refine so (A := (T6.setTop (mkF m 105 #[vi p1, vi p2, vi p3, vi p4, vn n, vn k, vi cz, vr b1, uu, uu, uu, uu, uu, uu, uu, uu, uu, uu, uu, uu, uu] [(.int t6.1), (.int 2), (.ref b1)]))) ?_
    obtain ⟨cl7, Ar7, q7, S7, Ng7, H7, G7⟩ := V5
    obtain ⟨T7, h7, X7, e7, W7, st7⟩ := stC X6 hx hZ e6 Ar7 (j := (2 : Int32)) (inb_of S7 ⟨by decide, by decide⟩) (g := (mkF m 105 #[vi p1, vi p2, vi p3, vi p4, vn n, vn k, vi cz, vr b1, uu, uu, uu, uu, uu, uu, uu, uu, uu, uu, uu, uu, uu] [(.int t6.1), (.int 2), (.ref b1)])) rfl rfl (hb hby at_105)
    have V7 : Arv Z h7 b1 k1 .char (3 : Int32) [(.int t2.1), (.int t4.1), (.int (nar .char t6.1))] (.int 0) := Arv.set Ar7 q7 S7 Ng7 H7 G7 (fits_nar_char _) W7 2 rfl (Nat.le_of_ble_eq_true rfl)
    rw [own_nar t6.2] at V7
    refine oo st7 ?_
    have N7 := Fr.snoc X7 N5 (by omega : n0 ≤ b1)
    have sz7 : h7.size = h5.size := W7.size
    have O7 : Old Z n0 h7 := O5.wr W7 (by omega)
    refine oi (XS.iconst X7.here hx rfl (hb hby at_106)) ?_
    obtain ⟨T8, h8, k8, X8, e8, E8, A8, st8⟩ := newP X7 hx hZ (hW 0 _ rfl) e7 (g := (mkF m 107 #[vi p1, vi p2, vi p3, vi p4, vn n, vn k, vi cz, vr b1, uu, uu, uu, uu, uu, uu, uu, uu, uu, uu, uu, uu, uu] [(.int 3)])) rfl (hb hby at_107) rfl (by decide) (cap := 3) (by decide) (by decide) (by decide) (by decide)
    obtain ⟨b8, g8⟩ : ∃ z, z = h7.size := ⟨_, rfl⟩
    rw [← g8] at A8 st8
    refine oo st8 ?_
    have lt8 := olt A8.lt
    have sz8 : h7.size ≤ h8.size := E8.1
    have O8 : Old Z n0 h8 := O7.ext E8
    have z8 : n0 ≤ b8 := by have := O7.1 ▸ O7.2.1; omega
    have V8 : Arv Z h8 b8 k8 .char (3 : Int32) [(.int 0), (.int 0), (.int 0)] (.int 0) := (Arv.new A8 (by decide)).pad (pad_rep [] (.int 0) 3)
    refine oi (XS.astore X8.here hx rfl (hb hby at_109) rfl rfl (l' := #[vi p1, vi p2, vi p3, vi p4, vn n, vn k, vi cz, vr b1, vr b8, uu, uu, uu, uu, uu, uu, uu, uu, uu, uu, uu, uu]) rfl) ?_
    refine oi (XS.aload X8.here hx rfl (hb hby at_111) rfl rfl) ?_
    refine oi (XS.iconst X8.here hx rfl (hb hby at_113)) ?_
    refine oi (XS.iloadN X8.here hx rfl (hb hby at_114) rfl) ?_
    refine oi (XS.sipush X8.here hx rfl (hb hby at_115)) ?_
    refine oi (XS.iand X8.here hx rfl (hb hby at_118) rfl) ?_
    refine oi (XS.i2c X8.here hx rfl (hb hby at_119) rfl) ?_
    refine so (A := (T8.setTop (mkF m 120 #[vi p1, vi p2, vi p3, vi p4, vn n, vn k, vi cz, vr b1, vr b8, uu, uu, uu, uu, uu, uu, uu, uu, uu, uu, uu, uu] [(.int ((p3 &&& (255 : Int32)).toUInt32.toUInt16.toUInt32.toInt32)), (.int 0), (.ref b8)]))) ?_
    obtain ⟨d0, hd0, ecd0⟩ : ∃ z : Int32, own_ch z ∧ ((p3 &&& (255 : Int32)).toUInt32.toUInt16.toUInt32.toInt32) = z := ⟨_, own_c255 _, rfl⟩
    rw [ecd0]
    refine so (A := (T8.setTop (mkF m 120 #[vi p1, vi p2, vi p3, vi p4, vn n, vn k, vi cz, vr b1, vr b8, uu, uu, uu, uu, uu, uu, uu, uu, uu, uu, uu, uu] [(.int d0), (.int 0), (.ref b8)]))) ?_
    obtain ⟨cl9, Ar9, q9, S9, Ng9, H9, G9⟩ := V8
    obtain ⟨T9, h9, X9, e9, W9, st9⟩ := stC X8 hx hZ e8 Ar9 (j := (0 : Int32)) (inb_of S9 ⟨by decide, by decide⟩) (g := (mkF m 120 #[vi p1, vi p2, vi p3, vi p4, vn n, vn k, vi cz, vr b1, vr b8, uu, uu, uu, uu, uu, uu, uu, uu, uu, uu, uu, uu] [(.int d0), (.int 0), (.ref b8)])) rfl rfl (hb hby at_120)
    have V9 : Arv Z h9 b8 k8 .char (3 : Int32) [(.int (nar .char d0)), (.int 0), (.int 0)] (.int 0) := Arv.set Ar9 q9 S9 Ng9 H9 G9 (fits_nar_char _) W9 0 rfl (Nat.le_of_ble_eq_true rfl)
    rw [own_nar hd0] at V9
    refine oo st9 ?_
    have N9 := Fr.snoc X9 N7 (by omega : n0 ≤ b8)
    have sz9 : h9.size = h8.size := W9.size
    have O9 : Old Z n0 h9 := O8.wr W9 (by omega)
    refine oi (XS.aload X9.here hx rfl (hb hby at_121) rfl rfl) ?_
    refine oi (XS.iconst X9.here hx rfl (hb hby at_123)) ?_
    refine oi (XS.iloadN X9.here hx rfl (hb hby at_124) rfl) ?_
    refine oi (XS.bipush X9.here hx rfl (hb hby at_125)) ?_
    refine oi (XS.iushr X9.here hx rfl (hb hby at_127) rfl) ?_
    refine oi (XS.sipush X9.here hx rfl (hb hby at_128)) ?_
    refine oi (XS.iand X9.here hx rfl (hb hby at_131) rfl) ?_
    refine oi (XS.i2c X9.here hx rfl (hb hby at_132) rfl) ?_
    refine so (A := (T9.setTop (mkF m 133 #[vi p1, vi p2, vi p3, vi p4, vn n, vn k, vi cz, vr b1, vr b8, uu, uu, uu, uu, uu, uu, uu, uu, uu, uu, uu, uu] [(.int ((((p3.toUInt32 >>> ((8 : Int32) &&& 31).toUInt32).toInt32) &&& (255 : Int32)).toUInt32.toUInt16.toUInt32.toInt32)), (.int 1), (.ref b8)]))) ?_
    obtain ⟨d1, hd1, ecd1⟩ : ∃ z : Int32, own_ch z ∧ ((((p3.toUInt32 >>> ((8 : Int32) &&& 31).toUInt32).toInt32) &&& (255 : Int32)).toUInt32.toUInt16.toUInt32.toInt32) = z := ⟨_, own_c255 _, rfl⟩
    rw [ecd1]
    refine so (A := (T9.setTop (mkF m 133 #[vi p1, vi p2, vi p3, vi p4, vn n, vn k, vi cz, vr b1, vr b8, uu, uu, uu, uu, uu, uu, uu, uu, uu, uu, uu, uu] [(.int d1), (.int 1), (.ref b8)]))) ?_
    obtain ⟨cl10, Ar10, q10, S10, Ng10, H10, G10⟩ := V9
    obtain ⟨T10, h10, X10, e10, W10, st10⟩ := stC X9 hx hZ e9 Ar10 (j := (1 : Int32)) (inb_of S10 ⟨by decide, by decide⟩) (g := (mkF m 133 #[vi p1, vi p2, vi p3, vi p4, vn n, vn k, vi cz, vr b1, vr b8, uu, uu, uu, uu, uu, uu, uu, uu, uu, uu, uu, uu] [(.int d1), (.int 1), (.ref b8)])) rfl rfl (hb hby at_133)
    have V10 : Arv Z h10 b8 k8 .char (3 : Int32) [(.int d0), (.int (nar .char d1)), (.int 0)] (.int 0) := Arv.set Ar10 q10 S10 Ng10 H10 G10 (fits_nar_char _) W10 1 rfl (Nat.le_of_ble_eq_true rfl)
    rw [own_nar hd1] at V10
    refine oo st10 ?_
    have N10 := Fr.snoc X10 N9 (by omega : n0 ≤ b8)
    have sz10 : h10.size = h9.size := W10.size
    have O10 : Old Z n0 h10 := O9.wr W10 (by omega)
    refine oi (XS.aload X10.here hx rfl (hb hby at_134) rfl rfl) ?_
    refine oi (XS.iconst X10.here hx rfl (hb hby at_136)) ?_
    refine oi (XS.iloadN X10.here hx rfl (hb hby at_137) rfl) ?_
    refine oi (XS.bipush X10.here hx rfl (hb hby at_138)) ?_
    refine oi (XS.iushr X10.here hx rfl (hb hby at_140) rfl) ?_
    refine oi (XS.sipush X10.here hx rfl (hb hby at_141)) ?_
    refine oi (XS.iand X10.here hx rfl (hb hby at_144) rfl) ?_
    refine oi (XS.i2c X10.here hx rfl (hb hby at_145) rfl) ?_
    refine so (A := (T10.setTop (mkF m 146 #[vi p1, vi p2, vi p3, vi p4, vn n, vn k, vi cz, vr b1, vr b8, uu, uu, uu, uu, uu, uu, uu, uu, uu, uu, uu, uu] [(.int ((((p3.toUInt32 >>> ((16 : Int32) &&& 31).toUInt32).toInt32) &&& (255 : Int32)).toUInt32.toUInt16.toUInt32.toInt32)), (.int 2), (.ref b8)]))) ?_
    obtain ⟨d2, hd2, ecd2⟩ : ∃ z : Int32, own_ch z ∧ ((((p3.toUInt32 >>> ((16 : Int32) &&& 31).toUInt32).toInt32) &&& (255 : Int32)).toUInt32.toUInt16.toUInt32.toInt32) = z := ⟨_, own_c255 _, rfl⟩
    rw [ecd2]
    refine so (A := (T10.setTop (mkF m 146 #[vi p1, vi p2, vi p3, vi p4, vn n, vn k, vi cz, vr b1, vr b8, uu, uu, uu, uu, uu, uu, uu, uu, uu, uu, uu, uu] [(.int d2), (.int 2), (.ref b8)]))) ?_
    obtain ⟨cl11, Ar11, q11, S11, Ng11, H11, G11⟩ := V10
    obtain ⟨T11, h11, X11, e11, W11, st11⟩ := stC X10 hx hZ e10 Ar11 (j := (2 : Int32)) (inb_of S11 ⟨by decide, by decide⟩) (g := (mkF m 146 #[vi p1, vi p2, vi p3, vi p4, vn n, vn k, vi cz, vr b1, vr b8, uu, uu, uu, uu, uu, uu, uu, uu, uu, uu, uu, uu] [(.int d2), (.int 2), (.ref b8)])) rfl rfl (hb hby at_146)
    have V11 : Arv Z h11 b8 k8 .char (3 : Int32) [(.int d0), (.int d1), (.int (nar .char d2))] (.int 0) := Arv.set Ar11 q11 S11 Ng11 H11 G11 (fits_nar_char _) W11 2 rfl (Nat.le_of_ble_eq_true rfl)
    rw [own_nar hd2] at V11
    refine oo st11 ?_
    have N11 := Fr.snoc X11 N10 (by omega : n0 ≤ b8)
    have sz11 : h11.size = h10.size := W11.size
    have O11 : Old Z n0 h11 := O10.wr W11 (by omega)
    refine oi (XS.iconst X11.here hx rfl (hb hby at_147)) ?_
    obtain ⟨T12, h12, k12, X12, e12, E12, A12, st12⟩ := newP X11 hx hZ (hW 0 _ rfl) e11 (g := (mkF m 148 #[vi p1, vi p2, vi p3, vi p4, vn n, vn k, vi cz, vr b1, vr b8, uu, uu, uu, uu, uu, uu, uu, uu, uu, uu, uu, uu] [(.int 2)])) rfl (hb hby at_148) rfl (by decide) (cap := 2) (by decide) (by decide) (by decide) (by decide)
    obtain ⟨b12, g12⟩ : ∃ z, z = h11.size := ⟨_, rfl⟩
    rw [← g12] at A12 st12
    refine oo st12 ?_
    have lt12 := olt A12.lt
    have sz12 : h11.size ≤ h12.size := E12.1
    have O12 : Old Z n0 h12 := O11.ext E12
    have z12 : n0 ≤ b12 := by have := O11.1 ▸ O11.2.1; omega
    have V12 : Arv Z h12 b12 k12 .char (2 : Int32) [(.int 0), (.int 0)] (.int 0) := (Arv.new A12 (by decide)).pad (pad_rep [] (.int 0) 2)
    refine oi (XS.astore X12.here hx rfl (hb hby at_150) rfl rfl (l' := #[vi p1, vi p2, vi p3, vi p4, vn n, vn k, vi cz, vr b1, vr b8, vr b12, uu, uu, uu, uu, uu, uu, uu, uu, uu, uu, uu]) rfl) ?_
    refine oi (XS.aload X12.here hx rfl (hb hby at_152) rfl rfl) ?_
    refine oi (XS.iconst X12.here hx rfl (hb hby at_154)) ?_
    refine oi (XS.iloadN X12.here hx rfl (hb hby at_155) rfl) ?_
    refine oi (XS.sipush X12.here hx rfl (hb hby at_156)) ?_
    refine oi (XS.iand X12.here hx rfl (hb hby at_159) rfl) ?_
    refine oi (XS.i2c X12.here hx rfl (hb hby at_160) rfl) ?_
    refine so (A := (T12.setTop (mkF m 161 #[vi p1, vi p2, vi p3, vi p4, vn n, vn k, vi cz, vr b1, vr b8, vr b12, uu, uu, uu, uu, uu, uu, uu, uu, uu, uu, uu] [(.int ((p4 &&& (255 : Int32)).toUInt32.toUInt16.toUInt32.toInt32)), (.int 0), (.ref b12)]))) ?_
    obtain ⟨f0, hf0, ecf0⟩ : ∃ z : Int32, own_ch z ∧ ((p4 &&& (255 : Int32)).toUInt32.toUInt16.toUInt32.toInt32) = z := ⟨_, own_c255 _, rfl⟩
    rw [ecf0]
    refine so (A := (T12.setTop (mkF m 161 #[vi p1, vi p2, vi p3, vi p4, vn n, vn k, vi cz, vr b1, vr b8, vr b12, uu, uu, uu, uu, uu, uu, uu, uu, uu, uu, uu] [(.int f0), (.int 0), (.ref b12)]))) ?_
    obtain ⟨cl13, Ar13, q13, S13, Ng13, H13, G13⟩ := V12
    obtain ⟨T13, h13, X13, e13, W13, st13⟩ := stC X12 hx hZ e12 Ar13 (j := (0 : Int32)) (inb_of S13 ⟨by decide, by decide⟩) (g := (mkF m 161 #[vi p1, vi p2, vi p3, vi p4, vn n, vn k, vi cz, vr b1, vr b8, vr b12, uu, uu, uu, uu, uu, uu, uu, uu, uu, uu, uu] [(.int f0), (.int 0), (.ref b12)])) rfl rfl (hb hby at_161)
    have V13 : Arv Z h13 b12 k12 .char (2 : Int32) [(.int (nar .char f0)), (.int 0)] (.int 0) := Arv.set Ar13 q13 S13 Ng13 H13 G13 (fits_nar_char _) W13 0 rfl (Nat.le_of_ble_eq_true rfl)
    rw [own_nar hf0] at V13
    refine oo st13 ?_
    have N13 := Fr.snoc X13 N11 (by omega : n0 ≤ b12)
    have sz13 : h13.size = h12.size := W13.size
    have O13 : Old Z n0 h13 := O12.wr W13 (by omega)
    refine oi (XS.aload X13.here hx rfl (hb hby at_162) rfl rfl) ?_
    refine oi (XS.iconst X13.here hx rfl (hb hby at_164)) ?_
    refine oi (XS.iloadN X13.here hx rfl (hb hby at_165) rfl) ?_
    refine oi (XS.bipush X13.here hx rfl (hb hby at_166)) ?_
    refine oi (XS.iushr X13.here hx rfl (hb hby at_168) rfl) ?_
    refine oi (XS.sipush X13.here hx rfl (hb hby at_169)) ?_
    refine oi (XS.iand X13.here hx rfl (hb hby at_172) rfl) ?_
    refine oi (XS.i2c X13.here hx rfl (hb hby at_173) rfl) ?_
    refine so (A := (T13.setTop (mkF m 174 #[vi p1, vi p2, vi p3, vi p4, vn n, vn k, vi cz, vr b1, vr b8, vr b12, uu, uu, uu, uu, uu, uu, uu, uu, uu, uu, uu] [(.int ((((p4.toUInt32 >>> ((8 : Int32) &&& 31).toUInt32).toInt32) &&& (255 : Int32)).toUInt32.toUInt16.toUInt32.toInt32)), (.int 1), (.ref b12)]))) ?_
    obtain ⟨f1, hf1, ecf1⟩ : ∃ z : Int32, own_ch z ∧ ((((p4.toUInt32 >>> ((8 : Int32) &&& 31).toUInt32).toInt32) &&& (255 : Int32)).toUInt32.toUInt16.toUInt32.toInt32) = z := ⟨_, own_c255 _, rfl⟩
    rw [ecf1]
    refine so (A := (T13.setTop (mkF m 174 #[vi p1, vi p2, vi p3, vi p4, vn n, vn k, vi cz, vr b1, vr b8, vr b12, uu, uu, uu, uu, uu, uu, uu, uu, uu, uu, uu] [(.int f1), (.int 1), (.ref b12)]))) ?_
    obtain ⟨cl14, Ar14, q14, S14, Ng14, H14, G14⟩ := V13
    obtain ⟨T14, h14, X14, e14, W14, st14⟩ := stC X13 hx hZ e13 Ar14 (j := (1 : Int32)) (inb_of S14 ⟨by decide, by decide⟩) (g := (mkF m 174 #[vi p1, vi p2, vi p3, vi p4, vn n, vn k, vi cz, vr b1, vr b8, vr b12, uu, uu, uu, uu, uu, uu, uu, uu, uu, uu, uu] [(.int f1), (.int 1), (.ref b12)])) rfl rfl (hb hby at_174)
    have V14 : Arv Z h14 b12 k12 .char (2 : Int32) [(.int f0), (.int (nar .char f1))] (.int 0) := Arv.set Ar14 q14 S14 Ng14 H14 G14 (fits_nar_char _) W14 1 rfl (Nat.le_of_ble_eq_true rfl)
    rw [own_nar hf1] at V14
    refine oo st14 ?_
    have N14 := Fr.snoc X14 N13 (by omega : n0 ≤ b12)
    have sz14 : h14.size = h13.size := W14.size
    have O14 : Old Z n0 h14 := O13.wr W14 (by omega)
    refine so (A := (T14.setTop (mkF m 175 #[vi p1, vi p2, vi p3, vi p4, vn n, vn k, vi cz, vr b1, vr b8, vr b12, uu, uu, uu, uu, uu, uu, uu, uu, uu, uu, uu] []))) ?_
    suffices J562 : ∀ (H6 : Heap) (T6 : State) (ls6 : List Loc) (rs er : Nat) (kr : ClassId) (zs : List Nat) (rq : Int32) (qs : List (Int32 × Int32)) (bq : Nat) (sz po kx cz : Int32) (an av aw : Nat) (k1 k2 k3 : ClassId) (ms os vw : List Int32) (l0 l1 l2 l3 l4 l7 l8 l10 l11 l13 l14 l15 l18 : Slot), (Stand p l e room_1 s m #[.int p1, .int p2, .int p3, .int p4] below meth c T6 ls6 90 330) → (T6.heap = H6) → (Fr n0 ls6) → (Old Z n0 H6) → (own_al Z H6 dq n0 rs er kr zs rq) → (own_its Z H6 bq zs qs) → (sz = Int32.ofNat qs.length) → (zs.length ≤ 9) → (Arv Z H6 an k1 .char (3 : Int32) (ms.map Value.int) (.int 0)) → (Arv Z H6 av k2 .char (3 : Int32) (os.map Value.int) (.int 0)) → (Arv Z H6 aw k3 .char (2 : Int32) (vw.map Value.int) (.int 0)) → (own_sel qs 0 po kx ms os cz vw) → (own_sel qs 1 po kx ms os cz vw) → (own_sel qs 2 po kx ms os cz vw) → (own_sel qs 3 po kx ms os cz vw) → (own_sel qs 4 po kx ms os cz vw) → own_go p e below s (Q_rm0 Z p1 p2 p3 p4 dq kd mr Gc h0 n0) room_1.cells room_1.slots (T6.setTop (mkF m 562 #[l0, l1, l2, l3, l4, vi kx, vi cz, l7, l8, vr aw, l10, l11, vr rs, l13, l14, l15, vr an, vr av, l18, vi po, vi sz] [])) by
     suffices J328 : ∀ (H3 : Heap) (T3 : State) (ls3 : List Loc) (n k : Nat) (lp ep : Nat) (kp : ClassId) (ys : List Nat) (mp : Int32) (lv ev : Nat) (kv : ClassId) (vs : List Nat) (mv : Int32) (l0 l1 l2 l3 : Slot), (n ≤ 3) → (k ≤ 2) → (Stand p l e room_1 s m #[.int p1, .int p2, .int p3, .int p4] below meth c T3 ls3 44 170) → (T3.heap = H3) → (Fr n0 ls3) → (Old Z n0 H3) → (own_al Z H3 dq n0 lp ep kp ys mp) → (own_its Z H3 H3.size ys ([(t2.1, d0), (t4.1, d1), (t6.1, d2)].take n)) → (own_al Z H3 dq n0 lv ev kv vs mv) → (own_sts Z H3 vs ([f0, f1].take k)) → (Arv Z H3 b1 k1 .char (3 : Int32) [(.int t2.1), (.int t4.1), (.int t6.1)] (.int 0)) → (Arv Z H3 b8 k8 .char (3 : Int32) [(.int d0), (.int d1), (.int d2)] (.int 0)) → (Arv Z H3 b12 k12 .char (2 : Int32) [(.int f0), (.int f1)] (.int 0)) → own_go p e below s (Q_rm0 Z p1 p2 p3 p4 dq kd mr Gc h0 n0) room_1.cells room_1.slots (T3.setTop (mkF m 328 #[l0, l1, l2, l3, vn n, vn k, vi cz, vr b1, vr b8, vr b12, vr lp, vr lv, uu, uu, uu, uu, uu, uu, uu, uu, uu] [])) by
      suffices J282 : ∀ (H2 : Heap) (T2 : State) (ls2 : List Loc) (n : Nat) (lp ep : Nat) (kp : ClassId) (ys : List Nat) (mp : Int32), (n ≤ 3) → (Stand p l e room_1 s m #[.int p1, .int p2, .int p3, .int p4] below meth c T2 ls2 36 110) → (T2.heap = H2) → (Fr n0 ls2) → (Old Z n0 H2) → (own_al Z H2 dq n0 lp ep kp ys mp) → (own_its Z H2 H2.size ys ([(t2.1, d0), (t4.1, d1), (t6.1, d2)].take n)) → (Arv Z H2 b1 k1 .char (3 : Int32) [(.int t2.1), (.int t4.1), (.int t6.1)] (.int 0)) → (Arv Z H2 b8 k8 .char (3 : Int32) [(.int d0), (.int d1), (.int d2)] (.int 0)) → (Arv Z H2 b12 k12 .char (2 : Int32) [(.int f0), (.int f1)] (.int 0)) → own_go p e below s (Q_rm0 Z p1 p2 p3 p4 dq kd mr Gc h0 n0) room_1.cells room_1.slots (T2.setTop (mkF m 282 #[vi p1, vi p2, vi p3, vi p4, vn n, vn k, vi cz, vr b1, vr b8, vr b12, vr lp, uu, uu, uu, uu, uu, uu, uu, uu, uu, uu] [])) by
       refine so (A := (T14.setTop (mkF m 175 #[vi p1, vi p2, vi p3, vi p4, vn n, vn k, vi cz, vr b1, vr b8, vr b12, uu, uu, uu, uu, uu, uu, uu, uu, uu, uu, uu] []))) ?_
       obtain ⟨T207, h207, X207, e207, E207, A207, D207, -, st207⟩ := newO X14 hx hZ hown (hW 1 _ rfl) (hW 2 _ rfl) (hW 3 _ rfl) e14 (g := (mkF m 175 #[vi p1, vi p2, vi p3, vi p4, vn n, vn k, vi cz, vr b1, vr b8, vr b12, uu, uu, uu, uu, uu, uu, uu, uu, uu, uu, uu] [])) rfl (hb hby at_175) (by decide) (by decide)
       obtain ⟨b207, g207⟩ : ∃ z, z = h14.size := ⟨_, rfl⟩
       rw [← g207] at A207 D207 st207
       refine oo st207 ?_
       have lt207 := olt A207.lt
       have sz207 : h14.size ≤ h207.size := E207.1
       have O207 : Old Z n0 h207 := O14.ext E207
       have z207 : n0 ≤ b207 := by have := O14.1 ▸ O14.2.1; omega
       have F207_modCount : Fld Z h207 b207 "java/util/AbstractList" "modCount" "I" (.int 0) := D207 (Or.inl (hW 23 _ rfl)) (ty := .int) pf_2
       have F207_elementData : Fld Z h207 b207 "java/util/ArrayList" "elementData" "[Ljava/lang/Object;" .null := D207 (Or.inl (hW 26 _ rfl)) (ty := (.array (.object "java/lang/Object"))) pf_3
       have F207_size : Fld Z h207 b207 "java/util/ArrayList" "size" "I" (.int 0) := D207 (Or.inl (hW 94 _ rfl)) (ty := .int) pf_2
       refine oi (XS.dup X207.here hx rfl (hb hby at_178) rfl rfl) ?_
       refine so (A := (T207.setTop (mkF m 179 #[vi p1, vi p2, vi p3, vi p4, vn n, vn k, vi cz, vr b1, vr b8, vr b12, uu, uu, uu, uu, uu, uu, uu, uu, uu, uu, uu] [(.ref b207), (.ref b207)]))) ?_
       obtain ⟨_, T208, Lc208, X208, hQ208, st208⟩ := own_c1 X207 <| X207.specialBack hx (y := ym1) rfl hown (mvT hZ (hW 4 _ rfl)) (mvT hZ (hW 5 _ rfl)) (mvT hZ (hW 6 _ rfl)) (by decide) (backOf (W := 1) (rmLI l Z a0 hw [] b207 dq kd mr h207 n0 O207 (by omega) S_d V_d E_d M_r l_d A207 F207_elementData F207_size F207_modCount) hZ (hW 6 _ rfl) (hW 3 _ rfl) (by decide) (by decide)) (g := (mkF m 179 #[vi p1, vi p2, vi p3, vi p4, vn n, vn k, vi cz, vr b1, vr b8, vr b12, uu, uu, uu, uu, uu, uu, uu, uu, uu, uu, uu] [(.ref b207), (.ref b207)])) rfl (by rw [hml]; rfl) (Steps.refl _) (a := b207) (argsL := []) (rest := [(.ref b207)]) (lenOf pd_3 rfl) rfl (Nat.le_of_eq rfl) (hb hby at_179) (fun _ _ => ⟨rfl, e207, (by decide : 4 + 0 ≤ _), (by decide : 11 + 0 ≤ _)⟩)
       obtain ⟨rfl, Nq208, Kp208, AL208⟩ := hQ208
       have N208 := Fr.app N14 Nq208
       refine oo (fun tt_ kk_ => st208.trans kk_) ?_
       have sz208 : h207.size ≤ T208.heap.size := Kp208.1
       have O208 : Old Z n0 T208.heap := O207.keep Kp208 (allS (by omega) all0)
       refine oi (XS.astore X208.here hx rfl (hb hby at_182) rfl rfl (l' := #[vi p1, vi p2, vi p3, vi p4, vn n, vn k, vi cz, vr b1, vr b8, vr b12, vr b207, uu, uu, uu, uu, uu, uu, uu, uu, uu, uu]) rfl) ?_
       refine oi (XS.iload X208.here hx rfl (hb hby at_184) rfl) ?_
       by_cases hb186_209 : (0 : Int32) < (Int32.ofNat n)
       ·refine oi (XS.ifNo X208.here hx rfl (hb hby at_186) rfl ((if0 _ _).trans (tlt hb186_209).2.2.2)) ?_
        refine so (A := (T208.setTop (mkF m 189 #[vi p1, vi p2, vi p3, vi p4, vn n, vn k, vi cz, vr b1, vr b8, vr b12, vr b207, uu, uu, uu, uu, uu, uu, uu, uu, uu, uu] []))) ?_
        refine oi (XS.aload X208.here hx rfl (hb hby at_189) rfl rfl) ?_
        obtain ⟨T210, h210, X210, e210, E210, A210, D210, -, st210⟩ := newO X208 hx hZ hown (hW 147 _ rfl) (hW 148 _ rfl) (hW 149 _ rfl) rfl (g := (mkF m 191 #[vi p1, vi p2, vi p3, vi p4, vn n, vn k, vi cz, vr b1, vr b8, vr b12, vr b207, uu, uu, uu, uu, uu, uu, uu, uu, uu, uu] [(.ref b207)])) rfl (hb hby at_191) (by decide) (by decide)
        obtain ⟨b210, g210⟩ : ∃ z, z = T208.heap.size := ⟨_, rfl⟩
        rw [← g210] at A210 D210 st210
        refine oo st210 ?_
        have lt210 := olt A210.lt
        have sz210 : T208.heap.size ≤ h210.size := E210.1
        have O210 : Old Z n0 h210 := O208.ext E210
        have z210 : n0 ≤ b210 := by have := O208.1 ▸ O208.2.1; omega
        have F210_name : Fld Z h210 b210 "com/example/practory/practory/server/SearchQuery$Parameter" "name" "Ljava/lang/String;" .null := D210 (Or.inr (hW 160 _ rfl)) (ty := (.object "java/lang/String")) pf_5
        have F210_value : Fld Z h210 b210 "com/example/practory/practory/server/SearchQuery$Parameter" "value" "Ljava/lang/String;" .null := D210 (Or.inr (hW 162 _ rfl)) (ty := (.object "java/lang/String")) pf_5
        refine oi (XS.dup X210.here hx rfl (hb hby at_194) rfl rfl) ?_
        refine oi (XS.aload X210.here hx rfl (hb hby at_195) rfl rfl) ?_
        refine oi (XS.iconst X210.here hx rfl (hb hby at_197)) ?_
        have f211 : Arv Z h210 b1 k1 .char (3 : Int32) [(.int t2.1), (.int t4.1), (.int t6.1)] (.int 0) := ((((((((((V7.ext E8).other W9 (one (by omega))).other W10 (one (by omega))).other W11 (one (by omega))).ext E12).other W13 (one (by omega))).other W14 (one (by omega))).ext E207).keep Kp208 (ninS (one (by omega)) nin0)).ext E210)
        obtain ⟨cl212, Ar212, q212, S212, Ng212, H212, G212⟩ := id f211
        have hin212 : ¬ ((0 : Int32) < 0 ∨ cl212.slots.size ≤ ((0 : Int32)).toNatClampNeg) := inb_of S212 ⟨by decide, by decide⟩
        have hat212 : cl212.slots[((0 : Int32)).toNatClampNeg]? = some (.int t2.1) := H212 0 (by rw [S212]; decide)
        refine oo (fun _ => X210.caload hx (j := (0 : Int32)) (v := (.int t2.1)) (by rw [e210]; exact Ar212.1) (State.isArrayOf_alike hZ.alike Ar212.2.1) Ar212.2.2 hin212 hat212 (g := (mkF m 198 #[vi p1, vi p2, vi p3, vi p4, vn n, vn k, vi cz, vr b1, vr b8, vr b12, vr b207, uu, uu, uu, uu, uu, uu, uu, uu, uu, uu] [(.int 0), (.ref b1), (.ref b210), (.ref b210), (.ref b207)])) rfl rfl (hb hby at_198) _) ?_
        refine so (A := (T210.setTop (mkF m 199 #[vi p1, vi p2, vi p3, vi p4, vn n, vn k, vi cz, vr b1, vr b8, vr b12, vr b207, uu, uu, uu, uu, uu, uu, uu, uu, uu, uu] [(.int t2.1), (.ref b210), (.ref b210), (.ref b207)]))) ?_
        obtain ⟨_, T213, Lc213, X213, hQ213, st213⟩ := own_c1 X210 <| Jvm.LawKit.callS X210 hx (y := ym5) hown (mvT hZ (hW 27 _ rfl)) (mvT hZ (hW 28 _ rfl)) (mvT hZ (hW 29 _ rfl)) (mvT hZ (hW 30 _ rfl)) (by decide) (backOf (W := 3) (rmVO l Z a0 hw [] t2.1 Gc h210 n0 O210 Oc Pc t2.2) hZ (hW 30 _ rfl) (hW 29 _ rfl) (by decide) (by decide)) (g := (mkF m 199 #[vi p1, vi p2, vi p3, vi p4, vn n, vn k, vi cz, vr b1, vr b8, vr b12, vr b207, uu, uu, uu, uu, uu, uu, uu, uu, uu, uu] [(.int t2.1), (.ref b210), (.ref b210), (.ref b207)])) rfl (by rw [hml]; rfl) (argsL := [(.int t2.1)]) (rest := [(.ref b210), (.ref b210), (.ref b207)]) (lenOf pd_21 rfl) rfl (Nat.le_of_eq rfl) (hb hby at_199) (fun _ _ => ⟨rfl, e210, (by decide : 5 + 2 ≤ _), (by decide : 13 + 5 ≤ _)⟩)
        obtain ⟨x213, t213, rfl, Nq213, Kp213, gx213, lx213, gt213, lt213, nx213, Sx213⟩ := hQ213
        have N213 := Fr.app N208 Nq213
        refine oo st213 ?_
        have sz213 : h210.size ≤ T213.heap.size := Kp213.1
        have O213 : Old Z n0 T213.heap := O210.keep Kp213 all0
        have Ex213 := Sx213.exa
        refine oi (XS.aload X213.here hx rfl (hb hby at_202) rfl rfl) ?_
        refine oi (XS.iconst X213.here hx rfl (hb hby at_204)) ?_
        have f214 : Arv Z T213.heap b8 k8 .char (3 : Int32) [(.int d0), (.int d1), (.int d2)] (.int 0) := (((((((V11.ext E12).other W13 (one (by omega))).other W14 (one (by omega))).ext E207).keep Kp208 (ninS (one (by omega)) nin0)).ext E210).keep Kp213 nin0)
        obtain ⟨cl215, Ar215, q215, S215, Ng215, H215, G215⟩ := id f214
        have hin215 : ¬ ((0 : Int32) < 0 ∨ cl215.slots.size ≤ ((0 : Int32)).toNatClampNeg) := inb_of S215 ⟨by decide, by decide⟩
        have hat215 : cl215.slots[((0 : Int32)).toNatClampNeg]? = some (.int d0) := H215 0 (by rw [S215]; decide)
        refine oo (fun _ => X213.caload hx (j := (0 : Int32)) (v := (.int d0)) Ar215.1 (State.isArrayOf_alike hZ.alike Ar215.2.1) Ar215.2.2 hin215 hat215 (g := (mkF m 205 #[vi p1, vi p2, vi p3, vi p4, vn n, vn k, vi cz, vr b1, vr b8, vr b12, vr b207, uu, uu, uu, uu, uu, uu, uu, uu, uu, uu] [(.int 0), (.ref b8), (.ref x213), (.ref b210), (.ref b210), (.ref b207)])) rfl rfl (hb hby at_205) _) ?_
        refine so (A := (T213.setTop (mkF m 206 #[vi p1, vi p2, vi p3, vi p4, vn n, vn k, vi cz, vr b1, vr b8, vr b12, vr b207, uu, uu, uu, uu, uu, uu, uu, uu, uu, uu] [(.int d0), (.ref x213), (.ref b210), (.ref b210), (.ref b207)]))) ?_
        obtain ⟨_, T216, Lc216, X216, hQ216, st216⟩ := own_c1 X213 <| Jvm.LawKit.callS X213 hx (y := ym5) hown (mvT hZ (hW 27 _ rfl)) (mvT hZ (hW 28 _ rfl)) (mvT hZ (hW 29 _ rfl)) (mvT hZ (hW 30 _ rfl)) (by decide) (backOf (W := 4) (rmVO l Z a0 hw [] d0 Gc T213.heap n0 O213 Oc Pc hd0) hZ (hW 30 _ rfl) (hW 29 _ rfl) (by decide) (by decide)) (g := (mkF m 206 #[vi p1, vi p2, vi p3, vi p4, vn n, vn k, vi cz, vr b1, vr b8, vr b12, vr b207, uu, uu, uu, uu, uu, uu, uu, uu, uu, uu] [(.int d0), (.ref x213), (.ref b210), (.ref b210), (.ref b207)])) rfl (by rw [hml]; rfl) (argsL := [(.int d0)]) (rest := [(.ref x213), (.ref b210), (.ref b210), (.ref b207)]) (lenOf pd_21 rfl) rfl (Nat.le_of_eq rfl) (hb hby at_206) (fun _ _ => ⟨rfl, rfl, (by decide : 7 + 2 ≤ _), (by decide : 18 + 5 ≤ _)⟩)
        obtain ⟨x216, t216, rfl, Nq216, Kp216, gx216, lx216, gt216, lt216, nx216, Sx216⟩ := hQ216
        have N216 := Fr.app N213 Nq216
        refine oo st216 ?_
        have sz216 : T213.heap.size ≤ T216.heap.size := Kp216.1
        have O216 : Old Z n0 T216.heap := O213.keep Kp216 all0
        have Ex216 := Sx216.exa
        refine so (A := (T216.setTop (mkF m 209 #[vi p1, vi p2, vi p3, vi p4, vn n, vn k, vi cz, vr b1, vr b8, vr b12, vr b207, uu, uu, uu, uu, uu, uu, uu, uu, uu, uu] [(.ref x216), (.ref x213), (.ref b210), (.ref b210), (.ref b207)]))) ?_
        have f217 : Exa Z T216.heap b210 "com/example/practory/practory/server/SearchQuery$Parameter" := ((A210.keep Kp213).keep Kp216)
        have f218 : Fld Z T216.heap b210 "com/example/practory/practory/server/SearchQuery$Parameter" "name" "Ljava/lang/String;" .null := ((F210_name.keep Kp213 nin0).keep Kp216 nin0)
        have f219 : Fld Z T216.heap b210 "com/example/practory/practory/server/SearchQuery$Parameter" "value" "Ljava/lang/String;" .null := ((F210_value.keep Kp213 nin0).keep Kp216 nin0)
        obtain ⟨_, T220, Lc220, X220, hQ220, st220⟩ := own_c1 X216 <| X216.specialBack hx (y := ym20) rfl hown (mvT hZ (hW 150 _ rfl)) (mvT hZ (hW 151 _ rfl)) (mvT hZ (hW 152 _ rfl)) (by decide) (backOf (W := 2) (rmPI l Z a0 hw [] b210 x213 x216 T216.heap n0 O216 (by omega) f217 f218 f219) hZ (hW 152 _ rfl) (hW 149 _ rfl) (by decide) (by decide)) (g := (mkF m 209 #[vi p1, vi p2, vi p3, vi p4, vn n, vn k, vi cz, vr b1, vr b8, vr b12, vr b207, uu, uu, uu, uu, uu, uu, uu, uu, uu, uu] [(.ref x216), (.ref x213), (.ref b210), (.ref b210), (.ref b207)])) rfl (by rw [hml]; rfl) (Steps.refl _) (a := b210) (argsL := [(.ref x213), (.ref x216)]) (rest := [(.ref b210), (.ref b207)]) (lenOf pd_18 rfl) rfl (Nat.le_of_eq rfl) (hb hby at_209) (fun _ _ => ⟨rfl, rfl, (by decide : 9 + 0 ≤ _), (by decide : 23 + 0 ≤ _)⟩)
        obtain ⟨rfl, Nq220, Kp220, Ey220, Fa220, Fb220⟩ := hQ220
        have N220 := Fr.app N216 Nq220
        refine oo (fun tt_ kk_ => st220.trans kk_) ?_
        have sz220 : T216.heap.size ≤ T220.heap.size := Kp220.1
        have O220 : Old Z n0 T220.heap := O216.keep Kp220 (allS (by omega) all0)
        have f221 : own_st Z T220.heap x213 t213 t2.1 := ((Sx213.keep Kp216 nin0 nin0).keep Kp220 (ninS (one (by omega)) nin0) (ninS (one (by omega)) nin0))
        have f222 : own_st Z T220.heap x216 t216 d0 := (Sx216.keep Kp220 (ninS (one (by omega)) nin0) (ninS (one (by omega)) nin0))
        have Pq220 : own_par Z T220.heap b210 x213 t213 x216 t216 t2.1 d0 := ⟨Ey220, Fa220, Fb220, f221, f222⟩
        refine so (A := (T220.setTop (mkF m 212 #[vi p1, vi p2, vi p3, vi p4, vn n, vn k, vi cz, vr b1, vr b8, vr b12, vr b207, uu, uu, uu, uu, uu, uu, uu, uu, uu, uu] [(.ref b210), (.ref b207)]))) ?_
        have f223 : own_al Z T220.heap dq n0 b207 dq kd [] (0 : Int32) := ((((AL208.ext E210).keep Kp213 nin0 nin0).keep Kp216 nin0 nin0).keep Kp220 (ninS (one (by omega)) nin0) (ninS (one (by omega)) nin0))
        have f225 : Exa Z T220.heap b207 "java/util/ArrayList" := ((((AL208.1.ext E210).keep Kp213).keep Kp216).keep Kp220)
        obtain ⟨cq224, kq224, q224a, q224b, q224c⟩ := isOf hZ rfl f225
        obtain ⟨_, T224, Lc224, X224, hQ224, st224⟩ := own_c1 X220 <| X220.virtualBack hx (y := ym22) (z := ym22) hown (mvT hZ (hW 163 _ rfl)) (mvT hZ (hW 164 _ rfl)) (notFace_of_selects (args := #[]) (mvT hZ (hW 166 _ rfl))) (mvT hZ (hW 166 _ rfl)) (mvT hZ (hW 165 _ rfl)) (by decide) (backOf (W := 0) (rmAd l Z a0 hw [] b207 dq kd mr dq kd [] b210 "com/example/practory/practory/server/SearchQuery$Parameter" (0 : Int32) T220.heap n0 O220 (by omega) S_d V_d E_d M_r l_d f223 (by simp) Ey220 (hW 187 _ rfl)) hZ (hW 167 _ rfl) (hW 3 _ rfl) (by decide) (by decide)) q224a q224c (g := (mkF m 212 #[vi p1, vi p2, vi p3, vi p4, vn n, vn k, vi cz, vr b1, vr b8, vr b12, vr b207, uu, uu, uu, uu, uu, uu, uu, uu, uu, uu] [(.ref b210), (.ref b207)])) rfl (by rw [hml]; rfl) (Steps.refl _) (argsL := [(.ref b210)]) (rest := []) (lenOf pd_17 rfl) rfl (Nat.le_of_eq rfl) (hb hby at_212) (fun _ _ => ⟨rfl, rfl, (by decide : 9 + 1 ≤ _), (by decide : 23 + 10 ≤ _)⟩)
        obtain ⟨e224, k224, z224, rfl, Nq224, gz224, hz224, Kp224, AL224⟩ := hQ224
        have N224 := Fr.app N220 Nq224
        refine oo (fun tt_ kk_ => st224.trans kk_) ?_
        have sz224 : T220.heap.size ≤ T224.heap.size := Kp224.1
        have O224 : Old Z n0 T224.heap := O220.keep Kp224 (allS (by omega) (allS (by omega) all0))
        obtain ⟨hz1224, he224⟩ : z224 = b207 ∧ T220.heap.size ≤ e224 := hz224.elim (fun q => ⟨q.1, q.2.2⟩) (fun q => absurd l_d (Nat.not_lt_of_le q.2.1))
        clear hz224
        have la224 := AL224.lt2
        have ga224 : n0 ≤ e224 := by omega
        refine oi (XS.pop X224.here hx rfl (hb hby at_215) rfl rfl) ?_
        refine so (A := (T224.setTop (mkF m 216 #[vi p1, vi p2, vi p3, vi p4, vn n, vn k, vi cz, vr b1, vr b8, vr b12, vr b207, uu, uu, uu, uu, uu, uu, uu, uu, uu, uu] []))) ?_
        refine oi (XS.iload X224.here hx rfl (hb hby at_216) rfl) ?_
        refine oi (XS.iconst X224.here hx rfl (hb hby at_218)) ?_
        by_cases hb219_226 : (1 : Int32) < (Int32.ofNat n)
        ·refine oi (XS.icmpNo X224.here hx rfl (hb hby at_219) rfl (tlt hb219_226).2.2.2) ?_
         refine so (A := (T224.setTop (mkF m 222 #[vi p1, vi p2, vi p3, vi p4, vn n, vn k, vi cz, vr b1, vr b8, vr b12, vr b207, uu, uu, uu, uu, uu, uu, uu, uu, uu, uu] []))) ?_
         refine oi (XS.aload X224.here hx rfl (hb hby at_222) rfl rfl) ?_
         obtain ⟨T227, h227, X227, e227, E227, A227, D227, -, st227⟩ := newO X224 hx hZ hown (hW 147 _ rfl) (hW 148 _ rfl) (hW 149 _ rfl) rfl (g := (mkF m 224 #[vi p1, vi p2, vi p3, vi p4, vn n, vn k, vi cz, vr b1, vr b8, vr b12, vr b207, uu, uu, uu, uu, uu, uu, uu, uu, uu, uu] [(.ref b207)])) rfl (hb hby at_224) (by decide) (by decide)
         obtain ⟨b227, g227⟩ : ∃ z, z = T224.heap.size := ⟨_, rfl⟩
         rw [← g227] at A227 D227 st227
         refine oo st227 ?_
         have lt227 := olt A227.lt
         have sz227 : T224.heap.size ≤ h227.size := E227.1
         have O227 : Old Z n0 h227 := O224.ext E227
         have z227 : n0 ≤ b227 := by have := O224.1 ▸ O224.2.1; omega
         have F227_name : Fld Z h227 b227 "com/example/practory/practory/server/SearchQuery$Parameter" "name" "Ljava/lang/String;" .null := D227 (Or.inr (hW 160 _ rfl)) (ty := (.object "java/lang/String")) pf_5
         have F227_value : Fld Z h227 b227 "com/example/practory/practory/server/SearchQuery$Parameter" "value" "Ljava/lang/String;" .null := D227 (Or.inr (hW 162 _ rfl)) (ty := (.object "java/lang/String")) pf_5
         refine oi (XS.dup X227.here hx rfl (hb hby at_227) rfl rfl) ?_
         refine oi (XS.aload X227.here hx rfl (hb hby at_228) rfl rfl) ?_
         refine oi (XS.iconst X227.here hx rfl (hb hby at_230)) ?_
         have f228 : Arv Z h227 b1 k1 .char (3 : Int32) [(.int t2.1), (.int t4.1), (.int t6.1)] (.int 0) := (((((f211.keep Kp213 nin0).keep Kp216 nin0).keep Kp220 (ninS (one (by omega)) nin0)).keep Kp224 (ninS (one (by omega)) (ninS (one (by omega)) nin0))).ext E227)
         obtain ⟨cl229, Ar229, q229, S229, Ng229, H229, G229⟩ := id f228
         have hin229 : ¬ ((1 : Int32) < 0 ∨ cl229.slots.size ≤ ((1 : Int32)).toNatClampNeg) := inb_of S229 ⟨by decide, by decide⟩
         have hat229 : cl229.slots[((1 : Int32)).toNatClampNeg]? = some (.int t4.1) := H229 1 (by rw [S229]; decide)
         refine oo (fun _ => X227.caload hx (j := (1 : Int32)) (v := (.int t4.1)) (by rw [e227]; exact Ar229.1) (State.isArrayOf_alike hZ.alike Ar229.2.1) Ar229.2.2 hin229 hat229 (g := (mkF m 231 #[vi p1, vi p2, vi p3, vi p4, vn n, vn k, vi cz, vr b1, vr b8, vr b12, vr b207, uu, uu, uu, uu, uu, uu, uu, uu, uu, uu] [(.int 1), (.ref b1), (.ref b227), (.ref b227), (.ref b207)])) rfl rfl (hb hby at_231) _) ?_
         refine so (A := (T227.setTop (mkF m 232 #[vi p1, vi p2, vi p3, vi p4, vn n, vn k, vi cz, vr b1, vr b8, vr b12, vr b207, uu, uu, uu, uu, uu, uu, uu, uu, uu, uu] [(.int t4.1), (.ref b227), (.ref b227), (.ref b207)]))) ?_
         obtain ⟨_, T230, Lc230, X230, hQ230, st230⟩ := own_c1 X227 <| Jvm.LawKit.callS X227 hx (y := ym5) hown (mvT hZ (hW 27 _ rfl)) (mvT hZ (hW 28 _ rfl)) (mvT hZ (hW 29 _ rfl)) (mvT hZ (hW 30 _ rfl)) (by decide) (backOf (W := 3) (rmVO l Z a0 hw [] t4.1 Gc h227 n0 O227 Oc Pc t4.2) hZ (hW 30 _ rfl) (hW 29 _ rfl) (by decide) (by decide)) (g := (mkF m 232 #[vi p1, vi p2, vi p3, vi p4, vn n, vn k, vi cz, vr b1, vr b8, vr b12, vr b207, uu, uu, uu, uu, uu, uu, uu, uu, uu, uu] [(.int t4.1), (.ref b227), (.ref b227), (.ref b207)])) rfl (by rw [hml]; rfl) (argsL := [(.int t4.1)]) (rest := [(.ref b227), (.ref b227), (.ref b207)]) (lenOf pd_21 rfl) rfl (Nat.le_of_eq rfl) (hb hby at_232) (fun _ _ => ⟨rfl, e227, (by decide : 11 + 2 ≤ _), (by decide : 35 + 5 ≤ _)⟩)
         obtain ⟨x230, t230, rfl, Nq230, Kp230, gx230, lx230, gt230, lt230, nx230, Sx230⟩ := hQ230
         have N230 := Fr.app N224 Nq230
         refine oo st230 ?_
         have sz230 : h227.size ≤ T230.heap.size := Kp230.1
         have O230 : Old Z n0 T230.heap := O227.keep Kp230 all0
         have Ex230 := Sx230.exa
         refine oi (XS.aload X230.here hx rfl (hb hby at_235) rfl rfl) ?_
         refine oi (XS.iconst X230.here hx rfl (hb hby at_237)) ?_
         have f231 : Arv Z T230.heap b8 k8 .char (3 : Int32) [(.int d0), (.int d1), (.int d2)] (.int 0) := (((((f214.keep Kp216 nin0).keep Kp220 (ninS (one (by omega)) nin0)).keep Kp224 (ninS (one (by omega)) (ninS (one (by omega)) nin0))).ext E227).keep Kp230 nin0)
         obtain ⟨cl232, Ar232, q232, S232, Ng232, H232, G232⟩ := id f231
         have hin232 : ¬ ((1 : Int32) < 0 ∨ cl232.slots.size ≤ ((1 : Int32)).toNatClampNeg) := inb_of S232 ⟨by decide, by decide⟩
         have hat232 : cl232.slots[((1 : Int32)).toNatClampNeg]? = some (.int d1) := H232 1 (by rw [S232]; decide)
         refine oo (fun _ => X230.caload hx (j := (1 : Int32)) (v := (.int d1)) Ar232.1 (State.isArrayOf_alike hZ.alike Ar232.2.1) Ar232.2.2 hin232 hat232 (g := (mkF m 238 #[vi p1, vi p2, vi p3, vi p4, vn n, vn k, vi cz, vr b1, vr b8, vr b12, vr b207, uu, uu, uu, uu, uu, uu, uu, uu, uu, uu] [(.int 1), (.ref b8), (.ref x230), (.ref b227), (.ref b227), (.ref b207)])) rfl rfl (hb hby at_238) _) ?_
         refine so (A := (T230.setTop (mkF m 239 #[vi p1, vi p2, vi p3, vi p4, vn n, vn k, vi cz, vr b1, vr b8, vr b12, vr b207, uu, uu, uu, uu, uu, uu, uu, uu, uu, uu] [(.int d1), (.ref x230), (.ref b227), (.ref b227), (.ref b207)]))) ?_
         obtain ⟨_, T233, Lc233, X233, hQ233, st233⟩ := own_c1 X230 <| Jvm.LawKit.callS X230 hx (y := ym5) hown (mvT hZ (hW 27 _ rfl)) (mvT hZ (hW 28 _ rfl)) (mvT hZ (hW 29 _ rfl)) (mvT hZ (hW 30 _ rfl)) (by decide) (backOf (W := 4) (rmVO l Z a0 hw [] d1 Gc T230.heap n0 O230 Oc Pc hd1) hZ (hW 30 _ rfl) (hW 29 _ rfl) (by decide) (by decide)) (g := (mkF m 239 #[vi p1, vi p2, vi p3, vi p4, vn n, vn k, vi cz, vr b1, vr b8, vr b12, vr b207, uu, uu, uu, uu, uu, uu, uu, uu, uu, uu] [(.int d1), (.ref x230), (.ref b227), (.ref b227), (.ref b207)])) rfl (by rw [hml]; rfl) (argsL := [(.int d1)]) (rest := [(.ref x230), (.ref b227), (.ref b227), (.ref b207)]) (lenOf pd_21 rfl) rfl (Nat.le_of_eq rfl) (hb hby at_239) (fun _ _ => ⟨rfl, rfl, (by decide : 13 + 2 ≤ _), (by decide : 40 + 5 ≤ _)⟩)
         obtain ⟨x233, t233, rfl, Nq233, Kp233, gx233, lx233, gt233, lt233, nx233, Sx233⟩ := hQ233
         have N233 := Fr.app N230 Nq233
         refine oo st233 ?_
         have sz233 : T230.heap.size ≤ T233.heap.size := Kp233.1
         have O233 : Old Z n0 T233.heap := O230.keep Kp233 all0
         have Ex233 := Sx233.exa
         refine so (A := (T233.setTop (mkF m 242 #[vi p1, vi p2, vi p3, vi p4, vn n, vn k, vi cz, vr b1, vr b8, vr b12, vr b207, uu, uu, uu, uu, uu, uu, uu, uu, uu, uu] [(.ref x233), (.ref x230), (.ref b227), (.ref b227), (.ref b207)]))) ?_
         have f234 : Exa Z T233.heap b227 "com/example/practory/practory/server/SearchQuery$Parameter" := ((A227.keep Kp230).keep Kp233)
         have f235 : Fld Z T233.heap b227 "com/example/practory/practory/server/SearchQuery$Parameter" "name" "Ljava/lang/String;" .null := ((F227_name.keep Kp230 nin0).keep Kp233 nin0)
         have f236 : Fld Z T233.heap b227 "com/example/practory/practory/server/SearchQuery$Parameter" "value" "Ljava/lang/String;" .null := ((F227_value.keep Kp230 nin0).keep Kp233 nin0)
         obtain ⟨_, T237, Lc237, X237, hQ237, st237⟩ := own_c1 X233 <| X233.specialBack hx (y := ym20) rfl hown (mvT hZ (hW 150 _ rfl)) (mvT hZ (hW 151 _ rfl)) (mvT hZ (hW 152 _ rfl)) (by decide) (backOf (W := 2) (rmPI l Z a0 hw [] b227 x230 x233 T233.heap n0 O233 (by omega) f234 f235 f236) hZ (hW 152 _ rfl) (hW 149 _ rfl) (by decide) (by decide)) (g := (mkF m 242 #[vi p1, vi p2, vi p3, vi p4, vn n, vn k, vi cz, vr b1, vr b8, vr b12, vr b207, uu, uu, uu, uu, uu, uu, uu, uu, uu, uu] [(.ref x233), (.ref x230), (.ref b227), (.ref b227), (.ref b207)])) rfl (by rw [hml]; rfl) (Steps.refl _) (a := b227) (argsL := [(.ref x230), (.ref x233)]) (rest := [(.ref b227), (.ref b207)]) (lenOf pd_18 rfl) rfl (Nat.le_of_eq rfl) (hb hby at_242) (fun _ _ => ⟨rfl, rfl, (by decide : 15 + 0 ≤ _), (by decide : 45 + 0 ≤ _)⟩)
         obtain ⟨rfl, Nq237, Kp237, Ey237, Fa237, Fb237⟩ := hQ237
         have N237 := Fr.app N233 Nq237
         refine oo (fun tt_ kk_ => st237.trans kk_) ?_
         have sz237 : T233.heap.size ≤ T237.heap.size := Kp237.1
         have O237 : Old Z n0 T237.heap := O233.keep Kp237 (allS (by omega) all0)
         have f238 : own_st Z T237.heap x230 t230 t4.1 := ((Sx230.keep Kp233 nin0 nin0).keep Kp237 (ninS (one (by omega)) nin0) (ninS (one (by omega)) nin0))
         have f239 : own_st Z T237.heap x233 t233 d1 := (Sx233.keep Kp237 (ninS (one (by omega)) nin0) (ninS (one (by omega)) nin0))
         have Pq237 : own_par Z T237.heap b227 x230 t230 x233 t233 t4.1 d1 := ⟨Ey237, Fa237, Fb237, f238, f239⟩
         refine so (A := (T237.setTop (mkF m 245 #[vi p1, vi p2, vi p3, vi p4, vn n, vn k, vi cz, vr b1, vr b8, vr b12, vr b207, uu, uu, uu, uu, uu, uu, uu, uu, uu, uu] [(.ref b227), (.ref b207)]))) ?_
         have f240 : own_al Z T237.heap dq n0 b207 e224 k224 [b210] ((0 : Int32) + (1 : Int32)) := ((((AL224.ext E227).keep Kp230 nin0 nin0).keep Kp233 nin0 nin0).keep Kp237 (ninS (one (by omega)) nin0) (ninS (one (by omega)) nin0))
         have f242 : Exa Z T237.heap b207 "java/util/ArrayList" := ((((AL224.1.ext E227).keep Kp230).keep Kp233).keep Kp237)
         obtain ⟨cq241, kq241, q241a, q241b, q241c⟩ := isOf hZ rfl f242
         obtain ⟨_, T241, Lc241, X241, hQ241, st241⟩ := own_c1 X237 <| X237.virtualBack hx (y := ym22) (z := ym22) hown (mvT hZ (hW 163 _ rfl)) (mvT hZ (hW 164 _ rfl)) (notFace_of_selects (args := #[]) (mvT hZ (hW 166 _ rfl))) (mvT hZ (hW 166 _ rfl)) (mvT hZ (hW 165 _ rfl)) (by decide) (backOf (W := 0) (rmAd l Z a0 hw [] b207 dq kd mr e224 k224 [b210] b227 "com/example/practory/practory/server/SearchQuery$Parameter" ((0 : Int32) + (1 : Int32)) T237.heap n0 O237 (by omega) S_d V_d E_d M_r l_d f240 (by simp) Ey237 (hW 187 _ rfl)) hZ (hW 167 _ rfl) (hW 3 _ rfl) (by decide) (by decide)) q241a q241c (g := (mkF m 245 #[vi p1, vi p2, vi p3, vi p4, vn n, vn k, vi cz, vr b1, vr b8, vr b12, vr b207, uu, uu, uu, uu, uu, uu, uu, uu, uu, uu] [(.ref b227), (.ref b207)])) rfl (by rw [hml]; rfl) (Steps.refl _) (argsL := [(.ref b227)]) (rest := []) (lenOf pd_17 rfl) rfl (Nat.le_of_eq rfl) (hb hby at_245) (fun _ _ => ⟨rfl, rfl, (by decide : 15 + 1 ≤ _), (by decide : 45 + 10 ≤ _)⟩)
         obtain ⟨e241, k241, z241, rfl, Nq241, gz241, hz241, Kp241, AL241⟩ := hQ241
         have N241 := Fr.app N237 Nq241
         refine oo (fun tt_ kk_ => st241.trans kk_) ?_
         have sz241 : T237.heap.size ≤ T241.heap.size := Kp241.1
         have O241 : Old Z n0 T241.heap := O237.keep Kp241 (allS (by omega) (allS (by omega) all0))
         obtain ⟨hz1241, he241⟩ : z241 = e224 ∧ e241 = e224 := hz241.elim (fun q => absurd q.2.1 (Nat.ne_of_gt (Nat.lt_of_lt_of_le l_d ga224))) (fun q => ⟨q.1, q.2.2⟩)
         clear hz241
         have ALq241 : own_al Z T241.heap dq n0 b207 e224 k241 [b210, b227] (((0 : Int32) + (1 : Int32)) + (1 : Int32)) := he241 ▸ AL241
         have la241 := ALq241.lt2
         refine oi (XS.pop X241.here hx rfl (hb hby at_248) rfl rfl) ?_
         refine so (A := (T241.setTop (mkF m 249 #[vi p1, vi p2, vi p3, vi p4, vn n, vn k, vi cz, vr b1, vr b8, vr b12, vr b207, uu, uu, uu, uu, uu, uu, uu, uu, uu, uu] []))) ?_
         refine oi (XS.iload X241.here hx rfl (hb hby at_249) rfl) ?_
         refine oi (XS.iconst X241.here hx rfl (hb hby at_251)) ?_
         by_cases hb252_243 : (2 : Int32) < (Int32.ofNat n)
         ·refine oi (XS.icmpNo X241.here hx rfl (hb hby at_252) rfl (tlt hb252_243).2.2.2) ?_
          refine so (A := (T241.setTop (mkF m 255 #[vi p1, vi p2, vi p3, vi p4, vn n, vn k, vi cz, vr b1, vr b8, vr b12, vr b207, uu, uu, uu, uu, uu, uu, uu, uu, uu, uu] []))) ?_
          refine oi (XS.aload X241.here hx rfl (hb hby at_255) rfl rfl) ?_
          obtain ⟨T244, h244, X244, e244, E244, A244, D244, -, st244⟩ := newO X241 hx hZ hown (hW 147 _ rfl) (hW 148 _ rfl) (hW 149 _ rfl) rfl (g := (mkF m 257 #[vi p1, vi p2, vi p3, vi p4, vn n, vn k, vi cz, vr b1, vr b8, vr b12, vr b207, uu, uu, uu, uu, uu, uu, uu, uu, uu, uu] [(.ref b207)])) rfl (hb hby at_257) (by decide) (by decide)
          obtain ⟨b244, g244⟩ : ∃ z, z = T241.heap.size := ⟨_, rfl⟩
          rw [← g244] at A244 D244 st244
          refine oo st244 ?_
          have lt244 := olt A244.lt
          have sz244 : T241.heap.size ≤ h244.size := E244.1
          have O244 : Old Z n0 h244 := O241.ext E244
          have z244 : n0 ≤ b244 := by have := O241.1 ▸ O241.2.1; omega
          have F244_name : Fld Z h244 b244 "com/example/practory/practory/server/SearchQuery$Parameter" "name" "Ljava/lang/String;" .null := D244 (Or.inr (hW 160 _ rfl)) (ty := (.object "java/lang/String")) pf_5
          have F244_value : Fld Z h244 b244 "com/example/practory/practory/server/SearchQuery$Parameter" "value" "Ljava/lang/String;" .null := D244 (Or.inr (hW 162 _ rfl)) (ty := (.object "java/lang/String")) pf_5
          refine oi (XS.dup X244.here hx rfl (hb hby at_260) rfl rfl) ?_
          refine oi (XS.aload X244.here hx rfl (hb hby at_261) rfl rfl) ?_
          refine oi (XS.iconst X244.here hx rfl (hb hby at_263)) ?_
          have f245 : Arv Z h244 b1 k1 .char (3 : Int32) [(.int t2.1), (.int t4.1), (.int t6.1)] (.int 0) := (((((f228.keep Kp230 nin0).keep Kp233 nin0).keep Kp237 (ninS (one (by omega)) nin0)).keep Kp241 (ninS (one (by omega)) (ninS (one (by omega)) nin0))).ext E244)
          obtain ⟨cl246, Ar246, q246, S246, Ng246, H246, G246⟩ := id f245
          have hin246 : ¬ ((2 : Int32) < 0 ∨ cl246.slots.size ≤ ((2 : Int32)).toNatClampNeg) := inb_of S246 ⟨by decide, by decide⟩
          have hat246 : cl246.slots[((2 : Int32)).toNatClampNeg]? = some (.int t6.1) := H246 2 (by rw [S246]; decide)
          refine oo (fun _ => X244.caload hx (j := (2 : Int32)) (v := (.int t6.1)) (by rw [e244]; exact Ar246.1) (State.isArrayOf_alike hZ.alike Ar246.2.1) Ar246.2.2 hin246 hat246 (g := (mkF m 264 #[vi p1, vi p2, vi p3, vi p4, vn n, vn k, vi cz, vr b1, vr b8, vr b12, vr b207, uu, uu, uu, uu, uu, uu, uu, uu, uu, uu] [(.int 2), (.ref b1), (.ref b244), (.ref b244), (.ref b207)])) rfl rfl (hb hby at_264) _) ?_
          refine so (A := (T244.setTop (mkF m 265 #[vi p1, vi p2, vi p3, vi p4, vn n, vn k, vi cz, vr b1, vr b8, vr b12, vr b207, uu, uu, uu, uu, uu, uu, uu, uu, uu, uu] [(.int t6.1), (.ref b244), (.ref b244), (.ref b207)]))) ?_
          obtain ⟨_, T247, Lc247, X247, hQ247, st247⟩ := own_c1 X244 <| Jvm.LawKit.callS X244 hx (y := ym5) hown (mvT hZ (hW 27 _ rfl)) (mvT hZ (hW 28 _ rfl)) (mvT hZ (hW 29 _ rfl)) (mvT hZ (hW 30 _ rfl)) (by decide) (backOf (W := 3) (rmVO l Z a0 hw [] t6.1 Gc h244 n0 O244 Oc Pc t6.2) hZ (hW 30 _ rfl) (hW 29 _ rfl) (by decide) (by decide)) (g := (mkF m 265 #[vi p1, vi p2, vi p3, vi p4, vn n, vn k, vi cz, vr b1, vr b8, vr b12, vr b207, uu, uu, uu, uu, uu, uu, uu, uu, uu, uu] [(.int t6.1), (.ref b244), (.ref b244), (.ref b207)])) rfl (by rw [hml]; rfl) (argsL := [(.int t6.1)]) (rest := [(.ref b244), (.ref b244), (.ref b207)]) (lenOf pd_21 rfl) rfl (Nat.le_of_eq rfl) (hb hby at_265) (fun _ _ => ⟨rfl, e244, (by decide : 17 + 2 ≤ _), (by decide : 57 + 5 ≤ _)⟩)
          obtain ⟨x247, t247, rfl, Nq247, Kp247, gx247, lx247, gt247, lt247, nx247, Sx247⟩ := hQ247
          have N247 := Fr.app N241 Nq247
          refine oo st247 ?_
          have sz247 : h244.size ≤ T247.heap.size := Kp247.1
          have O247 : Old Z n0 T247.heap := O244.keep Kp247 all0
          have Ex247 := Sx247.exa
          refine oi (XS.aload X247.here hx rfl (hb hby at_268) rfl rfl) ?_
          refine oi (XS.iconst X247.here hx rfl (hb hby at_270)) ?_
          have f248 : Arv Z T247.heap b8 k8 .char (3 : Int32) [(.int d0), (.int d1), (.int d2)] (.int 0) := (((((f231.keep Kp233 nin0).keep Kp237 (ninS (one (by omega)) nin0)).keep Kp241 (ninS (one (by omega)) (ninS (one (by omega)) nin0))).ext E244).keep Kp247 nin0)
          obtain ⟨cl249, Ar249, q249, S249, Ng249, H249, G249⟩ := id f248
          have hin249 : ¬ ((2 : Int32) < 0 ∨ cl249.slots.size ≤ ((2 : Int32)).toNatClampNeg) := inb_of S249 ⟨by decide, by decide⟩
          have hat249 : cl249.slots[((2 : Int32)).toNatClampNeg]? = some (.int d2) := H249 2 (by rw [S249]; decide)
          refine oo (fun _ => X247.caload hx (j := (2 : Int32)) (v := (.int d2)) Ar249.1 (State.isArrayOf_alike hZ.alike Ar249.2.1) Ar249.2.2 hin249 hat249 (g := (mkF m 271 #[vi p1, vi p2, vi p3, vi p4, vn n, vn k, vi cz, vr b1, vr b8, vr b12, vr b207, uu, uu, uu, uu, uu, uu, uu, uu, uu, uu] [(.int 2), (.ref b8), (.ref x247), (.ref b244), (.ref b244), (.ref b207)])) rfl rfl (hb hby at_271) _) ?_
          refine so (A := (T247.setTop (mkF m 272 #[vi p1, vi p2, vi p3, vi p4, vn n, vn k, vi cz, vr b1, vr b8, vr b12, vr b207, uu, uu, uu, uu, uu, uu, uu, uu, uu, uu] [(.int d2), (.ref x247), (.ref b244), (.ref b244), (.ref b207)]))) ?_
          obtain ⟨_, T250, Lc250, X250, hQ250, st250⟩ := own_c1 X247 <| Jvm.LawKit.callS X247 hx (y := ym5) hown (mvT hZ (hW 27 _ rfl)) (mvT hZ (hW 28 _ rfl)) (mvT hZ (hW 29 _ rfl)) (mvT hZ (hW 30 _ rfl)) (by decide) (backOf (W := 4) (rmVO l Z a0 hw [] d2 Gc T247.heap n0 O247 Oc Pc hd2) hZ (hW 30 _ rfl) (hW 29 _ rfl) (by decide) (by decide)) (g := (mkF m 272 #[vi p1, vi p2, vi p3, vi p4, vn n, vn k, vi cz, vr b1, vr b8, vr b12, vr b207, uu, uu, uu, uu, uu, uu, uu, uu, uu, uu] [(.int d2), (.ref x247), (.ref b244), (.ref b244), (.ref b207)])) rfl (by rw [hml]; rfl) (argsL := [(.int d2)]) (rest := [(.ref x247), (.ref b244), (.ref b244), (.ref b207)]) (lenOf pd_21 rfl) rfl (Nat.le_of_eq rfl) (hb hby at_272) (fun _ _ => ⟨rfl, rfl, (by decide : 19 + 2 ≤ _), (by decide : 62 + 5 ≤ _)⟩)
          obtain ⟨x250, t250, rfl, Nq250, Kp250, gx250, lx250, gt250, lt250, nx250, Sx250⟩ := hQ250
          have N250 := Fr.app N247 Nq250
          refine oo st250 ?_
          have sz250 : T247.heap.size ≤ T250.heap.size := Kp250.1
          have O250 : Old Z n0 T250.heap := O247.keep Kp250 all0
          have Ex250 := Sx250.exa
          refine so (A := (T250.setTop (mkF m 275 #[vi p1, vi p2, vi p3, vi p4, vn n, vn k, vi cz, vr b1, vr b8, vr b12, vr b207, uu, uu, uu, uu, uu, uu, uu, uu, uu, uu] [(.ref x250), (.ref x247), (.ref b244), (.ref b244), (.ref b207)]))) ?_
          have f251 : Exa Z T250.heap b244 "com/example/practory/practory/server/SearchQuery$Parameter" := ((A244.keep Kp247).keep Kp250)
          have f252 : Fld Z T250.heap b244 "com/example/practory/practory/server/SearchQuery$Parameter" "name" "Ljava/lang/String;" .null := ((F244_name.keep Kp247 nin0).keep Kp250 nin0)
          have f253 : Fld Z T250.heap b244 "com/example/practory/practory/server/SearchQuery$Parameter" "value" "Ljava/lang/String;" .null := ((F244_value.keep Kp247 nin0).keep Kp250 nin0)
          obtain ⟨_, T254, Lc254, X254, hQ254, st254⟩ := own_c1 X250 <| X250.specialBack hx (y := ym20) rfl hown (mvT hZ (hW 150 _ rfl)) (mvT hZ (hW 151 _ rfl)) (mvT hZ (hW 152 _ rfl)) (by decide) (backOf (W := 2) (rmPI l Z a0 hw [] b244 x247 x250 T250.heap n0 O250 (by omega) f251 f252 f253) hZ (hW 152 _ rfl) (hW 149 _ rfl) (by decide) (by decide)) (g := (mkF m 275 #[vi p1, vi p2, vi p3, vi p4, vn n, vn k, vi cz, vr b1, vr b8, vr b12, vr b207, uu, uu, uu, uu, uu, uu, uu, uu, uu, uu] [(.ref x250), (.ref x247), (.ref b244), (.ref b244), (.ref b207)])) rfl (by rw [hml]; rfl) (Steps.refl _) (a := b244) (argsL := [(.ref x247), (.ref x250)]) (rest := [(.ref b244), (.ref b207)]) (lenOf pd_18 rfl) rfl (Nat.le_of_eq rfl) (hb hby at_275) (fun _ _ => ⟨rfl, rfl, (by decide : 21 + 0 ≤ _), (by decide : 67 + 0 ≤ _)⟩)
          obtain ⟨rfl, Nq254, Kp254, Ey254, Fa254, Fb254⟩ := hQ254
          have N254 := Fr.app N250 Nq254
          refine oo (fun tt_ kk_ => st254.trans kk_) ?_
          have sz254 : T250.heap.size ≤ T254.heap.size := Kp254.1
          have O254 : Old Z n0 T254.heap := O250.keep Kp254 (allS (by omega) all0)
          have f255 : own_st Z T254.heap x247 t247 t6.1 := ((Sx247.keep Kp250 nin0 nin0).keep Kp254 (ninS (one (by omega)) nin0) (ninS (one (by omega)) nin0))
          have f256 : own_st Z T254.heap x250 t250 d2 := (Sx250.keep Kp254 (ninS (one (by omega)) nin0) (ninS (one (by omega)) nin0))
          have Pq254 : own_par Z T254.heap b244 x247 t247 x250 t250 t6.1 d2 := ⟨Ey254, Fa254, Fb254, f255, f256⟩
          refine so (A := (T254.setTop (mkF m 278 #[vi p1, vi p2, vi p3, vi p4, vn n, vn k, vi cz, vr b1, vr b8, vr b12, vr b207, uu, uu, uu, uu, uu, uu, uu, uu, uu, uu] [(.ref b244), (.ref b207)]))) ?_
          have f257 : own_al Z T254.heap dq n0 b207 e224 k241 [b210, b227] (((0 : Int32) + (1 : Int32)) + (1 : Int32)) := ((((ALq241.ext E244).keep Kp247 nin0 nin0).keep Kp250 nin0 nin0).keep Kp254 (ninS (one (by omega)) nin0) (ninS (one (by omega)) nin0))
          have f259 : Exa Z T254.heap b207 "java/util/ArrayList" := ((((ALq241.1.ext E244).keep Kp247).keep Kp250).keep Kp254)
          obtain ⟨cq258, kq258, q258a, q258b, q258c⟩ := isOf hZ rfl f259
          obtain ⟨_, T258, Lc258, X258, hQ258, st258⟩ := own_c1 X254 <| X254.virtualBack hx (y := ym22) (z := ym22) hown (mvT hZ (hW 163 _ rfl)) (mvT hZ (hW 164 _ rfl)) (notFace_of_selects (args := #[]) (mvT hZ (hW 166 _ rfl))) (mvT hZ (hW 166 _ rfl)) (mvT hZ (hW 165 _ rfl)) (by decide) (backOf (W := 0) (rmAd l Z a0 hw [] b207 dq kd mr e224 k241 [b210, b227] b244 "com/example/practory/practory/server/SearchQuery$Parameter" (((0 : Int32) + (1 : Int32)) + (1 : Int32)) T254.heap n0 O254 (by omega) S_d V_d E_d M_r l_d f257 (by simp) Ey254 (hW 187 _ rfl)) hZ (hW 167 _ rfl) (hW 3 _ rfl) (by decide) (by decide)) q258a q258c (g := (mkF m 278 #[vi p1, vi p2, vi p3, vi p4, vn n, vn k, vi cz, vr b1, vr b8, vr b12, vr b207, uu, uu, uu, uu, uu, uu, uu, uu, uu, uu] [(.ref b244), (.ref b207)])) rfl (by rw [hml]; rfl) (Steps.refl _) (argsL := [(.ref b244)]) (rest := []) (lenOf pd_17 rfl) rfl (Nat.le_of_eq rfl) (hb hby at_278) (fun _ _ => ⟨rfl, rfl, (by decide : 21 + 1 ≤ _), (by decide : 67 + 10 ≤ _)⟩)
          obtain ⟨e258, k258, z258, rfl, Nq258, gz258, hz258, Kp258, AL258⟩ := hQ258
          have N258 := Fr.app N254 Nq258
          refine oo (fun tt_ kk_ => st258.trans kk_) ?_
          have sz258 : T254.heap.size ≤ T258.heap.size := Kp258.1
          have O258 : Old Z n0 T258.heap := O254.keep Kp258 (allS (by omega) (allS (by omega) all0))
          obtain ⟨hz1258, he258⟩ : z258 = e224 ∧ e258 = e224 := hz258.elim (fun q => absurd q.2.1 (Nat.ne_of_gt (Nat.lt_of_lt_of_le l_d ga224))) (fun q => ⟨q.1, q.2.2⟩)
          clear hz258
          have ALq258 : own_al Z T258.heap dq n0 b207 e224 k258 [b210, b227, b244] ((((0 : Int32) + (1 : Int32)) + (1 : Int32)) + (1 : Int32)) := he258 ▸ AL258
          have la258 := ALq258.lt2
          refine oi (XS.pop X258.here hx rfl (hb hby at_281) rfl rfl) ?_
          refine so (A := (T258.setTop (mkF m 282 #[vi p1, vi p2, vi p3, vi p4, vn n, vn k, vi cz, vr b1, vr b8, vr b12, vr b207, uu, uu, uu, uu, uu, uu, uu, uu, uu, uu] []))) ?_
          obtain rfl : n = 3 := by have q := hb252_243; rw [show (2 : Int32) = Int32.ofNat 2 from rfl, own_nlt (by omega) (by omega)] at q; have q2 := hb219_226; rw [show (1 : Int32) = Int32.ofNat 1 from rfl, own_nlt (by omega) (by omega)] at q2; omega
          refine so (A := (T258.setTop (mkF m 282 #[vi p1, vi p2, vi p3, vi p4, vi 3, vn k, vi cz, vr b1, vr b8, vr b12, vr b207, uu, uu, uu, uu, uu, uu, uu, uu, uu, uu] []))) ?_
          have f260 : own_par Z T258.heap b244 x247 t247 x250 t250 t6.1 d2 := (Pq254.keep Kp258 (ninS (one (by omega)) (ninS (one (by omega)) nin0)) (ninS (one (by omega)) (ninS (one (by omega)) nin0)) (ninS (one (by omega)) (ninS (one (by omega)) nin0)) (ninS (one (by omega)) (ninS (one (by omega)) nin0)) (ninS (one (by omega)) (ninS (one (by omega)) nin0)))
          have f261 : own_par Z T258.heap b227 x230 t230 x233 t233 t4.1 d1 := ((((((Pq237.keep Kp241 (ninS (one (by omega)) (ninS (one (by omega)) nin0)) (ninS (one (by omega)) (ninS (one (by omega)) nin0)) (ninS (one (by omega)) (ninS (one (by omega)) nin0)) (ninS (one (by omega)) (ninS (one (by omega)) nin0)) (ninS (one (by omega)) (ninS (one (by omega)) nin0))).ext E244).keep Kp247 nin0 nin0 nin0 nin0 nin0).keep Kp250 nin0 nin0 nin0 nin0 nin0).keep Kp254 (ninS (one (by omega)) nin0) (ninS (one (by omega)) nin0) (ninS (one (by omega)) nin0) (ninS (one (by omega)) nin0) (ninS (one (by omega)) nin0)).keep Kp258 (ninS (one (by omega)) (ninS (one (by omega)) nin0)) (ninS (one (by omega)) (ninS (one (by omega)) nin0)) (ninS (one (by omega)) (ninS (one (by omega)) nin0)) (ninS (one (by omega)) (ninS (one (by omega)) nin0)) (ninS (one (by omega)) (ninS (one (by omega)) nin0)))
          have f262 : own_par Z T258.heap b210 x213 t213 x216 t216 t2.1 d0 := (((((((((((Pq220.keep Kp224 (ninS (one (by omega)) (ninS (one (by omega)) nin0)) (ninS (one (by omega)) (ninS (one (by omega)) nin0)) (ninS (one (by omega)) (ninS (one (by omega)) nin0)) (ninS (one (by omega)) (ninS (one (by omega)) nin0)) (ninS (one (by omega)) (ninS (one (by omega)) nin0))).ext E227).keep Kp230 nin0 nin0 nin0 nin0 nin0).keep Kp233 nin0 nin0 nin0 nin0 nin0).keep Kp237 (ninS (one (by omega)) nin0) (ninS (one (by omega)) nin0) (ninS (one (by omega)) nin0) (ninS (one (by omega)) nin0) (ninS (one (by omega)) nin0)).keep Kp241 (ninS (one (by omega)) (ninS (one (by omega)) nin0)) (ninS (one (by omega)) (ninS (one (by omega)) nin0)) (ninS (one (by omega)) (ninS (one (by omega)) nin0)) (ninS (one (by omega)) (ninS (one (by omega)) nin0)) (ninS (one (by omega)) (ninS (one (by omega)) nin0))).ext E244).keep Kp247 nin0 nin0 nin0 nin0 nin0).keep Kp250 nin0 nin0 nin0 nin0 nin0).keep Kp254 (ninS (one (by omega)) nin0) (ninS (one (by omega)) nin0) (ninS (one (by omega)) nin0) (ninS (one (by omega)) nin0) (ninS (one (by omega)) nin0)).keep Kp258 (ninS (one (by omega)) (ninS (one (by omega)) nin0)) (ninS (one (by omega)) (ninS (one (by omega)) nin0)) (ninS (one (by omega)) (ninS (one (by omega)) nin0)) (ninS (one (by omega)) (ninS (one (by omega)) nin0)) (ninS (one (by omega)) (ninS (one (by omega)) nin0)))
          have f263 : Arv Z T258.heap b1 k1 .char (3 : Int32) [(.int t2.1), (.int t4.1), (.int t6.1)] (.int 0) := ((((f245.keep Kp247 nin0).keep Kp250 nin0).keep Kp254 (ninS (one (by omega)) nin0)).keep Kp258 (ninS (one (by omega)) (ninS (one (by omega)) nin0)))
          have f264 : Arv Z T258.heap b8 k8 .char (3 : Int32) [(.int d0), (.int d1), (.int d2)] (.int 0) := (((f248.keep Kp250 nin0).keep Kp254 (ninS (one (by omega)) nin0)).keep Kp258 (ninS (one (by omega)) (ninS (one (by omega)) nin0)))
          have f265 : Arv Z T258.heap b12 k12 .char (2 : Int32) [(.int f0), (.int f1)] (.int 0) := (((((((((((((((((V14.ext E207).keep Kp208 (ninS (one (by omega)) nin0)).ext E210).keep Kp213 nin0).keep Kp216 nin0).keep Kp220 (ninS (one (by omega)) nin0)).keep Kp224 (ninS (one (by omega)) (ninS (one (by omega)) nin0))).ext E227).keep Kp230 nin0).keep Kp233 nin0).keep Kp237 (ninS (one (by omega)) nin0)).keep Kp241 (ninS (one (by omega)) (ninS (one (by omega)) nin0))).ext E244).keep Kp247 nin0).keep Kp250 nin0).keep Kp254 (ninS (one (by omega)) nin0)).keep Kp258 (ninS (one (by omega)) (ninS (one (by omega)) nin0)))
          exact J282 _ _ _ 3 b207 e224 k258 [b210, b227, b244] ((((0 : Int32) + (1 : Int32)) + (1 : Int32)) + (1 : Int32)) (by omega) (X258.more (by decide) (by decide)) rfl N258 O258 ALq258 ⟨own_itb.mk f262, ⟨own_itb.mk f261, ⟨own_itb.mk f260, trivial⟩⟩⟩ f263 f264 f265
         ·refine oi (XS.icmpYes X241.here hx rfl (pc0 := 252) (pc' := 282) rfl (hb hby at_252) rfl (flt hb252_243).2.2.2 (by decide) (by decide)) ?_
          refine so (A := (T241.setTop (mkF m 282 #[vi p1, vi p2, vi p3, vi p4, vn n, vn k, vi cz, vr b1, vr b8, vr b12, vr b207, uu, uu, uu, uu, uu, uu, uu, uu, uu, uu] []))) ?_
          obtain rfl : n = 2 := by have q := hb252_243; rw [show (2 : Int32) = Int32.ofNat 2 from rfl, own_nlt (by omega) (by omega)] at q; have q2 := hb219_226; rw [show (1 : Int32) = Int32.ofNat 1 from rfl, own_nlt (by omega) (by omega)] at q2; omega
          refine so (A := (T241.setTop (mkF m 282 #[vi p1, vi p2, vi p3, vi p4, vi 2, vn k, vi cz, vr b1, vr b8, vr b12, vr b207, uu, uu, uu, uu, uu, uu, uu, uu, uu, uu] []))) ?_
          have f266 : own_par Z T241.heap b227 x230 t230 x233 t233 t4.1 d1 := (Pq237.keep Kp241 (ninS (one (by omega)) (ninS (one (by omega)) nin0)) (ninS (one (by omega)) (ninS (one (by omega)) nin0)) (ninS (one (by omega)) (ninS (one (by omega)) nin0)) (ninS (one (by omega)) (ninS (one (by omega)) nin0)) (ninS (one (by omega)) (ninS (one (by omega)) nin0)))
          have f267 : own_par Z T241.heap b210 x213 t213 x216 t216 t2.1 d0 := ((((((Pq220.keep Kp224 (ninS (one (by omega)) (ninS (one (by omega)) nin0)) (ninS (one (by omega)) (ninS (one (by omega)) nin0)) (ninS (one (by omega)) (ninS (one (by omega)) nin0)) (ninS (one (by omega)) (ninS (one (by omega)) nin0)) (ninS (one (by omega)) (ninS (one (by omega)) nin0))).ext E227).keep Kp230 nin0 nin0 nin0 nin0 nin0).keep Kp233 nin0 nin0 nin0 nin0 nin0).keep Kp237 (ninS (one (by omega)) nin0) (ninS (one (by omega)) nin0) (ninS (one (by omega)) nin0) (ninS (one (by omega)) nin0) (ninS (one (by omega)) nin0)).keep Kp241 (ninS (one (by omega)) (ninS (one (by omega)) nin0)) (ninS (one (by omega)) (ninS (one (by omega)) nin0)) (ninS (one (by omega)) (ninS (one (by omega)) nin0)) (ninS (one (by omega)) (ninS (one (by omega)) nin0)) (ninS (one (by omega)) (ninS (one (by omega)) nin0)))
          have f268 : Arv Z T241.heap b1 k1 .char (3 : Int32) [(.int t2.1), (.int t4.1), (.int t6.1)] (.int 0) := ((((f228.keep Kp230 nin0).keep Kp233 nin0).keep Kp237 (ninS (one (by omega)) nin0)).keep Kp241 (ninS (one (by omega)) (ninS (one (by omega)) nin0)))
          have f269 : Arv Z T241.heap b8 k8 .char (3 : Int32) [(.int d0), (.int d1), (.int d2)] (.int 0) := (((f231.keep Kp233 nin0).keep Kp237 (ninS (one (by omega)) nin0)).keep Kp241 (ninS (one (by omega)) (ninS (one (by omega)) nin0)))
          have f270 : Arv Z T241.heap b12 k12 .char (2 : Int32) [(.int f0), (.int f1)] (.int 0) := ((((((((((((V14.ext E207).keep Kp208 (ninS (one (by omega)) nin0)).ext E210).keep Kp213 nin0).keep Kp216 nin0).keep Kp220 (ninS (one (by omega)) nin0)).keep Kp224 (ninS (one (by omega)) (ninS (one (by omega)) nin0))).ext E227).keep Kp230 nin0).keep Kp233 nin0).keep Kp237 (ninS (one (by omega)) nin0)).keep Kp241 (ninS (one (by omega)) (ninS (one (by omega)) nin0)))
          exact J282 _ _ _ 2 b207 e224 k241 [b210, b227] (((0 : Int32) + (1 : Int32)) + (1 : Int32)) (by omega) (X241.more (by decide) (by decide)) rfl N241 O241 ALq241 ⟨own_itb.mk f267, ⟨own_itb.mk f266, trivial⟩⟩ f268 f269 f270
        ·refine oi (XS.icmpYes X224.here hx rfl (pc0 := 219) (pc' := 249) rfl (hb hby at_219) rfl (flt hb219_226).2.2.2 (by decide) (by decide)) ?_
         refine so (A := (T224.setTop (mkF m 249 #[vi p1, vi p2, vi p3, vi p4, vn n, vn k, vi cz, vr b1, vr b8, vr b12, vr b207, uu, uu, uu, uu, uu, uu, uu, uu, uu, uu] []))) ?_
         obtain rfl : n = 1 := by have q := hb219_226; rw [show (1 : Int32) = Int32.ofNat 1 from rfl, own_nlt (by omega) (by omega)] at q; have q2 := hb186_209; rw [show (0 : Int32) = Int32.ofNat 0 from rfl, own_nlt (by omega) (by omega)] at q2; omega
         refine so (A := (T224.setTop (mkF m 249 #[vi p1, vi p2, vi p3, vi p4, vi 1, vn k, vi cz, vr b1, vr b8, vr b12, vr b207, uu, uu, uu, uu, uu, uu, uu, uu, uu, uu] []))) ?_
         refine oi (XS.iload X224.here hx rfl (hb hby at_249) rfl) ?_
         refine oi (XS.iconst X224.here hx rfl (hb hby at_251)) ?_
         have hb252_271 : ¬ ((2 : Int32) < (1 : Int32)) := by decide
         refine oi (XS.icmpYes X224.here hx rfl (pc0 := 252) (pc' := 282) rfl (hb hby at_252) rfl (flt hb252_271).2.2.2 (by decide) (by decide)) ?_
         refine so (A := (T224.setTop (mkF m 282 #[vi p1, vi p2, vi p3, vi p4, vi 1, vn k, vi cz, vr b1, vr b8, vr b12, vr b207, uu, uu, uu, uu, uu, uu, uu, uu, uu, uu] []))) ?_
         have f272 : own_par Z T224.heap b210 x213 t213 x216 t216 t2.1 d0 := (Pq220.keep Kp224 (ninS (one (by omega)) (ninS (one (by omega)) nin0)) (ninS (one (by omega)) (ninS (one (by omega)) nin0)) (ninS (one (by omega)) (ninS (one (by omega)) nin0)) (ninS (one (by omega)) (ninS (one (by omega)) nin0)) (ninS (one (by omega)) (ninS (one (by omega)) nin0)))
         have f273 : Arv Z T224.heap b1 k1 .char (3 : Int32) [(.int t2.1), (.int t4.1), (.int t6.1)] (.int 0) := ((((f211.keep Kp213 nin0).keep Kp216 nin0).keep Kp220 (ninS (one (by omega)) nin0)).keep Kp224 (ninS (one (by omega)) (ninS (one (by omega)) nin0)))
         have f274 : Arv Z T224.heap b8 k8 .char (3 : Int32) [(.int d0), (.int d1), (.int d2)] (.int 0) := (((f214.keep Kp216 nin0).keep Kp220 (ninS (one (by omega)) nin0)).keep Kp224 (ninS (one (by omega)) (ninS (one (by omega)) nin0)))
         have f275 : Arv Z T224.heap b12 k12 .char (2 : Int32) [(.int f0), (.int f1)] (.int 0) := (((((((V14.ext E207).keep Kp208 (ninS (one (by omega)) nin0)).ext E210).keep Kp213 nin0).keep Kp216 nin0).keep Kp220 (ninS (one (by omega)) nin0)).keep Kp224 (ninS (one (by omega)) (ninS (one (by omega)) nin0)))
         exact J282 _ _ _ 1 b207 e224 k224 [b210] ((0 : Int32) + (1 : Int32)) (by omega) (X224.more (by decide) (by decide)) rfl N224 O224 AL224 ⟨own_itb.mk f272, trivial⟩ f273 f274 f275
       ·refine oi (XS.ifYes X208.here hx rfl (pc0 := 186) (pc' := 216) rfl (hb hby at_186) rfl ((if0 _ _).trans (flt hb186_209).2.2.2) (by decide) (by decide)) ?_
        refine so (A := (T208.setTop (mkF m 216 #[vi p1, vi p2, vi p3, vi p4, vn n, vn k, vi cz, vr b1, vr b8, vr b12, vr b207, uu, uu, uu, uu, uu, uu, uu, uu, uu, uu] []))) ?_
        obtain rfl : n = 0 := by have q := hb186_209; rw [show (0 : Int32) = Int32.ofNat 0 from rfl, own_nlt (by omega) (by omega)] at q; omega
        refine so (A := (T208.setTop (mkF m 216 #[vi p1, vi p2, vi p3, vi p4, vz, vn k, vi cz, vr b1, vr b8, vr b12, vr b207, uu, uu, uu, uu, uu, uu, uu, uu, uu, uu] []))) ?_
        refine oi (XS.iload X208.here hx rfl (hb hby at_216) rfl) ?_
        refine oi (XS.iconst X208.here hx rfl (hb hby at_218)) ?_
        have hb219_276 : ¬ ((1 : Int32) < (0 : Int32)) := by decide
        refine oi (XS.icmpYes X208.here hx rfl (pc0 := 219) (pc' := 249) rfl (hb hby at_219) rfl (flt hb219_276).2.2.2 (by decide) (by decide)) ?_
        refine so (A := (T208.setTop (mkF m 249 #[vi p1, vi p2, vi p3, vi p4, vz, vn k, vi cz, vr b1, vr b8, vr b12, vr b207, uu, uu, uu, uu, uu, uu, uu, uu, uu, uu] []))) ?_
        refine oi (XS.iload X208.here hx rfl (hb hby at_249) rfl) ?_
        refine oi (XS.iconst X208.here hx rfl (hb hby at_251)) ?_
        have hb252_277 : ¬ ((2 : Int32) < (0 : Int32)) := by decide
        refine oi (XS.icmpYes X208.here hx rfl (pc0 := 252) (pc' := 282) rfl (hb hby at_252) rfl (flt hb252_277).2.2.2 (by decide) (by decide)) ?_
        refine so (A := (T208.setTop (mkF m 282 #[vi p1, vi p2, vi p3, vi p4, vz, vn k, vi cz, vr b1, vr b8, vr b12, vr b207, uu, uu, uu, uu, uu, uu, uu, uu, uu, uu] []))) ?_
        have f278 : Arv Z T208.heap b1 k1 .char (3 : Int32) [(.int t2.1), (.int t4.1), (.int t6.1)] (.int 0) := (((((((((V7.ext E8).other W9 (one (by omega))).other W10 (one (by omega))).other W11 (one (by omega))).ext E12).other W13 (one (by omega))).other W14 (one (by omega))).ext E207).keep Kp208 (ninS (one (by omega)) nin0))
        have f279 : Arv Z T208.heap b8 k8 .char (3 : Int32) [(.int d0), (.int d1), (.int d2)] (.int 0) := (((((V11.ext E12).other W13 (one (by omega))).other W14 (one (by omega))).ext E207).keep Kp208 (ninS (one (by omega)) nin0))
        have f280 : Arv Z T208.heap b12 k12 .char (2 : Int32) [(.int f0), (.int f1)] (.int 0) := ((V14.ext E207).keep Kp208 (ninS (one (by omega)) nin0))
        exact J282 _ _ _ 0 b207 dq kd [] (0 : Int32) (by omega) (X208.more (by decide) (by decide)) rfl N208 O208 AL208 trivial f278 f279 f280
      intro H2 T2 ls2 n lp ep kp ys mp hn X2 e2 N2 O2_ AP2 IP2 Vp2 Vv2 Vw2
      have ltp2 := AP2.lt2
      have ltn2 := olt Vp2.lt
      have ltm2 := olt Vv2.lt
      have ltw2 := olt Vw2.lt
      refine so (A := (T2.setTop (mkF m 282 #[vi p1, vi p2, vi p3, vi p4, vn n, vn k, vi cz, vr b1, vr b8, vr b12, vr lp, uu, uu, uu, uu, uu, uu, uu, uu, uu, uu] []))) ?_
      obtain ⟨T172, h172, X172, e172, E172, A172, D172, -, st172⟩ := newO X2 hx hZ hown (hW 1 _ rfl) (hW 2 _ rfl) (hW 3 _ rfl) e2 (g := (mkF m 282 #[vi p1, vi p2, vi p3, vi p4, vn n, vn k, vi cz, vr b1, vr b8, vr b12, vr lp, uu, uu, uu, uu, uu, uu, uu, uu, uu, uu] [])) rfl (hb hby at_282) (by decide) (by decide)
      obtain ⟨b172, g172⟩ : ∃ z, z = H2.size := ⟨_, rfl⟩
      rw [← g172] at A172 D172 st172
      refine oo st172 ?_
      have lt172 := olt A172.lt
      have sz172 : H2.size ≤ h172.size := E172.1
      have O172 : Old Z n0 h172 := O2_.ext E172
      have z172 : n0 ≤ b172 := by have := O2_.1 ▸ O2_.2.1; omega
      have F172_modCount : Fld Z h172 b172 "java/util/AbstractList" "modCount" "I" (.int 0) := D172 (Or.inl (hW 23 _ rfl)) (ty := .int) pf_2
      have F172_elementData : Fld Z h172 b172 "java/util/ArrayList" "elementData" "[Ljava/lang/Object;" .null := D172 (Or.inl (hW 26 _ rfl)) (ty := (.array (.object "java/lang/Object"))) pf_3
      have F172_size : Fld Z h172 b172 "java/util/ArrayList" "size" "I" (.int 0) := D172 (Or.inl (hW 94 _ rfl)) (ty := .int) pf_2
      refine oi (XS.dup X172.here hx rfl (hb hby at_285) rfl rfl) ?_
      refine so (A := (T172.setTop (mkF m 286 #[vi p1, vi p2, vi p3, vi p4, vn n, vn k, vi cz, vr b1, vr b8, vr b12, vr lp, uu, uu, uu, uu, uu, uu, uu, uu, uu, uu] [(.ref b172), (.ref b172)]))) ?_
      obtain ⟨_, T173, Lc173, X173, hQ173, st173⟩ := own_c1 X172 <| X172.specialBack hx (y := ym1) rfl hown (mvT hZ (hW 4 _ rfl)) (mvT hZ (hW 5 _ rfl)) (mvT hZ (hW 6 _ rfl)) (by decide) (backOf (W := 1) (rmLI l Z a0 hw [] b172 dq kd mr h172 n0 O172 (by omega) S_d V_d E_d M_r l_d A172 F172_elementData F172_size F172_modCount) hZ (hW 6 _ rfl) (hW 3 _ rfl) (by decide) (by decide)) (g := (mkF m 286 #[vi p1, vi p2, vi p3, vi p4, vn n, vn k, vi cz, vr b1, vr b8, vr b12, vr lp, uu, uu, uu, uu, uu, uu, uu, uu, uu, uu] [(.ref b172), (.ref b172)])) rfl (by rw [hml]; rfl) (Steps.refl _) (a := b172) (argsL := []) (rest := [(.ref b172)]) (lenOf pd_3 rfl) rfl (Nat.le_of_eq rfl) (hb hby at_286) (fun _ _ => ⟨rfl, e172, (by decide : 37 + 0 ≤ _), (by decide : 113 + 0 ≤ _)⟩)
      obtain ⟨rfl, Nq173, Kp173, AL173⟩ := hQ173
      have N173 := Fr.app N2 Nq173
      refine oo (fun tt_ kk_ => st173.trans kk_) ?_
      have sz173 : h172.size ≤ T173.heap.size := Kp173.1
      have O173 : Old Z n0 T173.heap := O172.keep Kp173 (allS (by omega) all0)
      refine oi (XS.astore X173.here hx rfl (hb hby at_289) rfl rfl (l' := #[vi p1, vi p2, vi p3, vi p4, vn n, vn k, vi cz, vr b1, vr b8, vr b12, vr lp, vr b172, uu, uu, uu, uu, uu, uu, uu, uu, uu]) rfl) ?_
      refine oi (XS.iload X173.here hx rfl (hb hby at_291) rfl) ?_
      by_cases hb293_174 : (0 : Int32) < (Int32.ofNat k)
      ·refine oi (XS.ifNo X173.here hx rfl (hb hby at_293) rfl ((if0 _ _).trans (tlt hb293_174).2.2.2)) ?_
       refine so (A := (T173.setTop (mkF m 296 #[vi p1, vi p2, vi p3, vi p4, vn n, vn k, vi cz, vr b1, vr b8, vr b12, vr lp, vr b172, uu, uu, uu, uu, uu, uu, uu, uu, uu] []))) ?_
       refine oi (XS.aload X173.here hx rfl (hb hby at_296) rfl rfl) ?_
       refine oi (XS.aload X173.here hx rfl (hb hby at_298) rfl rfl) ?_
       refine oi (XS.iconst X173.here hx rfl (hb hby at_300)) ?_
       have f175 : Arv Z T173.heap b12 k12 .char (2 : Int32) [(.int f0), (.int f1)] (.int 0) := ((Vw2.ext E172).keep Kp173 (ninS (one (by omega)) nin0))
       obtain ⟨cl176, Ar176, q176, S176, Ng176, H176, G176⟩ := id f175
       have hin176 : ¬ ((0 : Int32) < 0 ∨ cl176.slots.size ≤ ((0 : Int32)).toNatClampNeg) := inb_of S176 ⟨by decide, by decide⟩
       have hat176 : cl176.slots[((0 : Int32)).toNatClampNeg]? = some (.int f0) := H176 0 (by rw [S176]; decide)
       refine oo (fun _ => X173.caload hx (j := (0 : Int32)) (v := (.int f0)) Ar176.1 (State.isArrayOf_alike hZ.alike Ar176.2.1) Ar176.2.2 hin176 hat176 (g := (mkF m 301 #[vi p1, vi p2, vi p3, vi p4, vn n, vn k, vi cz, vr b1, vr b8, vr b12, vr lp, vr b172, uu, uu, uu, uu, uu, uu, uu, uu, uu] [(.int 0), (.ref b12), (.ref b172)])) rfl rfl (hb hby at_301) _) ?_
       refine so (A := (T173.setTop (mkF m 302 #[vi p1, vi p2, vi p3, vi p4, vn n, vn k, vi cz, vr b1, vr b8, vr b12, vr lp, vr b172, uu, uu, uu, uu, uu, uu, uu, uu, uu] [(.int f0), (.ref b172)]))) ?_
       obtain ⟨_, T177, Lc177, X177, hQ177, st177⟩ := own_c1 X173 <| Jvm.LawKit.callS X173 hx (y := ym5) hown (mvT hZ (hW 27 _ rfl)) (mvT hZ (hW 28 _ rfl)) (mvT hZ (hW 29 _ rfl)) (mvT hZ (hW 30 _ rfl)) (by decide) (backOf (W := 1) (rmVO l Z a0 hw [] f0 Gc T173.heap n0 O173 Oc Pc hf0) hZ (hW 30 _ rfl) (hW 29 _ rfl) (by decide) (by decide)) (g := (mkF m 302 #[vi p1, vi p2, vi p3, vi p4, vn n, vn k, vi cz, vr b1, vr b8, vr b12, vr lp, vr b172, uu, uu, uu, uu, uu, uu, uu, uu, uu] [(.int f0), (.ref b172)])) rfl (by rw [hml]; rfl) (argsL := [(.int f0)]) (rest := [(.ref b172)]) (lenOf pd_21 rfl) rfl (Nat.le_of_eq rfl) (hb hby at_302) (fun _ _ => ⟨rfl, rfl, (by decide : 37 + 2 ≤ _), (by decide : 113 + 5 ≤ _)⟩)
       obtain ⟨x177, t177, rfl, Nq177, Kp177, gx177, lx177, gt177, lt177, nx177, Sx177⟩ := hQ177
       have N177 := Fr.app N173 Nq177
       refine oo st177 ?_
       have sz177 : T173.heap.size ≤ T177.heap.size := Kp177.1
       have O177 : Old Z n0 T177.heap := O173.keep Kp177 all0
       have Ex177 := Sx177.exa
       refine so (A := (T177.setTop (mkF m 305 #[vi p1, vi p2, vi p3, vi p4, vn n, vn k, vi cz, vr b1, vr b8, vr b12, vr lp, vr b172, uu, uu, uu, uu, uu, uu, uu, uu, uu] [(.ref x177), (.ref b172)]))) ?_
       have f178 : own_al Z T177.heap dq n0 b172 dq kd [] (0 : Int32) := (AL173.keep Kp177 nin0 nin0)
       have f180 : Exa Z T177.heap b172 "java/util/ArrayList" := (AL173.1.keep Kp177)
       obtain ⟨cq179, kq179, q179a, q179b, q179c⟩ := isOf hZ rfl f180
       obtain ⟨_, T179, Lc179, X179, hQ179, st179⟩ := own_c1 X177 <| X177.virtualBack hx (y := ym22) (z := ym22) hown (mvT hZ (hW 163 _ rfl)) (mvT hZ (hW 164 _ rfl)) (notFace_of_selects (args := #[]) (mvT hZ (hW 166 _ rfl))) (mvT hZ (hW 166 _ rfl)) (mvT hZ (hW 165 _ rfl)) (by decide) (backOf (W := 0) (rmAd l Z a0 hw [] b172 dq kd mr dq kd [] x177 "java/lang/String" (0 : Int32) T177.heap n0 O177 (by omega) S_d V_d E_d M_r l_d f178 (by simp) Ex177 (hW 246 _ rfl)) hZ (hW 167 _ rfl) (hW 3 _ rfl) (by decide) (by decide)) q179a q179c (g := (mkF m 305 #[vi p1, vi p2, vi p3, vi p4, vn n, vn k, vi cz, vr b1, vr b8, vr b12, vr lp, vr b172, uu, uu, uu, uu, uu, uu, uu, uu, uu] [(.ref x177), (.ref b172)])) rfl (by rw [hml]; rfl) (Steps.refl _) (argsL := [(.ref x177)]) (rest := []) (lenOf pd_17 rfl) rfl (Nat.le_of_eq rfl) (hb hby at_305) (fun _ _ => ⟨rfl, rfl, (by decide : 39 + 1 ≤ _), (by decide : 118 + 10 ≤ _)⟩)
       obtain ⟨e179, k179, z179, rfl, Nq179, gz179, hz179, Kp179, AL179⟩ := hQ179
       have N179 := Fr.app N177 Nq179
       refine oo (fun tt_ kk_ => st179.trans kk_) ?_
       have sz179 : T177.heap.size ≤ T179.heap.size := Kp179.1
       have O179 : Old Z n0 T179.heap := O177.keep Kp179 (allS (by omega) (allS (by omega) all0))
       obtain ⟨hz1179, he179⟩ : z179 = b172 ∧ T177.heap.size ≤ e179 := hz179.elim (fun q => ⟨q.1, q.2.2⟩) (fun q => absurd l_d (Nat.not_lt_of_le q.2.1))
       clear hz179
       have la179 := AL179.lt2
       have ga179 : n0 ≤ e179 := by omega
       refine oi (XS.pop X179.here hx rfl (hb hby at_308) rfl rfl) ?_
       refine so (A := (T179.setTop (mkF m 309 #[vi p1, vi p2, vi p3, vi p4, vn n, vn k, vi cz, vr b1, vr b8, vr b12, vr lp, vr b172, uu, uu, uu, uu, uu, uu, uu, uu, uu] []))) ?_
       refine oi (XS.iload X179.here hx rfl (hb hby at_309) rfl) ?_
       refine oi (XS.iconst X179.here hx rfl (hb hby at_311)) ?_
       by_cases hb312_181 : (1 : Int32) < (Int32.ofNat k)
       ·refine oi (XS.icmpNo X179.here hx rfl (hb hby at_312) rfl (tlt hb312_181).2.2.2) ?_
        refine so (A := (T179.setTop (mkF m 315 #[vi p1, vi p2, vi p3, vi p4, vn n, vn k, vi cz, vr b1, vr b8, vr b12, vr lp, vr b172, uu, uu, uu, uu, uu, uu, uu, uu, uu] []))) ?_
        refine oi (XS.aload X179.here hx rfl (hb hby at_315) rfl rfl) ?_
        refine oi (XS.aload X179.here hx rfl (hb hby at_317) rfl rfl) ?_
        refine oi (XS.iconst X179.here hx rfl (hb hby at_319)) ?_
        have f182 : Arv Z T179.heap b12 k12 .char (2 : Int32) [(.int f0), (.int f1)] (.int 0) := ((f175.keep Kp177 nin0).keep Kp179 (ninS (one (by omega)) (ninS (one (by omega)) nin0)))
        obtain ⟨cl183, Ar183, q183, S183, Ng183, H183, G183⟩ := id f182
        have hin183 : ¬ ((1 : Int32) < 0 ∨ cl183.slots.size ≤ ((1 : Int32)).toNatClampNeg) := inb_of S183 ⟨by decide, by decide⟩
        have hat183 : cl183.slots[((1 : Int32)).toNatClampNeg]? = some (.int f1) := H183 1 (by rw [S183]; decide)
        refine oo (fun _ => X179.caload hx (j := (1 : Int32)) (v := (.int f1)) Ar183.1 (State.isArrayOf_alike hZ.alike Ar183.2.1) Ar183.2.2 hin183 hat183 (g := (mkF m 320 #[vi p1, vi p2, vi p3, vi p4, vn n, vn k, vi cz, vr b1, vr b8, vr b12, vr lp, vr b172, uu, uu, uu, uu, uu, uu, uu, uu, uu] [(.int 1), (.ref b12), (.ref b172)])) rfl rfl (hb hby at_320) _) ?_
        refine so (A := (T179.setTop (mkF m 321 #[vi p1, vi p2, vi p3, vi p4, vn n, vn k, vi cz, vr b1, vr b8, vr b12, vr lp, vr b172, uu, uu, uu, uu, uu, uu, uu, uu, uu] [(.int f1), (.ref b172)]))) ?_
        obtain ⟨_, T184, Lc184, X184, hQ184, st184⟩ := own_c1 X179 <| Jvm.LawKit.callS X179 hx (y := ym5) hown (mvT hZ (hW 27 _ rfl)) (mvT hZ (hW 28 _ rfl)) (mvT hZ (hW 29 _ rfl)) (mvT hZ (hW 30 _ rfl)) (by decide) (backOf (W := 1) (rmVO l Z a0 hw [] f1 Gc T179.heap n0 O179 Oc Pc hf1) hZ (hW 30 _ rfl) (hW 29 _ rfl) (by decide) (by decide)) (g := (mkF m 321 #[vi p1, vi p2, vi p3, vi p4, vn n, vn k, vi cz, vr b1, vr b8, vr b12, vr lp, vr b172, uu, uu, uu, uu, uu, uu, uu, uu, uu] [(.int f1), (.ref b172)])) rfl (by rw [hml]; rfl) (argsL := [(.int f1)]) (rest := [(.ref b172)]) (lenOf pd_21 rfl) rfl (Nat.le_of_eq rfl) (hb hby at_321) (fun _ _ => ⟨rfl, rfl, (by decide : 40 + 2 ≤ _), (by decide : 128 + 5 ≤ _)⟩)
        obtain ⟨x184, t184, rfl, Nq184, Kp184, gx184, lx184, gt184, lt184, nx184, Sx184⟩ := hQ184
        have N184 := Fr.app N179 Nq184
        refine oo st184 ?_
        have sz184 : T179.heap.size ≤ T184.heap.size := Kp184.1
        have O184 : Old Z n0 T184.heap := O179.keep Kp184 all0
        have Ex184 := Sx184.exa
        refine so (A := (T184.setTop (mkF m 324 #[vi p1, vi p2, vi p3, vi p4, vn n, vn k, vi cz, vr b1, vr b8, vr b12, vr lp, vr b172, uu, uu, uu, uu, uu, uu, uu, uu, uu] [(.ref x184), (.ref b172)]))) ?_
        have f185 : own_al Z T184.heap dq n0 b172 e179 k179 [x177] ((0 : Int32) + (1 : Int32)) := (AL179.keep Kp184 nin0 nin0)
        have f187 : Exa Z T184.heap b172 "java/util/ArrayList" := (AL179.1.keep Kp184)
        obtain ⟨cq186, kq186, q186a, q186b, q186c⟩ := isOf hZ rfl f187
        obtain ⟨_, T186, Lc186, X186, hQ186, st186⟩ := own_c1 X184 <| X184.virtualBack hx (y := ym22) (z := ym22) hown (mvT hZ (hW 163 _ rfl)) (mvT hZ (hW 164 _ rfl)) (notFace_of_selects (args := #[]) (mvT hZ (hW 166 _ rfl))) (mvT hZ (hW 166 _ rfl)) (mvT hZ (hW 165 _ rfl)) (by decide) (backOf (W := 0) (rmAd l Z a0 hw [] b172 dq kd mr e179 k179 [x177] x184 "java/lang/String" ((0 : Int32) + (1 : Int32)) T184.heap n0 O184 (by omega) S_d V_d E_d M_r l_d f185 (by simp) Ex184 (hW 246 _ rfl)) hZ (hW 167 _ rfl) (hW 3 _ rfl) (by decide) (by decide)) q186a q186c (g := (mkF m 324 #[vi p1, vi p2, vi p3, vi p4, vn n, vn k, vi cz, vr b1, vr b8, vr b12, vr lp, vr b172, uu, uu, uu, uu, uu, uu, uu, uu, uu] [(.ref x184), (.ref b172)])) rfl (by rw [hml]; rfl) (Steps.refl _) (argsL := [(.ref x184)]) (rest := []) (lenOf pd_17 rfl) rfl (Nat.le_of_eq rfl) (hb hby at_324) (fun _ _ => ⟨rfl, rfl, (by decide : 42 + 1 ≤ _), (by decide : 133 + 10 ≤ _)⟩)
        obtain ⟨e186, k186, z186, rfl, Nq186, gz186, hz186, Kp186, AL186⟩ := hQ186
        have N186 := Fr.app N184 Nq186
        refine oo (fun tt_ kk_ => st186.trans kk_) ?_
        have sz186 : T184.heap.size ≤ T186.heap.size := Kp186.1
        have O186 : Old Z n0 T186.heap := O184.keep Kp186 (allS (by omega) (allS (by omega) all0))
        obtain ⟨hz1186, he186⟩ : z186 = e179 ∧ e186 = e179 := hz186.elim (fun q => absurd q.2.1 (Nat.ne_of_gt (Nat.lt_of_lt_of_le l_d ga179))) (fun q => ⟨q.1, q.2.2⟩)
        clear hz186
        have ALq186 : own_al Z T186.heap dq n0 b172 e179 k186 [x177, x184] (((0 : Int32) + (1 : Int32)) + (1 : Int32)) := he186 ▸ AL186
        have la186 := ALq186.lt2
        refine oi (XS.pop X186.here hx rfl (hb hby at_327) rfl rfl) ?_
        refine so (A := (T186.setTop (mkF m 328 #[vi p1, vi p2, vi p3, vi p4, vn n, vn k, vi cz, vr b1, vr b8, vr b12, vr lp, vr b172, uu, uu, uu, uu, uu, uu, uu, uu, uu] []))) ?_
        obtain rfl : k = 2 := by have q := hb312_181; rw [show (1 : Int32) = Int32.ofNat 1 from rfl, own_nlt (by omega) (by omega)] at q; have q2 := hb293_174; rw [show (0 : Int32) = Int32.ofNat 0 from rfl, own_nlt (by omega) (by omega)] at q2; omega
        refine so (A := (T186.setTop (mkF m 328 #[vi p1, vi p2, vi p3, vi p4, vn n, vi 2, vi cz, vr b1, vr b8, vr b12, vr lp, vr b172, uu, uu, uu, uu, uu, uu, uu, uu, uu] []))) ?_
        have f188 : own_st Z T186.heap x184 t184 f1 := (Sx184.keep Kp186 (ninS (one (by omega)) (ninS (one (by omega)) nin0)) (ninS (one (by omega)) (ninS (one (by omega)) nin0)))
        have f189 : own_st Z T186.heap x177 t177 f0 := (((Sx177.keep Kp179 (ninS (one (by omega)) (ninS (one (by omega)) nin0)) (ninS (one (by omega)) (ninS (one (by omega)) nin0))).keep Kp184 nin0 nin0).keep Kp186 (ninS (one (by omega)) (ninS (one (by omega)) nin0)) (ninS (one (by omega)) (ninS (one (by omega)) nin0)))
        have f190 : own_al Z T186.heap dq n0 lp ep kp ys mp := ((((((AP2.ext E172).keep Kp173 (ninS (one (by omega)) nin0) (ninS (one (by omega)) nin0)).keep Kp177 nin0 nin0).keep Kp179 (ninS (one (by omega)) (ninS (one (by omega)) nin0)) (ninS (one (by omega)) (ninS (one (by omega)) nin0))).keep Kp184 nin0 nin0).keep Kp186 (ninS (one (by omega)) (ninS (one (by omega)) nin0)) (ninS (one (by omega)) (ninS (one (by omega)) nin0)))
        have f191 : own_its Z T186.heap H2.size ys ([(t2.1, d0), (t4.1, d1), (t6.1, d2)].take n) := ((((((IP2.ext E172).keep Kp173 (allS (by omega) all0)).keep Kp177 all0).keep Kp179 (allS (by omega) (allS (by omega) all0))).keep Kp184 all0).keep Kp186 (allS (by omega) (allS (by omega) all0)))
        have f192 : Arv Z T186.heap b1 k1 .char (3 : Int32) [(.int t2.1), (.int t4.1), (.int t6.1)] (.int 0) := ((((((Vp2.ext E172).keep Kp173 (ninS (one (by omega)) nin0)).keep Kp177 nin0).keep Kp179 (ninS (one (by omega)) (ninS (one (by omega)) nin0))).keep Kp184 nin0).keep Kp186 (ninS (one (by omega)) (ninS (one (by omega)) nin0)))
        have f193 : Arv Z T186.heap b8 k8 .char (3 : Int32) [(.int d0), (.int d1), (.int d2)] (.int 0) := ((((((Vv2.ext E172).keep Kp173 (ninS (one (by omega)) nin0)).keep Kp177 nin0).keep Kp179 (ninS (one (by omega)) (ninS (one (by omega)) nin0))).keep Kp184 nin0).keep Kp186 (ninS (one (by omega)) (ninS (one (by omega)) nin0)))
        have f194 : Arv Z T186.heap b12 k12 .char (2 : Int32) [(.int f0), (.int f1)] (.int 0) := ((f182.keep Kp184 nin0).keep Kp186 (ninS (one (by omega)) (ninS (one (by omega)) nin0)))
        exact J328 _ _ _ n 2 lp ep kp ys mp b172 e179 k186 [x177, x184] (((0 : Int32) + (1 : Int32)) + (1 : Int32)) _ _ _ _ hn (by omega) (X186.more (by decide) (by decide)) rfl N186 O186 f190 (own_its.up f191 (by omega)) ALq186 ⟨⟨_, f189⟩, ⟨⟨_, f188⟩, trivial⟩⟩ f192 f193 f194
       ·refine oi (XS.icmpYes X179.here hx rfl (pc0 := 312) (pc' := 328) rfl (hb hby at_312) rfl (flt hb312_181).2.2.2 (by decide) (by decide)) ?_
        refine so (A := (T179.setTop (mkF m 328 #[vi p1, vi p2, vi p3, vi p4, vn n, vn k, vi cz, vr b1, vr b8, vr b12, vr lp, vr b172, uu, uu, uu, uu, uu, uu, uu, uu, uu] []))) ?_
        obtain rfl : k = 1 := by have q := hb312_181; rw [show (1 : Int32) = Int32.ofNat 1 from rfl, own_nlt (by omega) (by omega)] at q; have q2 := hb293_174; rw [show (0 : Int32) = Int32.ofNat 0 from rfl, own_nlt (by omega) (by omega)] at q2; omega
        refine so (A := (T179.setTop (mkF m 328 #[vi p1, vi p2, vi p3, vi p4, vn n, vi 1, vi cz, vr b1, vr b8, vr b12, vr lp, vr b172, uu, uu, uu, uu, uu, uu, uu, uu, uu] []))) ?_
        have f195 : own_st Z T179.heap x177 t177 f0 := (Sx177.keep Kp179 (ninS (one (by omega)) (ninS (one (by omega)) nin0)) (ninS (one (by omega)) (ninS (one (by omega)) nin0)))
        have f196 : own_al Z T179.heap dq n0 lp ep kp ys mp := ((((AP2.ext E172).keep Kp173 (ninS (one (by omega)) nin0) (ninS (one (by omega)) nin0)).keep Kp177 nin0 nin0).keep Kp179 (ninS (one (by omega)) (ninS (one (by omega)) nin0)) (ninS (one (by omega)) (ninS (one (by omega)) nin0)))
        have f197 : own_its Z T179.heap H2.size ys ([(t2.1, d0), (t4.1, d1), (t6.1, d2)].take n) := ((((IP2.ext E172).keep Kp173 (allS (by omega) all0)).keep Kp177 all0).keep Kp179 (allS (by omega) (allS (by omega) all0)))
        have f198 : Arv Z T179.heap b1 k1 .char (3 : Int32) [(.int t2.1), (.int t4.1), (.int t6.1)] (.int 0) := ((((Vp2.ext E172).keep Kp173 (ninS (one (by omega)) nin0)).keep Kp177 nin0).keep Kp179 (ninS (one (by omega)) (ninS (one (by omega)) nin0)))
        have f199 : Arv Z T179.heap b8 k8 .char (3 : Int32) [(.int d0), (.int d1), (.int d2)] (.int 0) := ((((Vv2.ext E172).keep Kp173 (ninS (one (by omega)) nin0)).keep Kp177 nin0).keep Kp179 (ninS (one (by omega)) (ninS (one (by omega)) nin0)))
        have f200 : Arv Z T179.heap b12 k12 .char (2 : Int32) [(.int f0), (.int f1)] (.int 0) := ((f175.keep Kp177 nin0).keep Kp179 (ninS (one (by omega)) (ninS (one (by omega)) nin0)))
        exact J328 _ _ _ n 1 lp ep kp ys mp b172 e179 k179 [x177] ((0 : Int32) + (1 : Int32)) _ _ _ _ hn (by omega) (X179.more (by decide) (by decide)) rfl N179 O179 f196 (own_its.up f197 (by omega)) AL179 ⟨⟨_, f195⟩, trivial⟩ f198 f199 f200
      ·refine oi (XS.ifYes X173.here hx rfl (pc0 := 293) (pc' := 309) rfl (hb hby at_293) rfl ((if0 _ _).trans (flt hb293_174).2.2.2) (by decide) (by decide)) ?_
       refine so (A := (T173.setTop (mkF m 309 #[vi p1, vi p2, vi p3, vi p4, vn n, vn k, vi cz, vr b1, vr b8, vr b12, vr lp, vr b172, uu, uu, uu, uu, uu, uu, uu, uu, uu] []))) ?_
       obtain rfl : k = 0 := by have q := hb293_174; rw [show (0 : Int32) = Int32.ofNat 0 from rfl, own_nlt (by omega) (by omega)] at q; omega
       refine so (A := (T173.setTop (mkF m 309 #[vi p1, vi p2, vi p3, vi p4, vn n, vz, vi cz, vr b1, vr b8, vr b12, vr lp, vr b172, uu, uu, uu, uu, uu, uu, uu, uu, uu] []))) ?_
       refine oi (XS.iload X173.here hx rfl (hb hby at_309) rfl) ?_
       refine oi (XS.iconst X173.here hx rfl (hb hby at_311)) ?_
       have hb312_201 : ¬ ((1 : Int32) < (0 : Int32)) := by decide
       refine oi (XS.icmpYes X173.here hx rfl (pc0 := 312) (pc' := 328) rfl (hb hby at_312) rfl (flt hb312_201).2.2.2 (by decide) (by decide)) ?_
       refine so (A := (T173.setTop (mkF m 328 #[vi p1, vi p2, vi p3, vi p4, vn n, vz, vi cz, vr b1, vr b8, vr b12, vr lp, vr b172, uu, uu, uu, uu, uu, uu, uu, uu, uu] []))) ?_
       have f202 : own_al Z T173.heap dq n0 lp ep kp ys mp := ((AP2.ext E172).keep Kp173 (ninS (one (by omega)) nin0) (ninS (one (by omega)) nin0))
       have f203 : own_its Z T173.heap H2.size ys ([(t2.1, d0), (t4.1, d1), (t6.1, d2)].take n) := ((IP2.ext E172).keep Kp173 (allS (by omega) all0))
       have f204 : Arv Z T173.heap b1 k1 .char (3 : Int32) [(.int t2.1), (.int t4.1), (.int t6.1)] (.int 0) := ((Vp2.ext E172).keep Kp173 (ninS (one (by omega)) nin0))
       have f205 : Arv Z T173.heap b8 k8 .char (3 : Int32) [(.int d0), (.int d1), (.int d2)] (.int 0) := ((Vv2.ext E172).keep Kp173 (ninS (one (by omega)) nin0))
       have f206 : Arv Z T173.heap b12 k12 .char (2 : Int32) [(.int f0), (.int f1)] (.int 0) := ((Vw2.ext E172).keep Kp173 (ninS (one (by omega)) nin0))
       exact J328 _ _ _ n 0 lp ep kp ys mp b172 dq kd [] (0 : Int32) _ _ _ _ hn (by omega) (X173.more (by decide) (by decide)) rfl N173 O173 f202 (own_its.up f203 (by omega)) AL173 trivial f204 f205 f206
     intro H3 T3 ls3 n k lp ep kp ys mp lv ev kv vs mv l0 l1 l2 l3 hn hk X3 e3 N3 O3 AP3 IP3 AV3 SV3 Vp3 Vv3 Vw3
     have ltp3 := AP3.lt2
     have ltv3 := AV3.lt2
     have ltn3 := olt Vp3.lt
     have ltm3 := olt Vv3.lt
     have ltw3 := olt Vw3.lt
     have hyl : ys.length = n := by have q := IP3.len; simp only [List.length_take, List.length_cons, List.length_nil] at q; omega
     have hvl : vs.length = k := by have q := own_sts_len SV3; simp only [List.length_take, List.length_cons, List.length_nil] at q; omega
     refine so (A := (T3.setTop (mkF m 328 #[l0, l1, l2, l3, vn n, vn k, vi cz, vr b1, vr b8, vr b12, vr lp, vr lv, uu, uu, uu, uu, uu, uu, uu, uu, uu] []))) ?_
     refine oi (XS.aload X3.here hx rfl (hb hby at_328) rfl rfl) ?_
     refine oi (XS.iload X3.here hx rfl (hb hby at_330) rfl) ?_
     refine so (A := (T3.setTop (mkF m 332 #[l0, l1, l2, l3, vn n, vn k, vi cz, vr b1, vr b8, vr b12, vr lp, vr lv, uu, uu, uu, uu, uu, uu, uu, uu, uu] [(.int cz), (.ref lp)]))) ?_
     obtain ⟨_, T47, Lc47, X47, hQ47, st47⟩ := own_c1 X3 <| Jvm.LawKit.callS X3 hx (y := ym5) hown (mvT hZ (hW 27 _ rfl)) (mvT hZ (hW 28 _ rfl)) (mvT hZ (hW 29 _ rfl)) (mvT hZ (hW 30 _ rfl)) (by decide) (backOf (W := 1) (rmVO l Z a0 hw [] cz Gc H3 n0 O3 Oc Pc hcz) hZ (hW 30 _ rfl) (hW 29 _ rfl) (by decide) (by decide)) (g := (mkF m 332 #[l0, l1, l2, l3, vn n, vn k, vi cz, vr b1, vr b8, vr b12, vr lp, vr lv, uu, uu, uu, uu, uu, uu, uu, uu, uu] [(.int cz), (.ref lp)])) rfl (by rw [hml]; rfl) (argsL := [(.int cz)]) (rest := [(.ref lp)]) (lenOf pd_21 rfl) rfl (Nat.le_of_eq rfl) (hb hby at_332) (fun _ _ => ⟨rfl, e3, (by decide : 44 + 2 ≤ _), (by decide : 170 + 5 ≤ _)⟩)
     obtain ⟨x47, t47, rfl, Nq47, Kp47, gx47, lx47, gt47, lt47, nx47, Sx47⟩ := hQ47
     have N47 := Fr.app N3 Nq47
     refine oo st47 ?_
     have sz47 : H3.size ≤ T47.heap.size := Kp47.1
     have O47 : Old Z n0 T47.heap := O3.keep Kp47 all0
     have Ex47 := Sx47.exa
     refine oi (XS.aload X47.here hx rfl (hb hby at_335) rfl rfl) ?_
     refine so (A := (T47.setTop (mkF m 337 #[l0, l1, l2, l3, vn n, vn k, vi cz, vr b1, vr b8, vr b12, vr lp, vr lv, uu, uu, uu, uu, uu, uu, uu, uu, uu] [(.ref lv), (.ref x47), (.ref lp)]))) ?_
     have f48 : own_al Z T47.heap dq n0 lp ep kp ys mp := (AP3.keep Kp47 nin0 nin0)
     have f49 : own_its Z T47.heap H3.size ys ([(t2.1, d0), (t4.1, d1), (t6.1, d2)].take n) := (IP3.keep Kp47 all0)
     have f50 : own_al Z T47.heap dq n0 lv ev kv vs mv := (AV3.keep Kp47 nin0 nin0)
     have f51 : own_sts Z T47.heap vs ([f0, f1].take k) := (SV3.keep Kp47)
     obtain ⟨_, T52, Lc52, X52, hQ52, st52⟩ := own_c1 X47 <| Jvm.LawKit.callS X47 hx (y := ym9) hown (mvT hZ (hW 51 _ rfl)) (mvT hZ (hW 52 _ rfl)) (mvT hZ (hW 53 _ rfl)) (mvT hZ (hW 54 _ rfl)) (by decide) (backOf (W := 0) (rmW l Z a0 hw [] lp lv dq kd mr ep kp ys mp ev kv vs mv x47 t47 cz H3.size ([(t2.1, d0), (t4.1, d1), (t6.1, d2)].take n) ([f0, f1].take k) Gc T47.heap n0 O47 Oc Pc S_d V_d E_d M_r l_d f48 f49 f50 f51 Sx47 (by omega) (by omega) (by omega)) hZ (hW 54 _ rfl) (hW 53 _ rfl) (by decide) (by decide)) (g := (mkF m 337 #[l0, l1, l2, l3, vn n, vn k, vi cz, vr b1, vr b8, vr b12, vr lp, vr lv, uu, uu, uu, uu, uu, uu, uu, uu, uu] [(.ref lv), (.ref x47), (.ref lp)])) rfl (by rw [hml]; rfl) (argsL := [(.ref lp), (.ref x47), (.ref lv)]) (rest := []) (lenOf pd_24 rfl) rfl (Nat.le_of_eq rfl) (hb hby at_337) (fun _ _ => ⟨rfl, rfl, (by decide : 46 + 16 ≤ _), (by decide : 175 + 130 ≤ _)⟩)
     obtain ⟨rs52, er52, kr52, rm52, zs52, rfl, Nq52, Kp52, AR52, IR52⟩ := hQ52
     have N52 := Fr.app N47 Nq52
     refine oo st52 ?_
     have sz52 : T47.heap.size ≤ T52.heap.size := Kp52.1
     have O52 : Old Z n0 T52.heap := O47.keep Kp52 all0
     have ltR52 := AR52.lt2
     refine oi (XS.astore X52.here hx rfl (hb hby at_340) rfl rfl (l' := #[l0, l1, l2, l3, vn n, vn k, vi cz, vr b1, vr b8, vr b12, vr lp, vr lv, vr rs52, uu, uu, uu, uu, uu, uu, uu, uu]) rfl) ?_
     refine so (A := (T52.setTop (mkF m 342 #[l0, l1, l2, l3, vn n, vn k, vi cz, vr b1, vr b8, vr b12, vr lp, vr lv, vr rs52, uu, uu, uu, uu, uu, uu, uu, uu] []))) ?_
     refine own_use X52 (h := T52.heap) (g := fun m53 : {z : Int32 // (z = 1 ∧ (0 < n ∧ t2.1 = cz)) ∨ (z = 0 ∧ ¬ (0 < n ∧ t2.1 = cz))} => (mkF m 361 #[l0, l1, l2, l3, vn n, vn k, vi cz, vr b1, vr b8, vr b12, vr lp, vr lv, vr rs52, uu, uu, uu, uu, uu, uu, uu, uu] [(.int m53.1)])) (G := own_go p e below s _ _ _) ?_ ?_
     ·intro m53 T53 X53 e53
      refine so (A := (T53.setTop (mkF m 361 #[l0, l1, l2, l3, vn n, vn k, vi cz, vr b1, vr b8, vr b12, vr lp, vr lv, vr rs52, uu, uu, uu, uu, uu, uu, uu, uu] [(.int m53.1)]))) ?_
      refine oi (XS.istore X53.here hx rfl (hb hby at_361) rfl (l' := #[l0, l1, l2, l3, vn n, vn k, vi cz, vr b1, vr b8, vr b12, vr lp, vr lv, vr rs52, vi m53.1, uu, uu, uu, uu, uu, uu, uu]) rfl) ?_
      refine so (A := (T53.setTop (mkF m 363 #[l0, l1, l2, l3, vn n, vn k, vi cz, vr b1, vr b8, vr b12, vr lp, vr lv, vr rs52, vi m53.1, uu, uu, uu, uu, uu, uu, uu] []))) ?_
      refine own_use X53 (h := T52.heap) (g := fun m54 : {z : Int32 // (z = 1 ∧ (1 < n ∧ t4.1 = cz)) ∨ (z = 0 ∧ ¬ (1 < n ∧ t4.1 = cz))} => (mkF m 383 #[l0, l1, l2, l3, vn n, vn k, vi cz, vr b1, vr b8, vr b12, vr lp, vr lv, vr rs52, vi m53.1, uu, uu, uu, uu, uu, uu, uu] [(.int m54.1)])) (G := own_go p e below s _ _ _) ?_ ?_
      ·intro m54 T54 X54 e54
       refine so (A := (T54.setTop (mkF m 383 #[l0, l1, l2, l3, vn n, vn k, vi cz, vr b1, vr b8, vr b12, vr lp, vr lv, vr rs52, vi m53.1, uu, uu, uu, uu, uu, uu, uu] [(.int m54.1)]))) ?_
       refine oi (XS.istore X54.here hx rfl (hb hby at_383) rfl (l' := #[l0, l1, l2, l3, vn n, vn k, vi cz, vr b1, vr b8, vr b12, vr lp, vr lv, vr rs52, vi m53.1, vi m54.1, uu, uu, uu, uu, uu, uu]) rfl) ?_
       refine so (A := (T54.setTop (mkF m 385 #[l0, l1, l2, l3, vn n, vn k, vi cz, vr b1, vr b8, vr b12, vr lp, vr lv, vr rs52, vi m53.1, vi m54.1, uu, uu, uu, uu, uu, uu] []))) ?_
       refine own_use X54 (h := T52.heap) (g := fun m55 : {z : Int32 // (z = 1 ∧ (2 < n ∧ t6.1 = cz)) ∨ (z = 0 ∧ ¬ (2 < n ∧ t6.1 = cz))} => (mkF m 405 #[l0, l1, l2, l3, vn n, vn k, vi cz, vr b1, vr b8, vr b12, vr lp, vr lv, vr rs52, vi m53.1, vi m54.1, uu, uu, uu, uu, uu, uu] [(.int m55.1)])) (G := own_go p e below s _ _ _) ?_ ?_
       ·intro m55 T55 X55 e55
        refine so (A := (T55.setTop (mkF m 405 #[l0, l1, l2, l3, vn n, vn k, vi cz, vr b1, vr b8, vr b12, vr lp, vr lv, vr rs52, vi m53.1, vi m54.1, uu, uu, uu, uu, uu, uu] [(.int m55.1)]))) ?_
        refine oi (XS.istore X55.here hx rfl (hb hby at_405) rfl (l' := #[l0, l1, l2, l3, vn n, vn k, vi cz, vr b1, vr b8, vr b12, vr lp, vr lv, vr rs52, vi m53.1, vi m54.1, vi m55.1, uu, uu, uu, uu, uu]) rfl) ?_
        refine oi (XS.iconst X55.here hx rfl (hb hby at_407)) ?_
        obtain ⟨T56, h56, k56, X56, e56, E56, A56, st56⟩ := newP X55 hx hZ (hW 0 _ rfl) e55 (g := (mkF m 408 #[l0, l1, l2, l3, vn n, vn k, vi cz, vr b1, vr b8, vr b12, vr lp, vr lv, vr rs52, vi m53.1, vi m54.1, vi m55.1, uu, uu, uu, uu, uu] [(.int 3)])) rfl (hb hby at_408) rfl (by decide) (cap := 3) (by decide) (by decide) (by decide) (by decide)
        obtain ⟨b56, g56⟩ : ∃ z, z = T52.heap.size := ⟨_, rfl⟩
        rw [← g56] at A56 st56
        refine oo st56 ?_
        have lt56 := olt A56.lt
        have sz56 : T52.heap.size ≤ h56.size := E56.1
        have O56 : Old Z n0 h56 := O52.ext E56
        have z56 : n0 ≤ b56 := by have := O52.1 ▸ O52.2.1; omega
        have V56 : Arv Z h56 b56 k56 .char (3 : Int32) [(.int 0), (.int 0), (.int 0)] (.int 0) := (Arv.new A56 (by decide)).pad (pad_rep [] (.int 0) 3)
        refine oi (XS.astore X56.here hx rfl (hb hby at_410) rfl rfl (l' := #[l0, l1, l2, l3, vn n, vn k, vi cz, vr b1, vr b8, vr b12, vr lp, vr lv, vr rs52, vi m53.1, vi m54.1, vi m55.1, vr b56, uu, uu, uu, uu]) rfl) ?_
        refine oi (XS.iconst X56.here hx rfl (hb hby at_412)) ?_
        obtain ⟨T57, h57, k57, X57, e57, E57, A57, st57⟩ := newP X56 hx hZ (hW 0 _ rfl) e56 (g := (mkF m 413 #[l0, l1, l2, l3, vn n, vn k, vi cz, vr b1, vr b8, vr b12, vr lp, vr lv, vr rs52, vi m53.1, vi m54.1, vi m55.1, vr b56, uu, uu, uu, uu] [(.int 3)])) rfl (hb hby at_413) rfl (by decide) (cap := 3) (by decide) (by decide) (by decide) (by decide)
        obtain ⟨b57, g57⟩ : ∃ z, z = h56.size := ⟨_, rfl⟩
        rw [← g57] at A57 st57
        refine oo st57 ?_
        have lt57 := olt A57.lt
        have sz57 : h56.size ≤ h57.size := E57.1
        have O57 : Old Z n0 h57 := O56.ext E57
        have z57 : n0 ≤ b57 := by have := O56.1 ▸ O56.2.1; omega
        have V57 : Arv Z h57 b57 k57 .char (3 : Int32) [(.int 0), (.int 0), (.int 0)] (.int 0) := (Arv.new A57 (by decide)).pad (pad_rep [] (.int 0) 3)
        refine oi (XS.astore X57.here hx rfl (hb hby at_415) rfl rfl (l' := #[l0, l1, l2, l3, vn n, vn k, vi cz, vr b1, vr b8, vr b12, vr lp, vr lv, vr rs52, vi m53.1, vi m54.1, vi m55.1, vr b56, vr b57, uu, uu, uu]) rfl) ?_
        refine oi (XS.iconst X57.here hx rfl (hb hby at_417)) ?_
        refine oi (XS.istore X57.here hx rfl (hb hby at_418) rfl (l' := #[l0, l1, l2, l3, vn n, vn k, vi cz, vr b1, vr b8, vr b12, vr lp, vr lv, vr rs52, vi m53.1, vi m54.1, vi m55.1, vr b56, vr b57, vz, uu, uu]) rfl) ?_
        refine so (A := (T57.setTop (mkF m 420 #[l0, l1, l2, l3, vn n, vn k, vi cz, vr b1, vr b8, vr b12, vr lp, vr lv, vr rs52, vi m53.1, vi m54.1, vi m55.1, vr b56, vr b57, vz, uu, uu] []))) ?_
        have mid_3_0 : ∀ (H7 : Heap) (T7 : State) (ls7 : List Loc), (Stand p l e room_1 s m #[.int p1, .int p2, .int p3, .int p4] below meth c T7 ls7 64 311) → (T7.heap = H7) → (Fr n0 ls7) → (Old Z n0 H7) → (T52.heap.size ≤ H7.size) → (own_al Z H7 dq n0 rs52 er52 kr52 zs52 rm52) → (own_its Z H7 T52.heap.size zs52 (own_go2 cz (([f0, f1].take k).map fun f => (cz, f)) ([(t2.1, d0), (t4.1, d1), (t6.1, d2)].take n) false)) → (Arv Z H7 b1 k1 .char (3 : Int32) [(.int t2.1), (.int t4.1), (.int t6.1)] (.int 0)) → (Arv Z H7 b8 k8 .char (3 : Int32) [(.int d0), (.int d1), (.int d2)] (.int 0)) → (Arv Z H7 b12 k12 .char (2 : Int32) [(.int f0), (.int f1)] (.int 0)) → (Arv Z H7 b56 k56 .char (3 : Int32) [(.int 0), (.int 0), (.int 0)] (.int 0)) → (Arv Z H7 b57 k57 .char (3 : Int32) [(.int 0), (.int 0), (.int 0)] (.int 0)) → (own_kept cz [(t2.1, d0), (t4.1, d1), (t6.1, d2)] n 3 = ([] : List (Int32 × Int32))) → own_go p e below s (Q_rm0 Z p1 p2 p3 p4 dq kd mr Gc h0 n0) room_1.cells room_1.slots (T7.setTop (mkF m 524 #[l0, l1, l2, l3, vn n, vn k, vi cz, vr b1, vr b8, vr b12, vr lp, vr lv, vr rs52, vi m53.1, vi m54.1, vi m55.1, vr b56, vr b57, vz, uu, uu] [])) := by
         intro H7 T7 ls7  X7 e7 N7 O7 hs7 AR7 IR7 Vp7 Vv7 Vq7 Va7 Vb7 hK
         refine so (A := (T7.setTop (mkF m 524 #[l0, l1, l2, l3, vn n, vn k, vi cz, vr b1, vr b8, vr b12, vr lp, vr lv, vr rs52, vi m53.1, vi m54.1, vi m55.1, vr b56, vr b57, vz, uu, uu] []))) ?_
         refine oi (XS.iload X7.here hx rfl (hb hby at_524) rfl) ?_
         by_cases hb526_58 : m53.1 = (0 : Int32)
         ·refine oi (XS.ifYes X7.here hx rfl (pc0 := 526) (pc' := 533) rfl (hb hby at_526) rfl ((if0 _ _).trans (teq hb526_58).1) (by decide) (by decide)) ?_
          refine so (A := (T7.setTop (mkF m 533 #[l0, l1, l2, l3, vn n, vn k, vi cz, vr b1, vr b8, vr b12, vr lp, vr lv, vr rs52, vi m53.1, vi m54.1, vi m55.1, vr b56, vr b57, vz, uu, uu] []))) ?_
          refine oi (XS.iload X7.here hx rfl (hb hby at_533) rfl) ?_
          by_cases hb535_59 : m54.1 = (0 : Int32)
          ·refine oi (XS.ifYes X7.here hx rfl (pc0 := 535) (pc' := 542) rfl (hb hby at_535) rfl ((if0 _ _).trans (teq hb535_59).1) (by decide) (by decide)) ?_
           refine so (A := (T7.setTop (mkF m 542 #[l0, l1, l2, l3, vn n, vn k, vi cz, vr b1, vr b8, vr b12, vr lp, vr lv, vr rs52, vi m53.1, vi m54.1, vi m55.1, vr b56, vr b57, vz, uu, uu] []))) ?_
           refine oi (XS.iload X7.here hx rfl (hb hby at_542) rfl) ?_
           by_cases hb544_60 : m55.1 = (0 : Int32)
           ·refine oi (XS.ifYes X7.here hx rfl (pc0 := 544) (pc' := 551) rfl (hb hby at_544) rfl ((if0 _ _).trans (teq hb544_60).1) (by decide) (by decide)) ?_
            refine so (A := (T7.setTop (mkF m 551 #[l0, l1, l2, l3, vn n, vn k, vi cz, vr b1, vr b8, vr b12, vr lp, vr lv, vr rs52, vi m53.1, vi m54.1, vi m55.1, vr b56, vr b57, vz, uu, uu] []))) ?_
            refine oi (XS.iload X7.here hx rfl (hb hby at_551) rfl) ?_
            refine oi (XS.istore X7.here hx rfl (hb hby at_553) rfl (l' := #[l0, l1, l2, l3, vn n, vn k, vi cz, vr b1, vr b8, vr b12, vr lp, vr lv, vr rs52, vi m53.1, vi m54.1, vi m55.1, vr b56, vr b57, vz, vz, uu]) rfl) ?_
            refine oi (XS.iload X7.here hx rfl (hb hby at_555) rfl) ?_
            refine oi (XS.iload X7.here hx rfl (hb hby at_557) rfl) ?_
            refine oi (XS.iadd X7.here hx rfl (hb hby at_559) rfl) ?_
            refine oi (XS.istore X7.here hx rfl (hb hby at_560) rfl (l' := #[l0, l1, l2, l3, vn n, vn k, vi cz, vr b1, vr b8, vr b12, vr lp, vr lv, vr rs52, vi m53.1, vi m54.1, vi m55.1, vr b56, vr b57, vz, vz, vi ((0 : Int32) + (Int32.ofNat k))]) rfl) ?_
            refine so (A := (T7.setTop (mkF m 562 #[l0, l1, l2, l3, vn n, vn k, vi cz, vr b1, vr b8, vr b12, vr lp, vr lv, vr rs52, vi m53.1, vi m54.1, vi m55.1, vr b56, vr b57, vz, vz, vi ((0 : Int32) + (Int32.ofNat k))] []))) ?_
            have hF : own_fl cz ([(t2.1, d0), (t4.1, d1), (t6.1, d2)].take n) = ([] : List (Int32 × Int32)) := (own_kp3 hn).symm.trans hK
            have ep : own_pos cz ([(t2.1, d0), (t4.1, d1), (t6.1, d2)].take n) = 0 := own_pos3 hn (own_m0 m53.2 hb526_58) (own_m0 m54.2 hb535_59) (own_m0 m55.2 hb544_60) hF
            have hk3_ : k = 0 ∨ k = 1 ∨ k = 2 := by omega
            rcases hk3_ with rfl | rfl | rfl
            ·have eR : own_go2 cz (([f0, f1].take 0).map fun f => (cz, f)) ([(t2.1, d0), (t4.1, d1), (t6.1, d2)].take n) false = ([] : List (Int32 × Int32)) := by rw [own_split, ep, hF]; rfl
             have IRk := IR7
             rw [eR] at IRk
             exact J562 _ _ _ rs52 er52 kr52 zs52 rm52 ([] : List (Int32 × Int32)) _ _ _ _ cz b56 b57 b12 _ _ _ [(0 : Int32), (0 : Int32), (0 : Int32)] [(0 : Int32), (0 : Int32), (0 : Int32)] [f0, f1] _ _ _ _ _ _ _ _ _ _ _ _ _ (X7.more (by decide) (by decide)) e7 N7 O7 AR7 IRk rfl (by have q := IRk.len; simp only [List.length_cons, List.length_nil] at q; omega) Va7 Vb7 Vq7 (Or.inl (by simp)) (Or.inl (by simp)) (Or.inl (by simp)) (Or.inl (by simp)) (Or.inl (by simp))
            ·have eR : own_go2 cz (([f0, f1].take 1).map fun f => (cz, f)) ([(t2.1, d0), (t4.1, d1), (t6.1, d2)].take n) false = ([(cz, f0)] : List (Int32 × Int32)) := by rw [own_split, ep, hF]; rfl
             have IRk := IR7
             rw [eR] at IRk
             exact J562 _ _ _ rs52 er52 kr52 zs52 rm52 ([(cz, f0)] : List (Int32 × Int32)) _ _ _ _ cz b56 b57 b12 _ _ _ [(0 : Int32), (0 : Int32), (0 : Int32)] [(0 : Int32), (0 : Int32), (0 : Int32)] [f0, f1] _ _ _ _ _ _ _ _ _ _ _ _ _ (X7.more (by decide) (by decide)) e7 N7 O7 AR7 IRk rfl (by have q := IRk.len; simp only [List.length_cons, List.length_nil] at q; omega) Va7 Vb7 Vq7 (Or.inr ⟨_, _, rfl, Or.inr (Or.inl ⟨by decide, by decide, rfl, 0, by decide, rfl, by decide⟩)⟩) (Or.inl (by simp)) (Or.inl (by simp)) (Or.inl (by simp)) (Or.inl (by simp))
            ·have eR : own_go2 cz (([f0, f1].take 2).map fun f => (cz, f)) ([(t2.1, d0), (t4.1, d1), (t6.1, d2)].take n) false = ([(cz, f0), (cz, f1)] : List (Int32 × Int32)) := by rw [own_split, ep, hF]; rfl
             have IRk := IR7
             rw [eR] at IRk
             exact J562 _ _ _ rs52 er52 kr52 zs52 rm52 ([(cz, f0), (cz, f1)] : List (Int32 × Int32)) _ _ _ _ cz b56 b57 b12 _ _ _ [(0 : Int32), (0 : Int32), (0 : Int32)] [(0 : Int32), (0 : Int32), (0 : Int32)] [f0, f1] _ _ _ _ _ _ _ _ _ _ _ _ _ (X7.more (by decide) (by decide)) e7 N7 O7 AR7 IRk rfl (by have q := IRk.len; simp only [List.length_cons, List.length_nil] at q; omega) Va7 Vb7 Vq7 (Or.inr ⟨_, _, rfl, Or.inr (Or.inl ⟨by decide, by decide, rfl, 0, by decide, rfl, by decide⟩)⟩) (Or.inr ⟨_, _, rfl, Or.inr (Or.inl ⟨by decide, by decide, rfl, 1, by decide, rfl, by decide⟩)⟩) (Or.inl (by simp)) (Or.inl (by simp)) (Or.inl (by simp))
           ·refine oi (XS.ifNo X7.here hx rfl (hb hby at_544) rfl ((if0 _ _).trans (feq hb544_60).1)) ?_
            refine so (A := (T7.setTop (mkF m 547 #[l0, l1, l2, l3, vn n, vn k, vi cz, vr b1, vr b8, vr b12, vr lp, vr lv, vr rs52, vi m53.1, vi m54.1, vi m55.1, vr b56, vr b57, vz, uu, uu] []))) ?_
            refine oi (XS.iconst X7.here hx rfl (hb hby at_547)) ?_
            refine oi (XS.goto X7.here hx rfl (pc0 := 548) (pc' := 553) rfl (hb hby at_548) (by decide) (by decide)) ?_
            refine oi (XS.istore X7.here hx rfl (hb hby at_553) rfl (l' := #[l0, l1, l2, l3, vn n, vn k, vi cz, vr b1, vr b8, vr b12, vr lp, vr lv, vr rs52, vi m53.1, vi m54.1, vi m55.1, vr b56, vr b57, vz, vi 2, uu]) rfl) ?_
            refine oi (XS.iload X7.here hx rfl (hb hby at_555) rfl) ?_
            refine oi (XS.iload X7.here hx rfl (hb hby at_557) rfl) ?_
            refine oi (XS.iadd X7.here hx rfl (hb hby at_559) rfl) ?_
            refine oi (XS.istore X7.here hx rfl (hb hby at_560) rfl (l' := #[l0, l1, l2, l3, vn n, vn k, vi cz, vr b1, vr b8, vr b12, vr lp, vr lv, vr rs52, vi m53.1, vi m54.1, vi m55.1, vr b56, vr b57, vz, vi 2, vi ((0 : Int32) + (Int32.ofNat k))]) rfl) ?_
            refine so (A := (T7.setTop (mkF m 562 #[l0, l1, l2, l3, vn n, vn k, vi cz, vr b1, vr b8, vr b12, vr lp, vr lv, vr rs52, vi m53.1, vi m54.1, vi m55.1, vr b56, vr b57, vz, vi 2, vi ((0 : Int32) + (Int32.ofNat k))] []))) ?_
            have hF : own_fl cz ([(t2.1, d0), (t4.1, d1), (t6.1, d2)].take n) = ([] : List (Int32 × Int32)) := (own_kp3 hn).symm.trans hK
            have ep : own_pos cz ([(t2.1, d0), (t4.1, d1), (t6.1, d2)].take n) = 2 := own_pos2 (own_m0 m53.2 hb526_58) (own_m0 m54.2 hb535_59) (own_m1 m55.2 hb544_60)
            exfalso
            have q := congrArg List.length hF
            exact own_no2 (own_m0 m53.2 hb526_58) (own_m0 m54.2 hb535_59) (own_m1 m55.2 hb544_60) hF (by simp)
          ·refine oi (XS.ifNo X7.here hx rfl (hb hby at_535) rfl ((if0 _ _).trans (feq hb535_59).1)) ?_
           refine so (A := (T7.setTop (mkF m 538 #[l0, l1, l2, l3, vn n, vn k, vi cz, vr b1, vr b8, vr b12, vr lp, vr lv, vr rs52, vi m53.1, vi m54.1, vi m55.1, vr b56, vr b57, vz, uu, uu] []))) ?_
           refine oi (XS.iconst X7.here hx rfl (hb hby at_538)) ?_
           refine oi (XS.goto X7.here hx rfl (pc0 := 539) (pc' := 553) rfl (hb hby at_539) (by decide) (by decide)) ?_
           refine oi (XS.istore X7.here hx rfl (hb hby at_553) rfl (l' := #[l0, l1, l2, l3, vn n, vn k, vi cz, vr b1, vr b8, vr b12, vr lp, vr lv, vr rs52, vi m53.1, vi m54.1, vi m55.1, vr b56, vr b57, vz, vi 1, uu]) rfl) ?_
           refine oi (XS.iload X7.here hx rfl (hb hby at_555) rfl) ?_
           refine oi (XS.iload X7.here hx rfl (hb hby at_557) rfl) ?_
           refine oi (XS.iadd X7.here hx rfl (hb hby at_559) rfl) ?_
           refine oi (XS.istore X7.here hx rfl (hb hby at_560) rfl (l' := #[l0, l1, l2, l3, vn n, vn k, vi cz, vr b1, vr b8, vr b12, vr lp, vr lv, vr rs52, vi m53.1, vi m54.1, vi m55.1, vr b56, vr b57, vz, vi 1, vi ((0 : Int32) + (Int32.ofNat k))]) rfl) ?_
           refine so (A := (T7.setTop (mkF m 562 #[l0, l1, l2, l3, vn n, vn k, vi cz, vr b1, vr b8, vr b12, vr lp, vr lv, vr rs52, vi m53.1, vi m54.1, vi m55.1, vr b56, vr b57, vz, vi 1, vi ((0 : Int32) + (Int32.ofNat k))] []))) ?_
           have hF : own_fl cz ([(t2.1, d0), (t4.1, d1), (t6.1, d2)].take n) = ([] : List (Int32 × Int32)) := (own_kp3 hn).symm.trans hK
           have ep : own_pos cz ([(t2.1, d0), (t4.1, d1), (t6.1, d2)].take n) = 1 := own_pos1 (own_m0 m53.2 hb526_58) (own_m1 m54.2 hb535_59)
           exfalso
           have q := congrArg List.length hF
           exact own_no1 (own_m0 m53.2 hb526_58) (own_m1 m54.2 hb535_59) hF (by simp)
         ·refine oi (XS.ifNo X7.here hx rfl (hb hby at_526) rfl ((if0 _ _).trans (feq hb526_58).1)) ?_
          refine so (A := (T7.setTop (mkF m 529 #[l0, l1, l2, l3, vn n, vn k, vi cz, vr b1, vr b8, vr b12, vr lp, vr lv, vr rs52, vi m53.1, vi m54.1, vi m55.1, vr b56, vr b57, vz, uu, uu] []))) ?_
          refine oi (XS.iconst X7.here hx rfl (hb hby at_529)) ?_
          refine oi (XS.goto X7.here hx rfl (pc0 := 530) (pc' := 553) rfl (hb hby at_530) (by decide) (by decide)) ?_
          refine oi (XS.istore X7.here hx rfl (hb hby at_553) rfl (l' := #[l0, l1, l2, l3, vn n, vn k, vi cz, vr b1, vr b8, vr b12, vr lp, vr lv, vr rs52, vi m53.1, vi m54.1, vi m55.1, vr b56, vr b57, vz, vz, uu]) rfl) ?_
          refine oi (XS.iload X7.here hx rfl (hb hby at_555) rfl) ?_
          refine oi (XS.iload X7.here hx rfl (hb hby at_557) rfl) ?_
          refine oi (XS.iadd X7.here hx rfl (hb hby at_559) rfl) ?_
          refine oi (XS.istore X7.here hx rfl (hb hby at_560) rfl (l' := #[l0, l1, l2, l3, vn n, vn k, vi cz, vr b1, vr b8, vr b12, vr lp, vr lv, vr rs52, vi m53.1, vi m54.1, vi m55.1, vr b56, vr b57, vz, vz, vi ((0 : Int32) + (Int32.ofNat k))]) rfl) ?_
          refine so (A := (T7.setTop (mkF m 562 #[l0, l1, l2, l3, vn n, vn k, vi cz, vr b1, vr b8, vr b12, vr lp, vr lv, vr rs52, vi m53.1, vi m54.1, vi m55.1, vr b56, vr b57, vz, vz, vi ((0 : Int32) + (Int32.ofNat k))] []))) ?_
          have hF : own_fl cz ([(t2.1, d0), (t4.1, d1), (t6.1, d2)].take n) = ([] : List (Int32 × Int32)) := (own_kp3 hn).symm.trans hK
          have ep : own_pos cz ([(t2.1, d0), (t4.1, d1), (t6.1, d2)].take n) = 0 := own_pos0 (own_m1 m53.2 hb526_58)
          have hk3_ : k = 0 ∨ k = 1 ∨ k = 2 := by omega
          rcases hk3_ with rfl | rfl | rfl
          ·have eR : own_go2 cz (([f0, f1].take 0).map fun f => (cz, f)) ([(t2.1, d0), (t4.1, d1), (t6.1, d2)].take n) false = ([] : List (Int32 × Int32)) := by rw [own_split, ep, hF]; rfl
           have IRk := IR7
           rw [eR] at IRk
           exact J562 _ _ _ rs52 er52 kr52 zs52 rm52 ([] : List (Int32 × Int32)) _ _ _ _ cz b56 b57 b12 _ _ _ [(0 : Int32), (0 : Int32), (0 : Int32)] [(0 : Int32), (0 : Int32), (0 : Int32)] [f0, f1] _ _ _ _ _ _ _ _ _ _ _ _ _ (X7.more (by decide) (by decide)) e7 N7 O7 AR7 IRk rfl (by have q := IRk.len; simp only [List.length_cons, List.length_nil] at q; omega) Va7 Vb7 Vq7 (Or.inl (by simp)) (Or.inl (by simp)) (Or.inl (by simp)) (Or.inl (by simp)) (Or.inl (by simp))
          ·have eR : own_go2 cz (([f0, f1].take 1).map fun f => (cz, f)) ([(t2.1, d0), (t4.1, d1), (t6.1, d2)].take n) false = ([(cz, f0)] : List (Int32 × Int32)) := by rw [own_split, ep, hF]; rfl
           have IRk := IR7
           rw [eR] at IRk
           exact J562 _ _ _ rs52 er52 kr52 zs52 rm52 ([(cz, f0)] : List (Int32 × Int32)) _ _ _ _ cz b56 b57 b12 _ _ _ [(0 : Int32), (0 : Int32), (0 : Int32)] [(0 : Int32), (0 : Int32), (0 : Int32)] [f0, f1] _ _ _ _ _ _ _ _ _ _ _ _ _ (X7.more (by decide) (by decide)) e7 N7 O7 AR7 IRk rfl (by have q := IRk.len; simp only [List.length_cons, List.length_nil] at q; omega) Va7 Vb7 Vq7 (Or.inr ⟨_, _, rfl, Or.inr (Or.inl ⟨by decide, by decide, rfl, 0, by decide, rfl, by decide⟩)⟩) (Or.inl (by simp)) (Or.inl (by simp)) (Or.inl (by simp)) (Or.inl (by simp))
          ·have eR : own_go2 cz (([f0, f1].take 2).map fun f => (cz, f)) ([(t2.1, d0), (t4.1, d1), (t6.1, d2)].take n) false = ([(cz, f0), (cz, f1)] : List (Int32 × Int32)) := by rw [own_split, ep, hF]; rfl
           have IRk := IR7
           rw [eR] at IRk
           exact J562 _ _ _ rs52 er52 kr52 zs52 rm52 ([(cz, f0), (cz, f1)] : List (Int32 × Int32)) _ _ _ _ cz b56 b57 b12 _ _ _ [(0 : Int32), (0 : Int32), (0 : Int32)] [(0 : Int32), (0 : Int32), (0 : Int32)] [f0, f1] _ _ _ _ _ _ _ _ _ _ _ _ _ (X7.more (by decide) (by decide)) e7 N7 O7 AR7 IRk rfl (by have q := IRk.len; simp only [List.length_cons, List.length_nil] at q; omega) Va7 Vb7 Vq7 (Or.inr ⟨_, _, rfl, Or.inr (Or.inl ⟨by decide, by decide, rfl, 0, by decide, rfl, by decide⟩)⟩) (Or.inr ⟨_, _, rfl, Or.inr (Or.inl ⟨by decide, by decide, rfl, 1, by decide, rfl, by decide⟩)⟩) (Or.inl (by simp)) (Or.inl (by simp)) (Or.inl (by simp))
        have mid_3_1 : ∀ (H7 : Heap) (T7 : State) (ls7 : List Loc) (xa0 xb0 : Int32), (Stand p l e room_1 s m #[.int p1, .int p2, .int p3, .int p4] below meth c T7 ls7 64 311) → (T7.heap = H7) → (Fr n0 ls7) → (Old Z n0 H7) → (T52.heap.size ≤ H7.size) → (own_al Z H7 dq n0 rs52 er52 kr52 zs52 rm52) → (own_its Z H7 T52.heap.size zs52 (own_go2 cz (([f0, f1].take k).map fun f => (cz, f)) ([(t2.1, d0), (t4.1, d1), (t6.1, d2)].take n) false)) → (Arv Z H7 b1 k1 .char (3 : Int32) [(.int t2.1), (.int t4.1), (.int t6.1)] (.int 0)) → (Arv Z H7 b8 k8 .char (3 : Int32) [(.int d0), (.int d1), (.int d2)] (.int 0)) → (Arv Z H7 b12 k12 .char (2 : Int32) [(.int f0), (.int f1)] (.int 0)) → (Arv Z H7 b56 k56 .char (3 : Int32) [(.int xa0), (.int 0), (.int 0)] (.int 0)) → (Arv Z H7 b57 k57 .char (3 : Int32) [(.int xb0), (.int 0), (.int 0)] (.int 0)) → (own_kept cz [(t2.1, d0), (t4.1, d1), (t6.1, d2)] n 3 = ([(xa0, xb0)] : List (Int32 × Int32))) → own_go p e below s (Q_rm0 Z p1 p2 p3 p4 dq kd mr Gc h0 n0) room_1.cells room_1.slots (T7.setTop (mkF m 524 #[l0, l1, l2, l3, vn n, vn k, vi cz, vr b1, vr b8, vr b12, vr lp, vr lv, vr rs52, vi m53.1, vi m54.1, vi m55.1, vr b56, vr b57, vi 1, uu, uu] [])) := by
         intro H7 T7 ls7 xa0 xb0 X7 e7 N7 O7 hs7 AR7 IR7 Vp7 Vv7 Vq7 Va7 Vb7 hK
         refine so (A := (T7.setTop (mkF m 524 #[l0, l1, l2, l3, vn n, vn k, vi cz, vr b1, vr b8, vr b12, vr lp, vr lv, vr rs52, vi m53.1, vi m54.1, vi m55.1, vr b56, vr b57, vi 1, uu, uu] []))) ?_
         refine oi (XS.iload X7.here hx rfl (hb hby at_524) rfl) ?_
         by_cases hb526_61 : m53.1 = (0 : Int32)
         ·refine oi (XS.ifYes X7.here hx rfl (pc0 := 526) (pc' := 533) rfl (hb hby at_526) rfl ((if0 _ _).trans (teq hb526_61).1) (by decide) (by decide)) ?_
          refine so (A := (T7.setTop (mkF m 533 #[l0, l1, l2, l3, vn n, vn k, vi cz, vr b1, vr b8, vr b12, vr lp, vr lv, vr rs52, vi m53.1, vi m54.1, vi m55.1, vr b56, vr b57, vi 1, uu, uu] []))) ?_
          refine oi (XS.iload X7.here hx rfl (hb hby at_533) rfl) ?_
          by_cases hb535_62 : m54.1 = (0 : Int32)
          ·refine oi (XS.ifYes X7.here hx rfl (pc0 := 535) (pc' := 542) rfl (hb hby at_535) rfl ((if0 _ _).trans (teq hb535_62).1) (by decide) (by decide)) ?_
           refine so (A := (T7.setTop (mkF m 542 #[l0, l1, l2, l3, vn n, vn k, vi cz, vr b1, vr b8, vr b12, vr lp, vr lv, vr rs52, vi m53.1, vi m54.1, vi m55.1, vr b56, vr b57, vi 1, uu, uu] []))) ?_
           refine oi (XS.iload X7.here hx rfl (hb hby at_542) rfl) ?_
           by_cases hb544_63 : m55.1 = (0 : Int32)
           ·refine oi (XS.ifYes X7.here hx rfl (pc0 := 544) (pc' := 551) rfl (hb hby at_544) rfl ((if0 _ _).trans (teq hb544_63).1) (by decide) (by decide)) ?_
            refine so (A := (T7.setTop (mkF m 551 #[l0, l1, l2, l3, vn n, vn k, vi cz, vr b1, vr b8, vr b12, vr lp, vr lv, vr rs52, vi m53.1, vi m54.1, vi m55.1, vr b56, vr b57, vi 1, uu, uu] []))) ?_
            refine oi (XS.iload X7.here hx rfl (hb hby at_551) rfl) ?_
            refine oi (XS.istore X7.here hx rfl (hb hby at_553) rfl (l' := #[l0, l1, l2, l3, vn n, vn k, vi cz, vr b1, vr b8, vr b12, vr lp, vr lv, vr rs52, vi m53.1, vi m54.1, vi m55.1, vr b56, vr b57, vi 1, vi 1, uu]) rfl) ?_
            refine oi (XS.iload X7.here hx rfl (hb hby at_555) rfl) ?_
            refine oi (XS.iload X7.here hx rfl (hb hby at_557) rfl) ?_
            refine oi (XS.iadd X7.here hx rfl (hb hby at_559) rfl) ?_
            refine oi (XS.istore X7.here hx rfl (hb hby at_560) rfl (l' := #[l0, l1, l2, l3, vn n, vn k, vi cz, vr b1, vr b8, vr b12, vr lp, vr lv, vr rs52, vi m53.1, vi m54.1, vi m55.1, vr b56, vr b57, vi 1, vi 1, vi ((1 : Int32) + (Int32.ofNat k))]) rfl) ?_
            refine so (A := (T7.setTop (mkF m 562 #[l0, l1, l2, l3, vn n, vn k, vi cz, vr b1, vr b8, vr b12, vr lp, vr lv, vr rs52, vi m53.1, vi m54.1, vi m55.1, vr b56, vr b57, vi 1, vi 1, vi ((1 : Int32) + (Int32.ofNat k))] []))) ?_
            have hF : own_fl cz ([(t2.1, d0), (t4.1, d1), (t6.1, d2)].take n) = ([(xa0, xb0)] : List (Int32 × Int32)) := (own_kp3 hn).symm.trans hK
            have ep : own_pos cz ([(t2.1, d0), (t4.1, d1), (t6.1, d2)].take n) = 1 := own_pos3 hn (own_m0 m53.2 hb526_61) (own_m0 m54.2 hb535_62) (own_m0 m55.2 hb544_63) hF
            have hk3_ : k = 0 ∨ k = 1 ∨ k = 2 := by omega
            rcases hk3_ with rfl | rfl | rfl
            ·have eR : own_go2 cz (([f0, f1].take 0).map fun f => (cz, f)) ([(t2.1, d0), (t4.1, d1), (t6.1, d2)].take n) false = ([(xa0, xb0)] : List (Int32 × Int32)) := by rw [own_split, ep, hF]; rfl
             have IRk := IR7
             rw [eR] at IRk
             exact J562 _ _ _ rs52 er52 kr52 zs52 rm52 ([(xa0, xb0)] : List (Int32 × Int32)) _ _ _ _ cz b56 b57 b12 _ _ _ [xa0, (0 : Int32), (0 : Int32)] [xb0, (0 : Int32), (0 : Int32)] [f0, f1] _ _ _ _ _ _ _ _ _ _ _ _ _ (X7.more (by decide) (by decide)) e7 N7 O7 AR7 IRk rfl (by have q := IRk.len; simp only [List.length_cons, List.length_nil] at q; omega) Va7 Vb7 Vq7 (Or.inr ⟨_, _, rfl, Or.inl ⟨by decide, rfl, rfl, by decide⟩⟩) (Or.inl (by simp)) (Or.inl (by simp)) (Or.inl (by simp)) (Or.inl (by simp))
            ·have eR : own_go2 cz (([f0, f1].take 1).map fun f => (cz, f)) ([(t2.1, d0), (t4.1, d1), (t6.1, d2)].take n) false = ([(xa0, xb0), (cz, f0)] : List (Int32 × Int32)) := by rw [own_split, ep, hF]; rfl
             have IRk := IR7
             rw [eR] at IRk
             exact J562 _ _ _ rs52 er52 kr52 zs52 rm52 ([(xa0, xb0), (cz, f0)] : List (Int32 × Int32)) _ _ _ _ cz b56 b57 b12 _ _ _ [xa0, (0 : Int32), (0 : Int32)] [xb0, (0 : Int32), (0 : Int32)] [f0, f1] _ _ _ _ _ _ _ _ _ _ _ _ _ (X7.more (by decide) (by decide)) e7 N7 O7 AR7 IRk rfl (by have q := IRk.len; simp only [List.length_cons, List.length_nil] at q; omega) Va7 Vb7 Vq7 (Or.inr ⟨_, _, rfl, Or.inl ⟨by decide, rfl, rfl, by decide⟩⟩) (Or.inr ⟨_, _, rfl, Or.inr (Or.inl ⟨by decide, by decide, rfl, 0, by decide, rfl, by decide⟩)⟩) (Or.inl (by simp)) (Or.inl (by simp)) (Or.inl (by simp))
            ·have eR : own_go2 cz (([f0, f1].take 2).map fun f => (cz, f)) ([(t2.1, d0), (t4.1, d1), (t6.1, d2)].take n) false = ([(xa0, xb0), (cz, f0), (cz, f1)] : List (Int32 × Int32)) := by rw [own_split, ep, hF]; rfl
             have IRk := IR7
             rw [eR] at IRk
             exact J562 _ _ _ rs52 er52 kr52 zs52 rm52 ([(xa0, xb0), (cz, f0), (cz, f1)] : List (Int32 × Int32)) _ _ _ _ cz b56 b57 b12 _ _ _ [xa0, (0 : Int32), (0 : Int32)] [xb0, (0 : Int32), (0 : Int32)] [f0, f1] _ _ _ _ _ _ _ _ _ _ _ _ _ (X7.more (by decide) (by decide)) e7 N7 O7 AR7 IRk rfl (by have q := IRk.len; simp only [List.length_cons, List.length_nil] at q; omega) Va7 Vb7 Vq7 (Or.inr ⟨_, _, rfl, Or.inl ⟨by decide, rfl, rfl, by decide⟩⟩) (Or.inr ⟨_, _, rfl, Or.inr (Or.inl ⟨by decide, by decide, rfl, 0, by decide, rfl, by decide⟩)⟩) (Or.inr ⟨_, _, rfl, Or.inr (Or.inl ⟨by decide, by decide, rfl, 1, by decide, rfl, by decide⟩)⟩) (Or.inl (by simp)) (Or.inl (by simp))
           ·refine oi (XS.ifNo X7.here hx rfl (hb hby at_544) rfl ((if0 _ _).trans (feq hb544_63).1)) ?_
            refine so (A := (T7.setTop (mkF m 547 #[l0, l1, l2, l3, vn n, vn k, vi cz, vr b1, vr b8, vr b12, vr lp, vr lv, vr rs52, vi m53.1, vi m54.1, vi m55.1, vr b56, vr b57, vi 1, uu, uu] []))) ?_
            refine oi (XS.iconst X7.here hx rfl (hb hby at_547)) ?_
            refine oi (XS.goto X7.here hx rfl (pc0 := 548) (pc' := 553) rfl (hb hby at_548) (by decide) (by decide)) ?_
            refine oi (XS.istore X7.here hx rfl (hb hby at_553) rfl (l' := #[l0, l1, l2, l3, vn n, vn k, vi cz, vr b1, vr b8, vr b12, vr lp, vr lv, vr rs52, vi m53.1, vi m54.1, vi m55.1, vr b56, vr b57, vi 1, vi 2, uu]) rfl) ?_
            refine oi (XS.iload X7.here hx rfl (hb hby at_555) rfl) ?_
            refine oi (XS.iload X7.here hx rfl (hb hby at_557) rfl) ?_
            refine oi (XS.iadd X7.here hx rfl (hb hby at_559) rfl) ?_
            refine oi (XS.istore X7.here hx rfl (hb hby at_560) rfl (l' := #[l0, l1, l2, l3, vn n, vn k, vi cz, vr b1, vr b8, vr b12, vr lp, vr lv, vr rs52, vi m53.1, vi m54.1, vi m55.1, vr b56, vr b57, vi 1, vi 2, vi ((1 : Int32) + (Int32.ofNat k))]) rfl) ?_
            refine so (A := (T7.setTop (mkF m 562 #[l0, l1, l2, l3, vn n, vn k, vi cz, vr b1, vr b8, vr b12, vr lp, vr lv, vr rs52, vi m53.1, vi m54.1, vi m55.1, vr b56, vr b57, vi 1, vi 2, vi ((1 : Int32) + (Int32.ofNat k))] []))) ?_
            have hF : own_fl cz ([(t2.1, d0), (t4.1, d1), (t6.1, d2)].take n) = ([(xa0, xb0)] : List (Int32 × Int32)) := (own_kp3 hn).symm.trans hK
            have ep : own_pos cz ([(t2.1, d0), (t4.1, d1), (t6.1, d2)].take n) = 2 := own_pos2 (own_m0 m53.2 hb526_61) (own_m0 m54.2 hb535_62) (own_m1 m55.2 hb544_63)
            exfalso
            have q := congrArg List.length hF
            exact own_no2 (own_m0 m53.2 hb526_61) (own_m0 m54.2 hb535_62) (own_m1 m55.2 hb544_63) hF (by simp)
          ·refine oi (XS.ifNo X7.here hx rfl (hb hby at_535) rfl ((if0 _ _).trans (feq hb535_62).1)) ?_
           refine so (A := (T7.setTop (mkF m 538 #[l0, l1, l2, l3, vn n, vn k, vi cz, vr b1, vr b8, vr b12, vr lp, vr lv, vr rs52, vi m53.1, vi m54.1, vi m55.1, vr b56, vr b57, vi 1, uu, uu] []))) ?_
           refine oi (XS.iconst X7.here hx rfl (hb hby at_538)) ?_
           refine oi (XS.goto X7.here hx rfl (pc0 := 539) (pc' := 553) rfl (hb hby at_539) (by decide) (by decide)) ?_
           refine oi (XS.istore X7.here hx rfl (hb hby at_553) rfl (l' := #[l0, l1, l2, l3, vn n, vn k, vi cz, vr b1, vr b8, vr b12, vr lp, vr lv, vr rs52, vi m53.1, vi m54.1, vi m55.1, vr b56, vr b57, vi 1, vi 1, uu]) rfl) ?_
           refine oi (XS.iload X7.here hx rfl (hb hby at_555) rfl) ?_
           refine oi (XS.iload X7.here hx rfl (hb hby at_557) rfl) ?_
           refine oi (XS.iadd X7.here hx rfl (hb hby at_559) rfl) ?_
           refine oi (XS.istore X7.here hx rfl (hb hby at_560) rfl (l' := #[l0, l1, l2, l3, vn n, vn k, vi cz, vr b1, vr b8, vr b12, vr lp, vr lv, vr rs52, vi m53.1, vi m54.1, vi m55.1, vr b56, vr b57, vi 1, vi 1, vi ((1 : Int32) + (Int32.ofNat k))]) rfl) ?_
           refine so (A := (T7.setTop (mkF m 562 #[l0, l1, l2, l3, vn n, vn k, vi cz, vr b1, vr b8, vr b12, vr lp, vr lv, vr rs52, vi m53.1, vi m54.1, vi m55.1, vr b56, vr b57, vi 1, vi 1, vi ((1 : Int32) + (Int32.ofNat k))] []))) ?_
           have hF : own_fl cz ([(t2.1, d0), (t4.1, d1), (t6.1, d2)].take n) = ([(xa0, xb0)] : List (Int32 × Int32)) := (own_kp3 hn).symm.trans hK
           have ep : own_pos cz ([(t2.1, d0), (t4.1, d1), (t6.1, d2)].take n) = 1 := own_pos1 (own_m0 m53.2 hb526_61) (own_m1 m54.2 hb535_62)
           have hk3_ : k = 0 ∨ k = 1 ∨ k = 2 := by omega
           rcases hk3_ with rfl | rfl | rfl
           ·have eR : own_go2 cz (([f0, f1].take 0).map fun f => (cz, f)) ([(t2.1, d0), (t4.1, d1), (t6.1, d2)].take n) false = ([(xa0, xb0)] : List (Int32 × Int32)) := by rw [own_split, ep, hF]; rfl
            have IRk := IR7
            rw [eR] at IRk
            exact J562 _ _ _ rs52 er52 kr52 zs52 rm52 ([(xa0, xb0)] : List (Int32 × Int32)) _ _ _ _ cz b56 b57 b12 _ _ _ [xa0, (0 : Int32), (0 : Int32)] [xb0, (0 : Int32), (0 : Int32)] [f0, f1] _ _ _ _ _ _ _ _ _ _ _ _ _ (X7.more (by decide) (by decide)) e7 N7 O7 AR7 IRk rfl (by have q := IRk.len; simp only [List.length_cons, List.length_nil] at q; omega) Va7 Vb7 Vq7 (Or.inr ⟨_, _, rfl, Or.inl ⟨by decide, rfl, rfl, by decide⟩⟩) (Or.inl (by simp)) (Or.inl (by simp)) (Or.inl (by simp)) (Or.inl (by simp))
           ·have eR : own_go2 cz (([f0, f1].take 1).map fun f => (cz, f)) ([(t2.1, d0), (t4.1, d1), (t6.1, d2)].take n) false = ([(xa0, xb0), (cz, f0)] : List (Int32 × Int32)) := by rw [own_split, ep, hF]; rfl
            have IRk := IR7
            rw [eR] at IRk
            exact J562 _ _ _ rs52 er52 kr52 zs52 rm52 ([(xa0, xb0), (cz, f0)] : List (Int32 × Int32)) _ _ _ _ cz b56 b57 b12 _ _ _ [xa0, (0 : Int32), (0 : Int32)] [xb0, (0 : Int32), (0 : Int32)] [f0, f1] _ _ _ _ _ _ _ _ _ _ _ _ _ (X7.more (by decide) (by decide)) e7 N7 O7 AR7 IRk rfl (by have q := IRk.len; simp only [List.length_cons, List.length_nil] at q; omega) Va7 Vb7 Vq7 (Or.inr ⟨_, _, rfl, Or.inl ⟨by decide, rfl, rfl, by decide⟩⟩) (Or.inr ⟨_, _, rfl, Or.inr (Or.inl ⟨by decide, by decide, rfl, 0, by decide, rfl, by decide⟩)⟩) (Or.inl (by simp)) (Or.inl (by simp)) (Or.inl (by simp))
           ·have eR : own_go2 cz (([f0, f1].take 2).map fun f => (cz, f)) ([(t2.1, d0), (t4.1, d1), (t6.1, d2)].take n) false = ([(xa0, xb0), (cz, f0), (cz, f1)] : List (Int32 × Int32)) := by rw [own_split, ep, hF]; rfl
            have IRk := IR7
            rw [eR] at IRk
            exact J562 _ _ _ rs52 er52 kr52 zs52 rm52 ([(xa0, xb0), (cz, f0), (cz, f1)] : List (Int32 × Int32)) _ _ _ _ cz b56 b57 b12 _ _ _ [xa0, (0 : Int32), (0 : Int32)] [xb0, (0 : Int32), (0 : Int32)] [f0, f1] _ _ _ _ _ _ _ _ _ _ _ _ _ (X7.more (by decide) (by decide)) e7 N7 O7 AR7 IRk rfl (by have q := IRk.len; simp only [List.length_cons, List.length_nil] at q; omega) Va7 Vb7 Vq7 (Or.inr ⟨_, _, rfl, Or.inl ⟨by decide, rfl, rfl, by decide⟩⟩) (Or.inr ⟨_, _, rfl, Or.inr (Or.inl ⟨by decide, by decide, rfl, 0, by decide, rfl, by decide⟩)⟩) (Or.inr ⟨_, _, rfl, Or.inr (Or.inl ⟨by decide, by decide, rfl, 1, by decide, rfl, by decide⟩)⟩) (Or.inl (by simp)) (Or.inl (by simp))
         ·refine oi (XS.ifNo X7.here hx rfl (hb hby at_526) rfl ((if0 _ _).trans (feq hb526_61).1)) ?_
          refine so (A := (T7.setTop (mkF m 529 #[l0, l1, l2, l3, vn n, vn k, vi cz, vr b1, vr b8, vr b12, vr lp, vr lv, vr rs52, vi m53.1, vi m54.1, vi m55.1, vr b56, vr b57, vi 1, uu, uu] []))) ?_
          refine oi (XS.iconst X7.here hx rfl (hb hby at_529)) ?_
          refine oi (XS.goto X7.here hx rfl (pc0 := 530) (pc' := 553) rfl (hb hby at_530) (by decide) (by decide)) ?_
          refine oi (XS.istore X7.here hx rfl (hb hby at_553) rfl (l' := #[l0, l1, l2, l3, vn n, vn k, vi cz, vr b1, vr b8, vr b12, vr lp, vr lv, vr rs52, vi m53.1, vi m54.1, vi m55.1, vr b56, vr b57, vi 1, vz, uu]) rfl) ?_
          refine oi (XS.iload X7.here hx rfl (hb hby at_555) rfl) ?_
          refine oi (XS.iload X7.here hx rfl (hb hby at_557) rfl) ?_
          refine oi (XS.iadd X7.here hx rfl (hb hby at_559) rfl) ?_
          refine oi (XS.istore X7.here hx rfl (hb hby at_560) rfl (l' := #[l0, l1, l2, l3, vn n, vn k, vi cz, vr b1, vr b8, vr b12, vr lp, vr lv, vr rs52, vi m53.1, vi m54.1, vi m55.1, vr b56, vr b57, vi 1, vz, vi ((1 : Int32) + (Int32.ofNat k))]) rfl) ?_
          refine so (A := (T7.setTop (mkF m 562 #[l0, l1, l2, l3, vn n, vn k, vi cz, vr b1, vr b8, vr b12, vr lp, vr lv, vr rs52, vi m53.1, vi m54.1, vi m55.1, vr b56, vr b57, vi 1, vz, vi ((1 : Int32) + (Int32.ofNat k))] []))) ?_
          have hF : own_fl cz ([(t2.1, d0), (t4.1, d1), (t6.1, d2)].take n) = ([(xa0, xb0)] : List (Int32 × Int32)) := (own_kp3 hn).symm.trans hK
          have ep : own_pos cz ([(t2.1, d0), (t4.1, d1), (t6.1, d2)].take n) = 0 := own_pos0 (own_m1 m53.2 hb526_61)
          have hk3_ : k = 0 ∨ k = 1 ∨ k = 2 := by omega
          rcases hk3_ with rfl | rfl | rfl
          ·have eR : own_go2 cz (([f0, f1].take 0).map fun f => (cz, f)) ([(t2.1, d0), (t4.1, d1), (t6.1, d2)].take n) false = ([(xa0, xb0)] : List (Int32 × Int32)) := by rw [own_split, ep, hF]; rfl
           have IRk := IR7
           rw [eR] at IRk
           exact J562 _ _ _ rs52 er52 kr52 zs52 rm52 ([(xa0, xb0)] : List (Int32 × Int32)) _ _ _ _ cz b56 b57 b12 _ _ _ [xa0, (0 : Int32), (0 : Int32)] [xb0, (0 : Int32), (0 : Int32)] [f0, f1] _ _ _ _ _ _ _ _ _ _ _ _ _ (X7.more (by decide) (by decide)) e7 N7 O7 AR7 IRk rfl (by have q := IRk.len; simp only [List.length_cons, List.length_nil] at q; omega) Va7 Vb7 Vq7 (Or.inr ⟨_, _, rfl, Or.inr (Or.inr ⟨by decide, by decide, 0, by decide, rfl, rfl, by decide⟩)⟩) (Or.inl (by simp)) (Or.inl (by simp)) (Or.inl (by simp)) (Or.inl (by simp))
          ·have eR : own_go2 cz (([f0, f1].take 1).map fun f => (cz, f)) ([(t2.1, d0), (t4.1, d1), (t6.1, d2)].take n) false = ([(cz, f0), (xa0, xb0)] : List (Int32 × Int32)) := by rw [own_split, ep, hF]; rfl
           have IRk := IR7
           rw [eR] at IRk
           exact J562 _ _ _ rs52 er52 kr52 zs52 rm52 ([(cz, f0), (xa0, xb0)] : List (Int32 × Int32)) _ _ _ _ cz b56 b57 b12 _ _ _ [xa0, (0 : Int32), (0 : Int32)] [xb0, (0 : Int32), (0 : Int32)] [f0, f1] _ _ _ _ _ _ _ _ _ _ _ _ _ (X7.more (by decide) (by decide)) e7 N7 O7 AR7 IRk rfl (by have q := IRk.len; simp only [List.length_cons, List.length_nil] at q; omega) Va7 Vb7 Vq7 (Or.inr ⟨_, _, rfl, Or.inr (Or.inl ⟨by decide, by decide, rfl, 0, by decide, rfl, by decide⟩)⟩) (Or.inr ⟨_, _, rfl, Or.inr (Or.inr ⟨by decide, by decide, 0, by decide, rfl, rfl, by decide⟩)⟩) (Or.inl (by simp)) (Or.inl (by simp)) (Or.inl (by simp))
          ·have eR : own_go2 cz (([f0, f1].take 2).map fun f => (cz, f)) ([(t2.1, d0), (t4.1, d1), (t6.1, d2)].take n) false = ([(cz, f0), (cz, f1), (xa0, xb0)] : List (Int32 × Int32)) := by rw [own_split, ep, hF]; rfl
           have IRk := IR7
           rw [eR] at IRk
           exact J562 _ _ _ rs52 er52 kr52 zs52 rm52 ([(cz, f0), (cz, f1), (xa0, xb0)] : List (Int32 × Int32)) _ _ _ _ cz b56 b57 b12 _ _ _ [xa0, (0 : Int32), (0 : Int32)] [xb0, (0 : Int32), (0 : Int32)] [f0, f1] _ _ _ _ _ _ _ _ _ _ _ _ _ (X7.more (by decide) (by decide)) e7 N7 O7 AR7 IRk rfl (by have q := IRk.len; simp only [List.length_cons, List.length_nil] at q; omega) Va7 Vb7 Vq7 (Or.inr ⟨_, _, rfl, Or.inr (Or.inl ⟨by decide, by decide, rfl, 0, by decide, rfl, by decide⟩)⟩) (Or.inr ⟨_, _, rfl, Or.inr (Or.inl ⟨by decide, by decide, rfl, 1, by decide, rfl, by decide⟩)⟩) (Or.inr ⟨_, _, rfl, Or.inr (Or.inr ⟨by decide, by decide, 0, by decide, rfl, rfl, by decide⟩)⟩) (Or.inl (by simp)) (Or.inl (by simp))
        have mid_3_2 : ∀ (H7 : Heap) (T7 : State) (ls7 : List Loc) (xa0 xb0 xa1 xb1 : Int32), (Stand p l e room_1 s m #[.int p1, .int p2, .int p3, .int p4] below meth c T7 ls7 64 311) → (T7.heap = H7) → (Fr n0 ls7) → (Old Z n0 H7) → (T52.heap.size ≤ H7.size) → (own_al Z H7 dq n0 rs52 er52 kr52 zs52 rm52) → (own_its Z H7 T52.heap.size zs52 (own_go2 cz (([f0, f1].take k).map fun f => (cz, f)) ([(t2.1, d0), (t4.1, d1), (t6.1, d2)].take n) false)) → (Arv Z H7 b1 k1 .char (3 : Int32) [(.int t2.1), (.int t4.1), (.int t6.1)] (.int 0)) → (Arv Z H7 b8 k8 .char (3 : Int32) [(.int d0), (.int d1), (.int d2)] (.int 0)) → (Arv Z H7 b12 k12 .char (2 : Int32) [(.int f0), (.int f1)] (.int 0)) → (Arv Z H7 b56 k56 .char (3 : Int32) [(.int xa0), (.int xa1), (.int 0)] (.int 0)) → (Arv Z H7 b57 k57 .char (3 : Int32) [(.int xb0), (.int xb1), (.int 0)] (.int 0)) → (own_kept cz [(t2.1, d0), (t4.1, d1), (t6.1, d2)] n 3 = ([(xa0, xb0), (xa1, xb1)] : List (Int32 × Int32))) → own_go p e below s (Q_rm0 Z p1 p2 p3 p4 dq kd mr Gc h0 n0) room_1.cells room_1.slots (T7.setTop (mkF m 524 #[l0, l1, l2, l3, vn n, vn k, vi cz, vr b1, vr b8, vr b12, vr lp, vr lv, vr rs52, vi m53.1, vi m54.1, vi m55.1, vr b56, vr b57, vi 2, uu, uu] [])) := by
         intro H7 T7 ls7 xa0 xb0 xa1 xb1 X7 e7 N7 O7 hs7 AR7 IR7 Vp7 Vv7 Vq7 Va7 Vb7 hK
         refine so (A := (T7.setTop (mkF m 524 #[l0, l1, l2, l3, vn n, vn k, vi cz, vr b1, vr b8, vr b12, vr lp, vr lv, vr rs52, vi m53.1, vi m54.1, vi m55.1, vr b56, vr b57, vi 2, uu, uu] []))) ?_
         refine oi (XS.iload X7.here hx rfl (hb hby at_524) rfl) ?_
         by_cases hb526_64 : m53.1 = (0 : Int32)
         ·refine oi (XS.ifYes X7.here hx rfl (pc0 := 526) (pc' := 533) rfl (hb hby at_526) rfl ((if0 _ _).trans (teq hb526_64).1) (by decide) (by decide)) ?_
          refine so (A := (T7.setTop (mkF m 533 #[l0, l1, l2, l3, vn n, vn k, vi cz, vr b1, vr b8, vr b12, vr lp, vr lv, vr rs52, vi m53.1, vi m54.1, vi m55.1, vr b56, vr b57, vi 2, uu, uu] []))) ?_
          refine oi (XS.iload X7.here hx rfl (hb hby at_533) rfl) ?_
          by_cases hb535_65 : m54.1 = (0 : Int32)
          ·refine oi (XS.ifYes X7.here hx rfl (pc0 := 535) (pc' := 542) rfl (hb hby at_535) rfl ((if0 _ _).trans (teq hb535_65).1) (by decide) (by decide)) ?_
           refine so (A := (T7.setTop (mkF m 542 #[l0, l1, l2, l3, vn n, vn k, vi cz, vr b1, vr b8, vr b12, vr lp, vr lv, vr rs52, vi m53.1, vi m54.1, vi m55.1, vr b56, vr b57, vi 2, uu, uu] []))) ?_
           refine oi (XS.iload X7.here hx rfl (hb hby at_542) rfl) ?_
           by_cases hb544_66 : m55.1 = (0 : Int32)
           ·refine oi (XS.ifYes X7.here hx rfl (pc0 := 544) (pc' := 551) rfl (hb hby at_544) rfl ((if0 _ _).trans (teq hb544_66).1) (by decide) (by decide)) ?_
            refine so (A := (T7.setTop (mkF m 551 #[l0, l1, l2, l3, vn n, vn k, vi cz, vr b1, vr b8, vr b12, vr lp, vr lv, vr rs52, vi m53.1, vi m54.1, vi m55.1, vr b56, vr b57, vi 2, uu, uu] []))) ?_
            refine oi (XS.iload X7.here hx rfl (hb hby at_551) rfl) ?_
            refine oi (XS.istore X7.here hx rfl (hb hby at_553) rfl (l' := #[l0, l1, l2, l3, vn n, vn k, vi cz, vr b1, vr b8, vr b12, vr lp, vr lv, vr rs52, vi m53.1, vi m54.1, vi m55.1, vr b56, vr b57, vi 2, vi 2, uu]) rfl) ?_
            refine oi (XS.iload X7.here hx rfl (hb hby at_555) rfl) ?_
            refine oi (XS.iload X7.here hx rfl (hb hby at_557) rfl) ?_
            refine oi (XS.iadd X7.here hx rfl (hb hby at_559) rfl) ?_
            refine oi (XS.istore X7.here hx rfl (hb hby at_560) rfl (l' := #[l0, l1, l2, l3, vn n, vn k, vi cz, vr b1, vr b8, vr b12, vr lp, vr lv, vr rs52, vi m53.1, vi m54.1, vi m55.1, vr b56, vr b57, vi 2, vi 2, vi ((2 : Int32) + (Int32.ofNat k))]) rfl) ?_
            refine so (A := (T7.setTop (mkF m 562 #[l0, l1, l2, l3, vn n, vn k, vi cz, vr b1, vr b8, vr b12, vr lp, vr lv, vr rs52, vi m53.1, vi m54.1, vi m55.1, vr b56, vr b57, vi 2, vi 2, vi ((2 : Int32) + (Int32.ofNat k))] []))) ?_
            have hF : own_fl cz ([(t2.1, d0), (t4.1, d1), (t6.1, d2)].take n) = ([(xa0, xb0), (xa1, xb1)] : List (Int32 × Int32)) := (own_kp3 hn).symm.trans hK
            have ep : own_pos cz ([(t2.1, d0), (t4.1, d1), (t6.1, d2)].take n) = 2 := own_pos3 hn (own_m0 m53.2 hb526_64) (own_m0 m54.2 hb535_65) (own_m0 m55.2 hb544_66) hF
            have hk3_ : k = 0 ∨ k = 1 ∨ k = 2 := by omega
            rcases hk3_ with rfl | rfl | rfl
            ·have eR : own_go2 cz (([f0, f1].take 0).map fun f => (cz, f)) ([(t2.1, d0), (t4.1, d1), (t6.1, d2)].take n) false = ([(xa0, xb0), (xa1, xb1)] : List (Int32 × Int32)) := by rw [own_split, ep, hF]; rfl
             have IRk := IR7
             rw [eR] at IRk
             exact J562 _ _ _ rs52 er52 kr52 zs52 rm52 ([(xa0, xb0), (xa1, xb1)] : List (Int32 × Int32)) _ _ _ _ cz b56 b57 b12 _ _ _ [xa0, xa1, (0 : Int32)] [xb0, xb1, (0 : Int32)] [f0, f1] _ _ _ _ _ _ _ _ _ _ _ _ _ (X7.more (by decide) (by decide)) e7 N7 O7 AR7 IRk rfl (by have q := IRk.len; simp only [List.length_cons, List.length_nil] at q; omega) Va7 Vb7 Vq7 (Or.inr ⟨_, _, rfl, Or.inl ⟨by decide, rfl, rfl, by decide⟩⟩) (Or.inr ⟨_, _, rfl, Or.inl ⟨by decide, rfl, rfl, by decide⟩⟩) (Or.inl (by simp)) (Or.inl (by simp)) (Or.inl (by simp))
            ·have eR : own_go2 cz (([f0, f1].take 1).map fun f => (cz, f)) ([(t2.1, d0), (t4.1, d1), (t6.1, d2)].take n) false = ([(xa0, xb0), (xa1, xb1), (cz, f0)] : List (Int32 × Int32)) := by rw [own_split, ep, hF]; rfl
             have IRk := IR7
             rw [eR] at IRk
             exact J562 _ _ _ rs52 er52 kr52 zs52 rm52 ([(xa0, xb0), (xa1, xb1), (cz, f0)] : List (Int32 × Int32)) _ _ _ _ cz b56 b57 b12 _ _ _ [xa0, xa1, (0 : Int32)] [xb0, xb1, (0 : Int32)] [f0, f1] _ _ _ _ _ _ _ _ _ _ _ _ _ (X7.more (by decide) (by decide)) e7 N7 O7 AR7 IRk rfl (by have q := IRk.len; simp only [List.length_cons, List.length_nil] at q; omega) Va7 Vb7 Vq7 (Or.inr ⟨_, _, rfl, Or.inl ⟨by decide, rfl, rfl, by decide⟩⟩) (Or.inr ⟨_, _, rfl, Or.inl ⟨by decide, rfl, rfl, by decide⟩⟩) (Or.inr ⟨_, _, rfl, Or.inr (Or.inl ⟨by decide, by decide, rfl, 0, by decide, rfl, by decide⟩)⟩) (Or.inl (by simp)) (Or.inl (by simp))
            ·have eR : own_go2 cz (([f0, f1].take 2).map fun f => (cz, f)) ([(t2.1, d0), (t4.1, d1), (t6.1, d2)].take n) false = ([(xa0, xb0), (xa1, xb1), (cz, f0), (cz, f1)] : List (Int32 × Int32)) := by rw [own_split, ep, hF]; rfl
             have IRk := IR7
             rw [eR] at IRk
             exact J562 _ _ _ rs52 er52 kr52 zs52 rm52 ([(xa0, xb0), (xa1, xb1), (cz, f0), (cz, f1)] : List (Int32 × Int32)) _ _ _ _ cz b56 b57 b12 _ _ _ [xa0, xa1, (0 : Int32)] [xb0, xb1, (0 : Int32)] [f0, f1] _ _ _ _ _ _ _ _ _ _ _ _ _ (X7.more (by decide) (by decide)) e7 N7 O7 AR7 IRk rfl (by have q := IRk.len; simp only [List.length_cons, List.length_nil] at q; omega) Va7 Vb7 Vq7 (Or.inr ⟨_, _, rfl, Or.inl ⟨by decide, rfl, rfl, by decide⟩⟩) (Or.inr ⟨_, _, rfl, Or.inl ⟨by decide, rfl, rfl, by decide⟩⟩) (Or.inr ⟨_, _, rfl, Or.inr (Or.inl ⟨by decide, by decide, rfl, 0, by decide, rfl, by decide⟩)⟩) (Or.inr ⟨_, _, rfl, Or.inr (Or.inl ⟨by decide, by decide, rfl, 1, by decide, rfl, by decide⟩)⟩) (Or.inl (by simp))
           ·refine oi (XS.ifNo X7.here hx rfl (hb hby at_544) rfl ((if0 _ _).trans (feq hb544_66).1)) ?_
            refine so (A := (T7.setTop (mkF m 547 #[l0, l1, l2, l3, vn n, vn k, vi cz, vr b1, vr b8, vr b12, vr lp, vr lv, vr rs52, vi m53.1, vi m54.1, vi m55.1, vr b56, vr b57, vi 2, uu, uu] []))) ?_
            refine oi (XS.iconst X7.here hx rfl (hb hby at_547)) ?_
            refine oi (XS.goto X7.here hx rfl (pc0 := 548) (pc' := 553) rfl (hb hby at_548) (by decide) (by decide)) ?_
            refine oi (XS.istore X7.here hx rfl (hb hby at_553) rfl (l' := #[l0, l1, l2, l3, vn n, vn k, vi cz, vr b1, vr b8, vr b12, vr lp, vr lv, vr rs52, vi m53.1, vi m54.1, vi m55.1, vr b56, vr b57, vi 2, vi 2, uu]) rfl) ?_
            refine oi (XS.iload X7.here hx rfl (hb hby at_555) rfl) ?_
            refine oi (XS.iload X7.here hx rfl (hb hby at_557) rfl) ?_
            refine oi (XS.iadd X7.here hx rfl (hb hby at_559) rfl) ?_
            refine oi (XS.istore X7.here hx rfl (hb hby at_560) rfl (l' := #[l0, l1, l2, l3, vn n, vn k, vi cz, vr b1, vr b8, vr b12, vr lp, vr lv, vr rs52, vi m53.1, vi m54.1, vi m55.1, vr b56, vr b57, vi 2, vi 2, vi ((2 : Int32) + (Int32.ofNat k))]) rfl) ?_
            refine so (A := (T7.setTop (mkF m 562 #[l0, l1, l2, l3, vn n, vn k, vi cz, vr b1, vr b8, vr b12, vr lp, vr lv, vr rs52, vi m53.1, vi m54.1, vi m55.1, vr b56, vr b57, vi 2, vi 2, vi ((2 : Int32) + (Int32.ofNat k))] []))) ?_
            have hF : own_fl cz ([(t2.1, d0), (t4.1, d1), (t6.1, d2)].take n) = ([(xa0, xb0), (xa1, xb1)] : List (Int32 × Int32)) := (own_kp3 hn).symm.trans hK
            have ep : own_pos cz ([(t2.1, d0), (t4.1, d1), (t6.1, d2)].take n) = 2 := own_pos2 (own_m0 m53.2 hb526_64) (own_m0 m54.2 hb535_65) (own_m1 m55.2 hb544_66)
            have hk3_ : k = 0 ∨ k = 1 ∨ k = 2 := by omega
            rcases hk3_ with rfl | rfl | rfl
            ·have eR : own_go2 cz (([f0, f1].take 0).map fun f => (cz, f)) ([(t2.1, d0), (t4.1, d1), (t6.1, d2)].take n) false = ([(xa0, xb0), (xa1, xb1)] : List (Int32 × Int32)) := by rw [own_split, ep, hF]; rfl
             have IRk := IR7
             rw [eR] at IRk
             exact J562 _ _ _ rs52 er52 kr52 zs52 rm52 ([(xa0, xb0), (xa1, xb1)] : List (Int32 × Int32)) _ _ _ _ cz b56 b57 b12 _ _ _ [xa0, xa1, (0 : Int32)] [xb0, xb1, (0 : Int32)] [f0, f1] _ _ _ _ _ _ _ _ _ _ _ _ _ (X7.more (by decide) (by decide)) e7 N7 O7 AR7 IRk rfl (by have q := IRk.len; simp only [List.length_cons, List.length_nil] at q; omega) Va7 Vb7 Vq7 (Or.inr ⟨_, _, rfl, Or.inl ⟨by decide, rfl, rfl, by decide⟩⟩) (Or.inr ⟨_, _, rfl, Or.inl ⟨by decide, rfl, rfl, by decide⟩⟩) (Or.inl (by simp)) (Or.inl (by simp)) (Or.inl (by simp))
            ·have eR : own_go2 cz (([f0, f1].take 1).map fun f => (cz, f)) ([(t2.1, d0), (t4.1, d1), (t6.1, d2)].take n) false = ([(xa0, xb0), (xa1, xb1), (cz, f0)] : List (Int32 × Int32)) := by rw [own_split, ep, hF]; rfl
             have IRk := IR7
             rw [eR] at IRk
             exact J562 _ _ _ rs52 er52 kr52 zs52 rm52 ([(xa0, xb0), (xa1, xb1), (cz, f0)] : List (Int32 × Int32)) _ _ _ _ cz b56 b57 b12 _ _ _ [xa0, xa1, (0 : Int32)] [xb0, xb1, (0 : Int32)] [f0, f1] _ _ _ _ _ _ _ _ _ _ _ _ _ (X7.more (by decide) (by decide)) e7 N7 O7 AR7 IRk rfl (by have q := IRk.len; simp only [List.length_cons, List.length_nil] at q; omega) Va7 Vb7 Vq7 (Or.inr ⟨_, _, rfl, Or.inl ⟨by decide, rfl, rfl, by decide⟩⟩) (Or.inr ⟨_, _, rfl, Or.inl ⟨by decide, rfl, rfl, by decide⟩⟩) (Or.inr ⟨_, _, rfl, Or.inr (Or.inl ⟨by decide, by decide, rfl, 0, by decide, rfl, by decide⟩)⟩) (Or.inl (by simp)) (Or.inl (by simp))
            ·have eR : own_go2 cz (([f0, f1].take 2).map fun f => (cz, f)) ([(t2.1, d0), (t4.1, d1), (t6.1, d2)].take n) false = ([(xa0, xb0), (xa1, xb1), (cz, f0), (cz, f1)] : List (Int32 × Int32)) := by rw [own_split, ep, hF]; rfl
             have IRk := IR7
             rw [eR] at IRk
             exact J562 _ _ _ rs52 er52 kr52 zs52 rm52 ([(xa0, xb0), (xa1, xb1), (cz, f0), (cz, f1)] : List (Int32 × Int32)) _ _ _ _ cz b56 b57 b12 _ _ _ [xa0, xa1, (0 : Int32)] [xb0, xb1, (0 : Int32)] [f0, f1] _ _ _ _ _ _ _ _ _ _ _ _ _ (X7.more (by decide) (by decide)) e7 N7 O7 AR7 IRk rfl (by have q := IRk.len; simp only [List.length_cons, List.length_nil] at q; omega) Va7 Vb7 Vq7 (Or.inr ⟨_, _, rfl, Or.inl ⟨by decide, rfl, rfl, by decide⟩⟩) (Or.inr ⟨_, _, rfl, Or.inl ⟨by decide, rfl, rfl, by decide⟩⟩) (Or.inr ⟨_, _, rfl, Or.inr (Or.inl ⟨by decide, by decide, rfl, 0, by decide, rfl, by decide⟩)⟩) (Or.inr ⟨_, _, rfl, Or.inr (Or.inl ⟨by decide, by decide, rfl, 1, by decide, rfl, by decide⟩)⟩) (Or.inl (by simp))
          ·refine oi (XS.ifNo X7.here hx rfl (hb hby at_535) rfl ((if0 _ _).trans (feq hb535_65).1)) ?_
           refine so (A := (T7.setTop (mkF m 538 #[l0, l1, l2, l3, vn n, vn k, vi cz, vr b1, vr b8, vr b12, vr lp, vr lv, vr rs52, vi m53.1, vi m54.1, vi m55.1, vr b56, vr b57, vi 2, uu, uu] []))) ?_
           refine oi (XS.iconst X7.here hx rfl (hb hby at_538)) ?_
           refine oi (XS.goto X7.here hx rfl (pc0 := 539) (pc' := 553) rfl (hb hby at_539) (by decide) (by decide)) ?_
           refine oi (XS.istore X7.here hx rfl (hb hby at_553) rfl (l' := #[l0, l1, l2, l3, vn n, vn k, vi cz, vr b1, vr b8, vr b12, vr lp, vr lv, vr rs52, vi m53.1, vi m54.1, vi m55.1, vr b56, vr b57, vi 2, vi 1, uu]) rfl) ?_
           refine oi (XS.iload X7.here hx rfl (hb hby at_555) rfl) ?_
           refine oi (XS.iload X7.here hx rfl (hb hby at_557) rfl) ?_
           refine oi (XS.iadd X7.here hx rfl (hb hby at_559) rfl) ?_
           refine oi (XS.istore X7.here hx rfl (hb hby at_560) rfl (l' := #[l0, l1, l2, l3, vn n, vn k, vi cz, vr b1, vr b8, vr b12, vr lp, vr lv, vr rs52, vi m53.1, vi m54.1, vi m55.1, vr b56, vr b57, vi 2, vi 1, vi ((2 : Int32) + (Int32.ofNat k))]) rfl) ?_
           refine so (A := (T7.setTop (mkF m 562 #[l0, l1, l2, l3, vn n, vn k, vi cz, vr b1, vr b8, vr b12, vr lp, vr lv, vr rs52, vi m53.1, vi m54.1, vi m55.1, vr b56, vr b57, vi 2, vi 1, vi ((2 : Int32) + (Int32.ofNat k))] []))) ?_
           have hF : own_fl cz ([(t2.1, d0), (t4.1, d1), (t6.1, d2)].take n) = ([(xa0, xb0), (xa1, xb1)] : List (Int32 × Int32)) := (own_kp3 hn).symm.trans hK
           have ep : own_pos cz ([(t2.1, d0), (t4.1, d1), (t6.1, d2)].take n) = 1 := own_pos1 (own_m0 m53.2 hb526_64) (own_m1 m54.2 hb535_65)
           have hk3_ : k = 0 ∨ k = 1 ∨ k = 2 := by omega
           rcases hk3_ with rfl | rfl | rfl
           ·have eR : own_go2 cz (([f0, f1].take 0).map fun f => (cz, f)) ([(t2.1, d0), (t4.1, d1), (t6.1, d2)].take n) false = ([(xa0, xb0), (xa1, xb1)] : List (Int32 × Int32)) := by rw [own_split, ep, hF]; rfl
            have IRk := IR7
            rw [eR] at IRk
            exact J562 _ _ _ rs52 er52 kr52 zs52 rm52 ([(xa0, xb0), (xa1, xb1)] : List (Int32 × Int32)) _ _ _ _ cz b56 b57 b12 _ _ _ [xa0, xa1, (0 : Int32)] [xb0, xb1, (0 : Int32)] [f0, f1] _ _ _ _ _ _ _ _ _ _ _ _ _ (X7.more (by decide) (by decide)) e7 N7 O7 AR7 IRk rfl (by have q := IRk.len; simp only [List.length_cons, List.length_nil] at q; omega) Va7 Vb7 Vq7 (Or.inr ⟨_, _, rfl, Or.inl ⟨by decide, rfl, rfl, by decide⟩⟩) (Or.inr ⟨_, _, rfl, Or.inr (Or.inr ⟨by decide, by decide, 1, by decide, rfl, rfl, by decide⟩)⟩) (Or.inl (by simp)) (Or.inl (by simp)) (Or.inl (by simp))
           ·have eR : own_go2 cz (([f0, f1].take 1).map fun f => (cz, f)) ([(t2.1, d0), (t4.1, d1), (t6.1, d2)].take n) false = ([(xa0, xb0), (cz, f0), (xa1, xb1)] : List (Int32 × Int32)) := by rw [own_split, ep, hF]; rfl
            have IRk := IR7
            rw [eR] at IRk
            exact J562 _ _ _ rs52 er52 kr52 zs52 rm52 ([(xa0, xb0), (cz, f0), (xa1, xb1)] : List (Int32 × Int32)) _ _ _ _ cz b56 b57 b12 _ _ _ [xa0, xa1, (0 : Int32)] [xb0, xb1, (0 : Int32)] [f0, f1] _ _ _ _ _ _ _ _ _ _ _ _ _ (X7.more (by decide) (by decide)) e7 N7 O7 AR7 IRk rfl (by have q := IRk.len; simp only [List.length_cons, List.length_nil] at q; omega) Va7 Vb7 Vq7 (Or.inr ⟨_, _, rfl, Or.inl ⟨by decide, rfl, rfl, by decide⟩⟩) (Or.inr ⟨_, _, rfl, Or.inr (Or.inl ⟨by decide, by decide, rfl, 0, by decide, rfl, by decide⟩)⟩) (Or.inr ⟨_, _, rfl, Or.inr (Or.inr ⟨by decide, by decide, 1, by decide, rfl, rfl, by decide⟩)⟩) (Or.inl (by simp)) (Or.inl (by simp))
           ·have eR : own_go2 cz (([f0, f1].take 2).map fun f => (cz, f)) ([(t2.1, d0), (t4.1, d1), (t6.1, d2)].take n) false = ([(xa0, xb0), (cz, f0), (cz, f1), (xa1, xb1)] : List (Int32 × Int32)) := by rw [own_split, ep, hF]; rfl
            have IRk := IR7
            rw [eR] at IRk
            exact J562 _ _ _ rs52 er52 kr52 zs52 rm52 ([(xa0, xb0), (cz, f0), (cz, f1), (xa1, xb1)] : List (Int32 × Int32)) _ _ _ _ cz b56 b57 b12 _ _ _ [xa0, xa1, (0 : Int32)] [xb0, xb1, (0 : Int32)] [f0, f1] _ _ _ _ _ _ _ _ _ _ _ _ _ (X7.more (by decide) (by decide)) e7 N7 O7 AR7 IRk rfl (by have q := IRk.len; simp only [List.length_cons, List.length_nil] at q; omega) Va7 Vb7 Vq7 (Or.inr ⟨_, _, rfl, Or.inl ⟨by decide, rfl, rfl, by decide⟩⟩) (Or.inr ⟨_, _, rfl, Or.inr (Or.inl ⟨by decide, by decide, rfl, 0, by decide, rfl, by decide⟩)⟩) (Or.inr ⟨_, _, rfl, Or.inr (Or.inl ⟨by decide, by decide, rfl, 1, by decide, rfl, by decide⟩)⟩) (Or.inr ⟨_, _, rfl, Or.inr (Or.inr ⟨by decide, by decide, 1, by decide, rfl, rfl, by decide⟩)⟩) (Or.inl (by simp))
         ·refine oi (XS.ifNo X7.here hx rfl (hb hby at_526) rfl ((if0 _ _).trans (feq hb526_64).1)) ?_
          refine so (A := (T7.setTop (mkF m 529 #[l0, l1, l2, l3, vn n, vn k, vi cz, vr b1, vr b8, vr b12, vr lp, vr lv, vr rs52, vi m53.1, vi m54.1, vi m55.1, vr b56, vr b57, vi 2, uu, uu] []))) ?_
          refine oi (XS.iconst X7.here hx rfl (hb hby at_529)) ?_
          refine oi (XS.goto X7.here hx rfl (pc0 := 530) (pc' := 553) rfl (hb hby at_530) (by decide) (by decide)) ?_
          refine oi (XS.istore X7.here hx rfl (hb hby at_553) rfl (l' := #[l0, l1, l2, l3, vn n, vn k, vi cz, vr b1, vr b8, vr b12, vr lp, vr lv, vr rs52, vi m53.1, vi m54.1, vi m55.1, vr b56, vr b57, vi 2, vz, uu]) rfl) ?_
          refine oi (XS.iload X7.here hx rfl (hb hby at_555) rfl) ?_
          refine oi (XS.iload X7.here hx rfl (hb hby at_557) rfl) ?_
          refine oi (XS.iadd X7.here hx rfl (hb hby at_559) rfl) ?_
          refine oi (XS.istore X7.here hx rfl (hb hby at_560) rfl (l' := #[l0, l1, l2, l3, vn n, vn k, vi cz, vr b1, vr b8, vr b12, vr lp, vr lv, vr rs52, vi m53.1, vi m54.1, vi m55.1, vr b56, vr b57, vi 2, vz, vi ((2 : Int32) + (Int32.ofNat k))]) rfl) ?_
          refine so (A := (T7.setTop (mkF m 562 #[l0, l1, l2, l3, vn n, vn k, vi cz, vr b1, vr b8, vr b12, vr lp, vr lv, vr rs52, vi m53.1, vi m54.1, vi m55.1, vr b56, vr b57, vi 2, vz, vi ((2 : Int32) + (Int32.ofNat k))] []))) ?_
          have hF : own_fl cz ([(t2.1, d0), (t4.1, d1), (t6.1, d2)].take n) = ([(xa0, xb0), (xa1, xb1)] : List (Int32 × Int32)) := (own_kp3 hn).symm.trans hK
          have ep : own_pos cz ([(t2.1, d0), (t4.1, d1), (t6.1, d2)].take n) = 0 := own_pos0 (own_m1 m53.2 hb526_64)
          have hk3_ : k = 0 ∨ k = 1 ∨ k = 2 := by omega
          rcases hk3_ with rfl | rfl | rfl
          ·have eR : own_go2 cz (([f0, f1].take 0).map fun f => (cz, f)) ([(t2.1, d0), (t4.1, d1), (t6.1, d2)].take n) false = ([(xa0, xb0), (xa1, xb1)] : List (Int32 × Int32)) := by rw [own_split, ep, hF]; rfl
           have IRk := IR7
           rw [eR] at IRk
           exact J562 _ _ _ rs52 er52 kr52 zs52 rm52 ([(xa0, xb0), (xa1, xb1)] : List (Int32 × Int32)) _ _ _ _ cz b56 b57 b12 _ _ _ [xa0, xa1, (0 : Int32)] [xb0, xb1, (0 : Int32)] [f0, f1] _ _ _ _ _ _ _ _ _ _ _ _ _ (X7.more (by decide) (by decide)) e7 N7 O7 AR7 IRk rfl (by have q := IRk.len; simp only [List.length_cons, List.length_nil] at q; omega) Va7 Vb7 Vq7 (Or.inr ⟨_, _, rfl, Or.inr (Or.inr ⟨by decide, by decide, 0, by decide, rfl, rfl, by decide⟩)⟩) (Or.inr ⟨_, _, rfl, Or.inr (Or.inr ⟨by decide, by decide, 1, by decide, rfl, rfl, by decide⟩)⟩) (Or.inl (by simp)) (Or.inl (by simp)) (Or.inl (by simp))
          ·have eR : own_go2 cz (([f0, f1].take 1).map fun f => (cz, f)) ([(t2.1, d0), (t4.1, d1), (t6.1, d2)].take n) false = ([(cz, f0), (xa0, xb0), (xa1, xb1)] : List (Int32 × Int32)) := by rw [own_split, ep, hF]; rfl
           have IRk := IR7
           rw [eR] at IRk
           exact J562 _ _ _ rs52 er52 kr52 zs52 rm52 ([(cz, f0), (xa0, xb0), (xa1, xb1)] : List (Int32 × Int32)) _ _ _ _ cz b56 b57 b12 _ _ _ [xa0, xa1, (0 : Int32)] [xb0, xb1, (0 : Int32)] [f0, f1] _ _ _ _ _ _ _ _ _ _ _ _ _ (X7.more (by decide) (by decide)) e7 N7 O7 AR7 IRk rfl (by have q := IRk.len; simp only [List.length_cons, List.length_nil] at q; omega) Va7 Vb7 Vq7 (Or.inr ⟨_, _, rfl, Or.inr (Or.inl ⟨by decide, by decide, rfl, 0, by decide, rfl, by decide⟩)⟩) (Or.inr ⟨_, _, rfl, Or.inr (Or.inr ⟨by decide, by decide, 0, by decide, rfl, rfl, by decide⟩)⟩) (Or.inr ⟨_, _, rfl, Or.inr (Or.inr ⟨by decide, by decide, 1, by decide, rfl, rfl, by decide⟩)⟩) (Or.inl (by simp)) (Or.inl (by simp))
          ·have eR : own_go2 cz (([f0, f1].take 2).map fun f => (cz, f)) ([(t2.1, d0), (t4.1, d1), (t6.1, d2)].take n) false = ([(cz, f0), (cz, f1), (xa0, xb0), (xa1, xb1)] : List (Int32 × Int32)) := by rw [own_split, ep, hF]; rfl
           have IRk := IR7
           rw [eR] at IRk
           exact J562 _ _ _ rs52 er52 kr52 zs52 rm52 ([(cz, f0), (cz, f1), (xa0, xb0), (xa1, xb1)] : List (Int32 × Int32)) _ _ _ _ cz b56 b57 b12 _ _ _ [xa0, xa1, (0 : Int32)] [xb0, xb1, (0 : Int32)] [f0, f1] _ _ _ _ _ _ _ _ _ _ _ _ _ (X7.more (by decide) (by decide)) e7 N7 O7 AR7 IRk rfl (by have q := IRk.len; simp only [List.length_cons, List.length_nil] at q; omega) Va7 Vb7 Vq7 (Or.inr ⟨_, _, rfl, Or.inr (Or.inl ⟨by decide, by decide, rfl, 0, by decide, rfl, by decide⟩)⟩) (Or.inr ⟨_, _, rfl, Or.inr (Or.inl ⟨by decide, by decide, rfl, 1, by decide, rfl, by decide⟩)⟩) (Or.inr ⟨_, _, rfl, Or.inr (Or.inr ⟨by decide, by decide, 0, by decide, rfl, rfl, by decide⟩)⟩) (Or.inr ⟨_, _, rfl, Or.inr (Or.inr ⟨by decide, by decide, 1, by decide, rfl, rfl, by decide⟩)⟩) (Or.inl (by simp))
        have mid_3_3 : ∀ (H7 : Heap) (T7 : State) (ls7 : List Loc) (xa0 xb0 xa1 xb1 xa2 xb2 : Int32), (Stand p l e room_1 s m #[.int p1, .int p2, .int p3, .int p4] below meth c T7 ls7 64 311) → (T7.heap = H7) → (Fr n0 ls7) → (Old Z n0 H7) → (T52.heap.size ≤ H7.size) → (own_al Z H7 dq n0 rs52 er52 kr52 zs52 rm52) → (own_its Z H7 T52.heap.size zs52 (own_go2 cz (([f0, f1].take k).map fun f => (cz, f)) ([(t2.1, d0), (t4.1, d1), (t6.1, d2)].take n) false)) → (Arv Z H7 b1 k1 .char (3 : Int32) [(.int t2.1), (.int t4.1), (.int t6.1)] (.int 0)) → (Arv Z H7 b8 k8 .char (3 : Int32) [(.int d0), (.int d1), (.int d2)] (.int 0)) → (Arv Z H7 b12 k12 .char (2 : Int32) [(.int f0), (.int f1)] (.int 0)) → (Arv Z H7 b56 k56 .char (3 : Int32) [(.int xa0), (.int xa1), (.int xa2)] (.int 0)) → (Arv Z H7 b57 k57 .char (3 : Int32) [(.int xb0), (.int xb1), (.int xb2)] (.int 0)) → (own_kept cz [(t2.1, d0), (t4.1, d1), (t6.1, d2)] n 3 = ([(xa0, xb0), (xa1, xb1), (xa2, xb2)] : List (Int32 × Int32))) → own_go p e below s (Q_rm0 Z p1 p2 p3 p4 dq kd mr Gc h0 n0) room_1.cells room_1.slots (T7.setTop (mkF m 524 #[l0, l1, l2, l3, vn n, vn k, vi cz, vr b1, vr b8, vr b12, vr lp, vr lv, vr rs52, vi m53.1, vi m54.1, vi m55.1, vr b56, vr b57, vi 3, uu, uu] [])) := by
         intro H7 T7 ls7 xa0 xb0 xa1 xb1 xa2 xb2 X7 e7 N7 O7 hs7 AR7 IR7 Vp7 Vv7 Vq7 Va7 Vb7 hK
         refine so (A := (T7.setTop (mkF m 524 #[l0, l1, l2, l3, vn n, vn k, vi cz, vr b1, vr b8, vr b12, vr lp, vr lv, vr rs52, vi m53.1, vi m54.1, vi m55.1, vr b56, vr b57, vi 3, uu, uu] []))) ?_
         refine oi (XS.iload X7.here hx rfl (hb hby at_524) rfl) ?_
         by_cases hb526_67 : m53.1 = (0 : Int32)
         ·refine oi (XS.ifYes X7.here hx rfl (pc0 := 526) (pc' := 533) rfl (hb hby at_526) rfl ((if0 _ _).trans (teq hb526_67).1) (by decide) (by decide)) ?_
          refine so (A := (T7.setTop (mkF m 533 #[l0, l1, l2, l3, vn n, vn k, vi cz, vr b1, vr b8, vr b12, vr lp, vr lv, vr rs52, vi m53.1, vi m54.1, vi m55.1, vr b56, vr b57, vi 3, uu, uu] []))) ?_
          refine oi (XS.iload X7.here hx rfl (hb hby at_533) rfl) ?_
          by_cases hb535_68 : m54.1 = (0 : Int32)
          ·refine oi (XS.ifYes X7.here hx rfl (pc0 := 535) (pc' := 542) rfl (hb hby at_535) rfl ((if0 _ _).trans (teq hb535_68).1) (by decide) (by decide)) ?_
           refine so (A := (T7.setTop (mkF m 542 #[l0, l1, l2, l3, vn n, vn k, vi cz, vr b1, vr b8, vr b12, vr lp, vr lv, vr rs52, vi m53.1, vi m54.1, vi m55.1, vr b56, vr b57, vi 3, uu, uu] []))) ?_
           refine oi (XS.iload X7.here hx rfl (hb hby at_542) rfl) ?_
           by_cases hb544_69 : m55.1 = (0 : Int32)
           ·refine oi (XS.ifYes X7.here hx rfl (pc0 := 544) (pc' := 551) rfl (hb hby at_544) rfl ((if0 _ _).trans (teq hb544_69).1) (by decide) (by decide)) ?_
            refine so (A := (T7.setTop (mkF m 551 #[l0, l1, l2, l3, vn n, vn k, vi cz, vr b1, vr b8, vr b12, vr lp, vr lv, vr rs52, vi m53.1, vi m54.1, vi m55.1, vr b56, vr b57, vi 3, uu, uu] []))) ?_
            refine oi (XS.iload X7.here hx rfl (hb hby at_551) rfl) ?_
            refine oi (XS.istore X7.here hx rfl (hb hby at_553) rfl (l' := #[l0, l1, l2, l3, vn n, vn k, vi cz, vr b1, vr b8, vr b12, vr lp, vr lv, vr rs52, vi m53.1, vi m54.1, vi m55.1, vr b56, vr b57, vi 3, vi 3, uu]) rfl) ?_
            refine oi (XS.iload X7.here hx rfl (hb hby at_555) rfl) ?_
            refine oi (XS.iload X7.here hx rfl (hb hby at_557) rfl) ?_
            refine oi (XS.iadd X7.here hx rfl (hb hby at_559) rfl) ?_
            refine oi (XS.istore X7.here hx rfl (hb hby at_560) rfl (l' := #[l0, l1, l2, l3, vn n, vn k, vi cz, vr b1, vr b8, vr b12, vr lp, vr lv, vr rs52, vi m53.1, vi m54.1, vi m55.1, vr b56, vr b57, vi 3, vi 3, vi ((3 : Int32) + (Int32.ofNat k))]) rfl) ?_
            refine so (A := (T7.setTop (mkF m 562 #[l0, l1, l2, l3, vn n, vn k, vi cz, vr b1, vr b8, vr b12, vr lp, vr lv, vr rs52, vi m53.1, vi m54.1, vi m55.1, vr b56, vr b57, vi 3, vi 3, vi ((3 : Int32) + (Int32.ofNat k))] []))) ?_
            have hF : own_fl cz ([(t2.1, d0), (t4.1, d1), (t6.1, d2)].take n) = ([(xa0, xb0), (xa1, xb1), (xa2, xb2)] : List (Int32 × Int32)) := (own_kp3 hn).symm.trans hK
            have ep : own_pos cz ([(t2.1, d0), (t4.1, d1), (t6.1, d2)].take n) = 3 := own_pos3 hn (own_m0 m53.2 hb526_67) (own_m0 m54.2 hb535_68) (own_m0 m55.2 hb544_69) hF
            have hk3_ : k = 0 ∨ k = 1 ∨ k = 2 := by omega
            rcases hk3_ with rfl | rfl | rfl
            ·have eR : own_go2 cz (([f0, f1].take 0).map fun f => (cz, f)) ([(t2.1, d0), (t4.1, d1), (t6.1, d2)].take n) false = ([(xa0, xb0), (xa1, xb1), (xa2, xb2)] : List (Int32 × Int32)) := by rw [own_split, ep, hF]; rfl
             have IRk := IR7
             rw [eR] at IRk
             exact J562 _ _ _ rs52 er52 kr52 zs52 rm52 ([(xa0, xb0), (xa1, xb1), (xa2, xb2)] : List (Int32 × Int32)) _ _ _ _ cz b56 b57 b12 _ _ _ [xa0, xa1, xa2] [xb0, xb1, xb2] [f0, f1] _ _ _ _ _ _ _ _ _ _ _ _ _ (X7.more (by decide) (by decide)) e7 N7 O7 AR7 IRk rfl (by have q := IRk.len; simp only [List.length_cons, List.length_nil] at q; omega) Va7 Vb7 Vq7 (Or.inr ⟨_, _, rfl, Or.inl ⟨by decide, rfl, rfl, by decide⟩⟩) (Or.inr ⟨_, _, rfl, Or.inl ⟨by decide, rfl, rfl, by decide⟩⟩) (Or.inr ⟨_, _, rfl, Or.inl ⟨by decide, rfl, rfl, by decide⟩⟩) (Or.inl (by simp)) (Or.inl (by simp))
            ·have eR : own_go2 cz (([f0, f1].take 1).map fun f => (cz, f)) ([(t2.1, d0), (t4.1, d1), (t6.1, d2)].take n) false = ([(xa0, xb0), (xa1, xb1), (xa2, xb2), (cz, f0)] : List (Int32 × Int32)) := by rw [own_split, ep, hF]; rfl
             have IRk := IR7
             rw [eR] at IRk
             exact J562 _ _ _ rs52 er52 kr52 zs52 rm52 ([(xa0, xb0), (xa1, xb1), (xa2, xb2), (cz, f0)] : List (Int32 × Int32)) _ _ _ _ cz b56 b57 b12 _ _ _ [xa0, xa1, xa2] [xb0, xb1, xb2] [f0, f1] _ _ _ _ _ _ _ _ _ _ _ _ _ (X7.more (by decide) (by decide)) e7 N7 O7 AR7 IRk rfl (by have q := IRk.len; simp only [List.length_cons, List.length_nil] at q; omega) Va7 Vb7 Vq7 (Or.inr ⟨_, _, rfl, Or.inl ⟨by decide, rfl, rfl, by decide⟩⟩) (Or.inr ⟨_, _, rfl, Or.inl ⟨by decide, rfl, rfl, by decide⟩⟩) (Or.inr ⟨_, _, rfl, Or.inl ⟨by decide, rfl, rfl, by decide⟩⟩) (Or.inr ⟨_, _, rfl, Or.inr (Or.inl ⟨by decide, by decide, rfl, 0, by decide, rfl, by decide⟩)⟩) (Or.inl (by simp))
            ·have eR : own_go2 cz (([f0, f1].take 2).map fun f => (cz, f)) ([(t2.1, d0), (t4.1, d1), (t6.1, d2)].take n) false = ([(xa0, xb0), (xa1, xb1), (xa2, xb2), (cz, f0), (cz, f1)] : List (Int32 × Int32)) := by rw [own_split, ep, hF]; rfl
             have IRk := IR7
             rw [eR] at IRk
             exact J562 _ _ _ rs52 er52 kr52 zs52 rm52 ([(xa0, xb0), (xa1, xb1), (xa2, xb2), (cz, f0), (cz, f1)] : List (Int32 × Int32)) _ _ _ _ cz b56 b57 b12 _ _ _ [xa0, xa1, xa2] [xb0, xb1, xb2] [f0, f1] _ _ _ _ _ _ _ _ _ _ _ _ _ (X7.more (by decide) (by decide)) e7 N7 O7 AR7 IRk rfl (by have q := IRk.len; simp only [List.length_cons, List.length_nil] at q; omega) Va7 Vb7 Vq7 (Or.inr ⟨_, _, rfl, Or.inl ⟨by decide, rfl, rfl, by decide⟩⟩) (Or.inr ⟨_, _, rfl, Or.inl ⟨by decide, rfl, rfl, by decide⟩⟩) (Or.inr ⟨_, _, rfl, Or.inl ⟨by decide, rfl, rfl, by decide⟩⟩) (Or.inr ⟨_, _, rfl, Or.inr (Or.inl ⟨by decide, by decide, rfl, 0, by decide, rfl, by decide⟩)⟩) (Or.inr ⟨_, _, rfl, Or.inr (Or.inl ⟨by decide, by decide, rfl, 1, by decide, rfl, by decide⟩)⟩)
           ·refine oi (XS.ifNo X7.here hx rfl (hb hby at_544) rfl ((if0 _ _).trans (feq hb544_69).1)) ?_
            refine so (A := (T7.setTop (mkF m 547 #[l0, l1, l2, l3, vn n, vn k, vi cz, vr b1, vr b8, vr b12, vr lp, vr lv, vr rs52, vi m53.1, vi m54.1, vi m55.1, vr b56, vr b57, vi 3, uu, uu] []))) ?_
            refine oi (XS.iconst X7.here hx rfl (hb hby at_547)) ?_
            refine oi (XS.goto X7.here hx rfl (pc0 := 548) (pc' := 553) rfl (hb hby at_548) (by decide) (by decide)) ?_
            refine oi (XS.istore X7.here hx rfl (hb hby at_553) rfl (l' := #[l0, l1, l2, l3, vn n, vn k, vi cz, vr b1, vr b8, vr b12, vr lp, vr lv, vr rs52, vi m53.1, vi m54.1, vi m55.1, vr b56, vr b57, vi 3, vi 2, uu]) rfl) ?_
            refine oi (XS.iload X7.here hx rfl (hb hby at_555) rfl) ?_
            refine oi (XS.iload X7.here hx rfl (hb hby at_557) rfl) ?_
            refine oi (XS.iadd X7.here hx rfl (hb hby at_559) rfl) ?_
            refine oi (XS.istore X7.here hx rfl (hb hby at_560) rfl (l' := #[l0, l1, l2, l3, vn n, vn k, vi cz, vr b1, vr b8, vr b12, vr lp, vr lv, vr rs52, vi m53.1, vi m54.1, vi m55.1, vr b56, vr b57, vi 3, vi 2, vi ((3 : Int32) + (Int32.ofNat k))]) rfl) ?_
            refine so (A := (T7.setTop (mkF m 562 #[l0, l1, l2, l3, vn n, vn k, vi cz, vr b1, vr b8, vr b12, vr lp, vr lv, vr rs52, vi m53.1, vi m54.1, vi m55.1, vr b56, vr b57, vi 3, vi 2, vi ((3 : Int32) + (Int32.ofNat k))] []))) ?_
            have hF : own_fl cz ([(t2.1, d0), (t4.1, d1), (t6.1, d2)].take n) = ([(xa0, xb0), (xa1, xb1), (xa2, xb2)] : List (Int32 × Int32)) := (own_kp3 hn).symm.trans hK
            have ep : own_pos cz ([(t2.1, d0), (t4.1, d1), (t6.1, d2)].take n) = 2 := own_pos2 (own_m0 m53.2 hb526_67) (own_m0 m54.2 hb535_68) (own_m1 m55.2 hb544_69)
            have hk3_ : k = 0 ∨ k = 1 ∨ k = 2 := by omega
            rcases hk3_ with rfl | rfl | rfl
            ·have eR : own_go2 cz (([f0, f1].take 0).map fun f => (cz, f)) ([(t2.1, d0), (t4.1, d1), (t6.1, d2)].take n) false = ([(xa0, xb0), (xa1, xb1), (xa2, xb2)] : List (Int32 × Int32)) := by rw [own_split, ep, hF]; rfl
             have IRk := IR7
             rw [eR] at IRk
             exact J562 _ _ _ rs52 er52 kr52 zs52 rm52 ([(xa0, xb0), (xa1, xb1), (xa2, xb2)] : List (Int32 × Int32)) _ _ _ _ cz b56 b57 b12 _ _ _ [xa0, xa1, xa2] [xb0, xb1, xb2] [f0, f1] _ _ _ _ _ _ _ _ _ _ _ _ _ (X7.more (by decide) (by decide)) e7 N7 O7 AR7 IRk rfl (by have q := IRk.len; simp only [List.length_cons, List.length_nil] at q; omega) Va7 Vb7 Vq7 (Or.inr ⟨_, _, rfl, Or.inl ⟨by decide, rfl, rfl, by decide⟩⟩) (Or.inr ⟨_, _, rfl, Or.inl ⟨by decide, rfl, rfl, by decide⟩⟩) (Or.inr ⟨_, _, rfl, Or.inr (Or.inr ⟨by decide, by decide, 2, by decide, rfl, rfl, by decide⟩)⟩) (Or.inl (by simp)) (Or.inl (by simp))
            ·have eR : own_go2 cz (([f0, f1].take 1).map fun f => (cz, f)) ([(t2.1, d0), (t4.1, d1), (t6.1, d2)].take n) false = ([(xa0, xb0), (xa1, xb1), (cz, f0), (xa2, xb2)] : List (Int32 × Int32)) := by rw [own_split, ep, hF]; rfl
             have IRk := IR7
             rw [eR] at IRk
             exact J562 _ _ _ rs52 er52 kr52 zs52 rm52 ([(xa0, xb0), (xa1, xb1), (cz, f0), (xa2, xb2)] : List (Int32 × Int32)) _ _ _ _ cz b56 b57 b12 _ _ _ [xa0, xa1, xa2] [xb0, xb1, xb2] [f0, f1] _ _ _ _ _ _ _ _ _ _ _ _ _ (X7.more (by decide) (by decide)) e7 N7 O7 AR7 IRk rfl (by have q := IRk.len; simp only [List.length_cons, List.length_nil] at q; omega) Va7 Vb7 Vq7 (Or.inr ⟨_, _, rfl, Or.inl ⟨by decide, rfl, rfl, by decide⟩⟩) (Or.inr ⟨_, _, rfl, Or.inl ⟨by decide, rfl, rfl, by decide⟩⟩) (Or.inr ⟨_, _, rfl, Or.inr (Or.inl ⟨by decide, by decide, rfl, 0, by decide, rfl, by decide⟩)⟩) (Or.inr ⟨_, _, rfl, Or.inr (Or.inr ⟨by decide, by decide, 2, by decide, rfl, rfl, by decide⟩)⟩) (Or.inl (by simp))
            ·have eR : own_go2 cz (([f0, f1].take 2).map fun f => (cz, f)) ([(t2.1, d0), (t4.1, d1), (t6.1, d2)].take n) false = ([(xa0, xb0), (xa1, xb1), (cz, f0), (cz, f1), (xa2, xb2)] : List (Int32 × Int32)) := by rw [own_split, ep, hF]; rfl
             have IRk := IR7
             rw [eR] at IRk
             exact J562 _ _ _ rs52 er52 kr52 zs52 rm52 ([(xa0, xb0), (xa1, xb1), (cz, f0), (cz, f1), (xa2, xb2)] : List (Int32 × Int32)) _ _ _ _ cz b56 b57 b12 _ _ _ [xa0, xa1, xa2] [xb0, xb1, xb2] [f0, f1] _ _ _ _ _ _ _ _ _ _ _ _ _ (X7.more (by decide) (by decide)) e7 N7 O7 AR7 IRk rfl (by have q := IRk.len; simp only [List.length_cons, List.length_nil] at q; omega) Va7 Vb7 Vq7 (Or.inr ⟨_, _, rfl, Or.inl ⟨by decide, rfl, rfl, by decide⟩⟩) (Or.inr ⟨_, _, rfl, Or.inl ⟨by decide, rfl, rfl, by decide⟩⟩) (Or.inr ⟨_, _, rfl, Or.inr (Or.inl ⟨by decide, by decide, rfl, 0, by decide, rfl, by decide⟩)⟩) (Or.inr ⟨_, _, rfl, Or.inr (Or.inl ⟨by decide, by decide, rfl, 1, by decide, rfl, by decide⟩)⟩) (Or.inr ⟨_, _, rfl, Or.inr (Or.inr ⟨by decide, by decide, 2, by decide, rfl, rfl, by decide⟩)⟩)
          ·refine oi (XS.ifNo X7.here hx rfl (hb hby at_535) rfl ((if0 _ _).trans (feq hb535_68).1)) ?_
           refine so (A := (T7.setTop (mkF m 538 #[l0, l1, l2, l3, vn n, vn k, vi cz, vr b1, vr b8, vr b12, vr lp, vr lv, vr rs52, vi m53.1, vi m54.1, vi m55.1, vr b56, vr b57, vi 3, uu, uu] []))) ?_
           refine oi (XS.iconst X7.here hx rfl (hb hby at_538)) ?_
           refine oi (XS.goto X7.here hx rfl (pc0 := 539) (pc' := 553) rfl (hb hby at_539) (by decide) (by decide)) ?_
           refine oi (XS.istore X7.here hx rfl (hb hby at_553) rfl (l' := #[l0, l1, l2, l3, vn n, vn k, vi cz, vr b1, vr b8, vr b12, vr lp, vr lv, vr rs52, vi m53.1, vi m54.1, vi m55.1, vr b56, vr b57, vi 3, vi 1, uu]) rfl) ?_
           refine oi (XS.iload X7.here hx rfl (hb hby at_555) rfl) ?_
           refine oi (XS.iload X7.here hx rfl (hb hby at_557) rfl) ?_
           refine oi (XS.iadd X7.here hx rfl (hb hby at_559) rfl) ?_
           refine oi (XS.istore X7.here hx rfl (hb hby at_560) rfl (l' := #[l0, l1, l2, l3, vn n, vn k, vi cz, vr b1, vr b8, vr b12, vr lp, vr lv, vr rs52, vi m53.1, vi m54.1, vi m55.1, vr b56, vr b57, vi 3, vi 1, vi ((3 : Int32) + (Int32.ofNat k))]) rfl) ?_
           refine so (A := (T7.setTop (mkF m 562 #[l0, l1, l2, l3, vn n, vn k, vi cz, vr b1, vr b8, vr b12, vr lp, vr lv, vr rs52, vi m53.1, vi m54.1, vi m55.1, vr b56, vr b57, vi 3, vi 1, vi ((3 : Int32) + (Int32.ofNat k))] []))) ?_
           have hF : own_fl cz ([(t2.1, d0), (t4.1, d1), (t6.1, d2)].take n) = ([(xa0, xb0), (xa1, xb1), (xa2, xb2)] : List (Int32 × Int32)) := (own_kp3 hn).symm.trans hK
           have ep : own_pos cz ([(t2.1, d0), (t4.1, d1), (t6.1, d2)].take n) = 1 := own_pos1 (own_m0 m53.2 hb526_67) (own_m1 m54.2 hb535_68)
           have hk3_ : k = 0 ∨ k = 1 ∨ k = 2 := by omega
           rcases hk3_ with rfl | rfl | rfl
           ·have eR : own_go2 cz (([f0, f1].take 0).map fun f => (cz, f)) ([(t2.1, d0), (t4.1, d1), (t6.1, d2)].take n) false = ([(xa0, xb0), (xa1, xb1), (xa2, xb2)] : List (Int32 × Int32)) := by rw [own_split, ep, hF]; rfl
            have IRk := IR7
            rw [eR] at IRk
            exact J562 _ _ _ rs52 er52 kr52 zs52 rm52 ([(xa0, xb0), (xa1, xb1), (xa2, xb2)] : List (Int32 × Int32)) _ _ _ _ cz b56 b57 b12 _ _ _ [xa0, xa1, xa2] [xb0, xb1, xb2] [f0, f1] _ _ _ _ _ _ _ _ _ _ _ _ _ (X7.more (by decide) (by decide)) e7 N7 O7 AR7 IRk rfl (by have q := IRk.len; simp only [List.length_cons, List.length_nil] at q; omega) Va7 Vb7 Vq7 (Or.inr ⟨_, _, rfl, Or.inl ⟨by decide, rfl, rfl, by decide⟩⟩) (Or.inr ⟨_, _, rfl, Or.inr (Or.inr ⟨by decide, by decide, 1, by decide, rfl, rfl, by decide⟩)⟩) (Or.inr ⟨_, _, rfl, Or.inr (Or.inr ⟨by decide, by decide, 2, by decide, rfl, rfl, by decide⟩)⟩) (Or.inl (by simp)) (Or.inl (by simp))
           ·have eR : own_go2 cz (([f0, f1].take 1).map fun f => (cz, f)) ([(t2.1, d0), (t4.1, d1), (t6.1, d2)].take n) false = ([(xa0, xb0), (cz, f0), (xa1, xb1), (xa2, xb2)] : List (Int32 × Int32)) := by rw [own_split, ep, hF]; rfl
            have IRk := IR7
            rw [eR] at IRk
            exact J562 _ _ _ rs52 er52 kr52 zs52 rm52 ([(xa0, xb0), (cz, f0), (xa1, xb1), (xa2, xb2)] : List (Int32 × Int32)) _ _ _ _ cz b56 b57 b12 _ _ _ [xa0, xa1, xa2] [xb0, xb1, xb2] [f0, f1] _ _ _ _ _ _ _ _ _ _ _ _ _ (X7.more (by decide) (by decide)) e7 N7 O7 AR7 IRk rfl (by have q := IRk.len; simp only [List.length_cons, List.length_nil] at q; omega) Va7 Vb7 Vq7 (Or.inr ⟨_, _, rfl, Or.inl ⟨by decide, rfl, rfl, by decide⟩⟩) (Or.inr ⟨_, _, rfl, Or.inr (Or.inl ⟨by decide, by decide, rfl, 0, by decide, rfl, by decide⟩)⟩) (Or.inr ⟨_, _, rfl, Or.inr (Or.inr ⟨by decide, by decide, 1, by decide, rfl, rfl, by decide⟩)⟩) (Or.inr ⟨_, _, rfl, Or.inr (Or.inr ⟨by decide, by decide, 2, by decide, rfl, rfl, by decide⟩)⟩) (Or.inl (by simp))
           ·have eR : own_go2 cz (([f0, f1].take 2).map fun f => (cz, f)) ([(t2.1, d0), (t4.1, d1), (t6.1, d2)].take n) false = ([(xa0, xb0), (cz, f0), (cz, f1), (xa1, xb1), (xa2, xb2)] : List (Int32 × Int32)) := by rw [own_split, ep, hF]; rfl
            have IRk := IR7
            rw [eR] at IRk
            exact J562 _ _ _ rs52 er52 kr52 zs52 rm52 ([(xa0, xb0), (cz, f0), (cz, f1), (xa1, xb1), (xa2, xb2)] : List (Int32 × Int32)) _ _ _ _ cz b56 b57 b12 _ _ _ [xa0, xa1, xa2] [xb0, xb1, xb2] [f0, f1] _ _ _ _ _ _ _ _ _ _ _ _ _ (X7.more (by decide) (by decide)) e7 N7 O7 AR7 IRk rfl (by have q := IRk.len; simp only [List.length_cons, List.length_nil] at q; omega) Va7 Vb7 Vq7 (Or.inr ⟨_, _, rfl, Or.inl ⟨by decide, rfl, rfl, by decide⟩⟩) (Or.inr ⟨_, _, rfl, Or.inr (Or.inl ⟨by decide, by decide, rfl, 0, by decide, rfl, by decide⟩)⟩) (Or.inr ⟨_, _, rfl, Or.inr (Or.inl ⟨by decide, by decide, rfl, 1, by decide, rfl, by decide⟩)⟩) (Or.inr ⟨_, _, rfl, Or.inr (Or.inr ⟨by decide, by decide, 1, by decide, rfl, rfl, by decide⟩)⟩) (Or.inr ⟨_, _, rfl, Or.inr (Or.inr ⟨by decide, by decide, 2, by decide, rfl, rfl, by decide⟩)⟩)
         ·refine oi (XS.ifNo X7.here hx rfl (hb hby at_526) rfl ((if0 _ _).trans (feq hb526_67).1)) ?_
          refine so (A := (T7.setTop (mkF m 529 #[l0, l1, l2, l3, vn n, vn k, vi cz, vr b1, vr b8, vr b12, vr lp, vr lv, vr rs52, vi m53.1, vi m54.1, vi m55.1, vr b56, vr b57, vi 3, uu, uu] []))) ?_
          refine oi (XS.iconst X7.here hx rfl (hb hby at_529)) ?_
          refine oi (XS.goto X7.here hx rfl (pc0 := 530) (pc' := 553) rfl (hb hby at_530) (by decide) (by decide)) ?_
          refine oi (XS.istore X7.here hx rfl (hb hby at_553) rfl (l' := #[l0, l1, l2, l3, vn n, vn k, vi cz, vr b1, vr b8, vr b12, vr lp, vr lv, vr rs52, vi m53.1, vi m54.1, vi m55.1, vr b56, vr b57, vi 3, vz, uu]) rfl) ?_
          refine oi (XS.iload X7.here hx rfl (hb hby at_555) rfl) ?_
          refine oi (XS.iload X7.here hx rfl (hb hby at_557) rfl) ?_
          refine oi (XS.iadd X7.here hx rfl (hb hby at_559) rfl) ?_
          refine oi (XS.istore X7.here hx rfl (hb hby at_560) rfl (l' := #[l0, l1, l2, l3, vn n, vn k, vi cz, vr b1, vr b8, vr b12, vr lp, vr lv, vr rs52, vi m53.1, vi m54.1, vi m55.1, vr b56, vr b57, vi 3, vz, vi ((3 : Int32) + (Int32.ofNat k))]) rfl) ?_
          refine so (A := (T7.setTop (mkF m 562 #[l0, l1, l2, l3, vn n, vn k, vi cz, vr b1, vr b8, vr b12, vr lp, vr lv, vr rs52, vi m53.1, vi m54.1, vi m55.1, vr b56, vr b57, vi 3, vz, vi ((3 : Int32) + (Int32.ofNat k))] []))) ?_
          have hF : own_fl cz ([(t2.1, d0), (t4.1, d1), (t6.1, d2)].take n) = ([(xa0, xb0), (xa1, xb1), (xa2, xb2)] : List (Int32 × Int32)) := (own_kp3 hn).symm.trans hK
          have ep : own_pos cz ([(t2.1, d0), (t4.1, d1), (t6.1, d2)].take n) = 0 := own_pos0 (own_m1 m53.2 hb526_67)
          have hk3_ : k = 0 ∨ k = 1 ∨ k = 2 := by omega
          rcases hk3_ with rfl | rfl | rfl
          ·have eR : own_go2 cz (([f0, f1].take 0).map fun f => (cz, f)) ([(t2.1, d0), (t4.1, d1), (t6.1, d2)].take n) false = ([(xa0, xb0), (xa1, xb1), (xa2, xb2)] : List (Int32 × Int32)) := by rw [own_split, ep, hF]; rfl
           have IRk := IR7
           rw [eR] at IRk
           exact J562 _ _ _ rs52 er52 kr52 zs52 rm52 ([(xa0, xb0), (xa1, xb1), (xa2, xb2)] : List (Int32 × Int32)) _ _ _ _ cz b56 b57 b12 _ _ _ [xa0, xa1, xa2] [xb0, xb1, xb2] [f0, f1] _ _ _ _ _ _ _ _ _ _ _ _ _ (X7.more (by decide) (by decide)) e7 N7 O7 AR7 IRk rfl (by have q := IRk.len; simp only [List.length_cons, List.length_nil] at q; omega) Va7 Vb7 Vq7 (Or.inr ⟨_, _, rfl, Or.inr (Or.inr ⟨by decide, by decide, 0, by decide, rfl, rfl, by decide⟩)⟩) (Or.inr ⟨_, _, rfl, Or.inr (Or.inr ⟨by decide, by decide, 1, by decide, rfl, rfl, by decide⟩)⟩) (Or.inr ⟨_, _, rfl, Or.inr (Or.inr ⟨by decide, by decide, 2, by decide, rfl, rfl, by decide⟩)⟩) (Or.inl (by simp)) (Or.inl (by simp))
          ·have eR : own_go2 cz (([f0, f1].take 1).map fun f => (cz, f)) ([(t2.1, d0), (t4.1, d1), (t6.1, d2)].take n) false = ([(cz, f0), (xa0, xb0), (xa1, xb1), (xa2, xb2)] : List (Int32 × Int32)) := by rw [own_split, ep, hF]; rfl
           have IRk := IR7
           rw [eR] at IRk
           exact J562 _ _ _ rs52 er52 kr52 zs52 rm52 ([(cz, f0), (xa0, xb0), (xa1, xb1), (xa2, xb2)] : List (Int32 × Int32)) _ _ _ _ cz b56 b57 b12 _ _ _ [xa0, xa1, xa2] [xb0, xb1, xb2] [f0, f1] _ _ _ _ _ _ _ _ _ _ _ _ _ (X7.more (by decide) (by decide)) e7 N7 O7 AR7 IRk rfl (by have q := IRk.len; simp only [List.length_cons, List.length_nil] at q; omega) Va7 Vb7 Vq7 (Or.inr ⟨_, _, rfl, Or.inr (Or.inl ⟨by decide, by decide, rfl, 0, by decide, rfl, by decide⟩)⟩) (Or.inr ⟨_, _, rfl, Or.inr (Or.inr ⟨by decide, by decide, 0, by decide, rfl, rfl, by decide⟩)⟩) (Or.inr ⟨_, _, rfl, Or.inr (Or.inr ⟨by decide, by decide, 1, by decide, rfl, rfl, by decide⟩)⟩) (Or.inr ⟨_, _, rfl, Or.inr (Or.inr ⟨by decide, by decide, 2, by decide, rfl, rfl, by decide⟩)⟩) (Or.inl (by simp))
          ·have eR : own_go2 cz (([f0, f1].take 2).map fun f => (cz, f)) ([(t2.1, d0), (t4.1, d1), (t6.1, d2)].take n) false = ([(cz, f0), (cz, f1), (xa0, xb0), (xa1, xb1), (xa2, xb2)] : List (Int32 × Int32)) := by rw [own_split, ep, hF]; rfl
           have IRk := IR7
           rw [eR] at IRk
           exact J562 _ _ _ rs52 er52 kr52 zs52 rm52 ([(cz, f0), (cz, f1), (xa0, xb0), (xa1, xb1), (xa2, xb2)] : List (Int32 × Int32)) _ _ _ _ cz b56 b57 b12 _ _ _ [xa0, xa1, xa2] [xb0, xb1, xb2] [f0, f1] _ _ _ _ _ _ _ _ _ _ _ _ _ (X7.more (by decide) (by decide)) e7 N7 O7 AR7 IRk rfl (by have q := IRk.len; simp only [List.length_cons, List.length_nil] at q; omega) Va7 Vb7 Vq7 (Or.inr ⟨_, _, rfl, Or.inr (Or.inl ⟨by decide, by decide, rfl, 0, by decide, rfl, by decide⟩)⟩) (Or.inr ⟨_, _, rfl, Or.inr (Or.inl ⟨by decide, by decide, rfl, 1, by decide, rfl, by decide⟩)⟩) (Or.inr ⟨_, _, rfl, Or.inr (Or.inr ⟨by decide, by decide, 0, by decide, rfl, rfl, by decide⟩)⟩) (Or.inr ⟨_, _, rfl, Or.inr (Or.inr ⟨by decide, by decide, 1, by decide, rfl, rfl, by decide⟩)⟩) (Or.inr ⟨_, _, rfl, Or.inr (Or.inr ⟨by decide, by decide, 2, by decide, rfl, rfl, by decide⟩)⟩)
        have mid_2_0 : ∀ (H7 : Heap) (T7 : State) (ls7 : List Loc), (Stand p l e room_1 s m #[.int p1, .int p2, .int p3, .int p4] below meth c T7 ls7 64 311) → (T7.heap = H7) → (Fr n0 ls7) → (Old Z n0 H7) → (T52.heap.size ≤ H7.size) → (own_al Z H7 dq n0 rs52 er52 kr52 zs52 rm52) → (own_its Z H7 T52.heap.size zs52 (own_go2 cz (([f0, f1].take k).map fun f => (cz, f)) ([(t2.1, d0), (t4.1, d1), (t6.1, d2)].take n) false)) → (Arv Z H7 b1 k1 .char (3 : Int32) [(.int t2.1), (.int t4.1), (.int t6.1)] (.int 0)) → (Arv Z H7 b8 k8 .char (3 : Int32) [(.int d0), (.int d1), (.int d2)] (.int 0)) → (Arv Z H7 b12 k12 .char (2 : Int32) [(.int f0), (.int f1)] (.int 0)) → (Arv Z H7 b56 k56 .char (3 : Int32) [(.int 0), (.int 0), (.int 0)] (.int 0)) → (Arv Z H7 b57 k57 .char (3 : Int32) [(.int 0), (.int 0), (.int 0)] (.int 0)) → (own_kept cz [(t2.1, d0), (t4.1, d1), (t6.1, d2)] n 2 = ([] : List (Int32 × Int32))) → own_go p e below s (Q_rm0 Z p1 p2 p3 p4 dq kd mr Gc h0 n0) room_1.cells room_1.slots (T7.setTop (mkF m 489 #[l0, l1, l2, l3, vn n, vn k, vi cz, vr b1, vr b8, vr b12, vr lp, vr lv, vr rs52, vi m53.1, vi m54.1, vi m55.1, vr b56, vr b57, vz, uu, uu] [])) := by
         intro H7 T7 ls7  X7 e7 N7 O7 hs7 AR7 IR7 Vp7 Vv7 Vq7 Va7 Vb7 hK
         refine so (A := (T7.setTop (mkF m 489 #[l0, l1, l2, l3, vn n, vn k, vi cz, vr b1, vr b8, vr b12, vr lp, vr lv, vr rs52, vi m53.1, vi m54.1, vi m55.1, vr b56, vr b57, vz, uu, uu] []))) ?_
         refine oi (XS.iload X7.here hx rfl (hb hby at_489) rfl) ?_
         refine oi (XS.iconst X7.here hx rfl (hb hby at_491)) ?_
         by_cases hb492_70 : (2 : Int32) < (Int32.ofNat n)
         ·refine oi (XS.icmpNo X7.here hx rfl (hb hby at_492) rfl (tlt hb492_70).2.2.2) ?_
          refine so (A := (T7.setTop (mkF m 495 #[l0, l1, l2, l3, vn n, vn k, vi cz, vr b1, vr b8, vr b12, vr lp, vr lv, vr rs52, vi m53.1, vi m54.1, vi m55.1, vr b56, vr b57, vz, uu, uu] []))) ?_
          refine oi (XS.iload X7.here hx rfl (hb hby at_495) rfl) ?_
          by_cases hb497_71 : m55.1 = (0 : Int32)
          ·refine oi (XS.ifNo X7.here hx rfl (hb hby at_497) rfl ((if0 _ _).trans (teq hb497_71).2)) ?_
           refine so (A := (T7.setTop (mkF m 500 #[l0, l1, l2, l3, vn n, vn k, vi cz, vr b1, vr b8, vr b12, vr lp, vr lv, vr rs52, vi m53.1, vi m54.1, vi m55.1, vr b56, vr b57, vz, uu, uu] []))) ?_
           refine oi (XS.aload X7.here hx rfl (hb hby at_500) rfl rfl) ?_
           refine oi (XS.iload X7.here hx rfl (hb hby at_502) rfl) ?_
           refine oi (XS.aload X7.here hx rfl (hb hby at_504) rfl rfl) ?_
           refine oi (XS.iconst X7.here hx rfl (hb hby at_506)) ?_
           obtain ⟨cl72, Ar72, q72, S72, Ng72, H72, G72⟩ := id Vp7
           have hin72 : ¬ ((2 : Int32) < 0 ∨ cl72.slots.size ≤ ((2 : Int32)).toNatClampNeg) := inb_of S72 ⟨by decide, by decide⟩
           have hat72 : cl72.slots[((2 : Int32)).toNatClampNeg]? = some (.int t6.1) := H72 2 (by rw [S72]; decide)
           refine oo (fun _ => X7.caload hx (j := (2 : Int32)) (v := (.int t6.1)) (by rw [e7]; exact Ar72.1) (State.isArrayOf_alike hZ.alike Ar72.2.1) Ar72.2.2 hin72 hat72 (g := (mkF m 507 #[l0, l1, l2, l3, vn n, vn k, vi cz, vr b1, vr b8, vr b12, vr lp, vr lv, vr rs52, vi m53.1, vi m54.1, vi m55.1, vr b56, vr b57, vz, uu, uu] [(.int 2), (.ref b1), (.int 0), (.ref b56)])) rfl rfl (hb hby at_507) _) ?_
           obtain ⟨cl73, Ar73, q73, S73, Ng73, H73, G73⟩ := Va7
           obtain ⟨T73, h73, X73, e73, W73, st73⟩ := stC X7 hx hZ e7 Ar73 (j := (0 : Int32)) (inb_of S73 ⟨by decide, by decide⟩) (g := (mkF m 508 #[l0, l1, l2, l3, vn n, vn k, vi cz, vr b1, vr b8, vr b12, vr lp, vr lv, vr rs52, vi m53.1, vi m54.1, vi m55.1, vr b56, vr b57, vz, uu, uu] [(.int t6.1), (.int 0), (.ref b56)])) rfl rfl (hb hby at_508)
           have V73 : Arv Z h73 b56 k56 .char (3 : Int32) [(.int (nar .char t6.1)), (.int 0), (.int 0)] (.int 0) := Arv.set Ar73 q73 S73 Ng73 H73 G73 (fits_nar_char _) W73 0 rfl (Nat.le_of_ble_eq_true rfl)
           rw [own_nar t6.2] at V73
           refine oo st73 ?_
           have N73 := Fr.snoc X73 N7 (by omega : n0 ≤ b56)
           have sz73 : h73.size = H7.size := W73.size
           have O73 : Old Z n0 h73 := O7.wr W73 (by omega)
           refine oi (XS.aload X73.here hx rfl (hb hby at_509) rfl rfl) ?_
           refine oi (XS.iload X73.here hx rfl (hb hby at_511) rfl) ?_
           refine oi (XS.aload X73.here hx rfl (hb hby at_513) rfl rfl) ?_
           refine oi (XS.iconst X73.here hx rfl (hb hby at_515)) ?_
           have f74 : Arv Z h73 b8 k8 .char (3 : Int32) [(.int d0), (.int d1), (.int d2)] (.int 0) := (Vv7.other W73 (one (by omega)))
           obtain ⟨cl75, Ar75, q75, S75, Ng75, H75, G75⟩ := id f74
           have hin75 : ¬ ((2 : Int32) < 0 ∨ cl75.slots.size ≤ ((2 : Int32)).toNatClampNeg) := inb_of S75 ⟨by decide, by decide⟩
           have hat75 : cl75.slots[((2 : Int32)).toNatClampNeg]? = some (.int d2) := H75 2 (by rw [S75]; decide)
           refine oo (fun _ => X73.caload hx (j := (2 : Int32)) (v := (.int d2)) (by rw [e73]; exact Ar75.1) (State.isArrayOf_alike hZ.alike Ar75.2.1) Ar75.2.2 hin75 hat75 (g := (mkF m 516 #[l0, l1, l2, l3, vn n, vn k, vi cz, vr b1, vr b8, vr b12, vr lp, vr lv, vr rs52, vi m53.1, vi m54.1, vi m55.1, vr b56, vr b57, vz, uu, uu] [(.int 2), (.ref b8), (.int 0), (.ref b57)])) rfl rfl (hb hby at_516) _) ?_
           have f76 : Arv Z h73 b57 k57 .char (3 : Int32) [(.int 0), (.int 0), (.int 0)] (.int 0) := (Vb7.other W73 (one (by omega)))
           obtain ⟨cl77, Ar77, q77, S77, Ng77, H77, G77⟩ := f76
           obtain ⟨T77, h77, X77, e77, W77, st77⟩ := stC X73 hx hZ e73 Ar77 (j := (0 : Int32)) (inb_of S77 ⟨by decide, by decide⟩) (g := (mkF m 517 #[l0, l1, l2, l3, vn n, vn k, vi cz, vr b1, vr b8, vr b12, vr lp, vr lv, vr rs52, vi m53.1, vi m54.1, vi m55.1, vr b56, vr b57, vz, uu, uu] [(.int d2), (.int 0), (.ref b57)])) rfl rfl (hb hby at_517)
           have V77 : Arv Z h77 b57 k57 .char (3 : Int32) [(.int (nar .char d2)), (.int 0), (.int 0)] (.int 0) := Arv.set Ar77 q77 S77 Ng77 H77 G77 (fits_nar_char _) W77 0 rfl (Nat.le_of_ble_eq_true rfl)
           rw [own_nar hd2] at V77
           refine oo st77 ?_
           have N77 := Fr.snoc X77 N73 (by omega : n0 ≤ b57)
           have sz77 : h77.size = h73.size := W77.size
           have O77 : Old Z n0 h77 := O73.wr W77 (by omega)
           refine oi (XS.iload X77.here hx rfl (hb hby at_518) rfl) ?_
           refine so (A := (T77.setTop (mkF m 520 #[l0, l1, l2, l3, vn n, vn k, vi cz, vr b1, vr b8, vr b12, vr lp, vr lv, vr rs52, vi m53.1, vi m54.1, vi m55.1, vr b56, vr b57, vz, uu, uu] [(.int 0)]))) ?_
           refine oi (XS.iconst X77.here hx rfl (hb hby at_520)) ?_
           refine oi (XS.iadd X77.here hx rfl (hb hby at_521) rfl) ?_
           refine oi (XS.istore X77.here hx rfl (hb hby at_522) rfl (l' := #[l0, l1, l2, l3, vn n, vn k, vi cz, vr b1, vr b8, vr b12, vr lp, vr lv, vr rs52, vi m53.1, vi m54.1, vi m55.1, vr b56, vr b57, vi 1, uu, uu]) rfl) ?_
           refine so (A := (T77.setTop (mkF m 524 #[l0, l1, l2, l3, vn n, vn k, vi cz, vr b1, vr b8, vr b12, vr lp, vr lv, vr rs52, vi m53.1, vi m54.1, vi m55.1, vr b56, vr b57, vi 1, uu, uu] []))) ?_
           have f78 : own_al Z h77 dq n0 rs52 er52 kr52 zs52 rm52 := ((AR7.wr W73 (one (by omega)) (one (by omega))).wr W77 (one (by omega)) (one (by omega)))
           have f79 : own_its Z h77 T52.heap.size zs52 (own_go2 cz (([f0, f1].take k).map fun f => (cz, f)) ([(t2.1, d0), (t4.1, d1), (t6.1, d2)].take n) false) := ((IR7.wr W73 (by omega)).wr W77 (by omega))
           have f80 : Arv Z h77 b1 k1 .char (3 : Int32) [(.int t2.1), (.int t4.1), (.int t6.1)] (.int 0) := ((Vp7.other W73 (one (by omega))).other W77 (one (by omega)))
           have f81 : Arv Z h77 b8 k8 .char (3 : Int32) [(.int d0), (.int d1), (.int d2)] (.int 0) := (f74.other W77 (one (by omega)))
           have f82 : Arv Z h77 b12 k12 .char (2 : Int32) [(.int f0), (.int f1)] (.int 0) := ((Vq7.other W73 (one (by omega))).other W77 (one (by omega)))
           have f83 : Arv Z h77 b56 k56 .char (3 : Int32) [(.int t6.1), (.int 0), (.int 0)] (.int 0) := (V73.other W77 (one (by omega)))
           exact mid_3_1 _ _ _ t6.1 d2 (X77.more (by decide) (by decide)) e77 N77 O77 (by omega) f78 f79 f80 f81 f82 f83 V77 (by rw [own_kp1 (p := (t6.1, d2)) rfl ((own_nlt (a := 2) (by omega) (by omega)).mp hb492_70) (fun q => own_m0 m55.2 hb497_71 ⟨((own_nlt (a := 2) (by omega) (by omega)).mp hb492_70), q⟩), hK]; rfl)
          ·refine oi (XS.ifYes X7.here hx rfl (pc0 := 497) (pc' := 524) rfl (hb hby at_497) rfl ((if0 _ _).trans (feq hb497_71).2) (by decide) (by decide)) ?_
           refine so (A := (T7.setTop (mkF m 524 #[l0, l1, l2, l3, vn n, vn k, vi cz, vr b1, vr b8, vr b12, vr lp, vr lv, vr rs52, vi m53.1, vi m54.1, vi m55.1, vr b56, vr b57, vz, uu, uu] []))) ?_
           exact mid_3_0 _ _ _  (X7.more (by decide) (by decide)) e7 N7 O7 (by omega) AR7 IR7 Vp7 Vv7 Vq7 Va7 Vb7 (by rw [own_kp0 (p := (t6.1, d2)) rfl (fun _ => (own_m1 m55.2 hb497_71).2), hK])
         ·refine oi (XS.icmpYes X7.here hx rfl (pc0 := 492) (pc' := 524) rfl (hb hby at_492) rfl (flt hb492_70).2.2.2 (by decide) (by decide)) ?_
          refine so (A := (T7.setTop (mkF m 524 #[l0, l1, l2, l3, vn n, vn k, vi cz, vr b1, vr b8, vr b12, vr lp, vr lv, vr rs52, vi m53.1, vi m54.1, vi m55.1, vr b56, vr b57, vz, uu, uu] []))) ?_
          exact mid_3_0 _ _ _  (X7.more (by decide) (by decide)) e7 N7 O7 (by omega) AR7 IR7 Vp7 Vv7 Vq7 Va7 Vb7 (by rw [own_kp0 (p := (t6.1, d2)) rfl (fun q => (hb492_70 ((own_nlt (a := 2) (by omega) (by omega)).mpr q)).elim), hK])
        have mid_2_1 : ∀ (H7 : Heap) (T7 : State) (ls7 : List Loc) (xa0 xb0 : Int32), (Stand p l e room_1 s m #[.int p1, .int p2, .int p3, .int p4] below meth c T7 ls7 64 311) → (T7.heap = H7) → (Fr n0 ls7) → (Old Z n0 H7) → (T52.heap.size ≤ H7.size) → (own_al Z H7 dq n0 rs52 er52 kr52 zs52 rm52) → (own_its Z H7 T52.heap.size zs52 (own_go2 cz (([f0, f1].take k).map fun f => (cz, f)) ([(t2.1, d0), (t4.1, d1), (t6.1, d2)].take n) false)) → (Arv Z H7 b1 k1 .char (3 : Int32) [(.int t2.1), (.int t4.1), (.int t6.1)] (.int 0)) → (Arv Z H7 b8 k8 .char (3 : Int32) [(.int d0), (.int d1), (.int d2)] (.int 0)) → (Arv Z H7 b12 k12 .char (2 : Int32) [(.int f0), (.int f1)] (.int 0)) → (Arv Z H7 b56 k56 .char (3 : Int32) [(.int xa0), (.int 0), (.int 0)] (.int 0)) → (Arv Z H7 b57 k57 .char (3 : Int32) [(.int xb0), (.int 0), (.int 0)] (.int 0)) → (own_kept cz [(t2.1, d0), (t4.1, d1), (t6.1, d2)] n 2 = ([(xa0, xb0)] : List (Int32 × Int32))) → own_go p e below s (Q_rm0 Z p1 p2 p3 p4 dq kd mr Gc h0 n0) room_1.cells room_1.slots (T7.setTop (mkF m 489 #[l0, l1, l2, l3, vn n, vn k, vi cz, vr b1, vr b8, vr b12, vr lp, vr lv, vr rs52, vi m53.1, vi m54.1, vi m55.1, vr b56, vr b57, vi 1, uu, uu] [])) := by
         intro H7 T7 ls7 xa0 xb0 X7 e7 N7 O7 hs7 AR7 IR7 Vp7 Vv7 Vq7 Va7 Vb7 hK
         refine so (A := (T7.setTop (mkF m 489 #[l0, l1, l2, l3, vn n, vn k, vi cz, vr b1, vr b8, vr b12, vr lp, vr lv, vr rs52, vi m53.1, vi m54.1, vi m55.1, vr b56, vr b57, vi 1, uu, uu] []))) ?_
         refine oi (XS.iload X7.here hx rfl (hb hby at_489) rfl) ?_
         refine oi (XS.iconst X7.here hx rfl (hb hby at_491)) ?_
         by_cases hb492_84 : (2 : Int32) < (Int32.ofNat n)
         ·refine oi (XS.icmpNo X7.here hx rfl (hb hby at_492) rfl (tlt hb492_84).2.2.2) ?_
          refine so (A := (T7.setTop (mkF m 495 #[l0, l1, l2, l3, vn n, vn k, vi cz, vr b1, vr b8, vr b12, vr lp, vr lv, vr rs52, vi m53.1, vi m54.1, vi m55.1, vr b56, vr b57, vi 1, uu, uu] []))) ?_
          refine oi (XS.iload X7.here hx rfl (hb hby at_495) rfl) ?_
          by_cases hb497_85 : m55.1 = (0 : Int32)
          ·refine oi (XS.ifNo X7.here hx rfl (hb hby at_497) rfl ((if0 _ _).trans (teq hb497_85).2)) ?_
           refine so (A := (T7.setTop (mkF m 500 #[l0, l1, l2, l3, vn n, vn k, vi cz, vr b1, vr b8, vr b12, vr lp, vr lv, vr rs52, vi m53.1, vi m54.1, vi m55.1, vr b56, vr b57, vi 1, uu, uu] []))) ?_
           refine oi (XS.aload X7.here hx rfl (hb hby at_500) rfl rfl) ?_
           refine oi (XS.iload X7.here hx rfl (hb hby at_502) rfl) ?_
           refine oi (XS.aload X7.here hx rfl (hb hby at_504) rfl rfl) ?_
           refine oi (XS.iconst X7.here hx rfl (hb hby at_506)) ?_
           obtain ⟨cl86, Ar86, q86, S86, Ng86, H86, G86⟩ := id Vp7
           have hin86 : ¬ ((2 : Int32) < 0 ∨ cl86.slots.size ≤ ((2 : Int32)).toNatClampNeg) := inb_of S86 ⟨by decide, by decide⟩
           have hat86 : cl86.slots[((2 : Int32)).toNatClampNeg]? = some (.int t6.1) := H86 2 (by rw [S86]; decide)
           refine oo (fun _ => X7.caload hx (j := (2 : Int32)) (v := (.int t6.1)) (by rw [e7]; exact Ar86.1) (State.isArrayOf_alike hZ.alike Ar86.2.1) Ar86.2.2 hin86 hat86 (g := (mkF m 507 #[l0, l1, l2, l3, vn n, vn k, vi cz, vr b1, vr b8, vr b12, vr lp, vr lv, vr rs52, vi m53.1, vi m54.1, vi m55.1, vr b56, vr b57, vi 1, uu, uu] [(.int 2), (.ref b1), (.int 1), (.ref b56)])) rfl rfl (hb hby at_507) _) ?_
           obtain ⟨cl87, Ar87, q87, S87, Ng87, H87, G87⟩ := Va7
           obtain ⟨T87, h87, X87, e87, W87, st87⟩ := stC X7 hx hZ e7 Ar87 (j := (1 : Int32)) (inb_of S87 ⟨by decide, by decide⟩) (g := (mkF m 508 #[l0, l1, l2, l3, vn n, vn k, vi cz, vr b1, vr b8, vr b12, vr lp, vr lv, vr rs52, vi m53.1, vi m54.1, vi m55.1, vr b56, vr b57, vi 1, uu, uu] [(.int t6.1), (.int 1), (.ref b56)])) rfl rfl (hb hby at_508)
           have V87 : Arv Z h87 b56 k56 .char (3 : Int32) [(.int xa0), (.int (nar .char t6.1)), (.int 0)] (.int 0) := Arv.set Ar87 q87 S87 Ng87 H87 G87 (fits_nar_char _) W87 1 rfl (Nat.le_of_ble_eq_true rfl)
           rw [own_nar t6.2] at V87
           refine oo st87 ?_
           have N87 := Fr.snoc X87 N7 (by omega : n0 ≤ b56)
           have sz87 : h87.size = H7.size := W87.size
           have O87 : Old Z n0 h87 := O7.wr W87 (by omega)
           refine oi (XS.aload X87.here hx rfl (hb hby at_509) rfl rfl) ?_
           refine oi (XS.iload X87.here hx rfl (hb hby at_511) rfl) ?_
           refine oi (XS.aload X87.here hx rfl (hb hby at_513) rfl rfl) ?_
           refine oi (XS.iconst X87.here hx rfl (hb hby at_515)) ?_
           have f88 : Arv Z h87 b8 k8 .char (3 : Int32) [(.int d0), (.int d1), (.int d2)] (.int 0) := (Vv7.other W87 (one (by omega)))
           obtain ⟨cl89, Ar89, q89, S89, Ng89, H89, G89⟩ := id f88
           have hin89 : ¬ ((2 : Int32) < 0 ∨ cl89.slots.size ≤ ((2 : Int32)).toNatClampNeg) := inb_of S89 ⟨by decide, by decide⟩
           have hat89 : cl89.slots[((2 : Int32)).toNatClampNeg]? = some (.int d2) := H89 2 (by rw [S89]; decide)
           refine oo (fun _ => X87.caload hx (j := (2 : Int32)) (v := (.int d2)) (by rw [e87]; exact Ar89.1) (State.isArrayOf_alike hZ.alike Ar89.2.1) Ar89.2.2 hin89 hat89 (g := (mkF m 516 #[l0, l1, l2, l3, vn n, vn k, vi cz, vr b1, vr b8, vr b12, vr lp, vr lv, vr rs52, vi m53.1, vi m54.1, vi m55.1, vr b56, vr b57, vi 1, uu, uu] [(.int 2), (.ref b8), (.int 1), (.ref b57)])) rfl rfl (hb hby at_516) _) ?_
           have f90 : Arv Z h87 b57 k57 .char (3 : Int32) [(.int xb0), (.int 0), (.int 0)] (.int 0) := (Vb7.other W87 (one (by omega)))
           obtain ⟨cl91, Ar91, q91, S91, Ng91, H91, G91⟩ := f90
           obtain ⟨T91, h91, X91, e91, W91, st91⟩ := stC X87 hx hZ e87 Ar91 (j := (1 : Int32)) (inb_of S91 ⟨by decide, by decide⟩) (g := (mkF m 517 #[l0, l1, l2, l3, vn n, vn k, vi cz, vr b1, vr b8, vr b12, vr lp, vr lv, vr rs52, vi m53.1, vi m54.1, vi m55.1, vr b56, vr b57, vi 1, uu, uu] [(.int d2), (.int 1), (.ref b57)])) rfl rfl (hb hby at_517)
           have V91 : Arv Z h91 b57 k57 .char (3 : Int32) [(.int xb0), (.int (nar .char d2)), (.int 0)] (.int 0) := Arv.set Ar91 q91 S91 Ng91 H91 G91 (fits_nar_char _) W91 1 rfl (Nat.le_of_ble_eq_true rfl)
           rw [own_nar hd2] at V91
           refine oo st91 ?_
           have N91 := Fr.snoc X91 N87 (by omega : n0 ≤ b57)
           have sz91 : h91.size = h87.size := W91.size
           have O91 : Old Z n0 h91 := O87.wr W91 (by omega)
           refine oi (XS.iload X91.here hx rfl (hb hby at_518) rfl) ?_
           refine so (A := (T91.setTop (mkF m 520 #[l0, l1, l2, l3, vn n, vn k, vi cz, vr b1, vr b8, vr b12, vr lp, vr lv, vr rs52, vi m53.1, vi m54.1, vi m55.1, vr b56, vr b57, vi 1, uu, uu] [(.int 1)]))) ?_
           refine oi (XS.iconst X91.here hx rfl (hb hby at_520)) ?_
           refine oi (XS.iadd X91.here hx rfl (hb hby at_521) rfl) ?_
           refine oi (XS.istore X91.here hx rfl (hb hby at_522) rfl (l' := #[l0, l1, l2, l3, vn n, vn k, vi cz, vr b1, vr b8, vr b12, vr lp, vr lv, vr rs52, vi m53.1, vi m54.1, vi m55.1, vr b56, vr b57, vi 2, uu, uu]) rfl) ?_
           refine so (A := (T91.setTop (mkF m 524 #[l0, l1, l2, l3, vn n, vn k, vi cz, vr b1, vr b8, vr b12, vr lp, vr lv, vr rs52, vi m53.1, vi m54.1, vi m55.1, vr b56, vr b57, vi 2, uu, uu] []))) ?_
           have f92 : own_al Z h91 dq n0 rs52 er52 kr52 zs52 rm52 := ((AR7.wr W87 (one (by omega)) (one (by omega))).wr W91 (one (by omega)) (one (by omega)))
           have f93 : own_its Z h91 T52.heap.size zs52 (own_go2 cz (([f0, f1].take k).map fun f => (cz, f)) ([(t2.1, d0), (t4.1, d1), (t6.1, d2)].take n) false) := ((IR7.wr W87 (by omega)).wr W91 (by omega))
           have f94 : Arv Z h91 b1 k1 .char (3 : Int32) [(.int t2.1), (.int t4.1), (.int t6.1)] (.int 0) := ((Vp7.other W87 (one (by omega))).other W91 (one (by omega)))
           have f95 : Arv Z h91 b8 k8 .char (3 : Int32) [(.int d0), (.int d1), (.int d2)] (.int 0) := (f88.other W91 (one (by omega)))
           have f96 : Arv Z h91 b12 k12 .char (2 : Int32) [(.int f0), (.int f1)] (.int 0) := ((Vq7.other W87 (one (by omega))).other W91 (one (by omega)))
           have f97 : Arv Z h91 b56 k56 .char (3 : Int32) [(.int xa0), (.int t6.1), (.int 0)] (.int 0) := (V87.other W91 (one (by omega)))
           exact mid_3_2 _ _ _ xa0 xb0 t6.1 d2 (X91.more (by decide) (by decide)) e91 N91 O91 (by omega) f92 f93 f94 f95 f96 f97 V91 (by rw [own_kp1 (p := (t6.1, d2)) rfl ((own_nlt (a := 2) (by omega) (by omega)).mp hb492_84) (fun q => own_m0 m55.2 hb497_85 ⟨((own_nlt (a := 2) (by omega) (by omega)).mp hb492_84), q⟩), hK]; rfl)
          ·refine oi (XS.ifYes X7.here hx rfl (pc0 := 497) (pc' := 524) rfl (hb hby at_497) rfl ((if0 _ _).trans (feq hb497_85).2) (by decide) (by decide)) ?_
           refine so (A := (T7.setTop (mkF m 524 #[l0, l1, l2, l3, vn n, vn k, vi cz, vr b1, vr b8, vr b12, vr lp, vr lv, vr rs52, vi m53.1, vi m54.1, vi m55.1, vr b56, vr b57, vi 1, uu, uu] []))) ?_
           exact mid_3_1 _ _ _ xa0 xb0 (X7.more (by decide) (by decide)) e7 N7 O7 (by omega) AR7 IR7 Vp7 Vv7 Vq7 Va7 Vb7 (by rw [own_kp0 (p := (t6.1, d2)) rfl (fun _ => (own_m1 m55.2 hb497_85).2), hK])
         ·refine oi (XS.icmpYes X7.here hx rfl (pc0 := 492) (pc' := 524) rfl (hb hby at_492) rfl (flt hb492_84).2.2.2 (by decide) (by decide)) ?_
          refine so (A := (T7.setTop (mkF m 524 #[l0, l1, l2, l3, vn n, vn k, vi cz, vr b1, vr b8, vr b12, vr lp, vr lv, vr rs52, vi m53.1, vi m54.1, vi m55.1, vr b56, vr b57, vi 1, uu, uu] []))) ?_
          exact mid_3_1 _ _ _ xa0 xb0 (X7.more (by decide) (by decide)) e7 N7 O7 (by omega) AR7 IR7 Vp7 Vv7 Vq7 Va7 Vb7 (by rw [own_kp0 (p := (t6.1, d2)) rfl (fun q => (hb492_84 ((own_nlt (a := 2) (by omega) (by omega)).mpr q)).elim), hK])
        have mid_2_2 : ∀ (H7 : Heap) (T7 : State) (ls7 : List Loc) (xa0 xb0 xa1 xb1 : Int32), (Stand p l e room_1 s m #[.int p1, .int p2, .int p3, .int p4] below meth c T7 ls7 64 311) → (T7.heap = H7) → (Fr n0 ls7) → (Old Z n0 H7) → (T52.heap.size ≤ H7.size) → (own_al Z H7 dq n0 rs52 er52 kr52 zs52 rm52) → (own_its Z H7 T52.heap.size zs52 (own_go2 cz (([f0, f1].take k).map fun f => (cz, f)) ([(t2.1, d0), (t4.1, d1), (t6.1, d2)].take n) false)) → (Arv Z H7 b1 k1 .char (3 : Int32) [(.int t2.1), (.int t4.1), (.int t6.1)] (.int 0)) → (Arv Z H7 b8 k8 .char (3 : Int32) [(.int d0), (.int d1), (.int d2)] (.int 0)) → (Arv Z H7 b12 k12 .char (2 : Int32) [(.int f0), (.int f1)] (.int 0)) → (Arv Z H7 b56 k56 .char (3 : Int32) [(.int xa0), (.int xa1), (.int 0)] (.int 0)) → (Arv Z H7 b57 k57 .char (3 : Int32) [(.int xb0), (.int xb1), (.int 0)] (.int 0)) → (own_kept cz [(t2.1, d0), (t4.1, d1), (t6.1, d2)] n 2 = ([(xa0, xb0), (xa1, xb1)] : List (Int32 × Int32))) → own_go p e below s (Q_rm0 Z p1 p2 p3 p4 dq kd mr Gc h0 n0) room_1.cells room_1.slots (T7.setTop (mkF m 489 #[l0, l1, l2, l3, vn n, vn k, vi cz, vr b1, vr b8, vr b12, vr lp, vr lv, vr rs52, vi m53.1, vi m54.1, vi m55.1, vr b56, vr b57, vi 2, uu, uu] [])) := by
         intro H7 T7 ls7 xa0 xb0 xa1 xb1 X7 e7 N7 O7 hs7 AR7 IR7 Vp7 Vv7 Vq7 Va7 Vb7 hK
         refine so (A := (T7.setTop (mkF m 489 #[l0, l1, l2, l3, vn n, vn k, vi cz, vr b1, vr b8, vr b12, vr lp, vr lv, vr rs52, vi m53.1, vi m54.1, vi m55.1, vr b56, vr b57, vi 2, uu, uu] []))) ?_
         refine oi (XS.iload X7.here hx rfl (hb hby at_489) rfl) ?_
         refine oi (XS.iconst X7.here hx rfl (hb hby at_491)) ?_
         by_cases hb492_98 : (2 : Int32) < (Int32.ofNat n)
         ·refine oi (XS.icmpNo X7.here hx rfl (hb hby at_492) rfl (tlt hb492_98).2.2.2) ?_
          refine so (A := (T7.setTop (mkF m 495 #[l0, l1, l2, l3, vn n, vn k, vi cz, vr b1, vr b8, vr b12, vr lp, vr lv, vr rs52, vi m53.1, vi m54.1, vi m55.1, vr b56, vr b57, vi 2, uu, uu] []))) ?_
          refine oi (XS.iload X7.here hx rfl (hb hby at_495) rfl) ?_
          by_cases hb497_99 : m55.1 = (0 : Int32)
          ·refine oi (XS.ifNo X7.here hx rfl (hb hby at_497) rfl ((if0 _ _).trans (teq hb497_99).2)) ?_
           refine so (A := (T7.setTop (mkF m 500 #[l0, l1, l2, l3, vn n, vn k, vi cz, vr b1, vr b8, vr b12, vr lp, vr lv, vr rs52, vi m53.1, vi m54.1, vi m55.1, vr b56, vr b57, vi 2, uu, uu] []))) ?_
           refine oi (XS.aload X7.here hx rfl (hb hby at_500) rfl rfl) ?_
           refine oi (XS.iload X7.here hx rfl (hb hby at_502) rfl) ?_
           refine oi (XS.aload X7.here hx rfl (hb hby at_504) rfl rfl) ?_
           refine oi (XS.iconst X7.here hx rfl (hb hby at_506)) ?_
           obtain ⟨cl100, Ar100, q100, S100, Ng100, H100, G100⟩ := id Vp7
           have hin100 : ¬ ((2 : Int32) < 0 ∨ cl100.slots.size ≤ ((2 : Int32)).toNatClampNeg) := inb_of S100 ⟨by decide, by decide⟩
           have hat100 : cl100.slots[((2 : Int32)).toNatClampNeg]? = some (.int t6.1) := H100 2 (by rw [S100]; decide)
           refine oo (fun _ => X7.caload hx (j := (2 : Int32)) (v := (.int t6.1)) (by rw [e7]; exact Ar100.1) (State.isArrayOf_alike hZ.alike Ar100.2.1) Ar100.2.2 hin100 hat100 (g := (mkF m 507 #[l0, l1, l2, l3, vn n, vn k, vi cz, vr b1, vr b8, vr b12, vr lp, vr lv, vr rs52, vi m53.1, vi m54.1, vi m55.1, vr b56, vr b57, vi 2, uu, uu] [(.int 2), (.ref b1), (.int 2), (.ref b56)])) rfl rfl (hb hby at_507) _) ?_
           obtain ⟨cl101, Ar101, q101, S101, Ng101, H101, G101⟩ := Va7
           obtain ⟨T101, h101, X101, e101, W101, st101⟩ := stC X7 hx hZ e7 Ar101 (j := (2 : Int32)) (inb_of S101 ⟨by decide, by decide⟩) (g := (mkF m 508 #[l0, l1, l2, l3, vn n, vn k, vi cz, vr b1, vr b8, vr b12, vr lp, vr lv, vr rs52, vi m53.1, vi m54.1, vi m55.1, vr b56, vr b57, vi 2, uu, uu] [(.int t6.1), (.int 2), (.ref b56)])) rfl rfl (hb hby at_508)
           have V101 : Arv Z h101 b56 k56 .char (3 : Int32) [(.int xa0), (.int xa1), (.int (nar .char t6.1))] (.int 0) := Arv.set Ar101 q101 S101 Ng101 H101 G101 (fits_nar_char _) W101 2 rfl (Nat.le_of_ble_eq_true rfl)
           rw [own_nar t6.2] at V101
           refine oo st101 ?_
           have N101 := Fr.snoc X101 N7 (by omega : n0 ≤ b56)
           have sz101 : h101.size = H7.size := W101.size
           have O101 : Old Z n0 h101 := O7.wr W101 (by omega)
           refine oi (XS.aload X101.here hx rfl (hb hby at_509) rfl rfl) ?_
           refine oi (XS.iload X101.here hx rfl (hb hby at_511) rfl) ?_
           refine oi (XS.aload X101.here hx rfl (hb hby at_513) rfl rfl) ?_
           refine oi (XS.iconst X101.here hx rfl (hb hby at_515)) ?_
           have f102 : Arv Z h101 b8 k8 .char (3 : Int32) [(.int d0), (.int d1), (.int d2)] (.int 0) := (Vv7.other W101 (one (by omega)))
           obtain ⟨cl103, Ar103, q103, S103, Ng103, H103, G103⟩ := id f102
           have hin103 : ¬ ((2 : Int32) < 0 ∨ cl103.slots.size ≤ ((2 : Int32)).toNatClampNeg) := inb_of S103 ⟨by decide, by decide⟩
           have hat103 : cl103.slots[((2 : Int32)).toNatClampNeg]? = some (.int d2) := H103 2 (by rw [S103]; decide)
           refine oo (fun _ => X101.caload hx (j := (2 : Int32)) (v := (.int d2)) (by rw [e101]; exact Ar103.1) (State.isArrayOf_alike hZ.alike Ar103.2.1) Ar103.2.2 hin103 hat103 (g := (mkF m 516 #[l0, l1, l2, l3, vn n, vn k, vi cz, vr b1, vr b8, vr b12, vr lp, vr lv, vr rs52, vi m53.1, vi m54.1, vi m55.1, vr b56, vr b57, vi 2, uu, uu] [(.int 2), (.ref b8), (.int 2), (.ref b57)])) rfl rfl (hb hby at_516) _) ?_
           have f104 : Arv Z h101 b57 k57 .char (3 : Int32) [(.int xb0), (.int xb1), (.int 0)] (.int 0) := (Vb7.other W101 (one (by omega)))
           obtain ⟨cl105, Ar105, q105, S105, Ng105, H105, G105⟩ := f104
           obtain ⟨T105, h105, X105, e105, W105, st105⟩ := stC X101 hx hZ e101 Ar105 (j := (2 : Int32)) (inb_of S105 ⟨by decide, by decide⟩) (g := (mkF m 517 #[l0, l1, l2, l3, vn n, vn k, vi cz, vr b1, vr b8, vr b12, vr lp, vr lv, vr rs52, vi m53.1, vi m54.1, vi m55.1, vr b56, vr b57, vi 2, uu, uu] [(.int d2), (.int 2), (.ref b57)])) rfl rfl (hb hby at_517)
           have V105 : Arv Z h105 b57 k57 .char (3 : Int32) [(.int xb0), (.int xb1), (.int (nar .char d2))] (.int 0) := Arv.set Ar105 q105 S105 Ng105 H105 G105 (fits_nar_char _) W105 2 rfl (Nat.le_of_ble_eq_true rfl)
           rw [own_nar hd2] at V105
           refine oo st105 ?_
           have N105 := Fr.snoc X105 N101 (by omega : n0 ≤ b57)
           have sz105 : h105.size = h101.size := W105.size
           have O105 : Old Z n0 h105 := O101.wr W105 (by omega)
           refine oi (XS.iload X105.here hx rfl (hb hby at_518) rfl) ?_
           refine so (A := (T105.setTop (mkF m 520 #[l0, l1, l2, l3, vn n, vn k, vi cz, vr b1, vr b8, vr b12, vr lp, vr lv, vr rs52, vi m53.1, vi m54.1, vi m55.1, vr b56, vr b57, vi 2, uu, uu] [(.int 2)]))) ?_
           refine oi (XS.iconst X105.here hx rfl (hb hby at_520)) ?_
           refine oi (XS.iadd X105.here hx rfl (hb hby at_521) rfl) ?_
           refine oi (XS.istore X105.here hx rfl (hb hby at_522) rfl (l' := #[l0, l1, l2, l3, vn n, vn k, vi cz, vr b1, vr b8, vr b12, vr lp, vr lv, vr rs52, vi m53.1, vi m54.1, vi m55.1, vr b56, vr b57, vi 3, uu, uu]) rfl) ?_
           refine so (A := (T105.setTop (mkF m 524 #[l0, l1, l2, l3, vn n, vn k, vi cz, vr b1, vr b8, vr b12, vr lp, vr lv, vr rs52, vi m53.1, vi m54.1, vi m55.1, vr b56, vr b57, vi 3, uu, uu] []))) ?_
           have f106 : own_al Z h105 dq n0 rs52 er52 kr52 zs52 rm52 := ((AR7.wr W101 (one (by omega)) (one (by omega))).wr W105 (one (by omega)) (one (by omega)))
           have f107 : own_its Z h105 T52.heap.size zs52 (own_go2 cz (([f0, f1].take k).map fun f => (cz, f)) ([(t2.1, d0), (t4.1, d1), (t6.1, d2)].take n) false) := ((IR7.wr W101 (by omega)).wr W105 (by omega))
           have f108 : Arv Z h105 b1 k1 .char (3 : Int32) [(.int t2.1), (.int t4.1), (.int t6.1)] (.int 0) := ((Vp7.other W101 (one (by omega))).other W105 (one (by omega)))
           have f109 : Arv Z h105 b8 k8 .char (3 : Int32) [(.int d0), (.int d1), (.int d2)] (.int 0) := (f102.other W105 (one (by omega)))
           have f110 : Arv Z h105 b12 k12 .char (2 : Int32) [(.int f0), (.int f1)] (.int 0) := ((Vq7.other W101 (one (by omega))).other W105 (one (by omega)))
           have f111 : Arv Z h105 b56 k56 .char (3 : Int32) [(.int xa0), (.int xa1), (.int t6.1)] (.int 0) := (V101.other W105 (one (by omega)))
           exact mid_3_3 _ _ _ xa0 xb0 xa1 xb1 t6.1 d2 (X105.more (by decide) (by decide)) e105 N105 O105 (by omega) f106 f107 f108 f109 f110 f111 V105 (by rw [own_kp1 (p := (t6.1, d2)) rfl ((own_nlt (a := 2) (by omega) (by omega)).mp hb492_98) (fun q => own_m0 m55.2 hb497_99 ⟨((own_nlt (a := 2) (by omega) (by omega)).mp hb492_98), q⟩), hK]; rfl)
          ·refine oi (XS.ifYes X7.here hx rfl (pc0 := 497) (pc' := 524) rfl (hb hby at_497) rfl ((if0 _ _).trans (feq hb497_99).2) (by decide) (by decide)) ?_
           refine so (A := (T7.setTop (mkF m 524 #[l0, l1, l2, l3, vn n, vn k, vi cz, vr b1, vr b8, vr b12, vr lp, vr lv, vr rs52, vi m53.1, vi m54.1, vi m55.1, vr b56, vr b57, vi 2, uu, uu] []))) ?_
           exact mid_3_2 _ _ _ xa0 xb0 xa1 xb1 (X7.more (by decide) (by decide)) e7 N7 O7 (by omega) AR7 IR7 Vp7 Vv7 Vq7 Va7 Vb7 (by rw [own_kp0 (p := (t6.1, d2)) rfl (fun _ => (own_m1 m55.2 hb497_99).2), hK])
         ·refine oi (XS.icmpYes X7.here hx rfl (pc0 := 492) (pc' := 524) rfl (hb hby at_492) rfl (flt hb492_98).2.2.2 (by decide) (by decide)) ?_
          refine so (A := (T7.setTop (mkF m 524 #[l0, l1, l2, l3, vn n, vn k, vi cz, vr b1, vr b8, vr b12, vr lp, vr lv, vr rs52, vi m53.1, vi m54.1, vi m55.1, vr b56, vr b57, vi 2, uu, uu] []))) ?_
          exact mid_3_2 _ _ _ xa0 xb0 xa1 xb1 (X7.more (by decide) (by decide)) e7 N7 O7 (by omega) AR7 IR7 Vp7 Vv7 Vq7 Va7 Vb7 (by rw [own_kp0 (p := (t6.1, d2)) rfl (fun q => (hb492_98 ((own_nlt (a := 2) (by omega) (by omega)).mpr q)).elim), hK])
        have mid_1_0 : ∀ (H7 : Heap) (T7 : State) (ls7 : List Loc), (Stand p l e room_1 s m #[.int p1, .int p2, .int p3, .int p4] below meth c T7 ls7 64 311) → (T7.heap = H7) → (Fr n0 ls7) → (Old Z n0 H7) → (T52.heap.size ≤ H7.size) → (own_al Z H7 dq n0 rs52 er52 kr52 zs52 rm52) → (own_its Z H7 T52.heap.size zs52 (own_go2 cz (([f0, f1].take k).map fun f => (cz, f)) ([(t2.1, d0), (t4.1, d1), (t6.1, d2)].take n) false)) → (Arv Z H7 b1 k1 .char (3 : Int32) [(.int t2.1), (.int t4.1), (.int t6.1)] (.int 0)) → (Arv Z H7 b8 k8 .char (3 : Int32) [(.int d0), (.int d1), (.int d2)] (.int 0)) → (Arv Z H7 b12 k12 .char (2 : Int32) [(.int f0), (.int f1)] (.int 0)) → (Arv Z H7 b56 k56 .char (3 : Int32) [(.int 0), (.int 0), (.int 0)] (.int 0)) → (Arv Z H7 b57 k57 .char (3 : Int32) [(.int 0), (.int 0), (.int 0)] (.int 0)) → (own_kept cz [(t2.1, d0), (t4.1, d1), (t6.1, d2)] n 1 = ([] : List (Int32 × Int32))) → own_go p e below s (Q_rm0 Z p1 p2 p3 p4 dq kd mr Gc h0 n0) room_1.cells room_1.slots (T7.setTop (mkF m 454 #[l0, l1, l2, l3, vn n, vn k, vi cz, vr b1, vr b8, vr b12, vr lp, vr lv, vr rs52, vi m53.1, vi m54.1, vi m55.1, vr b56, vr b57, vz, uu, uu] [])) := by
         intro H7 T7 ls7  X7 e7 N7 O7 hs7 AR7 IR7 Vp7 Vv7 Vq7 Va7 Vb7 hK
         refine so (A := (T7.setTop (mkF m 454 #[l0, l1, l2, l3, vn n, vn k, vi cz, vr b1, vr b8, vr b12, vr lp, vr lv, vr rs52, vi m53.1, vi m54.1, vi m55.1, vr b56, vr b57, vz, uu, uu] []))) ?_
         refine oi (XS.iload X7.here hx rfl (hb hby at_454) rfl) ?_
         refine oi (XS.iconst X7.here hx rfl (hb hby at_456)) ?_
         by_cases hb457_112 : (1 : Int32) < (Int32.ofNat n)
         ·refine oi (XS.icmpNo X7.here hx rfl (hb hby at_457) rfl (tlt hb457_112).2.2.2) ?_
          refine so (A := (T7.setTop (mkF m 460 #[l0, l1, l2, l3, vn n, vn k, vi cz, vr b1, vr b8, vr b12, vr lp, vr lv, vr rs52, vi m53.1, vi m54.1, vi m55.1, vr b56, vr b57, vz, uu, uu] []))) ?_
          refine oi (XS.iload X7.here hx rfl (hb hby at_460) rfl) ?_
          by_cases hb462_113 : m54.1 = (0 : Int32)
          ·refine oi (XS.ifNo X7.here hx rfl (hb hby at_462) rfl ((if0 _ _).trans (teq hb462_113).2)) ?_
           refine so (A := (T7.setTop (mkF m 465 #[l0, l1, l2, l3, vn n, vn k, vi cz, vr b1, vr b8, vr b12, vr lp, vr lv, vr rs52, vi m53.1, vi m54.1, vi m55.1, vr b56, vr b57, vz, uu, uu] []))) ?_
           refine oi (XS.aload X7.here hx rfl (hb hby at_465) rfl rfl) ?_
           refine oi (XS.iload X7.here hx rfl (hb hby at_467) rfl) ?_
           refine oi (XS.aload X7.here hx rfl (hb hby at_469) rfl rfl) ?_
           refine oi (XS.iconst X7.here hx rfl (hb hby at_471)) ?_
           obtain ⟨cl114, Ar114, q114, S114, Ng114, H114, G114⟩ := id Vp7
           have hin114 : ¬ ((1 : Int32) < 0 ∨ cl114.slots.size ≤ ((1 : Int32)).toNatClampNeg) := inb_of S114 ⟨by decide, by decide⟩
           have hat114 : cl114.slots[((1 : Int32)).toNatClampNeg]? = some (.int t4.1) := H114 1 (by rw [S114]; decide)
           refine oo (fun _ => X7.caload hx (j := (1 : Int32)) (v := (.int t4.1)) (by rw [e7]; exact Ar114.1) (State.isArrayOf_alike hZ.alike Ar114.2.1) Ar114.2.2 hin114 hat114 (g := (mkF m 472 #[l0, l1, l2, l3, vn n, vn k, vi cz, vr b1, vr b8, vr b12, vr lp, vr lv, vr rs52, vi m53.1, vi m54.1, vi m55.1, vr b56, vr b57, vz, uu, uu] [(.int 1), (.ref b1), (.int 0), (.ref b56)])) rfl rfl (hb hby at_472) _) ?_
           obtain ⟨cl115, Ar115, q115, S115, Ng115, H115, G115⟩ := Va7
           obtain ⟨T115, h115, X115, e115, W115, st115⟩ := stC X7 hx hZ e7 Ar115 (j := (0 : Int32)) (inb_of S115 ⟨by decide, by decide⟩) (g := (mkF m 473 #[l0, l1, l2, l3, vn n, vn k, vi cz, vr b1, vr b8, vr b12, vr lp, vr lv, vr rs52, vi m53.1, vi m54.1, vi m55.1, vr b56, vr b57, vz, uu, uu] [(.int t4.1), (.int 0), (.ref b56)])) rfl rfl (hb hby at_473)
           have V115 : Arv Z h115 b56 k56 .char (3 : Int32) [(.int (nar .char t4.1)), (.int 0), (.int 0)] (.int 0) := Arv.set Ar115 q115 S115 Ng115 H115 G115 (fits_nar_char _) W115 0 rfl (Nat.le_of_ble_eq_true rfl)
           rw [own_nar t4.2] at V115
           refine oo st115 ?_
           have N115 := Fr.snoc X115 N7 (by omega : n0 ≤ b56)
           have sz115 : h115.size = H7.size := W115.size
           have O115 : Old Z n0 h115 := O7.wr W115 (by omega)
           refine oi (XS.aload X115.here hx rfl (hb hby at_474) rfl rfl) ?_
           refine oi (XS.iload X115.here hx rfl (hb hby at_476) rfl) ?_
           refine oi (XS.aload X115.here hx rfl (hb hby at_478) rfl rfl) ?_
           refine oi (XS.iconst X115.here hx rfl (hb hby at_480)) ?_
           have f116 : Arv Z h115 b8 k8 .char (3 : Int32) [(.int d0), (.int d1), (.int d2)] (.int 0) := (Vv7.other W115 (one (by omega)))
           obtain ⟨cl117, Ar117, q117, S117, Ng117, H117, G117⟩ := id f116
           have hin117 : ¬ ((1 : Int32) < 0 ∨ cl117.slots.size ≤ ((1 : Int32)).toNatClampNeg) := inb_of S117 ⟨by decide, by decide⟩
           have hat117 : cl117.slots[((1 : Int32)).toNatClampNeg]? = some (.int d1) := H117 1 (by rw [S117]; decide)
           refine oo (fun _ => X115.caload hx (j := (1 : Int32)) (v := (.int d1)) (by rw [e115]; exact Ar117.1) (State.isArrayOf_alike hZ.alike Ar117.2.1) Ar117.2.2 hin117 hat117 (g := (mkF m 481 #[l0, l1, l2, l3, vn n, vn k, vi cz, vr b1, vr b8, vr b12, vr lp, vr lv, vr rs52, vi m53.1, vi m54.1, vi m55.1, vr b56, vr b57, vz, uu, uu] [(.int 1), (.ref b8), (.int 0), (.ref b57)])) rfl rfl (hb hby at_481) _) ?_
           have f118 : Arv Z h115 b57 k57 .char (3 : Int32) [(.int 0), (.int 0), (.int 0)] (.int 0) := (Vb7.other W115 (one (by omega)))
           obtain ⟨cl119, Ar119, q119, S119, Ng119, H119, G119⟩ := f118
           obtain ⟨T119, h119, X119, e119, W119, st119⟩ := stC X115 hx hZ e115 Ar119 (j := (0 : Int32)) (inb_of S119 ⟨by decide, by decide⟩) (g := (mkF m 482 #[l0, l1, l2, l3, vn n, vn k, vi cz, vr b1, vr b8, vr b12, vr lp, vr lv, vr rs52, vi m53.1, vi m54.1, vi m55.1, vr b56, vr b57, vz, uu, uu] [(.int d1), (.int 0), (.ref b57)])) rfl rfl (hb hby at_482)
           have V119 : Arv Z h119 b57 k57 .char (3 : Int32) [(.int (nar .char d1)), (.int 0), (.int 0)] (.int 0) := Arv.set Ar119 q119 S119 Ng119 H119 G119 (fits_nar_char _) W119 0 rfl (Nat.le_of_ble_eq_true rfl)
           rw [own_nar hd1] at V119
           refine oo st119 ?_
           have N119 := Fr.snoc X119 N115 (by omega : n0 ≤ b57)
           have sz119 : h119.size = h115.size := W119.size
           have O119 : Old Z n0 h119 := O115.wr W119 (by omega)
           refine oi (XS.iload X119.here hx rfl (hb hby at_483) rfl) ?_
           refine so (A := (T119.setTop (mkF m 485 #[l0, l1, l2, l3, vn n, vn k, vi cz, vr b1, vr b8, vr b12, vr lp, vr lv, vr rs52, vi m53.1, vi m54.1, vi m55.1, vr b56, vr b57, vz, uu, uu] [(.int 0)]))) ?_
           refine oi (XS.iconst X119.here hx rfl (hb hby at_485)) ?_
           refine oi (XS.iadd X119.here hx rfl (hb hby at_486) rfl) ?_
           refine oi (XS.istore X119.here hx rfl (hb hby at_487) rfl (l' := #[l0, l1, l2, l3, vn n, vn k, vi cz, vr b1, vr b8, vr b12, vr lp, vr lv, vr rs52, vi m53.1, vi m54.1, vi m55.1, vr b56, vr b57, vi 1, uu, uu]) rfl) ?_
           refine so (A := (T119.setTop (mkF m 489 #[l0, l1, l2, l3, vn n, vn k, vi cz, vr b1, vr b8, vr b12, vr lp, vr lv, vr rs52, vi m53.1, vi m54.1, vi m55.1, vr b56, vr b57, vi 1, uu, uu] []))) ?_
           have f120 : own_al Z h119 dq n0 rs52 er52 kr52 zs52 rm52 := ((AR7.wr W115 (one (by omega)) (one (by omega))).wr W119 (one (by omega)) (one (by omega)))
           have f121 : own_its Z h119 T52.heap.size zs52 (own_go2 cz (([f0, f1].take k).map fun f => (cz, f)) ([(t2.1, d0), (t4.1, d1), (t6.1, d2)].take n) false) := ((IR7.wr W115 (by omega)).wr W119 (by omega))
           have f122 : Arv Z h119 b1 k1 .char (3 : Int32) [(.int t2.1), (.int t4.1), (.int t6.1)] (.int 0) := ((Vp7.other W115 (one (by omega))).other W119 (one (by omega)))
           have f123 : Arv Z h119 b8 k8 .char (3 : Int32) [(.int d0), (.int d1), (.int d2)] (.int 0) := (f116.other W119 (one (by omega)))
           have f124 : Arv Z h119 b12 k12 .char (2 : Int32) [(.int f0), (.int f1)] (.int 0) := ((Vq7.other W115 (one (by omega))).other W119 (one (by omega)))
           have f125 : Arv Z h119 b56 k56 .char (3 : Int32) [(.int t4.1), (.int 0), (.int 0)] (.int 0) := (V115.other W119 (one (by omega)))
           exact mid_2_1 _ _ _ t4.1 d1 (X119.more (by decide) (by decide)) e119 N119 O119 (by omega) f120 f121 f122 f123 f124 f125 V119 (by rw [own_kp1 (p := (t4.1, d1)) rfl ((own_nlt (a := 1) (by omega) (by omega)).mp hb457_112) (fun q => own_m0 m54.2 hb462_113 ⟨((own_nlt (a := 1) (by omega) (by omega)).mp hb457_112), q⟩), hK]; rfl)
          ·refine oi (XS.ifYes X7.here hx rfl (pc0 := 462) (pc' := 489) rfl (hb hby at_462) rfl ((if0 _ _).trans (feq hb462_113).2) (by decide) (by decide)) ?_
           refine so (A := (T7.setTop (mkF m 489 #[l0, l1, l2, l3, vn n, vn k, vi cz, vr b1, vr b8, vr b12, vr lp, vr lv, vr rs52, vi m53.1, vi m54.1, vi m55.1, vr b56, vr b57, vz, uu, uu] []))) ?_
           exact mid_2_0 _ _ _  (X7.more (by decide) (by decide)) e7 N7 O7 (by omega) AR7 IR7 Vp7 Vv7 Vq7 Va7 Vb7 (by rw [own_kp0 (p := (t4.1, d1)) rfl (fun _ => (own_m1 m54.2 hb462_113).2), hK])
         ·refine oi (XS.icmpYes X7.here hx rfl (pc0 := 457) (pc' := 489) rfl (hb hby at_457) rfl (flt hb457_112).2.2.2 (by decide) (by decide)) ?_
          refine so (A := (T7.setTop (mkF m 489 #[l0, l1, l2, l3, vn n, vn k, vi cz, vr b1, vr b8, vr b12, vr lp, vr lv, vr rs52, vi m53.1, vi m54.1, vi m55.1, vr b56, vr b57, vz, uu, uu] []))) ?_
          exact mid_2_0 _ _ _  (X7.more (by decide) (by decide)) e7 N7 O7 (by omega) AR7 IR7 Vp7 Vv7 Vq7 Va7 Vb7 (by rw [own_kp0 (p := (t4.1, d1)) rfl (fun q => (hb457_112 ((own_nlt (a := 1) (by omega) (by omega)).mpr q)).elim), hK])
        have mid_1_1 : ∀ (H7 : Heap) (T7 : State) (ls7 : List Loc) (xa0 xb0 : Int32), (Stand p l e room_1 s m #[.int p1, .int p2, .int p3, .int p4] below meth c T7 ls7 64 311) → (T7.heap = H7) → (Fr n0 ls7) → (Old Z n0 H7) → (T52.heap.size ≤ H7.size) → (own_al Z H7 dq n0 rs52 er52 kr52 zs52 rm52) → (own_its Z H7 T52.heap.size zs52 (own_go2 cz (([f0, f1].take k).map fun f => (cz, f)) ([(t2.1, d0), (t4.1, d1), (t6.1, d2)].take n) false)) → (Arv Z H7 b1 k1 .char (3 : Int32) [(.int t2.1), (.int t4.1), (.int t6.1)] (.int 0)) → (Arv Z H7 b8 k8 .char (3 : Int32) [(.int d0), (.int d1), (.int d2)] (.int 0)) → (Arv Z H7 b12 k12 .char (2 : Int32) [(.int f0), (.int f1)] (.int 0)) → (Arv Z H7 b56 k56 .char (3 : Int32) [(.int xa0), (.int 0), (.int 0)] (.int 0)) → (Arv Z H7 b57 k57 .char (3 : Int32) [(.int xb0), (.int 0), (.int 0)] (.int 0)) → (own_kept cz [(t2.1, d0), (t4.1, d1), (t6.1, d2)] n 1 = ([(xa0, xb0)] : List (Int32 × Int32))) → own_go p e below s (Q_rm0 Z p1 p2 p3 p4 dq kd mr Gc h0 n0) room_1.cells room_1.slots (T7.setTop (mkF m 454 #[l0, l1, l2, l3, vn n, vn k, vi cz, vr b1, vr b8, vr b12, vr lp, vr lv, vr rs52, vi m53.1, vi m54.1, vi m55.1, vr b56, vr b57, vi 1, uu, uu] [])) := by
         intro H7 T7 ls7 xa0 xb0 X7 e7 N7 O7 hs7 AR7 IR7 Vp7 Vv7 Vq7 Va7 Vb7 hK
         refine so (A := (T7.setTop (mkF m 454 #[l0, l1, l2, l3, vn n, vn k, vi cz, vr b1, vr b8, vr b12, vr lp, vr lv, vr rs52, vi m53.1, vi m54.1, vi m55.1, vr b56, vr b57, vi 1, uu, uu] []))) ?_
         refine oi (XS.iload X7.here hx rfl (hb hby at_454) rfl) ?_
         refine oi (XS.iconst X7.here hx rfl (hb hby at_456)) ?_
         by_cases hb457_126 : (1 : Int32) < (Int32.ofNat n)
         ·refine oi (XS.icmpNo X7.here hx rfl (hb hby at_457) rfl (tlt hb457_126).2.2.2) ?_
          refine so (A := (T7.setTop (mkF m 460 #[l0, l1, l2, l3, vn n, vn k, vi cz, vr b1, vr b8, vr b12, vr lp, vr lv, vr rs52, vi m53.1, vi m54.1, vi m55.1, vr b56, vr b57, vi 1, uu, uu] []))) ?_
          refine oi (XS.iload X7.here hx rfl (hb hby at_460) rfl) ?_
          by_cases hb462_127 : m54.1 = (0 : Int32)
          ·refine oi (XS.ifNo X7.here hx rfl (hb hby at_462) rfl ((if0 _ _).trans (teq hb462_127).2)) ?_
           refine so (A := (T7.setTop (mkF m 465 #[l0, l1, l2, l3, vn n, vn k, vi cz, vr b1, vr b8, vr b12, vr lp, vr lv, vr rs52, vi m53.1, vi m54.1, vi m55.1, vr b56, vr b57, vi 1, uu, uu] []))) ?_
           refine oi (XS.aload X7.here hx rfl (hb hby at_465) rfl rfl) ?_
           refine oi (XS.iload X7.here hx rfl (hb hby at_467) rfl) ?_
           refine oi (XS.aload X7.here hx rfl (hb hby at_469) rfl rfl) ?_
           refine oi (XS.iconst X7.here hx rfl (hb hby at_471)) ?_
           obtain ⟨cl128, Ar128, q128, S128, Ng128, H128, G128⟩ := id Vp7
           have hin128 : ¬ ((1 : Int32) < 0 ∨ cl128.slots.size ≤ ((1 : Int32)).toNatClampNeg) := inb_of S128 ⟨by decide, by decide⟩
           have hat128 : cl128.slots[((1 : Int32)).toNatClampNeg]? = some (.int t4.1) := H128 1 (by rw [S128]; decide)
           refine oo (fun _ => X7.caload hx (j := (1 : Int32)) (v := (.int t4.1)) (by rw [e7]; exact Ar128.1) (State.isArrayOf_alike hZ.alike Ar128.2.1) Ar128.2.2 hin128 hat128 (g := (mkF m 472 #[l0, l1, l2, l3, vn n, vn k, vi cz, vr b1, vr b8, vr b12, vr lp, vr lv, vr rs52, vi m53.1, vi m54.1, vi m55.1, vr b56, vr b57, vi 1, uu, uu] [(.int 1), (.ref b1), (.int 1), (.ref b56)])) rfl rfl (hb hby at_472) _) ?_
           obtain ⟨cl129, Ar129, q129, S129, Ng129, H129, G129⟩ := Va7
           obtain ⟨T129, h129, X129, e129, W129, st129⟩ := stC X7 hx hZ e7 Ar129 (j := (1 : Int32)) (inb_of S129 ⟨by decide, by decide⟩) (g := (mkF m 473 #[l0, l1, l2, l3, vn n, vn k, vi cz, vr b1, vr b8, vr b12, vr lp, vr lv, vr rs52, vi m53.1, vi m54.1, vi m55.1, vr b56, vr b57, vi 1, uu, uu] [(.int t4.1), (.int 1), (.ref b56)])) rfl rfl (hb hby at_473)
           have V129 : Arv Z h129 b56 k56 .char (3 : Int32) [(.int xa0), (.int (nar .char t4.1)), (.int 0)] (.int 0) := Arv.set Ar129 q129 S129 Ng129 H129 G129 (fits_nar_char _) W129 1 rfl (Nat.le_of_ble_eq_true rfl)
           rw [own_nar t4.2] at V129
           refine oo st129 ?_
           have N129 := Fr.snoc X129 N7 (by omega : n0 ≤ b56)
           have sz129 : h129.size = H7.size := W129.size
           have O129 : Old Z n0 h129 := O7.wr W129 (by omega)
           refine oi (XS.aload X129.here hx rfl (hb hby at_474) rfl rfl) ?_
           refine oi (XS.iload X129.here hx rfl (hb hby at_476) rfl) ?_
           refine oi (XS.aload X129.here hx rfl (hb hby at_478) rfl rfl) ?_
           refine oi (XS.iconst X129.here hx rfl (hb hby at_480)) ?_
           have f130 : Arv Z h129 b8 k8 .char (3 : Int32) [(.int d0), (.int d1), (.int d2)] (.int 0) := (Vv7.other W129 (one (by omega)))
           obtain ⟨cl131, Ar131, q131, S131, Ng131, H131, G131⟩ := id f130
           have hin131 : ¬ ((1 : Int32) < 0 ∨ cl131.slots.size ≤ ((1 : Int32)).toNatClampNeg) := inb_of S131 ⟨by decide, by decide⟩
           have hat131 : cl131.slots[((1 : Int32)).toNatClampNeg]? = some (.int d1) := H131 1 (by rw [S131]; decide)
           refine oo (fun _ => X129.caload hx (j := (1 : Int32)) (v := (.int d1)) (by rw [e129]; exact Ar131.1) (State.isArrayOf_alike hZ.alike Ar131.2.1) Ar131.2.2 hin131 hat131 (g := (mkF m 481 #[l0, l1, l2, l3, vn n, vn k, vi cz, vr b1, vr b8, vr b12, vr lp, vr lv, vr rs52, vi m53.1, vi m54.1, vi m55.1, vr b56, vr b57, vi 1, uu, uu] [(.int 1), (.ref b8), (.int 1), (.ref b57)])) rfl rfl (hb hby at_481) _) ?_
           have f132 : Arv Z h129 b57 k57 .char (3 : Int32) [(.int xb0), (.int 0), (.int 0)] (.int 0) := (Vb7.other W129 (one (by omega)))
           obtain ⟨cl133, Ar133, q133, S133, Ng133, H133, G133⟩ := f132
           obtain ⟨T133, h133, X133, e133, W133, st133⟩ := stC X129 hx hZ e129 Ar133 (j := (1 : Int32)) (inb_of S133 ⟨by decide, by decide⟩) (g := (mkF m 482 #[l0, l1, l2, l3, vn n, vn k, vi cz, vr b1, vr b8, vr b12, vr lp, vr lv, vr rs52, vi m53.1, vi m54.1, vi m55.1, vr b56, vr b57, vi 1, uu, uu] [(.int d1), (.int 1), (.ref b57)])) rfl rfl (hb hby at_482)
           have V133 : Arv Z h133 b57 k57 .char (3 : Int32) [(.int xb0), (.int (nar .char d1)), (.int 0)] (.int 0) := Arv.set Ar133 q133 S133 Ng133 H133 G133 (fits_nar_char _) W133 1 rfl (Nat.le_of_ble_eq_true rfl)
           rw [own_nar hd1] at V133
           refine oo st133 ?_
           have N133 := Fr.snoc X133 N129 (by omega : n0 ≤ b57)
           have sz133 : h133.size = h129.size := W133.size
           have O133 : Old Z n0 h133 := O129.wr W133 (by omega)
           refine oi (XS.iload X133.here hx rfl (hb hby at_483) rfl) ?_
           refine so (A := (T133.setTop (mkF m 485 #[l0, l1, l2, l3, vn n, vn k, vi cz, vr b1, vr b8, vr b12, vr lp, vr lv, vr rs52, vi m53.1, vi m54.1, vi m55.1, vr b56, vr b57, vi 1, uu, uu] [(.int 1)]))) ?_
           refine oi (XS.iconst X133.here hx rfl (hb hby at_485)) ?_
           refine oi (XS.iadd X133.here hx rfl (hb hby at_486) rfl) ?_
           refine oi (XS.istore X133.here hx rfl (hb hby at_487) rfl (l' := #[l0, l1, l2, l3, vn n, vn k, vi cz, vr b1, vr b8, vr b12, vr lp, vr lv, vr rs52, vi m53.1, vi m54.1, vi m55.1, vr b56, vr b57, vi 2, uu, uu]) rfl) ?_
           refine so (A := (T133.setTop (mkF m 489 #[l0, l1, l2, l3, vn n, vn k, vi cz, vr b1, vr b8, vr b12, vr lp, vr lv, vr rs52, vi m53.1, vi m54.1, vi m55.1, vr b56, vr b57, vi 2, uu, uu] []))) ?_
           have f134 : own_al Z h133 dq n0 rs52 er52 kr52 zs52 rm52 := ((AR7.wr W129 (one (by omega)) (one (by omega))).wr W133 (one (by omega)) (one (by omega)))
           have f135 : own_its Z h133 T52.heap.size zs52 (own_go2 cz (([f0, f1].take k).map fun f => (cz, f)) ([(t2.1, d0), (t4.1, d1), (t6.1, d2)].take n) false) := ((IR7.wr W129 (by omega)).wr W133 (by omega))
           have f136 : Arv Z h133 b1 k1 .char (3 : Int32) [(.int t2.1), (.int t4.1), (.int t6.1)] (.int 0) := ((Vp7.other W129 (one (by omega))).other W133 (one (by omega)))
           have f137 : Arv Z h133 b8 k8 .char (3 : Int32) [(.int d0), (.int d1), (.int d2)] (.int 0) := (f130.other W133 (one (by omega)))
           have f138 : Arv Z h133 b12 k12 .char (2 : Int32) [(.int f0), (.int f1)] (.int 0) := ((Vq7.other W129 (one (by omega))).other W133 (one (by omega)))
           have f139 : Arv Z h133 b56 k56 .char (3 : Int32) [(.int xa0), (.int t4.1), (.int 0)] (.int 0) := (V129.other W133 (one (by omega)))
           exact mid_2_2 _ _ _ xa0 xb0 t4.1 d1 (X133.more (by decide) (by decide)) e133 N133 O133 (by omega) f134 f135 f136 f137 f138 f139 V133 (by rw [own_kp1 (p := (t4.1, d1)) rfl ((own_nlt (a := 1) (by omega) (by omega)).mp hb457_126) (fun q => own_m0 m54.2 hb462_127 ⟨((own_nlt (a := 1) (by omega) (by omega)).mp hb457_126), q⟩), hK]; rfl)
          ·refine oi (XS.ifYes X7.here hx rfl (pc0 := 462) (pc' := 489) rfl (hb hby at_462) rfl ((if0 _ _).trans (feq hb462_127).2) (by decide) (by decide)) ?_
           refine so (A := (T7.setTop (mkF m 489 #[l0, l1, l2, l3, vn n, vn k, vi cz, vr b1, vr b8, vr b12, vr lp, vr lv, vr rs52, vi m53.1, vi m54.1, vi m55.1, vr b56, vr b57, vi 1, uu, uu] []))) ?_
           exact mid_2_1 _ _ _ xa0 xb0 (X7.more (by decide) (by decide)) e7 N7 O7 (by omega) AR7 IR7 Vp7 Vv7 Vq7 Va7 Vb7 (by rw [own_kp0 (p := (t4.1, d1)) rfl (fun _ => (own_m1 m54.2 hb462_127).2), hK])
         ·refine oi (XS.icmpYes X7.here hx rfl (pc0 := 457) (pc' := 489) rfl (hb hby at_457) rfl (flt hb457_126).2.2.2 (by decide) (by decide)) ?_
          refine so (A := (T7.setTop (mkF m 489 #[l0, l1, l2, l3, vn n, vn k, vi cz, vr b1, vr b8, vr b12, vr lp, vr lv, vr rs52, vi m53.1, vi m54.1, vi m55.1, vr b56, vr b57, vi 1, uu, uu] []))) ?_
          exact mid_2_1 _ _ _ xa0 xb0 (X7.more (by decide) (by decide)) e7 N7 O7 (by omega) AR7 IR7 Vp7 Vv7 Vq7 Va7 Vb7 (by rw [own_kp0 (p := (t4.1, d1)) rfl (fun q => (hb457_126 ((own_nlt (a := 1) (by omega) (by omega)).mpr q)).elim), hK])
        have mid_0_0 : ∀ (H7 : Heap) (T7 : State) (ls7 : List Loc), (Stand p l e room_1 s m #[.int p1, .int p2, .int p3, .int p4] below meth c T7 ls7 64 311) → (T7.heap = H7) → (Fr n0 ls7) → (Old Z n0 H7) → (T52.heap.size ≤ H7.size) → (own_al Z H7 dq n0 rs52 er52 kr52 zs52 rm52) → (own_its Z H7 T52.heap.size zs52 (own_go2 cz (([f0, f1].take k).map fun f => (cz, f)) ([(t2.1, d0), (t4.1, d1), (t6.1, d2)].take n) false)) → (Arv Z H7 b1 k1 .char (3 : Int32) [(.int t2.1), (.int t4.1), (.int t6.1)] (.int 0)) → (Arv Z H7 b8 k8 .char (3 : Int32) [(.int d0), (.int d1), (.int d2)] (.int 0)) → (Arv Z H7 b12 k12 .char (2 : Int32) [(.int f0), (.int f1)] (.int 0)) → (Arv Z H7 b56 k56 .char (3 : Int32) [(.int 0), (.int 0), (.int 0)] (.int 0)) → (Arv Z H7 b57 k57 .char (3 : Int32) [(.int 0), (.int 0), (.int 0)] (.int 0)) → (own_kept cz [(t2.1, d0), (t4.1, d1), (t6.1, d2)] n 0 = ([] : List (Int32 × Int32))) → own_go p e below s (Q_rm0 Z p1 p2 p3 p4 dq kd mr Gc h0 n0) room_1.cells room_1.slots (T7.setTop (mkF m 420 #[l0, l1, l2, l3, vn n, vn k, vi cz, vr b1, vr b8, vr b12, vr lp, vr lv, vr rs52, vi m53.1, vi m54.1, vi m55.1, vr b56, vr b57, vz, uu, uu] [])) := by
         intro H7 T7 ls7  X7 e7 N7 O7 hs7 AR7 IR7 Vp7 Vv7 Vq7 Va7 Vb7 hK
         refine so (A := (T7.setTop (mkF m 420 #[l0, l1, l2, l3, vn n, vn k, vi cz, vr b1, vr b8, vr b12, vr lp, vr lv, vr rs52, vi m53.1, vi m54.1, vi m55.1, vr b56, vr b57, vz, uu, uu] []))) ?_
         refine oi (XS.iload X7.here hx rfl (hb hby at_420) rfl) ?_
         by_cases hb422_140 : (0 : Int32) < (Int32.ofNat n)
         ·refine oi (XS.ifNo X7.here hx rfl (hb hby at_422) rfl ((if0 _ _).trans (tlt hb422_140).2.2.2)) ?_
          refine so (A := (T7.setTop (mkF m 425 #[l0, l1, l2, l3, vn n, vn k, vi cz, vr b1, vr b8, vr b12, vr lp, vr lv, vr rs52, vi m53.1, vi m54.1, vi m55.1, vr b56, vr b57, vz, uu, uu] []))) ?_
          refine oi (XS.iload X7.here hx rfl (hb hby at_425) rfl) ?_
          by_cases hb427_141 : m53.1 = (0 : Int32)
          ·refine oi (XS.ifNo X7.here hx rfl (hb hby at_427) rfl ((if0 _ _).trans (teq hb427_141).2)) ?_
           refine so (A := (T7.setTop (mkF m 430 #[l0, l1, l2, l3, vn n, vn k, vi cz, vr b1, vr b8, vr b12, vr lp, vr lv, vr rs52, vi m53.1, vi m54.1, vi m55.1, vr b56, vr b57, vz, uu, uu] []))) ?_
           refine oi (XS.aload X7.here hx rfl (hb hby at_430) rfl rfl) ?_
           refine oi (XS.iload X7.here hx rfl (hb hby at_432) rfl) ?_
           refine oi (XS.aload X7.here hx rfl (hb hby at_434) rfl rfl) ?_
           refine oi (XS.iconst X7.here hx rfl (hb hby at_436)) ?_
           obtain ⟨cl142, Ar142, q142, S142, Ng142, H142, G142⟩ := id Vp7
           have hin142 : ¬ ((0 : Int32) < 0 ∨ cl142.slots.size ≤ ((0 : Int32)).toNatClampNeg) := inb_of S142 ⟨by decide, by decide⟩
           have hat142 : cl142.slots[((0 : Int32)).toNatClampNeg]? = some (.int t2.1) := H142 0 (by rw [S142]; decide)
           refine oo (fun _ => X7.caload hx (j := (0 : Int32)) (v := (.int t2.1)) (by rw [e7]; exact Ar142.1) (State.isArrayOf_alike hZ.alike Ar142.2.1) Ar142.2.2 hin142 hat142 (g := (mkF m 437 #[l0, l1, l2, l3, vn n, vn k, vi cz, vr b1, vr b8, vr b12, vr lp, vr lv, vr rs52, vi m53.1, vi m54.1, vi m55.1, vr b56, vr b57, vz, uu, uu] [(.int 0), (.ref b1), (.int 0), (.ref b56)])) rfl rfl (hb hby at_437) _) ?_
           obtain ⟨cl143, Ar143, q143, S143, Ng143, H143, G143⟩ := Va7
           obtain ⟨T143, h143, X143, e143, W143, st143⟩ := stC X7 hx hZ e7 Ar143 (j := (0 : Int32)) (inb_of S143 ⟨by decide, by decide⟩) (g := (mkF m 438 #[l0, l1, l2, l3, vn n, vn k, vi cz, vr b1, vr b8, vr b12, vr lp, vr lv, vr rs52, vi m53.1, vi m54.1, vi m55.1, vr b56, vr b57, vz, uu, uu] [(.int t2.1), (.int 0), (.ref b56)])) rfl rfl (hb hby at_438)
           have V143 : Arv Z h143 b56 k56 .char (3 : Int32) [(.int (nar .char t2.1)), (.int 0), (.int 0)] (.int 0) := Arv.set Ar143 q143 S143 Ng143 H143 G143 (fits_nar_char _) W143 0 rfl (Nat.le_of_ble_eq_true rfl)
           rw [own_nar t2.2] at V143
           refine oo st143 ?_
           have N143 := Fr.snoc X143 N7 (by omega : n0 ≤ b56)
           have sz143 : h143.size = H7.size := W143.size
           have O143 : Old Z n0 h143 := O7.wr W143 (by omega)
           refine oi (XS.aload X143.here hx rfl (hb hby at_439) rfl rfl) ?_
           refine oi (XS.iload X143.here hx rfl (hb hby at_441) rfl) ?_
           refine oi (XS.aload X143.here hx rfl (hb hby at_443) rfl rfl) ?_
           refine oi (XS.iconst X143.here hx rfl (hb hby at_445)) ?_
           have f144 : Arv Z h143 b8 k8 .char (3 : Int32) [(.int d0), (.int d1), (.int d2)] (.int 0) := (Vv7.other W143 (one (by omega)))
           obtain ⟨cl145, Ar145, q145, S145, Ng145, H145, G145⟩ := id f144
           have hin145 : ¬ ((0 : Int32) < 0 ∨ cl145.slots.size ≤ ((0 : Int32)).toNatClampNeg) := inb_of S145 ⟨by decide, by decide⟩
           have hat145 : cl145.slots[((0 : Int32)).toNatClampNeg]? = some (.int d0) := H145 0 (by rw [S145]; decide)
           refine oo (fun _ => X143.caload hx (j := (0 : Int32)) (v := (.int d0)) (by rw [e143]; exact Ar145.1) (State.isArrayOf_alike hZ.alike Ar145.2.1) Ar145.2.2 hin145 hat145 (g := (mkF m 446 #[l0, l1, l2, l3, vn n, vn k, vi cz, vr b1, vr b8, vr b12, vr lp, vr lv, vr rs52, vi m53.1, vi m54.1, vi m55.1, vr b56, vr b57, vz, uu, uu] [(.int 0), (.ref b8), (.int 0), (.ref b57)])) rfl rfl (hb hby at_446) _) ?_
           have f146 : Arv Z h143 b57 k57 .char (3 : Int32) [(.int 0), (.int 0), (.int 0)] (.int 0) := (Vb7.other W143 (one (by omega)))
           obtain ⟨cl147, Ar147, q147, S147, Ng147, H147, G147⟩ := f146
           obtain ⟨T147, h147, X147, e147, W147, st147⟩ := stC X143 hx hZ e143 Ar147 (j := (0 : Int32)) (inb_of S147 ⟨by decide, by decide⟩) (g := (mkF m 447 #[l0, l1, l2, l3, vn n, vn k, vi cz, vr b1, vr b8, vr b12, vr lp, vr lv, vr rs52, vi m53.1, vi m54.1, vi m55.1, vr b56, vr b57, vz, uu, uu] [(.int d0), (.int 0), (.ref b57)])) rfl rfl (hb hby at_447)
           have V147 : Arv Z h147 b57 k57 .char (3 : Int32) [(.int (nar .char d0)), (.int 0), (.int 0)] (.int 0) := Arv.set Ar147 q147 S147 Ng147 H147 G147 (fits_nar_char _) W147 0 rfl (Nat.le_of_ble_eq_true rfl)
           rw [own_nar hd0] at V147
           refine oo st147 ?_
           have N147 := Fr.snoc X147 N143 (by omega : n0 ≤ b57)
           have sz147 : h147.size = h143.size := W147.size
           have O147 : Old Z n0 h147 := O143.wr W147 (by omega)
           refine oi (XS.iload X147.here hx rfl (hb hby at_448) rfl) ?_
           refine oi (XS.iconst X147.here hx rfl (hb hby at_450)) ?_
           refine so (A := (T147.setTop (mkF m 451 #[l0, l1, l2, l3, vn n, vn k, vi cz, vr b1, vr b8, vr b12, vr lp, vr lv, vr rs52, vi m53.1, vi m54.1, vi m55.1, vr b56, vr b57, vz, uu, uu] [(.int 1), (.int 0)]))) ?_
           refine oi (XS.iadd X147.here hx rfl (hb hby at_451) rfl) ?_
           refine oi (XS.istore X147.here hx rfl (hb hby at_452) rfl (l' := #[l0, l1, l2, l3, vn n, vn k, vi cz, vr b1, vr b8, vr b12, vr lp, vr lv, vr rs52, vi m53.1, vi m54.1, vi m55.1, vr b56, vr b57, vi 1, uu, uu]) rfl) ?_
           refine so (A := (T147.setTop (mkF m 454 #[l0, l1, l2, l3, vn n, vn k, vi cz, vr b1, vr b8, vr b12, vr lp, vr lv, vr rs52, vi m53.1, vi m54.1, vi m55.1, vr b56, vr b57, vi 1, uu, uu] []))) ?_
           have f148 : own_al Z h147 dq n0 rs52 er52 kr52 zs52 rm52 := ((AR7.wr W143 (one (by omega)) (one (by omega))).wr W147 (one (by omega)) (one (by omega)))
           have f149 : own_its Z h147 T52.heap.size zs52 (own_go2 cz (([f0, f1].take k).map fun f => (cz, f)) ([(t2.1, d0), (t4.1, d1), (t6.1, d2)].take n) false) := ((IR7.wr W143 (by omega)).wr W147 (by omega))
           have f150 : Arv Z h147 b1 k1 .char (3 : Int32) [(.int t2.1), (.int t4.1), (.int t6.1)] (.int 0) := ((Vp7.other W143 (one (by omega))).other W147 (one (by omega)))
           have f151 : Arv Z h147 b8 k8 .char (3 : Int32) [(.int d0), (.int d1), (.int d2)] (.int 0) := (f144.other W147 (one (by omega)))
           have f152 : Arv Z h147 b12 k12 .char (2 : Int32) [(.int f0), (.int f1)] (.int 0) := ((Vq7.other W143 (one (by omega))).other W147 (one (by omega)))
           have f153 : Arv Z h147 b56 k56 .char (3 : Int32) [(.int t2.1), (.int 0), (.int 0)] (.int 0) := (V143.other W147 (one (by omega)))
           exact mid_1_1 _ _ _ t2.1 d0 (X147.more (by decide) (by decide)) e147 N147 O147 (by omega) f148 f149 f150 f151 f152 f153 V147 (by rw [own_kp1 (p := (t2.1, d0)) rfl ((own_nlt (a := 0) (by omega) (by omega)).mp hb422_140) (fun q => own_m0 m53.2 hb427_141 ⟨((own_nlt (a := 0) (by omega) (by omega)).mp hb422_140), q⟩), hK]; rfl)
          ·refine oi (XS.ifYes X7.here hx rfl (pc0 := 427) (pc' := 454) rfl (hb hby at_427) rfl ((if0 _ _).trans (feq hb427_141).2) (by decide) (by decide)) ?_
           refine so (A := (T7.setTop (mkF m 454 #[l0, l1, l2, l3, vn n, vn k, vi cz, vr b1, vr b8, vr b12, vr lp, vr lv, vr rs52, vi m53.1, vi m54.1, vi m55.1, vr b56, vr b57, vz, uu, uu] []))) ?_
           exact mid_1_0 _ _ _  (X7.more (by decide) (by decide)) e7 N7 O7 (by omega) AR7 IR7 Vp7 Vv7 Vq7 Va7 Vb7 (by rw [own_kp0 (p := (t2.1, d0)) rfl (fun _ => (own_m1 m53.2 hb427_141).2), hK])
         ·refine oi (XS.ifYes X7.here hx rfl (pc0 := 422) (pc' := 454) rfl (hb hby at_422) rfl ((if0 _ _).trans (flt hb422_140).2.2.2) (by decide) (by decide)) ?_
          refine so (A := (T7.setTop (mkF m 454 #[l0, l1, l2, l3, vn n, vn k, vi cz, vr b1, vr b8, vr b12, vr lp, vr lv, vr rs52, vi m53.1, vi m54.1, vi m55.1, vr b56, vr b57, vz, uu, uu] []))) ?_
          exact mid_1_0 _ _ _  (X7.more (by decide) (by decide)) e7 N7 O7 (by omega) AR7 IR7 Vp7 Vv7 Vq7 Va7 Vb7 (by rw [own_kp0 (p := (t2.1, d0)) rfl (fun q => (hb422_140 ((own_nlt (a := 0) (by omega) (by omega)).mpr q)).elim), hK])
        have f154 : own_al Z h57 dq n0 rs52 er52 kr52 zs52 rm52 := ((AR52.ext E56).ext E57)
        have f155 : own_its Z h57 T52.heap.size zs52 (own_go2 cz (([f0, f1].take k).map fun f => (cz, f)) ([(t2.1, d0), (t4.1, d1), (t6.1, d2)].take n) false) := ((IR52.ext E56).ext E57)
        have f156 : Arv Z h57 b1 k1 .char (3 : Int32) [(.int t2.1), (.int t4.1), (.int t6.1)] (.int 0) := ((((Vp3.keep Kp47 nin0).keep Kp52 nin0).ext E56).ext E57)
        have f157 : Arv Z h57 b8 k8 .char (3 : Int32) [(.int d0), (.int d1), (.int d2)] (.int 0) := ((((Vv3.keep Kp47 nin0).keep Kp52 nin0).ext E56).ext E57)
        have f158 : Arv Z h57 b12 k12 .char (2 : Int32) [(.int f0), (.int f1)] (.int 0) := ((((Vw3.keep Kp47 nin0).keep Kp52 nin0).ext E56).ext E57)
        have f159 : Arv Z h57 b56 k56 .char (3 : Int32) [(.int 0), (.int 0), (.int 0)] (.int 0) := (V56.ext E57)
        exact mid_0_0 _ _ _ (X57.more (by decide) (by decide)) e57 N52 O57 (by omega) f154 f155 f156 f157 f158 f159 V57 (by simp [own_kept])
       ·intro j55
        refine so (A := (T54.setTop (mkF m 385 #[l0, l1, l2, l3, vn n, vn k, vi cz, vr b1, vr b8, vr b12, vr lp, vr lv, vr rs52, vi m53.1, vi m54.1, uu, uu, uu, uu, uu, uu] []))) ?_
        refine oi (XS.iload X54.here hx rfl (hb hby at_385) rfl) ?_
        refine oi (XS.iconst X54.here hx rfl (hb hby at_387)) ?_
        by_cases hb388_160 : (2 : Int32) < (Int32.ofNat n)
        ·refine oi (XS.icmpNo X54.here hx rfl (hb hby at_388) rfl (tlt hb388_160).2.2.2) ?_
         refine so (A := (T54.setTop (mkF m 391 #[l0, l1, l2, l3, vn n, vn k, vi cz, vr b1, vr b8, vr b12, vr lp, vr lv, vr rs52, vi m53.1, vi m54.1, uu, uu, uu, uu, uu, uu] []))) ?_
         refine oi (XS.aload X54.here hx rfl (hb hby at_391) rfl rfl) ?_
         refine oi (XS.iconst X54.here hx rfl (hb hby at_393)) ?_
         have f161 : Arv Z T52.heap b1 k1 .char (3 : Int32) [(.int t2.1), (.int t4.1), (.int t6.1)] (.int 0) := ((Vp3.keep Kp47 nin0).keep Kp52 nin0)
         obtain ⟨cl162, Ar162, q162, S162, Ng162, H162, G162⟩ := id f161
         have hin162 : ¬ ((2 : Int32) < 0 ∨ cl162.slots.size ≤ ((2 : Int32)).toNatClampNeg) := inb_of S162 ⟨by decide, by decide⟩
         have hat162 : cl162.slots[((2 : Int32)).toNatClampNeg]? = some (.int t6.1) := H162 2 (by rw [S162]; decide)
         refine oo (fun _ => X54.caload hx (j := (2 : Int32)) (v := (.int t6.1)) (by rw [e54]; exact Ar162.1) (State.isArrayOf_alike hZ.alike Ar162.2.1) Ar162.2.2 hin162 hat162 (g := (mkF m 394 #[l0, l1, l2, l3, vn n, vn k, vi cz, vr b1, vr b8, vr b12, vr lp, vr lv, vr rs52, vi m53.1, vi m54.1, uu, uu, uu, uu, uu, uu] [(.int 2), (.ref b1)])) rfl rfl (hb hby at_394) _) ?_
         refine oi (XS.iload X54.here hx rfl (hb hby at_395) rfl) ?_
         by_cases hb397_163 : t6.1 = cz
         ·refine oi (XS.icmpNo X54.here hx rfl (hb hby at_397) rfl (teq hb397_163).2) ?_
          refine so (A := (T54.setTop (mkF m 400 #[l0, l1, l2, l3, vn n, vn k, vi cz, vr b1, vr b8, vr b12, vr lp, vr lv, vr rs52, vi m53.1, vi m54.1, uu, uu, uu, uu, uu, uu] []))) ?_
          refine oi (XS.iconst X54.here hx rfl (hb hby at_400)) ?_
          refine oi (XS.goto X54.here hx rfl (pc0 := 401) (pc' := 405) rfl (hb hby at_401) (by decide) (by decide)) ?_
          refine so (A := (T54.setTop (mkF m 405 #[l0, l1, l2, l3, vn n, vn k, vi cz, vr b1, vr b8, vr b12, vr lp, vr lv, vr rs52, vi m53.1, vi m54.1, uu, uu, uu, uu, uu, uu] [(.int 1)]))) ?_
          exact j55 ⟨_, Or.inl ⟨rfl, (own_nlt (a := 2) (by omega) (by omega)).mp hb388_160, hb397_163⟩⟩ _ X54 e54
         ·refine oi (XS.icmpYes X54.here hx rfl (pc0 := 397) (pc' := 404) rfl (hb hby at_397) rfl (feq hb397_163).2 (by decide) (by decide)) ?_
          refine so (A := (T54.setTop (mkF m 404 #[l0, l1, l2, l3, vn n, vn k, vi cz, vr b1, vr b8, vr b12, vr lp, vr lv, vr rs52, vi m53.1, vi m54.1, uu, uu, uu, uu, uu, uu] []))) ?_
          refine oi (XS.iconst X54.here hx rfl (hb hby at_404)) ?_
          refine so (A := (T54.setTop (mkF m 405 #[l0, l1, l2, l3, vn n, vn k, vi cz, vr b1, vr b8, vr b12, vr lp, vr lv, vr rs52, vi m53.1, vi m54.1, uu, uu, uu, uu, uu, uu] [(.int 0)]))) ?_
          exact j55 ⟨_, Or.inr ⟨rfl, fun q => hb397_163 q.2⟩⟩ _ X54 e54
        ·refine oi (XS.icmpYes X54.here hx rfl (pc0 := 388) (pc' := 404) rfl (hb hby at_388) rfl (flt hb388_160).2.2.2 (by decide) (by decide)) ?_
         refine so (A := (T54.setTop (mkF m 404 #[l0, l1, l2, l3, vn n, vn k, vi cz, vr b1, vr b8, vr b12, vr lp, vr lv, vr rs52, vi m53.1, vi m54.1, uu, uu, uu, uu, uu, uu] []))) ?_
         refine oi (XS.iconst X54.here hx rfl (hb hby at_404)) ?_
         refine so (A := (T54.setTop (mkF m 405 #[l0, l1, l2, l3, vn n, vn k, vi cz, vr b1, vr b8, vr b12, vr lp, vr lv, vr rs52, vi m53.1, vi m54.1, uu, uu, uu, uu, uu, uu] [(.int 0)]))) ?_
         exact j55 ⟨_, Or.inr ⟨rfl, fun q => hb388_160 ((own_nlt (a := 2) (by omega) (by omega)).mpr q.1)⟩⟩ _ X54 e54
      ·intro j54
       refine so (A := (T53.setTop (mkF m 363 #[l0, l1, l2, l3, vn n, vn k, vi cz, vr b1, vr b8, vr b12, vr lp, vr lv, vr rs52, vi m53.1, uu, uu, uu, uu, uu, uu, uu] []))) ?_
       refine oi (XS.iload X53.here hx rfl (hb hby at_363) rfl) ?_
       refine oi (XS.iconst X53.here hx rfl (hb hby at_365)) ?_
       by_cases hb366_164 : (1 : Int32) < (Int32.ofNat n)
       ·refine oi (XS.icmpNo X53.here hx rfl (hb hby at_366) rfl (tlt hb366_164).2.2.2) ?_
        refine so (A := (T53.setTop (mkF m 369 #[l0, l1, l2, l3, vn n, vn k, vi cz, vr b1, vr b8, vr b12, vr lp, vr lv, vr rs52, vi m53.1, uu, uu, uu, uu, uu, uu, uu] []))) ?_
        refine oi (XS.aload X53.here hx rfl (hb hby at_369) rfl rfl) ?_
        refine oi (XS.iconst X53.here hx rfl (hb hby at_371)) ?_
        have f165 : Arv Z T52.heap b1 k1 .char (3 : Int32) [(.int t2.1), (.int t4.1), (.int t6.1)] (.int 0) := ((Vp3.keep Kp47 nin0).keep Kp52 nin0)
        obtain ⟨cl166, Ar166, q166, S166, Ng166, H166, G166⟩ := id f165
        have hin166 : ¬ ((1 : Int32) < 0 ∨ cl166.slots.size ≤ ((1 : Int32)).toNatClampNeg) := inb_of S166 ⟨by decide, by decide⟩
        have hat166 : cl166.slots[((1 : Int32)).toNatClampNeg]? = some (.int t4.1) := H166 1 (by rw [S166]; decide)
        refine oo (fun _ => X53.caload hx (j := (1 : Int32)) (v := (.int t4.1)) (by rw [e53]; exact Ar166.1) (State.isArrayOf_alike hZ.alike Ar166.2.1) Ar166.2.2 hin166 hat166 (g := (mkF m 372 #[l0, l1, l2, l3, vn n, vn k, vi cz, vr b1, vr b8, vr b12, vr lp, vr lv, vr rs52, vi m53.1, uu, uu, uu, uu, uu, uu, uu] [(.int 1), (.ref b1)])) rfl rfl (hb hby at_372) _) ?_
        refine oi (XS.iload X53.here hx rfl (hb hby at_373) rfl) ?_
        by_cases hb375_167 : t4.1 = cz
        ·refine oi (XS.icmpNo X53.here hx rfl (hb hby at_375) rfl (teq hb375_167).2) ?_
         refine so (A := (T53.setTop (mkF m 378 #[l0, l1, l2, l3, vn n, vn k, vi cz, vr b1, vr b8, vr b12, vr lp, vr lv, vr rs52, vi m53.1, uu, uu, uu, uu, uu, uu, uu] []))) ?_
         refine oi (XS.iconst X53.here hx rfl (hb hby at_378)) ?_
         refine oi (XS.goto X53.here hx rfl (pc0 := 379) (pc' := 383) rfl (hb hby at_379) (by decide) (by decide)) ?_
         refine so (A := (T53.setTop (mkF m 383 #[l0, l1, l2, l3, vn n, vn k, vi cz, vr b1, vr b8, vr b12, vr lp, vr lv, vr rs52, vi m53.1, uu, uu, uu, uu, uu, uu, uu] [(.int 1)]))) ?_
         exact j54 ⟨_, Or.inl ⟨rfl, (own_nlt (a := 1) (by omega) (by omega)).mp hb366_164, hb375_167⟩⟩ _ X53 e53
        ·refine oi (XS.icmpYes X53.here hx rfl (pc0 := 375) (pc' := 382) rfl (hb hby at_375) rfl (feq hb375_167).2 (by decide) (by decide)) ?_
         refine so (A := (T53.setTop (mkF m 382 #[l0, l1, l2, l3, vn n, vn k, vi cz, vr b1, vr b8, vr b12, vr lp, vr lv, vr rs52, vi m53.1, uu, uu, uu, uu, uu, uu, uu] []))) ?_
         refine oi (XS.iconst X53.here hx rfl (hb hby at_382)) ?_
         refine so (A := (T53.setTop (mkF m 383 #[l0, l1, l2, l3, vn n, vn k, vi cz, vr b1, vr b8, vr b12, vr lp, vr lv, vr rs52, vi m53.1, uu, uu, uu, uu, uu, uu, uu] [(.int 0)]))) ?_
         exact j54 ⟨_, Or.inr ⟨rfl, fun q => hb375_167 q.2⟩⟩ _ X53 e53
       ·refine oi (XS.icmpYes X53.here hx rfl (pc0 := 366) (pc' := 382) rfl (hb hby at_366) rfl (flt hb366_164).2.2.2 (by decide) (by decide)) ?_
        refine so (A := (T53.setTop (mkF m 382 #[l0, l1, l2, l3, vn n, vn k, vi cz, vr b1, vr b8, vr b12, vr lp, vr lv, vr rs52, vi m53.1, uu, uu, uu, uu, uu, uu, uu] []))) ?_
        refine oi (XS.iconst X53.here hx rfl (hb hby at_382)) ?_
        refine so (A := (T53.setTop (mkF m 383 #[l0, l1, l2, l3, vn n, vn k, vi cz, vr b1, vr b8, vr b12, vr lp, vr lv, vr rs52, vi m53.1, uu, uu, uu, uu, uu, uu, uu] [(.int 0)]))) ?_
        exact j54 ⟨_, Or.inr ⟨rfl, fun q => hb366_164 ((own_nlt (a := 1) (by omega) (by omega)).mpr q.1)⟩⟩ _ X53 e53
     ·intro j53
      refine so (A := (T52.setTop (mkF m 342 #[l0, l1, l2, l3, vn n, vn k, vi cz, vr b1, vr b8, vr b12, vr lp, vr lv, vr rs52, uu, uu, uu, uu, uu, uu, uu, uu] []))) ?_
      refine oi (XS.iload X52.here hx rfl (hb hby at_342) rfl) ?_
      by_cases hb344_168 : (0 : Int32) < (Int32.ofNat n)
      ·refine oi (XS.ifNo X52.here hx rfl (hb hby at_344) rfl ((if0 _ _).trans (tlt hb344_168).2.2.2)) ?_
       refine so (A := (T52.setTop (mkF m 347 #[l0, l1, l2, l3, vn n, vn k, vi cz, vr b1, vr b8, vr b12, vr lp, vr lv, vr rs52, uu, uu, uu, uu, uu, uu, uu, uu] []))) ?_
       refine oi (XS.aload X52.here hx rfl (hb hby at_347) rfl rfl) ?_
       refine oi (XS.iconst X52.here hx rfl (hb hby at_349)) ?_
       have f169 : Arv Z T52.heap b1 k1 .char (3 : Int32) [(.int t2.1), (.int t4.1), (.int t6.1)] (.int 0) := ((Vp3.keep Kp47 nin0).keep Kp52 nin0)
       obtain ⟨cl170, Ar170, q170, S170, Ng170, H170, G170⟩ := id f169
       have hin170 : ¬ ((0 : Int32) < 0 ∨ cl170.slots.size ≤ ((0 : Int32)).toNatClampNeg) := inb_of S170 ⟨by decide, by decide⟩
       have hat170 : cl170.slots[((0 : Int32)).toNatClampNeg]? = some (.int t2.1) := H170 0 (by rw [S170]; decide)
       refine oo (fun _ => X52.caload hx (j := (0 : Int32)) (v := (.int t2.1)) Ar170.1 (State.isArrayOf_alike hZ.alike Ar170.2.1) Ar170.2.2 hin170 hat170 (g := (mkF m 350 #[l0, l1, l2, l3, vn n, vn k, vi cz, vr b1, vr b8, vr b12, vr lp, vr lv, vr rs52, uu, uu, uu, uu, uu, uu, uu, uu] [(.int 0), (.ref b1)])) rfl rfl (hb hby at_350) _) ?_
       refine oi (XS.iload X52.here hx rfl (hb hby at_351) rfl) ?_
       by_cases hb353_171 : t2.1 = cz
       ·refine oi (XS.icmpNo X52.here hx rfl (hb hby at_353) rfl (teq hb353_171).2) ?_
        refine so (A := (T52.setTop (mkF m 356 #[l0, l1, l2, l3, vn n, vn k, vi cz, vr b1, vr b8, vr b12, vr lp, vr lv, vr rs52, uu, uu, uu, uu, uu, uu, uu, uu] []))) ?_
        refine oi (XS.iconst X52.here hx rfl (hb hby at_356)) ?_
        refine oi (XS.goto X52.here hx rfl (pc0 := 357) (pc' := 361) rfl (hb hby at_357) (by decide) (by decide)) ?_
        refine so (A := (T52.setTop (mkF m 361 #[l0, l1, l2, l3, vn n, vn k, vi cz, vr b1, vr b8, vr b12, vr lp, vr lv, vr rs52, uu, uu, uu, uu, uu, uu, uu, uu] [(.int 1)]))) ?_
        exact j53 ⟨_, Or.inl ⟨rfl, (own_nlt (a := 0) (by omega) (by omega)).mp hb344_168, hb353_171⟩⟩ _ X52 rfl
       ·refine oi (XS.icmpYes X52.here hx rfl (pc0 := 353) (pc' := 360) rfl (hb hby at_353) rfl (feq hb353_171).2 (by decide) (by decide)) ?_
        refine so (A := (T52.setTop (mkF m 360 #[l0, l1, l2, l3, vn n, vn k, vi cz, vr b1, vr b8, vr b12, vr lp, vr lv, vr rs52, uu, uu, uu, uu, uu, uu, uu, uu] []))) ?_
        refine oi (XS.iconst X52.here hx rfl (hb hby at_360)) ?_
        refine so (A := (T52.setTop (mkF m 361 #[l0, l1, l2, l3, vn n, vn k, vi cz, vr b1, vr b8, vr b12, vr lp, vr lv, vr rs52, uu, uu, uu, uu, uu, uu, uu, uu] [(.int 0)]))) ?_
        exact j53 ⟨_, Or.inr ⟨rfl, fun q => hb353_171 q.2⟩⟩ _ X52 rfl
      ·refine oi (XS.ifYes X52.here hx rfl (pc0 := 344) (pc' := 360) rfl (hb hby at_344) rfl ((if0 _ _).trans (flt hb344_168).2.2.2) (by decide) (by decide)) ?_
       refine so (A := (T52.setTop (mkF m 360 #[l0, l1, l2, l3, vn n, vn k, vi cz, vr b1, vr b8, vr b12, vr lp, vr lv, vr rs52, uu, uu, uu, uu, uu, uu, uu, uu] []))) ?_
       refine oi (XS.iconst X52.here hx rfl (hb hby at_360)) ?_
       refine so (A := (T52.setTop (mkF m 361 #[l0, l1, l2, l3, vn n, vn k, vi cz, vr b1, vr b8, vr b12, vr lp, vr lv, vr rs52, uu, uu, uu, uu, uu, uu, uu, uu] [(.int 0)]))) ?_
       exact j53 ⟨_, Or.inr ⟨rfl, fun q => hb344_168 ((own_nlt (a := 0) (by omega) (by omega)).mpr q.1)⟩⟩ _ X52 rfl
    intro H6 T6 ls6 rs er kr zs rq qs bq sz po kx cz an av aw k1 k2 k3 ms os vw l0 l1 l2 l3 l4 l7 l8 l10 l11 l13 l14 l15 l18 X6 e6 N6 O6 AR6 IR6 hsz hz9 Vn6 Vw6 Vq6 sl0 sl1 sl2 sl3 sl4
    have ltr6 := AR6.lt2
    have ltn6 := olt Vn6.lt
    have ltw6 := olt Vw6.lt
    have ltq6 := olt Vq6.lt
    refine so (A := (T6.setTop (mkF m 562 #[l0, l1, l2, l3, l4, vi kx, vi cz, l7, l8, vr aw, l10, l11, vr rs, l13, l14, l15, vr an, vr av, l18, vi po, vi sz] []))) ?_
    refine oi (XS.aload X6.here hx rfl (hb hby at_562) rfl rfl) ?_
    refine so (A := (T6.setTop (mkF m 564 #[l0, l1, l2, l3, l4, vi kx, vi cz, l7, l8, vr aw, l10, l11, vr rs, l13, l14, l15, vr an, vr av, l18, vi po, vi sz] [(.ref rs)]))) ?_
    have hz6 : (Int32.ofNat zs.length) = sz := by rw [hsz, IR6.len]
    obtain ⟨cq15, kq15, q15a, q15b, q15c⟩ := isOf hZ e6 AR6.1
    obtain ⟨_, T15, Lc15, X15, hQ15, st15⟩ := own_c1 X6 <| X6.interfaceBack hx (xi := (⟨"java/util/List", "size", "()I"⟩ : MethodName)) (y := ym18) hown (mvT hZ (hW 135 _ rfl)) (mvT hZ (hW 136 _ rfl)) (mvT hZ (hW 137 _ rfl)) (mvT hZ (hW 138 _ rfl)) (mvT hZ (hW 139 _ rfl)) (mvT hZ (hW 140 _ rfl)) (mvT hZ (hW 141 _ rfl)) (mvT hZ (hW 64 _ rfl)) (by decide) (backOf (W := 0) (rmSz l Z a0 hw [] rs sz H6 n0 O6 (hz6 ▸ AR6.2.2.1)) hZ (hW 142 _ rfl) (hW 3 _ rfl) (by decide) (by decide)) q15a q15b q15c (g := (mkF m 564 #[l0, l1, l2, l3, l4, vi kx, vi cz, l7, l8, vr aw, l10, l11, vr rs, l13, l14, l15, vr an, vr av, l18, vi po, vi sz] [(.ref rs)])) rfl (by rw [hml]; rfl) (Steps.refl _) (argsL := []) (rest := []) (lenOf pd_22 rfl) rfl (Nat.le_of_eq rfl) (hb hby at_564) (fun _ _ => ⟨rfl, e6, (by decide : 90 + 0 ≤ _), (by decide : 330 + 0 ≤ _)⟩)
    obtain ⟨rfl, Nq15, eh15⟩ := hQ15
    have N15 := Fr.app N6 Nq15
    refine oo (fun tt_ kk_ => st15.trans kk_) ?_
    refine oi (XS.iload X15.here hx rfl (hb hby at_569) rfl) ?_
    have hb571_16 : sz = sz := rfl
    refine oi (XS.icmpYes X15.here hx rfl (pc0 := 571) (pc' := 576) rfl (hb hby at_571) rfl (teq hb571_16).1 (by decide) (by decide)) ?_
    refine oi (XS.aload X15.here hx rfl (hb hby at_576) rfl rfl) ?_
    refine oi (XS.iconst X15.here hx rfl (hb hby at_578)) ?_
    refine oi (XS.iload X15.here hx rfl (hb hby at_579) rfl) ?_
    refine oi (XS.iload X15.here hx rfl (hb hby at_581) rfl) ?_
    refine oi (XS.iload X15.here hx rfl (hb hby at_583) rfl) ?_
    refine oi (XS.aload X15.here hx rfl (hb hby at_585) rfl rfl) ?_
    refine oi (XS.aload X15.here hx rfl (hb hby at_587) rfl rfl) ?_
    refine oi (XS.iload X15.here hx rfl (hb hby at_589) rfl) ?_
    refine oi (XS.aload X15.here hx rfl (hb hby at_591) rfl rfl) ?_
    refine so (A := (T15.setTop (mkF m 593 #[l0, l1, l2, l3, l4, vi kx, vi cz, l7, l8, vr aw, l10, l11, vr rs, l13, l14, l15, vr an, vr av, l18, vi po, vi sz] [(.ref aw), (.int cz), (.ref av), (.ref an), (.int kx), (.int po), (.int sz), (.int 0), (.ref rs)]))) ?_
    obtain ⟨_, T17, Lc17, X17, hQ17, st17⟩ := own_c1 X15 <| Jvm.LawKit.callS X15 hx (y := ym19) hown (mvT hZ (hW 143 _ rfl)) (mvT hZ (hW 144 _ rfl)) (mvT hZ (hW 145 _ rfl)) (mvT hZ (hW 146 _ rfl)) (by decide) (backOf (W := 0) (rmAt l Z a0 hw [] rs dq er kr zs rq qs bq 0 sz po kx cz an av aw k1 k2 k3 ms os vw Gc H6 n0 O6 Oc Pc AR6 IR6 hsz hz9 (by omega) Vn6 Vw6 Vq6 sl0) hZ (hW 146 _ rfl) (hW 145 _ rfl) (by decide) (by decide)) (g := (mkF m 593 #[l0, l1, l2, l3, l4, vi kx, vi cz, l7, l8, vr aw, l10, l11, vr rs, l13, l14, l15, vr an, vr av, l18, vi po, vi sz] [(.ref aw), (.int cz), (.ref av), (.ref an), (.int kx), (.int po), (.int sz), (.int 0), (.ref rs)])) rfl (by rw [hml]; rfl) (argsL := [(.ref rs), (.int 0), (.int sz), (.int po), (.int kx), (.ref an), (.ref av), (.int cz), (.ref aw)]) (rest := []) (lenOf pd_23 rfl) rfl (Nat.le_of_eq rfl) (hb hby at_593) (fun _ _ => ⟨rfl, eh15, (by decide : 90 + 4 ≤ _), (by decide : 330 + 10 ≤ _)⟩)
    obtain ⟨rfl, Nq17, Kp17⟩ := hQ17
    have N17 := Fr.app N15 Nq17
    refine oo st17 ?_
    have sz17 : H6.size ≤ T17.heap.size := Kp17.1
    have O17 : Old Z n0 T17.heap := O6.keep Kp17 all0
    have hb596_18 : ¬ ((1 : Int32) = (0 : Int32)) := by decide
    refine oi (XS.ifNo X17.here hx rfl (hb hby at_596) rfl ((if0 _ _).trans (feq hb596_18).1)) ?_
    refine oi (XS.aload X17.here hx rfl (hb hby at_599) rfl rfl) ?_
    refine oi (XS.iconst X17.here hx rfl (hb hby at_601)) ?_
    refine oi (XS.iload X17.here hx rfl (hb hby at_602) rfl) ?_
    refine oi (XS.iload X17.here hx rfl (hb hby at_604) rfl) ?_
    refine oi (XS.iload X17.here hx rfl (hb hby at_606) rfl) ?_
    refine oi (XS.aload X17.here hx rfl (hb hby at_608) rfl rfl) ?_
    refine oi (XS.aload X17.here hx rfl (hb hby at_610) rfl rfl) ?_
    refine oi (XS.iload X17.here hx rfl (hb hby at_612) rfl) ?_
    refine oi (XS.aload X17.here hx rfl (hb hby at_614) rfl rfl) ?_
    refine so (A := (T17.setTop (mkF m 616 #[l0, l1, l2, l3, l4, vi kx, vi cz, l7, l8, vr aw, l10, l11, vr rs, l13, l14, l15, vr an, vr av, l18, vi po, vi sz] [(.ref aw), (.int cz), (.ref av), (.ref an), (.int kx), (.int po), (.int sz), (.int 1), (.ref rs)]))) ?_
    have f19 : own_al Z T17.heap dq n0 rs er kr zs rq := (AR6.keep Kp17 nin0 nin0)
    have f20 : own_its Z T17.heap bq zs qs := (IR6.keep Kp17 all0)
    have f21 : Arv Z T17.heap an k1 .char (3 : Int32) (ms.map Value.int) (.int 0) := (Vn6.keep Kp17 nin0)
    have f22 : Arv Z T17.heap av k2 .char (3 : Int32) (os.map Value.int) (.int 0) := (Vw6.keep Kp17 nin0)
    have f23 : Arv Z T17.heap aw k3 .char (2 : Int32) (vw.map Value.int) (.int 0) := (Vq6.keep Kp17 nin0)
    obtain ⟨_, T24, Lc24, X24, hQ24, st24⟩ := own_c1 X17 <| Jvm.LawKit.callS X17 hx (y := ym19) hown (mvT hZ (hW 143 _ rfl)) (mvT hZ (hW 144 _ rfl)) (mvT hZ (hW 145 _ rfl)) (mvT hZ (hW 146 _ rfl)) (by decide) (backOf (W := 0) (rmAt l Z a0 hw [] rs dq er kr zs rq qs bq 1 sz po kx cz an av aw k1 k2 k3 ms os vw Gc T17.heap n0 O17 Oc Pc f19 f20 hsz hz9 (by omega) f21 f22 f23 sl1) hZ (hW 146 _ rfl) (hW 145 _ rfl) (by decide) (by decide)) (g := (mkF m 616 #[l0, l1, l2, l3, l4, vi kx, vi cz, l7, l8, vr aw, l10, l11, vr rs, l13, l14, l15, vr an, vr av, l18, vi po, vi sz] [(.ref aw), (.int cz), (.ref av), (.ref an), (.int kx), (.int po), (.int sz), (.int 1), (.ref rs)])) rfl (by rw [hml]; rfl) (argsL := [(.ref rs), (.int 1), (.int sz), (.int po), (.int kx), (.ref an), (.ref av), (.int cz), (.ref aw)]) (rest := []) (lenOf pd_23 rfl) rfl (Nat.le_of_eq rfl) (hb hby at_616) (fun _ _ => ⟨rfl, rfl, (by decide : 94 + 4 ≤ _), (by decide : 340 + 10 ≤ _)⟩)
    obtain ⟨rfl, Nq24, Kp24⟩ := hQ24
    have N24 := Fr.app N17 Nq24
    refine oo st24 ?_
    have sz24 : T17.heap.size ≤ T24.heap.size := Kp24.1
    have O24 : Old Z n0 T24.heap := O17.keep Kp24 all0
    have hb619_25 : ¬ ((1 : Int32) = (0 : Int32)) := by decide
    refine oi (XS.ifNo X24.here hx rfl (hb hby at_619) rfl ((if0 _ _).trans (feq hb619_25).1)) ?_
    refine oi (XS.aload X24.here hx rfl (hb hby at_622) rfl rfl) ?_
    refine oi (XS.iconst X24.here hx rfl (hb hby at_624)) ?_
    refine oi (XS.iload X24.here hx rfl (hb hby at_625) rfl) ?_
    refine oi (XS.iload X24.here hx rfl (hb hby at_627) rfl) ?_
    refine oi (XS.iload X24.here hx rfl (hb hby at_629) rfl) ?_
    refine oi (XS.aload X24.here hx rfl (hb hby at_631) rfl rfl) ?_
    refine oi (XS.aload X24.here hx rfl (hb hby at_633) rfl rfl) ?_
    refine oi (XS.iload X24.here hx rfl (hb hby at_635) rfl) ?_
    refine oi (XS.aload X24.here hx rfl (hb hby at_637) rfl rfl) ?_
    refine so (A := (T24.setTop (mkF m 639 #[l0, l1, l2, l3, l4, vi kx, vi cz, l7, l8, vr aw, l10, l11, vr rs, l13, l14, l15, vr an, vr av, l18, vi po, vi sz] [(.ref aw), (.int cz), (.ref av), (.ref an), (.int kx), (.int po), (.int sz), (.int 2), (.ref rs)]))) ?_
    have f26 : own_al Z T24.heap dq n0 rs er kr zs rq := (f19.keep Kp24 nin0 nin0)
    have f27 : own_its Z T24.heap bq zs qs := (f20.keep Kp24 all0)
    have f28 : Arv Z T24.heap an k1 .char (3 : Int32) (ms.map Value.int) (.int 0) := (f21.keep Kp24 nin0)
    have f29 : Arv Z T24.heap av k2 .char (3 : Int32) (os.map Value.int) (.int 0) := (f22.keep Kp24 nin0)
    have f30 : Arv Z T24.heap aw k3 .char (2 : Int32) (vw.map Value.int) (.int 0) := (f23.keep Kp24 nin0)
    obtain ⟨_, T31, Lc31, X31, hQ31, st31⟩ := own_c1 X24 <| Jvm.LawKit.callS X24 hx (y := ym19) hown (mvT hZ (hW 143 _ rfl)) (mvT hZ (hW 144 _ rfl)) (mvT hZ (hW 145 _ rfl)) (mvT hZ (hW 146 _ rfl)) (by decide) (backOf (W := 0) (rmAt l Z a0 hw [] rs dq er kr zs rq qs bq 2 sz po kx cz an av aw k1 k2 k3 ms os vw Gc T24.heap n0 O24 Oc Pc f26 f27 hsz hz9 (by omega) f28 f29 f30 sl2) hZ (hW 146 _ rfl) (hW 145 _ rfl) (by decide) (by decide)) (g := (mkF m 639 #[l0, l1, l2, l3, l4, vi kx, vi cz, l7, l8, vr aw, l10, l11, vr rs, l13, l14, l15, vr an, vr av, l18, vi po, vi sz] [(.ref aw), (.int cz), (.ref av), (.ref an), (.int kx), (.int po), (.int sz), (.int 2), (.ref rs)])) rfl (by rw [hml]; rfl) (argsL := [(.ref rs), (.int 2), (.int sz), (.int po), (.int kx), (.ref an), (.ref av), (.int cz), (.ref aw)]) (rest := []) (lenOf pd_23 rfl) rfl (Nat.le_of_eq rfl) (hb hby at_639) (fun _ _ => ⟨rfl, rfl, (by decide : 98 + 4 ≤ _), (by decide : 350 + 10 ≤ _)⟩)
    obtain ⟨rfl, Nq31, Kp31⟩ := hQ31
    have N31 := Fr.app N24 Nq31
    refine oo st31 ?_
    have sz31 : T24.heap.size ≤ T31.heap.size := Kp31.1
    have O31 : Old Z n0 T31.heap := O24.keep Kp31 all0
    have hb642_32 : ¬ ((1 : Int32) = (0 : Int32)) := by decide
    refine oi (XS.ifNo X31.here hx rfl (hb hby at_642) rfl ((if0 _ _).trans (feq hb642_32).1)) ?_
    refine oi (XS.aload X31.here hx rfl (hb hby at_645) rfl rfl) ?_
    refine oi (XS.iconst X31.here hx rfl (hb hby at_647)) ?_
    refine oi (XS.iload X31.here hx rfl (hb hby at_648) rfl) ?_
    refine oi (XS.iload X31.here hx rfl (hb hby at_650) rfl) ?_
    refine oi (XS.iload X31.here hx rfl (hb hby at_652) rfl) ?_
    refine oi (XS.aload X31.here hx rfl (hb hby at_654) rfl rfl) ?_
    refine oi (XS.aload X31.here hx rfl (hb hby at_656) rfl rfl) ?_
    refine oi (XS.iload X31.here hx rfl (hb hby at_658) rfl) ?_
    refine oi (XS.aload X31.here hx rfl (hb hby at_660) rfl rfl) ?_
    refine so (A := (T31.setTop (mkF m 662 #[l0, l1, l2, l3, l4, vi kx, vi cz, l7, l8, vr aw, l10, l11, vr rs, l13, l14, l15, vr an, vr av, l18, vi po, vi sz] [(.ref aw), (.int cz), (.ref av), (.ref an), (.int kx), (.int po), (.int sz), (.int 3), (.ref rs)]))) ?_
    have f33 : own_al Z T31.heap dq n0 rs er kr zs rq := (f26.keep Kp31 nin0 nin0)
    have f34 : own_its Z T31.heap bq zs qs := (f27.keep Kp31 all0)
    have f35 : Arv Z T31.heap an k1 .char (3 : Int32) (ms.map Value.int) (.int 0) := (f28.keep Kp31 nin0)
    have f36 : Arv Z T31.heap av k2 .char (3 : Int32) (os.map Value.int) (.int 0) := (f29.keep Kp31 nin0)
    have f37 : Arv Z T31.heap aw k3 .char (2 : Int32) (vw.map Value.int) (.int 0) := (f30.keep Kp31 nin0)
    obtain ⟨_, T38, Lc38, X38, hQ38, st38⟩ := own_c1 X31 <| Jvm.LawKit.callS X31 hx (y := ym19) hown (mvT hZ (hW 143 _ rfl)) (mvT hZ (hW 144 _ rfl)) (mvT hZ (hW 145 _ rfl)) (mvT hZ (hW 146 _ rfl)) (by decide) (backOf (W := 0) (rmAt l Z a0 hw [] rs dq er kr zs rq qs bq 3 sz po kx cz an av aw k1 k2 k3 ms os vw Gc T31.heap n0 O31 Oc Pc f33 f34 hsz hz9 (by omega) f35 f36 f37 sl3) hZ (hW 146 _ rfl) (hW 145 _ rfl) (by decide) (by decide)) (g := (mkF m 662 #[l0, l1, l2, l3, l4, vi kx, vi cz, l7, l8, vr aw, l10, l11, vr rs, l13, l14, l15, vr an, vr av, l18, vi po, vi sz] [(.ref aw), (.int cz), (.ref av), (.ref an), (.int kx), (.int po), (.int sz), (.int 3), (.ref rs)])) rfl (by rw [hml]; rfl) (argsL := [(.ref rs), (.int 3), (.int sz), (.int po), (.int kx), (.ref an), (.ref av), (.int cz), (.ref aw)]) (rest := []) (lenOf pd_23 rfl) rfl (Nat.le_of_eq rfl) (hb hby at_662) (fun _ _ => ⟨rfl, rfl, (by decide : 102 + 4 ≤ _), (by decide : 360 + 10 ≤ _)⟩)
    obtain ⟨rfl, Nq38, Kp38⟩ := hQ38
    have N38 := Fr.app N31 Nq38
    refine oo st38 ?_
    have sz38 : T31.heap.size ≤ T38.heap.size := Kp38.1
    have O38 : Old Z n0 T38.heap := O31.keep Kp38 all0
    have hb665_39 : ¬ ((1 : Int32) = (0 : Int32)) := by decide
    refine oi (XS.ifNo X38.here hx rfl (hb hby at_665) rfl ((if0 _ _).trans (feq hb665_39).1)) ?_
    refine oi (XS.aload X38.here hx rfl (hb hby at_668) rfl rfl) ?_
    refine oi (XS.iconst X38.here hx rfl (hb hby at_670)) ?_
    refine oi (XS.iload X38.here hx rfl (hb hby at_671) rfl) ?_
    refine oi (XS.iload X38.here hx rfl (hb hby at_673) rfl) ?_
    refine oi (XS.iload X38.here hx rfl (hb hby at_675) rfl) ?_
    refine oi (XS.aload X38.here hx rfl (hb hby at_677) rfl rfl) ?_
    refine oi (XS.aload X38.here hx rfl (hb hby at_679) rfl rfl) ?_
    refine oi (XS.iload X38.here hx rfl (hb hby at_681) rfl) ?_
    refine oi (XS.aload X38.here hx rfl (hb hby at_683) rfl rfl) ?_
    refine so (A := (T38.setTop (mkF m 685 #[l0, l1, l2, l3, l4, vi kx, vi cz, l7, l8, vr aw, l10, l11, vr rs, l13, l14, l15, vr an, vr av, l18, vi po, vi sz] [(.ref aw), (.int cz), (.ref av), (.ref an), (.int kx), (.int po), (.int sz), (.int 4), (.ref rs)]))) ?_
    have f40 : own_al Z T38.heap dq n0 rs er kr zs rq := (f33.keep Kp38 nin0 nin0)
    have f41 : own_its Z T38.heap bq zs qs := (f34.keep Kp38 all0)
    have f42 : Arv Z T38.heap an k1 .char (3 : Int32) (ms.map Value.int) (.int 0) := (f35.keep Kp38 nin0)
    have f43 : Arv Z T38.heap av k2 .char (3 : Int32) (os.map Value.int) (.int 0) := (f36.keep Kp38 nin0)
    have f44 : Arv Z T38.heap aw k3 .char (2 : Int32) (vw.map Value.int) (.int 0) := (f37.keep Kp38 nin0)
    obtain ⟨_, T45, Lc45, X45, hQ45, st45⟩ := own_c1 X38 <| Jvm.LawKit.callS X38 hx (y := ym19) hown (mvT hZ (hW 143 _ rfl)) (mvT hZ (hW 144 _ rfl)) (mvT hZ (hW 145 _ rfl)) (mvT hZ (hW 146 _ rfl)) (by decide) (backOf (W := 0) (rmAt l Z a0 hw [] rs dq er kr zs rq qs bq 4 sz po kx cz an av aw k1 k2 k3 ms os vw Gc T38.heap n0 O38 Oc Pc f40 f41 hsz hz9 (by omega) f42 f43 f44 sl4) hZ (hW 146 _ rfl) (hW 145 _ rfl) (by decide) (by decide)) (g := (mkF m 685 #[l0, l1, l2, l3, l4, vi kx, vi cz, l7, l8, vr aw, l10, l11, vr rs, l13, l14, l15, vr an, vr av, l18, vi po, vi sz] [(.ref aw), (.int cz), (.ref av), (.ref an), (.int kx), (.int po), (.int sz), (.int 4), (.ref rs)])) rfl (by rw [hml]; rfl) (argsL := [(.ref rs), (.int 4), (.int sz), (.int po), (.int kx), (.ref an), (.ref av), (.int cz), (.ref aw)]) (rest := []) (lenOf pd_23 rfl) rfl (Nat.le_of_eq rfl) (hb hby at_685) (fun _ _ => ⟨rfl, rfl, (by decide : 106 + 4 ≤ _), (by decide : 370 + 10 ≤ _)⟩)
    obtain ⟨rfl, Nq45, Kp45⟩ := hQ45
    have N45 := Fr.app N38 Nq45
    refine oo st45 ?_
    have sz45 : T38.heap.size ≤ T45.heap.size := Kp45.1
    have O45 : Old Z n0 T45.heap := O38.keep Kp45 all0
    have hb688_46 : ¬ ((1 : Int32) = (0 : Int32)) := by decide
    refine oi (XS.ifNo X45.here hx rfl (hb hby at_688) rfl ((if0 _ _).trans (feq hb688_46).1)) ?_
    refine oi (XS.iconst X45.here hx rfl (hb hby at_691)) ?_
    refine oi (XS.goto X45.here hx rfl (pc0 := 692) (pc' := 696) rfl (hb hby at_692) (by decide) (by decide)) ?_
    refine so (A := (T45.setTop (mkF m 696 #[l0, l1, l2, l3, l4, vi kx, vi cz, l7, l8, vr aw, l10, l11, vr rs, l13, l14, l15, vr an, vr av, l18, vi po, vi sz] [(.int 1)]))) ?_
    refine own_ret X45 hx hlk Bd.returns rfl (Or.inl ⟨rfl, by simp, _, rfl⟩) (hb hby at_696) (by decide) (by decide) ?_
    skip
    exact ⟨rfl, N45⟩
   ·intro j6
    refine so (A := (T5.setTop (mkF m 88 #[vi p1, vi p2, vi p3, vi p4, vn n, vn k, vi cz, vr b1, uu, uu, uu, uu, uu, uu, uu, uu, uu, uu, uu, uu, uu] [(.int (((p1.toUInt32 >>> ((6 : Int32) &&& 31).toUInt32).toInt32) &&& (1 : Int32))), (.int 2), (.ref b1)]))) ?_
    by_cases hb88_281 : (((p1.toUInt32 >>> ((6 : Int32) &&& 31).toUInt32).toInt32) &&& (1 : Int32)) = (0 : Int32)
    ·refine oi (XS.ifYes X5.here hx rfl (pc0 := 88) (pc' := 96) rfl (hb hby at_88) rfl ((if0 _ _).trans (teq hb88_281).1) (by decide) (by decide)) ?_
     refine so (A := (T5.setTop (mkF m 96 #[vi p1, vi p2, vi p3, vi p4, vn n, vn k, vi cz, vr b1, uu, uu, uu, uu, uu, uu, uu, uu, uu, uu, uu, uu, uu] [(.int 2), (.ref b1)]))) ?_
     refine oi (XS.iloadN X5.here hx rfl (hb hby at_96) rfl) ?_
     refine oi (XS.bipush X5.here hx rfl (hb hby at_97)) ?_
     refine oi (XS.iushr X5.here hx rfl (hb hby at_99) rfl) ?_
     refine oi (XS.sipush X5.here hx rfl (hb hby at_100)) ?_
     refine oi (XS.iand X5.here hx rfl (hb hby at_103) rfl) ?_
     refine oi (XS.i2c X5.here hx rfl (hb hby at_104) rfl) ?_
     refine so (A := (T5.setTop (mkF m 105 #[vi p1, vi p2, vi p3, vi p4, vn n, vn k, vi cz, vr b1, uu, uu, uu, uu, uu, uu, uu, uu, uu, uu, uu, uu, uu] [(.int ((((p2.toUInt32 >>> ((24 : Int32) &&& 31).toUInt32).toInt32) &&& (255 : Int32)).toUInt32.toUInt16.toUInt32.toInt32)), (.int 2), (.ref b1)]))) ?_
     exact j6 ⟨_, own_c255 _⟩ _ X5 e5
    ·refine oi (XS.ifNo X5.here hx rfl (hb hby at_88) rfl ((if0 _ _).trans (feq hb88_281).1)) ?_
     refine so (A := (T5.setTop (mkF m 91 #[vi p1, vi p2, vi p3, vi p4, vn n, vn k, vi cz, vr b1, uu, uu, uu, uu, uu, uu, uu, uu, uu, uu, uu, uu, uu] [(.int 2), (.ref b1)]))) ?_
     refine oi (XS.iload X5.here hx rfl (hb hby at_91) rfl) ?_
     refine oi (XS.goto X5.here hx rfl (pc0 := 93) (pc' := 105) rfl (hb hby at_93) (by decide) (by decide)) ?_
     refine so (A := (T5.setTop (mkF m 105 #[vi p1, vi p2, vi p3, vi p4, vn n, vn k, vi cz, vr b1, uu, uu, uu, uu, uu, uu, uu, uu, uu, uu, uu, uu, uu] [(.int cz), (.int 2), (.ref b1)]))) ?_
     exact j6 ⟨cz, hcz⟩ _ X5 e5
  ·intro j4
   refine so (A := (T3.setTop (mkF m 61 #[vi p1, vi p2, vi p3, vi p4, vn n, vn k, vi cz, vr b1, uu, uu, uu, uu, uu, uu, uu, uu, uu, uu, uu, uu, uu] [(.int (((p1.toUInt32 >>> ((5 : Int32) &&& 31).toUInt32).toInt32) &&& (1 : Int32))), (.int 1), (.ref b1)]))) ?_
   by_cases hb61_282 : (((p1.toUInt32 >>> ((5 : Int32) &&& 31).toUInt32).toInt32) &&& (1 : Int32)) = (0 : Int32)
   ·refine oi (XS.ifYes X3.here hx rfl (pc0 := 61) (pc' := 69) rfl (hb hby at_61) rfl ((if0 _ _).trans (teq hb61_282).1) (by decide) (by decide)) ?_
    refine so (A := (T3.setTop (mkF m 69 #[vi p1, vi p2, vi p3, vi p4, vn n, vn k, vi cz, vr b1, uu, uu, uu, uu, uu, uu, uu, uu, uu, uu, uu, uu, uu] [(.int 1), (.ref b1)]))) ?_
    refine oi (XS.iloadN X3.here hx rfl (hb hby at_69) rfl) ?_
    refine oi (XS.bipush X3.here hx rfl (hb hby at_70)) ?_
    refine oi (XS.iushr X3.here hx rfl (hb hby at_72) rfl) ?_
    refine oi (XS.sipush X3.here hx rfl (hb hby at_73)) ?_
    refine oi (XS.iand X3.here hx rfl (hb hby at_76) rfl) ?_
    refine oi (XS.i2c X3.here hx rfl (hb hby at_77) rfl) ?_
    refine so (A := (T3.setTop (mkF m 78 #[vi p1, vi p2, vi p3, vi p4, vn n, vn k, vi cz, vr b1, uu, uu, uu, uu, uu, uu, uu, uu, uu, uu, uu, uu, uu] [(.int ((((p2.toUInt32 >>> ((16 : Int32) &&& 31).toUInt32).toInt32) &&& (255 : Int32)).toUInt32.toUInt16.toUInt32.toInt32)), (.int 1), (.ref b1)]))) ?_
    exact j4 ⟨_, own_c255 _⟩ _ X3 e3
   ·refine oi (XS.ifNo X3.here hx rfl (hb hby at_61) rfl ((if0 _ _).trans (feq hb61_282).1)) ?_
    refine so (A := (T3.setTop (mkF m 64 #[vi p1, vi p2, vi p3, vi p4, vn n, vn k, vi cz, vr b1, uu, uu, uu, uu, uu, uu, uu, uu, uu, uu, uu, uu, uu] [(.int 1), (.ref b1)]))) ?_
    refine oi (XS.iload X3.here hx rfl (hb hby at_64) rfl) ?_
    refine oi (XS.goto X3.here hx rfl (pc0 := 66) (pc' := 78) rfl (hb hby at_66) (by decide) (by decide)) ?_
    refine so (A := (T3.setTop (mkF m 78 #[vi p1, vi p2, vi p3, vi p4, vn n, vn k, vi cz, vr b1, uu, uu, uu, uu, uu, uu, uu, uu, uu, uu, uu, uu, uu] [(.int cz), (.int 1), (.ref b1)]))) ?_
    exact j4 ⟨cz, hcz⟩ _ X3 e3
 ·intro j2
  refine so (A := (T1.setTop (mkF m 35 #[vi p1, vi p2, vi p3, vi p4, vn n, vn k, vi cz, vr b1, uu, uu, uu, uu, uu, uu, uu, uu, uu, uu, uu, uu, uu] [(.int (((p1.toUInt32 >>> ((4 : Int32) &&& 31).toUInt32).toInt32) &&& (1 : Int32))), (.int 0), (.ref b1)]))) ?_
  by_cases hb35_283 : (((p1.toUInt32 >>> ((4 : Int32) &&& 31).toUInt32).toInt32) &&& (1 : Int32)) = (0 : Int32)
  ·refine oi (XS.ifYes X1.here hx rfl (pc0 := 35) (pc' := 43) rfl (hb hby at_35) rfl ((if0 _ _).trans (teq hb35_283).1) (by decide) (by decide)) ?_
   refine so (A := (T1.setTop (mkF m 43 #[vi p1, vi p2, vi p3, vi p4, vn n, vn k, vi cz, vr b1, uu, uu, uu, uu, uu, uu, uu, uu, uu, uu, uu, uu, uu] [(.int 0), (.ref b1)]))) ?_
   refine oi (XS.iloadN X1.here hx rfl (hb hby at_43) rfl) ?_
   refine oi (XS.bipush X1.here hx rfl (hb hby at_44)) ?_
   refine oi (XS.iushr X1.here hx rfl (hb hby at_46) rfl) ?_
   refine oi (XS.sipush X1.here hx rfl (hb hby at_47)) ?_
   refine oi (XS.iand X1.here hx rfl (hb hby at_50) rfl) ?_
   refine oi (XS.i2c X1.here hx rfl (hb hby at_51) rfl) ?_
   refine so (A := (T1.setTop (mkF m 52 #[vi p1, vi p2, vi p3, vi p4, vn n, vn k, vi cz, vr b1, uu, uu, uu, uu, uu, uu, uu, uu, uu, uu, uu, uu, uu] [(.int ((((p2.toUInt32 >>> ((8 : Int32) &&& 31).toUInt32).toInt32) &&& (255 : Int32)).toUInt32.toUInt16.toUInt32.toInt32)), (.int 0), (.ref b1)]))) ?_
   exact j2 ⟨_, own_c255 _⟩ _ X1 e1
  ·refine oi (XS.ifNo X1.here hx rfl (hb hby at_35) rfl ((if0 _ _).trans (feq hb35_283).1)) ?_
   refine so (A := (T1.setTop (mkF m 38 #[vi p1, vi p2, vi p3, vi p4, vn n, vn k, vi cz, vr b1, uu, uu, uu, uu, uu, uu, uu, uu, uu, uu, uu, uu, uu] [(.int 0), (.ref b1)]))) ?_
   refine oi (XS.iload X1.here hx rfl (hb hby at_38) rfl) ?_
   refine oi (XS.goto X1.here hx rfl (pc0 := 40) (pc' := 52) rfl (hb hby at_40) (by decide) (by decide)) ?_
   refine so (A := (T1.setTop (mkF m 52 #[vi p1, vi p2, vi p3, vi p4, vn n, vn k, vi cz, vr b1, uu, uu, uu, uu, uu, uu, uu, uu, uu, uu, uu, uu, uu] [(.int cz), (.int 0), (.ref b1)]))) ?_
   exact j2 ⟨cz, hcz⟩ _ X1 e1
theorem comes_1 {Post : Tables → Env → Array Value → State → Outcome → State → Prop} (hpost : ∀ tb e args s v u, (limb_1_1.after args s (.returned v) u = true ∧ limb_1_2.after args s (.returned v) u = true ∧ True) → FrameEnd s (.returned v) u (Jvm.fieldLocs frame_1_writes args s ++ Jvm.arrayLocs frame_1_arrays args s ++ Jvm.staticLocs frame_1_statics s) 128 448 → Post tb e args s (.returned v) u) :
  ArmFor flags0 classFile x code maxLocals ret World_1 tables_1 room_1 Calls_1 rest_1 Pre_1 Post := by
 intro l hfl _ _ p e ha hc hk s m args below hf hA hF happ hP
 obtain ⟨hcalls, hrest, hpre⟩ := hP
 obtain ⟨-, -, -, hnamed, -, -, -, hat⟩ := (Spec.applies_iff hf).mp happ
 obtain ⟨hg, hn⟩ := and_e (Cond.before_iff.mp (show (Jvm.Cond.and given_1 narrow_1).before args s = true from hpre))
 obtain ⟨g1, g2⟩ := and_e hg
 obtain ⟨g3, g4⟩ := and_e g2
 obtain ⟨g5, g6⟩ := and_e g4
 obtain ⟨g7, g8⟩ := and_e g6
 obtain ⟨w0, w1, w2, w3, rfl⟩ : ∃ w0 w1 w2 w3 : Value, args = #[w0, w1, w2, w3] := by
  have hs : args.size = 4 := by simpa [Cond.value, given_1] using g1
  obtain ⟨L⟩ := args
  match L, hs with
  | [w0, w1, w2, w3], _ => exact ⟨w0, w1, w2, w3, rfl⟩
 have hw := fun d (hd : d ∈ tables_1) => atoms_spec (ws := Jvm.Cond.code x code maxLocals ret :: tables_1) hat d (List.mem_cons_of_mem _ hd)
 have hW : ∀ (i : Nat) (d : Jvm.Cond), tables_1[i]? = some d → d.before _ s = true := fun i d h => hw d (List.mem_of_getElem? h)
 have hfit : Fit s := fun {y c} hc i hi => by
  obtain ⟨ha, rfl⟩ := Array.getElem?_eq_some_iff.mp hc
  have q := List.all_eq_true.mp ((Array.all_eq_true_iff_forall_mem.mp hF) _ (Array.getElem_mem ha)) i (List.mem_range.mpr hi)
  simpa [Array.getElem?_eq_getElem hi] using q
 obtain ⟨hsets, hown0⟩ := atoms_of _ (rest_1_c_eq ▸ (show rest_1_c.before _ s = true from hrest))
 have hr0 := Cond.before_iff.mp hown0
 obtain ⟨i0, ei0⟩ := is_v g3
 obtain rfl : w0 = (.int i0) := Option.some.inj ei0
 obtain ⟨i1, ei1⟩ := is_v g5
 obtain rfl : w1 = (.int i1) := Option.some.inj ei1
 obtain ⟨i2, ei2⟩ := is_v g7
 obtain rfl : w2 = (.int i2) := Option.some.inj ei2
 obtain ⟨i3, ei3⟩ := is_v g8
 obtain rfl : w3 = (.int i3) := Option.some.inj ei3
 have n3 := not_v (Cond.before_iff.mp (hsets _ (List.mem_of_getElem? (i := 11) rfl)))
 obtain ⟨i7, e6⟩ := is_v (Cond.before_iff.mp (hsets _ (List.mem_of_getElem? (i := 10) rfl)))
 have S8 : Sta s s.heap "java/lang/String" "COMPACT_STRINGS" "Z" (.int i7) := Sta.start e6 (Or.inl (hsets _ (List.mem_of_getElem? (i := 9) rfl)))
 have c13 : ¬ (i7 = (0 : Int32)) := gotF (Cond.eq_ints e6 (Term.int_eval (0))) n3
 obtain ⟨dq, ed, Ed⟩ := own_ex (Cond.before_iff.mp (hsets _ (List.mem_of_getElem? (i := 7) rfl)))
 have S_d : Sta s s.heap "java/util/ArrayList" "DEFAULTCAPACITY_EMPTY_ELEMENTDATA" "[Ljava/lang/Object;" (.ref dq) := Sta.start ed (Or.inr ⟨(hW 3 _ rfl), (hsets _ (List.mem_of_getElem? (i := 2) rfl))⟩)
 obtain ⟨cld, Ad⟩ := Arr.start ed (Cond.before_iff.mp (hsets _ (List.mem_of_getElem? (i := 6) rfl)))
 have Ld := own_len ed Ad (Cond.before_iff.mp (hsets _ (List.mem_of_getElem? (i := 8) rfl)))
 have V_d : Arv s s.heap dq cld.cls (.object "java/lang/Object") (0 : Int32) [] .null := Arv.start hfit Ad Ld.2 Ld.1 (by decide) rfl trivial
 obtain ⟨cm, km, mr, fm1, fm2, fm3⟩ := (hcalls.1 : MirrorMade s "[Ljava/lang/Object;")
 obtain ⟨n, o, h1, h2, h3, _, L, rfl, ⟨rfl, N⟩, hq⟩ := rm0 l s _ hw tables_1 i0 i1 i2 i3 dq cld.cls mr i7 s.heap s.heap.size (Old.start s) S8 c13 S_d V_d Ed ⟨cm, km, fm1, fm2, fm3.1⟩ V_d.lt p e ha hc hk s m _ below hf ((Spec.applies_iff_loose hf).mp happ).1 ⟨rfl, State.Warmed39.refl s, rfl⟩ trivial
 refine ⟨n, _, h1, h2, h3, hpost _ _ _ _ _ _ ⟨Cond.after_iff.mpr rfl, Cond.after_iff.mpr (eq_i res_at (Term.int_eval (1)) rfl), trivial⟩ ⟨hq.1, hq.2.1, (hq.2.2.sift fun y hy => Or.inr (N y hy)).mono (by decide) (by decide)⟩⟩
theorem main_1_1 : Claimed_1_1 := comes_1 fun _ _ _ _ _ _ h hF => ⟨h.1, hF⟩
theorem main_1_2 : Claimed_1_2 := comes_1 fun _ _ _ _ _ _ h hF => ⟨h.2.1, hF⟩
end Jvm.Pilot.@@N@@
namespace Jvm.Pilot.@@N@@
open Jvm Jvm.ClassFile Sem Op Lib Jvm.Free Jvm.Stand Jvm.Pilot.@@N@@.Jvm.D
/-! MADE BY PROGRAM (witnessworld.py) out of the Statement's table words and the real class files: 37 classes; the members and pool entries that the words name. The judged class is class 1, her method 1. -/
namespace start1
open Jvm.ClassFile
def u (s : String) : CpInfo := .utf8 (stringToUtf16 s)
/-- a pool by its gaps: so many unusable entries, then the entry; so many at the end -/
def gap : Nat → List CpInfo → List CpInfo
  | 0, r => r
  | n + 1, r => .unusable :: gap n r
def poolList (es : List (Nat × CpInfo)) (last : Nat) : List CpInfo := es.foldr (fun e r => gap e.1 (e.2 :: r)) (gap last [])
def pool (es : List (Nat × CpInfo)) (last : Nat) : Array CpInfo := ⟨poolList es last⟩
def fileOf (pool : Array CpInfo) (this : Nat) (attrs : Array Attribute := #[]) (ms : Array MethodInfo := #[]) (fl : Nat := 33) (sup : Nat := 0) (ifs : Array Nat := #[]) (fds : Array FieldInfo := #[]) : ClassFile where
  minorVersion := 0
  majorVersion := 65
  constantPool := pool
  accessFlags := fl
  thisClass := this
  superClass := sup
  interfaces := ifs
  fields := fds
  methods := ms
  attributes := attrs
def plain (name : String) (sup : Option ClassId) : Class where
  name := name
  kind := .ordinary
  loader := none
  accessFlags := 33
  super := sup
  interfaces := #[]
  cf := none
  fields := #[]
  methods := #[]
  instanceTypes := #[]
  staticTypes := #[]
  resolved := #[]
  callSites := []
  init := .initialized
  statics := none
  mirror := none

def pool0 : Array CpInfo := pool [(5, u "<init>"), (0, u "()V"), (1, .class_ 10), (1, u "java/lang/Object"), (0, u "getClass"), (0, u "()Ljava/lang/Class;")] 111

def k0c0 : Code := { maxStack := 0, maxLocals := 1, code := object_method_1_code, exceptionTable := #[], attributes := #[] }
def k0m0 : Method := { name := "<init>", desc := "()V", sig := { parameters := [], returnType := none }, accessFlags := 1, code := some k0c0 }
def k0m1 : Method := { name := "getClass", desc := "()Ljava/lang/Class;", sig := { parameters := [], returnType := some (.object "java/lang/Class") }, accessFlags := 273, code := none }
/-- java/lang/Object -/
def k0 : Class := { plain "java/lang/Object" none with
  accessFlags := 33
  interfaces := #[]
  cf := some (fileOf pool0 8 #[] #[{ accessFlags := 1, nameIndex := 5, descriptorIndex := 6, attributes := #[] }, { accessFlags := 273, nameIndex := 11, descriptorIndex := 12, attributes := #[] }] 33 0 #[] #[])
  fields := #[]
  methods := #[k0m0, k0m1]
  instanceTypes := #[]
  staticTypes := #[]
  resolved := Array.replicate 124 none
  statics := none }

def pool1 : Array CpInfo := pool [(2, .class_ 4), (0, .nameAndType 5 6), (0, u "java/lang/Object"), (0, u "<init>"), (0, u "()V"), (0, .class_ 8), (0, u "java/util/ArrayList"), (0, .methodref 7 3), (0, .class_ 11), (0, u "com/example/practory/practory/server/SearchQuery$Parameter"), (0, .methodref 13 14), (0, .class_ 15), (0, .nameAndType 16 17), (0, u "java/lang/String"), (0, u "valueOf"), (0, u "(C)Ljava/lang/String;"), (0, .methodref 10 19), (0, .nameAndType 5 20), (0, u "(Ljava/lang/String;Ljava/lang/String;)V"), (0, .methodref 7 22), (0, .nameAndType 23 24), (0, u "add"), (0, u "(Ljava/lang/Object;)Z"), (0, .methodref 26 27), (0, .class_ 28), (0, .nameAndType 29 30), (0, u "com/example/practory/practory/server/SearchQuery"), (0, u "with"), (0, u "(Ljava/util/List;Ljava/lang/String;Ljava/util/List;)Ljava/util/List;"), (0, .interfaceMethodref 32 33), (0, .class_ 34), (0, .nameAndType 35 36), (0, u "java/util/List"), (0, u "size"), (0, u "()I"), (0, .methodref 38 39), (0, .class_ 40), (0, .nameAndType 41 42), (0, u "com/example/practory/practory/server/SearchQueryWithPinLaw"), (0, u "at"), (0, u "(Ljava/util/List;IIII[C[CC[C)Z"), (0, .interfaceMethodref 32 44), (0, .nameAndType 45 46), (0, u "get"), (0, u "(I)Ljava/lang/Object;"), (0, .methodref 10 48), (0, .nameAndType 49 50), (0, u "name"), (0, u "()Ljava/lang/String;"), (0, .methodref 13 52), (0, .nameAndType 53 24), (0, u "equals"), (0, .methodref 10 55), (0, .nameAndType 56 50), (0, u "value"), (2, u "law"), (0, u "(IIII)Z")] 9

def k1m0 : Method := { name := "<init>", desc := "()V", sig := { parameters := [], returnType := none }, accessFlags := 2, code := none }
def k1c1 : Code := { maxStack := 9, maxLocals := 21, code := code, exceptionTable := #[], attributes := #[] }
def k1m1 : Method := { name := "law", desc := "(IIII)Z", sig := { parameters := [.int, .int, .int, .int], returnType := some .boolean }, accessFlags := 9, code := some k1c1 }
def k1c2 : Code := { maxStack := 3, maxLocals := 12, code := method_3_code, exceptionTable := #[], attributes := #[] }
def k1m2 : Method := { name := "at", desc := "(Ljava/util/List;IIII[C[CC[C)Z", sig := { parameters := [(.object "java/util/List"), .int, .int, .int, .int, (.array .char), (.array .char), .char, (.array .char)], returnType := some .boolean }, accessFlags := 10, code := some k1c2 }
/-- com/example/practory/practory/server/SearchQueryWithPinLaw -/
def k1 : Class := { plain "com/example/practory/practory/server/SearchQueryWithPinLaw" (some 0) with
  accessFlags := 49
  interfaces := #[]
  cf := some (fileOf pool1 38 #[] #[{ accessFlags := 2, nameIndex := 5, descriptorIndex := 6, attributes := #[] }, { accessFlags := 9, nameIndex := 59, descriptorIndex := 60, attributes := #[] }, { accessFlags := 10, nameIndex := 41, descriptorIndex := 42, attributes := #[] }] 49 2 #[] #[])
  fields := #[]
  methods := #[k1m0, k1m1, k1m2]
  instanceTypes := #[]
  staticTypes := #[]
  resolved := Array.replicate 70 none
  statics := none }

def pool2 : Array CpInfo := pool [(8, .class_ 10), (1, u "java/lang/Iterable"), (24, .class_ 36), (0, u "java/lang/Object")] 25

/-- java/lang/Iterable -/
def k2 : Class := { plain "java/lang/Iterable" (some 0) with
  accessFlags := 1537
  interfaces := #[]
  cf := some (fileOf pool2 8 #[] #[] 1537 35 #[] #[])
  fields := #[]
  methods := #[]
  instanceTypes := #[]
  staticTypes := #[]
  resolved := Array.replicate 62 none
  statics := none }

def pool3 : Array CpInfo := pool [(10, .class_ 12), (1, u "java/util/Collection"), (0, u "toArray"), (46, .class_ 61), (0, u "java/lang/Object"), (0, .class_ 63), (0, u "java/lang/Iterable"), (6, u "()[Ljava/lang/Object;")] 44

def k3m0 : Method := { name := "toArray", desc := "()[Ljava/lang/Object;", sig := { parameters := [], returnType := some (.array (.object "java/lang/Object")) }, accessFlags := 1025, code := none }
/-- java/util/Collection -/
def k3 : Class := { plain "java/util/Collection" (some 0) with
  accessFlags := 1537
  interfaces := #[2]
  cf := some (fileOf pool3 10 #[] #[{ accessFlags := 1025, nameIndex := 13, descriptorIndex := 70, attributes := #[] }] 1537 60 #[62] #[])
  fields := #[]
  methods := #[k3m0]
  instanceTypes := #[]
  staticTypes := #[]
  resolved := Array.replicate 115 none
  statics := none }

def pool4 : Array CpInfo := pool [(1, .methodref 2 3), (0, .class_ 4), (0, .nameAndType 5 6), (0, u "java/lang/Object"), (0, u "<init>"), (0, u "()V"), (1, .class_ 10), (1, u "java/util/AbstractCollection"), (66, .class_ 78), (0, u "java/util/Collection")] 81

def k4c0 : Code := { maxStack := 1, maxLocals := 1, code := jdk_22_method_1_code, exceptionTable := #[], attributes := #[] }
def k4m0 : Method := { name := "<init>", desc := "()V", sig := { parameters := [], returnType := none }, accessFlags := 4, code := some k4c0 }
/-- java/util/AbstractCollection -/
def k4 : Class := { plain "java/util/AbstractCollection" (some 0) with
  accessFlags := 1057
  interfaces := #[3]
  cf := some (fileOf pool4 8 #[] #[{ accessFlags := 4, nameIndex := 5, descriptorIndex := 6, attributes := #[] }] 1057 2 #[77] #[])
  fields := #[]
  methods := #[k4m0]
  instanceTypes := #[]
  staticTypes := #[]
  resolved := Array.replicate 160 none
  statics := none }

def pool5 : Array CpInfo := pool [(8, .class_ 10), (1, u "java/util/SequencedCollection"), (15, .class_ 27), (0, u "java/lang/Object"), (0, .class_ 29), (0, u "java/util/Collection")] 27

/-- java/util/SequencedCollection -/
def k5 : Class := { plain "java/util/SequencedCollection" (some 0) with
  accessFlags := 1537
  interfaces := #[3]
  cf := some (fileOf pool5 8 #[] #[] 1537 26 #[28] #[])
  fields := #[]
  methods := #[]
  instanceTypes := #[]
  staticTypes := #[]
  resolved := Array.replicate 57 none
  statics := none }

def pool6 : Array CpInfo := pool [(8, .class_ 10), (1, u "java/util/List"), (64, u "get"), (0, u "(I)Ljava/lang/Object;"), (2, u "size"), (0, u "()I"), (22, .class_ 104), (0, u "java/lang/Object"), (15, .class_ 121), (0, u "java/util/SequencedCollection"), (1, u "iterator"), (0, u "()Ljava/util/Iterator;")] 126

def k6m0 : Method := { name := "size", desc := "()I", sig := { parameters := [], returnType := some .int }, accessFlags := 1025, code := none }
def k6m1 : Method := { name := "iterator", desc := "()Ljava/util/Iterator;", sig := { parameters := [], returnType := some (.object "java/util/Iterator") }, accessFlags := 1025, code := none }
def k6m2 : Method := { name := "get", desc := "(I)Ljava/lang/Object;", sig := { parameters := [.int], returnType := some (.object "java/lang/Object") }, accessFlags := 1025, code := none }
/-- java/util/List -/
def k6 : Class := { plain "java/util/List" (some 0) with
  accessFlags := 1537
  interfaces := #[5]
  cf := some (fileOf pool6 8 #[] #[{ accessFlags := 1025, nameIndex := 79, descriptorIndex := 80, attributes := #[] }, { accessFlags := 1025, nameIndex := 123, descriptorIndex := 124, attributes := #[] }, { accessFlags := 1025, nameIndex := 75, descriptorIndex := 76, attributes := #[] }] 1537 103 #[120] #[])
  fields := #[]
  methods := #[k6m0, k6m1, k6m2]
  instanceTypes := #[]
  staticTypes := #[]
  resolved := Array.replicate 251 none
  statics := none }

def pool7 : Array CpInfo := pool [(1, .methodref 2 3), (0, .class_ 4), (0, .nameAndType 5 6), (0, u "java/util/AbstractCollection"), (0, u "<init>"), (0, u "()V"), (0, .fieldref 8 9), (0, .class_ 10), (0, .nameAndType 11 12), (0, u "java/util/AbstractList"), (0, u "modCount"), (0, u "I"), (64, .class_ 78), (0, u "java/util/AbstractList$Itr"), (3, .class_ 83), (0, u "java/util/AbstractList$ListItr"), (9, .class_ 94), (0, u "java/util/AbstractList$RandomAccessSubList"), (3, .class_ 99), (0, u "java/util/AbstractList$SubList"), (33, .class_ 134), (0, u "java/util/List"), (73, .class_ 209), (0, u "java/util/AbstractList$SubList$1"), (0, .class_ 211), (0, u "java/util/AbstractList$RandomAccessSpliterator")] 6

def k7c0 : Code := { maxStack := 2, maxLocals := 1, code := jdk_39_method_1_code, exceptionTable := #[], attributes := #[] }
def k7m0 : Method := { name := "<init>", desc := "()V", sig := { parameters := [], returnType := none }, accessFlags := 4, code := some k7c0 }
/-- java/util/AbstractList -/
def k7 : Class := { plain "java/util/AbstractList" (some 4) with
  accessFlags := 1057
  interfaces := #[6]
  cf := some (fileOf pool7 8 #[.nestMembers #[93, 98, 208, 210, 82, 77]] #[{ accessFlags := 4, nameIndex := 5, descriptorIndex := 6, attributes := #[] }] 1057 2 #[133] #[{ accessFlags := 132, nameIndex := 11, descriptorIndex := 12, attributes := #[] }])
  fields := #[{ name := "modCount", type := .int, accessFlags := 132, slot := 0, constantValue := 0 }]
  methods := #[k7m0]
  instanceTypes := #[.int]
  staticTypes := #[]
  resolved := Array.replicate 218 none
  statics := none }

def pool8 : Array CpInfo := pool [(1, .class_ 2), (0, u "java/util/RandomAccess"), (0, .class_ 4), (0, u "java/lang/Object")] 2

/-- java/util/RandomAccess -/
def k8 : Class := { plain "java/util/RandomAccess" (some 0) with
  accessFlags := 1537
  interfaces := #[]
  cf := some (fileOf pool8 1 #[] #[] 1537 3 #[] #[])
  fields := #[]
  methods := #[]
  instanceTypes := #[]
  staticTypes := #[]
  resolved := Array.replicate 7 none
  statics := none }

def pool9 : Array CpInfo := pool [(1, .class_ 2), (0, u "java/lang/Cloneable"), (0, .class_ 4), (0, u "java/lang/Object")] 2

/-- java/lang/Cloneable -/
def k9 : Class := { plain "java/lang/Cloneable" (some 0) with
  accessFlags := 1537
  interfaces := #[]
  cf := some (fileOf pool9 1 #[] #[] 1537 3 #[] #[])
  fields := #[]
  methods := #[]
  instanceTypes := #[]
  staticTypes := #[]
  resolved := Array.replicate 7 none
  statics := none }

def pool10 : Array CpInfo := pool [(1, .class_ 2), (0, u "java/io/Serializable"), (0, .class_ 4), (0, u "java/lang/Object")] 2

/-- java/io/Serializable -/
def k10 : Class := { plain "java/io/Serializable" (some 0) with
  accessFlags := 1537
  interfaces := #[]
  cf := some (fileOf pool10 1 #[] #[] 1537 3 #[] #[])
  fields := #[]
  methods := #[]
  instanceTypes := #[]
  staticTypes := #[]
  resolved := Array.replicate 7 none
  statics := none }

def pool11 : Array CpInfo := pool [(1, .methodref 2 3), (0, .class_ 4), (0, .nameAndType 5 6), (0, u "java/util/AbstractList"), (0, u "<init>"), (0, u "()V"), (0, .class_ 8), (0, u "java/lang/Object"), (0, .fieldref 10 11), (0, .class_ 12), (0, .nameAndType 13 14), (0, u "java/util/ArrayList"), (0, u "elementData"), (0, u "[Ljava/lang/Object;"), (2, u "EMPTY_ELEMENTDATA"), (21, .fieldref 10 40), (0, .nameAndType 41 14), (0, u "DEFAULTCAPACITY_EMPTY_ELEMENTDATA"), (0, .interfaceMethodref 43 44), (0, .class_ 45), (0, .nameAndType 46 47), (0, u "java/util/Collection"), (0, u "toArray"), (0, u "()[Ljava/lang/Object;"), (0, .fieldref 10 49), (0, .nameAndType 50 51), (0, u "size"), (0, u "I"), (6, .class_ 60), (1, u "java/util/Arrays"), (0, u "copyOf"), (1, .fieldref 10 64), (0, .nameAndType 65 51), (0, u "modCount"), (0, .methodref 58 67), (0, .nameAndType 61 68), (0, u "([Ljava/lang/Object;I)[Ljava/lang/Object;"), (0, .methodref 10 70), (0, .nameAndType 71 72), (0, u "grow"), (0, u "(I)[Ljava/lang/Object;"), (6, .methodref 80 81), (0, .class_ 82), (0, .nameAndType 83 84), (0, u "java/lang/Math"), (0, u "max"), (0, u "(II)I"), (11, u "(Ljava/lang/Object;)Z"), (15, .methodref 113 114), (0, .class_ 115), (0, .nameAndType 116 117), (0, u "java/lang/System"), (0, u "arraycopy"), (0, u "(Ljava/lang/Object;ILjava/lang/Object;II)V"), (0, .methodref 119 120), (0, .class_ 121), (0, .nameAndType 122 84), (0, u "java/util/Objects"), (0, u "checkIndex"), (0, .methodref 10 124), (0, .nameAndType 13 125), (0, u "(I)Ljava/lang/Object;"), (3, .methodref 10 130), (0, .nameAndType 71 47), (0, .methodref 10 132), (0, .nameAndType 133 134), (0, u "add"), (0, u "(Ljava/lang/Object;[Ljava/lang/Object;I)V"), (13, .class_ 149), (0, u "java/util/List"), (16, u "iterator"), (0, u "()Ljava/util/Iterator;"), (18, u "()I"), (75, .class_ 263), (0, u "java/util/ArrayList$ListItr"), (3, .class_ 268), (0, u "java/util/ArrayList$Itr"), (0, .methodref 267 270), (0, .nameAndType 5 271), (0, u "(Ljava/util/ArrayList;)V"), (4, .class_ 277), (0, u "java/util/ArrayList$SubList"), (12, .class_ 291), (0, u "java/util/ArrayList$ArrayListSpliterator"), (37, .class_ 330), (0, u "java/util/RandomAccess"), (0, .class_ 332), (0, u "java/lang/Cloneable"), (0, .class_ 334), (0, u "java/io/Serializable"), (0, u "serialVersionUID"), (0, u "J"), (3, u "DEFAULT_CAPACITY"), (40, u "get"), (38, u "addAll"), (0, u "(Ljava/util/Collection;)Z"), (78, .class_ 501), (0, u "java/util/ArrayList$SubList$2"), (0, .class_ 503), (0, u "java/util/ArrayList$SubList$1")] 5

def k11c0 : Code := { maxStack := 2, maxLocals := 1, code := jdk_38_method_2_code, exceptionTable := #[], attributes := #[] }
def k11m0 : Method := { name := "<init>", desc := "()V", sig := { parameters := [], returnType := none }, accessFlags := 1, code := some k11c0 }
def k11c1 : Code := { maxStack := 4, maxLocals := 4, code := jdk_38_method_6_code, exceptionTable := #[], attributes := #[] }
def k11m1 : Method := { name := "grow", desc := "(I)[Ljava/lang/Object;", sig := { parameters := [.int], returnType := some (.array (.object "java/lang/Object")) }, accessFlags := 2, code := some k11c1 }
def k11c2 : Code := { maxStack := 3, maxLocals := 1, code := jdk_38_method_7_code, exceptionTable := #[], attributes := #[] }
def k11m2 : Method := { name := "grow", desc := "()[Ljava/lang/Object;", sig := { parameters := [], returnType := some (.array (.object "java/lang/Object")) }, accessFlags := 2, code := some k11c2 }
def k11c3 : Code := { maxStack := 1, maxLocals := 1, code := jdk_38_method_8_code, exceptionTable := #[], attributes := #[] }
def k11m3 : Method := { name := "size", desc := "()I", sig := { parameters := [], returnType := some .int }, accessFlags := 1, code := some k11c3 }
def k11c4 : Code := { maxStack := 2, maxLocals := 1, code := jdk_38_method_16_code, exceptionTable := #[], attributes := #[] }
def k11m4 : Method := { name := "toArray", desc := "()[Ljava/lang/Object;", sig := { parameters := [], returnType := some (.array (.object "java/lang/Object")) }, accessFlags := 1, code := some k11c4 }
def k11c5 : Code := { maxStack := 2, maxLocals := 2, code := jdk_38_method_18_code, exceptionTable := #[], attributes := #[] }
def k11m5 : Method := { name := "elementData", desc := "(I)Ljava/lang/Object;", sig := { parameters := [.int], returnType := some (.object "java/lang/Object") }, accessFlags := 0, code := some k11c5 }
def k11c6 : Code := { maxStack := 2, maxLocals := 2, code := jdk_38_method_20_code, exceptionTable := #[], attributes := #[] }
def k11m6 : Method := { name := "get", desc := "(I)Ljava/lang/Object;", sig := { parameters := [.int], returnType := some (.object "java/lang/Object") }, accessFlags := 1, code := some k11c6 }
def k11c7 : Code := { maxStack := 3, maxLocals := 4, code := jdk_38_method_24_code, exceptionTable := #[], attributes := #[] }
def k11m7 : Method := { name := "add", desc := "(Ljava/lang/Object;[Ljava/lang/Object;I)V", sig := { parameters := [(.object "java/lang/Object"), (.array (.object "java/lang/Object")), .int], returnType := none }, accessFlags := 2, code := some k11c7 }
def k11c8 : Code := { maxStack := 4, maxLocals := 2, code := jdk_38_method_25_code, exceptionTable := #[], attributes := #[] }
def k11m8 : Method := { name := "add", desc := "(Ljava/lang/Object;)Z", sig := { parameters := [(.object "java/lang/Object")], returnType := some .boolean }, accessFlags := 1, code := some k11c8 }
def k11c9 : Code := { maxStack := 5, maxLocals := 6, code := jdk_38_method_41_code, exceptionTable := #[], attributes := #[] }
def k11m9 : Method := { name := "addAll", desc := "(Ljava/util/Collection;)Z", sig := { parameters := [(.object "java/util/Collection")], returnType := some .boolean }, accessFlags := 1, code := some k11c9 }
def k11c10 : Code := { maxStack := 3, maxLocals := 1, code := jdk_38_method_55_code, exceptionTable := #[], attributes := #[] }
def k11m10 : Method := { name := "iterator", desc := "()Ljava/util/Iterator;", sig := { parameters := [], returnType := some (.object "java/util/Iterator") }, accessFlags := 1, code := some k11c10 }
/-- java/util/ArrayList -/
def k11 : Class := { plain "java/util/ArrayList" (some 7) with
  accessFlags := 33
  interfaces := #[6, 8, 9, 10]
  cf := some (fileOf pool11 10 #[.nestMembers #[290, 276, 500, 502, 262, 267]] #[{ accessFlags := 1, nameIndex := 5, descriptorIndex := 6, attributes := #[] }, { accessFlags := 2, nameIndex := 71, descriptorIndex := 72, attributes := #[] }, { accessFlags := 2, nameIndex := 71, descriptorIndex := 47, attributes := #[] }, { accessFlags := 1, nameIndex := 50, descriptorIndex := 186, attributes := #[] }, { accessFlags := 1, nameIndex := 46, descriptorIndex := 47, attributes := #[] }, { accessFlags := 0, nameIndex := 13, descriptorIndex := 125, attributes := #[] }, { accessFlags := 1, nameIndex := 381, descriptorIndex := 125, attributes := #[] }, { accessFlags := 2, nameIndex := 133, descriptorIndex := 134, attributes := #[] }, { accessFlags := 1, nameIndex := 133, descriptorIndex := 96, attributes := #[] }, { accessFlags := 1, nameIndex := 420, descriptorIndex := 421, attributes := #[] }, { accessFlags := 1, nameIndex := 166, descriptorIndex := 167, attributes := #[] }] 33 2 #[148, 329, 331, 333] #[{ accessFlags := 26, nameIndex := 335, descriptorIndex := 336, attributes := #[] }, { accessFlags := 26, nameIndex := 340, descriptorIndex := 51, attributes := #[] }, { accessFlags := 26, nameIndex := 17, descriptorIndex := 14, attributes := #[] }, { accessFlags := 26, nameIndex := 41, descriptorIndex := 14, attributes := #[] }, { accessFlags := 128, nameIndex := 13, descriptorIndex := 14, attributes := #[] }, { accessFlags := 2, nameIndex := 50, descriptorIndex := 51, attributes := #[] }])
  fields := #[{ name := "serialVersionUID", type := .long, accessFlags := 26, slot := 0, constantValue := 0 }, { name := "DEFAULT_CAPACITY", type := .int, accessFlags := 26, slot := 1, constantValue := 0 }, { name := "EMPTY_ELEMENTDATA", type := (.array (.object "java/lang/Object")), accessFlags := 26, slot := 2, constantValue := 0 }, { name := "DEFAULTCAPACITY_EMPTY_ELEMENTDATA", type := (.array (.object "java/lang/Object")), accessFlags := 26, slot := 3, constantValue := 0 }, { name := "elementData", type := (.array (.object "java/lang/Object")), accessFlags := 128, slot := 1, constantValue := 0 }, { name := "size", type := .int, accessFlags := 2, slot := 2, constantValue := 0 }]
  methods := #[k11m0, k11m1, k11m2, k11m3, k11m4, k11m5, k11m6, k11m7, k11m8, k11m9, k11m10]
  instanceTypes := #[.int, (.array (.object "java/lang/Object")), .int]
  staticTypes := #[.long, .int, (.array (.object "java/lang/Object")), (.array (.object "java/lang/Object"))]
  resolved := Array.replicate 509 none
  statics := some 0 }

def pool12 : Array CpInfo := pool [(1, .class_ 2), (0, u "java/lang/Comparable"), (0, .class_ 4), (0, u "java/lang/Object")] 7

/-- java/lang/Comparable -/
def k12 : Class := { plain "java/lang/Comparable" (some 0) with
  accessFlags := 1537
  interfaces := #[]
  cf := some (fileOf pool12 1 #[] #[] 1537 3 #[] #[])
  fields := #[]
  methods := #[]
  instanceTypes := #[]
  staticTypes := #[]
  resolved := Array.replicate 12 none
  statics := none }

def pool13 : Array CpInfo := pool [(2, .class_ 4), (1, u "java/lang/CharSequence"), (42, .class_ 48), (0, u "java/lang/CharSequence$1CodePointIterator"), (10, .class_ 60), (0, u "java/lang/CharSequence$1CharIterator"), (5, .class_ 67), (0, u "java/lang/Object")] 63

/-- java/lang/CharSequence -/
def k13 : Class := { plain "java/lang/CharSequence" (some 0) with
  accessFlags := 1537
  interfaces := #[]
  cf := some (fileOf pool13 2 #[.nestMembers #[47, 59]] #[] 1537 66 #[] #[])
  fields := #[]
  methods := #[]
  instanceTypes := #[]
  staticTypes := #[]
  resolved := Array.replicate 131 none
  statics := none }

def pool14 : Array CpInfo := pool [(1, .class_ 2), (0, u "java/lang/constant/Constable"), (0, .class_ 4), (0, u "java/lang/Object")] 6

/-- java/lang/constant/Constable -/
def k14 : Class := { plain "java/lang/constant/Constable" (some 0) with
  accessFlags := 1537
  interfaces := #[]
  cf := some (fileOf pool14 1 #[] #[] 1537 3 #[] #[])
  fields := #[]
  methods := #[]
  instanceTypes := #[]
  staticTypes := #[]
  resolved := Array.replicate 11 none
  statics := none }

def pool15 : Array CpInfo := pool [(1, .class_ 2), (0, u "java/lang/constant/ConstantDesc"), (0, .class_ 4), (0, u "java/lang/Object")] 32

/-- java/lang/constant/ConstantDesc -/
def k15 : Class := { plain "java/lang/constant/ConstantDesc" (some 0) with
  accessFlags := 1537
  interfaces := #[]
  cf := some (fileOf pool15 1 #[] #[] 1537 3 #[] #[])
  fields := #[]
  methods := #[]
  instanceTypes := #[]
  staticTypes := #[]
  resolved := Array.replicate 37 none
  statics := none }

def pool16 : Array CpInfo := pool [(1, .methodref 2 3), (0, .class_ 4), (0, .nameAndType 5 6), (0, u "java/lang/Object"), (0, u "<init>"), (0, u "()V"), (2, .fieldref 10 11), (0, .class_ 12), (0, .nameAndType 13 14), (0, u "java/lang/String"), (0, u "value"), (0, u "[B"), (0, .fieldref 10 16), (0, .nameAndType 17 18), (0, u "coder"), (0, u "B"), (2, u "hash"), (0, u "I"), (2, u "hashIsZero"), (0, u "Z"), (11, .fieldref 10 39), (0, .nameAndType 40 26), (0, u "COMPACT_STRINGS"), (12, u "toBytes"), (53, .class_ 109), (1, u "java/lang/StringLatin1"), (99, .methodref 10 210), (0, .nameAndType 5 211), (0, u "([BB)V"), (157, u "(C)Z"), (171, .methodref 107 542), (0, .nameAndType 543 544), (0, u "equals"), (0, u "([B[B)Z"), (28, u "(Ljava/lang/Object;)Z"), (1, .class_ 576), (0, u "java/lang/CharSequence"), (22, u "CASE_INSENSITIVE_ORDER"), (0, u "Ljava/util/Comparator;"), (181, u "valueOf"), (0, u "(C)Ljava/lang/String;"), (231, .methodref 107 1016), (0, .nameAndType 1017 369), (0, u "canEncode"), (0, .methodref 107 1019), (0, .nameAndType 53 1020), (0, u "(C)[B"), (80, u "serialPersistentFields"), (0, u "[Ljava/io/ObjectStreamField;"), (0, .class_ 1104), (0, u "java/lang/String$CaseInsensitiveComparator"), (1, .class_ 1107), (0, u "java/io/Serializable"), (0, .class_ 1109), (0, u "java/lang/Comparable"), (0, .class_ 1111), (0, u "java/lang/constant/Constable"), (0, .class_ 1113), (0, u "java/lang/constant/ConstantDesc"), (2, u "serialVersionUID"), (0, u "J"), (3, u "REPL"), (0, u "C"), (2, u "LATIN1"), (1, u "UTF16")] 323

def k16m0 : Method := { name := "<init>", desc := "()V", sig := { parameters := [], returnType := none }, accessFlags := 1, code := none }
def k16c1 : Code := { maxStack := 2, maxLocals := 3, code := jdk_42_method_66_code, exceptionTable := #[], attributes := #[] }
def k16m1 : Method := { name := "equals", desc := "(Ljava/lang/Object;)Z", sig := { parameters := [(.object "java/lang/Object")], returnType := some .boolean }, accessFlags := 1, code := some k16c1 }
def k16c2 : Code := { maxStack := 4, maxLocals := 1, code := jdk_42_method_139_code, exceptionTable := #[], attributes := #[] }
def k16m2 : Method := { name := "valueOf", desc := "(C)Ljava/lang/String;", sig := { parameters := [.char], returnType := some (.object "java/lang/String") }, accessFlags := 9, code := some k16c2 }
def k16c3 : Code := { maxStack := 2, maxLocals := 3, code := jdk_42_method_151_code, exceptionTable := #[], attributes := #[] }
def k16m3 : Method := { name := "<init>", desc := "([BB)V", sig := { parameters := [(.array .byte), .byte], returnType := none }, accessFlags := 0, code := some k16c3 }
/-- java/lang/String -/
def k16 : Class := { plain "java/lang/String" (some 0) with
  accessFlags := 49
  interfaces := #[10, 12, 13, 14, 15]
  cf := some (fileOf pool16 10 #[.nestMembers #[1103]] #[{ accessFlags := 1, nameIndex := 5, descriptorIndex := 6, attributes := #[] }, { accessFlags := 1, nameIndex := 543, descriptorIndex := 573, attributes := #[] }, { accessFlags := 9, nameIndex := 782, descriptorIndex := 783, attributes := #[] }, { accessFlags := 0, nameIndex := 5, descriptorIndex := 211, attributes := #[] }] 49 2 #[1106, 1108, 575, 1110, 1112] #[{ accessFlags := 18, nameIndex := 13, descriptorIndex := 14, attributes := #[] }, { accessFlags := 18, nameIndex := 17, descriptorIndex := 18, attributes := #[] }, { accessFlags := 2, nameIndex := 21, descriptorIndex := 22, attributes := #[] }, { accessFlags := 2, nameIndex := 25, descriptorIndex := 26, attributes := #[] }, { accessFlags := 26, nameIndex := 1116, descriptorIndex := 1117, attributes := #[] }, { accessFlags := 24, nameIndex := 40, descriptorIndex := 26, attributes := #[] }, { accessFlags := 26, nameIndex := 1101, descriptorIndex := 1102, attributes := #[] }, { accessFlags := 26, nameIndex := 1121, descriptorIndex := 1122, attributes := #[] }, { accessFlags := 25, nameIndex := 599, descriptorIndex := 600, attributes := #[] }, { accessFlags := 24, nameIndex := 1125, descriptorIndex := 18, attributes := #[] }, { accessFlags := 24, nameIndex := 1127, descriptorIndex := 18, attributes := #[] }])
  fields := #[{ name := "value", type := (.array .byte), accessFlags := 18, slot := 0, constantValue := 0 }, { name := "coder", type := .byte, accessFlags := 18, slot := 1, constantValue := 0 }, { name := "hash", type := .int, accessFlags := 2, slot := 2, constantValue := 0 }, { name := "hashIsZero", type := .boolean, accessFlags := 2, slot := 3, constantValue := 0 }, { name := "serialVersionUID", type := .long, accessFlags := 26, slot := 0, constantValue := 0 }, { name := "COMPACT_STRINGS", type := .boolean, accessFlags := 24, slot := 1, constantValue := 0 }, { name := "serialPersistentFields", type := (.array (.object "java/io/ObjectStreamField")), accessFlags := 26, slot := 2, constantValue := 0 }, { name := "REPL", type := .char, accessFlags := 26, slot := 3, constantValue := 0 }, { name := "CASE_INSENSITIVE_ORDER", type := (.object "java/util/Comparator"), accessFlags := 25, slot := 4, constantValue := 0 }, { name := "LATIN1", type := .byte, accessFlags := 24, slot := 5, constantValue := 0 }, { name := "UTF16", type := .byte, accessFlags := 24, slot := 6, constantValue := 0 }]
  methods := #[k16m0, k16m1, k16m2, k16m3]
  instanceTypes := #[(.array .byte), .byte, .int, .boolean]
  staticTypes := #[.long, .boolean, (.array (.object "java/io/ObjectStreamField")), .char, (.object "java/util/Comparator"), .byte, .byte]
  resolved := Array.replicate 1451 none
  statics := some 1 }

def pool17 : Array CpInfo := pool [(4, .class_ 6), (1, u "java/lang/Object"), (0, u "<init>"), (0, u "()V"), (5, .class_ 16), (1, u "java/lang/StringLatin1"), (73, u "canEncode"), (14, u "(C)Z"), (15, u "$assertionsDisabled"), (0, u "Z"), (98, .class_ 223), (1, u "java/lang/StringLatin1$LinesSpliterator"), (57, u "equals"), (0, u "([B[B)Z"), (97, u "toBytes"), (1, u "(C)[B"), (7, .class_ 391), (0, u "java/lang/StringLatin1$CharsSpliterator")] 3

def k17m0 : Method := { name := "<init>", desc := "()V", sig := { parameters := [], returnType := none }, accessFlags := 0, code := none }
def k17c1 : Code := { maxStack := 2, maxLocals := 1, code := jdk_43_method_3_code, exceptionTable := #[], attributes := #[] }
def k17m1 : Method := { name := "canEncode", desc := "(C)Z", sig := { parameters := [.char], returnType := some .boolean }, accessFlags := 9, code := some k17c1 }
def k17c2 : Code := { maxStack := 3, maxLocals := 3, code := jdk_43_method_13_code, exceptionTable := #[], attributes := #[] }
def k17m2 : Method := { name := "equals", desc := "([B[B)Z", sig := { parameters := [(.array .byte), (.array .byte)], returnType := some .boolean }, accessFlags := 9, code := some k17c2 }
def k17c3 : Code := { maxStack := 4, maxLocals := 1, code := jdk_43_method_46_code, exceptionTable := #[], attributes := #[] }
def k17m3 : Method := { name := "toBytes", desc := "(C)[B", sig := { parameters := [.char], returnType := some (.array .byte) }, accessFlags := 9, code := some k17c3 }
/-- java/lang/StringLatin1 -/
def k17 : Class := { plain "java/lang/StringLatin1" (some 0) with
  accessFlags := 48
  interfaces := #[]
  cf := some (fileOf pool17 14 #[.nestMembers #[390, 221]] #[{ accessFlags := 0, nameIndex := 7, descriptorIndex := 8, attributes := #[] }, { accessFlags := 9, nameIndex := 90, descriptorIndex := 105, attributes := #[] }, { accessFlags := 9, nameIndex := 281, descriptorIndex := 282, attributes := #[] }, { accessFlags := 9, nameIndex := 380, descriptorIndex := 382, attributes := #[] }] 48 4 #[] #[{ accessFlags := 4120, nameIndex := 121, descriptorIndex := 122, attributes := #[] }])
  fields := #[{ name := "$assertionsDisabled", type := .boolean, accessFlags := 4120, slot := 0, constantValue := 0 }]
  methods := #[k17m0, k17m1, k17m2, k17m3]
  instanceTypes := #[]
  staticTypes := #[.boolean]
  resolved := Array.replicate 395 none
  statics := none }

def pool18 : Array CpInfo := pool [(2, .class_ 4), (0, .nameAndType 5 6), (0, u "java/lang/Object"), (0, u "<init>"), (0, u "()V"), (0, .class_ 8), (0, u "java/util/ArrayList"), (0, .methodref 7 3), (0, .class_ 11), (0, u "java/lang/String"), (9, u "()Z"), (13, .class_ 36), (0, u "com/example/practory/practory/server/SearchQuery$Parameter"), (12, .methodref 35 50), (0, .nameAndType 5 51), (0, u "(Ljava/lang/String;Ljava/lang/String;)V"), (0, .methodref 7 53), (0, .nameAndType 54 55), (0, u "add"), (0, u "(Ljava/lang/Object;)Z"), (11, .interfaceMethodref 68 69), (0, .class_ 70), (0, .nameAndType 71 72), (0, u "java/util/List"), (0, u "iterator"), (0, u "()Ljava/util/Iterator;"), (0, .interfaceMethodref 74 75), (0, .class_ 76), (0, .nameAndType 77 21), (0, u "java/util/Iterator"), (0, u "hasNext"), (0, .interfaceMethodref 74 79), (0, .nameAndType 80 81), (0, u "next"), (0, u "()Ljava/lang/Object;"), (0, .methodref 35 83), (0, .nameAndType 84 85), (0, u "name"), (0, u "()Ljava/lang/String;"), (0, .methodref 10 87), (0, .nameAndType 88 55), (0, u "equals"), (0, .methodref 7 90), (0, .nameAndType 91 92), (0, u "addAll"), (0, u "(Ljava/util/Collection;)Z"), (1, .class_ 96), (1, u "com/example/practory/practory/server/SearchQuery"), (48, u "WHOLE_NUMBER"), (0, u "Ljava/util/regex/Pattern;"), (60, u "with"), (0, u "(Ljava/util/List;Ljava/lang/String;Ljava/util/List;)Ljava/util/List;")] 34

def k18m0 : Method := { name := "<init>", desc := "()V", sig := { parameters := [], returnType := none }, accessFlags := 2, code := none }
def k18c1 : Code := { maxStack := 5, maxLocals := 8, code := prog_24_method_3_code, exceptionTable := #[], attributes := #[] }
def k18m1 : Method := { name := "with", desc := "(Ljava/util/List;Ljava/lang/String;Ljava/util/List;)Ljava/util/List;", sig := { parameters := [(.object "java/util/List"), (.object "java/lang/String"), (.object "java/util/List")], returnType := some (.object "java/util/List") }, accessFlags := 8, code := some k18c1 }
/-- com/example/practory/practory/server/SearchQuery -/
def k18 : Class := { plain "com/example/practory/practory/server/SearchQuery" (some 0) with
  accessFlags := 32
  interfaces := #[]
  cf := some (fileOf pool18 94 #[.nestMembers #[35]] #[{ accessFlags := 2, nameIndex := 5, descriptorIndex := 6, attributes := #[] }, { accessFlags := 8, nameIndex := 207, descriptorIndex := 208, attributes := #[] }] 32 2 #[] #[{ accessFlags := 26, nameIndex := 145, descriptorIndex := 146, attributes := #[] }])
  fields := #[{ name := "WHOLE_NUMBER", type := (.object "java/util/regex/Pattern"), accessFlags := 26, slot := 0, constantValue := 0 }]
  methods := #[k18m0, k18m1]
  instanceTypes := #[]
  staticTypes := #[(.object "java/util/regex/Pattern")]
  resolved := Array.replicate 243 none
  statics := none }

def pool19 : Array CpInfo := pool [(16, .class_ 18), (1, u "java/util/Iterator"), (0, u "hasNext"), (0, u "()Z"), (2, u "next"), (0, u "()Ljava/lang/Object;"), (6, .class_ 32), (0, u "java/lang/Object")] 20

def k19m0 : Method := { name := "hasNext", desc := "()Z", sig := { parameters := [], returnType := some .boolean }, accessFlags := 1025, code := none }
def k19m1 : Method := { name := "next", desc := "()Ljava/lang/Object;", sig := { parameters := [], returnType := some (.object "java/lang/Object") }, accessFlags := 1025, code := none }
/-- java/util/Iterator -/
def k19 : Class := { plain "java/util/Iterator" (some 0) with
  accessFlags := 1537
  interfaces := #[]
  cf := some (fileOf pool19 16 #[] #[{ accessFlags := 1025, nameIndex := 19, descriptorIndex := 20, attributes := #[] }, { accessFlags := 1025, nameIndex := 23, descriptorIndex := 24, attributes := #[] }] 1537 31 #[] #[])
  fields := #[]
  methods := #[k19m0, k19m1]
  instanceTypes := #[]
  staticTypes := #[]
  resolved := Array.replicate 53 none
  statics := none }

def pool20 : Array CpInfo := pool [(1, .fieldref 2 3), (0, .class_ 4), (0, .nameAndType 5 6), (0, u "java/util/ArrayList$Itr"), (0, u "this$0"), (0, u "Ljava/util/ArrayList;"), (0, .methodref 8 9), (0, .class_ 10), (0, .nameAndType 11 12), (0, u "java/lang/Object"), (0, u "<init>"), (0, u "()V"), (0, .fieldref 2 14), (0, .nameAndType 15 16), (0, u "lastRet"), (0, u "I"), (0, .fieldref 18 19), (0, .class_ 20), (0, .nameAndType 21 16), (0, u "java/util/ArrayList"), (0, u "modCount"), (0, .fieldref 2 23), (0, .nameAndType 24 16), (0, u "expectedModCount"), (0, .fieldref 2 26), (0, .nameAndType 27 16), (0, u "cursor"), (0, .fieldref 18 29), (0, .nameAndType 30 16), (0, u "size"), (0, .methodref 2 32), (0, .nameAndType 33 12), (0, u "checkForComodification"), (3, .fieldref 18 38), (0, .nameAndType 39 40), (0, u "elementData"), (0, u "[Ljava/lang/Object;"), (28, .class_ 70), (0, u "java/util/Iterator"), (0, u "(Ljava/util/ArrayList;)V"), (8, u "hasNext"), (0, u "()Z"), (1, u "next"), (0, u "()Ljava/lang/Object;")] 19

def k20c0 : Code := { maxStack := 2, maxLocals := 2, code := jdk_49_method_1_code, exceptionTable := #[], attributes := #[] }
def k20m0 : Method := { name := "<init>", desc := "(Ljava/util/ArrayList;)V", sig := { parameters := [(.object "java/util/ArrayList")], returnType := none }, accessFlags := 0, code := some k20c0 }
def k20c1 : Code := { maxStack := 2, maxLocals := 1, code := jdk_49_method_2_code, exceptionTable := #[], attributes := #[] }
def k20m1 : Method := { name := "hasNext", desc := "()Z", sig := { parameters := [], returnType := some .boolean }, accessFlags := 1, code := some k20c1 }
def k20c2 : Code := { maxStack := 4, maxLocals := 3, code := jdk_49_method_3_code, exceptionTable := #[], attributes := #[] }
def k20m2 : Method := { name := "next", desc := "()Ljava/lang/Object;", sig := { parameters := [], returnType := some (.object "java/lang/Object") }, accessFlags := 1, code := some k20c2 }
def k20c3 : Code := { maxStack := 2, maxLocals := 1, code := jdk_49_method_6_code, exceptionTable := #[], attributes := #[] }
def k20m3 : Method := { name := "checkForComodification", desc := "()V", sig := { parameters := [], returnType := none }, accessFlags := 16, code := some k20c3 }
/-- java/util/ArrayList$Itr -/
def k20 : Class := { plain "java/util/ArrayList$Itr" (some 0) with
  accessFlags := 32
  interfaces := #[19]
  cf := some (fileOf pool20 2 #[.nestHost 18] #[{ accessFlags := 0, nameIndex := 11, descriptorIndex := 71, attributes := #[] }, { accessFlags := 1, nameIndex := 80, descriptorIndex := 81, attributes := #[] }, { accessFlags := 1, nameIndex := 83, descriptorIndex := 84, attributes := #[] }, { accessFlags := 16, nameIndex := 33, descriptorIndex := 12, attributes := #[] }] 32 8 #[69] #[{ accessFlags := 0, nameIndex := 27, descriptorIndex := 16, attributes := #[] }, { accessFlags := 0, nameIndex := 15, descriptorIndex := 16, attributes := #[] }, { accessFlags := 0, nameIndex := 24, descriptorIndex := 16, attributes := #[] }, { accessFlags := 4112, nameIndex := 5, descriptorIndex := 6, attributes := #[] }])
  fields := #[{ name := "cursor", type := .int, accessFlags := 0, slot := 0, constantValue := 0 }, { name := "lastRet", type := .int, accessFlags := 0, slot := 1, constantValue := 0 }, { name := "expectedModCount", type := .int, accessFlags := 0, slot := 2, constantValue := 0 }, { name := "this$0", type := (.object "java/util/ArrayList"), accessFlags := 4112, slot := 3, constantValue := 0 }]
  methods := #[k20m0, k20m1, k20m2, k20m3]
  instanceTypes := #[.int, .int, .int, (.object "java/util/ArrayList")]
  staticTypes := #[]
  resolved := Array.replicate 104 none
  statics := none }

def pool21 : Array CpInfo := pool [(2, .class_ 4), (1, u "java/lang/Object"), (0, u "<init>"), (0, u "()V"), (7, .class_ 16), (1, u "java/util/Arrays"), (57, .class_ 76), (1, u "java/util/Arrays$NaturalOrder"), (9, .methodref 2 87), (0, .nameAndType 88 89), (0, u "getClass"), (0, u "()Ljava/lang/Class;"), (20, .class_ 111), (0, u "[Ljava/lang/Object;"), (1, .class_ 115), (1, u "java/util/Arrays$LegacyMergeSort"), (1, u "Z"), (32, .methodref 151 152), (0, .class_ 153), (0, .nameAndType 154 155), (0, u "java/lang/System"), (0, u "arraycopy"), (0, u "(Ljava/lang/Object;ILjava/lang/Object;II)V"), (144, .methodref 14 301), (0, .nameAndType 302 303), (0, u "copyOf"), (0, u "([Ljava/lang/Object;ILjava/lang/Class;)[Ljava/lang/Object;"), (0, .methodref 305 306), (0, .class_ 307), (0, .nameAndType 308 309), (0, u "java/lang/Math"), (0, u "min"), (0, u "(II)I"), (65, .class_ 376), (0, u "java/util/Arrays$ArrayList"), (68, u "$assertionsDisabled"), (269, u "MIN_ARRAY_SORT_GRAN"), (0, u "I"), (2, u "INSERTIONSORT_THRESHOLD"), (140, u "([Ljava/lang/Object;I)[Ljava/lang/Object;"), (114, .class_ 976), (0, u "java/util/Arrays$ArrayItr")] 52

def k21m0 : Method := { name := "<init>", desc := "()V", sig := { parameters := [], returnType := none }, accessFlags := 2, code := none }
def k21c1 : Code := { maxStack := 3, maxLocals := 2, code := jdk_65_method_119_code, exceptionTable := #[], attributes := #[] }
def k21m1 : Method := { name := "copyOf", desc := "([Ljava/lang/Object;I)[Ljava/lang/Object;", sig := { parameters := [(.array (.object "java/lang/Object")), .int], returnType := some (.array (.object "java/lang/Object")) }, accessFlags := 9, code := some k21c1 }
def k21c2 : Code := { maxStack := 6, maxLocals := 4, code := jdk_65_method_120_code, exceptionTable := #[], attributes := #[] }
def k21m2 : Method := { name := "copyOf", desc := "([Ljava/lang/Object;ILjava/lang/Class;)[Ljava/lang/Object;", sig := { parameters := [(.array (.object "java/lang/Object")), .int, (.object "java/lang/Class")], returnType := some (.array (.object "java/lang/Object")) }, accessFlags := 9, code := some k21c2 }
/-- java/util/Arrays -/
def k21 : Class := { plain "java/util/Arrays" (some 0) with
  accessFlags := 49
  interfaces := #[]
  cf := some (fileOf pool21 14 #[.nestMembers #[975, 375, 113, 74]] #[{ accessFlags := 2, nameIndex := 5, descriptorIndex := 6, attributes := #[] }, { accessFlags := 9, nameIndex := 302, descriptorIndex := 860, attributes := #[] }, { accessFlags := 9, nameIndex := 302, descriptorIndex := 303, attributes := #[] }] 49 2 #[] #[{ accessFlags := 26, nameIndex := 715, descriptorIndex := 716, attributes := #[] }, { accessFlags := 26, nameIndex := 719, descriptorIndex := 716, attributes := #[] }, { accessFlags := 4120, nameIndex := 445, descriptorIndex := 117, attributes := #[] }])
  fields := #[{ name := "MIN_ARRAY_SORT_GRAN", type := .int, accessFlags := 26, slot := 0, constantValue := 0 }, { name := "INSERTIONSORT_THRESHOLD", type := .int, accessFlags := 26, slot := 1, constantValue := 0 }, { name := "$assertionsDisabled", type := .boolean, accessFlags := 4120, slot := 2, constantValue := 0 }]
  methods := #[k21m0, k21m1, k21m2]
  instanceTypes := #[]
  staticTypes := #[.int, .int, .boolean]
  resolved := Array.replicate 1029 none
  statics := none }

def pool22 : Array CpInfo := pool [(1, .class_ 2), (0, u "java/lang/Math"), (1, .class_ 6), (1, u "java/lang/Object"), (0, u "<init>"), (0, u "()V"), (89, .class_ 100), (1, u "java/lang/Math$RandomNumberGeneratorHolder"), (71, u "negativeZeroFloatBits"), (0, u "J"), (2, u "negativeZeroDoubleBits"), (21, u "max"), (2, u "min"), (43, u "$assertionsDisabled"), (0, u "Z"), (88, u "(II)I"), (2, u "twoToTheDoubleScaleDown"), (0, u "D"), (4, u "twoToTheDoubleScaleUp"), (9, u "E"), (3, u "PI"), (2, u "TAU"), (2, u "DEGREES_TO_RADIANS"), (0, u "RADIANS_TO_DEGREES")] 94

def k22m0 : Method := { name := "<init>", desc := "()V", sig := { parameters := [], returnType := none }, accessFlags := 2, code := none }
def k22c1 : Code := { maxStack := 2, maxLocals := 2, code := jdk_29_method_65_code, exceptionTable := #[], attributes := #[] }
def k22m1 : Method := { name := "max", desc := "(II)I", sig := { parameters := [.int, .int], returnType := some .int }, accessFlags := 9, code := some k22c1 }
def k22c2 : Code := { maxStack := 2, maxLocals := 2, code := jdk_29_method_69_code, exceptionTable := #[], attributes := #[] }
def k22m2 : Method := { name := "min", desc := "(II)I", sig := { parameters := [.int, .int], returnType := some .int }, accessFlags := 9, code := some k22c2 }
/-- java/lang/Math -/
def k22 : Class := { plain "java/lang/Math" (some 0) with
  accessFlags := 49
  interfaces := #[]
  cf := some (fileOf pool22 1 #[.nestMembers #[98]] #[{ accessFlags := 2, nameIndex := 7, descriptorIndex := 8, attributes := #[] }, { accessFlags := 9, nameIndex := 198, descriptorIndex := 335, attributes := #[] }, { accessFlags := 9, nameIndex := 201, descriptorIndex := 335, attributes := #[] }] 49 4 #[] #[{ accessFlags := 25, nameIndex := 354, descriptorIndex := 339, attributes := #[] }, { accessFlags := 25, nameIndex := 358, descriptorIndex := 339, attributes := #[] }, { accessFlags := 25, nameIndex := 361, descriptorIndex := 339, attributes := #[] }, { accessFlags := 26, nameIndex := 364, descriptorIndex := 339, attributes := #[] }, { accessFlags := 26, nameIndex := 365, descriptorIndex := 339, attributes := #[] }, { accessFlags := 26, nameIndex := 172, descriptorIndex := 173, attributes := #[] }, { accessFlags := 26, nameIndex := 176, descriptorIndex := 173, attributes := #[] }, { accessFlags := 8, nameIndex := 344, descriptorIndex := 339, attributes := #[] }, { accessFlags := 8, nameIndex := 338, descriptorIndex := 339, attributes := #[] }, { accessFlags := 4120, nameIndex := 245, descriptorIndex := 246, attributes := #[] }])
  fields := #[{ name := "E", type := .double, accessFlags := 25, slot := 0, constantValue := 0 }, { name := "PI", type := .double, accessFlags := 25, slot := 1, constantValue := 0 }, { name := "TAU", type := .double, accessFlags := 25, slot := 2, constantValue := 0 }, { name := "DEGREES_TO_RADIANS", type := .double, accessFlags := 26, slot := 3, constantValue := 0 }, { name := "RADIANS_TO_DEGREES", type := .double, accessFlags := 26, slot := 4, constantValue := 0 }, { name := "negativeZeroFloatBits", type := .long, accessFlags := 26, slot := 5, constantValue := 0 }, { name := "negativeZeroDoubleBits", type := .long, accessFlags := 26, slot := 6, constantValue := 0 }, { name := "twoToTheDoubleScaleUp", type := .double, accessFlags := 8, slot := 7, constantValue := 0 }, { name := "twoToTheDoubleScaleDown", type := .double, accessFlags := 8, slot := 8, constantValue := 0 }, { name := "$assertionsDisabled", type := .boolean, accessFlags := 4120, slot := 9, constantValue := 0 }]
  methods := #[k22m0, k22m1, k22m2]
  instanceTypes := #[]
  staticTypes := #[.double, .double, .double, .double, .double, .long, .long, .double, .double, .boolean]
  resolved := Array.replicate 460 none
  statics := none }

def pool23 : Array CpInfo := pool [(2, .class_ 4), (1, u "java/lang/Object"), (0, u "<init>"), (0, u "()V"), (1, .class_ 10), (1, u "java/lang/System"), (0, u "allowSecurityManager"), (0, u "I"), (16, u "cons"), (0, u "Ljava/io/Console;"), (77, .class_ 110), (1, u "java/lang/System$CallersHolder"), (43, u "initialErrStream"), (0, u "Ljava/io/PrintStream;"), (19, u "security"), (0, u "Ljava/lang/SecurityManager;"), (31, .class_ 209), (0, u "java/lang/System$1"), (7, u "props"), (0, u "Ljava/util/Properties;"), (2, u "lineSeparator"), (0, u "Ljava/lang/String;"), (96, .class_ 321), (1, u "java/lang/System$LoggerFinder"), (5, .class_ 328), (0, u "java/lang/System$Logger"), (67, u "err"), (2, u "out"), (91, u "notSupportedJnuEncoding"), (15, u "in"), (17, u "initialIn"), (0, u "Ljava/io/InputStream;"), (35, u "bootLayer"), (0, u "Ljava/lang/ModuleLayer;"), (99, .class_ 664), (0, u "java/lang/System$2"), (9, u "NEVER"), (2, u "MAYBE"), (49, u "arraycopy"), (0, u "(Ljava/lang/Object;ILjava/lang/Object;II)V"), (72, .class_ 802), (0, u "java/lang/System$Logger$Level")] 31

def k23m0 : Method := { name := "<init>", desc := "()V", sig := { parameters := [], returnType := none }, accessFlags := 2, code := none }
def k23m1 : Method := { name := "arraycopy", desc := "(Ljava/lang/Object;ILjava/lang/Object;II)V", sig := { parameters := [(.object "java/lang/Object"), .int, (.object "java/lang/Object"), .int, .int], returnType := none }, accessFlags := 265, code := none }
/-- java/lang/System -/
def k23 : Class := { plain "java/lang/System" (some 0) with
  accessFlags := 49
  interfaces := #[]
  cf := some (fileOf pool23 8 #[.nestMembers #[319, 327, 801, 108, 663, 208]] #[{ accessFlags := 2, nameIndex := 5, descriptorIndex := 6, attributes := #[] }, { accessFlags := 265, nameIndex := 727, descriptorIndex := 728, attributes := #[] }] 49 2 #[] #[{ accessFlags := 25, nameIndex := 507, descriptorIndex := 526, attributes := #[] }, { accessFlags := 25, nameIndex := 399, descriptorIndex := 155, attributes := #[] }, { accessFlags := 25, nameIndex := 396, descriptorIndex := 155, attributes := #[] }, { accessFlags := 10, nameIndex := 525, descriptorIndex := 526, attributes := #[] }, { accessFlags := 26, nameIndex := 674, descriptorIndex := 12, attributes := #[] }, { accessFlags := 26, nameIndex := 677, descriptorIndex := 12, attributes := #[] }, { accessFlags := 10, nameIndex := 11, descriptorIndex := 12, attributes := #[] }, { accessFlags := 74, nameIndex := 175, descriptorIndex := 176, attributes := #[] }, { accessFlags := 10, nameIndex := 491, descriptorIndex := 222, attributes := #[] }, { accessFlags := 74, nameIndex := 29, descriptorIndex := 30, attributes := #[] }, { accessFlags := 74, nameIndex := 154, descriptorIndex := 155, attributes := #[] }, { accessFlags := 10, nameIndex := 217, descriptorIndex := 218, attributes := #[] }, { accessFlags := 10, nameIndex := 221, descriptorIndex := 222, attributes := #[] }, { accessFlags := 8, nameIndex := 562, descriptorIndex := 563, attributes := #[] }])
  fields := #[{ name := "in", type := (.object "java/io/InputStream"), accessFlags := 25, slot := 0, constantValue := 0 }, { name := "out", type := (.object "java/io/PrintStream"), accessFlags := 25, slot := 1, constantValue := 0 }, { name := "err", type := (.object "java/io/PrintStream"), accessFlags := 25, slot := 2, constantValue := 0 }, { name := "initialIn", type := (.object "java/io/InputStream"), accessFlags := 10, slot := 3, constantValue := 0 }, { name := "NEVER", type := .int, accessFlags := 26, slot := 4, constantValue := 0 }, { name := "MAYBE", type := .int, accessFlags := 26, slot := 5, constantValue := 0 }, { name := "allowSecurityManager", type := .int, accessFlags := 10, slot := 6, constantValue := 0 }, { name := "security", type := (.object "java/lang/SecurityManager"), accessFlags := 74, slot := 7, constantValue := 0 }, { name := "notSupportedJnuEncoding", type := (.object "java/lang/String"), accessFlags := 10, slot := 8, constantValue := 0 }, { name := "cons", type := (.object "java/io/Console"), accessFlags := 74, slot := 9, constantValue := 0 }, { name := "initialErrStream", type := (.object "java/io/PrintStream"), accessFlags := 74, slot := 10, constantValue := 0 }, { name := "props", type := (.object "java/util/Properties"), accessFlags := 10, slot := 11, constantValue := 0 }, { name := "lineSeparator", type := (.object "java/lang/String"), accessFlags := 10, slot := 12, constantValue := 0 }, { name := "bootLayer", type := (.object "java/lang/ModuleLayer"), accessFlags := 8, slot := 13, constantValue := 0 }]
  methods := #[k23m0, k23m1]
  instanceTypes := #[]
  staticTypes := #[(.object "java/io/InputStream"), (.object "java/io/PrintStream"), (.object "java/io/PrintStream"), (.object "java/io/InputStream"), .int, .int, .int, (.object "java/lang/SecurityManager"), (.object "java/lang/String"), (.object "java/io/Console"), (.object "java/io/PrintStream"), (.object "java/util/Properties"), (.object "java/lang/String"), (.object "java/lang/ModuleLayer")]
  resolved := Array.replicate 834 none
  statics := none }

def pool24 : Array CpInfo := pool [(1, .methodref 2 3), (0, .class_ 4), (0, .nameAndType 5 6), (0, u "java/lang/Object"), (0, u "<init>"), (0, u "()V"), (0, .class_ 8), (0, u "java/lang/Record")] 13

def k24c0 : Code := { maxStack := 1, maxLocals := 1, code := jdk_30_method_1_code, exceptionTable := #[], attributes := #[] }
def k24m0 : Method := { name := "<init>", desc := "()V", sig := { parameters := [], returnType := none }, accessFlags := 4, code := some k24c0 }
/-- java/lang/Record -/
def k24 : Class := { plain "java/lang/Record" (some 0) with
  accessFlags := 1057
  interfaces := #[]
  cf := some (fileOf pool24 7 #[] #[{ accessFlags := 4, nameIndex := 5, descriptorIndex := 6, attributes := #[] }] 1057 2 #[] #[])
  fields := #[]
  methods := #[k24m0]
  instanceTypes := #[]
  staticTypes := #[]
  resolved := Array.replicate 22 none
  statics := none }

def pool25 : Array CpInfo := pool [(1, .methodref 2 3), (0, .class_ 4), (0, .nameAndType 5 6), (0, u "java/lang/Record"), (0, u "<init>"), (0, u "()V"), (0, .fieldref 8 9), (0, .class_ 10), (0, .nameAndType 11 12), (0, u "com/example/practory/practory/server/SearchQuery$Parameter"), (0, u "name"), (0, u "Ljava/lang/String;"), (0, .fieldref 8 14), (0, .nameAndType 15 12), (0, u "value"), (12, u "(Ljava/lang/String;Ljava/lang/String;)V"), (3, u "()Ljava/lang/String;"), (5, .class_ 39), (0, u "com/example/practory/practory/server/SearchQuery")] 20

def k25c0 : Code := { maxStack := 2, maxLocals := 3, code := prog_25_method_1_code, exceptionTable := #[], attributes := #[] }
def k25m0 : Method := { name := "<init>", desc := "(Ljava/lang/String;Ljava/lang/String;)V", sig := { parameters := [(.object "java/lang/String"), (.object "java/lang/String")], returnType := none }, accessFlags := 0, code := some k25c0 }
def k25c1 : Code := { maxStack := 1, maxLocals := 1, code := prog_25_method_5_code, exceptionTable := #[], attributes := #[] }
def k25m1 : Method := { name := "name", desc := "()Ljava/lang/String;", sig := { parameters := [], returnType := some (.object "java/lang/String") }, accessFlags := 1, code := some k25c1 }
def k25c2 : Code := { maxStack := 1, maxLocals := 1, code := prog_25_method_6_code, exceptionTable := #[], attributes := #[] }
def k25m2 : Method := { name := "value", desc := "()Ljava/lang/String;", sig := { parameters := [], returnType := some (.object "java/lang/String") }, accessFlags := 1, code := some k25c2 }
/-- com/example/practory/practory/server/SearchQuery$Parameter -/
def k25 : Class := { plain "com/example/practory/practory/server/SearchQuery$Parameter" (some 24) with
  accessFlags := 48
  interfaces := #[]
  cf := some (fileOf pool25 8 #[.nestHost 38] #[{ accessFlags := 0, nameIndex := 5, descriptorIndex := 28, attributes := #[] }, { accessFlags := 1, nameIndex := 11, descriptorIndex := 32, attributes := #[] }, { accessFlags := 1, nameIndex := 15, descriptorIndex := 32, attributes := #[] }] 48 2 #[] #[{ accessFlags := 18, nameIndex := 11, descriptorIndex := 12, attributes := #[] }, { accessFlags := 18, nameIndex := 15, descriptorIndex := 12, attributes := #[] }])
  fields := #[{ name := "name", type := (.object "java/lang/String"), accessFlags := 18, slot := 0, constantValue := 0 }, { name := "value", type := (.object "java/lang/String"), accessFlags := 18, slot := 1, constantValue := 0 }]
  methods := #[k25m0, k25m1, k25m2]
  instanceTypes := #[(.object "java/lang/String"), (.object "java/lang/String")]
  staticTypes := #[]
  resolved := Array.replicate 60 none
  statics := none }

def pool26 : Array CpInfo := pool [(2, .class_ 4), (1, u "java/lang/Object"), (0, u "<init>"), (0, u "()V"), (35, .class_ 44), (1, u "java/util/Objects"), (60, .methodref 106 107), (0, .class_ 108), (0, .nameAndType 109 110), (0, u "jdk/internal/util/Preconditions"), (0, u "checkIndex"), (0, u "(IILjava/util/function/BiFunction;)I"), (60, u "(II)I")] 12

def k26m0 : Method := { name := "<init>", desc := "()V", sig := { parameters := [], returnType := none }, accessFlags := 2, code := none }
def k26c1 : Code := { maxStack := 3, maxLocals := 2, code := jdk_31_method_17_code, exceptionTable := #[], attributes := #[] }
def k26m1 : Method := { name := "checkIndex", desc := "(II)I", sig := { parameters := [.int, .int], returnType := some .int }, accessFlags := 9, code := some k26c1 }
/-- java/util/Objects -/
def k26 : Class := { plain "java/util/Objects" (some 0) with
  accessFlags := 49
  interfaces := #[]
  cf := some (fileOf pool26 42 #[] #[{ accessFlags := 2, nameIndex := 5, descriptorIndex := 6, attributes := #[] }, { accessFlags := 9, nameIndex := 109, descriptorIndex := 171, attributes := #[] }] 49 2 #[] #[])
  fields := #[]
  methods := #[k26m0, k26m1]
  instanceTypes := #[]
  staticTypes := #[]
  resolved := Array.replicate 184 none
  statics := none }

def pool27 : Array CpInfo := pool [(2, .class_ 4), (1, u "java/lang/Object"), (0, u "<init>"), (0, u "()V"), (17, .class_ 26), (1, u "jdk/internal/util/Preconditions"), (6, u "checkIndex"), (21, .class_ 56), (0, u "jdk/internal/util/Preconditions$4"), (57, .class_ 115), (0, u "jdk/internal/util/Preconditions$1"), (7, u "SIOOBE_FORMATTER"), (0, u "Ljava/util/function/BiFunction;"), (0, .class_ 126), (0, u "jdk/internal/util/Preconditions$2"), (3, u "AIOOBE_FORMATTER"), (0, .class_ 132), (0, u "jdk/internal/util/Preconditions$3"), (3, u "IOOBE_FORMATTER"), (41, u "(IILjava/util/function/BiFunction;)I")] 15

def k27m0 : Method := { name := "<init>", desc := "()V", sig := { parameters := [], returnType := none }, accessFlags := 1, code := none }
def k27c1 : Code := { maxStack := 3, maxLocals := 3, code := jdk_41_method_11_code, exceptionTable := #[], attributes := #[] }
def k27m1 : Method := { name := "checkIndex", desc := "(IILjava/util/function/BiFunction;)I", sig := { parameters := [.int, .int, (.object "java/util/function/BiFunction")], returnType := some .int }, accessFlags := 9, code := some k27c1 }
/-- jdk/internal/util/Preconditions -/
def k27 : Class := { plain "jdk/internal/util/Preconditions" (some 0) with
  accessFlags := 33
  interfaces := #[]
  cf := some (fileOf pool27 24 #[.nestMembers #[55, 131, 125, 114]] #[{ accessFlags := 1, nameIndex := 5, descriptorIndex := 6, attributes := #[] }, { accessFlags := 9, nameIndex := 33, descriptorIndex := 178, attributes := #[] }] 33 2 #[] #[{ accessFlags := 25, nameIndex := 123, descriptorIndex := 124, attributes := #[] }, { accessFlags := 25, nameIndex := 130, descriptorIndex := 124, attributes := #[] }, { accessFlags := 25, nameIndex := 136, descriptorIndex := 124, attributes := #[] }])
  fields := #[{ name := "SIOOBE_FORMATTER", type := (.object "java/util/function/BiFunction"), accessFlags := 25, slot := 0, constantValue := 0 }, { name := "AIOOBE_FORMATTER", type := (.object "java/util/function/BiFunction"), accessFlags := 25, slot := 1, constantValue := 0 }, { name := "IOOBE_FORMATTER", type := (.object "java/util/function/BiFunction"), accessFlags := 25, slot := 2, constantValue := 0 }]
  methods := #[k27m0, k27m1]
  instanceTypes := #[]
  staticTypes := #[(.object "java/util/function/BiFunction"), (.object "java/util/function/BiFunction"), (.object "java/util/function/BiFunction")]
  resolved := Array.replicate 194 none
  statics := some 2 }

def pool28 : Array CpInfo := pool [(9, u "<init>"), (6, .class_ 18), (1, u "java/lang/Object"), (0, u "()V"), (1, .class_ 23), (1, u "jdk/internal/util/ArraysSupport"), (0, u "LOG2_ARRAY_LONG_INDEX_SCALE"), (0, u "I"), (2, u "U"), (0, u "Ljdk/internal/misc/Unsafe;"), (8, u "BIG_ENDIAN"), (0, u "Z"), (8, u "LOG2_BYTE_BIT_SIZE"), (4, u "LOG2_ARRAY_INT_INDEX_SCALE"), (54, u "JLA"), (0, u "Ljdk/internal/access/JavaLangAccess;"), (11, u "LOG2_ARRAY_BOOLEAN_INDEX_SCALE"), (9, u "LOG2_ARRAY_BYTE_INDEX_SCALE"), (5, u "LOG2_ARRAY_CHAR_INDEX_SCALE"), (5, u "LOG2_ARRAY_SHORT_INDEX_SCALE"), (18, u "LOG2_ARRAY_FLOAT_INDEX_SCALE"), (24, u "LOG2_ARRAY_DOUBLE_INDEX_SCALE"), (89, u "T_BOOLEAN"), (2, u "T_CHAR"), (1, u "T_FLOAT"), (1, u "T_DOUBLE"), (1, u "T_BYTE"), (1, u "T_SHORT"), (1, u "T_INT"), (1, u "T_LONG"), (1, u "SOFT_MAX_ARRAY_LENGTH")] 83

def k28m0 : Method := { name := "<init>", desc := "()V", sig := { parameters := [], returnType := none }, accessFlags := 2, code := none }
/-- jdk/internal/util/ArraysSupport -/
def k28 : Class := { plain "jdk/internal/util/ArraysSupport" (some 0) with
  accessFlags := 33
  interfaces := #[]
  cf := some (fileOf pool28 21 #[] #[{ accessFlags := 2, nameIndex := 9, descriptorIndex := 19, attributes := #[] }] 33 16 #[] #[{ accessFlags := 24, nameIndex := 28, descriptorIndex := 29, attributes := #[] }, { accessFlags := 26, nameIndex := 38, descriptorIndex := 39, attributes := #[] }, { accessFlags := 25, nameIndex := 121, descriptorIndex := 25, attributes := #[] }, { accessFlags := 25, nameIndex := 131, descriptorIndex := 25, attributes := #[] }, { accessFlags := 25, nameIndex := 137, descriptorIndex := 25, attributes := #[] }, { accessFlags := 25, nameIndex := 143, descriptorIndex := 25, attributes := #[] }, { accessFlags := 25, nameIndex := 53, descriptorIndex := 25, attributes := #[] }, { accessFlags := 25, nameIndex := 24, descriptorIndex := 25, attributes := #[] }, { accessFlags := 25, nameIndex := 162, descriptorIndex := 25, attributes := #[] }, { accessFlags := 25, nameIndex := 187, descriptorIndex := 25, attributes := #[] }, { accessFlags := 26, nameIndex := 48, descriptorIndex := 25, attributes := #[] }, { accessFlags := 25, nameIndex := 277, descriptorIndex := 25, attributes := #[] }, { accessFlags := 25, nameIndex := 280, descriptorIndex := 25, attributes := #[] }, { accessFlags := 25, nameIndex := 282, descriptorIndex := 25, attributes := #[] }, { accessFlags := 25, nameIndex := 284, descriptorIndex := 25, attributes := #[] }, { accessFlags := 25, nameIndex := 286, descriptorIndex := 25, attributes := #[] }, { accessFlags := 25, nameIndex := 288, descriptorIndex := 25, attributes := #[] }, { accessFlags := 25, nameIndex := 290, descriptorIndex := 25, attributes := #[] }, { accessFlags := 25, nameIndex := 292, descriptorIndex := 25, attributes := #[] }, { accessFlags := 26, nameIndex := 108, descriptorIndex := 109, attributes := #[] }, { accessFlags := 25, nameIndex := 294, descriptorIndex := 25, attributes := #[] }])
  fields := #[{ name := "U", type := (.object "jdk/internal/misc/Unsafe"), accessFlags := 24, slot := 0, constantValue := 0 }, { name := "BIG_ENDIAN", type := .boolean, accessFlags := 26, slot := 1, constantValue := 0 }, { name := "LOG2_ARRAY_BOOLEAN_INDEX_SCALE", type := .int, accessFlags := 25, slot := 2, constantValue := 0 }, { name := "LOG2_ARRAY_BYTE_INDEX_SCALE", type := .int, accessFlags := 25, slot := 3, constantValue := 0 }, { name := "LOG2_ARRAY_CHAR_INDEX_SCALE", type := .int, accessFlags := 25, slot := 4, constantValue := 0 }, { name := "LOG2_ARRAY_SHORT_INDEX_SCALE", type := .int, accessFlags := 25, slot := 5, constantValue := 0 }, { name := "LOG2_ARRAY_INT_INDEX_SCALE", type := .int, accessFlags := 25, slot := 6, constantValue := 0 }, { name := "LOG2_ARRAY_LONG_INDEX_SCALE", type := .int, accessFlags := 25, slot := 7, constantValue := 0 }, { name := "LOG2_ARRAY_FLOAT_INDEX_SCALE", type := .int, accessFlags := 25, slot := 8, constantValue := 0 }, { name := "LOG2_ARRAY_DOUBLE_INDEX_SCALE", type := .int, accessFlags := 25, slot := 9, constantValue := 0 }, { name := "LOG2_BYTE_BIT_SIZE", type := .int, accessFlags := 26, slot := 10, constantValue := 0 }, { name := "T_BOOLEAN", type := .int, accessFlags := 25, slot := 11, constantValue := 0 }, { name := "T_CHAR", type := .int, accessFlags := 25, slot := 12, constantValue := 0 }, { name := "T_FLOAT", type := .int, accessFlags := 25, slot := 13, constantValue := 0 }, { name := "T_DOUBLE", type := .int, accessFlags := 25, slot := 14, constantValue := 0 }, { name := "T_BYTE", type := .int, accessFlags := 25, slot := 15, constantValue := 0 }, { name := "T_SHORT", type := .int, accessFlags := 25, slot := 16, constantValue := 0 }, { name := "T_INT", type := .int, accessFlags := 25, slot := 17, constantValue := 0 }, { name := "T_LONG", type := .int, accessFlags := 25, slot := 18, constantValue := 0 }, { name := "JLA", type := (.object "jdk/internal/access/JavaLangAccess"), accessFlags := 26, slot := 19, constantValue := 0 }, { name := "SOFT_MAX_ARRAY_LENGTH", type := .int, accessFlags := 25, slot := 20, constantValue := 0 }]
  methods := #[k28m0]
  instanceTypes := #[]
  staticTypes := #[(.object "jdk/internal/misc/Unsafe"), .boolean, .int, .int, .int, .int, .int, .int, .int, .int, .int, .int, .int, .int, .int, .int, .int, .int, .int, (.object "jdk/internal/access/JavaLangAccess"), .int]
  resolved := Array.replicate 378 none
  statics := none }

def pool29 : Array CpInfo := pool [(1, u "java/lang/Class"), (0, .class_ 1), (0, u "java/lang/Object"), (0, .class_ 3)] 3

/-- java/lang/Class -/
def k29 : Class := { plain "java/lang/Class" (some 0) with
  accessFlags := 49
  interfaces := #[]
  cf := some (fileOf pool29 2 #[] #[] 49 4 #[] #[])
  fields := #[]
  methods := #[]
  instanceTypes := #[]
  staticTypes := #[]
  resolved := Array.replicate 8 none
  statics := none }

/-- the primitive byte -/
def k30 : Class := { plain "byte" none with kind := .primitive 'B', accessFlags := 0x411 }
/-- [B -/
def k31 : Class := { plain "[B" (some 0) with kind := .array 30 .byte, interfaces := #[9, 10], accessFlags := 1041 }

/-- the primitive char -/
def k32 : Class := { plain "char" none with kind := .primitive 'C', accessFlags := 0x411 }
/-- [C -/
def k33 : Class := { plain "[C" (some 0) with kind := .array 32 .char, interfaces := #[9, 10], accessFlags := 1041 }

/-- the primitive int -/
def k34 : Class := { plain "int" none with kind := .primitive 'I', accessFlags := 0x411 }
/-- [I -/
def k35 : Class := { plain "[I" (some 0) with kind := .array 34 .int, interfaces := #[9, 10], accessFlags := 1041 }

/-- [Ljava/lang/Object; -/
def k36 : Class := { plain "[Ljava/lang/Object;" (some 0) with kind := .array 0 (.object "java/lang/Object"), interfaces := #[9, 10], accessFlags := 1041, mirror := some 3 }

def heap : Heap := #[{ cls := 11, slots := #[.long 0, .int 0, .ref 4, .ref 5], vm := .statics 11 },
  { cls := 16, slots := #[.long 0, .int 1, .null, .int 0, .null, .int 0, .int 0], vm := .statics 16 },
  { cls := 27, slots := #[.null, .null, .null], vm := .statics 27 },
  { cls := 29, slots := #[], vm := .mirror 36 },
  { cls := 36, slots := #[], vm := .none },
  { cls := 36, slots := #[], vm := .none }]
def classes : Array Class := #[k0, k1, k2, k3, k4, k5, k6, k7, k8, k9, k10, k11, k12, k13, k14, k15, k16, k17, k18, k19, k20, k21, k22, k23, k24, k25, k26, k27, k28, k29, k30, k31, k32, k33, k34, k35, k36]
def interned : List (Array UInt16 × Addr) := []
def slotsUsed : Nat := 14
def theMethod : MethodId := ⟨1, 1⟩
def args0 : Array Value := #[.int 1, .int 65, .int 0, .int 0]
def aboutOver (below : List Frame) : State where
  vm := { classes := classes, interned := interned.toArray }
  heap := heap
  slotsUsed := slotsUsed
  threads := #[{ frames := .invoking theMethod args0 :: below }]
def below0 : List Frame := [.native { method := ⟨0, 0⟩, args := #[] }]
def about1 : State := aboutOver below0
def p0 : Program := .bare "" "" ""
def e0 : Env := launch0.env 0 0 0
theorem w_frames : about1.frames = Frame.invoking theMethod args0 :: below0 := rfl
set_option maxRecDepth 65536 in
theorem w_args : argsFit about1.vm theMethod args0 = true := by decide +kernel
set_option maxRecDepth 65536 in
theorem w_heap : heapFits about1 = true := by decide +kernel
set_option maxRecDepth 65536 in
theorem w_runnable : about1.curStatus? = some .runnable := by decide +kernel
set_option maxRecDepth 65536 in
theorem w_alone : about1.alone = true := by decide +kernel
set_option maxRecDepth 65536 in
theorem w_named : about1.methodNamed? x = some theMethod := by decide +kernel
set_option maxRecDepth 65536 in
theorem w_hears : about1.hears theMethod below0 = true := by decide +kernel
set_option maxRecDepth 65536 in
theorem w_ripe : about1.ripe theMethod args0 below0 = true := by decide +kernel
theorem w_running : about1.status = .running := rfl
set_option maxRecDepth 65536 in
theorem w_room : about1.hasRoom e0.platform room_1 = true :=
  launch0.hasRoom_least _ room_1 (by decide +kernel) (by decide +kernel) (by decide +kernel) (by decide +kernel) (by decide +kernel) (by decide +kernel)
theorem allAtoms_all (ts : List Jvm.Cond) (a : Array Jvm.Value) (st : Jvm.State) : (allAtoms ts).before a st = ts.all (fun c => c.before a st) := by
  induction ts with
  | nil => rfl
  | cons c t ih =>
    show (Jvm.Cond.and c (allAtoms t)).before a st = _
    rw [Jvm.Cond.before_and, ih, List.all_cons]
def words1 : List Jvm.Cond := Jvm.Cond.code x code maxLocals ret :: tables_1
/-- a 'code' word, met by the world's own term for the bytes: nothing is compared byte by byte -/
theorem code_word {y : MethodName} {bytes : ByteArray} {mx : Nat} {rt : Option FieldType} {a : Array Value} {s : State} {m : MethodId} {meth : Method} {c : Code} (h1 : s.methodNamed? y = some m) (h2 : s.vm.method? m = some meth) (h3 : meth.code = some c) (h4 : c.code = bytes)
    (h5 : (c.maxLocals == mx && c.exceptionTable.isEmpty && decide (c.maxStack ≤ mostOperands) && decide (meth.sig.returnType = rt) && !meth.locks && decide (parseMethodDescriptor y.desc = some meth.sig)) = true) : (Jvm.Cond.code y bytes mx rt).before a s = true := by
  simp only [Bool.and_eq_true, beq_iff_eq, Bool.not_eq_true', decide_eq_true_eq] at h5
  obtain ⟨⟨⟨⟨⟨g1, g2⟩, g3⟩, g4⟩, g5⟩, g6⟩ := h5
  simp [Cond.before, Cond.holds, Cond.value, h1, h2, h3, h4, g1, g2, g3, g4, g5, g6]
def isCode : Jvm.Cond → Bool
  | .code _ _ _ _ => true
  | _ => false
theorem all_split {L : List Jvm.Cond} {P : Jvm.Cond → Bool} (h1 : L.all (fun c => isCode c || P c) = true) (h2 : ∀ c ∈ L.filter isCode, P c = true) : L.all P = true := by
  refine List.all_eq_true.mpr fun c hc => ?_
  have h := List.all_eq_true.mp h1 c hc
  rcases Bool.eq_false_or_eq_true (isCode c) with hi | hi
  · exact h2 c (List.mem_filter.mpr ⟨hc, hi⟩)
  · simpa [hi] using h
set_option maxRecDepth 65536 in
theorem w_c0 : (Jvm.Cond.code x code maxLocals ret).before args0 about1 = true := code_word (m := ⟨1, 1⟩) (meth := k1m1) (c := k1c1) (by decide +kernel) rfl rfl rfl (by decide +kernel)
set_option maxRecDepth 65536 in
theorem w_c1 : (Jvm.Cond.code ({ cls := "java/util/ArrayList", name := "<init>", desc := "()V" } : Jvm.MethodName) jdk_38_method_2_code (1 : Nat) (Option.none : Option Jvm.ClassFile.FieldType)).before args0 about1 = true := code_word (m := ⟨11, 0⟩) (meth := k11m0) (c := k11c0) (by decide +kernel) rfl rfl rfl (by decide +kernel)
set_option maxRecDepth 65536 in
theorem w_c2 : (Jvm.Cond.code ({ cls := "java/util/AbstractList", name := "<init>", desc := "()V" } : Jvm.MethodName) jdk_39_method_1_code (1 : Nat) (Option.none : Option Jvm.ClassFile.FieldType)).before args0 about1 = true := code_word (m := ⟨7, 0⟩) (meth := k7m0) (c := k7c0) (by decide +kernel) rfl rfl rfl (by decide +kernel)
set_option maxRecDepth 65536 in
theorem w_c3 : (Jvm.Cond.code ({ cls := "java/util/AbstractCollection", name := "<init>", desc := "()V" } : Jvm.MethodName) jdk_22_method_1_code (1 : Nat) (Option.none : Option Jvm.ClassFile.FieldType)).before args0 about1 = true := code_word (m := ⟨4, 0⟩) (meth := k4m0) (c := k4c0) (by decide +kernel) rfl rfl rfl (by decide +kernel)
set_option maxRecDepth 65536 in
theorem w_c4 : (Jvm.Cond.code ({ cls := "java/lang/Object", name := "<init>", desc := "()V" } : Jvm.MethodName) object_method_1_code (1 : Nat) (Option.none : Option Jvm.ClassFile.FieldType)).before args0 about1 = true := code_word (m := ⟨0, 0⟩) (meth := k0m0) (c := k0c0) (by decide +kernel) rfl rfl rfl (by decide +kernel)
set_option maxRecDepth 65536 in
theorem w_c5 : (Jvm.Cond.code ({ cls := "java/lang/String", name := "valueOf", desc := "(C)Ljava/lang/String;" } : Jvm.MethodName) jdk_42_method_139_code (1 : Nat) (Option.some (Jvm.ClassFile.FieldType.object "java/lang/String"))).before args0 about1 = true := code_word (m := ⟨16, 2⟩) (meth := k16m2) (c := k16c2) (by decide +kernel) rfl rfl rfl (by decide +kernel)
set_option maxRecDepth 65536 in
theorem w_c6 : (Jvm.Cond.code ({ cls := "java/lang/StringLatin1", name := "canEncode", desc := "(C)Z" } : Jvm.MethodName) jdk_43_method_3_code (1 : Nat) (Option.some Jvm.ClassFile.FieldType.boolean)).before args0 about1 = true := code_word (m := ⟨17, 1⟩) (meth := k17m1) (c := k17c1) (by decide +kernel) rfl rfl rfl (by decide +kernel)
set_option maxRecDepth 65536 in
theorem w_c7 : (Jvm.Cond.code ({ cls := "java/lang/StringLatin1", name := "toBytes", desc := "(C)[B" } : Jvm.MethodName) jdk_43_method_46_code (1 : Nat) (Option.some (Jvm.ClassFile.FieldType.array Jvm.ClassFile.FieldType.byte))).before args0 about1 = true := code_word (m := ⟨17, 3⟩) (meth := k17m3) (c := k17c3) (by decide +kernel) rfl rfl rfl (by decide +kernel)
set_option maxRecDepth 65536 in
theorem w_c8 : (Jvm.Cond.code ({ cls := "java/lang/String", name := "<init>", desc := "([BB)V" } : Jvm.MethodName) jdk_42_method_151_code (3 : Nat) (Option.none : Option Jvm.ClassFile.FieldType)).before args0 about1 = true := code_word (m := ⟨16, 3⟩) (meth := k16m3) (c := k16c3) (by decide +kernel) rfl rfl rfl (by decide +kernel)
set_option maxRecDepth 65536 in
theorem w_c9 : (Jvm.Cond.code ({ cls := "com/example/practory/practory/server/SearchQuery", name := "with", desc := "(Ljava/util/List;Ljava/lang/String;Ljava/util/List;)Ljava/util/List;" } : Jvm.MethodName) prog_24_method_3_code (8 : Nat) (Option.some (Jvm.ClassFile.FieldType.object "java/util/List"))).before args0 about1 = true := code_word (m := ⟨18, 1⟩) (meth := k18m1) (c := k18c1) (by decide +kernel) rfl rfl rfl (by decide +kernel)
set_option maxRecDepth 65536 in
theorem w_c10 : (Jvm.Cond.code ({ cls := "java/util/ArrayList", name := "iterator", desc := "()Ljava/util/Iterator;" } : Jvm.MethodName) jdk_38_method_55_code (1 : Nat) (Option.some (Jvm.ClassFile.FieldType.object "java/util/Iterator"))).before args0 about1 = true := code_word (m := ⟨11, 10⟩) (meth := k11m10) (c := k11c10) (by decide +kernel) rfl rfl rfl (by decide +kernel)
set_option maxRecDepth 65536 in
theorem w_c11 : (Jvm.Cond.code ({ cls := "java/util/ArrayList$Itr", name := "<init>", desc := "(Ljava/util/ArrayList;)V" } : Jvm.MethodName) jdk_49_method_1_code (2 : Nat) (Option.none : Option Jvm.ClassFile.FieldType)).before args0 about1 = true := code_word (m := ⟨20, 0⟩) (meth := k20m0) (c := k20c0) (by decide +kernel) rfl rfl rfl (by decide +kernel)
set_option maxRecDepth 65536 in
theorem w_c12 : (Jvm.Cond.code ({ cls := "java/util/ArrayList$Itr", name := "hasNext", desc := "()Z" } : Jvm.MethodName) jdk_49_method_2_code (1 : Nat) (Option.some Jvm.ClassFile.FieldType.boolean)).before args0 about1 = true := code_word (m := ⟨20, 1⟩) (meth := k20m1) (c := k20c1) (by decide +kernel) rfl rfl rfl (by decide +kernel)
set_option maxRecDepth 65536 in
theorem w_c13 : (Jvm.Cond.code ({ cls := "java/util/ArrayList", name := "addAll", desc := "(Ljava/util/Collection;)Z" } : Jvm.MethodName) jdk_38_method_41_code (6 : Nat) (Option.some Jvm.ClassFile.FieldType.boolean)).before args0 about1 = true := code_word (m := ⟨11, 9⟩) (meth := k11m9) (c := k11c9) (by decide +kernel) rfl rfl rfl (by decide +kernel)
set_option maxRecDepth 65536 in
theorem w_c14 : (Jvm.Cond.code ({ cls := "java/util/ArrayList", name := "toArray", desc := "()[Ljava/lang/Object;" } : Jvm.MethodName) jdk_38_method_16_code (1 : Nat) (Option.some (Jvm.ClassFile.FieldType.array (Jvm.ClassFile.FieldType.object "java/lang/Object")))).before args0 about1 = true := code_word (m := ⟨11, 4⟩) (meth := k11m4) (c := k11c4) (by decide +kernel) rfl rfl rfl (by decide +kernel)
set_option maxRecDepth 65536 in
theorem w_c15 : (Jvm.Cond.code ({ cls := "java/util/Arrays", name := "copyOf", desc := "([Ljava/lang/Object;I)[Ljava/lang/Object;" } : Jvm.MethodName) jdk_65_method_119_code (2 : Nat) (Option.some (Jvm.ClassFile.FieldType.array (Jvm.ClassFile.FieldType.object "java/lang/Object")))).before args0 about1 = true := code_word (m := ⟨21, 1⟩) (meth := k21m1) (c := k21c1) (by decide +kernel) rfl rfl rfl (by decide +kernel)
set_option maxRecDepth 65536 in
theorem w_c16 : (Jvm.Cond.code ({ cls := "java/util/Arrays", name := "copyOf", desc := "([Ljava/lang/Object;ILjava/lang/Class;)[Ljava/lang/Object;" } : Jvm.MethodName) jdk_65_method_120_code (4 : Nat) (Option.some (Jvm.ClassFile.FieldType.array (Jvm.ClassFile.FieldType.object "java/lang/Object")))).before args0 about1 = true := code_word (m := ⟨21, 2⟩) (meth := k21m2) (c := k21c2) (by decide +kernel) rfl rfl rfl (by decide +kernel)
set_option maxRecDepth 65536 in
theorem w_c17 : (Jvm.Cond.code ({ cls := "java/lang/Math", name := "min", desc := "(II)I" } : Jvm.MethodName) jdk_29_method_69_code (2 : Nat) (Option.some Jvm.ClassFile.FieldType.int)).before args0 about1 = true := code_word (m := ⟨22, 2⟩) (meth := k22m2) (c := k22c2) (by decide +kernel) rfl rfl rfl (by decide +kernel)
set_option maxRecDepth 65536 in
theorem w_c18 : (Jvm.Cond.code ({ cls := "java/util/ArrayList", name := "size", desc := "()I" } : Jvm.MethodName) jdk_38_method_8_code (1 : Nat) (Option.some Jvm.ClassFile.FieldType.int)).before args0 about1 = true := code_word (m := ⟨11, 3⟩) (meth := k11m3) (c := k11c3) (by decide +kernel) rfl rfl rfl (by decide +kernel)
set_option maxRecDepth 65536 in
theorem w_c19 : (Jvm.Cond.code ({ cls := "com/example/practory/practory/server/SearchQueryWithPinLaw", name := "at", desc := "(Ljava/util/List;IIII[C[CC[C)Z" } : Jvm.MethodName) method_3_code (12 : Nat) (Option.some Jvm.ClassFile.FieldType.boolean)).before args0 about1 = true := code_word (m := ⟨1, 2⟩) (meth := k1m2) (c := k1c2) (by decide +kernel) rfl rfl rfl (by decide +kernel)
set_option maxRecDepth 65536 in
theorem w_c20 : (Jvm.Cond.code ({ cls := "com/example/practory/practory/server/SearchQuery$Parameter", name := "<init>", desc := "(Ljava/lang/String;Ljava/lang/String;)V" } : Jvm.MethodName) prog_25_method_1_code (3 : Nat) (Option.none : Option Jvm.ClassFile.FieldType)).before args0 about1 = true := code_word (m := ⟨25, 0⟩) (meth := k25m0) (c := k25c0) (by decide +kernel) rfl rfl rfl (by decide +kernel)
set_option maxRecDepth 65536 in
theorem w_c21 : (Jvm.Cond.code ({ cls := "java/lang/Record", name := "<init>", desc := "()V" } : Jvm.MethodName) jdk_30_method_1_code (1 : Nat) (Option.none : Option Jvm.ClassFile.FieldType)).before args0 about1 = true := code_word (m := ⟨24, 0⟩) (meth := k24m0) (c := k24c0) (by decide +kernel) rfl rfl rfl (by decide +kernel)
set_option maxRecDepth 65536 in
theorem w_c22 : (Jvm.Cond.code ({ cls := "java/util/ArrayList", name := "add", desc := "(Ljava/lang/Object;)Z" } : Jvm.MethodName) jdk_38_method_25_code (2 : Nat) (Option.some Jvm.ClassFile.FieldType.boolean)).before args0 about1 = true := code_word (m := ⟨11, 8⟩) (meth := k11m8) (c := k11c8) (by decide +kernel) rfl rfl rfl (by decide +kernel)
set_option maxRecDepth 65536 in
theorem w_c23 : (Jvm.Cond.code ({ cls := "java/util/ArrayList", name := "add", desc := "(Ljava/lang/Object;[Ljava/lang/Object;I)V" } : Jvm.MethodName) jdk_38_method_24_code (4 : Nat) (Option.none : Option Jvm.ClassFile.FieldType)).before args0 about1 = true := code_word (m := ⟨11, 7⟩) (meth := k11m7) (c := k11c7) (by decide +kernel) rfl rfl rfl (by decide +kernel)
set_option maxRecDepth 65536 in
theorem w_c24 : (Jvm.Cond.code ({ cls := "java/util/ArrayList", name := "grow", desc := "()[Ljava/lang/Object;" } : Jvm.MethodName) jdk_38_method_7_code (1 : Nat) (Option.some (Jvm.ClassFile.FieldType.array (Jvm.ClassFile.FieldType.object "java/lang/Object")))).before args0 about1 = true := code_word (m := ⟨11, 2⟩) (meth := k11m2) (c := k11c2) (by decide +kernel) rfl rfl rfl (by decide +kernel)
set_option maxRecDepth 65536 in
theorem w_c25 : (Jvm.Cond.code ({ cls := "java/util/ArrayList", name := "grow", desc := "(I)[Ljava/lang/Object;" } : Jvm.MethodName) jdk_38_method_6_code (4 : Nat) (Option.some (Jvm.ClassFile.FieldType.array (Jvm.ClassFile.FieldType.object "java/lang/Object")))).before args0 about1 = true := code_word (m := ⟨11, 1⟩) (meth := k11m1) (c := k11c1) (by decide +kernel) rfl rfl rfl (by decide +kernel)
set_option maxRecDepth 65536 in
theorem w_c26 : (Jvm.Cond.code ({ cls := "java/lang/Math", name := "max", desc := "(II)I" } : Jvm.MethodName) jdk_29_method_65_code (2 : Nat) (Option.some Jvm.ClassFile.FieldType.int)).before args0 about1 = true := code_word (m := ⟨22, 1⟩) (meth := k22m1) (c := k22c1) (by decide +kernel) rfl rfl rfl (by decide +kernel)
set_option maxRecDepth 65536 in
theorem w_c27 : (Jvm.Cond.code ({ cls := "java/util/ArrayList$Itr", name := "next", desc := "()Ljava/lang/Object;" } : Jvm.MethodName) jdk_49_method_3_code (3 : Nat) (Option.some (Jvm.ClassFile.FieldType.object "java/lang/Object"))).before args0 about1 = true := code_word (m := ⟨20, 2⟩) (meth := k20m2) (c := k20c2) (by decide +kernel) rfl rfl rfl (by decide +kernel)
set_option maxRecDepth 65536 in
theorem w_c28 : (Jvm.Cond.code ({ cls := "java/util/ArrayList$Itr", name := "checkForComodification", desc := "()V" } : Jvm.MethodName) jdk_49_method_6_code (1 : Nat) (Option.none : Option Jvm.ClassFile.FieldType)).before args0 about1 = true := code_word (m := ⟨20, 3⟩) (meth := k20m3) (c := k20c3) (by decide +kernel) rfl rfl rfl (by decide +kernel)
set_option maxRecDepth 65536 in
theorem w_c29 : (Jvm.Cond.code ({ cls := "com/example/practory/practory/server/SearchQuery$Parameter", name := "name", desc := "()Ljava/lang/String;" } : Jvm.MethodName) prog_25_method_5_code (1 : Nat) (Option.some (Jvm.ClassFile.FieldType.object "java/lang/String"))).before args0 about1 = true := code_word (m := ⟨25, 1⟩) (meth := k25m1) (c := k25c1) (by decide +kernel) rfl rfl rfl (by decide +kernel)
set_option maxRecDepth 65536 in
theorem w_c30 : (Jvm.Cond.code ({ cls := "java/lang/String", name := "equals", desc := "(Ljava/lang/Object;)Z" } : Jvm.MethodName) jdk_42_method_66_code (3 : Nat) (Option.some Jvm.ClassFile.FieldType.boolean)).before args0 about1 = true := code_word (m := ⟨16, 1⟩) (meth := k16m1) (c := k16c1) (by decide +kernel) rfl rfl rfl (by decide +kernel)
set_option maxRecDepth 65536 in
theorem w_c31 : (Jvm.Cond.code ({ cls := "java/lang/StringLatin1", name := "equals", desc := "([B[B)Z" } : Jvm.MethodName) jdk_43_method_13_code (3 : Nat) (Option.some Jvm.ClassFile.FieldType.boolean)).before args0 about1 = true := code_word (m := ⟨17, 2⟩) (meth := k17m2) (c := k17c2) (by decide +kernel) rfl rfl rfl (by decide +kernel)
set_option maxRecDepth 65536 in
theorem w_c32 : (Jvm.Cond.code ({ cls := "java/util/ArrayList", name := "get", desc := "(I)Ljava/lang/Object;" } : Jvm.MethodName) jdk_38_method_20_code (2 : Nat) (Option.some (Jvm.ClassFile.FieldType.object "java/lang/Object"))).before args0 about1 = true := code_word (m := ⟨11, 6⟩) (meth := k11m6) (c := k11c6) (by decide +kernel) rfl rfl rfl (by decide +kernel)
set_option maxRecDepth 65536 in
theorem w_c33 : (Jvm.Cond.code ({ cls := "java/util/Objects", name := "checkIndex", desc := "(II)I" } : Jvm.MethodName) jdk_31_method_17_code (2 : Nat) (Option.some Jvm.ClassFile.FieldType.int)).before args0 about1 = true := code_word (m := ⟨26, 1⟩) (meth := k26m1) (c := k26c1) (by decide +kernel) rfl rfl rfl (by decide +kernel)
set_option maxRecDepth 65536 in
theorem w_c34 : (Jvm.Cond.code ({ cls := "jdk/internal/util/Preconditions", name := "checkIndex", desc := "(IILjava/util/function/BiFunction;)I" } : Jvm.MethodName) jdk_41_method_11_code (3 : Nat) (Option.some Jvm.ClassFile.FieldType.int)).before args0 about1 = true := code_word (m := ⟨27, 1⟩) (meth := k27m1) (c := k27c1) (by decide +kernel) rfl rfl rfl (by decide +kernel)
set_option maxRecDepth 65536 in
theorem w_c35 : (Jvm.Cond.code ({ cls := "java/util/ArrayList", name := "elementData", desc := "(I)Ljava/lang/Object;" } : Jvm.MethodName) jdk_38_method_18_code (2 : Nat) (Option.some (Jvm.ClassFile.FieldType.object "java/lang/Object"))).before args0 about1 = true := code_word (m := ⟨11, 5⟩) (meth := k11m5) (c := k11c5) (by decide +kernel) rfl rfl rfl (by decide +kernel)
set_option maxRecDepth 65536 in
theorem w_c36 : (Jvm.Cond.code ({ cls := "com/example/practory/practory/server/SearchQuery$Parameter", name := "value", desc := "()Ljava/lang/String;" } : Jvm.MethodName) prog_25_method_6_code (1 : Nat) (Option.some (Jvm.ClassFile.FieldType.object "java/lang/String"))).before args0 about1 = true := code_word (m := ⟨25, 2⟩) (meth := k25m2) (c := k25c2) (by decide +kernel) rfl rfl rfl (by decide +kernel)
def codes1 : List Jvm.Cond := [Jvm.Cond.code x code maxLocals ret, Jvm.Cond.code ({ cls := "java/util/ArrayList", name := "<init>", desc := "()V" } : Jvm.MethodName) jdk_38_method_2_code (1 : Nat) (Option.none : Option Jvm.ClassFile.FieldType), Jvm.Cond.code ({ cls := "java/util/AbstractList", name := "<init>", desc := "()V" } : Jvm.MethodName) jdk_39_method_1_code (1 : Nat) (Option.none : Option Jvm.ClassFile.FieldType), Jvm.Cond.code ({ cls := "java/util/AbstractCollection", name := "<init>", desc := "()V" } : Jvm.MethodName) jdk_22_method_1_code (1 : Nat) (Option.none : Option Jvm.ClassFile.FieldType), Jvm.Cond.code ({ cls := "java/lang/Object", name := "<init>", desc := "()V" } : Jvm.MethodName) object_method_1_code (1 : Nat) (Option.none : Option Jvm.ClassFile.FieldType), Jvm.Cond.code ({ cls := "java/lang/String", name := "valueOf", desc := "(C)Ljava/lang/String;" } : Jvm.MethodName) jdk_42_method_139_code (1 : Nat) (Option.some (Jvm.ClassFile.FieldType.object "java/lang/String")), Jvm.Cond.code ({ cls := "java/lang/StringLatin1", name := "canEncode", desc := "(C)Z" } : Jvm.MethodName) jdk_43_method_3_code (1 : Nat) (Option.some Jvm.ClassFile.FieldType.boolean), Jvm.Cond.code ({ cls := "java/lang/StringLatin1", name := "toBytes", desc := "(C)[B" } : Jvm.MethodName) jdk_43_method_46_code (1 : Nat) (Option.some (Jvm.ClassFile.FieldType.array Jvm.ClassFile.FieldType.byte)), Jvm.Cond.code ({ cls := "java/lang/String", name := "<init>", desc := "([BB)V" } : Jvm.MethodName) jdk_42_method_151_code (3 : Nat) (Option.none : Option Jvm.ClassFile.FieldType), Jvm.Cond.code ({ cls := "com/example/practory/practory/server/SearchQuery", name := "with", desc := "(Ljava/util/List;Ljava/lang/String;Ljava/util/List;)Ljava/util/List;" } : Jvm.MethodName) prog_24_method_3_code (8 : Nat) (Option.some (Jvm.ClassFile.FieldType.object "java/util/List")), Jvm.Cond.code ({ cls := "java/util/ArrayList", name := "iterator", desc := "()Ljava/util/Iterator;" } : Jvm.MethodName) jdk_38_method_55_code (1 : Nat) (Option.some (Jvm.ClassFile.FieldType.object "java/util/Iterator")), Jvm.Cond.code ({ cls := "java/util/ArrayList$Itr", name := "<init>", desc := "(Ljava/util/ArrayList;)V" } : Jvm.MethodName) jdk_49_method_1_code (2 : Nat) (Option.none : Option Jvm.ClassFile.FieldType), Jvm.Cond.code ({ cls := "java/util/ArrayList$Itr", name := "hasNext", desc := "()Z" } : Jvm.MethodName) jdk_49_method_2_code (1 : Nat) (Option.some Jvm.ClassFile.FieldType.boolean), Jvm.Cond.code ({ cls := "java/util/ArrayList", name := "addAll", desc := "(Ljava/util/Collection;)Z" } : Jvm.MethodName) jdk_38_method_41_code (6 : Nat) (Option.some Jvm.ClassFile.FieldType.boolean), Jvm.Cond.code ({ cls := "java/util/ArrayList", name := "toArray", desc := "()[Ljava/lang/Object;" } : Jvm.MethodName) jdk_38_method_16_code (1 : Nat) (Option.some (Jvm.ClassFile.FieldType.array (Jvm.ClassFile.FieldType.object "java/lang/Object"))), Jvm.Cond.code ({ cls := "java/util/Arrays", name := "copyOf", desc := "([Ljava/lang/Object;I)[Ljava/lang/Object;" } : Jvm.MethodName) jdk_65_method_119_code (2 : Nat) (Option.some (Jvm.ClassFile.FieldType.array (Jvm.ClassFile.FieldType.object "java/lang/Object"))), Jvm.Cond.code ({ cls := "java/util/Arrays", name := "copyOf", desc := "([Ljava/lang/Object;ILjava/lang/Class;)[Ljava/lang/Object;" } : Jvm.MethodName) jdk_65_method_120_code (4 : Nat) (Option.some (Jvm.ClassFile.FieldType.array (Jvm.ClassFile.FieldType.object "java/lang/Object"))), Jvm.Cond.code ({ cls := "java/lang/Math", name := "min", desc := "(II)I" } : Jvm.MethodName) jdk_29_method_69_code (2 : Nat) (Option.some Jvm.ClassFile.FieldType.int), Jvm.Cond.code ({ cls := "java/util/ArrayList", name := "size", desc := "()I" } : Jvm.MethodName) jdk_38_method_8_code (1 : Nat) (Option.some Jvm.ClassFile.FieldType.int), Jvm.Cond.code ({ cls := "com/example/practory/practory/server/SearchQueryWithPinLaw", name := "at", desc := "(Ljava/util/List;IIII[C[CC[C)Z" } : Jvm.MethodName) method_3_code (12 : Nat) (Option.some Jvm.ClassFile.FieldType.boolean), Jvm.Cond.code ({ cls := "com/example/practory/practory/server/SearchQuery$Parameter", name := "<init>", desc := "(Ljava/lang/String;Ljava/lang/String;)V" } : Jvm.MethodName) prog_25_method_1_code (3 : Nat) (Option.none : Option Jvm.ClassFile.FieldType), Jvm.Cond.code ({ cls := "java/lang/Record", name := "<init>", desc := "()V" } : Jvm.MethodName) jdk_30_method_1_code (1 : Nat) (Option.none : Option Jvm.ClassFile.FieldType), Jvm.Cond.code ({ cls := "java/util/ArrayList", name := "add", desc := "(Ljava/lang/Object;)Z" } : Jvm.MethodName) jdk_38_method_25_code (2 : Nat) (Option.some Jvm.ClassFile.FieldType.boolean), Jvm.Cond.code ({ cls := "java/util/ArrayList", name := "add", desc := "(Ljava/lang/Object;[Ljava/lang/Object;I)V" } : Jvm.MethodName) jdk_38_method_24_code (4 : Nat) (Option.none : Option Jvm.ClassFile.FieldType), Jvm.Cond.code ({ cls := "java/util/ArrayList", name := "grow", desc := "()[Ljava/lang/Object;" } : Jvm.MethodName) jdk_38_method_7_code (1 : Nat) (Option.some (Jvm.ClassFile.FieldType.array (Jvm.ClassFile.FieldType.object "java/lang/Object"))), Jvm.Cond.code ({ cls := "java/util/ArrayList", name := "grow", desc := "(I)[Ljava/lang/Object;" } : Jvm.MethodName) jdk_38_method_6_code (4 : Nat) (Option.some (Jvm.ClassFile.FieldType.array (Jvm.ClassFile.FieldType.object "java/lang/Object"))), Jvm.Cond.code ({ cls := "java/lang/Math", name := "max", desc := "(II)I" } : Jvm.MethodName) jdk_29_method_65_code (2 : Nat) (Option.some Jvm.ClassFile.FieldType.int), Jvm.Cond.code ({ cls := "java/util/ArrayList$Itr", name := "next", desc := "()Ljava/lang/Object;" } : Jvm.MethodName) jdk_49_method_3_code (3 : Nat) (Option.some (Jvm.ClassFile.FieldType.object "java/lang/Object")), Jvm.Cond.code ({ cls := "java/util/ArrayList$Itr", name := "checkForComodification", desc := "()V" } : Jvm.MethodName) jdk_49_method_6_code (1 : Nat) (Option.none : Option Jvm.ClassFile.FieldType), Jvm.Cond.code ({ cls := "com/example/practory/practory/server/SearchQuery$Parameter", name := "name", desc := "()Ljava/lang/String;" } : Jvm.MethodName) prog_25_method_5_code (1 : Nat) (Option.some (Jvm.ClassFile.FieldType.object "java/lang/String")), Jvm.Cond.code ({ cls := "java/lang/String", name := "equals", desc := "(Ljava/lang/Object;)Z" } : Jvm.MethodName) jdk_42_method_66_code (3 : Nat) (Option.some Jvm.ClassFile.FieldType.boolean), Jvm.Cond.code ({ cls := "java/lang/StringLatin1", name := "equals", desc := "([B[B)Z" } : Jvm.MethodName) jdk_43_method_13_code (3 : Nat) (Option.some Jvm.ClassFile.FieldType.boolean), Jvm.Cond.code ({ cls := "java/util/ArrayList", name := "get", desc := "(I)Ljava/lang/Object;" } : Jvm.MethodName) jdk_38_method_20_code (2 : Nat) (Option.some (Jvm.ClassFile.FieldType.object "java/lang/Object")), Jvm.Cond.code ({ cls := "java/util/Objects", name := "checkIndex", desc := "(II)I" } : Jvm.MethodName) jdk_31_method_17_code (2 : Nat) (Option.some Jvm.ClassFile.FieldType.int), Jvm.Cond.code ({ cls := "jdk/internal/util/Preconditions", name := "checkIndex", desc := "(IILjava/util/function/BiFunction;)I" } : Jvm.MethodName) jdk_41_method_11_code (3 : Nat) (Option.some Jvm.ClassFile.FieldType.int), Jvm.Cond.code ({ cls := "java/util/ArrayList", name := "elementData", desc := "(I)Ljava/lang/Object;" } : Jvm.MethodName) jdk_38_method_18_code (2 : Nat) (Option.some (Jvm.ClassFile.FieldType.object "java/lang/Object")), Jvm.Cond.code ({ cls := "com/example/practory/practory/server/SearchQuery$Parameter", name := "value", desc := "()Ljava/lang/String;" } : Jvm.MethodName) prog_25_method_6_code (1 : Nat) (Option.some (Jvm.ClassFile.FieldType.object "java/lang/String"))]
set_option maxRecDepth 65536 in
theorem codes_eq : words1.filter isCode = codes1 := rfl
theorem w_codes : ∀ c ∈ words1.filter isCode, c.before args0 about1 = true := by
  rw [codes_eq]
  intro c hc
  simp only [codes1, List.mem_cons, List.not_mem_nil, or_false] at hc
  rcases hc with rfl | rfl | rfl | rfl | rfl | rfl | rfl | rfl | rfl | rfl | rfl | rfl | rfl | rfl | rfl | rfl | rfl | rfl | rfl | rfl | rfl | rfl | rfl | rfl | rfl | rfl | rfl | rfl | rfl | rfl | rfl | rfl | rfl | rfl | rfl | rfl | rfl
  · exact w_c0
  · exact w_c1
  · exact w_c2
  · exact w_c3
  · exact w_c4
  · exact w_c5
  · exact w_c6
  · exact w_c7
  · exact w_c8
  · exact w_c9
  · exact w_c10
  · exact w_c11
  · exact w_c12
  · exact w_c13
  · exact w_c14
  · exact w_c15
  · exact w_c16
  · exact w_c17
  · exact w_c18
  · exact w_c19
  · exact w_c20
  · exact w_c21
  · exact w_c22
  · exact w_c23
  · exact w_c24
  · exact w_c25
  · exact w_c26
  · exact w_c27
  · exact w_c28
  · exact w_c29
  · exact w_c30
  · exact w_c31
  · exact w_c32
  · exact w_c33
  · exact w_c34
  · exact w_c35
  · exact w_c36
set_option maxRecDepth 65536 in
theorem w_t1 : (words1.take 24).all (fun c => isCode c || c.before args0 about1) = true := by decide +kernel
set_option maxRecDepth 65536 in
theorem w_t2 : ((words1.drop 24).take 24).all (fun c => isCode c || c.before args0 about1) = true := by decide +kernel
set_option maxRecDepth 65536 in
theorem w_t3 : (((words1.drop 24).drop 24).take 24).all (fun c => isCode c || c.before args0 about1) = true := by decide +kernel
set_option maxRecDepth 65536 in
theorem w_t4 : ((((words1.drop 24).drop 24).drop 24).take 24).all (fun c => isCode c || c.before args0 about1) = true := by decide +kernel
set_option maxRecDepth 65536 in
theorem w_t5 : (((((words1.drop 24).drop 24).drop 24).drop 24).take 24).all (fun c => isCode c || c.before args0 about1) = true := by decide +kernel
set_option maxRecDepth 65536 in
theorem w_t6 : ((((((words1.drop 24).drop 24).drop 24).drop 24).drop 24).take 24).all (fun c => isCode c || c.before args0 about1) = true := by decide +kernel
set_option maxRecDepth 65536 in
theorem w_t7 : (((((((words1.drop 24).drop 24).drop 24).drop 24).drop 24).drop 24).take 24).all (fun c => isCode c || c.before args0 about1) = true := by decide +kernel
set_option maxRecDepth 65536 in
theorem w_t8 : ((((((((words1.drop 24).drop 24).drop 24).drop 24).drop 24).drop 24).drop 24).take 24).all (fun c => isCode c || c.before args0 about1) = true := by decide +kernel
set_option maxRecDepth 65536 in
theorem w_t9 : (((((((((words1.drop 24).drop 24).drop 24).drop 24).drop 24).drop 24).drop 24).drop 24).take 24).all (fun c => isCode c || c.before args0 about1) = true := by decide +kernel
set_option maxRecDepth 65536 in
theorem w_t10 : ((((((((((words1.drop 24).drop 24).drop 24).drop 24).drop 24).drop 24).drop 24).drop 24).drop 24).take 24).all (fun c => isCode c || c.before args0 about1) = true := by decide +kernel
set_option maxRecDepth 65536 in
theorem w_t11 : ((((((((((words1.drop 24).drop 24).drop 24).drop 24).drop 24).drop 24).drop 24).drop 24).drop 24).drop 24).all (fun c => isCode c || c.before args0 about1) = true := by decide +kernel
theorem w_tables : (allAtoms (Jvm.Cond.code x code maxLocals ret :: tables_1)).before args0 about1 = true := by
  rw [allAtoms_all]
  show words1.all (fun c => c.before args0 about1) = true
  refine all_split ?_ w_codes
  rw [← List.take_append_drop 24 words1, List.all_append, w_t1, ← List.take_append_drop 24 (words1.drop 24), List.all_append, w_t2, ← List.take_append_drop 24 ((words1.drop 24).drop 24), List.all_append, w_t3, ← List.take_append_drop 24 (((words1.drop 24).drop 24).drop 24), List.all_append, w_t4, ← List.take_append_drop 24 ((((words1.drop 24).drop 24).drop 24).drop 24), List.all_append, w_t5, ← List.take_append_drop 24 (((((words1.drop 24).drop 24).drop 24).drop 24).drop 24), List.all_append, w_t6, ← List.take_append_drop 24 ((((((words1.drop 24).drop 24).drop 24).drop 24).drop 24).drop 24), List.all_append, w_t7, ← List.take_append_drop 24 (((((((words1.drop 24).drop 24).drop 24).drop 24).drop 24).drop 24).drop 24), List.all_append, w_t8, ← List.take_append_drop 24 ((((((((words1.drop 24).drop 24).drop 24).drop 24).drop 24).drop 24).drop 24).drop 24), List.all_append, w_t9, ← List.take_append_drop 24 (((((((((words1.drop 24).drop 24).drop 24).drop 24).drop 24).drop 24).drop 24).drop 24).drop 24), List.all_append, w_t10, w_t11]
  rfl
set_option maxRecDepth 65536 in
theorem w_rest : rest_1_c.before args0 about1 = true := by decide +kernel
set_option maxRecDepth 65536 in
theorem w_case : (Jvm.Cond.and given_1 narrow_1).before args0 about1 = true := by decide +kernel
theorem w_applies : (headSpec (Jvm.Cond.code x code maxLocals ret :: tables_1) room_1).applies x e0.platform about1 = true :=
  (Spec.applies_iff w_frames).mpr ⟨w_running, w_runnable, w_alone, w_named, w_hears, w_ripe, w_room, w_tables⟩
theorem atStart : AtStart classFile x code maxLocals ret World_1 tables_1 room_1 Calls_1 rest_1 Pre_1 launch0 p0 e0 about1 theMethod args0 below0 :=
  ⟨lists_1, trivial, launch0.admits_env _ _ _, launch0.least_env, fairChoices_fair.cas, fairChoices_fair.clock, w_frames, w_args, w_heap, w_applies, ⟨⟨36, k36, 3, by decide +kernel, rfl, rfl, _, rfl, rfl⟩, trivial⟩, w_rest, w_case⟩
end start1
theorem witness_1 : WitnessClaimed_1 := ⟨start1.p0, start1.e0, start1.about1, start1.theMethod, start1.args0, start1.below0, start1.atStart⟩
end Jvm.Pilot.@@N@@
