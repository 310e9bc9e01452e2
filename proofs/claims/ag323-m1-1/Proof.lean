import JvmDerived
import JvmDerived.Pilot.@@N@@Statement
import JvmDerived.Pilot.@@N@@Code
set_option linter.unusedVariables false
set_option linter.unusedSimpArgs false
namespace Jvm.Pilot.@@N@@
open Jvm Jvm.ClassFile Sem Op Lib Jvm.Free Jvm.Stand Jvm.LawKit Jvm.RoadKit Bundle Jvm.Pilot.@@N@@.Jvm.D
def Go (p : Program) (e : Env) (below : List Frame) (G : State → Prop) (T : State) (f : JFrame) : Prop := ∃ t, Steps p.tables e below (T.setTop f) t ∧ G t
theorem Go.step {p : Program} {e : Env} {below : List Frame} {G : State → Prop} {T T' : State} {f f' : JFrame} (k : ∀ t, Steps p.tables e below (T'.setTop f') t → Steps p.tables e below (T.setTop f) t) (h : Go p e below G T' f') : Go p e below G T f := by
  obtain ⟨t, h1, h2⟩ := h
  exact ⟨t, k t h1, h2⟩
def Fin1 (s : State) (below : List Frame) (Q : Option Value → Heap → List Loc → Prop) (k n : Nat) (t : State) : Prop := ∃ o, t.status = .running ∧ Ended t below o ∧ ∃ v L, o = .returned v ∧ Q v t.heap L ∧ FrameEnd s o t L k n
theorem of_go {p : Program} {e : Env} {below : List Frame} {s s₁ : State} {Q : Option Value → Heap → List Loc → Prop} {k n : Nat} {f f' : JFrame} (hf : f' = f) (h : Go p e below (Fin1 s below Q k n) s₁ f) :
    ∃ s₂ o, Steps p.tables e below (s₁.setTop f') s₂ ∧ s₂.status = .running ∧ Ended s₂ below o ∧ ∃ v L, o = .returned v ∧ Q v s₂.heap L ∧ FrameEnd s o s₂ L k n := by
  subst hf
  obtain ⟨t, h1, o, h2, h3, h4⟩ := h
  exact ⟨t, o, h1, h2, h3, h4⟩
section Ends
variable {p : Program} {l : Launch} {e : Env} {R : Room} {s : State} {m : MethodId} {args : Array Value} {below : List Frame} {meth : Method} {c : Code} {T : State} {locs : List Loc} {cells slots : Nat} {Q : Option Value → Heap → List Loc → Prop} {k n : Nat}
theorem goN (X : Stand p l e R s m args below meth c T locs cells slots) (hx : p.tables.exec = Jvm.exec) {pc : Nat} {Ls : Array Slot} {z : Int32} {t : FieldType} {rest : List Value} (hret : meth.sig.returnType = some t) (ht : t = .boolean ∨ t = .byte ∨ t = .char ∨ t = .short) (hlk : meth.locks = false)
    (hd : decode c.code pc = .ok (.ireturn, 1)) (hQ : Q (some (.int (nar t z))) T.heap locs) (hk : cells ≤ k) (hn : slots ≤ n) : Go p e below (Fin1 s below Q k n) T (mkF m pc Ls (.int z :: rest)) := by
  obtain ⟨fs, hr, hrun, hended, hW, hsame⟩ := X.leave (v := some (.int (nar t z))) (fun h => by rw [hret] at h; cases h) hlk
  exact ⟨_, Jvm.RoadKit.retN X hx hret ht hd hr, _, hrun, hended, _, _, rfl, hQ, ⟨_, rfl⟩, hW, hsame.mono hk hn⟩
theorem goO (X : Stand p l e R s m args below meth c T locs cells slots) (hx : p.tables.exec = Jvm.exec) {pc : Nat} {Ls : Array Slot} {w : Value} {t : FieldType} {i : Instr} {rest : List Value} (hret : meth.sig.returnType = some t) (hnw : narrow t w = w)
    (hi : (i = .ireturn ∧ (t = .int ∨ t = .boolean ∨ t = .byte ∨ t = .char ∨ t = .short) ∧ ∃ z, w = .int z) ∨ (i = .lreturn ∧ t = .long ∧ ∃ z, w = .long z) ∨ (i = .dreturn ∧ t = .double ∧ ∃ z, w = .double z) ∨ (i = .freturn ∧ t = .float ∧ ∃ z, w = .float z) ∨ (i = .areturn ∧ t.isReference = true ∧ w.isRef = true)) (hlk : meth.locks = false)
    (hd : decode c.code pc = .ok (i, 1)) (hQ : Q (some w) T.heap locs) (hk : cells ≤ k) (hn : slots ≤ n) : Go p e below (Fin1 s below Q k n) T (mkF m pc Ls (w :: rest)) := by
  obtain ⟨fs, hr, hrun, hended, hW, hsame⟩ := X.leave (v := some w) (fun h => by rw [hret] at h; cases h) hlk
  exact ⟨_, Jvm.RoadKit.retOut X hx hret hnw hi hd hr, _, hrun, hended, _, _, rfl, hQ, ⟨_, rfl⟩, hW, hsame.mono hk hn⟩
theorem goI (X : Stand p l e R s m args below meth c T locs cells slots) (hx : p.tables.exec = Jvm.exec) {pc : Nat} {Ls : Array Slot} {z : Int32} {rest : List Value} (hret : meth.sig.returnType = some .int) (hlk : meth.locks = false)
    (hd : decode c.code pc = .ok (.ireturn, 1)) (hQ : Q (some (.int z)) T.heap locs) (hk : cells ≤ k) (hn : slots ≤ n) : Go p e below (Fin1 s below Q k n) T (mkF m pc Ls (.int z :: rest)) :=
  goO X hx hret rfl (Or.inl ⟨rfl, Or.inl rfl, _, rfl⟩) hlk hd hQ hk hn
theorem goJ (X : Stand p l e R s m args below meth c T locs cells slots) (hx : p.tables.exec = Jvm.exec) {pc : Nat} {Ls : Array Slot} {z : Int64} {rest : List Value} (hret : meth.sig.returnType = some .long) (hlk : meth.locks = false)
    (hd : decode c.code pc = .ok (.lreturn, 1)) (hQ : Q (some (.long z)) T.heap locs) (hk : cells ≤ k) (hn : slots ≤ n) : Go p e below (Fin1 s below Q k n) T (mkF m pc Ls (.long z :: rest)) :=
  goO X hx hret rfl (Or.inr (Or.inl ⟨rfl, rfl, _, rfl⟩)) hlk hd hQ hk hn
theorem goA (X : Stand p l e R s m args below meth c T locs cells slots) (hx : p.tables.exec = Jvm.exec) {pc : Nat} {Ls : Array Slot} {w : Value} {t : FieldType} {rest : List Value} (hret : meth.sig.returnType = some t) (ht : t.isReference = true) (hw : w.isRef = true) (hlk : meth.locks = false)
    (hd : decode c.code pc = .ok (.areturn, 1)) (hQ : Q (some w) T.heap locs) (hk : cells ≤ k) (hn : slots ≤ n) : Go p e below (Fin1 s below Q k n) T (mkF m pc Ls (w :: rest)) :=
  goO X hx hret (by cases t <;> cases w <;> first | rfl | (simp [FieldType.isReference] at ht; done) | (simp [Value.isRef] at hw; done)) (Or.inr (Or.inr (Or.inr (Or.inr ⟨rfl, ht, hw⟩)))) hlk hd hQ hk hn
theorem goV (X : Stand p l e R s m args below meth c T locs cells slots) (hx : p.tables.exec = Jvm.exec) {pc : Nat} {Ls : Array Slot} (hret : meth.sig.returnType = none) (hlk : meth.locks = false)
    (hd : decode c.code pc = .ok (.return_, 1)) (hQ : Q none T.heap locs) (hk : cells ≤ k) (hn : slots ≤ n) : Go p e below (Fin1 s below Q k n) T (mkF m pc Ls []) := by
  obtain ⟨fs, hr, hrun, hended, hW, hsame⟩ := X.leave (v := none) (fun _ => rfl) hlk
  exact ⟨_, X.returnOut hx hret hd hr, _, hrun, hended, _, _, rfl, hQ, ⟨_, rfl⟩, hW, hsame.mono hk hn⟩
def FinW (s : State) (below : List Frame) (Q : Option Value → Heap → List Loc → Prop) (k n : Nat) (t : State) : Prop := ∃ o, t.status = .running ∧ Ended t below o ∧ ∃ v L, o = .returned v ∧ Q v t.heap L ∧ ReturnedEndW s o t L k n
theorem of_goW {p : Program} {e : Env} {below : List Frame} {s s₁ : State} {Q : Option Value → Heap → List Loc → Prop} {k n : Nat} {f f' : JFrame} (hf : f' = f) (h : Go p e below (FinW s below Q k n) s₁ f) :
    ∃ s₂ o, Steps p.tables e below (s₁.setTop f') s₂ ∧ s₂.status = .running ∧ Ended s₂ below o ∧ ∃ v L, o = .returned v ∧ Q v s₂.heap L ∧ ReturnedEndW s o s₂ L k n := by
  subst hf
  obtain ⟨t, h1, o, h2, h3, h4⟩ := h
  exact ⟨t, o, h1, h2, h3, h4⟩
theorem goNW {vm0 : Vm} {n1 : Nat} (hS : s.Since vm0 n1) (X : Stand p l e R (s.setVm vm0) m args below meth c T locs cells slots) (hkk : n1 ≤ T.heap.size) (hx : p.tables.exec = Jvm.exec) {pc : Nat} {Ls : Array Slot} {z : Int32} {t : FieldType} {rest : List Value} (hret : meth.sig.returnType = some t) (ht : t = .boolean ∨ t = .byte ∨ t = .char ∨ t = .short) (hlk : meth.locks = false)
    (hd : decode c.code pc = .ok (.ireturn, 1)) (hQ : Q (some (.int (nar t z))) T.heap locs) (hk : cells ≤ k) (hn : slots ≤ n) : Go p e below (FinW s below Q k n) T (mkF m pc Ls (.int z :: rest)) := by
  obtain ⟨fs, hr, hrun, hended, hW, hsame⟩ := X.leave (v := some (.int (nar t z))) (fun h => by rw [hret] at h; cases h) hlk
  obtain ⟨a1, a2, a3⟩ := hS.ended hW (show n1 ≤ (T.setFrames fs).heap.size from hkk) hsame
  exact ⟨_, Jvm.RoadKit.retN X hx hret ht hd hr, _, hrun, hended, _, _, rfl, hQ, ⟨_, rfl⟩, a1, a2, a3.mono hk hn⟩
theorem goOW {vm0 : Vm} {n1 : Nat} (hS : s.Since vm0 n1) (X : Stand p l e R (s.setVm vm0) m args below meth c T locs cells slots) (hkk : n1 ≤ T.heap.size) (hx : p.tables.exec = Jvm.exec) {pc : Nat} {Ls : Array Slot} {w : Value} {t : FieldType} {i : Instr} {rest : List Value} (hret : meth.sig.returnType = some t) (hnw : narrow t w = w)
    (hi : (i = .ireturn ∧ (t = .int ∨ t = .boolean ∨ t = .byte ∨ t = .char ∨ t = .short) ∧ ∃ z, w = .int z) ∨ (i = .lreturn ∧ t = .long ∧ ∃ z, w = .long z) ∨ (i = .dreturn ∧ t = .double ∧ ∃ z, w = .double z) ∨ (i = .freturn ∧ t = .float ∧ ∃ z, w = .float z) ∨ (i = .areturn ∧ t.isReference = true ∧ w.isRef = true)) (hlk : meth.locks = false)
    (hd : decode c.code pc = .ok (i, 1)) (hQ : Q (some w) T.heap locs) (hk : cells ≤ k) (hn : slots ≤ n) : Go p e below (FinW s below Q k n) T (mkF m pc Ls (w :: rest)) := by
  obtain ⟨fs, hr, hrun, hended, hW, hsame⟩ := X.leave (v := some w) (fun h => by rw [hret] at h; cases h) hlk
  obtain ⟨a1, a2, a3⟩ := hS.ended hW (show n1 ≤ (T.setFrames fs).heap.size from hkk) hsame
  exact ⟨_, Jvm.RoadKit.retOut X hx hret hnw hi hd hr, _, hrun, hended, _, _, rfl, hQ, ⟨_, rfl⟩, a1, a2, a3.mono hk hn⟩
theorem goIW {vm0 : Vm} {n1 : Nat} (hS : s.Since vm0 n1) (X : Stand p l e R (s.setVm vm0) m args below meth c T locs cells slots) (hkk : n1 ≤ T.heap.size) (hx : p.tables.exec = Jvm.exec) {pc : Nat} {Ls : Array Slot} {z : Int32} {rest : List Value} (hret : meth.sig.returnType = some .int) (hlk : meth.locks = false)
    (hd : decode c.code pc = .ok (.ireturn, 1)) (hQ : Q (some (.int z)) T.heap locs) (hk : cells ≤ k) (hn : slots ≤ n) : Go p e below (FinW s below Q k n) T (mkF m pc Ls (.int z :: rest)) :=
  goOW hS X hkk hx hret rfl (Or.inl ⟨rfl, Or.inl rfl, _, rfl⟩) hlk hd hQ hk hn
theorem goAW {vm0 : Vm} {n1 : Nat} (hS : s.Since vm0 n1) (X : Stand p l e R (s.setVm vm0) m args below meth c T locs cells slots) (hkk : n1 ≤ T.heap.size) (hx : p.tables.exec = Jvm.exec) {pc : Nat} {Ls : Array Slot} {w : Value} {t : FieldType} {rest : List Value} (hret : meth.sig.returnType = some t) (ht : t.isReference = true) (hw : w.isRef = true) (hlk : meth.locks = false)
    (hd : decode c.code pc = .ok (.areturn, 1)) (hQ : Q (some w) T.heap locs) (hk : cells ≤ k) (hn : slots ≤ n) : Go p e below (FinW s below Q k n) T (mkF m pc Ls (w :: rest)) :=
  goOW hS X hkk hx hret (by cases t <;> cases w <;> first | rfl | (simp [FieldType.isReference] at ht; done) | (simp [Value.isRef] at hw; done)) (Or.inr (Or.inr (Or.inr (Or.inr ⟨rfl, ht, hw⟩)))) hlk hd hQ hk hn
theorem goVW {vm0 : Vm} {n1 : Nat} (hS : s.Since vm0 n1) (X : Stand p l e R (s.setVm vm0) m args below meth c T locs cells slots) (hkk : n1 ≤ T.heap.size) (hx : p.tables.exec = Jvm.exec) {pc : Nat} {Ls : Array Slot} (hret : meth.sig.returnType = none) (hlk : meth.locks = false)
    (hd : decode c.code pc = .ok (.return_, 1)) (hQ : Q none T.heap locs) (hk : cells ≤ k) (hn : slots ≤ n) : Go p e below (FinW s below Q k n) T (mkF m pc Ls []) := by
  obtain ⟨fs, hr, hrun, hended, hW, hsame⟩ := X.leave (v := none) (fun _ => rfl) hlk
  obtain ⟨a1, a2, a3⟩ := hS.ended hW (show n1 ≤ (T.setFrames fs).heap.size from hkk) hsame
  exact ⟨_, X.returnOut hx hret hd hr, _, hrun, hended, _, _, rfl, hQ, ⟨_, rfl⟩, a1, a2, a3.mono hk hn⟩
theorem narB {z : Int32} (h : z = 0 ∨ z = 1) : nar .boolean z = z := by rcases h with rfl | rfl <;> rfl
end Ends
theorem d3_0 : decode jdk_30_method_1_code 0 = .ok (.aload_n 0, 1) := by decide +kernel
theorem d3_1 : decode jdk_30_method_1_code 1 = .ok (.invokespecial 1, 3) := by decide +kernel
theorem d3_4 : decode jdk_30_method_1_code 4 = .ok (.return_, 1) := by decide +kernel
theorem pn_3 : plainName "java/lang/Record" = true := by first | (simp [plainName, overriddenIn]; done) | decide +kernel
theorem ef_rm3 (m : MethodId) (a1 : Addr) : entryFrame m #[(.ref a1)] 1 = mkF m 0 #[.val (.ref a1)] [] := by first | (simp [entryFrame, mkF, argsToLocals, Value.category]; done) | rfl
def Q_rm3 (Z : State) (a1 : Addr) (h0 : Heap) (n0 : Nat) (rv : Option Value) (hq : Heap) (Lq : List Loc) : Prop := rv = none ∧ Fr n0 Lq ∧ hq = h0
set_option maxRecDepth 65536 in
set_option maxHeartbeats 40000000 in
theorem rm3 (l : Launch) (Z : State) (a0 : Array Value) (hw : ∀ d ∈ tables_1, d.before a0 Z = true) (ws : List Jvm.Cond) (a1 : Addr) (h0 : Heap) (n0 : Nat) (Z0 : n0 ≤ h0.size) :
    MetFree l (⟨"java/lang/Record", "<init>", "()V"⟩ : MethodName) (head1 (Jvm.Cond.code (⟨"java/lang/Record", "<init>", "()V"⟩ : MethodName) jdk_30_method_1_code 1 none :: ws) ({ frames := 1, cells := 0, slots := 0, locals := 12 } : Room)) (fun a U => a = #[(.ref a1)] ∧ Z.Warmed39 U.vm ∧ U.heap = h0) (fun _ _ _ _ _ => True) (fun _ U o U' => ∃ v L, o = .returned v ∧ Q_rm3 Z a1 h0 n0 v U'.heap L ∧ FrameEnd U o U' L ({ frames := 1, cells := 0, slots := 0, locals := 12 } : Room).cells ({ frames := 1, cells := 0, slots := 0, locals := 12 } : Room).slots) := by
  refine MetFree.of_bodySF (plainFor_of_name pn_3) hisR ?_
  intro p e s m args below meth c s₁ Bd hml0 hP hK
  obtain ⟨rfl, hZ, hh⟩ := hP
  have hx := Bd.exec
  have hby := Bd.bytes
  have hml : c.maxLocals = 1 := hml0
  have hown : s.vm.findClass "java/lang/Record" = some m.cls := findClass_of_methodNamed Bd.named
  have hnm := (name_of_methodNamed Bd.named Bd.method).1
  have X0 : Stand p l e ({ frames := 1, cells := 0, slots := 0, locals := 12 } : Room) s m #[(.ref a1)] below meth c s₁ [] 0 0 := Stand.of_body Bd
  have e0 : s₁.heap = h0 := by rw [← hh, Bd.state]; rfl
  have N0 := Fr.nil n0
  refine of_go (ef_rm3 m a1) ?_
  refine Go.step (T' := s₁) (f' := (mkF m 1 #[.val (.ref a1)] [(.ref a1)])) (fun _ k => XS.aloadN X0.here hx rfl (hb hby d3_0) rfl rfl k) ?_
  obtain ⟨T1, X1, e1, st1⟩ := initO X0 hx hZ hown (hw _ (List.mem_of_getElem? (i := 14) rfl)) (hw _ (List.mem_of_getElem? (i := 15) rfl)) (hw _ (List.mem_of_getElem? (i := 16) rfl)) e0 (g := (mkF m 1 #[.val (.ref a1)] [(.ref a1)])) rfl (by rw [hml]; rfl) rfl (hb hby d3_1) (by decide) (W := 0) (by show 2 * 0 + _ ≤ _; exact Nat.le_of_eq rfl) (by decide)
  refine Go.step (T' := T1) (f' := (mkF m 4 #[.val (.ref a1)] [])) st1 ?_
  refine goV X1 hx Bd.returns Bd.notSynchronized (hb hby d3_4) ?_ (by decide) (by decide)
  show Q_rm3 Z a1 h0 n0 _ T1.heap _
  rw [e1]
  exact ⟨rfl, N0, rfl⟩
theorem d2_0 : decode prog_7_method_1_code 0 = .ok (.aload_n 0, 1) := by decide +kernel
theorem d2_1 : decode prog_7_method_1_code 1 = .ok (.invokespecial 1, 3) := by decide +kernel
theorem pd_0 : parseMethodDescriptor "()V" = some ⟨[], none⟩ := by decide +kernel
theorem d2_4 : decode prog_7_method_1_code 4 = .ok (.aload_n 0, 1) := by decide +kernel
theorem d2_5 : decode prog_7_method_1_code 5 = .ok (.iload_n 1, 1) := by decide +kernel
theorem d2_6 : decode prog_7_method_1_code 6 = .ok (.putfield 7, 3) := by decide +kernel
theorem d2_9 : decode prog_7_method_1_code 9 = .ok (.aload_n 0, 1) := by decide +kernel
theorem d2_10 : decode prog_7_method_1_code 10 = .ok (.iload_n 2, 1) := by decide +kernel
theorem d2_11 : decode prog_7_method_1_code 11 = .ok (.putfield 13, 3) := by decide +kernel
theorem d2_14 : decode prog_7_method_1_code 14 = .ok (.aload_n 0, 1) := by decide +kernel
theorem d2_15 : decode prog_7_method_1_code 15 = .ok (.iload_n 3, 1) := by decide +kernel
theorem d2_16 : decode prog_7_method_1_code 16 = .ok (.putfield 16, 3) := by decide +kernel
theorem d2_19 : decode prog_7_method_1_code 19 = .ok (.aload_n 0, 1) := by decide +kernel
theorem d2_20 : decode prog_7_method_1_code 20 = .ok (.iload 4, 2) := by decide +kernel
theorem d2_22 : decode prog_7_method_1_code 22 = .ok (.putfield 19, 3) := by decide +kernel
theorem d2_25 : decode prog_7_method_1_code 25 = .ok (.aload_n 0, 1) := by decide +kernel
theorem d2_26 : decode prog_7_method_1_code 26 = .ok (.iload 5, 2) := by decide +kernel
theorem d2_28 : decode prog_7_method_1_code 28 = .ok (.putfield 22, 3) := by decide +kernel
theorem d2_31 : decode prog_7_method_1_code 31 = .ok (.aload_n 0, 1) := by decide +kernel
theorem d2_32 : decode prog_7_method_1_code 32 = .ok (.iload 6, 2) := by decide +kernel
theorem d2_34 : decode prog_7_method_1_code 34 = .ok (.putfield 26, 3) := by decide +kernel
theorem d2_37 : decode prog_7_method_1_code 37 = .ok (.return_, 1) := by decide +kernel
theorem pn_2 : plainName "com/example/managed_transactions/managedtransactions/jdbc/SqlText$Lexing" = true := by first | (simp [plainName, overriddenIn]; done) | decide +kernel
theorem ef_rm2 (m : MethodId) (a1 : Addr) (p2 : Int32) (p3 : Int32) (p4 : Int32) (p5 : Int32) (p6 : Int32) (p7 : Int32) : entryFrame m #[(.ref a1), (.int p2), (.int p3), (.int p4), (.int p5), (.int p6), (.int p7)] 7 = mkF m 0 #[.val (.ref a1), .val (.int p2), .val (.int p3), .val (.int p4), .val (.int p5), .val (.int p6), .val (.int p7)] [] := by first | (simp [entryFrame, mkF, argsToLocals, Value.category]; done) | rfl
def Q_rm2 (Z : State) (a1 : Addr) (p2 : Int32) (p3 : Int32) (p4 : Int32) (p5 : Int32) (p6 : Int32) (p7 : Int32) (h0 : Heap) (n0 : Nat) (rv : Option Value) (hq : Heap) (Lq : List Loc) : Prop := rv = none ∧ Fr n0 Lq ∧ Keep h0 hq [a1] ∧ Fld Z hq a1 "com/example/managed_transactions/managedtransactions/jdbc/SqlText$Lexing" "nestingComments" "Z" (.int p2) ∧ Fld Z hq a1 "com/example/managed_transactions/managedtransactions/jdbc/SqlText$Lexing" "hashComments" "Z" (.int p3) ∧ Fld Z hq a1 "com/example/managed_transactions/managedtransactions/jdbc/SqlText$Lexing" "dashesBeforeSpace" "Z" (.int p4) ∧ Fld Z hq a1 "com/example/managed_transactions/managedtransactions/jdbc/SqlText$Lexing" "returnEndsLine" "Z" (.int p5) ∧ Fld Z hq a1 "com/example/managed_transactions/managedtransactions/jdbc/SqlText$Lexing" "runsCommentsUpTo" "I" (.int p6) ∧ Fld Z hq a1 "com/example/managed_transactions/managedtransactions/jdbc/SqlText$Lexing" "backslashEscapes" "Z" (.int p7)
set_option maxRecDepth 65536 in
set_option maxHeartbeats 40000000 in
theorem rm2 (l : Launch) (Z : State) (a0 : Array Value) (hw : ∀ d ∈ tables_1, d.before a0 Z = true) (ws : List Jvm.Cond) (a1 : Addr) (p2 : Int32) (p3 : Int32) (p4 : Int32) (p5 : Int32) (p6 : Int32) (p7 : Int32) (h0 : Heap) (n0 : Nat) (Z0 : n0 ≤ h0.size) (E_a1 : Exa Z h0 a1 "com/example/managed_transactions/managedtransactions/jdbc/SqlText$Lexing") (F_nestingComments_a1 : Fld Z h0 a1 "com/example/managed_transactions/managedtransactions/jdbc/SqlText$Lexing" "nestingComments" "Z" (.int (0 : Int32))) (F_hashComments_a1 : Fld Z h0 a1 "com/example/managed_transactions/managedtransactions/jdbc/SqlText$Lexing" "hashComments" "Z" (.int (0 : Int32))) (F_dashesBeforeSpace_a1 : Fld Z h0 a1 "com/example/managed_transactions/managedtransactions/jdbc/SqlText$Lexing" "dashesBeforeSpace" "Z" (.int (0 : Int32))) (F_returnEndsLine_a1 : Fld Z h0 a1 "com/example/managed_transactions/managedtransactions/jdbc/SqlText$Lexing" "returnEndsLine" "Z" (.int (0 : Int32))) (F_runsCommentsUpTo_a1 : Fld Z h0 a1 "com/example/managed_transactions/managedtransactions/jdbc/SqlText$Lexing" "runsCommentsUpTo" "I" (.int (0 : Int32))) (F_backslashEscapes_a1 : Fld Z h0 a1 "com/example/managed_transactions/managedtransactions/jdbc/SqlText$Lexing" "backslashEscapes" "Z" (.int (0 : Int32))) (hbz2 : p2 = 0 ∨ p2 = 1) (hbz3 : p3 = 0 ∨ p3 = 1) (hbz4 : p4 = 0 ∨ p4 = 1) (hbz5 : p5 = 0 ∨ p5 = 1) (hbz7 : p7 = 0 ∨ p7 = 1) (g_a1 : n0 ≤ a1) :
    MetFree l (⟨"com/example/managed_transactions/managedtransactions/jdbc/SqlText$Lexing", "<init>", "(ZZZZIZ)V"⟩ : MethodName) (head1 (Jvm.Cond.code (⟨"com/example/managed_transactions/managedtransactions/jdbc/SqlText$Lexing", "<init>", "(ZZZZIZ)V"⟩ : MethodName) prog_7_method_1_code 7 none :: ws) ({ frames := 2, cells := 0, slots := 0, locals := 24 } : Room)) (fun a U => a = #[(.ref a1), (.int p2), (.int p3), (.int p4), (.int p5), (.int p6), (.int p7)] ∧ Z.Warmed39 U.vm ∧ U.heap = h0) (fun _ _ _ _ _ => True) (fun _ U o U' => ∃ v L, o = .returned v ∧ Q_rm2 Z a1 p2 p3 p4 p5 p6 p7 h0 n0 v U'.heap L ∧ FrameEnd U o U' L ({ frames := 2, cells := 0, slots := 0, locals := 24 } : Room).cells ({ frames := 2, cells := 0, slots := 0, locals := 24 } : Room).slots) := by
  refine MetFree.of_bodySF (plainFor_of_name pn_2) hisR ?_
  intro p e s m args below meth c s₁ Bd hml0 hP hK
  obtain ⟨rfl, hZ, hh⟩ := hP
  have hx := Bd.exec
  have hby := Bd.bytes
  have hml : c.maxLocals = 7 := hml0
  have hown : s.vm.findClass "com/example/managed_transactions/managedtransactions/jdbc/SqlText$Lexing" = some m.cls := findClass_of_methodNamed Bd.named
  have hnm := (name_of_methodNamed Bd.named Bd.method).1
  have X0 : Stand p l e ({ frames := 2, cells := 0, slots := 0, locals := 24 } : Room) s m #[(.ref a1), (.int p2), (.int p3), (.int p4), (.int p5), (.int p6), (.int p7)] below meth c s₁ [] 0 0 := Stand.of_body Bd
  have e0 : s₁.heap = h0 := by rw [← hh, Bd.state]; rfl
  have N0 := Fr.nil n0
  refine of_go (ef_rm2 m a1 p2 p3 p4 p5 p6 p7) ?_
  refine Go.step (T' := s₁) (f' := (mkF m 1 #[.val (.ref a1), .val (.int p2), .val (.int p3), .val (.int p4), .val (.int p5), .val (.int p6), .val (.int p7)] [(.ref a1)])) (fun _ k => XS.aloadN X0.here hx rfl (hb hby d2_0) rfl rfl k) ?_
  obtain ⟨_, _, ⟨T1, L1, k1, n1⟩, -, X1, ⟨Lc1, hQ1, l1, y1, z1⟩, st1⟩ := X0.specialBack hx (y := (⟨"java/lang/Record", "<init>", "()V"⟩ : MethodName)) rfl hown (mvT hZ (hw _ (List.mem_of_getElem? (i := 9) rfl))) (mvT hZ (hw _ (List.mem_of_getElem? (i := 10) rfl))) (mvT hZ (hw _ (List.mem_of_getElem? (i := 13) rfl))) (by decide) (backOf (W := 0) (rm3 l Z a0 hw [] a1 h0 n0 Z0 ) hZ (hw _ (List.mem_of_getElem? (i := 13) rfl)) (hw _ (List.mem_of_getElem? (i := 12) rfl)) (by decide) (by decide)) (g := (mkF m 1 #[.val (.ref a1), .val (.int p2), .val (.int p3), .val (.int p4), .val (.int p5), .val (.int p6), .val (.int p7)] [(.ref a1)])) rfl (by rw [hml]; rfl) (Steps.refl _) (a := a1) (argsL := []) (rest := []) (lenOf pd_0 rfl) rfl (by show 2 * 0 + _ ≤ _; exact Nat.le_of_eq rfl) (hb hby d2_1) (fun _ _ => ⟨rfl, e0, (by decide : 0 + 0 ≤ _), (by decide : 0 + 0 ≤ _)⟩)
  dsimp only [Pt.U, Pt.locs, Pt.cells, Pt.slots] at X1 l1 y1 z1 st1 hQ1
  subst l1 y1 z1
  obtain ⟨rfl, Nq1, eh1⟩ := hQ1
  have N1 := Fr.app N0 Nq1
  refine Go.step (T' := T1) (f' := (mkF m 4 #[.val (.ref a1), .val (.int p2), .val (.int p3), .val (.int p4), .val (.int p5), .val (.int p6), .val (.int p7)] [])) (fun _ k => st1.trans k) ?_
  refine Go.step (T' := T1) (f' := (mkF m 5 #[.val (.ref a1), .val (.int p2), .val (.int p3), .val (.int p4), .val (.int p5), .val (.int p6), .val (.int p7)] [(.ref a1)])) (fun _ k => XS.aloadN X1.here hx rfl (hb hby d2_4) rfl rfl k) ?_
  refine Go.step (T' := T1) (f' := (mkF m 6 #[.val (.ref a1), .val (.int p2), .val (.int p3), .val (.int p4), .val (.int p5), .val (.int p6), .val (.int p7)] [(.int p2), (.ref a1)])) (fun _ k => XS.iloadN X1.here hx rfl (hb hby d2_5) rfl k) ?_
  obtain ⟨T2, h2, X2, e2, W2, st2⟩ := putFN X1 hx hZ hown (hw _ (List.mem_of_getElem? (i := 17) rfl)) Via.refl eh1 F_nestingComments_a1 E_a1 (Or.inr ⟨(hw _ (List.mem_of_getElem? (i := 18) rfl)), rfl, hnm⟩) (hw _ (List.mem_of_getElem? (i := 5) rfl)) (ty := .boolean) (v := .int p2) (v' := .int p2) (by decide) (congrArg Value.int (narB hbz2)) (by rcases hbz2 with rfl | rfl <;> rfl) (g := (mkF m 6 #[.val (.ref a1), .val (.int p2), .val (.int p3), .val (.int p4), .val (.int p5), .val (.int p6), .val (.int p7)] [(.int p2), (.ref a1)])) rfl rfl (hb hby d2_6)
  have N2 := Fr.snoc X2 N1 g_a1
  have Z3 : n0 ≤ h2.size := Nat.le_trans Z0 (Keep.of_wr W2).1
  have K3 : Keep h0 h2 [a1] := (Keep.refl h0 [a1]).wr W2 (Or.inl (List.mem_of_getElem? (i := 0) rfl))
  have Fw2 := F_nestingComments_a1.same W2
  refine Go.step (T' := T2) (f' := (mkF m 9 #[.val (.ref a1), .val (.int p2), .val (.int p3), .val (.int p4), .val (.int p5), .val (.int p6), .val (.int p7)] [])) st2 ?_
  refine Go.step (T' := T2) (f' := (mkF m 10 #[.val (.ref a1), .val (.int p2), .val (.int p3), .val (.int p4), .val (.int p5), .val (.int p6), .val (.int p7)] [(.ref a1)])) (fun _ k => XS.aloadN X2.here hx rfl (hb hby d2_9) rfl rfl k) ?_
  refine Go.step (T' := T2) (f' := (mkF m 11 #[.val (.ref a1), .val (.int p2), .val (.int p3), .val (.int p4), .val (.int p5), .val (.int p6), .val (.int p7)] [(.int p3), (.ref a1)])) (fun _ k => XS.iloadN X2.here hx rfl (hb hby d2_10) rfl k) ?_
  have q4 : Fld Z h2 a1 "com/example/managed_transactions/managedtransactions/jdbc/SqlText$Lexing" "hashComments" "Z" (.int (0 : Int32)) := (F_hashComments_a1.other W2 (Or.inr (slot_ne (Or.inr (hw _ (List.mem_of_getElem? (i := 20) rfl))) (Or.inr (hw _ (List.mem_of_getElem? (i := 18) rfl))) (by decide) (t := .boolean) (t' := .boolean) (by decide) (by decide))))
  have q5 : Exa Z h2 a1 "com/example/managed_transactions/managedtransactions/jdbc/SqlText$Lexing" := (E_a1.wr W2)
  obtain ⟨T6, h6, X6, e6, W6, st6⟩ := putFN X2 hx hZ hown (hw _ (List.mem_of_getElem? (i := 19) rfl)) Via.refl e2 q4 q5 (Or.inr ⟨(hw _ (List.mem_of_getElem? (i := 20) rfl)), rfl, hnm⟩) (hw _ (List.mem_of_getElem? (i := 5) rfl)) (ty := .boolean) (v := .int p3) (v' := .int p3) (by decide) (congrArg Value.int (narB hbz3)) (by rcases hbz3 with rfl | rfl <;> rfl) (g := (mkF m 11 #[.val (.ref a1), .val (.int p2), .val (.int p3), .val (.int p4), .val (.int p5), .val (.int p6), .val (.int p7)] [(.int p3), (.ref a1)])) rfl rfl (hb hby d2_11)
  have N6 := Fr.snoc X6 N2 g_a1
  have Z7 : n0 ≤ h6.size := Nat.le_trans Z3 (Keep.of_wr W6).1
  have K7 : Keep h0 h6 [a1] := K3.wr W6 (Or.inl (List.mem_of_getElem? (i := 0) rfl))
  have Fw6 := q4.same W6
  refine Go.step (T' := T6) (f' := (mkF m 14 #[.val (.ref a1), .val (.int p2), .val (.int p3), .val (.int p4), .val (.int p5), .val (.int p6), .val (.int p7)] [])) st6 ?_
  refine Go.step (T' := T6) (f' := (mkF m 15 #[.val (.ref a1), .val (.int p2), .val (.int p3), .val (.int p4), .val (.int p5), .val (.int p6), .val (.int p7)] [(.ref a1)])) (fun _ k => XS.aloadN X6.here hx rfl (hb hby d2_14) rfl rfl k) ?_
  refine Go.step (T' := T6) (f' := (mkF m 16 #[.val (.ref a1), .val (.int p2), .val (.int p3), .val (.int p4), .val (.int p5), .val (.int p6), .val (.int p7)] [(.int p4), (.ref a1)])) (fun _ k => XS.iloadN X6.here hx rfl (hb hby d2_15) rfl k) ?_
  have q8 : Fld Z h6 a1 "com/example/managed_transactions/managedtransactions/jdbc/SqlText$Lexing" "dashesBeforeSpace" "Z" (.int (0 : Int32)) := ((F_dashesBeforeSpace_a1.other W2 (Or.inr (slot_ne (Or.inr (hw _ (List.mem_of_getElem? (i := 22) rfl))) (Or.inr (hw _ (List.mem_of_getElem? (i := 18) rfl))) (by decide) (t := .boolean) (t' := .boolean) (by decide) (by decide)))).other W6 (Or.inr (slot_ne (Or.inr (hw _ (List.mem_of_getElem? (i := 22) rfl))) (Or.inr (hw _ (List.mem_of_getElem? (i := 20) rfl))) (by decide) (t := .boolean) (t' := .boolean) (by decide) (by decide))))
  have q9 : Exa Z h6 a1 "com/example/managed_transactions/managedtransactions/jdbc/SqlText$Lexing" := (q5.wr W6)
  obtain ⟨T10, h10, X10, e10, W10, st10⟩ := putFN X6 hx hZ hown (hw _ (List.mem_of_getElem? (i := 21) rfl)) Via.refl e6 q8 q9 (Or.inr ⟨(hw _ (List.mem_of_getElem? (i := 22) rfl)), rfl, hnm⟩) (hw _ (List.mem_of_getElem? (i := 5) rfl)) (ty := .boolean) (v := .int p4) (v' := .int p4) (by decide) (congrArg Value.int (narB hbz4)) (by rcases hbz4 with rfl | rfl <;> rfl) (g := (mkF m 16 #[.val (.ref a1), .val (.int p2), .val (.int p3), .val (.int p4), .val (.int p5), .val (.int p6), .val (.int p7)] [(.int p4), (.ref a1)])) rfl rfl (hb hby d2_16)
  have N10 := Fr.snoc X10 N6 g_a1
  have Z11 : n0 ≤ h10.size := Nat.le_trans Z7 (Keep.of_wr W10).1
  have K11 : Keep h0 h10 [a1] := K7.wr W10 (Or.inl (List.mem_of_getElem? (i := 0) rfl))
  have Fw10 := q8.same W10
  refine Go.step (T' := T10) (f' := (mkF m 19 #[.val (.ref a1), .val (.int p2), .val (.int p3), .val (.int p4), .val (.int p5), .val (.int p6), .val (.int p7)] [])) st10 ?_
  refine Go.step (T' := T10) (f' := (mkF m 20 #[.val (.ref a1), .val (.int p2), .val (.int p3), .val (.int p4), .val (.int p5), .val (.int p6), .val (.int p7)] [(.ref a1)])) (fun _ k => XS.aloadN X10.here hx rfl (hb hby d2_19) rfl rfl k) ?_
  refine Go.step (T' := T10) (f' := (mkF m 22 #[.val (.ref a1), .val (.int p2), .val (.int p3), .val (.int p4), .val (.int p5), .val (.int p6), .val (.int p7)] [(.int p5), (.ref a1)])) (fun _ k => XS.iload X10.here hx rfl (hb hby d2_20) rfl k) ?_
  have q12 : Fld Z h10 a1 "com/example/managed_transactions/managedtransactions/jdbc/SqlText$Lexing" "returnEndsLine" "Z" (.int (0 : Int32)) := (((F_returnEndsLine_a1.other W2 (Or.inr (slot_ne (Or.inr (hw _ (List.mem_of_getElem? (i := 24) rfl))) (Or.inr (hw _ (List.mem_of_getElem? (i := 18) rfl))) (by decide) (t := .boolean) (t' := .boolean) (by decide) (by decide)))).other W6 (Or.inr (slot_ne (Or.inr (hw _ (List.mem_of_getElem? (i := 24) rfl))) (Or.inr (hw _ (List.mem_of_getElem? (i := 20) rfl))) (by decide) (t := .boolean) (t' := .boolean) (by decide) (by decide)))).other W10 (Or.inr (slot_ne (Or.inr (hw _ (List.mem_of_getElem? (i := 24) rfl))) (Or.inr (hw _ (List.mem_of_getElem? (i := 22) rfl))) (by decide) (t := .boolean) (t' := .boolean) (by decide) (by decide))))
  have q13 : Exa Z h10 a1 "com/example/managed_transactions/managedtransactions/jdbc/SqlText$Lexing" := (q9.wr W10)
  obtain ⟨T14, h14, X14, e14, W14, st14⟩ := putFN X10 hx hZ hown (hw _ (List.mem_of_getElem? (i := 23) rfl)) Via.refl e10 q12 q13 (Or.inr ⟨(hw _ (List.mem_of_getElem? (i := 24) rfl)), rfl, hnm⟩) (hw _ (List.mem_of_getElem? (i := 5) rfl)) (ty := .boolean) (v := .int p5) (v' := .int p5) (by decide) (congrArg Value.int (narB hbz5)) (by rcases hbz5 with rfl | rfl <;> rfl) (g := (mkF m 22 #[.val (.ref a1), .val (.int p2), .val (.int p3), .val (.int p4), .val (.int p5), .val (.int p6), .val (.int p7)] [(.int p5), (.ref a1)])) rfl rfl (hb hby d2_22)
  have N14 := Fr.snoc X14 N10 g_a1
  have Z15 : n0 ≤ h14.size := Nat.le_trans Z11 (Keep.of_wr W14).1
  have K15 : Keep h0 h14 [a1] := K11.wr W14 (Or.inl (List.mem_of_getElem? (i := 0) rfl))
  have Fw14 := q12.same W14
  refine Go.step (T' := T14) (f' := (mkF m 25 #[.val (.ref a1), .val (.int p2), .val (.int p3), .val (.int p4), .val (.int p5), .val (.int p6), .val (.int p7)] [])) st14 ?_
  refine Go.step (T' := T14) (f' := (mkF m 26 #[.val (.ref a1), .val (.int p2), .val (.int p3), .val (.int p4), .val (.int p5), .val (.int p6), .val (.int p7)] [(.ref a1)])) (fun _ k => XS.aloadN X14.here hx rfl (hb hby d2_25) rfl rfl k) ?_
  refine Go.step (T' := T14) (f' := (mkF m 28 #[.val (.ref a1), .val (.int p2), .val (.int p3), .val (.int p4), .val (.int p5), .val (.int p6), .val (.int p7)] [(.int p6), (.ref a1)])) (fun _ k => XS.iload X14.here hx rfl (hb hby d2_26) rfl k) ?_
  have q16 : Fld Z h14 a1 "com/example/managed_transactions/managedtransactions/jdbc/SqlText$Lexing" "runsCommentsUpTo" "I" (.int (0 : Int32)) := ((((F_runsCommentsUpTo_a1.other W2 (Or.inr (slot_ne (Or.inr (hw _ (List.mem_of_getElem? (i := 26) rfl))) (Or.inr (hw _ (List.mem_of_getElem? (i := 18) rfl))) (by decide) (t := .int) (t' := .boolean) (by decide) (by decide)))).other W6 (Or.inr (slot_ne (Or.inr (hw _ (List.mem_of_getElem? (i := 26) rfl))) (Or.inr (hw _ (List.mem_of_getElem? (i := 20) rfl))) (by decide) (t := .int) (t' := .boolean) (by decide) (by decide)))).other W10 (Or.inr (slot_ne (Or.inr (hw _ (List.mem_of_getElem? (i := 26) rfl))) (Or.inr (hw _ (List.mem_of_getElem? (i := 22) rfl))) (by decide) (t := .int) (t' := .boolean) (by decide) (by decide)))).other W14 (Or.inr (slot_ne (Or.inr (hw _ (List.mem_of_getElem? (i := 26) rfl))) (Or.inr (hw _ (List.mem_of_getElem? (i := 24) rfl))) (by decide) (t := .int) (t' := .boolean) (by decide) (by decide))))
  have q17 : Exa Z h14 a1 "com/example/managed_transactions/managedtransactions/jdbc/SqlText$Lexing" := (q13.wr W14)
  obtain ⟨T18, h18, X18, e18, W18, st18⟩ := putF X14 hx hZ hown (host := "") (Or.inl (hw _ (List.mem_of_getElem? (i := 25) rfl))) Via.refl e14 q16 q17 (Or.inr ⟨(hw _ (List.mem_of_getElem? (i := 26) rfl)), rfl, hnm⟩) (hw _ (List.mem_of_getElem? (i := 5) rfl)) (ty := .int) (by decide) rfl rfl (g := (mkF m 28 #[.val (.ref a1), .val (.int p2), .val (.int p3), .val (.int p4), .val (.int p5), .val (.int p6), .val (.int p7)] [(.int p6), (.ref a1)])) rfl rfl (hb hby d2_28)
  have N18 := Fr.snoc X18 N14 g_a1
  have Z19 : n0 ≤ h18.size := Nat.le_trans Z15 (Keep.of_wr W18).1
  have K19 : Keep h0 h18 [a1] := K15.wr W18 (Or.inl (List.mem_of_getElem? (i := 0) rfl))
  have Fw18 := q16.same W18
  refine Go.step (T' := T18) (f' := (mkF m 31 #[.val (.ref a1), .val (.int p2), .val (.int p3), .val (.int p4), .val (.int p5), .val (.int p6), .val (.int p7)] [])) st18 ?_
  refine Go.step (T' := T18) (f' := (mkF m 32 #[.val (.ref a1), .val (.int p2), .val (.int p3), .val (.int p4), .val (.int p5), .val (.int p6), .val (.int p7)] [(.ref a1)])) (fun _ k => XS.aloadN X18.here hx rfl (hb hby d2_31) rfl rfl k) ?_
  refine Go.step (T' := T18) (f' := (mkF m 34 #[.val (.ref a1), .val (.int p2), .val (.int p3), .val (.int p4), .val (.int p5), .val (.int p6), .val (.int p7)] [(.int p7), (.ref a1)])) (fun _ k => XS.iload X18.here hx rfl (hb hby d2_32) rfl k) ?_
  have q20 : Fld Z h18 a1 "com/example/managed_transactions/managedtransactions/jdbc/SqlText$Lexing" "backslashEscapes" "Z" (.int (0 : Int32)) := (((((F_backslashEscapes_a1.other W2 (Or.inr (slot_ne (Or.inr (hw _ (List.mem_of_getElem? (i := 28) rfl))) (Or.inr (hw _ (List.mem_of_getElem? (i := 18) rfl))) (by decide) (t := .boolean) (t' := .boolean) (by decide) (by decide)))).other W6 (Or.inr (slot_ne (Or.inr (hw _ (List.mem_of_getElem? (i := 28) rfl))) (Or.inr (hw _ (List.mem_of_getElem? (i := 20) rfl))) (by decide) (t := .boolean) (t' := .boolean) (by decide) (by decide)))).other W10 (Or.inr (slot_ne (Or.inr (hw _ (List.mem_of_getElem? (i := 28) rfl))) (Or.inr (hw _ (List.mem_of_getElem? (i := 22) rfl))) (by decide) (t := .boolean) (t' := .boolean) (by decide) (by decide)))).other W14 (Or.inr (slot_ne (Or.inr (hw _ (List.mem_of_getElem? (i := 28) rfl))) (Or.inr (hw _ (List.mem_of_getElem? (i := 24) rfl))) (by decide) (t := .boolean) (t' := .boolean) (by decide) (by decide)))).other W18 (Or.inr (slot_ne (Or.inr (hw _ (List.mem_of_getElem? (i := 28) rfl))) (Or.inr (hw _ (List.mem_of_getElem? (i := 26) rfl))) (by decide) (t := .boolean) (t' := .int) (by decide) (by decide))))
  have q21 : Exa Z h18 a1 "com/example/managed_transactions/managedtransactions/jdbc/SqlText$Lexing" := (q17.wr W18)
  obtain ⟨T22, h22, X22, e22, W22, st22⟩ := putFN X18 hx hZ hown (hw _ (List.mem_of_getElem? (i := 27) rfl)) Via.refl e18 q20 q21 (Or.inr ⟨(hw _ (List.mem_of_getElem? (i := 28) rfl)), rfl, hnm⟩) (hw _ (List.mem_of_getElem? (i := 5) rfl)) (ty := .boolean) (v := .int p7) (v' := .int p7) (by decide) (congrArg Value.int (narB hbz7)) (by rcases hbz7 with rfl | rfl <;> rfl) (g := (mkF m 34 #[.val (.ref a1), .val (.int p2), .val (.int p3), .val (.int p4), .val (.int p5), .val (.int p6), .val (.int p7)] [(.int p7), (.ref a1)])) rfl rfl (hb hby d2_34)
  have N22 := Fr.snoc X22 N18 g_a1
  have Z23 : n0 ≤ h22.size := Nat.le_trans Z19 (Keep.of_wr W22).1
  have K23 : Keep h0 h22 [a1] := K19.wr W22 (Or.inl (List.mem_of_getElem? (i := 0) rfl))
  have Fw22 := q20.same W22
  refine Go.step (T' := T22) (f' := (mkF m 37 #[.val (.ref a1), .val (.int p2), .val (.int p3), .val (.int p4), .val (.int p5), .val (.int p6), .val (.int p7)] [])) st22 ?_
  refine goV X22 hx Bd.returns Bd.notSynchronized (hb hby d2_37) ?_ (by decide) (by decide)
  show Q_rm2 Z a1 p2 p3 p4 p5 p6 p7 h0 n0 _ T22.heap _
  rw [e22]
  have q24 : Fld Z h22 a1 "com/example/managed_transactions/managedtransactions/jdbc/SqlText$Lexing" "nestingComments" "Z" (.int p2) := (((((Fw2.other W6 (Or.inr (slot_ne (Or.inr (hw _ (List.mem_of_getElem? (i := 18) rfl))) (Or.inr (hw _ (List.mem_of_getElem? (i := 20) rfl))) (by decide) (t := .boolean) (t' := .boolean) (by decide) (by decide)))).other W10 (Or.inr (slot_ne (Or.inr (hw _ (List.mem_of_getElem? (i := 18) rfl))) (Or.inr (hw _ (List.mem_of_getElem? (i := 22) rfl))) (by decide) (t := .boolean) (t' := .boolean) (by decide) (by decide)))).other W14 (Or.inr (slot_ne (Or.inr (hw _ (List.mem_of_getElem? (i := 18) rfl))) (Or.inr (hw _ (List.mem_of_getElem? (i := 24) rfl))) (by decide) (t := .boolean) (t' := .boolean) (by decide) (by decide)))).other W18 (Or.inr (slot_ne (Or.inr (hw _ (List.mem_of_getElem? (i := 18) rfl))) (Or.inr (hw _ (List.mem_of_getElem? (i := 26) rfl))) (by decide) (t := .boolean) (t' := .int) (by decide) (by decide)))).other W22 (Or.inr (slot_ne (Or.inr (hw _ (List.mem_of_getElem? (i := 18) rfl))) (Or.inr (hw _ (List.mem_of_getElem? (i := 28) rfl))) (by decide) (t := .boolean) (t' := .boolean) (by decide) (by decide))))
  have q25 : Fld Z h22 a1 "com/example/managed_transactions/managedtransactions/jdbc/SqlText$Lexing" "hashComments" "Z" (.int p3) := ((((Fw6.other W10 (Or.inr (slot_ne (Or.inr (hw _ (List.mem_of_getElem? (i := 20) rfl))) (Or.inr (hw _ (List.mem_of_getElem? (i := 22) rfl))) (by decide) (t := .boolean) (t' := .boolean) (by decide) (by decide)))).other W14 (Or.inr (slot_ne (Or.inr (hw _ (List.mem_of_getElem? (i := 20) rfl))) (Or.inr (hw _ (List.mem_of_getElem? (i := 24) rfl))) (by decide) (t := .boolean) (t' := .boolean) (by decide) (by decide)))).other W18 (Or.inr (slot_ne (Or.inr (hw _ (List.mem_of_getElem? (i := 20) rfl))) (Or.inr (hw _ (List.mem_of_getElem? (i := 26) rfl))) (by decide) (t := .boolean) (t' := .int) (by decide) (by decide)))).other W22 (Or.inr (slot_ne (Or.inr (hw _ (List.mem_of_getElem? (i := 20) rfl))) (Or.inr (hw _ (List.mem_of_getElem? (i := 28) rfl))) (by decide) (t := .boolean) (t' := .boolean) (by decide) (by decide))))
  have q26 : Fld Z h22 a1 "com/example/managed_transactions/managedtransactions/jdbc/SqlText$Lexing" "dashesBeforeSpace" "Z" (.int p4) := (((Fw10.other W14 (Or.inr (slot_ne (Or.inr (hw _ (List.mem_of_getElem? (i := 22) rfl))) (Or.inr (hw _ (List.mem_of_getElem? (i := 24) rfl))) (by decide) (t := .boolean) (t' := .boolean) (by decide) (by decide)))).other W18 (Or.inr (slot_ne (Or.inr (hw _ (List.mem_of_getElem? (i := 22) rfl))) (Or.inr (hw _ (List.mem_of_getElem? (i := 26) rfl))) (by decide) (t := .boolean) (t' := .int) (by decide) (by decide)))).other W22 (Or.inr (slot_ne (Or.inr (hw _ (List.mem_of_getElem? (i := 22) rfl))) (Or.inr (hw _ (List.mem_of_getElem? (i := 28) rfl))) (by decide) (t := .boolean) (t' := .boolean) (by decide) (by decide))))
  have q27 : Fld Z h22 a1 "com/example/managed_transactions/managedtransactions/jdbc/SqlText$Lexing" "returnEndsLine" "Z" (.int p5) := ((Fw14.other W18 (Or.inr (slot_ne (Or.inr (hw _ (List.mem_of_getElem? (i := 24) rfl))) (Or.inr (hw _ (List.mem_of_getElem? (i := 26) rfl))) (by decide) (t := .boolean) (t' := .int) (by decide) (by decide)))).other W22 (Or.inr (slot_ne (Or.inr (hw _ (List.mem_of_getElem? (i := 24) rfl))) (Or.inr (hw _ (List.mem_of_getElem? (i := 28) rfl))) (by decide) (t := .boolean) (t' := .boolean) (by decide) (by decide))))
  have q28 : Fld Z h22 a1 "com/example/managed_transactions/managedtransactions/jdbc/SqlText$Lexing" "runsCommentsUpTo" "I" (.int p6) := (Fw18.other W22 (Or.inr (slot_ne (Or.inr (hw _ (List.mem_of_getElem? (i := 26) rfl))) (Or.inr (hw _ (List.mem_of_getElem? (i := 28) rfl))) (by decide) (t := .int) (t' := .boolean) (by decide) (by decide))))
  exact ⟨rfl, N22, K23, q24, q25, q26, q27, q28, Fw22⟩
theorem d1_0 : decode prog_7_method_2_code 0 = .ok (.new 8, 3) := by decide +kernel
theorem d1_3 : decode prog_7_method_2_code 3 = .ok (.dup, 1) := by decide +kernel
theorem d1_4 : decode prog_7_method_2_code 4 = .ok (.iconst 0, 1) := by decide +kernel
theorem d1_5 : decode prog_7_method_2_code 5 = .ok (.iconst 1, 1) := by decide +kernel
theorem d1_6 : decode prog_7_method_2_code 6 = .ok (.iconst 1, 1) := by decide +kernel
theorem d1_7 : decode prog_7_method_2_code 7 = .ok (.iconst 0, 1) := by decide +kernel
theorem d1_8 : decode prog_7_method_2_code 8 = .ok (.iload_n 0, 1) := by decide +kernel
theorem d1_9 : decode prog_7_method_2_code 9 = .ok (.iload_n 1, 1) := by decide +kernel
theorem d1_10 : decode prog_7_method_2_code 10 = .ok (.invokespecial 29, 3) := by decide +kernel
theorem pd_1 : parseMethodDescriptor "(ZZZZIZ)V" = some ⟨[.boolean, .boolean, .boolean, .boolean, .int, .boolean], none⟩ := by decide +kernel
theorem d1_13 : decode prog_7_method_2_code 13 = .ok (.areturn, 1) := by decide +kernel
theorem ef_rm1 (m : MethodId) (p1 : Int32) (p2 : Int32) : entryFrame m #[(.int p1), (.int p2)] 2 = mkF m 0 #[.val (.int p1), .val (.int p2)] [] := by first | (simp [entryFrame, mkF, argsToLocals, Value.category]; done) | rfl
def Q_rm1 (Z : State) (p1 : Int32) (p2 : Int32) (h0 : Heap) (n0 : Nat) (rv : Option Value) (hq : Heap) (Lq : List Loc) : Prop := ∃ b : Addr, rv = some (.ref b) ∧ Fr n0 Lq ∧ Keep h0 hq [] ∧ h0.size ≤ b ∧ Exa Z hq b "com/example/managed_transactions/managedtransactions/jdbc/SqlText$Lexing" ∧ Fld Z hq b "com/example/managed_transactions/managedtransactions/jdbc/SqlText$Lexing" "nestingComments" "Z" (.int (0 : Int32)) ∧ Fld Z hq b "com/example/managed_transactions/managedtransactions/jdbc/SqlText$Lexing" "hashComments" "Z" (.int (1 : Int32)) ∧ Fld Z hq b "com/example/managed_transactions/managedtransactions/jdbc/SqlText$Lexing" "dashesBeforeSpace" "Z" (.int (1 : Int32)) ∧ Fld Z hq b "com/example/managed_transactions/managedtransactions/jdbc/SqlText$Lexing" "returnEndsLine" "Z" (.int (0 : Int32)) ∧ Fld Z hq b "com/example/managed_transactions/managedtransactions/jdbc/SqlText$Lexing" "runsCommentsUpTo" "I" (.int p1) ∧ Fld Z hq b "com/example/managed_transactions/managedtransactions/jdbc/SqlText$Lexing" "backslashEscapes" "Z" (.int p2)
set_option maxRecDepth 65536 in
set_option maxHeartbeats 40000000 in
theorem rm1 (l : Launch) (Z : State) (a0 : Array Value) (hw : ∀ d ∈ tables_1, d.before a0 Z = true) (ws : List Jvm.Cond) (p1 : Int32) (p2 : Int32) (h0 : Heap) (n0 : Nat) (Z0 : n0 ≤ h0.size) (hbz2 : p2 = 0 ∨ p2 = 1) :
    MetFree l (⟨"com/example/managed_transactions/managedtransactions/jdbc/SqlText$Lexing", "mariadb", "(IZ)Lcom/example/managed_transactions/managedtransactions/jdbc/SqlText$Lexing;"⟩ : MethodName) (head1 (Jvm.Cond.code (⟨"com/example/managed_transactions/managedtransactions/jdbc/SqlText$Lexing", "mariadb", "(IZ)Lcom/example/managed_transactions/managedtransactions/jdbc/SqlText$Lexing;"⟩ : MethodName) prog_7_method_2_code 2 (some (.object "com/example/managed_transactions/managedtransactions/jdbc/SqlText$Lexing")) :: ws) ({ frames := 3, cells := 1, slots := 6, locals := 43 } : Room)) (fun a U => a = #[(.int p1), (.int p2)] ∧ Z.Warmed39 U.vm ∧ U.heap = h0) (fun _ _ _ _ _ => True) (fun _ U o U' => ∃ v L, o = .returned v ∧ Q_rm1 Z p1 p2 h0 n0 v U'.heap L ∧ FrameEnd U o U' L ({ frames := 3, cells := 1, slots := 6, locals := 43 } : Room).cells ({ frames := 3, cells := 1, slots := 6, locals := 43 } : Room).slots) := by
  refine MetFree.of_bodySF (plainFor_of_name pn_2) hisR ?_
  intro p e s m args below meth c s₁ Bd hml0 hP hK
  obtain ⟨rfl, hZ, hh⟩ := hP
  have hx := Bd.exec
  have hby := Bd.bytes
  have hml : c.maxLocals = 2 := hml0
  have hown : s.vm.findClass "com/example/managed_transactions/managedtransactions/jdbc/SqlText$Lexing" = some m.cls := findClass_of_methodNamed Bd.named
  have hnm := (name_of_methodNamed Bd.named Bd.method).1
  have X0 : Stand p l e ({ frames := 3, cells := 1, slots := 6, locals := 43 } : Room) s m #[(.int p1), (.int p2)] below meth c s₁ [] 0 0 := Stand.of_body Bd
  have e0 : s₁.heap = h0 := by rw [← hh, Bd.state]; rfl
  have N0 := Fr.nil n0
  refine of_go (ef_rm1 m p1 p2) ?_
  obtain ⟨T1, h1, X1, e1, E1, A1, D1, -, st1⟩ := newO X0 hx hZ hown (hw _ (List.mem_of_getElem? (i := 4) rfl)) (hw _ (List.mem_of_getElem? (i := 5) rfl)) (hw _ (List.mem_of_getElem? (i := 2) rfl)) e0 (g := (mkF m 0 #[.val (.int p1), .val (.int p2)] [])) rfl (hb hby d1_0) (by decide) (by decide)
  obtain ⟨b1, g1⟩ : ∃ z, z = h0.size := ⟨_, rfl⟩
  rw [← g1] at A1 D1 st1
  have g_b1 : n0 ≤ b1 := Nat.le_trans Z0 (Nat.le_of_eq g1.symm)
  have sz_b1 : h0.size ≤ b1 := Nat.le_trans (Keep.refl h0 []).1 (Nat.le_of_eq g1.symm)
  have Z2 : n0 ≤ h1.size := Nat.le_trans Z0 E1.1
  have K2 : Keep h0 h1 [] := (Keep.refl h0 []).ext E1
  have F_nestingComments_b1 : Fld Z h1 b1 "com/example/managed_transactions/managedtransactions/jdbc/SqlText$Lexing" "nestingComments" "Z" (.int (0 : Int32)) := D1 (Or.inr (hw _ (List.mem_of_getElem? (i := 18) rfl))) (ty := .boolean) (by decide)
  have F_hashComments_b1 : Fld Z h1 b1 "com/example/managed_transactions/managedtransactions/jdbc/SqlText$Lexing" "hashComments" "Z" (.int (0 : Int32)) := D1 (Or.inr (hw _ (List.mem_of_getElem? (i := 20) rfl))) (ty := .boolean) (by decide)
  have F_dashesBeforeSpace_b1 : Fld Z h1 b1 "com/example/managed_transactions/managedtransactions/jdbc/SqlText$Lexing" "dashesBeforeSpace" "Z" (.int (0 : Int32)) := D1 (Or.inr (hw _ (List.mem_of_getElem? (i := 22) rfl))) (ty := .boolean) (by decide)
  have F_returnEndsLine_b1 : Fld Z h1 b1 "com/example/managed_transactions/managedtransactions/jdbc/SqlText$Lexing" "returnEndsLine" "Z" (.int (0 : Int32)) := D1 (Or.inr (hw _ (List.mem_of_getElem? (i := 24) rfl))) (ty := .boolean) (by decide)
  have F_runsCommentsUpTo_b1 : Fld Z h1 b1 "com/example/managed_transactions/managedtransactions/jdbc/SqlText$Lexing" "runsCommentsUpTo" "I" (.int (0 : Int32)) := D1 (Or.inr (hw _ (List.mem_of_getElem? (i := 26) rfl))) (ty := .int) (by decide)
  have F_backslashEscapes_b1 : Fld Z h1 b1 "com/example/managed_transactions/managedtransactions/jdbc/SqlText$Lexing" "backslashEscapes" "Z" (.int (0 : Int32)) := D1 (Or.inr (hw _ (List.mem_of_getElem? (i := 28) rfl))) (ty := .boolean) (by decide)
  refine Go.step (T' := T1) (f' := (mkF m 3 #[.val (.int p1), .val (.int p2)] [(.ref b1)])) st1 ?_
  refine Go.step (T' := T1) (f' := (mkF m 4 #[.val (.int p1), .val (.int p2)] [(.ref b1), (.ref b1)])) (fun _ k => XS.dup X1.here hx rfl (hb hby d1_3) rfl rfl k) ?_
  refine Go.step (T' := T1) (f' := (mkF m 5 #[.val (.int p1), .val (.int p2)] [(.int (0 : Int32)), (.ref b1), (.ref b1)])) (fun _ k => XS.iconst X1.here hx rfl (hb hby d1_4) k) ?_
  refine Go.step (T' := T1) (f' := (mkF m 6 #[.val (.int p1), .val (.int p2)] [(.int (1 : Int32)), (.int (0 : Int32)), (.ref b1), (.ref b1)])) (fun _ k => XS.iconst X1.here hx rfl (hb hby d1_5) k) ?_
  refine Go.step (T' := T1) (f' := (mkF m 7 #[.val (.int p1), .val (.int p2)] [(.int (1 : Int32)), (.int (1 : Int32)), (.int (0 : Int32)), (.ref b1), (.ref b1)])) (fun _ k => XS.iconst X1.here hx rfl (hb hby d1_6) k) ?_
  refine Go.step (T' := T1) (f' := (mkF m 8 #[.val (.int p1), .val (.int p2)] [(.int (0 : Int32)), (.int (1 : Int32)), (.int (1 : Int32)), (.int (0 : Int32)), (.ref b1), (.ref b1)])) (fun _ k => XS.iconst X1.here hx rfl (hb hby d1_7) k) ?_
  refine Go.step (T' := T1) (f' := (mkF m 9 #[.val (.int p1), .val (.int p2)] [(.int p1), (.int (0 : Int32)), (.int (1 : Int32)), (.int (1 : Int32)), (.int (0 : Int32)), (.ref b1), (.ref b1)])) (fun _ k => XS.iloadN X1.here hx rfl (hb hby d1_8) rfl k) ?_
  refine Go.step (T' := T1) (f' := (mkF m 10 #[.val (.int p1), .val (.int p2)] [(.int p2), (.int p1), (.int (0 : Int32)), (.int (1 : Int32)), (.int (1 : Int32)), (.int (0 : Int32)), (.ref b1), (.ref b1)])) (fun _ k => XS.iloadN X1.here hx rfl (hb hby d1_9) rfl k) ?_
  obtain ⟨_, _, ⟨T3, L3, k3, n3⟩, -, X3, ⟨Lc3, hQ3, l3, y3, z3⟩, st3⟩ := X1.specialBack hx (y := (⟨"com/example/managed_transactions/managedtransactions/jdbc/SqlText$Lexing", "<init>", "(ZZZZIZ)V"⟩ : MethodName)) rfl hown (mvT hZ (hw _ (List.mem_of_getElem? (i := 6) rfl))) (mvT hZ (hw _ (List.mem_of_getElem? (i := 7) rfl))) (mvT hZ (hw _ (List.mem_of_getElem? (i := 8) rfl))) (by decide) (backOf (W := 1) (rm2 l Z a0 hw [] b1 (0 : Int32) (1 : Int32) (1 : Int32) (0 : Int32) p1 p2 h1 n0 Z2 A1 F_nestingComments_b1 F_hashComments_b1 F_dashesBeforeSpace_b1 F_returnEndsLine_b1 F_runsCommentsUpTo_b1 F_backslashEscapes_b1 (Or.inl rfl) (Or.inr rfl) (Or.inr rfl) (Or.inl rfl) hbz2 g_b1) hZ (hw _ (List.mem_of_getElem? (i := 8) rfl)) (hw _ (List.mem_of_getElem? (i := 2) rfl)) (by decide) (by decide)) (g := (mkF m 10 #[.val (.int p1), .val (.int p2)] [(.int p2), (.int p1), (.int (0 : Int32)), (.int (1 : Int32)), (.int (1 : Int32)), (.int (0 : Int32)), (.ref b1), (.ref b1)])) rfl (by rw [hml]; rfl) (Steps.refl _) (a := b1) (argsL := [(.int (0 : Int32)), (.int (1 : Int32)), (.int (1 : Int32)), (.int (0 : Int32)), (.int p1), (.int p2)]) (rest := [(.ref b1)]) (lenOf pd_1 rfl) rfl (by show 2 * 0 + _ ≤ _; exact Nat.le_of_eq rfl) (hb hby d1_10) (fun _ _ => ⟨rfl, e1, (by decide : 1 + 0 ≤ _), (by decide : 6 + 0 ≤ _)⟩)
  dsimp only [Pt.U, Pt.locs, Pt.cells, Pt.slots] at X3 l3 y3 z3 st3 hQ3
  subst l3 y3 z3
  obtain ⟨rfl, Nq3, Kq3, r3_0, r3_1, r3_2, r3_3, r3_4, r3_5⟩ := hQ3
  have N3 := Fr.app N0 Nq3
  have Z4 : n0 ≤ T3.heap.size := Nat.le_trans Z2 Kq3.1
  have K4 : Keep h0 T3.heap [] := K2.trans Kq3 (allS (Or.inr sz_b1) all0)
  refine Go.step (T' := T3) (f' := (mkF m 13 #[.val (.int p1), .val (.int p2)] [(.ref b1)])) (fun _ k => st3.trans k) ?_
  refine goA X3 hx Bd.returns rfl rfl Bd.notSynchronized (hb hby d1_13) ?_ (by decide) (by decide)
  show Q_rm1 Z p1 p2 h0 n0 _ T3.heap _
  have q5 : Exa Z T3.heap b1 "com/example/managed_transactions/managedtransactions/jdbc/SqlText$Lexing" := (A1.keep Kq3)
  exact ⟨b1, rfl, N3, K4, sz_b1, q5, r3_0, r3_1, r3_2, r3_3, r3_4, r3_5⟩
theorem d5_0 : decode prog_7_method_6_code 0 = .ok (.aload_n 0, 1) := by decide +kernel
theorem d5_1 : decode prog_7_method_6_code 1 = .ok (.getfield 7, 3) := by decide +kernel
theorem d5_4 : decode prog_7_method_6_code 4 = .ok (.ireturn, 1) := by decide +kernel
theorem ef_rm5 (m : MethodId) (a1 : Addr) : entryFrame m #[(.ref a1)] 1 = mkF m 0 #[.val (.ref a1)] [] := by first | (simp [entryFrame, mkF, argsToLocals, Value.category]; done) | rfl
def Q_rm5 (Z : State) (a1 : Addr) (w : Int32) (h0 : Heap) (n0 : Nat) (rv : Option Value) (hq : Heap) (Lq : List Loc) : Prop := rv = some (.int w) ∧ Fr n0 Lq ∧ hq = h0
set_option maxRecDepth 65536 in
set_option maxHeartbeats 40000000 in
theorem rm5 (l : Launch) (Z : State) (a0 : Array Value) (hw : ∀ d ∈ tables_1, d.before a0 Z = true) (ws : List Jvm.Cond) (a1 : Addr) (w : Int32) (h0 : Heap) (n0 : Nat) (Z0 : n0 ≤ h0.size) (F_nestingComments_a1 : Fld Z h0 a1 "com/example/managed_transactions/managedtransactions/jdbc/SqlText$Lexing" "nestingComments" "Z" (.int w)) (hbz : w = 0 ∨ w = 1) :
    MetFree l (⟨"com/example/managed_transactions/managedtransactions/jdbc/SqlText$Lexing", "nestingComments", "()Z"⟩ : MethodName) (head1 (Jvm.Cond.code (⟨"com/example/managed_transactions/managedtransactions/jdbc/SqlText$Lexing", "nestingComments", "()Z"⟩ : MethodName) prog_7_method_6_code 1 (some .boolean) :: ws) ({ frames := 0, cells := 0, slots := 0, locals := 0 } : Room)) (fun a U => a = #[(.ref a1)] ∧ Z.Warmed39 U.vm ∧ U.heap = h0) (fun _ _ _ _ _ => True) (fun _ U o U' => ∃ v L, o = .returned v ∧ Q_rm5 Z a1 w h0 n0 v U'.heap L ∧ FrameEnd U o U' L ({ frames := 0, cells := 0, slots := 0, locals := 0 } : Room).cells ({ frames := 0, cells := 0, slots := 0, locals := 0 } : Room).slots) := by
  refine MetFree.of_bodySF (plainFor_of_name pn_2) hisR ?_
  intro p e s m args below meth c s₁ Bd hml0 hP hK
  obtain ⟨rfl, hZ, hh⟩ := hP
  have hx := Bd.exec
  have hby := Bd.bytes
  have hml : c.maxLocals = 1 := hml0
  have hown : s.vm.findClass "com/example/managed_transactions/managedtransactions/jdbc/SqlText$Lexing" = some m.cls := findClass_of_methodNamed Bd.named
  have hnm := (name_of_methodNamed Bd.named Bd.method).1
  have X0 : Stand p l e ({ frames := 0, cells := 0, slots := 0, locals := 0 } : Room) s m #[(.ref a1)] below meth c s₁ [] 0 0 := Stand.of_body Bd
  have e0 : s₁.heap = h0 := by rw [← hh, Bd.state]; rfl
  have N0 := Fr.nil n0
  refine of_go (ef_rm5 m a1) ?_
  refine Go.step (T' := s₁) (f' := (mkF m 1 #[.val (.ref a1)] [(.ref a1)])) (fun _ k => XS.aloadN X0.here hx rfl (hb hby d5_0) rfl rfl k) ?_
  obtain ⟨T1, X1, e1, st1⟩ := getF X0 hx hZ hown (host := "") (Or.inl (hw _ (List.mem_of_getElem? (i := 17) rfl))) Via.refl e0 F_nestingComments_a1 (g := (mkF m 1 #[.val (.ref a1)] [(.ref a1)])) rfl rfl (hb hby d5_1)
  refine Go.step (T' := T1) (f' := (mkF m 4 #[.val (.ref a1)] [(.int w)])) st1 ?_
  refine goN X1 hx (t := .boolean) Bd.returns (by simp) Bd.notSynchronized (hb hby d5_4) ?_ (by decide) (by decide)
  show Q_rm5 Z a1 w h0 n0 _ T1.heap _
  rw [e1]
  exact ⟨(by rw [narB hbz]), N0, rfl⟩
theorem d6_0 : decode prog_7_method_7_code 0 = .ok (.aload_n 0, 1) := by decide +kernel
theorem d6_1 : decode prog_7_method_7_code 1 = .ok (.getfield 13, 3) := by decide +kernel
theorem d6_4 : decode prog_7_method_7_code 4 = .ok (.ireturn, 1) := by decide +kernel
theorem ef_rm6 (m : MethodId) (a1 : Addr) : entryFrame m #[(.ref a1)] 1 = mkF m 0 #[.val (.ref a1)] [] := by first | (simp [entryFrame, mkF, argsToLocals, Value.category]; done) | rfl
def Q_rm6 (Z : State) (a1 : Addr) (w : Int32) (h0 : Heap) (n0 : Nat) (rv : Option Value) (hq : Heap) (Lq : List Loc) : Prop := rv = some (.int w) ∧ Fr n0 Lq ∧ hq = h0
set_option maxRecDepth 65536 in
set_option maxHeartbeats 40000000 in
theorem rm6 (l : Launch) (Z : State) (a0 : Array Value) (hw : ∀ d ∈ tables_1, d.before a0 Z = true) (ws : List Jvm.Cond) (a1 : Addr) (w : Int32) (h0 : Heap) (n0 : Nat) (Z0 : n0 ≤ h0.size) (F_hashComments_a1 : Fld Z h0 a1 "com/example/managed_transactions/managedtransactions/jdbc/SqlText$Lexing" "hashComments" "Z" (.int w)) (hbz : w = 0 ∨ w = 1) :
    MetFree l (⟨"com/example/managed_transactions/managedtransactions/jdbc/SqlText$Lexing", "hashComments", "()Z"⟩ : MethodName) (head1 (Jvm.Cond.code (⟨"com/example/managed_transactions/managedtransactions/jdbc/SqlText$Lexing", "hashComments", "()Z"⟩ : MethodName) prog_7_method_7_code 1 (some .boolean) :: ws) ({ frames := 0, cells := 0, slots := 0, locals := 0 } : Room)) (fun a U => a = #[(.ref a1)] ∧ Z.Warmed39 U.vm ∧ U.heap = h0) (fun _ _ _ _ _ => True) (fun _ U o U' => ∃ v L, o = .returned v ∧ Q_rm6 Z a1 w h0 n0 v U'.heap L ∧ FrameEnd U o U' L ({ frames := 0, cells := 0, slots := 0, locals := 0 } : Room).cells ({ frames := 0, cells := 0, slots := 0, locals := 0 } : Room).slots) := by
  refine MetFree.of_bodySF (plainFor_of_name pn_2) hisR ?_
  intro p e s m args below meth c s₁ Bd hml0 hP hK
  obtain ⟨rfl, hZ, hh⟩ := hP
  have hx := Bd.exec
  have hby := Bd.bytes
  have hml : c.maxLocals = 1 := hml0
  have hown : s.vm.findClass "com/example/managed_transactions/managedtransactions/jdbc/SqlText$Lexing" = some m.cls := findClass_of_methodNamed Bd.named
  have hnm := (name_of_methodNamed Bd.named Bd.method).1
  have X0 : Stand p l e ({ frames := 0, cells := 0, slots := 0, locals := 0 } : Room) s m #[(.ref a1)] below meth c s₁ [] 0 0 := Stand.of_body Bd
  have e0 : s₁.heap = h0 := by rw [← hh, Bd.state]; rfl
  have N0 := Fr.nil n0
  refine of_go (ef_rm6 m a1) ?_
  refine Go.step (T' := s₁) (f' := (mkF m 1 #[.val (.ref a1)] [(.ref a1)])) (fun _ k => XS.aloadN X0.here hx rfl (hb hby d6_0) rfl rfl k) ?_
  obtain ⟨T1, X1, e1, st1⟩ := getF X0 hx hZ hown (host := "") (Or.inl (hw _ (List.mem_of_getElem? (i := 19) rfl))) Via.refl e0 F_hashComments_a1 (g := (mkF m 1 #[.val (.ref a1)] [(.ref a1)])) rfl rfl (hb hby d6_1)
  refine Go.step (T' := T1) (f' := (mkF m 4 #[.val (.ref a1)] [(.int w)])) st1 ?_
  refine goN X1 hx (t := .boolean) Bd.returns (by simp) Bd.notSynchronized (hb hby d6_4) ?_ (by decide) (by decide)
  show Q_rm6 Z a1 w h0 n0 _ T1.heap _
  rw [e1]
  exact ⟨(by rw [narB hbz]), N0, rfl⟩
theorem d7_0 : decode prog_7_method_8_code 0 = .ok (.aload_n 0, 1) := by decide +kernel
theorem d7_1 : decode prog_7_method_8_code 1 = .ok (.getfield 16, 3) := by decide +kernel
theorem d7_4 : decode prog_7_method_8_code 4 = .ok (.ireturn, 1) := by decide +kernel
theorem ef_rm7 (m : MethodId) (a1 : Addr) : entryFrame m #[(.ref a1)] 1 = mkF m 0 #[.val (.ref a1)] [] := by first | (simp [entryFrame, mkF, argsToLocals, Value.category]; done) | rfl
def Q_rm7 (Z : State) (a1 : Addr) (w : Int32) (h0 : Heap) (n0 : Nat) (rv : Option Value) (hq : Heap) (Lq : List Loc) : Prop := rv = some (.int w) ∧ Fr n0 Lq ∧ hq = h0
set_option maxRecDepth 65536 in
set_option maxHeartbeats 40000000 in
theorem rm7 (l : Launch) (Z : State) (a0 : Array Value) (hw : ∀ d ∈ tables_1, d.before a0 Z = true) (ws : List Jvm.Cond) (a1 : Addr) (w : Int32) (h0 : Heap) (n0 : Nat) (Z0 : n0 ≤ h0.size) (F_dashesBeforeSpace_a1 : Fld Z h0 a1 "com/example/managed_transactions/managedtransactions/jdbc/SqlText$Lexing" "dashesBeforeSpace" "Z" (.int w)) (hbz : w = 0 ∨ w = 1) :
    MetFree l (⟨"com/example/managed_transactions/managedtransactions/jdbc/SqlText$Lexing", "dashesBeforeSpace", "()Z"⟩ : MethodName) (head1 (Jvm.Cond.code (⟨"com/example/managed_transactions/managedtransactions/jdbc/SqlText$Lexing", "dashesBeforeSpace", "()Z"⟩ : MethodName) prog_7_method_8_code 1 (some .boolean) :: ws) ({ frames := 0, cells := 0, slots := 0, locals := 0 } : Room)) (fun a U => a = #[(.ref a1)] ∧ Z.Warmed39 U.vm ∧ U.heap = h0) (fun _ _ _ _ _ => True) (fun _ U o U' => ∃ v L, o = .returned v ∧ Q_rm7 Z a1 w h0 n0 v U'.heap L ∧ FrameEnd U o U' L ({ frames := 0, cells := 0, slots := 0, locals := 0 } : Room).cells ({ frames := 0, cells := 0, slots := 0, locals := 0 } : Room).slots) := by
  refine MetFree.of_bodySF (plainFor_of_name pn_2) hisR ?_
  intro p e s m args below meth c s₁ Bd hml0 hP hK
  obtain ⟨rfl, hZ, hh⟩ := hP
  have hx := Bd.exec
  have hby := Bd.bytes
  have hml : c.maxLocals = 1 := hml0
  have hown : s.vm.findClass "com/example/managed_transactions/managedtransactions/jdbc/SqlText$Lexing" = some m.cls := findClass_of_methodNamed Bd.named
  have hnm := (name_of_methodNamed Bd.named Bd.method).1
  have X0 : Stand p l e ({ frames := 0, cells := 0, slots := 0, locals := 0 } : Room) s m #[(.ref a1)] below meth c s₁ [] 0 0 := Stand.of_body Bd
  have e0 : s₁.heap = h0 := by rw [← hh, Bd.state]; rfl
  have N0 := Fr.nil n0
  refine of_go (ef_rm7 m a1) ?_
  refine Go.step (T' := s₁) (f' := (mkF m 1 #[.val (.ref a1)] [(.ref a1)])) (fun _ k => XS.aloadN X0.here hx rfl (hb hby d7_0) rfl rfl k) ?_
  obtain ⟨T1, X1, e1, st1⟩ := getF X0 hx hZ hown (host := "") (Or.inl (hw _ (List.mem_of_getElem? (i := 21) rfl))) Via.refl e0 F_dashesBeforeSpace_a1 (g := (mkF m 1 #[.val (.ref a1)] [(.ref a1)])) rfl rfl (hb hby d7_1)
  refine Go.step (T' := T1) (f' := (mkF m 4 #[.val (.ref a1)] [(.int w)])) st1 ?_
  refine goN X1 hx (t := .boolean) Bd.returns (by simp) Bd.notSynchronized (hb hby d7_4) ?_ (by decide) (by decide)
  show Q_rm7 Z a1 w h0 n0 _ T1.heap _
  rw [e1]
  exact ⟨(by rw [narB hbz]), N0, rfl⟩
theorem d8_0 : decode prog_7_method_9_code 0 = .ok (.aload_n 0, 1) := by decide +kernel
theorem d8_1 : decode prog_7_method_9_code 1 = .ok (.getfield 19, 3) := by decide +kernel
theorem d8_4 : decode prog_7_method_9_code 4 = .ok (.ireturn, 1) := by decide +kernel
theorem ef_rm8 (m : MethodId) (a1 : Addr) : entryFrame m #[(.ref a1)] 1 = mkF m 0 #[.val (.ref a1)] [] := by first | (simp [entryFrame, mkF, argsToLocals, Value.category]; done) | rfl
def Q_rm8 (Z : State) (a1 : Addr) (w : Int32) (h0 : Heap) (n0 : Nat) (rv : Option Value) (hq : Heap) (Lq : List Loc) : Prop := rv = some (.int w) ∧ Fr n0 Lq ∧ hq = h0
set_option maxRecDepth 65536 in
set_option maxHeartbeats 40000000 in
theorem rm8 (l : Launch) (Z : State) (a0 : Array Value) (hw : ∀ d ∈ tables_1, d.before a0 Z = true) (ws : List Jvm.Cond) (a1 : Addr) (w : Int32) (h0 : Heap) (n0 : Nat) (Z0 : n0 ≤ h0.size) (F_returnEndsLine_a1 : Fld Z h0 a1 "com/example/managed_transactions/managedtransactions/jdbc/SqlText$Lexing" "returnEndsLine" "Z" (.int w)) (hbz : w = 0 ∨ w = 1) :
    MetFree l (⟨"com/example/managed_transactions/managedtransactions/jdbc/SqlText$Lexing", "returnEndsLine", "()Z"⟩ : MethodName) (head1 (Jvm.Cond.code (⟨"com/example/managed_transactions/managedtransactions/jdbc/SqlText$Lexing", "returnEndsLine", "()Z"⟩ : MethodName) prog_7_method_9_code 1 (some .boolean) :: ws) ({ frames := 0, cells := 0, slots := 0, locals := 0 } : Room)) (fun a U => a = #[(.ref a1)] ∧ Z.Warmed39 U.vm ∧ U.heap = h0) (fun _ _ _ _ _ => True) (fun _ U o U' => ∃ v L, o = .returned v ∧ Q_rm8 Z a1 w h0 n0 v U'.heap L ∧ FrameEnd U o U' L ({ frames := 0, cells := 0, slots := 0, locals := 0 } : Room).cells ({ frames := 0, cells := 0, slots := 0, locals := 0 } : Room).slots) := by
  refine MetFree.of_bodySF (plainFor_of_name pn_2) hisR ?_
  intro p e s m args below meth c s₁ Bd hml0 hP hK
  obtain ⟨rfl, hZ, hh⟩ := hP
  have hx := Bd.exec
  have hby := Bd.bytes
  have hml : c.maxLocals = 1 := hml0
  have hown : s.vm.findClass "com/example/managed_transactions/managedtransactions/jdbc/SqlText$Lexing" = some m.cls := findClass_of_methodNamed Bd.named
  have hnm := (name_of_methodNamed Bd.named Bd.method).1
  have X0 : Stand p l e ({ frames := 0, cells := 0, slots := 0, locals := 0 } : Room) s m #[(.ref a1)] below meth c s₁ [] 0 0 := Stand.of_body Bd
  have e0 : s₁.heap = h0 := by rw [← hh, Bd.state]; rfl
  have N0 := Fr.nil n0
  refine of_go (ef_rm8 m a1) ?_
  refine Go.step (T' := s₁) (f' := (mkF m 1 #[.val (.ref a1)] [(.ref a1)])) (fun _ k => XS.aloadN X0.here hx rfl (hb hby d8_0) rfl rfl k) ?_
  obtain ⟨T1, X1, e1, st1⟩ := getF X0 hx hZ hown (host := "") (Or.inl (hw _ (List.mem_of_getElem? (i := 23) rfl))) Via.refl e0 F_returnEndsLine_a1 (g := (mkF m 1 #[.val (.ref a1)] [(.ref a1)])) rfl rfl (hb hby d8_1)
  refine Go.step (T' := T1) (f' := (mkF m 4 #[.val (.ref a1)] [(.int w)])) st1 ?_
  refine goN X1 hx (t := .boolean) Bd.returns (by simp) Bd.notSynchronized (hb hby d8_4) ?_ (by decide) (by decide)
  show Q_rm8 Z a1 w h0 n0 _ T1.heap _
  rw [e1]
  exact ⟨(by rw [narB hbz]), N0, rfl⟩
theorem d9_0 : decode prog_7_method_10_code 0 = .ok (.aload_n 0, 1) := by decide +kernel
theorem d9_1 : decode prog_7_method_10_code 1 = .ok (.getfield 22, 3) := by decide +kernel
theorem d9_4 : decode prog_7_method_10_code 4 = .ok (.ireturn, 1) := by decide +kernel
theorem ef_rm9 (m : MethodId) (a1 : Addr) : entryFrame m #[(.ref a1)] 1 = mkF m 0 #[.val (.ref a1)] [] := by first | (simp [entryFrame, mkF, argsToLocals, Value.category]; done) | rfl
def Q_rm9 (Z : State) (a1 : Addr) (w : Int32) (h0 : Heap) (n0 : Nat) (rv : Option Value) (hq : Heap) (Lq : List Loc) : Prop := rv = some (.int w) ∧ Fr n0 Lq ∧ hq = h0
set_option maxRecDepth 65536 in
set_option maxHeartbeats 40000000 in
theorem rm9 (l : Launch) (Z : State) (a0 : Array Value) (hw : ∀ d ∈ tables_1, d.before a0 Z = true) (ws : List Jvm.Cond) (a1 : Addr) (w : Int32) (h0 : Heap) (n0 : Nat) (Z0 : n0 ≤ h0.size) (F_runsCommentsUpTo_a1 : Fld Z h0 a1 "com/example/managed_transactions/managedtransactions/jdbc/SqlText$Lexing" "runsCommentsUpTo" "I" (.int w)) :
    MetFree l (⟨"com/example/managed_transactions/managedtransactions/jdbc/SqlText$Lexing", "runsCommentsUpTo", "()I"⟩ : MethodName) (head1 (Jvm.Cond.code (⟨"com/example/managed_transactions/managedtransactions/jdbc/SqlText$Lexing", "runsCommentsUpTo", "()I"⟩ : MethodName) prog_7_method_10_code 1 (some .int) :: ws) ({ frames := 0, cells := 0, slots := 0, locals := 0 } : Room)) (fun a U => a = #[(.ref a1)] ∧ Z.Warmed39 U.vm ∧ U.heap = h0) (fun _ _ _ _ _ => True) (fun _ U o U' => ∃ v L, o = .returned v ∧ Q_rm9 Z a1 w h0 n0 v U'.heap L ∧ FrameEnd U o U' L ({ frames := 0, cells := 0, slots := 0, locals := 0 } : Room).cells ({ frames := 0, cells := 0, slots := 0, locals := 0 } : Room).slots) := by
  refine MetFree.of_bodySF (plainFor_of_name pn_2) hisR ?_
  intro p e s m args below meth c s₁ Bd hml0 hP hK
  obtain ⟨rfl, hZ, hh⟩ := hP
  have hx := Bd.exec
  have hby := Bd.bytes
  have hml : c.maxLocals = 1 := hml0
  have hown : s.vm.findClass "com/example/managed_transactions/managedtransactions/jdbc/SqlText$Lexing" = some m.cls := findClass_of_methodNamed Bd.named
  have hnm := (name_of_methodNamed Bd.named Bd.method).1
  have X0 : Stand p l e ({ frames := 0, cells := 0, slots := 0, locals := 0 } : Room) s m #[(.ref a1)] below meth c s₁ [] 0 0 := Stand.of_body Bd
  have e0 : s₁.heap = h0 := by rw [← hh, Bd.state]; rfl
  have N0 := Fr.nil n0
  refine of_go (ef_rm9 m a1) ?_
  refine Go.step (T' := s₁) (f' := (mkF m 1 #[.val (.ref a1)] [(.ref a1)])) (fun _ k => XS.aloadN X0.here hx rfl (hb hby d9_0) rfl rfl k) ?_
  obtain ⟨T1, X1, e1, st1⟩ := getF X0 hx hZ hown (host := "") (Or.inl (hw _ (List.mem_of_getElem? (i := 25) rfl))) Via.refl e0 F_runsCommentsUpTo_a1 (g := (mkF m 1 #[.val (.ref a1)] [(.ref a1)])) rfl rfl (hb hby d9_1)
  refine Go.step (T' := T1) (f' := (mkF m 4 #[.val (.ref a1)] [(.int w)])) st1 ?_
  refine goI X1 hx Bd.returns Bd.notSynchronized (hb hby d9_4) ?_ (by decide) (by decide)
  show Q_rm9 Z a1 w h0 n0 _ T1.heap _
  rw [e1]
  exact ⟨rfl, N0, rfl⟩
theorem d10_0 : decode prog_7_method_11_code 0 = .ok (.aload_n 0, 1) := by decide +kernel
theorem d10_1 : decode prog_7_method_11_code 1 = .ok (.getfield 26, 3) := by decide +kernel
theorem d10_4 : decode prog_7_method_11_code 4 = .ok (.ireturn, 1) := by decide +kernel
theorem ef_rm10 (m : MethodId) (a1 : Addr) : entryFrame m #[(.ref a1)] 1 = mkF m 0 #[.val (.ref a1)] [] := by first | (simp [entryFrame, mkF, argsToLocals, Value.category]; done) | rfl
def Q_rm10 (Z : State) (a1 : Addr) (w : Int32) (h0 : Heap) (n0 : Nat) (rv : Option Value) (hq : Heap) (Lq : List Loc) : Prop := rv = some (.int w) ∧ Fr n0 Lq ∧ hq = h0
set_option maxRecDepth 65536 in
set_option maxHeartbeats 40000000 in
theorem rm10 (l : Launch) (Z : State) (a0 : Array Value) (hw : ∀ d ∈ tables_1, d.before a0 Z = true) (ws : List Jvm.Cond) (a1 : Addr) (w : Int32) (h0 : Heap) (n0 : Nat) (Z0 : n0 ≤ h0.size) (F_backslashEscapes_a1 : Fld Z h0 a1 "com/example/managed_transactions/managedtransactions/jdbc/SqlText$Lexing" "backslashEscapes" "Z" (.int w)) (hbz : w = 0 ∨ w = 1) :
    MetFree l (⟨"com/example/managed_transactions/managedtransactions/jdbc/SqlText$Lexing", "backslashEscapes", "()Z"⟩ : MethodName) (head1 (Jvm.Cond.code (⟨"com/example/managed_transactions/managedtransactions/jdbc/SqlText$Lexing", "backslashEscapes", "()Z"⟩ : MethodName) prog_7_method_11_code 1 (some .boolean) :: ws) ({ frames := 0, cells := 0, slots := 0, locals := 0 } : Room)) (fun a U => a = #[(.ref a1)] ∧ Z.Warmed39 U.vm ∧ U.heap = h0) (fun _ _ _ _ _ => True) (fun _ U o U' => ∃ v L, o = .returned v ∧ Q_rm10 Z a1 w h0 n0 v U'.heap L ∧ FrameEnd U o U' L ({ frames := 0, cells := 0, slots := 0, locals := 0 } : Room).cells ({ frames := 0, cells := 0, slots := 0, locals := 0 } : Room).slots) := by
  refine MetFree.of_bodySF (plainFor_of_name pn_2) hisR ?_
  intro p e s m args below meth c s₁ Bd hml0 hP hK
  obtain ⟨rfl, hZ, hh⟩ := hP
  have hx := Bd.exec
  have hby := Bd.bytes
  have hml : c.maxLocals = 1 := hml0
  have hown : s.vm.findClass "com/example/managed_transactions/managedtransactions/jdbc/SqlText$Lexing" = some m.cls := findClass_of_methodNamed Bd.named
  have hnm := (name_of_methodNamed Bd.named Bd.method).1
  have X0 : Stand p l e ({ frames := 0, cells := 0, slots := 0, locals := 0 } : Room) s m #[(.ref a1)] below meth c s₁ [] 0 0 := Stand.of_body Bd
  have e0 : s₁.heap = h0 := by rw [← hh, Bd.state]; rfl
  have N0 := Fr.nil n0
  refine of_go (ef_rm10 m a1) ?_
  refine Go.step (T' := s₁) (f' := (mkF m 1 #[.val (.ref a1)] [(.ref a1)])) (fun _ k => XS.aloadN X0.here hx rfl (hb hby d10_0) rfl rfl k) ?_
  obtain ⟨T1, X1, e1, st1⟩ := getF X0 hx hZ hown (host := "") (Or.inl (hw _ (List.mem_of_getElem? (i := 27) rfl))) Via.refl e0 F_backslashEscapes_a1 (g := (mkF m 1 #[.val (.ref a1)] [(.ref a1)])) rfl rfl (hb hby d10_1)
  refine Go.step (T' := T1) (f' := (mkF m 4 #[.val (.ref a1)] [(.int w)])) st1 ?_
  refine goN X1 hx (t := .boolean) Bd.returns (by simp) Bd.notSynchronized (hb hby d10_4) ?_ (by decide) (by decide)
  show Q_rm10 Z a1 w h0 n0 _ T1.heap _
  rw [e1]
  exact ⟨(by rw [narB hbz]), N0, rfl⟩
theorem pd_2 : parseMethodDescriptor "(IZ)Lcom/example/managed_transactions/managedtransactions/jdbc/SqlText$Lexing;" = some ⟨[.int, .boolean], some (.object "com/example/managed_transactions/managedtransactions/jdbc/SqlText$Lexing")⟩ := by decide +kernel
theorem pd_3 : parseMethodDescriptor "()Z" = some ⟨[], some .boolean⟩ := by decide +kernel
theorem pd_4 : parseMethodDescriptor "()I" = some ⟨[], some .int⟩ := by decide +kernel
theorem pn_0 : plainName "com/example/managed_transactions/managedtransactions/jdbc/LexingMariadbPinLaw" = true := by first | (simp [plainName, overriddenIn]; done) | decide +kernel
theorem ef_rm0 (m : MethodId) (p1 : Int32) (p2 : Int32) : entryFrame m #[(.int p1), (.int p2)] maxLocals = mkF m 0 #[.val (.int p1), .val (.int p2), .unset, .unset, .unset] [] := by first | (simp [entryFrame, mkF, argsToLocals, Value.category, maxLocals]; done) | rfl
def Q_rm0 (Z : State) (p1 : Int32) (p2 : Int32) (h0 : Heap) (n0 : Nat) (rv : Option Value) (hq : Heap) (Lq : List Loc) : Prop := rv = some (.int (1 : Int32)) ∧ Fr n0 Lq
set_option maxRecDepth 65536 in
set_option maxHeartbeats 40000000 in
theorem rm0 (l : Launch) (Z : State) (a0 : Array Value) (hw : ∀ d ∈ tables_1, d.before a0 Z = true) (ws : List Jvm.Cond) (p1 : Int32) (p2 : Int32) (h0 : Heap) (n0 : Nat) (Z0 : n0 ≤ h0.size) :
    MetFree l x (head1 (Jvm.Cond.code x code maxLocals ret :: ws) room_1) (fun a U => a = #[(.int p1), (.int p2)] ∧ Z.Warmed39 U.vm ∧ U.heap = h0) (fun _ _ _ _ _ => True) (fun _ U o U' => ∃ v L, o = .returned v ∧ Q_rm0 Z p1 p2 h0 n0 v U'.heap L ∧ FrameEnd U o U' L room_1.cells room_1.slots) := by
  refine MetFree.of_bodySF (plainFor_of_name pn_0) hisR ?_
  intro p e s m args below meth c s₁ Bd hml0 hP hK
  obtain ⟨rfl, hZ, hh⟩ := hP
  have hx := Bd.exec
  have hby := Bd.bytes
  have hml : c.maxLocals = 5 := hml0
  have hown : s.vm.findClass "com/example/managed_transactions/managedtransactions/jdbc/LexingMariadbPinLaw" = some m.cls := findClass_of_methodNamed Bd.named
  have hnm := (name_of_methodNamed Bd.named Bd.method).1
  have X0 : Stand p l e room_1 s m #[(.int p1), (.int p2)] below meth c s₁ [] 0 0 := Stand.of_body Bd
  have e0 : s₁.heap = h0 := by rw [← hh, Bd.state]; rfl
  have N0 := Fr.nil n0
  refine of_go (ef_rm0 m p1 p2) ?_
  refine Go.step (T' := s₁) (f' := (mkF m 1 #[.val (.int p1), .val (.int p2), .unset, .unset, .unset] [(.int p2)])) (fun _ k => XS.iloadN X0.here hx rfl (hb hby at_0) rfl k) ?_
  refine Go.step (T' := s₁) (f' := (mkF m 2 #[.val (.int p1), .val (.int p2), .unset, .unset, .unset] [(.int (1 : Int32)), (.int p2)])) (fun _ k => XS.iconst X0.here hx rfl (hb hby at_1) k) ?_
  refine Go.step (T' := s₁) (f' := (mkF m 3 #[.val (.int p1), .val (.int p2), .unset, .unset, .unset] [(.int (p2 &&& (1 : Int32)))])) (fun _ k => XS.iand X0.here hx rfl (hb hby at_2) rfl k) ?_
  by_cases hc3 : (p2 &&& (1 : Int32)) = (0 : Int32)
  · refine Go.step (T' := s₁) (f' := (mkF m 10 #[.val (.int p1), .val (.int p2), .unset, .unset, .unset] [])) (fun _ k => XS.ifYes X0.here hx rfl (pc0 := 3) (pc' := 10) rfl (hb hby at_3) rfl ((if0 _ _).trans (teq hc3).1) (by decide) (by decide) k) ?_
    refine Go.step (T' := s₁) (f' := (mkF m 11 #[.val (.int p1), .val (.int p2), .unset, .unset, .unset] [(.int (0 : Int32))])) (fun _ k => XS.iconst X0.here hx rfl (hb hby at_10) k) ?_
    refine Go.step (T' := s₁) (f' := (mkF m 12 #[.val (.int p1), .val (.int p2), .val (.int (0 : Int32)), .unset, .unset] [])) (fun _ k => XS.istoreN X0.here hx rfl (hb hby at_11) rfl (l' := #[.val (.int p1), .val (.int p2), .val (.int (0 : Int32)), .unset, .unset]) rfl k) ?_
    refine Go.step (T' := s₁) (f' := (mkF m 13 #[.val (.int p1), .val (.int p2), .val (.int (0 : Int32)), .unset, .unset] [(.int p1)])) (fun _ k => XS.iloadN X0.here hx rfl (hb hby at_12) rfl k) ?_
    refine Go.step (T' := s₁) (f' := (mkF m 14 #[.val (.int p1), .val (.int p2), .val (.int (0 : Int32)), .unset, .unset] [(.int (0 : Int32)), (.int p1)])) (fun _ k => XS.iloadN X0.here hx rfl (hb hby at_13) rfl k) ?_
    obtain ⟨_, _, ⟨T1, L1, k1, n1⟩, -, X1, ⟨Lc1, hQ1, l1, y1, z1⟩, st1⟩ := Jvm.LawKit.callS X0 hx (y := (⟨"com/example/managed_transactions/managedtransactions/jdbc/SqlText$Lexing", "mariadb", "(IZ)Lcom/example/managed_transactions/managedtransactions/jdbc/SqlText$Lexing;"⟩ : MethodName)) hown (mvT hZ (hw _ (List.mem_of_getElem? (i := 0) rfl))) (mvT hZ (hw _ (List.mem_of_getElem? (i := 1) rfl))) (mvT hZ (hw _ (List.mem_of_getElem? (i := 2) rfl))) (mvT hZ (hw _ (List.mem_of_getElem? (i := 3) rfl))) (by decide) (backOf (W := 0) (rm1 l Z a0 hw [] p1 (0 : Int32) h0 n0 Z0 (Or.inl rfl)) hZ (hw _ (List.mem_of_getElem? (i := 3) rfl)) (hw _ (List.mem_of_getElem? (i := 2) rfl)) (by decide) (by decide)) (g := (mkF m 14 #[.val (.int p1), .val (.int p2), .val (.int (0 : Int32)), .unset, .unset] [(.int (0 : Int32)), (.int p1)])) rfl (by rw [hml]; rfl) (argsL := [(.int p1), (.int (0 : Int32))]) (rest := []) (lenOf pd_2 rfl) rfl (by show 2 * 0 + _ ≤ _; exact Nat.le_of_eq rfl) (hb hby at_14) (fun _ _ => ⟨rfl, e0, (by decide : 0 + 1 ≤ _), (by decide : 0 + 6 ≤ _)⟩)
    dsimp only [Pt.U, Pt.locs, Pt.cells, Pt.slots] at X1 l1 y1 z1 st1 hQ1
    subst l1 y1 z1
    obtain ⟨b_1, rfl, Nq1, Kq1, r1_0, r1_1, r1_2, r1_3, r1_4, r1_5, r1_6, r1_7⟩ := hQ1
    have N1 := Fr.app N0 Nq1
    have g_b_1 : n0 ≤ b_1 := Nat.le_trans Z0 r1_0
    have Z2 : n0 ≤ T1.heap.size := Nat.le_trans Z0 Kq1.1
    refine Go.step (T' := T1) (f' := (mkF m 17 #[.val (.int p1), .val (.int p2), .val (.int (0 : Int32)), .unset, .unset] [(.ref b_1)])) st1 ?_
    refine Go.step (T' := T1) (f' := (mkF m 18 #[.val (.int p1), .val (.int p2), .val (.int (0 : Int32)), .val (.ref b_1), .unset] [])) (fun _ k => XS.astoreN X1.here hx rfl (hb hby at_17) rfl rfl (l' := #[.val (.int p1), .val (.int p2), .val (.int (0 : Int32)), .val (.ref b_1), .unset]) rfl k) ?_
    refine Go.step (T' := T1) (f' := (mkF m 19 #[.val (.int p1), .val (.int p2), .val (.int (0 : Int32)), .val (.ref b_1), .unset] [(.ref b_1)])) (fun _ k => XS.aloadN X1.here hx rfl (hb hby at_18) rfl rfl k) ?_
    refine Go.step (T' := T1) (f' := (mkF m 24 #[.val (.int p1), .val (.int p2), .val (.int (0 : Int32)), .val (.ref b_1), .unset] [])) (fun _ k => XS.ifnonnullYes X1.here hx rfl (pc0 := 19) (pc' := 24) rfl (hb hby at_19) rfl (by decide) (by decide) k) ?_
    refine Go.step (T' := T1) (f' := (mkF m 25 #[.val (.int p1), .val (.int p2), .val (.int (0 : Int32)), .val (.ref b_1), .unset] [(.ref b_1)])) (fun _ k => XS.aloadN X1.here hx rfl (hb hby at_24) rfl rfl k) ?_
    obtain ⟨cq3, kq3, q3a, q3b, q3c⟩ := isOf hZ rfl r1_1
    obtain ⟨_, _, ⟨T3, L3, k3, n3⟩, -, X3, ⟨Lc3, hQ3, l3, y3, z3⟩, st3⟩ := X1.virtualBack hx (y := (⟨"com/example/managed_transactions/managedtransactions/jdbc/SqlText$Lexing", "nestingComments", "()Z"⟩ : MethodName)) (z := (⟨"com/example/managed_transactions/managedtransactions/jdbc/SqlText$Lexing", "nestingComments", "()Z"⟩ : MethodName)) hown (mvT hZ (hw _ (List.mem_of_getElem? (i := 29) rfl))) (mvT hZ (hw _ (List.mem_of_getElem? (i := 30) rfl))) (notFace_of_selects (args := #[]) (mvT hZ (hw _ (List.mem_of_getElem? (i := 32) rfl)))) (mvT hZ (hw _ (List.mem_of_getElem? (i := 32) rfl))) (mvT hZ (hw _ (List.mem_of_getElem? (i := 31) rfl))) (by decide) (backOf (W := 0) (rm5 l Z a0 hw [] b_1 (0 : Int32) T1.heap n0 Z2 r1_2 (Or.inl rfl)) hZ (hw _ (List.mem_of_getElem? (i := 33) rfl)) (hw _ (List.mem_of_getElem? (i := 2) rfl)) (by decide) (by decide)) q3a q3c (g := (mkF m 25 #[.val (.int p1), .val (.int p2), .val (.int (0 : Int32)), .val (.ref b_1), .unset] [(.ref b_1)])) rfl (by rw [hml]; rfl) (Steps.refl _) (argsL := []) (rest := []) (lenOf pd_3 rfl) rfl (by show 2 * 0 + _ ≤ _; exact Nat.le_of_eq rfl) (hb hby at_25) (fun _ _ => ⟨rfl, rfl, (by decide : 1 + 0 ≤ _), (by decide : 6 + 0 ≤ _)⟩)
    dsimp only [Pt.U, Pt.locs, Pt.cells, Pt.slots] at X3 l3 y3 z3 st3 hQ3
    subst l3 y3 z3
    obtain ⟨rfl, Nq3, eh3⟩ := hQ3
    have N3 := Fr.app N1 Nq3
    refine Go.step (T' := T3) (f' := (mkF m 28 #[.val (.int p1), .val (.int p2), .val (.int (0 : Int32)), .val (.ref b_1), .unset] [(.int (0 : Int32))])) (fun _ k => st3.trans k) ?_
    refine Go.step (T' := T3) (f' := (mkF m 31 #[.val (.int p1), .val (.int p2), .val (.int (0 : Int32)), .val (.ref b_1), .unset] [])) (fun _ k => XS.ifNo X3.here hx rfl (hb hby at_28) rfl ((if0 _ _).trans (teq (by decide : (0 : Int32) = (0 : Int32))).2) k) ?_
    refine Go.step (T' := T3) (f' := (mkF m 32 #[.val (.int p1), .val (.int p2), .val (.int (0 : Int32)), .val (.ref b_1), .unset] [(.int (1 : Int32))])) (fun _ k => XS.iconst X3.here hx rfl (hb hby at_31) k) ?_
    refine Go.step (T' := T3) (f' := (mkF m 36 #[.val (.int p1), .val (.int p2), .val (.int (0 : Int32)), .val (.ref b_1), .unset] [(.int (1 : Int32))])) (fun _ k => XS.goto X3.here hx rfl (pc0 := 32) (pc' := 36) rfl (hb hby at_32) (by decide) (by decide) k) ?_
    refine Go.step (T' := T3) (f' := (mkF m 38 #[.val (.int p1), .val (.int p2), .val (.int (0 : Int32)), .val (.ref b_1), .val (.int (1 : Int32))] [])) (fun _ k => XS.istore X3.here hx rfl (hb hby at_36) rfl (l' := #[.val (.int p1), .val (.int p2), .val (.int (0 : Int32)), .val (.ref b_1), .val (.int (1 : Int32))]) rfl k) ?_
    refine Go.step (T' := T3) (f' := (mkF m 40 #[.val (.int p1), .val (.int p2), .val (.int (0 : Int32)), .val (.ref b_1), .val (.int (1 : Int32))] [(.int (1 : Int32))])) (fun _ k => XS.iload X3.here hx rfl (hb hby at_38) rfl k) ?_
    refine Go.step (T' := T3) (f' := (mkF m 43 #[.val (.int p1), .val (.int p2), .val (.int (0 : Int32)), .val (.ref b_1), .val (.int (1 : Int32))] [])) (fun _ k => XS.ifNo X3.here hx rfl (hb hby at_40) rfl ((if0 _ _).trans (feq (by decide : ¬ ((1 : Int32) = (0 : Int32)))).1) k) ?_
    refine Go.step (T' := T3) (f' := (mkF m 44 #[.val (.int p1), .val (.int p2), .val (.int (0 : Int32)), .val (.ref b_1), .val (.int (1 : Int32))] [(.ref b_1)])) (fun _ k => XS.aloadN X3.here hx rfl (hb hby at_43) rfl rfl k) ?_
    obtain ⟨cq4, kq4, q4a, q4b, q4c⟩ := isOf hZ eh3 r1_1
    obtain ⟨_, _, ⟨T4, L4, k4, n4⟩, -, X4, ⟨Lc4, hQ4, l4, y4, z4⟩, st4⟩ := X3.virtualBack hx (y := (⟨"com/example/managed_transactions/managedtransactions/jdbc/SqlText$Lexing", "hashComments", "()Z"⟩ : MethodName)) (z := (⟨"com/example/managed_transactions/managedtransactions/jdbc/SqlText$Lexing", "hashComments", "()Z"⟩ : MethodName)) hown (mvT hZ (hw _ (List.mem_of_getElem? (i := 34) rfl))) (mvT hZ (hw _ (List.mem_of_getElem? (i := 35) rfl))) (notFace_of_selects (args := #[]) (mvT hZ (hw _ (List.mem_of_getElem? (i := 37) rfl)))) (mvT hZ (hw _ (List.mem_of_getElem? (i := 37) rfl))) (mvT hZ (hw _ (List.mem_of_getElem? (i := 36) rfl))) (by decide) (backOf (W := 0) (rm6 l Z a0 hw [] b_1 (1 : Int32) T1.heap n0 Z2 r1_3 (Or.inr rfl)) hZ (hw _ (List.mem_of_getElem? (i := 38) rfl)) (hw _ (List.mem_of_getElem? (i := 2) rfl)) (by decide) (by decide)) q4a q4c (g := (mkF m 44 #[.val (.int p1), .val (.int p2), .val (.int (0 : Int32)), .val (.ref b_1), .val (.int (1 : Int32))] [(.ref b_1)])) rfl (by rw [hml]; rfl) (Steps.refl _) (argsL := []) (rest := []) (lenOf pd_3 rfl) rfl (by show 2 * 0 + _ ≤ _; exact Nat.le_of_eq rfl) (hb hby at_44) (fun _ _ => ⟨rfl, eh3, (by decide : 1 + 0 ≤ _), (by decide : 6 + 0 ≤ _)⟩)
    dsimp only [Pt.U, Pt.locs, Pt.cells, Pt.slots] at X4 l4 y4 z4 st4 hQ4
    subst l4 y4 z4
    obtain ⟨rfl, Nq4, eh4⟩ := hQ4
    have N4 := Fr.app N3 Nq4
    refine Go.step (T' := T4) (f' := (mkF m 47 #[.val (.int p1), .val (.int p2), .val (.int (0 : Int32)), .val (.ref b_1), .val (.int (1 : Int32))] [(.int (1 : Int32))])) (fun _ k => st4.trans k) ?_
    refine Go.step (T' := T4) (f' := (mkF m 50 #[.val (.int p1), .val (.int p2), .val (.int (0 : Int32)), .val (.ref b_1), .val (.int (1 : Int32))] [])) (fun _ k => XS.ifNo X4.here hx rfl (hb hby at_47) rfl ((if0 _ _).trans (feq (by decide : ¬ ((1 : Int32) = (0 : Int32)))).1) k) ?_
    refine Go.step (T' := T4) (f' := (mkF m 51 #[.val (.int p1), .val (.int p2), .val (.int (0 : Int32)), .val (.ref b_1), .val (.int (1 : Int32))] [(.int (1 : Int32))])) (fun _ k => XS.iconst X4.here hx rfl (hb hby at_50) k) ?_
    refine Go.step (T' := T4) (f' := (mkF m 55 #[.val (.int p1), .val (.int p2), .val (.int (0 : Int32)), .val (.ref b_1), .val (.int (1 : Int32))] [(.int (1 : Int32))])) (fun _ k => XS.goto X4.here hx rfl (pc0 := 51) (pc' := 55) rfl (hb hby at_51) (by decide) (by decide) k) ?_
    refine Go.step (T' := T4) (f' := (mkF m 57 #[.val (.int p1), .val (.int p2), .val (.int (0 : Int32)), .val (.ref b_1), .val (.int (1 : Int32))] [])) (fun _ k => XS.istore X4.here hx rfl (hb hby at_55) rfl (l' := #[.val (.int p1), .val (.int p2), .val (.int (0 : Int32)), .val (.ref b_1), .val (.int (1 : Int32))]) rfl k) ?_
    refine Go.step (T' := T4) (f' := (mkF m 59 #[.val (.int p1), .val (.int p2), .val (.int (0 : Int32)), .val (.ref b_1), .val (.int (1 : Int32))] [(.int (1 : Int32))])) (fun _ k => XS.iload X4.here hx rfl (hb hby at_57) rfl k) ?_
    refine Go.step (T' := T4) (f' := (mkF m 62 #[.val (.int p1), .val (.int p2), .val (.int (0 : Int32)), .val (.ref b_1), .val (.int (1 : Int32))] [])) (fun _ k => XS.ifNo X4.here hx rfl (hb hby at_59) rfl ((if0 _ _).trans (feq (by decide : ¬ ((1 : Int32) = (0 : Int32)))).1) k) ?_
    refine Go.step (T' := T4) (f' := (mkF m 63 #[.val (.int p1), .val (.int p2), .val (.int (0 : Int32)), .val (.ref b_1), .val (.int (1 : Int32))] [(.ref b_1)])) (fun _ k => XS.aloadN X4.here hx rfl (hb hby at_62) rfl rfl k) ?_
    obtain ⟨cq5, kq5, q5a, q5b, q5c⟩ := isOf hZ eh4 r1_1
    obtain ⟨_, _, ⟨T5, L5, k5, n5⟩, -, X5, ⟨Lc5, hQ5, l5, y5, z5⟩, st5⟩ := X4.virtualBack hx (y := (⟨"com/example/managed_transactions/managedtransactions/jdbc/SqlText$Lexing", "dashesBeforeSpace", "()Z"⟩ : MethodName)) (z := (⟨"com/example/managed_transactions/managedtransactions/jdbc/SqlText$Lexing", "dashesBeforeSpace", "()Z"⟩ : MethodName)) hown (mvT hZ (hw _ (List.mem_of_getElem? (i := 39) rfl))) (mvT hZ (hw _ (List.mem_of_getElem? (i := 40) rfl))) (notFace_of_selects (args := #[]) (mvT hZ (hw _ (List.mem_of_getElem? (i := 42) rfl)))) (mvT hZ (hw _ (List.mem_of_getElem? (i := 42) rfl))) (mvT hZ (hw _ (List.mem_of_getElem? (i := 41) rfl))) (by decide) (backOf (W := 0) (rm7 l Z a0 hw [] b_1 (1 : Int32) T1.heap n0 Z2 r1_4 (Or.inr rfl)) hZ (hw _ (List.mem_of_getElem? (i := 43) rfl)) (hw _ (List.mem_of_getElem? (i := 2) rfl)) (by decide) (by decide)) q5a q5c (g := (mkF m 63 #[.val (.int p1), .val (.int p2), .val (.int (0 : Int32)), .val (.ref b_1), .val (.int (1 : Int32))] [(.ref b_1)])) rfl (by rw [hml]; rfl) (Steps.refl _) (argsL := []) (rest := []) (lenOf pd_3 rfl) rfl (by show 2 * 0 + _ ≤ _; exact Nat.le_of_eq rfl) (hb hby at_63) (fun _ _ => ⟨rfl, eh4, (by decide : 1 + 0 ≤ _), (by decide : 6 + 0 ≤ _)⟩)
    dsimp only [Pt.U, Pt.locs, Pt.cells, Pt.slots] at X5 l5 y5 z5 st5 hQ5
    subst l5 y5 z5
    obtain ⟨rfl, Nq5, eh5⟩ := hQ5
    have N5 := Fr.app N4 Nq5
    refine Go.step (T' := T5) (f' := (mkF m 66 #[.val (.int p1), .val (.int p2), .val (.int (0 : Int32)), .val (.ref b_1), .val (.int (1 : Int32))] [(.int (1 : Int32))])) (fun _ k => st5.trans k) ?_
    refine Go.step (T' := T5) (f' := (mkF m 69 #[.val (.int p1), .val (.int p2), .val (.int (0 : Int32)), .val (.ref b_1), .val (.int (1 : Int32))] [])) (fun _ k => XS.ifNo X5.here hx rfl (hb hby at_66) rfl ((if0 _ _).trans (feq (by decide : ¬ ((1 : Int32) = (0 : Int32)))).1) k) ?_
    refine Go.step (T' := T5) (f' := (mkF m 70 #[.val (.int p1), .val (.int p2), .val (.int (0 : Int32)), .val (.ref b_1), .val (.int (1 : Int32))] [(.int (1 : Int32))])) (fun _ k => XS.iconst X5.here hx rfl (hb hby at_69) k) ?_
    refine Go.step (T' := T5) (f' := (mkF m 74 #[.val (.int p1), .val (.int p2), .val (.int (0 : Int32)), .val (.ref b_1), .val (.int (1 : Int32))] [(.int (1 : Int32))])) (fun _ k => XS.goto X5.here hx rfl (pc0 := 70) (pc' := 74) rfl (hb hby at_70) (by decide) (by decide) k) ?_
    refine Go.step (T' := T5) (f' := (mkF m 76 #[.val (.int p1), .val (.int p2), .val (.int (0 : Int32)), .val (.ref b_1), .val (.int (1 : Int32))] [])) (fun _ k => XS.istore X5.here hx rfl (hb hby at_74) rfl (l' := #[.val (.int p1), .val (.int p2), .val (.int (0 : Int32)), .val (.ref b_1), .val (.int (1 : Int32))]) rfl k) ?_
    refine Go.step (T' := T5) (f' := (mkF m 78 #[.val (.int p1), .val (.int p2), .val (.int (0 : Int32)), .val (.ref b_1), .val (.int (1 : Int32))] [(.int (1 : Int32))])) (fun _ k => XS.iload X5.here hx rfl (hb hby at_76) rfl k) ?_
    refine Go.step (T' := T5) (f' := (mkF m 81 #[.val (.int p1), .val (.int p2), .val (.int (0 : Int32)), .val (.ref b_1), .val (.int (1 : Int32))] [])) (fun _ k => XS.ifNo X5.here hx rfl (hb hby at_78) rfl ((if0 _ _).trans (feq (by decide : ¬ ((1 : Int32) = (0 : Int32)))).1) k) ?_
    refine Go.step (T' := T5) (f' := (mkF m 82 #[.val (.int p1), .val (.int p2), .val (.int (0 : Int32)), .val (.ref b_1), .val (.int (1 : Int32))] [(.ref b_1)])) (fun _ k => XS.aloadN X5.here hx rfl (hb hby at_81) rfl rfl k) ?_
    obtain ⟨cq6, kq6, q6a, q6b, q6c⟩ := isOf hZ eh5 r1_1
    obtain ⟨_, _, ⟨T6, L6, k6, n6⟩, -, X6, ⟨Lc6, hQ6, l6, y6, z6⟩, st6⟩ := X5.virtualBack hx (y := (⟨"com/example/managed_transactions/managedtransactions/jdbc/SqlText$Lexing", "returnEndsLine", "()Z"⟩ : MethodName)) (z := (⟨"com/example/managed_transactions/managedtransactions/jdbc/SqlText$Lexing", "returnEndsLine", "()Z"⟩ : MethodName)) hown (mvT hZ (hw _ (List.mem_of_getElem? (i := 44) rfl))) (mvT hZ (hw _ (List.mem_of_getElem? (i := 45) rfl))) (notFace_of_selects (args := #[]) (mvT hZ (hw _ (List.mem_of_getElem? (i := 47) rfl)))) (mvT hZ (hw _ (List.mem_of_getElem? (i := 47) rfl))) (mvT hZ (hw _ (List.mem_of_getElem? (i := 46) rfl))) (by decide) (backOf (W := 0) (rm8 l Z a0 hw [] b_1 (0 : Int32) T1.heap n0 Z2 r1_5 (Or.inl rfl)) hZ (hw _ (List.mem_of_getElem? (i := 48) rfl)) (hw _ (List.mem_of_getElem? (i := 2) rfl)) (by decide) (by decide)) q6a q6c (g := (mkF m 82 #[.val (.int p1), .val (.int p2), .val (.int (0 : Int32)), .val (.ref b_1), .val (.int (1 : Int32))] [(.ref b_1)])) rfl (by rw [hml]; rfl) (Steps.refl _) (argsL := []) (rest := []) (lenOf pd_3 rfl) rfl (by show 2 * 0 + _ ≤ _; exact Nat.le_of_eq rfl) (hb hby at_82) (fun _ _ => ⟨rfl, eh5, (by decide : 1 + 0 ≤ _), (by decide : 6 + 0 ≤ _)⟩)
    dsimp only [Pt.U, Pt.locs, Pt.cells, Pt.slots] at X6 l6 y6 z6 st6 hQ6
    subst l6 y6 z6
    obtain ⟨rfl, Nq6, eh6⟩ := hQ6
    have N6 := Fr.app N5 Nq6
    refine Go.step (T' := T6) (f' := (mkF m 85 #[.val (.int p1), .val (.int p2), .val (.int (0 : Int32)), .val (.ref b_1), .val (.int (1 : Int32))] [(.int (0 : Int32))])) (fun _ k => st6.trans k) ?_
    refine Go.step (T' := T6) (f' := (mkF m 88 #[.val (.int p1), .val (.int p2), .val (.int (0 : Int32)), .val (.ref b_1), .val (.int (1 : Int32))] [])) (fun _ k => XS.ifNo X6.here hx rfl (hb hby at_85) rfl ((if0 _ _).trans (teq (by decide : (0 : Int32) = (0 : Int32))).2) k) ?_
    refine Go.step (T' := T6) (f' := (mkF m 89 #[.val (.int p1), .val (.int p2), .val (.int (0 : Int32)), .val (.ref b_1), .val (.int (1 : Int32))] [(.int (1 : Int32))])) (fun _ k => XS.iconst X6.here hx rfl (hb hby at_88) k) ?_
    refine Go.step (T' := T6) (f' := (mkF m 93 #[.val (.int p1), .val (.int p2), .val (.int (0 : Int32)), .val (.ref b_1), .val (.int (1 : Int32))] [(.int (1 : Int32))])) (fun _ k => XS.goto X6.here hx rfl (pc0 := 89) (pc' := 93) rfl (hb hby at_89) (by decide) (by decide) k) ?_
    refine Go.step (T' := T6) (f' := (mkF m 95 #[.val (.int p1), .val (.int p2), .val (.int (0 : Int32)), .val (.ref b_1), .val (.int (1 : Int32))] [])) (fun _ k => XS.istore X6.here hx rfl (hb hby at_93) rfl (l' := #[.val (.int p1), .val (.int p2), .val (.int (0 : Int32)), .val (.ref b_1), .val (.int (1 : Int32))]) rfl k) ?_
    refine Go.step (T' := T6) (f' := (mkF m 97 #[.val (.int p1), .val (.int p2), .val (.int (0 : Int32)), .val (.ref b_1), .val (.int (1 : Int32))] [(.int (1 : Int32))])) (fun _ k => XS.iload X6.here hx rfl (hb hby at_95) rfl k) ?_
    refine Go.step (T' := T6) (f' := (mkF m 100 #[.val (.int p1), .val (.int p2), .val (.int (0 : Int32)), .val (.ref b_1), .val (.int (1 : Int32))] [])) (fun _ k => XS.ifNo X6.here hx rfl (hb hby at_97) rfl ((if0 _ _).trans (feq (by decide : ¬ ((1 : Int32) = (0 : Int32)))).1) k) ?_
    refine Go.step (T' := T6) (f' := (mkF m 101 #[.val (.int p1), .val (.int p2), .val (.int (0 : Int32)), .val (.ref b_1), .val (.int (1 : Int32))] [(.ref b_1)])) (fun _ k => XS.aloadN X6.here hx rfl (hb hby at_100) rfl rfl k) ?_
    obtain ⟨cq7, kq7, q7a, q7b, q7c⟩ := isOf hZ eh6 r1_1
    obtain ⟨_, _, ⟨T7, L7, k7, n7⟩, -, X7, ⟨Lc7, hQ7, l7, y7, z7⟩, st7⟩ := X6.virtualBack hx (y := (⟨"com/example/managed_transactions/managedtransactions/jdbc/SqlText$Lexing", "runsCommentsUpTo", "()I"⟩ : MethodName)) (z := (⟨"com/example/managed_transactions/managedtransactions/jdbc/SqlText$Lexing", "runsCommentsUpTo", "()I"⟩ : MethodName)) hown (mvT hZ (hw _ (List.mem_of_getElem? (i := 49) rfl))) (mvT hZ (hw _ (List.mem_of_getElem? (i := 50) rfl))) (notFace_of_selects (args := #[]) (mvT hZ (hw _ (List.mem_of_getElem? (i := 52) rfl)))) (mvT hZ (hw _ (List.mem_of_getElem? (i := 52) rfl))) (mvT hZ (hw _ (List.mem_of_getElem? (i := 51) rfl))) (by decide) (backOf (W := 0) (rm9 l Z a0 hw [] b_1 p1 T1.heap n0 Z2 r1_6) hZ (hw _ (List.mem_of_getElem? (i := 53) rfl)) (hw _ (List.mem_of_getElem? (i := 2) rfl)) (by decide) (by decide)) q7a q7c (g := (mkF m 101 #[.val (.int p1), .val (.int p2), .val (.int (0 : Int32)), .val (.ref b_1), .val (.int (1 : Int32))] [(.ref b_1)])) rfl (by rw [hml]; rfl) (Steps.refl _) (argsL := []) (rest := []) (lenOf pd_4 rfl) rfl (by show 2 * 0 + _ ≤ _; exact Nat.le_of_eq rfl) (hb hby at_101) (fun _ _ => ⟨rfl, eh6, (by decide : 1 + 0 ≤ _), (by decide : 6 + 0 ≤ _)⟩)
    dsimp only [Pt.U, Pt.locs, Pt.cells, Pt.slots] at X7 l7 y7 z7 st7 hQ7
    subst l7 y7 z7
    obtain ⟨rfl, Nq7, eh7⟩ := hQ7
    have N7 := Fr.app N6 Nq7
    refine Go.step (T' := T7) (f' := (mkF m 104 #[.val (.int p1), .val (.int p2), .val (.int (0 : Int32)), .val (.ref b_1), .val (.int (1 : Int32))] [(.int p1)])) (fun _ k => st7.trans k) ?_
    refine Go.step (T' := T7) (f' := (mkF m 105 #[.val (.int p1), .val (.int p2), .val (.int (0 : Int32)), .val (.ref b_1), .val (.int (1 : Int32))] [(.int p1), (.int p1)])) (fun _ k => XS.iloadN X7.here hx rfl (hb hby at_104) rfl k) ?_
    refine Go.step (T' := T7) (f' := (mkF m 108 #[.val (.int p1), .val (.int p2), .val (.int (0 : Int32)), .val (.ref b_1), .val (.int (1 : Int32))] [])) (fun _ k => XS.icmpNo X7.here hx rfl (hb hby at_105) rfl (teq (rfl : p1 = p1)).2 k) ?_
    refine Go.step (T' := T7) (f' := (mkF m 109 #[.val (.int p1), .val (.int p2), .val (.int (0 : Int32)), .val (.ref b_1), .val (.int (1 : Int32))] [(.int (1 : Int32))])) (fun _ k => XS.iconst X7.here hx rfl (hb hby at_108) k) ?_
    refine Go.step (T' := T7) (f' := (mkF m 113 #[.val (.int p1), .val (.int p2), .val (.int (0 : Int32)), .val (.ref b_1), .val (.int (1 : Int32))] [(.int (1 : Int32))])) (fun _ k => XS.goto X7.here hx rfl (pc0 := 109) (pc' := 113) rfl (hb hby at_109) (by decide) (by decide) k) ?_
    refine Go.step (T' := T7) (f' := (mkF m 115 #[.val (.int p1), .val (.int p2), .val (.int (0 : Int32)), .val (.ref b_1), .val (.int (1 : Int32))] [])) (fun _ k => XS.istore X7.here hx rfl (hb hby at_113) rfl (l' := #[.val (.int p1), .val (.int p2), .val (.int (0 : Int32)), .val (.ref b_1), .val (.int (1 : Int32))]) rfl k) ?_
    refine Go.step (T' := T7) (f' := (mkF m 117 #[.val (.int p1), .val (.int p2), .val (.int (0 : Int32)), .val (.ref b_1), .val (.int (1 : Int32))] [(.int (1 : Int32))])) (fun _ k => XS.iload X7.here hx rfl (hb hby at_115) rfl k) ?_
    refine Go.step (T' := T7) (f' := (mkF m 120 #[.val (.int p1), .val (.int p2), .val (.int (0 : Int32)), .val (.ref b_1), .val (.int (1 : Int32))] [])) (fun _ k => XS.ifNo X7.here hx rfl (hb hby at_117) rfl ((if0 _ _).trans (feq (by decide : ¬ ((1 : Int32) = (0 : Int32)))).1) k) ?_
    refine Go.step (T' := T7) (f' := (mkF m 121 #[.val (.int p1), .val (.int p2), .val (.int (0 : Int32)), .val (.ref b_1), .val (.int (1 : Int32))] [(.ref b_1)])) (fun _ k => XS.aloadN X7.here hx rfl (hb hby at_120) rfl rfl k) ?_
    obtain ⟨cq8, kq8, q8a, q8b, q8c⟩ := isOf hZ eh7 r1_1
    obtain ⟨_, _, ⟨T8, L8, k8, n8⟩, -, X8, ⟨Lc8, hQ8, l8, y8, z8⟩, st8⟩ := X7.virtualBack hx (y := (⟨"com/example/managed_transactions/managedtransactions/jdbc/SqlText$Lexing", "backslashEscapes", "()Z"⟩ : MethodName)) (z := (⟨"com/example/managed_transactions/managedtransactions/jdbc/SqlText$Lexing", "backslashEscapes", "()Z"⟩ : MethodName)) hown (mvT hZ (hw _ (List.mem_of_getElem? (i := 54) rfl))) (mvT hZ (hw _ (List.mem_of_getElem? (i := 55) rfl))) (notFace_of_selects (args := #[]) (mvT hZ (hw _ (List.mem_of_getElem? (i := 57) rfl)))) (mvT hZ (hw _ (List.mem_of_getElem? (i := 57) rfl))) (mvT hZ (hw _ (List.mem_of_getElem? (i := 56) rfl))) (by decide) (backOf (W := 0) (rm10 l Z a0 hw [] b_1 (0 : Int32) T1.heap n0 Z2 r1_7 (Or.inl rfl)) hZ (hw _ (List.mem_of_getElem? (i := 58) rfl)) (hw _ (List.mem_of_getElem? (i := 2) rfl)) (by decide) (by decide)) q8a q8c (g := (mkF m 121 #[.val (.int p1), .val (.int p2), .val (.int (0 : Int32)), .val (.ref b_1), .val (.int (1 : Int32))] [(.ref b_1)])) rfl (by rw [hml]; rfl) (Steps.refl _) (argsL := []) (rest := []) (lenOf pd_3 rfl) rfl (by show 2 * 0 + _ ≤ _; exact Nat.le_of_eq rfl) (hb hby at_121) (fun _ _ => ⟨rfl, eh7, (by decide : 1 + 0 ≤ _), (by decide : 6 + 0 ≤ _)⟩)
    dsimp only [Pt.U, Pt.locs, Pt.cells, Pt.slots] at X8 l8 y8 z8 st8 hQ8
    subst l8 y8 z8
    obtain ⟨rfl, Nq8, eh8⟩ := hQ8
    have N8 := Fr.app N7 Nq8
    refine Go.step (T' := T8) (f' := (mkF m 124 #[.val (.int p1), .val (.int p2), .val (.int (0 : Int32)), .val (.ref b_1), .val (.int (1 : Int32))] [(.int (0 : Int32))])) (fun _ k => st8.trans k) ?_
    refine Go.step (T' := T8) (f' := (mkF m 125 #[.val (.int p1), .val (.int p2), .val (.int (0 : Int32)), .val (.ref b_1), .val (.int (1 : Int32))] [(.int (0 : Int32)), (.int (0 : Int32))])) (fun _ k => XS.iloadN X8.here hx rfl (hb hby at_124) rfl k) ?_
    refine Go.step (T' := T8) (f' := (mkF m 128 #[.val (.int p1), .val (.int p2), .val (.int (0 : Int32)), .val (.ref b_1), .val (.int (1 : Int32))] [])) (fun _ k => XS.icmpNo X8.here hx rfl (hb hby at_125) rfl (teq (by decide : (0 : Int32) = (0 : Int32))).2 k) ?_
    refine Go.step (T' := T8) (f' := (mkF m 129 #[.val (.int p1), .val (.int p2), .val (.int (0 : Int32)), .val (.ref b_1), .val (.int (1 : Int32))] [(.int (1 : Int32))])) (fun _ k => XS.iconst X8.here hx rfl (hb hby at_128) k) ?_
    refine Go.step (T' := T8) (f' := (mkF m 133 #[.val (.int p1), .val (.int p2), .val (.int (0 : Int32)), .val (.ref b_1), .val (.int (1 : Int32))] [(.int (1 : Int32))])) (fun _ k => XS.goto X8.here hx rfl (pc0 := 129) (pc' := 133) rfl (hb hby at_129) (by decide) (by decide) k) ?_
    refine Go.step (T' := T8) (f' := (mkF m 135 #[.val (.int p1), .val (.int p2), .val (.int (0 : Int32)), .val (.ref b_1), .val (.int (1 : Int32))] [])) (fun _ k => XS.istore X8.here hx rfl (hb hby at_133) rfl (l' := #[.val (.int p1), .val (.int p2), .val (.int (0 : Int32)), .val (.ref b_1), .val (.int (1 : Int32))]) rfl k) ?_
    refine Go.step (T' := T8) (f' := (mkF m 137 #[.val (.int p1), .val (.int p2), .val (.int (0 : Int32)), .val (.ref b_1), .val (.int (1 : Int32))] [(.int (1 : Int32))])) (fun _ k => XS.iload X8.here hx rfl (hb hby at_135) rfl k) ?_
    refine goN X8 hx (t := .boolean) Bd.returns (by simp) Bd.notSynchronized (hb hby at_137) ?_ (by decide) (by decide)
    show Q_rm0 Z p1 p2 h0 n0 _ T8.heap _
    rw [eh8]
    exact ⟨rfl, N8⟩
  · refine Go.step (T' := s₁) (f' := (mkF m 6 #[.val (.int p1), .val (.int p2), .unset, .unset, .unset] [])) (fun _ k => XS.ifNo X0.here hx rfl (hb hby at_3) rfl ((if0 _ _).trans (feq hc3).1) k) ?_
    refine Go.step (T' := s₁) (f' := (mkF m 7 #[.val (.int p1), .val (.int p2), .unset, .unset, .unset] [(.int (1 : Int32))])) (fun _ k => XS.iconst X0.here hx rfl (hb hby at_6) k) ?_
    refine Go.step (T' := s₁) (f' := (mkF m 11 #[.val (.int p1), .val (.int p2), .unset, .unset, .unset] [(.int (1 : Int32))])) (fun _ k => XS.goto X0.here hx rfl (pc0 := 7) (pc' := 11) rfl (hb hby at_7) (by decide) (by decide) k) ?_
    refine Go.step (T' := s₁) (f' := (mkF m 12 #[.val (.int p1), .val (.int p2), .val (.int (1 : Int32)), .unset, .unset] [])) (fun _ k => XS.istoreN X0.here hx rfl (hb hby at_11) rfl (l' := #[.val (.int p1), .val (.int p2), .val (.int (1 : Int32)), .unset, .unset]) rfl k) ?_
    refine Go.step (T' := s₁) (f' := (mkF m 13 #[.val (.int p1), .val (.int p2), .val (.int (1 : Int32)), .unset, .unset] [(.int p1)])) (fun _ k => XS.iloadN X0.here hx rfl (hb hby at_12) rfl k) ?_
    refine Go.step (T' := s₁) (f' := (mkF m 14 #[.val (.int p1), .val (.int p2), .val (.int (1 : Int32)), .unset, .unset] [(.int (1 : Int32)), (.int p1)])) (fun _ k => XS.iloadN X0.here hx rfl (hb hby at_13) rfl k) ?_
    obtain ⟨_, _, ⟨T9, L9, k9, n9⟩, -, X9, ⟨Lc9, hQ9, l9, y9, z9⟩, st9⟩ := Jvm.LawKit.callS X0 hx (y := (⟨"com/example/managed_transactions/managedtransactions/jdbc/SqlText$Lexing", "mariadb", "(IZ)Lcom/example/managed_transactions/managedtransactions/jdbc/SqlText$Lexing;"⟩ : MethodName)) hown (mvT hZ (hw _ (List.mem_of_getElem? (i := 0) rfl))) (mvT hZ (hw _ (List.mem_of_getElem? (i := 1) rfl))) (mvT hZ (hw _ (List.mem_of_getElem? (i := 2) rfl))) (mvT hZ (hw _ (List.mem_of_getElem? (i := 3) rfl))) (by decide) (backOf (W := 0) (rm1 l Z a0 hw [] p1 (1 : Int32) h0 n0 Z0 (Or.inr rfl)) hZ (hw _ (List.mem_of_getElem? (i := 3) rfl)) (hw _ (List.mem_of_getElem? (i := 2) rfl)) (by decide) (by decide)) (g := (mkF m 14 #[.val (.int p1), .val (.int p2), .val (.int (1 : Int32)), .unset, .unset] [(.int (1 : Int32)), (.int p1)])) rfl (by rw [hml]; rfl) (argsL := [(.int p1), (.int (1 : Int32))]) (rest := []) (lenOf pd_2 rfl) rfl (by show 2 * 0 + _ ≤ _; exact Nat.le_of_eq rfl) (hb hby at_14) (fun _ _ => ⟨rfl, e0, (by decide : 0 + 1 ≤ _), (by decide : 0 + 6 ≤ _)⟩)
    dsimp only [Pt.U, Pt.locs, Pt.cells, Pt.slots] at X9 l9 y9 z9 st9 hQ9
    subst l9 y9 z9
    obtain ⟨b_9, rfl, Nq9, Kq9, r9_0, r9_1, r9_2, r9_3, r9_4, r9_5, r9_6, r9_7⟩ := hQ9
    have N9 := Fr.app N0 Nq9
    have g_b_9 : n0 ≤ b_9 := Nat.le_trans Z0 r9_0
    have Z10 : n0 ≤ T9.heap.size := Nat.le_trans Z0 Kq9.1
    refine Go.step (T' := T9) (f' := (mkF m 17 #[.val (.int p1), .val (.int p2), .val (.int (1 : Int32)), .unset, .unset] [(.ref b_9)])) st9 ?_
    refine Go.step (T' := T9) (f' := (mkF m 18 #[.val (.int p1), .val (.int p2), .val (.int (1 : Int32)), .val (.ref b_9), .unset] [])) (fun _ k => XS.astoreN X9.here hx rfl (hb hby at_17) rfl rfl (l' := #[.val (.int p1), .val (.int p2), .val (.int (1 : Int32)), .val (.ref b_9), .unset]) rfl k) ?_
    refine Go.step (T' := T9) (f' := (mkF m 19 #[.val (.int p1), .val (.int p2), .val (.int (1 : Int32)), .val (.ref b_9), .unset] [(.ref b_9)])) (fun _ k => XS.aloadN X9.here hx rfl (hb hby at_18) rfl rfl k) ?_
    refine Go.step (T' := T9) (f' := (mkF m 24 #[.val (.int p1), .val (.int p2), .val (.int (1 : Int32)), .val (.ref b_9), .unset] [])) (fun _ k => XS.ifnonnullYes X9.here hx rfl (pc0 := 19) (pc' := 24) rfl (hb hby at_19) rfl (by decide) (by decide) k) ?_
    refine Go.step (T' := T9) (f' := (mkF m 25 #[.val (.int p1), .val (.int p2), .val (.int (1 : Int32)), .val (.ref b_9), .unset] [(.ref b_9)])) (fun _ k => XS.aloadN X9.here hx rfl (hb hby at_24) rfl rfl k) ?_
    obtain ⟨cq11, kq11, q11a, q11b, q11c⟩ := isOf hZ rfl r9_1
    obtain ⟨_, _, ⟨T11, L11, k11, n11⟩, -, X11, ⟨Lc11, hQ11, l11, y11, z11⟩, st11⟩ := X9.virtualBack hx (y := (⟨"com/example/managed_transactions/managedtransactions/jdbc/SqlText$Lexing", "nestingComments", "()Z"⟩ : MethodName)) (z := (⟨"com/example/managed_transactions/managedtransactions/jdbc/SqlText$Lexing", "nestingComments", "()Z"⟩ : MethodName)) hown (mvT hZ (hw _ (List.mem_of_getElem? (i := 29) rfl))) (mvT hZ (hw _ (List.mem_of_getElem? (i := 30) rfl))) (notFace_of_selects (args := #[]) (mvT hZ (hw _ (List.mem_of_getElem? (i := 32) rfl)))) (mvT hZ (hw _ (List.mem_of_getElem? (i := 32) rfl))) (mvT hZ (hw _ (List.mem_of_getElem? (i := 31) rfl))) (by decide) (backOf (W := 0) (rm5 l Z a0 hw [] b_9 (0 : Int32) T9.heap n0 Z10 r9_2 (Or.inl rfl)) hZ (hw _ (List.mem_of_getElem? (i := 33) rfl)) (hw _ (List.mem_of_getElem? (i := 2) rfl)) (by decide) (by decide)) q11a q11c (g := (mkF m 25 #[.val (.int p1), .val (.int p2), .val (.int (1 : Int32)), .val (.ref b_9), .unset] [(.ref b_9)])) rfl (by rw [hml]; rfl) (Steps.refl _) (argsL := []) (rest := []) (lenOf pd_3 rfl) rfl (by show 2 * 0 + _ ≤ _; exact Nat.le_of_eq rfl) (hb hby at_25) (fun _ _ => ⟨rfl, rfl, (by decide : 1 + 0 ≤ _), (by decide : 6 + 0 ≤ _)⟩)
    dsimp only [Pt.U, Pt.locs, Pt.cells, Pt.slots] at X11 l11 y11 z11 st11 hQ11
    subst l11 y11 z11
    obtain ⟨rfl, Nq11, eh11⟩ := hQ11
    have N11 := Fr.app N9 Nq11
    refine Go.step (T' := T11) (f' := (mkF m 28 #[.val (.int p1), .val (.int p2), .val (.int (1 : Int32)), .val (.ref b_9), .unset] [(.int (0 : Int32))])) (fun _ k => st11.trans k) ?_
    refine Go.step (T' := T11) (f' := (mkF m 31 #[.val (.int p1), .val (.int p2), .val (.int (1 : Int32)), .val (.ref b_9), .unset] [])) (fun _ k => XS.ifNo X11.here hx rfl (hb hby at_28) rfl ((if0 _ _).trans (teq (by decide : (0 : Int32) = (0 : Int32))).2) k) ?_
    refine Go.step (T' := T11) (f' := (mkF m 32 #[.val (.int p1), .val (.int p2), .val (.int (1 : Int32)), .val (.ref b_9), .unset] [(.int (1 : Int32))])) (fun _ k => XS.iconst X11.here hx rfl (hb hby at_31) k) ?_
    refine Go.step (T' := T11) (f' := (mkF m 36 #[.val (.int p1), .val (.int p2), .val (.int (1 : Int32)), .val (.ref b_9), .unset] [(.int (1 : Int32))])) (fun _ k => XS.goto X11.here hx rfl (pc0 := 32) (pc' := 36) rfl (hb hby at_32) (by decide) (by decide) k) ?_
    refine Go.step (T' := T11) (f' := (mkF m 38 #[.val (.int p1), .val (.int p2), .val (.int (1 : Int32)), .val (.ref b_9), .val (.int (1 : Int32))] [])) (fun _ k => XS.istore X11.here hx rfl (hb hby at_36) rfl (l' := #[.val (.int p1), .val (.int p2), .val (.int (1 : Int32)), .val (.ref b_9), .val (.int (1 : Int32))]) rfl k) ?_
    refine Go.step (T' := T11) (f' := (mkF m 40 #[.val (.int p1), .val (.int p2), .val (.int (1 : Int32)), .val (.ref b_9), .val (.int (1 : Int32))] [(.int (1 : Int32))])) (fun _ k => XS.iload X11.here hx rfl (hb hby at_38) rfl k) ?_
    refine Go.step (T' := T11) (f' := (mkF m 43 #[.val (.int p1), .val (.int p2), .val (.int (1 : Int32)), .val (.ref b_9), .val (.int (1 : Int32))] [])) (fun _ k => XS.ifNo X11.here hx rfl (hb hby at_40) rfl ((if0 _ _).trans (feq (by decide : ¬ ((1 : Int32) = (0 : Int32)))).1) k) ?_
    refine Go.step (T' := T11) (f' := (mkF m 44 #[.val (.int p1), .val (.int p2), .val (.int (1 : Int32)), .val (.ref b_9), .val (.int (1 : Int32))] [(.ref b_9)])) (fun _ k => XS.aloadN X11.here hx rfl (hb hby at_43) rfl rfl k) ?_
    obtain ⟨cq12, kq12, q12a, q12b, q12c⟩ := isOf hZ eh11 r9_1
    obtain ⟨_, _, ⟨T12, L12, k12, n12⟩, -, X12, ⟨Lc12, hQ12, l12, y12, z12⟩, st12⟩ := X11.virtualBack hx (y := (⟨"com/example/managed_transactions/managedtransactions/jdbc/SqlText$Lexing", "hashComments", "()Z"⟩ : MethodName)) (z := (⟨"com/example/managed_transactions/managedtransactions/jdbc/SqlText$Lexing", "hashComments", "()Z"⟩ : MethodName)) hown (mvT hZ (hw _ (List.mem_of_getElem? (i := 34) rfl))) (mvT hZ (hw _ (List.mem_of_getElem? (i := 35) rfl))) (notFace_of_selects (args := #[]) (mvT hZ (hw _ (List.mem_of_getElem? (i := 37) rfl)))) (mvT hZ (hw _ (List.mem_of_getElem? (i := 37) rfl))) (mvT hZ (hw _ (List.mem_of_getElem? (i := 36) rfl))) (by decide) (backOf (W := 0) (rm6 l Z a0 hw [] b_9 (1 : Int32) T9.heap n0 Z10 r9_3 (Or.inr rfl)) hZ (hw _ (List.mem_of_getElem? (i := 38) rfl)) (hw _ (List.mem_of_getElem? (i := 2) rfl)) (by decide) (by decide)) q12a q12c (g := (mkF m 44 #[.val (.int p1), .val (.int p2), .val (.int (1 : Int32)), .val (.ref b_9), .val (.int (1 : Int32))] [(.ref b_9)])) rfl (by rw [hml]; rfl) (Steps.refl _) (argsL := []) (rest := []) (lenOf pd_3 rfl) rfl (by show 2 * 0 + _ ≤ _; exact Nat.le_of_eq rfl) (hb hby at_44) (fun _ _ => ⟨rfl, eh11, (by decide : 1 + 0 ≤ _), (by decide : 6 + 0 ≤ _)⟩)
    dsimp only [Pt.U, Pt.locs, Pt.cells, Pt.slots] at X12 l12 y12 z12 st12 hQ12
    subst l12 y12 z12
    obtain ⟨rfl, Nq12, eh12⟩ := hQ12
    have N12 := Fr.app N11 Nq12
    refine Go.step (T' := T12) (f' := (mkF m 47 #[.val (.int p1), .val (.int p2), .val (.int (1 : Int32)), .val (.ref b_9), .val (.int (1 : Int32))] [(.int (1 : Int32))])) (fun _ k => st12.trans k) ?_
    refine Go.step (T' := T12) (f' := (mkF m 50 #[.val (.int p1), .val (.int p2), .val (.int (1 : Int32)), .val (.ref b_9), .val (.int (1 : Int32))] [])) (fun _ k => XS.ifNo X12.here hx rfl (hb hby at_47) rfl ((if0 _ _).trans (feq (by decide : ¬ ((1 : Int32) = (0 : Int32)))).1) k) ?_
    refine Go.step (T' := T12) (f' := (mkF m 51 #[.val (.int p1), .val (.int p2), .val (.int (1 : Int32)), .val (.ref b_9), .val (.int (1 : Int32))] [(.int (1 : Int32))])) (fun _ k => XS.iconst X12.here hx rfl (hb hby at_50) k) ?_
    refine Go.step (T' := T12) (f' := (mkF m 55 #[.val (.int p1), .val (.int p2), .val (.int (1 : Int32)), .val (.ref b_9), .val (.int (1 : Int32))] [(.int (1 : Int32))])) (fun _ k => XS.goto X12.here hx rfl (pc0 := 51) (pc' := 55) rfl (hb hby at_51) (by decide) (by decide) k) ?_
    refine Go.step (T' := T12) (f' := (mkF m 57 #[.val (.int p1), .val (.int p2), .val (.int (1 : Int32)), .val (.ref b_9), .val (.int (1 : Int32))] [])) (fun _ k => XS.istore X12.here hx rfl (hb hby at_55) rfl (l' := #[.val (.int p1), .val (.int p2), .val (.int (1 : Int32)), .val (.ref b_9), .val (.int (1 : Int32))]) rfl k) ?_
    refine Go.step (T' := T12) (f' := (mkF m 59 #[.val (.int p1), .val (.int p2), .val (.int (1 : Int32)), .val (.ref b_9), .val (.int (1 : Int32))] [(.int (1 : Int32))])) (fun _ k => XS.iload X12.here hx rfl (hb hby at_57) rfl k) ?_
    refine Go.step (T' := T12) (f' := (mkF m 62 #[.val (.int p1), .val (.int p2), .val (.int (1 : Int32)), .val (.ref b_9), .val (.int (1 : Int32))] [])) (fun _ k => XS.ifNo X12.here hx rfl (hb hby at_59) rfl ((if0 _ _).trans (feq (by decide : ¬ ((1 : Int32) = (0 : Int32)))).1) k) ?_
    refine Go.step (T' := T12) (f' := (mkF m 63 #[.val (.int p1), .val (.int p2), .val (.int (1 : Int32)), .val (.ref b_9), .val (.int (1 : Int32))] [(.ref b_9)])) (fun _ k => XS.aloadN X12.here hx rfl (hb hby at_62) rfl rfl k) ?_
    obtain ⟨cq13, kq13, q13a, q13b, q13c⟩ := isOf hZ eh12 r9_1
    obtain ⟨_, _, ⟨T13, L13, k13, n13⟩, -, X13, ⟨Lc13, hQ13, l13, y13, z13⟩, st13⟩ := X12.virtualBack hx (y := (⟨"com/example/managed_transactions/managedtransactions/jdbc/SqlText$Lexing", "dashesBeforeSpace", "()Z"⟩ : MethodName)) (z := (⟨"com/example/managed_transactions/managedtransactions/jdbc/SqlText$Lexing", "dashesBeforeSpace", "()Z"⟩ : MethodName)) hown (mvT hZ (hw _ (List.mem_of_getElem? (i := 39) rfl))) (mvT hZ (hw _ (List.mem_of_getElem? (i := 40) rfl))) (notFace_of_selects (args := #[]) (mvT hZ (hw _ (List.mem_of_getElem? (i := 42) rfl)))) (mvT hZ (hw _ (List.mem_of_getElem? (i := 42) rfl))) (mvT hZ (hw _ (List.mem_of_getElem? (i := 41) rfl))) (by decide) (backOf (W := 0) (rm7 l Z a0 hw [] b_9 (1 : Int32) T9.heap n0 Z10 r9_4 (Or.inr rfl)) hZ (hw _ (List.mem_of_getElem? (i := 43) rfl)) (hw _ (List.mem_of_getElem? (i := 2) rfl)) (by decide) (by decide)) q13a q13c (g := (mkF m 63 #[.val (.int p1), .val (.int p2), .val (.int (1 : Int32)), .val (.ref b_9), .val (.int (1 : Int32))] [(.ref b_9)])) rfl (by rw [hml]; rfl) (Steps.refl _) (argsL := []) (rest := []) (lenOf pd_3 rfl) rfl (by show 2 * 0 + _ ≤ _; exact Nat.le_of_eq rfl) (hb hby at_63) (fun _ _ => ⟨rfl, eh12, (by decide : 1 + 0 ≤ _), (by decide : 6 + 0 ≤ _)⟩)
    dsimp only [Pt.U, Pt.locs, Pt.cells, Pt.slots] at X13 l13 y13 z13 st13 hQ13
    subst l13 y13 z13
    obtain ⟨rfl, Nq13, eh13⟩ := hQ13
    have N13 := Fr.app N12 Nq13
    refine Go.step (T' := T13) (f' := (mkF m 66 #[.val (.int p1), .val (.int p2), .val (.int (1 : Int32)), .val (.ref b_9), .val (.int (1 : Int32))] [(.int (1 : Int32))])) (fun _ k => st13.trans k) ?_
    refine Go.step (T' := T13) (f' := (mkF m 69 #[.val (.int p1), .val (.int p2), .val (.int (1 : Int32)), .val (.ref b_9), .val (.int (1 : Int32))] [])) (fun _ k => XS.ifNo X13.here hx rfl (hb hby at_66) rfl ((if0 _ _).trans (feq (by decide : ¬ ((1 : Int32) = (0 : Int32)))).1) k) ?_
    refine Go.step (T' := T13) (f' := (mkF m 70 #[.val (.int p1), .val (.int p2), .val (.int (1 : Int32)), .val (.ref b_9), .val (.int (1 : Int32))] [(.int (1 : Int32))])) (fun _ k => XS.iconst X13.here hx rfl (hb hby at_69) k) ?_
    refine Go.step (T' := T13) (f' := (mkF m 74 #[.val (.int p1), .val (.int p2), .val (.int (1 : Int32)), .val (.ref b_9), .val (.int (1 : Int32))] [(.int (1 : Int32))])) (fun _ k => XS.goto X13.here hx rfl (pc0 := 70) (pc' := 74) rfl (hb hby at_70) (by decide) (by decide) k) ?_
    refine Go.step (T' := T13) (f' := (mkF m 76 #[.val (.int p1), .val (.int p2), .val (.int (1 : Int32)), .val (.ref b_9), .val (.int (1 : Int32))] [])) (fun _ k => XS.istore X13.here hx rfl (hb hby at_74) rfl (l' := #[.val (.int p1), .val (.int p2), .val (.int (1 : Int32)), .val (.ref b_9), .val (.int (1 : Int32))]) rfl k) ?_
    refine Go.step (T' := T13) (f' := (mkF m 78 #[.val (.int p1), .val (.int p2), .val (.int (1 : Int32)), .val (.ref b_9), .val (.int (1 : Int32))] [(.int (1 : Int32))])) (fun _ k => XS.iload X13.here hx rfl (hb hby at_76) rfl k) ?_
    refine Go.step (T' := T13) (f' := (mkF m 81 #[.val (.int p1), .val (.int p2), .val (.int (1 : Int32)), .val (.ref b_9), .val (.int (1 : Int32))] [])) (fun _ k => XS.ifNo X13.here hx rfl (hb hby at_78) rfl ((if0 _ _).trans (feq (by decide : ¬ ((1 : Int32) = (0 : Int32)))).1) k) ?_
    refine Go.step (T' := T13) (f' := (mkF m 82 #[.val (.int p1), .val (.int p2), .val (.int (1 : Int32)), .val (.ref b_9), .val (.int (1 : Int32))] [(.ref b_9)])) (fun _ k => XS.aloadN X13.here hx rfl (hb hby at_81) rfl rfl k) ?_
    obtain ⟨cq14, kq14, q14a, q14b, q14c⟩ := isOf hZ eh13 r9_1
    obtain ⟨_, _, ⟨T14, L14, k14, n14⟩, -, X14, ⟨Lc14, hQ14, l14, y14, z14⟩, st14⟩ := X13.virtualBack hx (y := (⟨"com/example/managed_transactions/managedtransactions/jdbc/SqlText$Lexing", "returnEndsLine", "()Z"⟩ : MethodName)) (z := (⟨"com/example/managed_transactions/managedtransactions/jdbc/SqlText$Lexing", "returnEndsLine", "()Z"⟩ : MethodName)) hown (mvT hZ (hw _ (List.mem_of_getElem? (i := 44) rfl))) (mvT hZ (hw _ (List.mem_of_getElem? (i := 45) rfl))) (notFace_of_selects (args := #[]) (mvT hZ (hw _ (List.mem_of_getElem? (i := 47) rfl)))) (mvT hZ (hw _ (List.mem_of_getElem? (i := 47) rfl))) (mvT hZ (hw _ (List.mem_of_getElem? (i := 46) rfl))) (by decide) (backOf (W := 0) (rm8 l Z a0 hw [] b_9 (0 : Int32) T9.heap n0 Z10 r9_5 (Or.inl rfl)) hZ (hw _ (List.mem_of_getElem? (i := 48) rfl)) (hw _ (List.mem_of_getElem? (i := 2) rfl)) (by decide) (by decide)) q14a q14c (g := (mkF m 82 #[.val (.int p1), .val (.int p2), .val (.int (1 : Int32)), .val (.ref b_9), .val (.int (1 : Int32))] [(.ref b_9)])) rfl (by rw [hml]; rfl) (Steps.refl _) (argsL := []) (rest := []) (lenOf pd_3 rfl) rfl (by show 2 * 0 + _ ≤ _; exact Nat.le_of_eq rfl) (hb hby at_82) (fun _ _ => ⟨rfl, eh13, (by decide : 1 + 0 ≤ _), (by decide : 6 + 0 ≤ _)⟩)
    dsimp only [Pt.U, Pt.locs, Pt.cells, Pt.slots] at X14 l14 y14 z14 st14 hQ14
    subst l14 y14 z14
    obtain ⟨rfl, Nq14, eh14⟩ := hQ14
    have N14 := Fr.app N13 Nq14
    refine Go.step (T' := T14) (f' := (mkF m 85 #[.val (.int p1), .val (.int p2), .val (.int (1 : Int32)), .val (.ref b_9), .val (.int (1 : Int32))] [(.int (0 : Int32))])) (fun _ k => st14.trans k) ?_
    refine Go.step (T' := T14) (f' := (mkF m 88 #[.val (.int p1), .val (.int p2), .val (.int (1 : Int32)), .val (.ref b_9), .val (.int (1 : Int32))] [])) (fun _ k => XS.ifNo X14.here hx rfl (hb hby at_85) rfl ((if0 _ _).trans (teq (by decide : (0 : Int32) = (0 : Int32))).2) k) ?_
    refine Go.step (T' := T14) (f' := (mkF m 89 #[.val (.int p1), .val (.int p2), .val (.int (1 : Int32)), .val (.ref b_9), .val (.int (1 : Int32))] [(.int (1 : Int32))])) (fun _ k => XS.iconst X14.here hx rfl (hb hby at_88) k) ?_
    refine Go.step (T' := T14) (f' := (mkF m 93 #[.val (.int p1), .val (.int p2), .val (.int (1 : Int32)), .val (.ref b_9), .val (.int (1 : Int32))] [(.int (1 : Int32))])) (fun _ k => XS.goto X14.here hx rfl (pc0 := 89) (pc' := 93) rfl (hb hby at_89) (by decide) (by decide) k) ?_
    refine Go.step (T' := T14) (f' := (mkF m 95 #[.val (.int p1), .val (.int p2), .val (.int (1 : Int32)), .val (.ref b_9), .val (.int (1 : Int32))] [])) (fun _ k => XS.istore X14.here hx rfl (hb hby at_93) rfl (l' := #[.val (.int p1), .val (.int p2), .val (.int (1 : Int32)), .val (.ref b_9), .val (.int (1 : Int32))]) rfl k) ?_
    refine Go.step (T' := T14) (f' := (mkF m 97 #[.val (.int p1), .val (.int p2), .val (.int (1 : Int32)), .val (.ref b_9), .val (.int (1 : Int32))] [(.int (1 : Int32))])) (fun _ k => XS.iload X14.here hx rfl (hb hby at_95) rfl k) ?_
    refine Go.step (T' := T14) (f' := (mkF m 100 #[.val (.int p1), .val (.int p2), .val (.int (1 : Int32)), .val (.ref b_9), .val (.int (1 : Int32))] [])) (fun _ k => XS.ifNo X14.here hx rfl (hb hby at_97) rfl ((if0 _ _).trans (feq (by decide : ¬ ((1 : Int32) = (0 : Int32)))).1) k) ?_
    refine Go.step (T' := T14) (f' := (mkF m 101 #[.val (.int p1), .val (.int p2), .val (.int (1 : Int32)), .val (.ref b_9), .val (.int (1 : Int32))] [(.ref b_9)])) (fun _ k => XS.aloadN X14.here hx rfl (hb hby at_100) rfl rfl k) ?_
    obtain ⟨cq15, kq15, q15a, q15b, q15c⟩ := isOf hZ eh14 r9_1
    obtain ⟨_, _, ⟨T15, L15, k15, n15⟩, -, X15, ⟨Lc15, hQ15, l15, y15, z15⟩, st15⟩ := X14.virtualBack hx (y := (⟨"com/example/managed_transactions/managedtransactions/jdbc/SqlText$Lexing", "runsCommentsUpTo", "()I"⟩ : MethodName)) (z := (⟨"com/example/managed_transactions/managedtransactions/jdbc/SqlText$Lexing", "runsCommentsUpTo", "()I"⟩ : MethodName)) hown (mvT hZ (hw _ (List.mem_of_getElem? (i := 49) rfl))) (mvT hZ (hw _ (List.mem_of_getElem? (i := 50) rfl))) (notFace_of_selects (args := #[]) (mvT hZ (hw _ (List.mem_of_getElem? (i := 52) rfl)))) (mvT hZ (hw _ (List.mem_of_getElem? (i := 52) rfl))) (mvT hZ (hw _ (List.mem_of_getElem? (i := 51) rfl))) (by decide) (backOf (W := 0) (rm9 l Z a0 hw [] b_9 p1 T9.heap n0 Z10 r9_6) hZ (hw _ (List.mem_of_getElem? (i := 53) rfl)) (hw _ (List.mem_of_getElem? (i := 2) rfl)) (by decide) (by decide)) q15a q15c (g := (mkF m 101 #[.val (.int p1), .val (.int p2), .val (.int (1 : Int32)), .val (.ref b_9), .val (.int (1 : Int32))] [(.ref b_9)])) rfl (by rw [hml]; rfl) (Steps.refl _) (argsL := []) (rest := []) (lenOf pd_4 rfl) rfl (by show 2 * 0 + _ ≤ _; exact Nat.le_of_eq rfl) (hb hby at_101) (fun _ _ => ⟨rfl, eh14, (by decide : 1 + 0 ≤ _), (by decide : 6 + 0 ≤ _)⟩)
    dsimp only [Pt.U, Pt.locs, Pt.cells, Pt.slots] at X15 l15 y15 z15 st15 hQ15
    subst l15 y15 z15
    obtain ⟨rfl, Nq15, eh15⟩ := hQ15
    have N15 := Fr.app N14 Nq15
    refine Go.step (T' := T15) (f' := (mkF m 104 #[.val (.int p1), .val (.int p2), .val (.int (1 : Int32)), .val (.ref b_9), .val (.int (1 : Int32))] [(.int p1)])) (fun _ k => st15.trans k) ?_
    refine Go.step (T' := T15) (f' := (mkF m 105 #[.val (.int p1), .val (.int p2), .val (.int (1 : Int32)), .val (.ref b_9), .val (.int (1 : Int32))] [(.int p1), (.int p1)])) (fun _ k => XS.iloadN X15.here hx rfl (hb hby at_104) rfl k) ?_
    refine Go.step (T' := T15) (f' := (mkF m 108 #[.val (.int p1), .val (.int p2), .val (.int (1 : Int32)), .val (.ref b_9), .val (.int (1 : Int32))] [])) (fun _ k => XS.icmpNo X15.here hx rfl (hb hby at_105) rfl (teq (rfl : p1 = p1)).2 k) ?_
    refine Go.step (T' := T15) (f' := (mkF m 109 #[.val (.int p1), .val (.int p2), .val (.int (1 : Int32)), .val (.ref b_9), .val (.int (1 : Int32))] [(.int (1 : Int32))])) (fun _ k => XS.iconst X15.here hx rfl (hb hby at_108) k) ?_
    refine Go.step (T' := T15) (f' := (mkF m 113 #[.val (.int p1), .val (.int p2), .val (.int (1 : Int32)), .val (.ref b_9), .val (.int (1 : Int32))] [(.int (1 : Int32))])) (fun _ k => XS.goto X15.here hx rfl (pc0 := 109) (pc' := 113) rfl (hb hby at_109) (by decide) (by decide) k) ?_
    refine Go.step (T' := T15) (f' := (mkF m 115 #[.val (.int p1), .val (.int p2), .val (.int (1 : Int32)), .val (.ref b_9), .val (.int (1 : Int32))] [])) (fun _ k => XS.istore X15.here hx rfl (hb hby at_113) rfl (l' := #[.val (.int p1), .val (.int p2), .val (.int (1 : Int32)), .val (.ref b_9), .val (.int (1 : Int32))]) rfl k) ?_
    refine Go.step (T' := T15) (f' := (mkF m 117 #[.val (.int p1), .val (.int p2), .val (.int (1 : Int32)), .val (.ref b_9), .val (.int (1 : Int32))] [(.int (1 : Int32))])) (fun _ k => XS.iload X15.here hx rfl (hb hby at_115) rfl k) ?_
    refine Go.step (T' := T15) (f' := (mkF m 120 #[.val (.int p1), .val (.int p2), .val (.int (1 : Int32)), .val (.ref b_9), .val (.int (1 : Int32))] [])) (fun _ k => XS.ifNo X15.here hx rfl (hb hby at_117) rfl ((if0 _ _).trans (feq (by decide : ¬ ((1 : Int32) = (0 : Int32)))).1) k) ?_
    refine Go.step (T' := T15) (f' := (mkF m 121 #[.val (.int p1), .val (.int p2), .val (.int (1 : Int32)), .val (.ref b_9), .val (.int (1 : Int32))] [(.ref b_9)])) (fun _ k => XS.aloadN X15.here hx rfl (hb hby at_120) rfl rfl k) ?_
    obtain ⟨cq16, kq16, q16a, q16b, q16c⟩ := isOf hZ eh15 r9_1
    obtain ⟨_, _, ⟨T16, L16, k16, n16⟩, -, X16, ⟨Lc16, hQ16, l16, y16, z16⟩, st16⟩ := X15.virtualBack hx (y := (⟨"com/example/managed_transactions/managedtransactions/jdbc/SqlText$Lexing", "backslashEscapes", "()Z"⟩ : MethodName)) (z := (⟨"com/example/managed_transactions/managedtransactions/jdbc/SqlText$Lexing", "backslashEscapes", "()Z"⟩ : MethodName)) hown (mvT hZ (hw _ (List.mem_of_getElem? (i := 54) rfl))) (mvT hZ (hw _ (List.mem_of_getElem? (i := 55) rfl))) (notFace_of_selects (args := #[]) (mvT hZ (hw _ (List.mem_of_getElem? (i := 57) rfl)))) (mvT hZ (hw _ (List.mem_of_getElem? (i := 57) rfl))) (mvT hZ (hw _ (List.mem_of_getElem? (i := 56) rfl))) (by decide) (backOf (W := 0) (rm10 l Z a0 hw [] b_9 (1 : Int32) T9.heap n0 Z10 r9_7 (Or.inr rfl)) hZ (hw _ (List.mem_of_getElem? (i := 58) rfl)) (hw _ (List.mem_of_getElem? (i := 2) rfl)) (by decide) (by decide)) q16a q16c (g := (mkF m 121 #[.val (.int p1), .val (.int p2), .val (.int (1 : Int32)), .val (.ref b_9), .val (.int (1 : Int32))] [(.ref b_9)])) rfl (by rw [hml]; rfl) (Steps.refl _) (argsL := []) (rest := []) (lenOf pd_3 rfl) rfl (by show 2 * 0 + _ ≤ _; exact Nat.le_of_eq rfl) (hb hby at_121) (fun _ _ => ⟨rfl, eh15, (by decide : 1 + 0 ≤ _), (by decide : 6 + 0 ≤ _)⟩)
    dsimp only [Pt.U, Pt.locs, Pt.cells, Pt.slots] at X16 l16 y16 z16 st16 hQ16
    subst l16 y16 z16
    obtain ⟨rfl, Nq16, eh16⟩ := hQ16
    have N16 := Fr.app N15 Nq16
    refine Go.step (T' := T16) (f' := (mkF m 124 #[.val (.int p1), .val (.int p2), .val (.int (1 : Int32)), .val (.ref b_9), .val (.int (1 : Int32))] [(.int (1 : Int32))])) (fun _ k => st16.trans k) ?_
    refine Go.step (T' := T16) (f' := (mkF m 125 #[.val (.int p1), .val (.int p2), .val (.int (1 : Int32)), .val (.ref b_9), .val (.int (1 : Int32))] [(.int (1 : Int32)), (.int (1 : Int32))])) (fun _ k => XS.iloadN X16.here hx rfl (hb hby at_124) rfl k) ?_
    refine Go.step (T' := T16) (f' := (mkF m 128 #[.val (.int p1), .val (.int p2), .val (.int (1 : Int32)), .val (.ref b_9), .val (.int (1 : Int32))] [])) (fun _ k => XS.icmpNo X16.here hx rfl (hb hby at_125) rfl (teq (by decide : (1 : Int32) = (1 : Int32))).2 k) ?_
    refine Go.step (T' := T16) (f' := (mkF m 129 #[.val (.int p1), .val (.int p2), .val (.int (1 : Int32)), .val (.ref b_9), .val (.int (1 : Int32))] [(.int (1 : Int32))])) (fun _ k => XS.iconst X16.here hx rfl (hb hby at_128) k) ?_
    refine Go.step (T' := T16) (f' := (mkF m 133 #[.val (.int p1), .val (.int p2), .val (.int (1 : Int32)), .val (.ref b_9), .val (.int (1 : Int32))] [(.int (1 : Int32))])) (fun _ k => XS.goto X16.here hx rfl (pc0 := 129) (pc' := 133) rfl (hb hby at_129) (by decide) (by decide) k) ?_
    refine Go.step (T' := T16) (f' := (mkF m 135 #[.val (.int p1), .val (.int p2), .val (.int (1 : Int32)), .val (.ref b_9), .val (.int (1 : Int32))] [])) (fun _ k => XS.istore X16.here hx rfl (hb hby at_133) rfl (l' := #[.val (.int p1), .val (.int p2), .val (.int (1 : Int32)), .val (.ref b_9), .val (.int (1 : Int32))]) rfl k) ?_
    refine Go.step (T' := T16) (f' := (mkF m 137 #[.val (.int p1), .val (.int p2), .val (.int (1 : Int32)), .val (.ref b_9), .val (.int (1 : Int32))] [(.int (1 : Int32))])) (fun _ k => XS.iload X16.here hx rfl (hb hby at_135) rfl k) ?_
    refine goN X16 hx (t := .boolean) Bd.returns (by simp) Bd.notSynchronized (hb hby at_137) ?_ (by decide) (by decide)
    show Q_rm0 Z p1 p2 h0 n0 _ T16.heap _
    rw [eh16]
    exact ⟨rfl, N16⟩
set_option maxRecDepth 65536 in
set_option maxHeartbeats 40000000 in
theorem comes_1 {Post : Tables → Env → Array Value → State → Outcome → State → Prop} (hpost : ∀ tb e args s v u, (limb_1_1.after args s (.returned v) u = true ∧ limb_1_2.after args s (.returned v) u = true ∧ True) → FrameEnd s (.returned v) u (Jvm.fieldLocs frame_1_writes args s ++ Jvm.arrayLocs frame_1_arrays args s ++ Jvm.staticLocs frame_1_statics s) 16 128 → Post tb e args s (.returned v) u) :
    ArmFor flags0 classFile x code maxLocals ret World_1 tables_1 room_1 Calls_1 rest_1 Pre_1 Post := by
  intro l hfl _ _ p e ha hc hk s m args below hf hA hF happ hP
  obtain ⟨hcalls, hrest, hpre⟩ := hP
  obtain ⟨-, -, -, hnamed, -, -, -, hat⟩ := (Spec.applies_iff hf).mp happ
  obtain ⟨hg, hn⟩ := and_e (Cond.before_iff.mp (show (Jvm.Cond.and given_1 narrow_1).before args s = true from hpre))
  obtain ⟨g1, g2⟩ := and_e hg
  obtain ⟨g3, g4⟩ := and_e g2
  obtain ⟨w0, w1, rfl⟩ : ∃ w0 w1 : Value, args = #[w0, w1] := by
    have hs : args.size = 2 := by simpa [Cond.value, given_1] using g1
    obtain ⟨L⟩ := args
    match L, hs with
    | [w0, w1], _ => exact ⟨w0, w1, rfl⟩
  have hw := fun d (hd : d ∈ tables_1) => atoms_spec (ws := Jvm.Cond.code x code maxLocals ret :: tables_1) hat d (List.mem_cons_of_mem _ hd)
  have hfit : Fit s := fun {y c} hc i hi => by
    obtain ⟨ha, rfl⟩ := Array.getElem?_eq_some_iff.mp hc
    have q := List.all_eq_true.mp ((Array.all_eq_true_iff_forall_mem.mp hF) _ (Array.getElem_mem ha)) i (List.mem_range.mpr hi)
    simpa [Array.getElem?_eq_getElem hi] using q
  obtain ⟨i0, ei0⟩ := is_v g3
  obtain rfl : w0 = (.int i0) := Option.some.inj ei0
  obtain ⟨i1, ei1⟩ := is_v g4
  obtain rfl : w1 = (.int i1) := Option.some.inj ei1
  obtain ⟨n, o, h1, h2, h3, _, L, rfl, ⟨rfl, N⟩, hq⟩ := rm0 l s _ hw tables_1 i0 i1 s.heap s.heap.size (Nat.le_refl _)  p e ha hc hk s m _ below hf ((Spec.applies_iff_loose hf).mp happ).1 ⟨rfl, State.Warmed39.refl s, rfl⟩ trivial
  refine ⟨n, _, h1, h2, h3, hpost _ _ _ _ _ _ ⟨Cond.after_iff.mpr rfl, Cond.after_iff.mpr (eq_i res_at (Term.int_eval (1)) rfl), trivial⟩ ⟨hq.1, hq.2.1, (hq.2.2.sift fun y hy => Or.inr (N y hy)).mono (by decide) (by decide)⟩⟩
theorem main_1_1 : Claimed_1_1 := comes_1 fun _ _ _ _ _ _ h hF => ⟨h.1, hF⟩
theorem main_1_2 : Claimed_1_2 := comes_1 fun _ _ _ _ _ _ h hF => ⟨h.2.1, hF⟩
end Jvm.Pilot.@@N@@
namespace Jvm.Pilot.@@N@@
open Jvm Jvm.ClassFile Sem Op Lib Jvm.Free Jvm.Stand Jvm.Pilot.@@N@@.Jvm.D
/-! MADE BY PROGRAM (witnessworld.py) out of the Statement's table words and the real class files: 10 classes; the members and pool entries that the words name. The judged class is class 1, her method 1. -/
namespace start1
open Jvm.ClassFile
def u (s : String) : CpInfo := .utf8 (stringToUtf16 s)
/-- a pool by its gaps: so many unusable entries, then the entry; so many at the end -/
def gap : Nat → List CpInfo → List CpInfo
  | 0, r => r
  | n + 1, r => .unusable :: gap n r
def poolList (es : List (Nat × CpInfo)) (last : Nat) : List CpInfo := es.foldr (fun e r => gap e.1 (e.2 :: r)) (gap last [])
def pool (es : List (Nat × CpInfo)) (last : Nat) : Array CpInfo := ⟨poolList es last⟩
def fileOf (pool : Array CpInfo) (this : Nat) (attrs : Array Attribute := #[]) (ms : Array MethodInfo := #[]) (fl : Nat := 33) (sup : Nat := 0) (ifs : Array Nat := #[]) (fds : Array FieldInfo := #[]) : ClassFile where
  minorVersion := 0
  majorVersion := 65
  constantPool := pool
  accessFlags := fl
  thisClass := this
  superClass := sup
  interfaces := ifs
  fields := fds
  methods := ms
  attributes := attrs
def plain (name : String) (sup : Option ClassId) : Class where
  name := name
  kind := .ordinary
  loader := none
  accessFlags := 33
  super := sup
  interfaces := #[]
  cf := none
  fields := #[]
  methods := #[]
  instanceTypes := #[]
  staticTypes := #[]
  resolved := #[]
  callSites := []
  init := .initialized
  statics := none
  mirror := none

def pool0 : Array CpInfo := pool [(5, u "<init>"), (0, u "()V"), (1, .class_ 10), (1, u "java/lang/Object")] 113

def k0c0 : Code := { maxStack := 0, maxLocals := 1, code := object_method_1_code, exceptionTable := #[], attributes := #[] }
def k0m0 : Method := { name := "<init>", desc := "()V", sig := { parameters := [], returnType := none }, accessFlags := 1, code := some k0c0 }
/-- java/lang/Object -/
def k0 : Class := { plain "java/lang/Object" none with
  accessFlags := 33
  interfaces := #[]
  cf := some (fileOf pool0 8 #[] #[{ accessFlags := 1, nameIndex := 5, descriptorIndex := 6, attributes := #[] }] 33 0 #[] #[])
  fields := #[]
  methods := #[k0m0]
  instanceTypes := #[]
  staticTypes := #[]
  resolved := Array.replicate 124 none
  statics := none }

def pool1 : Array CpInfo := pool [(2, .class_ 4), (1, u "java/lang/Object"), (0, u "<init>"), (0, u "()V"), (0, .methodref 8 9), (0, .class_ 10), (0, .nameAndType 11 12), (0, u "com/example/managed_transactions/managedtransactions/jdbc/SqlText$Lexing"), (0, u "mariadb"), (0, u "(IZ)Lcom/example/managed_transactions/managedtransactions/jdbc/SqlText$Lexing;"), (0, .methodref 8 14), (0, .nameAndType 15 16), (0, u "nestingComments"), (0, u "()Z"), (0, .methodref 8 18), (0, .nameAndType 19 16), (0, u "hashComments"), (0, .methodref 8 21), (0, .nameAndType 22 16), (0, u "dashesBeforeSpace"), (0, .methodref 8 24), (0, .nameAndType 25 16), (0, u "returnEndsLine"), (0, .methodref 8 27), (0, .nameAndType 28 29), (0, u "runsCommentsUpTo"), (0, u "()I"), (0, .methodref 8 31), (0, .nameAndType 32 16), (0, u "backslashEscapes"), (0, .class_ 34), (0, u "com/example/managed_transactions/managedtransactions/jdbc/LexingMariadbPinLaw"), (2, u "law"), (0, u "(II)Z")] 7

def k1m0 : Method := { name := "<init>", desc := "()V", sig := { parameters := [], returnType := none }, accessFlags := 2, code := none }
def k1c1 : Code := { maxStack := 2, maxLocals := 5, code := code, exceptionTable := #[], attributes := #[] }
def k1m1 : Method := { name := "law", desc := "(II)Z", sig := { parameters := [.int, .int], returnType := some .boolean }, accessFlags := 9, code := some k1c1 }
/-- com/example/managed_transactions/managedtransactions/jdbc/LexingMariadbPinLaw -/
def k1 : Class := { plain "com/example/managed_transactions/managedtransactions/jdbc/LexingMariadbPinLaw" (some 0) with
  accessFlags := 49
  interfaces := #[]
  cf := some (fileOf pool1 33 #[] #[{ accessFlags := 2, nameIndex := 5, descriptorIndex := 6, attributes := #[] }, { accessFlags := 9, nameIndex := 37, descriptorIndex := 38, attributes := #[] }] 49 2 #[] #[])
  fields := #[]
  methods := #[k1m0, k1m1]
  instanceTypes := #[]
  staticTypes := #[]
  resolved := Array.replicate 46 none
  statics := none }

def pool2 : Array CpInfo := pool [(1, .methodref 2 3), (0, .class_ 4), (0, .nameAndType 5 6), (0, u "java/lang/Object"), (0, u "<init>"), (0, u "()V"), (0, .class_ 8), (0, u "java/lang/Record")] 13

def k2c0 : Code := { maxStack := 1, maxLocals := 1, code := jdk_30_method_1_code, exceptionTable := #[], attributes := #[] }
def k2m0 : Method := { name := "<init>", desc := "()V", sig := { parameters := [], returnType := none }, accessFlags := 4, code := some k2c0 }
/-- java/lang/Record -/
def k2 : Class := { plain "java/lang/Record" (some 0) with
  accessFlags := 1057
  interfaces := #[]
  cf := some (fileOf pool2 7 #[] #[{ accessFlags := 4, nameIndex := 5, descriptorIndex := 6, attributes := #[] }] 1057 2 #[] #[])
  fields := #[]
  methods := #[k2m0]
  instanceTypes := #[]
  staticTypes := #[]
  resolved := Array.replicate 22 none
  statics := none }

def pool3 : Array CpInfo := pool [(1, .methodref 2 3), (0, .class_ 4), (0, .nameAndType 5 6), (0, u "java/lang/Record"), (0, u "<init>"), (0, u "()V"), (0, .fieldref 8 9), (0, .class_ 10), (0, .nameAndType 11 12), (0, u "com/example/managed_transactions/managedtransactions/jdbc/SqlText$Lexing"), (0, u "nestingComments"), (0, u "Z"), (0, .fieldref 8 14), (0, .nameAndType 15 12), (0, u "hashComments"), (0, .fieldref 8 17), (0, .nameAndType 18 12), (0, u "dashesBeforeSpace"), (0, .fieldref 8 20), (0, .nameAndType 21 12), (0, u "returnEndsLine"), (0, .fieldref 8 23), (0, .nameAndType 24 25), (0, u "runsCommentsUpTo"), (0, u "I"), (0, .fieldref 8 27), (0, .nameAndType 28 12), (0, u "backslashEscapes"), (0, .methodref 8 30), (0, .nameAndType 5 31), (0, u "(ZZZZIZ)V"), (14, u "POSTGRESQL"), (0, u "Lcom/example/managed_transactions/managedtransactions/jdbc/SqlText$Lexing;"), (2, u "OTHER"), (3, u "mariadb"), (0, u "(IZ)Lcom/example/managed_transactions/managedtransactions/jdbc/SqlText$Lexing;"), (1, u "()I"), (1, u "()Z"), (4, .class_ 65), (0, u "com/example/managed_transactions/managedtransactions/jdbc/SqlText")] 24

def k3c0 : Code := { maxStack := 2, maxLocals := 7, code := prog_7_method_1_code, exceptionTable := #[], attributes := #[] }
def k3m0 : Method := { name := "<init>", desc := "(ZZZZIZ)V", sig := { parameters := [.boolean, .boolean, .boolean, .boolean, .int, .boolean], returnType := none }, accessFlags := 0, code := some k3c0 }
def k3c1 : Code := { maxStack := 8, maxLocals := 2, code := prog_7_method_2_code, exceptionTable := #[], attributes := #[] }
def k3m1 : Method := { name := "mariadb", desc := "(IZ)Lcom/example/managed_transactions/managedtransactions/jdbc/SqlText$Lexing;", sig := { parameters := [.int, .boolean], returnType := some (.object "com/example/managed_transactions/managedtransactions/jdbc/SqlText$Lexing") }, accessFlags := 8, code := some k3c1 }
def k3c2 : Code := { maxStack := 1, maxLocals := 1, code := prog_7_method_6_code, exceptionTable := #[], attributes := #[] }
def k3m2 : Method := { name := "nestingComments", desc := "()Z", sig := { parameters := [], returnType := some .boolean }, accessFlags := 1, code := some k3c2 }
def k3c3 : Code := { maxStack := 1, maxLocals := 1, code := prog_7_method_7_code, exceptionTable := #[], attributes := #[] }
def k3m3 : Method := { name := "hashComments", desc := "()Z", sig := { parameters := [], returnType := some .boolean }, accessFlags := 1, code := some k3c3 }
def k3c4 : Code := { maxStack := 1, maxLocals := 1, code := prog_7_method_8_code, exceptionTable := #[], attributes := #[] }
def k3m4 : Method := { name := "dashesBeforeSpace", desc := "()Z", sig := { parameters := [], returnType := some .boolean }, accessFlags := 1, code := some k3c4 }
def k3c5 : Code := { maxStack := 1, maxLocals := 1, code := prog_7_method_9_code, exceptionTable := #[], attributes := #[] }
def k3m5 : Method := { name := "returnEndsLine", desc := "()Z", sig := { parameters := [], returnType := some .boolean }, accessFlags := 1, code := some k3c5 }
def k3c6 : Code := { maxStack := 1, maxLocals := 1, code := prog_7_method_10_code, exceptionTable := #[], attributes := #[] }
def k3m6 : Method := { name := "runsCommentsUpTo", desc := "()I", sig := { parameters := [], returnType := some .int }, accessFlags := 1, code := some k3c6 }
def k3c7 : Code := { maxStack := 1, maxLocals := 1, code := prog_7_method_11_code, exceptionTable := #[], attributes := #[] }
def k3m7 : Method := { name := "backslashEscapes", desc := "()Z", sig := { parameters := [], returnType := some .boolean }, accessFlags := 1, code := some k3c7 }
/-- com/example/managed_transactions/managedtransactions/jdbc/SqlText$Lexing -/
def k3 : Class := { plain "com/example/managed_transactions/managedtransactions/jdbc/SqlText$Lexing" (some 2) with
  accessFlags := 48
  interfaces := #[]
  cf := some (fileOf pool3 8 #[.nestHost 64] #[{ accessFlags := 0, nameIndex := 5, descriptorIndex := 31, attributes := #[] }, { accessFlags := 8, nameIndex := 54, descriptorIndex := 55, attributes := #[] }, { accessFlags := 1, nameIndex := 11, descriptorIndex := 59, attributes := #[] }, { accessFlags := 1, nameIndex := 15, descriptorIndex := 59, attributes := #[] }, { accessFlags := 1, nameIndex := 18, descriptorIndex := 59, attributes := #[] }, { accessFlags := 1, nameIndex := 21, descriptorIndex := 59, attributes := #[] }, { accessFlags := 1, nameIndex := 24, descriptorIndex := 57, attributes := #[] }, { accessFlags := 1, nameIndex := 28, descriptorIndex := 59, attributes := #[] }] 48 2 #[] #[{ accessFlags := 18, nameIndex := 11, descriptorIndex := 12, attributes := #[] }, { accessFlags := 18, nameIndex := 15, descriptorIndex := 12, attributes := #[] }, { accessFlags := 18, nameIndex := 18, descriptorIndex := 12, attributes := #[] }, { accessFlags := 18, nameIndex := 21, descriptorIndex := 12, attributes := #[] }, { accessFlags := 18, nameIndex := 24, descriptorIndex := 25, attributes := #[] }, { accessFlags := 18, nameIndex := 28, descriptorIndex := 12, attributes := #[] }, { accessFlags := 24, nameIndex := 46, descriptorIndex := 47, attributes := #[] }, { accessFlags := 24, nameIndex := 50, descriptorIndex := 47, attributes := #[] }])
  fields := #[{ name := "nestingComments", type := .boolean, accessFlags := 18, slot := 0, constantValue := 0 }, { name := "hashComments", type := .boolean, accessFlags := 18, slot := 1, constantValue := 0 }, { name := "dashesBeforeSpace", type := .boolean, accessFlags := 18, slot := 2, constantValue := 0 }, { name := "returnEndsLine", type := .boolean, accessFlags := 18, slot := 3, constantValue := 0 }, { name := "runsCommentsUpTo", type := .int, accessFlags := 18, slot := 4, constantValue := 0 }, { name := "backslashEscapes", type := .boolean, accessFlags := 18, slot := 5, constantValue := 0 }, { name := "POSTGRESQL", type := (.object "com/example/managed_transactions/managedtransactions/jdbc/SqlText$Lexing"), accessFlags := 24, slot := 0, constantValue := 0 }, { name := "OTHER", type := (.object "com/example/managed_transactions/managedtransactions/jdbc/SqlText$Lexing"), accessFlags := 24, slot := 1, constantValue := 0 }]
  methods := #[k3m0, k3m1, k3m2, k3m3, k3m4, k3m5, k3m6, k3m7]
  instanceTypes := #[.boolean, .boolean, .boolean, .boolean, .int, .boolean]
  staticTypes := #[(.object "com/example/managed_transactions/managedtransactions/jdbc/SqlText$Lexing"), (.object "com/example/managed_transactions/managedtransactions/jdbc/SqlText$Lexing")]
  resolved := Array.replicate 90 none
  statics := none }

def pool4 : Array CpInfo := pool [(1, u "java/lang/Cloneable"), (0, .class_ 1), (0, u "java/lang/Object"), (0, .class_ 3)] 3

/-- java/lang/Cloneable -/
def k4 : Class := { plain "java/lang/Cloneable" (some 0) with
  accessFlags := 1537
  interfaces := #[]
  cf := some (fileOf pool4 2 #[] #[] 1537 4 #[] #[])
  fields := #[]
  methods := #[]
  instanceTypes := #[]
  staticTypes := #[]
  resolved := Array.replicate 8 none
  statics := none }

def pool5 : Array CpInfo := pool [(1, u "java/io/Serializable"), (0, .class_ 1), (0, u "java/lang/Object"), (0, .class_ 3)] 3

/-- java/io/Serializable -/
def k5 : Class := { plain "java/io/Serializable" (some 0) with
  accessFlags := 1537
  interfaces := #[]
  cf := some (fileOf pool5 2 #[] #[] 1537 4 #[] #[])
  fields := #[]
  methods := #[]
  instanceTypes := #[]
  staticTypes := #[]
  resolved := Array.replicate 8 none
  statics := none }

/-- the primitive byte -/
def k6 : Class := { plain "byte" none with kind := .primitive 'B', accessFlags := 0x411 }
/-- [B -/
def k7 : Class := { plain "[B" (some 0) with kind := .array 6 .byte, interfaces := #[4, 5], accessFlags := 1041 }

/-- the primitive int -/
def k8 : Class := { plain "int" none with kind := .primitive 'I', accessFlags := 0x411 }
/-- [I -/
def k9 : Class := { plain "[I" (some 0) with kind := .array 8 .int, interfaces := #[4, 5], accessFlags := 1041 }

def heap : Heap := #[]
def classes : Array Class := #[k0, k1, k2, k3, k4, k5, k6, k7, k8, k9]
def interned : List (Array UInt16 × Addr) := []
def slotsUsed : Nat := 0
def theMethod : MethodId := ⟨1, 1⟩
def args0 : Array Value := #[.int 5, .int 7]
def aboutOver (below : List Frame) : State where
  vm := { classes := classes, interned := interned.toArray }
  heap := heap
  slotsUsed := slotsUsed
  threads := #[{ frames := .invoking theMethod args0 :: below }]
def below0 : List Frame := [.native { method := ⟨0, 0⟩, args := #[] }]
def about1 : State := aboutOver below0
def p0 : Program := .bare "" "" ""
def e0 : Env := launch0.env 0 0 0
theorem w_frames : about1.frames = Frame.invoking theMethod args0 :: below0 := rfl
set_option maxRecDepth 65536 in
theorem w_args : argsFit about1.vm theMethod args0 = true := by decide +kernel
set_option maxRecDepth 65536 in
theorem w_heap : heapFits about1 = true := by decide +kernel
set_option maxRecDepth 65536 in
theorem w_runnable : about1.curStatus? = some .runnable := by decide +kernel
set_option maxRecDepth 65536 in
theorem w_alone : about1.alone = true := by decide +kernel
set_option maxRecDepth 65536 in
theorem w_named : about1.methodNamed? x = some theMethod := by decide +kernel
set_option maxRecDepth 65536 in
theorem w_hears : about1.hears theMethod below0 = true := by decide +kernel
set_option maxRecDepth 65536 in
theorem w_ripe : about1.ripe theMethod args0 below0 = true := by decide +kernel
theorem w_running : about1.status = .running := rfl
set_option maxRecDepth 65536 in
theorem w_room : about1.hasRoom e0.platform room_1 = true :=
  launch0.hasRoom_least _ room_1 (by decide +kernel) (by decide +kernel) (by decide +kernel) (by decide +kernel) (by decide +kernel) (by decide +kernel)
theorem allAtoms_all (ts : List Jvm.Cond) (a : Array Jvm.Value) (st : Jvm.State) : (allAtoms ts).before a st = ts.all (fun c => c.before a st) := by
  induction ts with
  | nil => rfl
  | cons c t ih =>
    show (Jvm.Cond.and c (allAtoms t)).before a st = _
    rw [Jvm.Cond.before_and, ih, List.all_cons]
def words1 : List Jvm.Cond := Jvm.Cond.code x code maxLocals ret :: tables_1
/-- a 'code' word, met by the world's own term for the bytes: nothing is compared byte by byte -/
theorem code_word {y : MethodName} {bytes : ByteArray} {mx : Nat} {rt : Option FieldType} {a : Array Value} {s : State} {m : MethodId} {meth : Method} {c : Code} (h1 : s.methodNamed? y = some m) (h2 : s.vm.method? m = some meth) (h3 : meth.code = some c) (h4 : c.code = bytes)
    (h5 : (c.maxLocals == mx && c.exceptionTable.isEmpty && decide (c.maxStack ≤ mostOperands) && decide (meth.sig.returnType = rt) && !meth.locks && decide (parseMethodDescriptor y.desc = some meth.sig)) = true) : (Jvm.Cond.code y bytes mx rt).before a s = true := by
  simp only [Bool.and_eq_true, beq_iff_eq, Bool.not_eq_true', decide_eq_true_eq] at h5
  obtain ⟨⟨⟨⟨⟨g1, g2⟩, g3⟩, g4⟩, g5⟩, g6⟩ := h5
  simp [Cond.before, Cond.holds, Cond.value, h1, h2, h3, h4, g1, g2, g3, g4, g5, g6]
def isCode : Jvm.Cond → Bool
  | .code _ _ _ _ => true
  | _ => false
theorem all_split {L : List Jvm.Cond} {P : Jvm.Cond → Bool} (h1 : L.all (fun c => isCode c || P c) = true) (h2 : ∀ c ∈ L.filter isCode, P c = true) : L.all P = true := by
  refine List.all_eq_true.mpr fun c hc => ?_
  have h := List.all_eq_true.mp h1 c hc
  rcases Bool.eq_false_or_eq_true (isCode c) with hi | hi
  · exact h2 c (List.mem_filter.mpr ⟨hc, hi⟩)
  · simpa [hi] using h
set_option maxRecDepth 65536 in
theorem w_c0 : (Jvm.Cond.code x code maxLocals ret).before args0 about1 = true := code_word (m := ⟨1, 1⟩) (meth := k1m1) (c := k1c1) (by decide +kernel) rfl rfl rfl (by decide +kernel)
set_option maxRecDepth 65536 in
theorem w_c1 : (Jvm.Cond.code ({ cls := "com/example/managed_transactions/managedtransactions/jdbc/SqlText$Lexing", name := "mariadb", desc := "(IZ)Lcom/example/managed_transactions/managedtransactions/jdbc/SqlText$Lexing;" } : Jvm.MethodName) prog_7_method_2_code (2 : Nat) (Option.some (Jvm.ClassFile.FieldType.object "com/example/managed_transactions/managedtransactions/jdbc/SqlText$Lexing"))).before args0 about1 = true := code_word (m := ⟨3, 1⟩) (meth := k3m1) (c := k3c1) (by decide +kernel) rfl rfl rfl (by decide +kernel)
set_option maxRecDepth 65536 in
theorem w_c2 : (Jvm.Cond.code ({ cls := "com/example/managed_transactions/managedtransactions/jdbc/SqlText$Lexing", name := "<init>", desc := "(ZZZZIZ)V" } : Jvm.MethodName) prog_7_method_1_code (7 : Nat) (Option.none : Option Jvm.ClassFile.FieldType)).before args0 about1 = true := code_word (m := ⟨3, 0⟩) (meth := k3m0) (c := k3c0) (by decide +kernel) rfl rfl rfl (by decide +kernel)
set_option maxRecDepth 65536 in
theorem w_c3 : (Jvm.Cond.code ({ cls := "java/lang/Record", name := "<init>", desc := "()V" } : Jvm.MethodName) jdk_30_method_1_code (1 : Nat) (Option.none : Option Jvm.ClassFile.FieldType)).before args0 about1 = true := code_word (m := ⟨2, 0⟩) (meth := k2m0) (c := k2c0) (by decide +kernel) rfl rfl rfl (by decide +kernel)
set_option maxRecDepth 65536 in
theorem w_c4 : (Jvm.Cond.code ({ cls := "java/lang/Object", name := "<init>", desc := "()V" } : Jvm.MethodName) object_method_1_code (1 : Nat) (Option.none : Option Jvm.ClassFile.FieldType)).before args0 about1 = true := code_word (m := ⟨0, 0⟩) (meth := k0m0) (c := k0c0) (by decide +kernel) rfl rfl rfl (by decide +kernel)
set_option maxRecDepth 65536 in
theorem w_c5 : (Jvm.Cond.code ({ cls := "com/example/managed_transactions/managedtransactions/jdbc/SqlText$Lexing", name := "nestingComments", desc := "()Z" } : Jvm.MethodName) prog_7_method_6_code (1 : Nat) (Option.some Jvm.ClassFile.FieldType.boolean)).before args0 about1 = true := code_word (m := ⟨3, 2⟩) (meth := k3m2) (c := k3c2) (by decide +kernel) rfl rfl rfl (by decide +kernel)
set_option maxRecDepth 65536 in
theorem w_c6 : (Jvm.Cond.code ({ cls := "com/example/managed_transactions/managedtransactions/jdbc/SqlText$Lexing", name := "hashComments", desc := "()Z" } : Jvm.MethodName) prog_7_method_7_code (1 : Nat) (Option.some Jvm.ClassFile.FieldType.boolean)).before args0 about1 = true := code_word (m := ⟨3, 3⟩) (meth := k3m3) (c := k3c3) (by decide +kernel) rfl rfl rfl (by decide +kernel)
set_option maxRecDepth 65536 in
theorem w_c7 : (Jvm.Cond.code ({ cls := "com/example/managed_transactions/managedtransactions/jdbc/SqlText$Lexing", name := "dashesBeforeSpace", desc := "()Z" } : Jvm.MethodName) prog_7_method_8_code (1 : Nat) (Option.some Jvm.ClassFile.FieldType.boolean)).before args0 about1 = true := code_word (m := ⟨3, 4⟩) (meth := k3m4) (c := k3c4) (by decide +kernel) rfl rfl rfl (by decide +kernel)
set_option maxRecDepth 65536 in
theorem w_c8 : (Jvm.Cond.code ({ cls := "com/example/managed_transactions/managedtransactions/jdbc/SqlText$Lexing", name := "returnEndsLine", desc := "()Z" } : Jvm.MethodName) prog_7_method_9_code (1 : Nat) (Option.some Jvm.ClassFile.FieldType.boolean)).before args0 about1 = true := code_word (m := ⟨3, 5⟩) (meth := k3m5) (c := k3c5) (by decide +kernel) rfl rfl rfl (by decide +kernel)
set_option maxRecDepth 65536 in
theorem w_c9 : (Jvm.Cond.code ({ cls := "com/example/managed_transactions/managedtransactions/jdbc/SqlText$Lexing", name := "runsCommentsUpTo", desc := "()I" } : Jvm.MethodName) prog_7_method_10_code (1 : Nat) (Option.some Jvm.ClassFile.FieldType.int)).before args0 about1 = true := code_word (m := ⟨3, 6⟩) (meth := k3m6) (c := k3c6) (by decide +kernel) rfl rfl rfl (by decide +kernel)
set_option maxRecDepth 65536 in
theorem w_c10 : (Jvm.Cond.code ({ cls := "com/example/managed_transactions/managedtransactions/jdbc/SqlText$Lexing", name := "backslashEscapes", desc := "()Z" } : Jvm.MethodName) prog_7_method_11_code (1 : Nat) (Option.some Jvm.ClassFile.FieldType.boolean)).before args0 about1 = true := code_word (m := ⟨3, 7⟩) (meth := k3m7) (c := k3c7) (by decide +kernel) rfl rfl rfl (by decide +kernel)
def codes1 : List Jvm.Cond := [Jvm.Cond.code x code maxLocals ret, Jvm.Cond.code ({ cls := "com/example/managed_transactions/managedtransactions/jdbc/SqlText$Lexing", name := "mariadb", desc := "(IZ)Lcom/example/managed_transactions/managedtransactions/jdbc/SqlText$Lexing;" } : Jvm.MethodName) prog_7_method_2_code (2 : Nat) (Option.some (Jvm.ClassFile.FieldType.object "com/example/managed_transactions/managedtransactions/jdbc/SqlText$Lexing")), Jvm.Cond.code ({ cls := "com/example/managed_transactions/managedtransactions/jdbc/SqlText$Lexing", name := "<init>", desc := "(ZZZZIZ)V" } : Jvm.MethodName) prog_7_method_1_code (7 : Nat) (Option.none : Option Jvm.ClassFile.FieldType), Jvm.Cond.code ({ cls := "java/lang/Record", name := "<init>", desc := "()V" } : Jvm.MethodName) jdk_30_method_1_code (1 : Nat) (Option.none : Option Jvm.ClassFile.FieldType), Jvm.Cond.code ({ cls := "java/lang/Object", name := "<init>", desc := "()V" } : Jvm.MethodName) object_method_1_code (1 : Nat) (Option.none : Option Jvm.ClassFile.FieldType), Jvm.Cond.code ({ cls := "com/example/managed_transactions/managedtransactions/jdbc/SqlText$Lexing", name := "nestingComments", desc := "()Z" } : Jvm.MethodName) prog_7_method_6_code (1 : Nat) (Option.some Jvm.ClassFile.FieldType.boolean), Jvm.Cond.code ({ cls := "com/example/managed_transactions/managedtransactions/jdbc/SqlText$Lexing", name := "hashComments", desc := "()Z" } : Jvm.MethodName) prog_7_method_7_code (1 : Nat) (Option.some Jvm.ClassFile.FieldType.boolean), Jvm.Cond.code ({ cls := "com/example/managed_transactions/managedtransactions/jdbc/SqlText$Lexing", name := "dashesBeforeSpace", desc := "()Z" } : Jvm.MethodName) prog_7_method_8_code (1 : Nat) (Option.some Jvm.ClassFile.FieldType.boolean), Jvm.Cond.code ({ cls := "com/example/managed_transactions/managedtransactions/jdbc/SqlText$Lexing", name := "returnEndsLine", desc := "()Z" } : Jvm.MethodName) prog_7_method_9_code (1 : Nat) (Option.some Jvm.ClassFile.FieldType.boolean), Jvm.Cond.code ({ cls := "com/example/managed_transactions/managedtransactions/jdbc/SqlText$Lexing", name := "runsCommentsUpTo", desc := "()I" } : Jvm.MethodName) prog_7_method_10_code (1 : Nat) (Option.some Jvm.ClassFile.FieldType.int), Jvm.Cond.code ({ cls := "com/example/managed_transactions/managedtransactions/jdbc/SqlText$Lexing", name := "backslashEscapes", desc := "()Z" } : Jvm.MethodName) prog_7_method_11_code (1 : Nat) (Option.some Jvm.ClassFile.FieldType.boolean)]
set_option maxRecDepth 65536 in
theorem codes_eq : words1.filter isCode = codes1 := rfl
theorem w_codes : ∀ c ∈ words1.filter isCode, c.before args0 about1 = true := by
  rw [codes_eq]
  intro c hc
  simp only [codes1, List.mem_cons, List.not_mem_nil, or_false] at hc
  rcases hc with rfl | rfl | rfl | rfl | rfl | rfl | rfl | rfl | rfl | rfl | rfl
  · exact w_c0
  · exact w_c1
  · exact w_c2
  · exact w_c3
  · exact w_c4
  · exact w_c5
  · exact w_c6
  · exact w_c7
  · exact w_c8
  · exact w_c9
  · exact w_c10
set_option maxRecDepth 65536 in
theorem w_t1 : (words1.take 24).all (fun c => isCode c || c.before args0 about1) = true := by decide +kernel
set_option maxRecDepth 65536 in
theorem w_t2 : ((words1.drop 24).take 24).all (fun c => isCode c || c.before args0 about1) = true := by decide +kernel
set_option maxRecDepth 65536 in
theorem w_t3 : ((words1.drop 24).drop 24).all (fun c => isCode c || c.before args0 about1) = true := by decide +kernel
theorem w_tables : (allAtoms (Jvm.Cond.code x code maxLocals ret :: tables_1)).before args0 about1 = true := by
  rw [allAtoms_all]
  show words1.all (fun c => c.before args0 about1) = true
  refine all_split ?_ w_codes
  rw [← List.take_append_drop 24 words1, List.all_append, w_t1, ← List.take_append_drop 24 (words1.drop 24), List.all_append, w_t2, w_t3]
  rfl
set_option maxRecDepth 65536 in
theorem w_case : (Jvm.Cond.and given_1 narrow_1).before args0 about1 = true := by decide +kernel
theorem w_applies : (headSpec (Jvm.Cond.code x code maxLocals ret :: tables_1) room_1).applies x e0.platform about1 = true :=
  (Spec.applies_iff w_frames).mpr ⟨w_running, w_runnable, w_alone, w_named, w_hears, w_ripe, w_room, w_tables⟩
theorem atStart : AtStart classFile x code maxLocals ret World_1 tables_1 room_1 Calls_1 rest_1 Pre_1 launch0 p0 e0 about1 theMethod args0 below0 :=
  ⟨lists_1, trivial, launch0.admits_env _ _ _, launch0.least_env, fairChoices_fair.cas, fairChoices_fair.clock, w_frames, w_args, w_heap, w_applies, trivial, trivial, w_case⟩
end start1
theorem witness_1 : WitnessClaimed_1 := ⟨start1.p0, start1.e0, start1.about1, start1.theMethod, start1.args0, start1.below0, start1.atStart⟩
end Jvm.Pilot.@@N@@
