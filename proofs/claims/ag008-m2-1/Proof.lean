import JvmDerived
import JvmDerived.Pilot.@@N@@Statement
import JvmDerived.Pilot.@@N@@Code
set_option linter.unusedVariables false
set_option linter.unusedSimpArgs false
namespace Jvm.Pilot.@@N@@
open Jvm Jvm.ClassFile Sem Op Lib Jvm.Free Jvm.Stand Jvm.LawKit Jvm.RoadKit Bundle Jvm.Pilot.@@N@@.Jvm.D
def Go (p : Program) (e : Env) (below : List Frame) (G : State → Prop) (T : State) (f : JFrame) : Prop := ∃ t, Steps p.tables e below (T.setTop f) t ∧ G t
theorem Go.step {p : Program} {e : Env} {below : List Frame} {G : State → Prop} {T T' : State} {f f' : JFrame} (k : ∀ t, Steps p.tables e below (T'.setTop f') t → Steps p.tables e below (T.setTop f) t) (h : Go p e below G T' f') : Go p e below G T f := by
  obtain ⟨t, h1, h2⟩ := h
  exact ⟨t, k t h1, h2⟩
def Fin1 (s : State) (below : List Frame) (Q : Option Value → Heap → List Loc → Prop) (k n : Nat) (t : State) : Prop := ∃ o, t.status = .running ∧ Ended t below o ∧ ∃ v L, o = .returned v ∧ Q v t.heap L ∧ FrameEnd s o t L k n
theorem of_go {p : Program} {e : Env} {below : List Frame} {s s₁ : State} {Q : Option Value → Heap → List Loc → Prop} {k n : Nat} {f f' : JFrame} (hf : f' = f) (h : Go p e below (Fin1 s below Q k n) s₁ f) :
    ∃ s₂ o, Steps p.tables e below (s₁.setTop f') s₂ ∧ s₂.status = .running ∧ Ended s₂ below o ∧ ∃ v L, o = .returned v ∧ Q v s₂.heap L ∧ FrameEnd s o s₂ L k n := by
  subst hf
  obtain ⟨t, h1, o, h2, h3, h4⟩ := h
  exact ⟨t, o, h1, h2, h3, h4⟩
section Ends
variable {p : Program} {l : Launch} {e : Env} {R : Room} {s : State} {m : MethodId} {args : Array Value} {below : List Frame} {meth : Method} {c : Code} {T : State} {locs : List Loc} {cells slots : Nat} {Q : Option Value → Heap → List Loc → Prop} {k n : Nat}
theorem goN (X : Stand p l e R s m args below meth c T locs cells slots) (hx : p.tables.exec = Jvm.exec) {pc : Nat} {Ls : Array Slot} {z : Int32} {t : FieldType} {rest : List Value} (hret : meth.sig.returnType = some t) (ht : t = .boolean ∨ t = .byte ∨ t = .char ∨ t = .short) (hlk : meth.locks = false)
    (hd : decode c.code pc = .ok (.ireturn, 1)) (hQ : Q (some (.int (nar t z))) T.heap locs) (hk : cells ≤ k) (hn : slots ≤ n) : Go p e below (Fin1 s below Q k n) T (mkF m pc Ls (.int z :: rest)) := by
  obtain ⟨fs, hr, hrun, hended, hW, hsame⟩ := X.leave (v := some (.int (nar t z))) (fun h => by rw [hret] at h; cases h) hlk
  exact ⟨_, Jvm.RoadKit.retN X hx hret ht hd hr, _, hrun, hended, _, _, rfl, hQ, ⟨_, rfl⟩, hW, hsame.mono hk hn⟩
theorem goO (X : Stand p l e R s m args below meth c T locs cells slots) (hx : p.tables.exec = Jvm.exec) {pc : Nat} {Ls : Array Slot} {w : Value} {t : FieldType} {i : Instr} {rest : List Value} (hret : meth.sig.returnType = some t) (hnw : narrow t w = w)
    (hi : (i = .ireturn ∧ (t = .int ∨ t = .boolean ∨ t = .byte ∨ t = .char ∨ t = .short) ∧ ∃ z, w = .int z) ∨ (i = .lreturn ∧ t = .long ∧ ∃ z, w = .long z) ∨ (i = .dreturn ∧ t = .double ∧ ∃ z, w = .double z) ∨ (i = .freturn ∧ t = .float ∧ ∃ z, w = .float z) ∨ (i = .areturn ∧ t.isReference = true ∧ w.isRef = true)) (hlk : meth.locks = false)
    (hd : decode c.code pc = .ok (i, 1)) (hQ : Q (some w) T.heap locs) (hk : cells ≤ k) (hn : slots ≤ n) : Go p e below (Fin1 s below Q k n) T (mkF m pc Ls (w :: rest)) := by
  obtain ⟨fs, hr, hrun, hended, hW, hsame⟩ := X.leave (v := some w) (fun h => by rw [hret] at h; cases h) hlk
  exact ⟨_, Jvm.RoadKit.retOut X hx hret hnw hi hd hr, _, hrun, hended, _, _, rfl, hQ, ⟨_, rfl⟩, hW, hsame.mono hk hn⟩
theorem goI (X : Stand p l e R s m args below meth c T locs cells slots) (hx : p.tables.exec = Jvm.exec) {pc : Nat} {Ls : Array Slot} {z : Int32} {rest : List Value} (hret : meth.sig.returnType = some .int) (hlk : meth.locks = false)
    (hd : decode c.code pc = .ok (.ireturn, 1)) (hQ : Q (some (.int z)) T.heap locs) (hk : cells ≤ k) (hn : slots ≤ n) : Go p e below (Fin1 s below Q k n) T (mkF m pc Ls (.int z :: rest)) :=
  goO X hx hret rfl (Or.inl ⟨rfl, Or.inl rfl, _, rfl⟩) hlk hd hQ hk hn
theorem goJ (X : Stand p l e R s m args below meth c T locs cells slots) (hx : p.tables.exec = Jvm.exec) {pc : Nat} {Ls : Array Slot} {z : Int64} {rest : List Value} (hret : meth.sig.returnType = some .long) (hlk : meth.locks = false)
    (hd : decode c.code pc = .ok (.lreturn, 1)) (hQ : Q (some (.long z)) T.heap locs) (hk : cells ≤ k) (hn : slots ≤ n) : Go p e below (Fin1 s below Q k n) T (mkF m pc Ls (.long z :: rest)) :=
  goO X hx hret rfl (Or.inr (Or.inl ⟨rfl, rfl, _, rfl⟩)) hlk hd hQ hk hn
theorem goA (X : Stand p l e R s m args below meth c T locs cells slots) (hx : p.tables.exec = Jvm.exec) {pc : Nat} {Ls : Array Slot} {w : Value} {t : FieldType} {rest : List Value} (hret : meth.sig.returnType = some t) (ht : t.isReference = true) (hw : w.isRef = true) (hlk : meth.locks = false)
    (hd : decode c.code pc = .ok (.areturn, 1)) (hQ : Q (some w) T.heap locs) (hk : cells ≤ k) (hn : slots ≤ n) : Go p e below (Fin1 s below Q k n) T (mkF m pc Ls (w :: rest)) :=
  goO X hx hret (by cases t <;> cases w <;> first | rfl | (simp [FieldType.isReference] at ht; done) | (simp [Value.isRef] at hw; done)) (Or.inr (Or.inr (Or.inr (Or.inr ⟨rfl, ht, hw⟩)))) hlk hd hQ hk hn
theorem goV (X : Stand p l e R s m args below meth c T locs cells slots) (hx : p.tables.exec = Jvm.exec) {pc : Nat} {Ls : Array Slot} (hret : meth.sig.returnType = none) (hlk : meth.locks = false)
    (hd : decode c.code pc = .ok (.return_, 1)) (hQ : Q none T.heap locs) (hk : cells ≤ k) (hn : slots ≤ n) : Go p e below (Fin1 s below Q k n) T (mkF m pc Ls []) := by
  obtain ⟨fs, hr, hrun, hended, hW, hsame⟩ := X.leave (v := none) (fun _ => rfl) hlk
  exact ⟨_, X.returnOut hx hret hd hr, _, hrun, hended, _, _, rfl, hQ, ⟨_, rfl⟩, hW, hsame.mono hk hn⟩
def FinW (s : State) (below : List Frame) (Q : Option Value → Heap → List Loc → Prop) (k n : Nat) (t : State) : Prop := ∃ o, t.status = .running ∧ Ended t below o ∧ ∃ v L, o = .returned v ∧ Q v t.heap L ∧ ReturnedEndW s o t L k n
theorem of_goW {p : Program} {e : Env} {below : List Frame} {s s₁ : State} {Q : Option Value → Heap → List Loc → Prop} {k n : Nat} {f f' : JFrame} (hf : f' = f) (h : Go p e below (FinW s below Q k n) s₁ f) :
    ∃ s₂ o, Steps p.tables e below (s₁.setTop f') s₂ ∧ s₂.status = .running ∧ Ended s₂ below o ∧ ∃ v L, o = .returned v ∧ Q v s₂.heap L ∧ ReturnedEndW s o s₂ L k n := by
  subst hf
  obtain ⟨t, h1, o, h2, h3, h4⟩ := h
  exact ⟨t, o, h1, h2, h3, h4⟩
theorem goNW {vm0 : Vm} {n1 : Nat} (hS : s.Since vm0 n1) (X : Stand p l e R (s.setVm vm0) m args below meth c T locs cells slots) (hkk : n1 ≤ T.heap.size) (hx : p.tables.exec = Jvm.exec) {pc : Nat} {Ls : Array Slot} {z : Int32} {t : FieldType} {rest : List Value} (hret : meth.sig.returnType = some t) (ht : t = .boolean ∨ t = .byte ∨ t = .char ∨ t = .short) (hlk : meth.locks = false)
    (hd : decode c.code pc = .ok (.ireturn, 1)) (hQ : Q (some (.int (nar t z))) T.heap locs) (hk : cells ≤ k) (hn : slots ≤ n) : Go p e below (FinW s below Q k n) T (mkF m pc Ls (.int z :: rest)) := by
  obtain ⟨fs, hr, hrun, hended, hW, hsame⟩ := X.leave (v := some (.int (nar t z))) (fun h => by rw [hret] at h; cases h) hlk
  obtain ⟨a1, a2, a3⟩ := hS.ended hW (show n1 ≤ (T.setFrames fs).heap.size from hkk) hsame
  exact ⟨_, Jvm.RoadKit.retN X hx hret ht hd hr, _, hrun, hended, _, _, rfl, hQ, ⟨_, rfl⟩, a1, a2, a3.mono hk hn⟩
theorem goOW {vm0 : Vm} {n1 : Nat} (hS : s.Since vm0 n1) (X : Stand p l e R (s.setVm vm0) m args below meth c T locs cells slots) (hkk : n1 ≤ T.heap.size) (hx : p.tables.exec = Jvm.exec) {pc : Nat} {Ls : Array Slot} {w : Value} {t : FieldType} {i : Instr} {rest : List Value} (hret : meth.sig.returnType = some t) (hnw : narrow t w = w)
    (hi : (i = .ireturn ∧ (t = .int ∨ t = .boolean ∨ t = .byte ∨ t = .char ∨ t = .short) ∧ ∃ z, w = .int z) ∨ (i = .lreturn ∧ t = .long ∧ ∃ z, w = .long z) ∨ (i = .dreturn ∧ t = .double ∧ ∃ z, w = .double z) ∨ (i = .freturn ∧ t = .float ∧ ∃ z, w = .float z) ∨ (i = .areturn ∧ t.isReference = true ∧ w.isRef = true)) (hlk : meth.locks = false)
    (hd : decode c.code pc = .ok (i, 1)) (hQ : Q (some w) T.heap locs) (hk : cells ≤ k) (hn : slots ≤ n) : Go p e below (FinW s below Q k n) T (mkF m pc Ls (w :: rest)) := by
  obtain ⟨fs, hr, hrun, hended, hW, hsame⟩ := X.leave (v := some w) (fun h => by rw [hret] at h; cases h) hlk
  obtain ⟨a1, a2, a3⟩ := hS.ended hW (show n1 ≤ (T.setFrames fs).heap.size from hkk) hsame
  exact ⟨_, Jvm.RoadKit.retOut X hx hret hnw hi hd hr, _, hrun, hended, _, _, rfl, hQ, ⟨_, rfl⟩, a1, a2, a3.mono hk hn⟩
theorem goIW {vm0 : Vm} {n1 : Nat} (hS : s.Since vm0 n1) (X : Stand p l e R (s.setVm vm0) m args below meth c T locs cells slots) (hkk : n1 ≤ T.heap.size) (hx : p.tables.exec = Jvm.exec) {pc : Nat} {Ls : Array Slot} {z : Int32} {rest : List Value} (hret : meth.sig.returnType = some .int) (hlk : meth.locks = false)
    (hd : decode c.code pc = .ok (.ireturn, 1)) (hQ : Q (some (.int z)) T.heap locs) (hk : cells ≤ k) (hn : slots ≤ n) : Go p e below (FinW s below Q k n) T (mkF m pc Ls (.int z :: rest)) :=
  goOW hS X hkk hx hret rfl (Or.inl ⟨rfl, Or.inl rfl, _, rfl⟩) hlk hd hQ hk hn
theorem goAW {vm0 : Vm} {n1 : Nat} (hS : s.Since vm0 n1) (X : Stand p l e R (s.setVm vm0) m args below meth c T locs cells slots) (hkk : n1 ≤ T.heap.size) (hx : p.tables.exec = Jvm.exec) {pc : Nat} {Ls : Array Slot} {w : Value} {t : FieldType} {rest : List Value} (hret : meth.sig.returnType = some t) (ht : t.isReference = true) (hw : w.isRef = true) (hlk : meth.locks = false)
    (hd : decode c.code pc = .ok (.areturn, 1)) (hQ : Q (some w) T.heap locs) (hk : cells ≤ k) (hn : slots ≤ n) : Go p e below (FinW s below Q k n) T (mkF m pc Ls (w :: rest)) :=
  goOW hS X hkk hx hret (by cases t <;> cases w <;> first | rfl | (simp [FieldType.isReference] at ht; done) | (simp [Value.isRef] at hw; done)) (Or.inr (Or.inr (Or.inr (Or.inr ⟨rfl, ht, hw⟩)))) hlk hd hQ hk hn
theorem goVW {vm0 : Vm} {n1 : Nat} (hS : s.Since vm0 n1) (X : Stand p l e R (s.setVm vm0) m args below meth c T locs cells slots) (hkk : n1 ≤ T.heap.size) (hx : p.tables.exec = Jvm.exec) {pc : Nat} {Ls : Array Slot} (hret : meth.sig.returnType = none) (hlk : meth.locks = false)
    (hd : decode c.code pc = .ok (.return_, 1)) (hQ : Q none T.heap locs) (hk : cells ≤ k) (hn : slots ≤ n) : Go p e below (FinW s below Q k n) T (mkF m pc Ls []) := by
  obtain ⟨fs, hr, hrun, hended, hW, hsame⟩ := X.leave (v := none) (fun _ => rfl) hlk
  obtain ⟨a1, a2, a3⟩ := hS.ended hW (show n1 ≤ (T.setFrames fs).heap.size from hkk) hsame
  exact ⟨_, X.returnOut hx hret hd hr, _, hrun, hended, _, _, rfl, hQ, ⟨_, rfl⟩, a1, a2, a3.mono hk hn⟩
theorem narB {z : Int32} (h : z = 0 ∨ z = 1) : nar .boolean z = z := by rcases h with rfl | rfl <;> rfl
end Ends
theorem d1_0 : decode prog_72_method_1_code 0 = .ok (.aload_n 0, 1) := by decide +kernel
theorem d1_1 : decode prog_72_method_1_code 1 = .ok (.invokespecial 1, 3) := by decide +kernel
theorem d1_4 : decode prog_72_method_1_code 4 = .ok (.aload_n 0, 1) := by decide +kernel
theorem d1_5 : decode prog_72_method_1_code 5 = .ok (.iload_n 1, 1) := by decide +kernel
theorem d1_6 : decode prog_72_method_1_code 6 = .ok (.putfield 7, 3) := by decide +kernel
theorem d1_9 : decode prog_72_method_1_code 9 = .ok (.return_, 1) := by decide +kernel
theorem pn_1 : plainName "com/example/slotter/slotter/routing/Watch" = true := by first | (simp [plainName, overriddenIn]; done) | decide +kernel
theorem ef_rm1 (m : MethodId) (a1 : Addr) (p2 : Int32) : entryFrame m #[(.ref a1), (.int p2)] 2 = mkF m 0 #[.val (.ref a1), .val (.int p2)] [] := by first | (simp [entryFrame, mkF, argsToLocals, Value.category]; done) | rfl
def Q_rm1 (Z : State) (a1 : Addr) (p2 : Int32) (h0 : Heap) (n0 : Nat) (v : Option Value) (h : Heap) (L : List Loc) : Prop := v = none ∧ Fr n0 L ∧ Keep h0 h [a1] ∧ Fld Z h a1 "com/example/slotter/slotter/routing/Watch" "slot" "I" (.int p2) ∧ Fld Z h a1 "com/example/slotter/slotter/routing/Watch" "connection" "Lcom/example/slotter/slotter/protocol/Connection;" .null
set_option maxRecDepth 65536 in
set_option maxHeartbeats 40000000 in
theorem rm1 (l : Launch) (Z : State) (a0 : Array Value) (hw : ∀ d ∈ tables_1, d.before a0 Z = true) (ws : List Jvm.Cond) (a1 : Addr) (p2 : Int32) (h0 : Heap) (n0 : Nat) (Z0 : n0 ≤ h0.size) (E_a1 : Exa Z h0 a1 "com/example/slotter/slotter/routing/Watch") (F_slot_a1 : Fld Z h0 a1 "com/example/slotter/slotter/routing/Watch" "slot" "I" (.int (0 : Int32))) (F_connection_a1 : Fld Z h0 a1 "com/example/slotter/slotter/routing/Watch" "connection" "Lcom/example/slotter/slotter/protocol/Connection;" .null) (g_a1 : n0 ≤ a1) :
    MetFree l (⟨"com/example/slotter/slotter/routing/Watch", "<init>", "(I)V"⟩ : MethodName) (head1 (Jvm.Cond.code (⟨"com/example/slotter/slotter/routing/Watch", "<init>", "(I)V"⟩ : MethodName) prog_72_method_1_code 2 none :: ws) ({ frames := 1, cells := 0, slots := 0, locals := 12 } : Room)) (fun a U => a = #[(.ref a1), (.int p2)] ∧ Z.Warmed39 U.vm ∧ U.heap = h0) (fun _ _ _ _ _ => True) (fun _ U o U' => ∃ v L, o = .returned v ∧ Q_rm1 Z a1 p2 h0 n0 v U'.heap L ∧ FrameEnd U o U' L ({ frames := 1, cells := 0, slots := 0, locals := 12 } : Room).cells ({ frames := 1, cells := 0, slots := 0, locals := 12 } : Room).slots) := by
  refine MetFree.of_bodySF (plainFor_of_name pn_1) hisR ?_
  intro p e s m args below meth c s₁ Bd hml0 hP hK
  obtain ⟨rfl, hZ, hh⟩ := hP
  have hx := Bd.exec
  have hby := Bd.bytes
  have hml : c.maxLocals = 2 := hml0
  have hown : s.vm.findClass "com/example/slotter/slotter/routing/Watch" = some m.cls := findClass_of_methodNamed Bd.named
  have hnm := (name_of_methodNamed Bd.named Bd.method).1
  have X0 : Stand p l e ({ frames := 1, cells := 0, slots := 0, locals := 12 } : Room) s m #[(.ref a1), (.int p2)] below meth c s₁ [] 0 0 := Stand.of_body Bd
  have e0 : s₁.heap = h0 := by rw [← hh, Bd.state]; rfl
  have N0 := Fr.nil n0
  refine of_go (ef_rm1 m a1 p2) ?_
  refine Go.step (T' := s₁) (f' := (mkF m 1 #[.val (.ref a1), .val (.int p2)] [(.ref a1)])) (fun _ k => XS.aloadN X0.here hx rfl (hb hby d1_0) rfl rfl k) ?_
  obtain ⟨T1, X1, e1, st1⟩ := initO X0 hx hZ hown (hw _ (List.mem_of_getElem? (i := 6) rfl)) (hw _ (List.mem_of_getElem? (i := 7) rfl)) (hw _ (List.mem_of_getElem? (i := 8) rfl)) e0 (g := (mkF m 1 #[.val (.ref a1), .val (.int p2)] [(.ref a1)])) rfl (by rw [hml]; rfl) rfl (hb hby d1_1) (by decide) (W := 0) (by show 2 * 0 + _ ≤ _; exact Nat.le_of_eq rfl) (by decide)
  refine Go.step (T' := T1) (f' := (mkF m 4 #[.val (.ref a1), .val (.int p2)] [])) st1 ?_
  refine Go.step (T' := T1) (f' := (mkF m 5 #[.val (.ref a1), .val (.int p2)] [(.ref a1)])) (fun _ k => XS.aloadN X1.here hx rfl (hb hby d1_4) rfl rfl k) ?_
  refine Go.step (T' := T1) (f' := (mkF m 6 #[.val (.ref a1), .val (.int p2)] [(.int p2), (.ref a1)])) (fun _ k => XS.iloadN X1.here hx rfl (hb hby d1_5) rfl k) ?_
  obtain ⟨T2, h2, X2, e2, W2, st2⟩ := putF X1 hx hZ hown (host := "") (Or.inl (hw _ (List.mem_of_getElem? (i := 9) rfl))) Via.refl e1 F_slot_a1 E_a1 (Or.inr ⟨(hw _ (List.mem_of_getElem? (i := 10) rfl)), rfl, hnm⟩) (hw _ (List.mem_of_getElem? (i := 1) rfl)) (ty := .int) (by decide) rfl rfl (g := (mkF m 6 #[.val (.ref a1), .val (.int p2)] [(.int p2), (.ref a1)])) rfl rfl (hb hby d1_6)
  have N2 := Fr.snoc X2 N0 g_a1
  have Z3 : n0 ≤ h2.size := Nat.le_trans Z0 (Keep.of_wr W2).1
  have K3 : Keep h0 h2 [a1] := (Keep.refl h0 [a1]).wr W2 (Or.inl (List.mem_of_getElem? (i := 0) rfl))
  have Fw2 := F_slot_a1.same W2
  refine Go.step (T' := T2) (f' := (mkF m 9 #[.val (.ref a1), .val (.int p2)] [])) st2 ?_
  refine goV X2 hx Bd.returns Bd.notSynchronized (hb hby d1_9) ?_ (by decide) (by decide)
  show Q_rm1 Z a1 p2 h0 n0 _ T2.heap _
  rw [e2]
  have q4 : Fld Z h2 a1 "com/example/slotter/slotter/routing/Watch" "connection" "Lcom/example/slotter/slotter/protocol/Connection;" .null := (F_connection_a1.other W2 (Or.inr (slot_ne (Or.inl (hw _ (List.mem_of_getElem? (i := 17) rfl))) (Or.inr (hw _ (List.mem_of_getElem? (i := 10) rfl))) (by decide) (t := (.object "com/example/slotter/slotter/protocol/Connection")) (t' := .int) (by decide) (by decide))))
  exact ⟨rfl, N2, K3, Fw2, q4⟩
theorem d3_0 : decode prog_72_method_8_code 0 = .ok (.aload_n 0, 1) := by decide +kernel
theorem d3_1 : decode prog_72_method_8_code 1 = .ok (.getfield 47, 3) := by decide +kernel
theorem d3_4 : decode prog_72_method_8_code 4 = .ok (.ifnull 7, 3) := by decide +kernel
theorem d3_11 : decode prog_72_method_8_code 11 = .ok (.iconst 0, 1) := by decide +kernel
theorem d3_12 : decode prog_72_method_8_code 12 = .ok (.ireturn, 1) := by decide +kernel
theorem ef_rm3 (m : MethodId) (a1 : Addr) : entryFrame m #[(.ref a1)] 1 = mkF m 0 #[.val (.ref a1)] [] := by first | (simp [entryFrame, mkF, argsToLocals, Value.category]; done) | rfl
def Q_rm3 (Z : State) (a1 : Addr) (h0 : Heap) (n0 : Nat) (v : Option Value) (h : Heap) (L : List Loc) : Prop := v = some (.int (0 : Int32)) ∧ Fr n0 L ∧ h = h0
set_option maxRecDepth 65536 in
set_option maxHeartbeats 40000000 in
theorem rm3 (l : Launch) (Z : State) (a0 : Array Value) (hw : ∀ d ∈ tables_1, d.before a0 Z = true) (ws : List Jvm.Cond) (a1 : Addr) (h0 : Heap) (n0 : Nat) (Z0 : n0 ≤ h0.size) (F_connection_a1 : Fld Z h0 a1 "com/example/slotter/slotter/routing/Watch" "connection" "Lcom/example/slotter/slotter/protocol/Connection;" .null) :
    MetFree l (⟨"com/example/slotter/slotter/routing/Watch", "held", "()Z"⟩ : MethodName) (head1 (Jvm.Cond.code (⟨"com/example/slotter/slotter/routing/Watch", "held", "()Z"⟩ : MethodName) prog_72_method_8_code 1 (some .boolean) :: ws) ({ frames := 0, cells := 0, slots := 0, locals := 0 } : Room)) (fun a U => a = #[(.ref a1)] ∧ Z.Warmed39 U.vm ∧ U.heap = h0) (fun _ _ _ _ _ => True) (fun _ U o U' => ∃ v L, o = .returned v ∧ Q_rm3 Z a1 h0 n0 v U'.heap L ∧ FrameEnd U o U' L ({ frames := 0, cells := 0, slots := 0, locals := 0 } : Room).cells ({ frames := 0, cells := 0, slots := 0, locals := 0 } : Room).slots) := by
  refine MetFree.of_bodySF (plainFor_of_name pn_1) hisR ?_
  intro p e s m args below meth c s₁ Bd hml0 hP hK
  obtain ⟨rfl, hZ, hh⟩ := hP
  have hx := Bd.exec
  have hby := Bd.bytes
  have hml : c.maxLocals = 1 := hml0
  have hown : s.vm.findClass "com/example/slotter/slotter/routing/Watch" = some m.cls := findClass_of_methodNamed Bd.named
  have hnm := (name_of_methodNamed Bd.named Bd.method).1
  have X0 : Stand p l e ({ frames := 0, cells := 0, slots := 0, locals := 0 } : Room) s m #[(.ref a1)] below meth c s₁ [] 0 0 := Stand.of_body Bd
  have e0 : s₁.heap = h0 := by rw [← hh, Bd.state]; rfl
  have N0 := Fr.nil n0
  refine of_go (ef_rm3 m a1) ?_
  refine Go.step (T' := s₁) (f' := (mkF m 1 #[.val (.ref a1)] [(.ref a1)])) (fun _ k => XS.aloadN X0.here hx rfl (hb hby d3_0) rfl rfl k) ?_
  obtain ⟨T1, X1, e1, st1⟩ := getF X0 hx hZ hown (host := "") (Or.inl (hw _ (List.mem_of_getElem? (i := 16) rfl))) Via.refl e0 F_connection_a1 (g := (mkF m 1 #[.val (.ref a1)] [(.ref a1)])) rfl rfl (hb hby d3_1)
  refine Go.step (T' := T1) (f' := (mkF m 4 #[.val (.ref a1)] [.null])) st1 ?_
  refine Go.step (T' := T1) (f' := (mkF m 11 #[.val (.ref a1)] [])) (fun _ k => XS.ifnullYes X1.here hx rfl (pc0 := 4) (pc' := 11) rfl (hb hby d3_4) rfl (by decide) (by decide) k) ?_
  refine Go.step (T' := T1) (f' := (mkF m 12 #[.val (.ref a1)] [(.int (0 : Int32))])) (fun _ k => XS.iconst X1.here hx rfl (hb hby d3_11) k) ?_
  refine goN X1 hx (t := .boolean) Bd.returns (by simp) Bd.notSynchronized (hb hby d3_12) ?_ (by decide) (by decide)
  show Q_rm3 Z a1 h0 n0 _ T1.heap _
  rw [e1]
  exact ⟨rfl, N0, rfl⟩
theorem d5_0 : decode prog_72_method_9_code 0 = .ok (.aload_n 0, 1) := by decide +kernel
theorem d5_1 : decode prog_72_method_9_code 1 = .ok (.getfield 47, 3) := by decide +kernel
theorem d5_4 : decode prog_72_method_9_code 4 = .ok (.ifnull 20, 3) := by decide +kernel
theorem d5_24 : decode prog_72_method_9_code 24 = .ok (.return_, 1) := by decide +kernel
theorem ef_rm5 (m : MethodId) (a1 : Addr) (p2 : Int32) : entryFrame m #[(.ref a1), (.int p2)] 2 = mkF m 0 #[.val (.ref a1), .val (.int p2)] [] := by first | (simp [entryFrame, mkF, argsToLocals, Value.category]; done) | rfl
def Q_rm5 (Z : State) (a1 : Addr) (p2 : Int32) (h0 : Heap) (n0 : Nat) (v : Option Value) (h : Heap) (L : List Loc) : Prop := v = none ∧ Fr n0 L ∧ h = h0
set_option maxRecDepth 65536 in
set_option maxHeartbeats 40000000 in
theorem rm5 (l : Launch) (Z : State) (a0 : Array Value) (hw : ∀ d ∈ tables_1, d.before a0 Z = true) (ws : List Jvm.Cond) (a1 : Addr) (p2 : Int32) (h0 : Heap) (n0 : Nat) (Z0 : n0 ≤ h0.size) (F_connection_a1 : Fld Z h0 a1 "com/example/slotter/slotter/routing/Watch" "connection" "Lcom/example/slotter/slotter/protocol/Connection;" .null) :
    MetFree l (⟨"com/example/slotter/slotter/routing/Watch", "letGo", "(Z)V"⟩ : MethodName) (head1 (Jvm.Cond.code (⟨"com/example/slotter/slotter/routing/Watch", "letGo", "(Z)V"⟩ : MethodName) prog_72_method_9_code 2 none :: ws) ({ frames := 0, cells := 0, slots := 0, locals := 0 } : Room)) (fun a U => a = #[(.ref a1), (.int p2)] ∧ Z.Warmed39 U.vm ∧ U.heap = h0) (fun _ _ _ _ _ => True) (fun _ U o U' => ∃ v L, o = .returned v ∧ Q_rm5 Z a1 p2 h0 n0 v U'.heap L ∧ FrameEnd U o U' L ({ frames := 0, cells := 0, slots := 0, locals := 0 } : Room).cells ({ frames := 0, cells := 0, slots := 0, locals := 0 } : Room).slots) := by
  refine MetFree.of_bodySF (plainFor_of_name pn_1) hisR ?_
  intro p e s m args below meth c s₁ Bd hml0 hP hK
  obtain ⟨rfl, hZ, hh⟩ := hP
  have hx := Bd.exec
  have hby := Bd.bytes
  have hml : c.maxLocals = 2 := hml0
  have hown : s.vm.findClass "com/example/slotter/slotter/routing/Watch" = some m.cls := findClass_of_methodNamed Bd.named
  have hnm := (name_of_methodNamed Bd.named Bd.method).1
  have X0 : Stand p l e ({ frames := 0, cells := 0, slots := 0, locals := 0 } : Room) s m #[(.ref a1), (.int p2)] below meth c s₁ [] 0 0 := Stand.of_body Bd
  have e0 : s₁.heap = h0 := by rw [← hh, Bd.state]; rfl
  have N0 := Fr.nil n0
  refine of_go (ef_rm5 m a1 p2) ?_
  refine Go.step (T' := s₁) (f' := (mkF m 1 #[.val (.ref a1), .val (.int p2)] [(.ref a1)])) (fun _ k => XS.aloadN X0.here hx rfl (hb hby d5_0) rfl rfl k) ?_
  obtain ⟨T1, X1, e1, st1⟩ := getF X0 hx hZ hown (host := "") (Or.inl (hw _ (List.mem_of_getElem? (i := 16) rfl))) Via.refl e0 F_connection_a1 (g := (mkF m 1 #[.val (.ref a1), .val (.int p2)] [(.ref a1)])) rfl rfl (hb hby d5_1)
  refine Go.step (T' := T1) (f' := (mkF m 4 #[.val (.ref a1), .val (.int p2)] [.null])) st1 ?_
  refine Go.step (T' := T1) (f' := (mkF m 24 #[.val (.ref a1), .val (.int p2)] [])) (fun _ k => XS.ifnullYes X1.here hx rfl (pc0 := 4) (pc' := 24) rfl (hb hby d5_4) rfl (by decide) (by decide) k) ?_
  refine goV X1 hx Bd.returns Bd.notSynchronized (hb hby d5_24) ?_ (by decide) (by decide)
  show Q_rm5 Z a1 p2 h0 n0 _ T1.heap _
  rw [e1]
  exact ⟨rfl, N0, rfl⟩
theorem d4_0 : decode prog_72_method_10_code 0 = .ok (.aload_n 0, 1) := by decide +kernel
theorem d4_1 : decode prog_72_method_10_code 1 = .ok (.iconst 0, 1) := by decide +kernel
theorem d4_2 : decode prog_72_method_10_code 2 = .ok (.invokevirtual 51, 3) := by decide +kernel
theorem pd_0 : parseMethodDescriptor "(Z)V" = some ⟨[.boolean], none⟩ := by decide +kernel
theorem d4_5 : decode prog_72_method_10_code 5 = .ok (.return_, 1) := by decide +kernel
theorem ef_rm4 (m : MethodId) (a1 : Addr) : entryFrame m #[(.ref a1)] 1 = mkF m 0 #[.val (.ref a1)] [] := by first | (simp [entryFrame, mkF, argsToLocals, Value.category]; done) | rfl
def Q_rm4 (Z : State) (a1 : Addr) (h0 : Heap) (n0 : Nat) (v : Option Value) (h : Heap) (L : List Loc) : Prop := v = none ∧ Fr n0 L ∧ h = h0
set_option maxRecDepth 65536 in
set_option maxHeartbeats 40000000 in
theorem rm4 (l : Launch) (Z : State) (a0 : Array Value) (hw : ∀ d ∈ tables_1, d.before a0 Z = true) (ws : List Jvm.Cond) (a1 : Addr) (h0 : Heap) (n0 : Nat) (Z0 : n0 ≤ h0.size) (E_a1 : Exa Z h0 a1 "com/example/slotter/slotter/routing/Watch") (F_connection_a1 : Fld Z h0 a1 "com/example/slotter/slotter/routing/Watch" "connection" "Lcom/example/slotter/slotter/protocol/Connection;" .null) :
    MetFree l (⟨"com/example/slotter/slotter/routing/Watch", "close", "()V"⟩ : MethodName) (head1 (Jvm.Cond.code (⟨"com/example/slotter/slotter/routing/Watch", "close", "()V"⟩ : MethodName) prog_72_method_10_code 1 none :: ws) ({ frames := 1, cells := 0, slots := 0, locals := 13 } : Room)) (fun a U => a = #[(.ref a1)] ∧ Z.Warmed39 U.vm ∧ U.heap = h0) (fun _ _ _ _ _ => True) (fun _ U o U' => ∃ v L, o = .returned v ∧ Q_rm4 Z a1 h0 n0 v U'.heap L ∧ FrameEnd U o U' L ({ frames := 1, cells := 0, slots := 0, locals := 13 } : Room).cells ({ frames := 1, cells := 0, slots := 0, locals := 13 } : Room).slots) := by
  refine MetFree.of_bodySF (plainFor_of_name pn_1) hisR ?_
  intro p e s m args below meth c s₁ Bd hml0 hP hK
  obtain ⟨rfl, hZ, hh⟩ := hP
  have hx := Bd.exec
  have hby := Bd.bytes
  have hml : c.maxLocals = 1 := hml0
  have hown : s.vm.findClass "com/example/slotter/slotter/routing/Watch" = some m.cls := findClass_of_methodNamed Bd.named
  have hnm := (name_of_methodNamed Bd.named Bd.method).1
  have X0 : Stand p l e ({ frames := 1, cells := 0, slots := 0, locals := 13 } : Room) s m #[(.ref a1)] below meth c s₁ [] 0 0 := Stand.of_body Bd
  have e0 : s₁.heap = h0 := by rw [← hh, Bd.state]; rfl
  have N0 := Fr.nil n0
  refine of_go (ef_rm4 m a1) ?_
  refine Go.step (T' := s₁) (f' := (mkF m 1 #[.val (.ref a1)] [(.ref a1)])) (fun _ k => XS.aloadN X0.here hx rfl (hb hby d4_0) rfl rfl k) ?_
  refine Go.step (T' := s₁) (f' := (mkF m 2 #[.val (.ref a1)] [(.int (0 : Int32)), (.ref a1)])) (fun _ k => XS.iconst X0.here hx rfl (hb hby d4_1) k) ?_
  obtain ⟨cq1, kq1, q1a, q1b, q1c⟩ := isOf hZ e0 E_a1
  obtain ⟨_, _, ⟨T1, L1, k1, n1⟩, -, X1, ⟨Lc1, hQ1, l1, y1, z1⟩, st1⟩ := X0.virtualBack hx (y := (⟨"com/example/slotter/slotter/routing/Watch", "letGo", "(Z)V"⟩ : MethodName)) (z := (⟨"com/example/slotter/slotter/routing/Watch", "letGo", "(Z)V"⟩ : MethodName)) hown (mvT hZ (hw _ (List.mem_of_getElem? (i := 23) rfl))) (mvT hZ (hw _ (List.mem_of_getElem? (i := 24) rfl))) (notFace_of_selects (args := #[]) (mvT hZ (hw _ (List.mem_of_getElem? (i := 26) rfl)))) (mvT hZ (hw _ (List.mem_of_getElem? (i := 26) rfl))) (mvT hZ (hw _ (List.mem_of_getElem? (i := 25) rfl))) (by decide) (backOf (W := 0) (rm5 l Z a0 hw [] a1 (0 : Int32) h0 n0 Z0 F_connection_a1) hZ (hw _ (List.mem_of_getElem? (i := 27) rfl)) (hw _ (List.mem_of_getElem? (i := 2) rfl)) (by decide) (by decide)) q1a q1c (g := (mkF m 2 #[.val (.ref a1)] [(.int (0 : Int32)), (.ref a1)])) rfl (by rw [hml]; rfl) (Steps.refl _) (argsL := [(.int (0 : Int32))]) (rest := []) (lenOf pd_0 rfl) rfl (by show 2 * 0 + _ ≤ _; exact Nat.le_of_eq rfl) (hb hby d4_2) (fun _ _ => ⟨rfl, e0, (by decide : 0 + 0 ≤ _), (by decide : 0 + 0 ≤ _)⟩)
  dsimp only [Pt.U, Pt.locs, Pt.cells, Pt.slots] at X1 l1 y1 z1 st1 hQ1
  subst l1 y1 z1
  obtain ⟨rfl, Nq1, eh1⟩ := hQ1
  have N1 := Fr.app N0 Nq1
  refine Go.step (T' := T1) (f' := (mkF m 5 #[.val (.ref a1)] [])) (fun _ k => st1.trans k) ?_
  refine goV X1 hx Bd.returns Bd.notSynchronized (hb hby d4_5) ?_ (by decide) (by decide)
  show Q_rm4 Z a1 h0 n0 _ T1.heap _
  rw [eh1]
  exact ⟨rfl, N1, rfl⟩
theorem d6_0 : decode prog_72_method_4_code 0 = .ok (.aload_n 0, 1) := by decide +kernel
theorem d6_1 : decode prog_72_method_4_code 1 = .ok (.getfield 7, 3) := by decide +kernel
theorem d6_4 : decode prog_72_method_4_code 4 = .ok (.ireturn, 1) := by decide +kernel
theorem ef_rm6 (m : MethodId) (a1 : Addr) : entryFrame m #[(.ref a1)] 1 = mkF m 0 #[.val (.ref a1)] [] := by first | (simp [entryFrame, mkF, argsToLocals, Value.category]; done) | rfl
def Q_rm6 (Z : State) (a1 : Addr) (w : Int32) (h0 : Heap) (n0 : Nat) (v : Option Value) (h : Heap) (L : List Loc) : Prop := v = some (.int w) ∧ Fr n0 L ∧ h = h0
set_option maxRecDepth 65536 in
set_option maxHeartbeats 40000000 in
theorem rm6 (l : Launch) (Z : State) (a0 : Array Value) (hw : ∀ d ∈ tables_1, d.before a0 Z = true) (ws : List Jvm.Cond) (a1 : Addr) (w : Int32) (h0 : Heap) (n0 : Nat) (Z0 : n0 ≤ h0.size) (F_slot_a1 : Fld Z h0 a1 "com/example/slotter/slotter/routing/Watch" "slot" "I" (.int w)) :
    MetFree l (⟨"com/example/slotter/slotter/routing/Watch", "slot", "()I"⟩ : MethodName) (head1 (Jvm.Cond.code (⟨"com/example/slotter/slotter/routing/Watch", "slot", "()I"⟩ : MethodName) prog_72_method_4_code 1 (some .int) :: ws) ({ frames := 0, cells := 0, slots := 0, locals := 0 } : Room)) (fun a U => a = #[(.ref a1)] ∧ Z.Warmed39 U.vm ∧ U.heap = h0) (fun _ _ _ _ _ => True) (fun _ U o U' => ∃ v L, o = .returned v ∧ Q_rm6 Z a1 w h0 n0 v U'.heap L ∧ FrameEnd U o U' L ({ frames := 0, cells := 0, slots := 0, locals := 0 } : Room).cells ({ frames := 0, cells := 0, slots := 0, locals := 0 } : Room).slots) := by
  refine MetFree.of_bodySF (plainFor_of_name pn_1) hisR ?_
  intro p e s m args below meth c s₁ Bd hml0 hP hK
  obtain ⟨rfl, hZ, hh⟩ := hP
  have hx := Bd.exec
  have hby := Bd.bytes
  have hml : c.maxLocals = 1 := hml0
  have hown : s.vm.findClass "com/example/slotter/slotter/routing/Watch" = some m.cls := findClass_of_methodNamed Bd.named
  have hnm := (name_of_methodNamed Bd.named Bd.method).1
  have X0 : Stand p l e ({ frames := 0, cells := 0, slots := 0, locals := 0 } : Room) s m #[(.ref a1)] below meth c s₁ [] 0 0 := Stand.of_body Bd
  have e0 : s₁.heap = h0 := by rw [← hh, Bd.state]; rfl
  have N0 := Fr.nil n0
  refine of_go (ef_rm6 m a1) ?_
  refine Go.step (T' := s₁) (f' := (mkF m 1 #[.val (.ref a1)] [(.ref a1)])) (fun _ k => XS.aloadN X0.here hx rfl (hb hby d6_0) rfl rfl k) ?_
  obtain ⟨T1, X1, e1, st1⟩ := getF X0 hx hZ hown (host := "") (Or.inl (hw _ (List.mem_of_getElem? (i := 9) rfl))) Via.refl e0 F_slot_a1 (g := (mkF m 1 #[.val (.ref a1)] [(.ref a1)])) rfl rfl (hb hby d6_1)
  refine Go.step (T' := T1) (f' := (mkF m 4 #[.val (.ref a1)] [(.int w)])) st1 ?_
  refine goI X1 hx Bd.returns Bd.notSynchronized (hb hby d6_4) ?_ (by decide) (by decide)
  show Q_rm6 Z a1 w h0 n0 _ T1.heap _
  rw [e1]
  exact ⟨rfl, N0, rfl⟩
theorem pd_1 : parseMethodDescriptor "(I)V" = some ⟨[.int], none⟩ := by decide +kernel
theorem pd_2 : parseMethodDescriptor "()Z" = some ⟨[], some .boolean⟩ := by decide +kernel
theorem pd_3 : parseMethodDescriptor "()I" = some ⟨[], some .int⟩ := by decide +kernel
theorem pd_4 : parseMethodDescriptor "()V" = some ⟨[], none⟩ := by decide +kernel
theorem pn_0 : plainName "com/example/slotter/slotter/routing/WatchHeldPinLaw" = true := by first | (simp [plainName, overriddenIn]; done) | decide +kernel
theorem ef_rm0 (m : MethodId) (p1 : Int32) (p2 : Int32) : entryFrame m #[(.int p1), (.int p2)] maxLocals = mkF m 0 #[.val (.int p1), .val (.int p2), .unset, .unset] [] := by first | (simp [entryFrame, mkF, argsToLocals, Value.category, maxLocals]; done) | rfl
def Q_rm0 (Z : State) (p1 : Int32) (p2 : Int32) (h0 : Heap) (n0 : Nat) (v : Option Value) (h : Heap) (L : List Loc) : Prop := v = some (.int (1 : Int32)) ∧ Fr n0 L
set_option maxRecDepth 65536 in
set_option maxHeartbeats 40000000 in
theorem rm0 (l : Launch) (Z : State) (a0 : Array Value) (hw : ∀ d ∈ tables_1, d.before a0 Z = true) (ws : List Jvm.Cond) (p1 : Int32) (p2 : Int32) (h0 : Heap) (n0 : Nat) (Z0 : n0 ≤ h0.size) :
    MetFree l x (head1 (Jvm.Cond.code x code maxLocals ret :: ws) room_1) (fun a U => a = #[(.int p1), (.int p2)] ∧ Z.Warmed39 U.vm ∧ U.heap = h0) (fun _ _ _ _ _ => True) (fun _ U o U' => ∃ v L, o = .returned v ∧ Q_rm0 Z p1 p2 h0 n0 v U'.heap L ∧ FrameEnd U o U' L room_1.cells room_1.slots) := by
  refine MetFree.of_bodySF (plainFor_of_name pn_0) hisR ?_
  intro p e s m args below meth c s₁ Bd hml0 hP hK
  obtain ⟨rfl, hZ, hh⟩ := hP
  have hx := Bd.exec
  have hby := Bd.bytes
  have hml : c.maxLocals = 4 := hml0
  have hown : s.vm.findClass "com/example/slotter/slotter/routing/WatchHeldPinLaw" = some m.cls := findClass_of_methodNamed Bd.named
  have hnm := (name_of_methodNamed Bd.named Bd.method).1
  have X0 : Stand p l e room_1 s m #[(.int p1), (.int p2)] below meth c s₁ [] 0 0 := Stand.of_body Bd
  have e0 : s₁.heap = h0 := by rw [← hh, Bd.state]; rfl
  have N0 := Fr.nil n0
  refine of_go (ef_rm0 m p1 p2) ?_
  obtain ⟨T1, h1, X1, e1, E1, A1, D1, -, st1⟩ := newO X0 hx hZ hown (hw _ (List.mem_of_getElem? (i := 0) rfl)) (hw _ (List.mem_of_getElem? (i := 1) rfl)) (hw _ (List.mem_of_getElem? (i := 2) rfl)) e0 (g := (mkF m 0 #[.val (.int p1), .val (.int p2), .unset, .unset] [])) rfl (hb hby at_0) (by decide) (by decide)
  obtain ⟨b1, g1⟩ : ∃ z, z = h0.size := ⟨_, rfl⟩
  rw [← g1] at A1 D1 st1
  have g_b1 : n0 ≤ b1 := Nat.le_trans Z0 (Nat.le_of_eq g1.symm)
  have Z2 : n0 ≤ h1.size := Nat.le_trans Z0 E1.1
  have F_slot_b1 : Fld Z h1 b1 "com/example/slotter/slotter/routing/Watch" "slot" "I" (.int (0 : Int32)) := D1 (Or.inr (hw _ (List.mem_of_getElem? (i := 10) rfl))) (ty := .int) (by decide)
  have F_connection_b1 : Fld Z h1 b1 "com/example/slotter/slotter/routing/Watch" "connection" "Lcom/example/slotter/slotter/protocol/Connection;" .null := D1 (Or.inl (hw _ (List.mem_of_getElem? (i := 17) rfl))) (ty := (.object "com/example/slotter/slotter/protocol/Connection")) (by decide)
  have F_pool_b1 : Fld Z h1 b1 "com/example/slotter/slotter/routing/Watch" "pool" "Lcom/example/slotter/slotter/routing/NodePool;" .null := D1 (Or.inl (hw _ (List.mem_of_getElem? (i := 35) rfl))) (ty := (.object "com/example/slotter/slotter/routing/NodePool")) (by decide)
  refine Go.step (T' := T1) (f' := (mkF m 3 #[.val (.int p1), .val (.int p2), .unset, .unset] [(.ref b1)])) st1 ?_
  refine Go.step (T' := T1) (f' := (mkF m 4 #[.val (.int p1), .val (.int p2), .unset, .unset] [(.ref b1), (.ref b1)])) (fun _ k => XS.dup X1.here hx rfl (hb hby at_3) rfl rfl k) ?_
  refine Go.step (T' := T1) (f' := (mkF m 5 #[.val (.int p1), .val (.int p2), .unset, .unset] [(.int p1), (.ref b1), (.ref b1)])) (fun _ k => XS.iloadN X1.here hx rfl (hb hby at_4) rfl k) ?_
  obtain ⟨_, _, ⟨T3, L3, k3, n3⟩, -, X3, ⟨Lc3, hQ3, l3, y3, z3⟩, st3⟩ := X1.specialBack hx (y := (⟨"com/example/slotter/slotter/routing/Watch", "<init>", "(I)V"⟩ : MethodName)) rfl hown (mvT hZ (hw _ (List.mem_of_getElem? (i := 3) rfl))) (mvT hZ (hw _ (List.mem_of_getElem? (i := 4) rfl))) (mvT hZ (hw _ (List.mem_of_getElem? (i := 5) rfl))) (by decide) (backOf (W := 1) (rm1 l Z a0 hw [] b1 p1 h1 n0 Z2 A1 F_slot_b1 F_connection_b1 g_b1) hZ (hw _ (List.mem_of_getElem? (i := 5) rfl)) (hw _ (List.mem_of_getElem? (i := 2) rfl)) (by decide) (by decide)) (g := (mkF m 5 #[.val (.int p1), .val (.int p2), .unset, .unset] [(.int p1), (.ref b1), (.ref b1)])) rfl (by rw [hml]; rfl) (Steps.refl _) (a := b1) (argsL := [(.int p1)]) (rest := [(.ref b1)]) (lenOf pd_1 rfl) rfl (by show 2 * 0 + _ ≤ _; exact Nat.le_of_eq rfl) (hb hby at_5) (fun _ _ => ⟨rfl, e1, (by decide : 1 + 0 ≤ _), (by decide : 5 + 0 ≤ _)⟩)
  dsimp only [Pt.U, Pt.locs, Pt.cells, Pt.slots] at X3 l3 y3 z3 st3 hQ3
  subst l3 y3 z3
  obtain ⟨rfl, Nq3, Kq3, r3_0, r3_1⟩ := hQ3
  have N3 := Fr.app N0 Nq3
  have Z4 : n0 ≤ T3.heap.size := Nat.le_trans Z2 Kq3.1
  refine Go.step (T' := T3) (f' := (mkF m 8 #[.val (.int p1), .val (.int p2), .unset, .unset] [(.ref b1)])) (fun _ k => st3.trans k) ?_
  refine Go.step (T' := T3) (f' := (mkF m 9 #[.val (.int p1), .val (.int p2), .val (.ref b1), .unset] [])) (fun _ k => XS.astoreN X3.here hx rfl (hb hby at_8) rfl rfl (l' := #[.val (.int p1), .val (.int p2), .val (.ref b1), .unset]) rfl k) ?_
  refine Go.step (T' := T3) (f' := (mkF m 10 #[.val (.int p1), .val (.int p2), .val (.ref b1), .unset] [(.ref b1)])) (fun _ k => XS.aloadN X3.here hx rfl (hb hby at_9) rfl rfl k) ?_
  have q6 : Exa Z T3.heap b1 "com/example/slotter/slotter/routing/Watch" := (A1.keep Kq3)
  obtain ⟨cq5, kq5, q5a, q5b, q5c⟩ := isOf hZ rfl q6
  obtain ⟨_, _, ⟨T5, L5, k5, n5⟩, -, X5, ⟨Lc5, hQ5, l5, y5, z5⟩, st5⟩ := X3.virtualBack hx (y := (⟨"com/example/slotter/slotter/routing/Watch", "held", "()Z"⟩ : MethodName)) (z := (⟨"com/example/slotter/slotter/routing/Watch", "held", "()Z"⟩ : MethodName)) hown (mvT hZ (hw _ (List.mem_of_getElem? (i := 11) rfl))) (mvT hZ (hw _ (List.mem_of_getElem? (i := 12) rfl))) (notFace_of_selects (args := #[]) (mvT hZ (hw _ (List.mem_of_getElem? (i := 14) rfl)))) (mvT hZ (hw _ (List.mem_of_getElem? (i := 14) rfl))) (mvT hZ (hw _ (List.mem_of_getElem? (i := 13) rfl))) (by decide) (backOf (W := 0) (rm3 l Z a0 hw [] b1 T3.heap n0 Z4 r3_1) hZ (hw _ (List.mem_of_getElem? (i := 15) rfl)) (hw _ (List.mem_of_getElem? (i := 2) rfl)) (by decide) (by decide)) q5a q5c (g := (mkF m 10 #[.val (.int p1), .val (.int p2), .val (.ref b1), .unset] [(.ref b1)])) rfl (by rw [hml]; rfl) (Steps.refl _) (argsL := []) (rest := []) (lenOf pd_2 rfl) rfl (by show 2 * 0 + _ ≤ _; exact Nat.le_of_eq rfl) (hb hby at_10) (fun _ _ => ⟨rfl, rfl, (by decide : 1 + 0 ≤ _), (by decide : 5 + 0 ≤ _)⟩)
  dsimp only [Pt.U, Pt.locs, Pt.cells, Pt.slots] at X5 l5 y5 z5 st5 hQ5
  subst l5 y5 z5
  obtain ⟨rfl, Nq5, eh5⟩ := hQ5
  have N5 := Fr.app N3 Nq5
  refine Go.step (T' := T5) (f' := (mkF m 13 #[.val (.int p1), .val (.int p2), .val (.ref b1), .unset] [(.int (0 : Int32))])) (fun _ k => st5.trans k) ?_
  refine Go.step (T' := T5) (f' := (mkF m 16 #[.val (.int p1), .val (.int p2), .val (.ref b1), .unset] [])) (fun _ k => XS.ifNo X5.here hx rfl (hb hby at_13) rfl ((if0 _ _).trans (teq (by decide : (0 : Int32) = (0 : Int32))).2) k) ?_
  refine Go.step (T' := T5) (f' := (mkF m 17 #[.val (.int p1), .val (.int p2), .val (.ref b1), .unset] [(.int (1 : Int32))])) (fun _ k => XS.iconst X5.here hx rfl (hb hby at_16) k) ?_
  refine Go.step (T' := T5) (f' := (mkF m 21 #[.val (.int p1), .val (.int p2), .val (.ref b1), .unset] [(.int (1 : Int32))])) (fun _ k => XS.goto X5.here hx rfl (pc0 := 17) (pc' := 21) rfl (hb hby at_17) (by decide) (by decide) k) ?_
  refine Go.step (T' := T5) (f' := (mkF m 22 #[.val (.int p1), .val (.int p2), .val (.ref b1), .val (.int (1 : Int32))] [])) (fun _ k => XS.istoreN X5.here hx rfl (hb hby at_21) rfl (l' := #[.val (.int p1), .val (.int p2), .val (.ref b1), .val (.int (1 : Int32))]) rfl k) ?_
  refine Go.step (T' := T5) (f' := (mkF m 23 #[.val (.int p1), .val (.int p2), .val (.ref b1), .val (.int (1 : Int32))] [(.int p2)])) (fun _ k => XS.iloadN X5.here hx rfl (hb hby at_22) rfl k) ?_
  refine Go.step (T' := T5) (f' := (mkF m 24 #[.val (.int p1), .val (.int p2), .val (.ref b1), .val (.int (1 : Int32))] [(.int (1 : Int32)), (.int p2)])) (fun _ k => XS.iconst X5.here hx rfl (hb hby at_23) k) ?_
  refine Go.step (T' := T5) (f' := (mkF m 25 #[.val (.int p1), .val (.int p2), .val (.ref b1), .val (.int (1 : Int32))] [(.int (p2 &&& (1 : Int32)))])) (fun _ k => XS.iand X5.here hx rfl (hb hby at_24) rfl k) ?_
  by_cases hc25 : (p2 &&& (1 : Int32)) = (0 : Int32)
  · refine Go.step (T' := T5) (f' := (mkF m 35 #[.val (.int p1), .val (.int p2), .val (.ref b1), .val (.int (1 : Int32))] [])) (fun _ k => XS.ifYes X5.here hx rfl (pc0 := 25) (pc' := 35) rfl (hb hby at_25) rfl ((if0 _ _).trans (teq hc25).1) (by decide) (by decide) k) ?_
    refine Go.step (T' := T5) (f' := (mkF m 36 #[.val (.int p1), .val (.int p2), .val (.ref b1), .val (.int (1 : Int32))] [(.ref b1)])) (fun _ k => XS.aloadN X5.here hx rfl (hb hby at_35) rfl rfl k) ?_
    refine Go.step (T' := T5) (f' := (mkF m 37 #[.val (.int p1), .val (.int p2), .val (.ref b1), .val (.int (1 : Int32))] [(.int p2), (.ref b1)])) (fun _ k => XS.iloadN X5.here hx rfl (hb hby at_36) rfl k) ?_
    refine Go.step (T' := T5) (f' := (mkF m 38 #[.val (.int p1), .val (.int p2), .val (.ref b1), .val (.int (1 : Int32))] [(.int (2 : Int32)), (.int p2), (.ref b1)])) (fun _ k => XS.iconst X5.here hx rfl (hb hby at_37) k) ?_
    refine Go.step (T' := T5) (f' := (mkF m 39 #[.val (.int p1), .val (.int p2), .val (.ref b1), .val (.int (1 : Int32))] [(.int (p2 &&& (2 : Int32))), (.ref b1)])) (fun _ k => XS.iand X5.here hx rfl (hb hby at_38) rfl k) ?_
    by_cases hc39 : (p2 &&& (2 : Int32)) = (0 : Int32)
    · refine Go.step (T' := T5) (f' := (mkF m 46 #[.val (.int p1), .val (.int p2), .val (.ref b1), .val (.int (1 : Int32))] [(.ref b1)])) (fun _ k => XS.ifYes X5.here hx rfl (pc0 := 39) (pc' := 46) rfl (hb hby at_39) rfl ((if0 _ _).trans (teq hc39).1) (by decide) (by decide) k) ?_
      refine Go.step (T' := T5) (f' := (mkF m 47 #[.val (.int p1), .val (.int p2), .val (.ref b1), .val (.int (1 : Int32))] [(.int (0 : Int32)), (.ref b1)])) (fun _ k => XS.iconst X5.here hx rfl (hb hby at_46) k) ?_
      obtain ⟨cq7, kq7, q7a, q7b, q7c⟩ := isOf hZ eh5 q6
      obtain ⟨_, _, ⟨T7, L7, k7, n7⟩, -, X7, ⟨Lc7, hQ7, l7, y7, z7⟩, st7⟩ := X5.virtualBack hx (y := (⟨"com/example/slotter/slotter/routing/Watch", "letGo", "(Z)V"⟩ : MethodName)) (z := (⟨"com/example/slotter/slotter/routing/Watch", "letGo", "(Z)V"⟩ : MethodName)) hown (mvT hZ (hw _ (List.mem_of_getElem? (i := 33) rfl))) (mvT hZ (hw _ (List.mem_of_getElem? (i := 24) rfl))) (notFace_of_selects (args := #[]) (mvT hZ (hw _ (List.mem_of_getElem? (i := 26) rfl)))) (mvT hZ (hw _ (List.mem_of_getElem? (i := 26) rfl))) (mvT hZ (hw _ (List.mem_of_getElem? (i := 25) rfl))) (by decide) (backOf (W := 0) (rm5 l Z a0 hw [] b1 (0 : Int32) T3.heap n0 Z4 r3_1) hZ (hw _ (List.mem_of_getElem? (i := 27) rfl)) (hw _ (List.mem_of_getElem? (i := 2) rfl)) (by decide) (by decide)) q7a q7c (g := (mkF m 47 #[.val (.int p1), .val (.int p2), .val (.ref b1), .val (.int (1 : Int32))] [(.int (0 : Int32)), (.ref b1)])) rfl (by rw [hml]; rfl) (Steps.refl _) (argsL := [(.int (0 : Int32))]) (rest := []) (lenOf pd_0 rfl) rfl (by show 2 * 0 + _ ≤ _; exact Nat.le_of_eq rfl) (hb hby at_47) (fun _ _ => ⟨rfl, eh5, (by decide : 1 + 0 ≤ _), (by decide : 5 + 0 ≤ _)⟩)
      dsimp only [Pt.U, Pt.locs, Pt.cells, Pt.slots] at X7 l7 y7 z7 st7 hQ7
      subst l7 y7 z7
      obtain ⟨rfl, Nq7, eh7⟩ := hQ7
      have N7 := Fr.app N5 Nq7
      refine Go.step (T' := T7) (f' := (mkF m 50 #[.val (.int p1), .val (.int p2), .val (.ref b1), .val (.int (1 : Int32))] [])) (fun _ k => st7.trans k) ?_
      refine Go.step (T' := T7) (f' := (mkF m 51 #[.val (.int p1), .val (.int p2), .val (.ref b1), .val (.int (1 : Int32))] [(.int (1 : Int32))])) (fun _ k => XS.iloadN X7.here hx rfl (hb hby at_50) rfl k) ?_
      refine Go.step (T' := T7) (f' := (mkF m 54 #[.val (.int p1), .val (.int p2), .val (.ref b1), .val (.int (1 : Int32))] [])) (fun _ k => XS.ifNo X7.here hx rfl (hb hby at_51) rfl ((if0 _ _).trans (feq (by decide : ¬ ((1 : Int32) = (0 : Int32)))).1) k) ?_
      refine Go.step (T' := T7) (f' := (mkF m 55 #[.val (.int p1), .val (.int p2), .val (.ref b1), .val (.int (1 : Int32))] [(.ref b1)])) (fun _ k => XS.aloadN X7.here hx rfl (hb hby at_54) rfl rfl k) ?_
      obtain ⟨cq8, kq8, q8a, q8b, q8c⟩ := isOf hZ eh7 q6
      obtain ⟨_, _, ⟨T8, L8, k8, n8⟩, -, X8, ⟨Lc8, hQ8, l8, y8, z8⟩, st8⟩ := X7.virtualBack hx (y := (⟨"com/example/slotter/slotter/routing/Watch", "held", "()Z"⟩ : MethodName)) (z := (⟨"com/example/slotter/slotter/routing/Watch", "held", "()Z"⟩ : MethodName)) hown (mvT hZ (hw _ (List.mem_of_getElem? (i := 11) rfl))) (mvT hZ (hw _ (List.mem_of_getElem? (i := 12) rfl))) (notFace_of_selects (args := #[]) (mvT hZ (hw _ (List.mem_of_getElem? (i := 14) rfl)))) (mvT hZ (hw _ (List.mem_of_getElem? (i := 14) rfl))) (mvT hZ (hw _ (List.mem_of_getElem? (i := 13) rfl))) (by decide) (backOf (W := 0) (rm3 l Z a0 hw [] b1 T3.heap n0 Z4 r3_1) hZ (hw _ (List.mem_of_getElem? (i := 15) rfl)) (hw _ (List.mem_of_getElem? (i := 2) rfl)) (by decide) (by decide)) q8a q8c (g := (mkF m 55 #[.val (.int p1), .val (.int p2), .val (.ref b1), .val (.int (1 : Int32))] [(.ref b1)])) rfl (by rw [hml]; rfl) (Steps.refl _) (argsL := []) (rest := []) (lenOf pd_2 rfl) rfl (by show 2 * 0 + _ ≤ _; exact Nat.le_of_eq rfl) (hb hby at_55) (fun _ _ => ⟨rfl, eh7, (by decide : 1 + 0 ≤ _), (by decide : 5 + 0 ≤ _)⟩)
      dsimp only [Pt.U, Pt.locs, Pt.cells, Pt.slots] at X8 l8 y8 z8 st8 hQ8
      subst l8 y8 z8
      obtain ⟨rfl, Nq8, eh8⟩ := hQ8
      have N8 := Fr.app N7 Nq8
      refine Go.step (T' := T8) (f' := (mkF m 58 #[.val (.int p1), .val (.int p2), .val (.ref b1), .val (.int (1 : Int32))] [(.int (0 : Int32))])) (fun _ k => st8.trans k) ?_
      refine Go.step (T' := T8) (f' := (mkF m 61 #[.val (.int p1), .val (.int p2), .val (.ref b1), .val (.int (1 : Int32))] [])) (fun _ k => XS.ifNo X8.here hx rfl (hb hby at_58) rfl ((if0 _ _).trans (teq (by decide : (0 : Int32) = (0 : Int32))).2) k) ?_
      refine Go.step (T' := T8) (f' := (mkF m 62 #[.val (.int p1), .val (.int p2), .val (.ref b1), .val (.int (1 : Int32))] [(.int (1 : Int32))])) (fun _ k => XS.iconst X8.here hx rfl (hb hby at_61) k) ?_
      refine Go.step (T' := T8) (f' := (mkF m 66 #[.val (.int p1), .val (.int p2), .val (.ref b1), .val (.int (1 : Int32))] [(.int (1 : Int32))])) (fun _ k => XS.goto X8.here hx rfl (pc0 := 62) (pc' := 66) rfl (hb hby at_62) (by decide) (by decide) k) ?_
      refine Go.step (T' := T8) (f' := (mkF m 67 #[.val (.int p1), .val (.int p2), .val (.ref b1), .val (.int (1 : Int32))] [])) (fun _ k => XS.istoreN X8.here hx rfl (hb hby at_66) rfl (l' := #[.val (.int p1), .val (.int p2), .val (.ref b1), .val (.int (1 : Int32))]) rfl k) ?_
      refine Go.step (T' := T8) (f' := (mkF m 68 #[.val (.int p1), .val (.int p2), .val (.ref b1), .val (.int (1 : Int32))] [(.int (1 : Int32))])) (fun _ k => XS.iloadN X8.here hx rfl (hb hby at_67) rfl k) ?_
      refine Go.step (T' := T8) (f' := (mkF m 71 #[.val (.int p1), .val (.int p2), .val (.ref b1), .val (.int (1 : Int32))] [])) (fun _ k => XS.ifNo X8.here hx rfl (hb hby at_68) rfl ((if0 _ _).trans (feq (by decide : ¬ ((1 : Int32) = (0 : Int32)))).1) k) ?_
      refine Go.step (T' := T8) (f' := (mkF m 72 #[.val (.int p1), .val (.int p2), .val (.ref b1), .val (.int (1 : Int32))] [(.ref b1)])) (fun _ k => XS.aloadN X8.here hx rfl (hb hby at_71) rfl rfl k) ?_
      obtain ⟨cq9, kq9, q9a, q9b, q9c⟩ := isOf hZ eh8 q6
      obtain ⟨_, _, ⟨T9, L9, k9, n9⟩, -, X9, ⟨Lc9, hQ9, l9, y9, z9⟩, st9⟩ := X8.virtualBack hx (y := (⟨"com/example/slotter/slotter/routing/Watch", "slot", "()I"⟩ : MethodName)) (z := (⟨"com/example/slotter/slotter/routing/Watch", "slot", "()I"⟩ : MethodName)) hown (mvT hZ (hw _ (List.mem_of_getElem? (i := 28) rfl))) (mvT hZ (hw _ (List.mem_of_getElem? (i := 29) rfl))) (notFace_of_selects (args := #[]) (mvT hZ (hw _ (List.mem_of_getElem? (i := 31) rfl)))) (mvT hZ (hw _ (List.mem_of_getElem? (i := 31) rfl))) (mvT hZ (hw _ (List.mem_of_getElem? (i := 30) rfl))) (by decide) (backOf (W := 0) (rm6 l Z a0 hw [] b1 p1 T3.heap n0 Z4 r3_0) hZ (hw _ (List.mem_of_getElem? (i := 32) rfl)) (hw _ (List.mem_of_getElem? (i := 2) rfl)) (by decide) (by decide)) q9a q9c (g := (mkF m 72 #[.val (.int p1), .val (.int p2), .val (.ref b1), .val (.int (1 : Int32))] [(.ref b1)])) rfl (by rw [hml]; rfl) (Steps.refl _) (argsL := []) (rest := []) (lenOf pd_3 rfl) rfl (by show 2 * 0 + _ ≤ _; exact Nat.le_of_eq rfl) (hb hby at_72) (fun _ _ => ⟨rfl, eh8, (by decide : 1 + 0 ≤ _), (by decide : 5 + 0 ≤ _)⟩)
      dsimp only [Pt.U, Pt.locs, Pt.cells, Pt.slots] at X9 l9 y9 z9 st9 hQ9
      subst l9 y9 z9
      obtain ⟨rfl, Nq9, eh9⟩ := hQ9
      have N9 := Fr.app N8 Nq9
      refine Go.step (T' := T9) (f' := (mkF m 75 #[.val (.int p1), .val (.int p2), .val (.ref b1), .val (.int (1 : Int32))] [(.int p1)])) (fun _ k => st9.trans k) ?_
      refine Go.step (T' := T9) (f' := (mkF m 76 #[.val (.int p1), .val (.int p2), .val (.ref b1), .val (.int (1 : Int32))] [(.int p1), (.int p1)])) (fun _ k => XS.iloadN X9.here hx rfl (hb hby at_75) rfl k) ?_
      refine Go.step (T' := T9) (f' := (mkF m 79 #[.val (.int p1), .val (.int p2), .val (.ref b1), .val (.int (1 : Int32))] [])) (fun _ k => XS.icmpNo X9.here hx rfl (hb hby at_76) rfl (teq (rfl : p1 = p1)).2 k) ?_
      refine Go.step (T' := T9) (f' := (mkF m 80 #[.val (.int p1), .val (.int p2), .val (.ref b1), .val (.int (1 : Int32))] [(.int (1 : Int32))])) (fun _ k => XS.iconst X9.here hx rfl (hb hby at_79) k) ?_
      refine Go.step (T' := T9) (f' := (mkF m 84 #[.val (.int p1), .val (.int p2), .val (.ref b1), .val (.int (1 : Int32))] [(.int (1 : Int32))])) (fun _ k => XS.goto X9.here hx rfl (pc0 := 80) (pc' := 84) rfl (hb hby at_80) (by decide) (by decide) k) ?_
      refine Go.step (T' := T9) (f' := (mkF m 85 #[.val (.int p1), .val (.int p2), .val (.ref b1), .val (.int (1 : Int32))] [])) (fun _ k => XS.istoreN X9.here hx rfl (hb hby at_84) rfl (l' := #[.val (.int p1), .val (.int p2), .val (.ref b1), .val (.int (1 : Int32))]) rfl k) ?_
      refine Go.step (T' := T9) (f' := (mkF m 86 #[.val (.int p1), .val (.int p2), .val (.ref b1), .val (.int (1 : Int32))] [(.int (1 : Int32))])) (fun _ k => XS.iloadN X9.here hx rfl (hb hby at_85) rfl k) ?_
      refine goN X9 hx (t := .boolean) Bd.returns (by simp) Bd.notSynchronized (hb hby at_86) ?_ (by decide) (by decide)
      show Q_rm0 Z p1 p2 h0 n0 _ T9.heap _
      rw [eh9]
      exact ⟨rfl, N9⟩
    · refine Go.step (T' := T5) (f' := (mkF m 42 #[.val (.int p1), .val (.int p2), .val (.ref b1), .val (.int (1 : Int32))] [(.ref b1)])) (fun _ k => XS.ifNo X5.here hx rfl (hb hby at_39) rfl ((if0 _ _).trans (feq hc39).1) k) ?_
      refine Go.step (T' := T5) (f' := (mkF m 43 #[.val (.int p1), .val (.int p2), .val (.ref b1), .val (.int (1 : Int32))] [(.int (1 : Int32)), (.ref b1)])) (fun _ k => XS.iconst X5.here hx rfl (hb hby at_42) k) ?_
      refine Go.step (T' := T5) (f' := (mkF m 47 #[.val (.int p1), .val (.int p2), .val (.ref b1), .val (.int (1 : Int32))] [(.int (1 : Int32)), (.ref b1)])) (fun _ k => XS.goto X5.here hx rfl (pc0 := 43) (pc' := 47) rfl (hb hby at_43) (by decide) (by decide) k) ?_
      obtain ⟨cq10, kq10, q10a, q10b, q10c⟩ := isOf hZ eh5 q6
      obtain ⟨_, _, ⟨T10, L10, k10, n10⟩, -, X10, ⟨Lc10, hQ10, l10, y10, z10⟩, st10⟩ := X5.virtualBack hx (y := (⟨"com/example/slotter/slotter/routing/Watch", "letGo", "(Z)V"⟩ : MethodName)) (z := (⟨"com/example/slotter/slotter/routing/Watch", "letGo", "(Z)V"⟩ : MethodName)) hown (mvT hZ (hw _ (List.mem_of_getElem? (i := 33) rfl))) (mvT hZ (hw _ (List.mem_of_getElem? (i := 24) rfl))) (notFace_of_selects (args := #[]) (mvT hZ (hw _ (List.mem_of_getElem? (i := 26) rfl)))) (mvT hZ (hw _ (List.mem_of_getElem? (i := 26) rfl))) (mvT hZ (hw _ (List.mem_of_getElem? (i := 25) rfl))) (by decide) (backOf (W := 0) (rm5 l Z a0 hw [] b1 (1 : Int32) T3.heap n0 Z4 r3_1) hZ (hw _ (List.mem_of_getElem? (i := 27) rfl)) (hw _ (List.mem_of_getElem? (i := 2) rfl)) (by decide) (by decide)) q10a q10c (g := (mkF m 47 #[.val (.int p1), .val (.int p2), .val (.ref b1), .val (.int (1 : Int32))] [(.int (1 : Int32)), (.ref b1)])) rfl (by rw [hml]; rfl) (Steps.refl _) (argsL := [(.int (1 : Int32))]) (rest := []) (lenOf pd_0 rfl) rfl (by show 2 * 0 + _ ≤ _; exact Nat.le_of_eq rfl) (hb hby at_47) (fun _ _ => ⟨rfl, eh5, (by decide : 1 + 0 ≤ _), (by decide : 5 + 0 ≤ _)⟩)
      dsimp only [Pt.U, Pt.locs, Pt.cells, Pt.slots] at X10 l10 y10 z10 st10 hQ10
      subst l10 y10 z10
      obtain ⟨rfl, Nq10, eh10⟩ := hQ10
      have N10 := Fr.app N5 Nq10
      refine Go.step (T' := T10) (f' := (mkF m 50 #[.val (.int p1), .val (.int p2), .val (.ref b1), .val (.int (1 : Int32))] [])) (fun _ k => st10.trans k) ?_
      refine Go.step (T' := T10) (f' := (mkF m 51 #[.val (.int p1), .val (.int p2), .val (.ref b1), .val (.int (1 : Int32))] [(.int (1 : Int32))])) (fun _ k => XS.iloadN X10.here hx rfl (hb hby at_50) rfl k) ?_
      refine Go.step (T' := T10) (f' := (mkF m 54 #[.val (.int p1), .val (.int p2), .val (.ref b1), .val (.int (1 : Int32))] [])) (fun _ k => XS.ifNo X10.here hx rfl (hb hby at_51) rfl ((if0 _ _).trans (feq (by decide : ¬ ((1 : Int32) = (0 : Int32)))).1) k) ?_
      refine Go.step (T' := T10) (f' := (mkF m 55 #[.val (.int p1), .val (.int p2), .val (.ref b1), .val (.int (1 : Int32))] [(.ref b1)])) (fun _ k => XS.aloadN X10.here hx rfl (hb hby at_54) rfl rfl k) ?_
      obtain ⟨cq11, kq11, q11a, q11b, q11c⟩ := isOf hZ eh10 q6
      obtain ⟨_, _, ⟨T11, L11, k11, n11⟩, -, X11, ⟨Lc11, hQ11, l11, y11, z11⟩, st11⟩ := X10.virtualBack hx (y := (⟨"com/example/slotter/slotter/routing/Watch", "held", "()Z"⟩ : MethodName)) (z := (⟨"com/example/slotter/slotter/routing/Watch", "held", "()Z"⟩ : MethodName)) hown (mvT hZ (hw _ (List.mem_of_getElem? (i := 11) rfl))) (mvT hZ (hw _ (List.mem_of_getElem? (i := 12) rfl))) (notFace_of_selects (args := #[]) (mvT hZ (hw _ (List.mem_of_getElem? (i := 14) rfl)))) (mvT hZ (hw _ (List.mem_of_getElem? (i := 14) rfl))) (mvT hZ (hw _ (List.mem_of_getElem? (i := 13) rfl))) (by decide) (backOf (W := 0) (rm3 l Z a0 hw [] b1 T3.heap n0 Z4 r3_1) hZ (hw _ (List.mem_of_getElem? (i := 15) rfl)) (hw _ (List.mem_of_getElem? (i := 2) rfl)) (by decide) (by decide)) q11a q11c (g := (mkF m 55 #[.val (.int p1), .val (.int p2), .val (.ref b1), .val (.int (1 : Int32))] [(.ref b1)])) rfl (by rw [hml]; rfl) (Steps.refl _) (argsL := []) (rest := []) (lenOf pd_2 rfl) rfl (by show 2 * 0 + _ ≤ _; exact Nat.le_of_eq rfl) (hb hby at_55) (fun _ _ => ⟨rfl, eh10, (by decide : 1 + 0 ≤ _), (by decide : 5 + 0 ≤ _)⟩)
      dsimp only [Pt.U, Pt.locs, Pt.cells, Pt.slots] at X11 l11 y11 z11 st11 hQ11
      subst l11 y11 z11
      obtain ⟨rfl, Nq11, eh11⟩ := hQ11
      have N11 := Fr.app N10 Nq11
      refine Go.step (T' := T11) (f' := (mkF m 58 #[.val (.int p1), .val (.int p2), .val (.ref b1), .val (.int (1 : Int32))] [(.int (0 : Int32))])) (fun _ k => st11.trans k) ?_
      refine Go.step (T' := T11) (f' := (mkF m 61 #[.val (.int p1), .val (.int p2), .val (.ref b1), .val (.int (1 : Int32))] [])) (fun _ k => XS.ifNo X11.here hx rfl (hb hby at_58) rfl ((if0 _ _).trans (teq (by decide : (0 : Int32) = (0 : Int32))).2) k) ?_
      refine Go.step (T' := T11) (f' := (mkF m 62 #[.val (.int p1), .val (.int p2), .val (.ref b1), .val (.int (1 : Int32))] [(.int (1 : Int32))])) (fun _ k => XS.iconst X11.here hx rfl (hb hby at_61) k) ?_
      refine Go.step (T' := T11) (f' := (mkF m 66 #[.val (.int p1), .val (.int p2), .val (.ref b1), .val (.int (1 : Int32))] [(.int (1 : Int32))])) (fun _ k => XS.goto X11.here hx rfl (pc0 := 62) (pc' := 66) rfl (hb hby at_62) (by decide) (by decide) k) ?_
      refine Go.step (T' := T11) (f' := (mkF m 67 #[.val (.int p1), .val (.int p2), .val (.ref b1), .val (.int (1 : Int32))] [])) (fun _ k => XS.istoreN X11.here hx rfl (hb hby at_66) rfl (l' := #[.val (.int p1), .val (.int p2), .val (.ref b1), .val (.int (1 : Int32))]) rfl k) ?_
      refine Go.step (T' := T11) (f' := (mkF m 68 #[.val (.int p1), .val (.int p2), .val (.ref b1), .val (.int (1 : Int32))] [(.int (1 : Int32))])) (fun _ k => XS.iloadN X11.here hx rfl (hb hby at_67) rfl k) ?_
      refine Go.step (T' := T11) (f' := (mkF m 71 #[.val (.int p1), .val (.int p2), .val (.ref b1), .val (.int (1 : Int32))] [])) (fun _ k => XS.ifNo X11.here hx rfl (hb hby at_68) rfl ((if0 _ _).trans (feq (by decide : ¬ ((1 : Int32) = (0 : Int32)))).1) k) ?_
      refine Go.step (T' := T11) (f' := (mkF m 72 #[.val (.int p1), .val (.int p2), .val (.ref b1), .val (.int (1 : Int32))] [(.ref b1)])) (fun _ k => XS.aloadN X11.here hx rfl (hb hby at_71) rfl rfl k) ?_
      obtain ⟨cq12, kq12, q12a, q12b, q12c⟩ := isOf hZ eh11 q6
      obtain ⟨_, _, ⟨T12, L12, k12, n12⟩, -, X12, ⟨Lc12, hQ12, l12, y12, z12⟩, st12⟩ := X11.virtualBack hx (y := (⟨"com/example/slotter/slotter/routing/Watch", "slot", "()I"⟩ : MethodName)) (z := (⟨"com/example/slotter/slotter/routing/Watch", "slot", "()I"⟩ : MethodName)) hown (mvT hZ (hw _ (List.mem_of_getElem? (i := 28) rfl))) (mvT hZ (hw _ (List.mem_of_getElem? (i := 29) rfl))) (notFace_of_selects (args := #[]) (mvT hZ (hw _ (List.mem_of_getElem? (i := 31) rfl)))) (mvT hZ (hw _ (List.mem_of_getElem? (i := 31) rfl))) (mvT hZ (hw _ (List.mem_of_getElem? (i := 30) rfl))) (by decide) (backOf (W := 0) (rm6 l Z a0 hw [] b1 p1 T3.heap n0 Z4 r3_0) hZ (hw _ (List.mem_of_getElem? (i := 32) rfl)) (hw _ (List.mem_of_getElem? (i := 2) rfl)) (by decide) (by decide)) q12a q12c (g := (mkF m 72 #[.val (.int p1), .val (.int p2), .val (.ref b1), .val (.int (1 : Int32))] [(.ref b1)])) rfl (by rw [hml]; rfl) (Steps.refl _) (argsL := []) (rest := []) (lenOf pd_3 rfl) rfl (by show 2 * 0 + _ ≤ _; exact Nat.le_of_eq rfl) (hb hby at_72) (fun _ _ => ⟨rfl, eh11, (by decide : 1 + 0 ≤ _), (by decide : 5 + 0 ≤ _)⟩)
      dsimp only [Pt.U, Pt.locs, Pt.cells, Pt.slots] at X12 l12 y12 z12 st12 hQ12
      subst l12 y12 z12
      obtain ⟨rfl, Nq12, eh12⟩ := hQ12
      have N12 := Fr.app N11 Nq12
      refine Go.step (T' := T12) (f' := (mkF m 75 #[.val (.int p1), .val (.int p2), .val (.ref b1), .val (.int (1 : Int32))] [(.int p1)])) (fun _ k => st12.trans k) ?_
      refine Go.step (T' := T12) (f' := (mkF m 76 #[.val (.int p1), .val (.int p2), .val (.ref b1), .val (.int (1 : Int32))] [(.int p1), (.int p1)])) (fun _ k => XS.iloadN X12.here hx rfl (hb hby at_75) rfl k) ?_
      refine Go.step (T' := T12) (f' := (mkF m 79 #[.val (.int p1), .val (.int p2), .val (.ref b1), .val (.int (1 : Int32))] [])) (fun _ k => XS.icmpNo X12.here hx rfl (hb hby at_76) rfl (teq (rfl : p1 = p1)).2 k) ?_
      refine Go.step (T' := T12) (f' := (mkF m 80 #[.val (.int p1), .val (.int p2), .val (.ref b1), .val (.int (1 : Int32))] [(.int (1 : Int32))])) (fun _ k => XS.iconst X12.here hx rfl (hb hby at_79) k) ?_
      refine Go.step (T' := T12) (f' := (mkF m 84 #[.val (.int p1), .val (.int p2), .val (.ref b1), .val (.int (1 : Int32))] [(.int (1 : Int32))])) (fun _ k => XS.goto X12.here hx rfl (pc0 := 80) (pc' := 84) rfl (hb hby at_80) (by decide) (by decide) k) ?_
      refine Go.step (T' := T12) (f' := (mkF m 85 #[.val (.int p1), .val (.int p2), .val (.ref b1), .val (.int (1 : Int32))] [])) (fun _ k => XS.istoreN X12.here hx rfl (hb hby at_84) rfl (l' := #[.val (.int p1), .val (.int p2), .val (.ref b1), .val (.int (1 : Int32))]) rfl k) ?_
      refine Go.step (T' := T12) (f' := (mkF m 86 #[.val (.int p1), .val (.int p2), .val (.ref b1), .val (.int (1 : Int32))] [(.int (1 : Int32))])) (fun _ k => XS.iloadN X12.here hx rfl (hb hby at_85) rfl k) ?_
      refine goN X12 hx (t := .boolean) Bd.returns (by simp) Bd.notSynchronized (hb hby at_86) ?_ (by decide) (by decide)
      show Q_rm0 Z p1 p2 h0 n0 _ T12.heap _
      rw [eh12]
      exact ⟨rfl, N12⟩
  · refine Go.step (T' := T5) (f' := (mkF m 28 #[.val (.int p1), .val (.int p2), .val (.ref b1), .val (.int (1 : Int32))] [])) (fun _ k => XS.ifNo X5.here hx rfl (hb hby at_25) rfl ((if0 _ _).trans (feq hc25).1) k) ?_
    refine Go.step (T' := T5) (f' := (mkF m 29 #[.val (.int p1), .val (.int p2), .val (.ref b1), .val (.int (1 : Int32))] [(.ref b1)])) (fun _ k => XS.aloadN X5.here hx rfl (hb hby at_28) rfl rfl k) ?_
    obtain ⟨cq13, kq13, q13a, q13b, q13c⟩ := isOf hZ eh5 q6
    obtain ⟨_, _, ⟨T13, L13, k13, n13⟩, -, X13, ⟨Lc13, hQ13, l13, y13, z13⟩, st13⟩ := X5.virtualBack hx (y := (⟨"com/example/slotter/slotter/routing/Watch", "close", "()V"⟩ : MethodName)) (z := (⟨"com/example/slotter/slotter/routing/Watch", "close", "()V"⟩ : MethodName)) hown (mvT hZ (hw _ (List.mem_of_getElem? (i := 18) rfl))) (mvT hZ (hw _ (List.mem_of_getElem? (i := 19) rfl))) (notFace_of_selects (args := #[]) (mvT hZ (hw _ (List.mem_of_getElem? (i := 21) rfl)))) (mvT hZ (hw _ (List.mem_of_getElem? (i := 21) rfl))) (mvT hZ (hw _ (List.mem_of_getElem? (i := 20) rfl))) (by decide) (backOf (W := 0) (rm4 l Z a0 hw [] b1 T3.heap n0 Z4 q6 r3_1) hZ (hw _ (List.mem_of_getElem? (i := 22) rfl)) (hw _ (List.mem_of_getElem? (i := 2) rfl)) (by decide) (by decide)) q13a q13c (g := (mkF m 29 #[.val (.int p1), .val (.int p2), .val (.ref b1), .val (.int (1 : Int32))] [(.ref b1)])) rfl (by rw [hml]; rfl) (Steps.refl _) (argsL := []) (rest := []) (lenOf pd_4 rfl) rfl (by show 2 * 0 + _ ≤ _; exact Nat.le_of_eq rfl) (hb hby at_29) (fun _ _ => ⟨rfl, eh5, (by decide : 1 + 0 ≤ _), (by decide : 5 + 0 ≤ _)⟩)
    dsimp only [Pt.U, Pt.locs, Pt.cells, Pt.slots] at X13 l13 y13 z13 st13 hQ13
    subst l13 y13 z13
    obtain ⟨rfl, Nq13, eh13⟩ := hQ13
    have N13 := Fr.app N5 Nq13
    refine Go.step (T' := T13) (f' := (mkF m 32 #[.val (.int p1), .val (.int p2), .val (.ref b1), .val (.int (1 : Int32))] [])) (fun _ k => st13.trans k) ?_
    refine Go.step (T' := T13) (f' := (mkF m 50 #[.val (.int p1), .val (.int p2), .val (.ref b1), .val (.int (1 : Int32))] [])) (fun _ k => XS.goto X13.here hx rfl (pc0 := 32) (pc' := 50) rfl (hb hby at_32) (by decide) (by decide) k) ?_
    refine Go.step (T' := T13) (f' := (mkF m 51 #[.val (.int p1), .val (.int p2), .val (.ref b1), .val (.int (1 : Int32))] [(.int (1 : Int32))])) (fun _ k => XS.iloadN X13.here hx rfl (hb hby at_50) rfl k) ?_
    refine Go.step (T' := T13) (f' := (mkF m 54 #[.val (.int p1), .val (.int p2), .val (.ref b1), .val (.int (1 : Int32))] [])) (fun _ k => XS.ifNo X13.here hx rfl (hb hby at_51) rfl ((if0 _ _).trans (feq (by decide : ¬ ((1 : Int32) = (0 : Int32)))).1) k) ?_
    refine Go.step (T' := T13) (f' := (mkF m 55 #[.val (.int p1), .val (.int p2), .val (.ref b1), .val (.int (1 : Int32))] [(.ref b1)])) (fun _ k => XS.aloadN X13.here hx rfl (hb hby at_54) rfl rfl k) ?_
    obtain ⟨cq14, kq14, q14a, q14b, q14c⟩ := isOf hZ eh13 q6
    obtain ⟨_, _, ⟨T14, L14, k14, n14⟩, -, X14, ⟨Lc14, hQ14, l14, y14, z14⟩, st14⟩ := X13.virtualBack hx (y := (⟨"com/example/slotter/slotter/routing/Watch", "held", "()Z"⟩ : MethodName)) (z := (⟨"com/example/slotter/slotter/routing/Watch", "held", "()Z"⟩ : MethodName)) hown (mvT hZ (hw _ (List.mem_of_getElem? (i := 11) rfl))) (mvT hZ (hw _ (List.mem_of_getElem? (i := 12) rfl))) (notFace_of_selects (args := #[]) (mvT hZ (hw _ (List.mem_of_getElem? (i := 14) rfl)))) (mvT hZ (hw _ (List.mem_of_getElem? (i := 14) rfl))) (mvT hZ (hw _ (List.mem_of_getElem? (i := 13) rfl))) (by decide) (backOf (W := 0) (rm3 l Z a0 hw [] b1 T3.heap n0 Z4 r3_1) hZ (hw _ (List.mem_of_getElem? (i := 15) rfl)) (hw _ (List.mem_of_getElem? (i := 2) rfl)) (by decide) (by decide)) q14a q14c (g := (mkF m 55 #[.val (.int p1), .val (.int p2), .val (.ref b1), .val (.int (1 : Int32))] [(.ref b1)])) rfl (by rw [hml]; rfl) (Steps.refl _) (argsL := []) (rest := []) (lenOf pd_2 rfl) rfl (by show 2 * 0 + _ ≤ _; exact Nat.le_of_eq rfl) (hb hby at_55) (fun _ _ => ⟨rfl, eh13, (by decide : 1 + 0 ≤ _), (by decide : 5 + 0 ≤ _)⟩)
    dsimp only [Pt.U, Pt.locs, Pt.cells, Pt.slots] at X14 l14 y14 z14 st14 hQ14
    subst l14 y14 z14
    obtain ⟨rfl, Nq14, eh14⟩ := hQ14
    have N14 := Fr.app N13 Nq14
    refine Go.step (T' := T14) (f' := (mkF m 58 #[.val (.int p1), .val (.int p2), .val (.ref b1), .val (.int (1 : Int32))] [(.int (0 : Int32))])) (fun _ k => st14.trans k) ?_
    refine Go.step (T' := T14) (f' := (mkF m 61 #[.val (.int p1), .val (.int p2), .val (.ref b1), .val (.int (1 : Int32))] [])) (fun _ k => XS.ifNo X14.here hx rfl (hb hby at_58) rfl ((if0 _ _).trans (teq (by decide : (0 : Int32) = (0 : Int32))).2) k) ?_
    refine Go.step (T' := T14) (f' := (mkF m 62 #[.val (.int p1), .val (.int p2), .val (.ref b1), .val (.int (1 : Int32))] [(.int (1 : Int32))])) (fun _ k => XS.iconst X14.here hx rfl (hb hby at_61) k) ?_
    refine Go.step (T' := T14) (f' := (mkF m 66 #[.val (.int p1), .val (.int p2), .val (.ref b1), .val (.int (1 : Int32))] [(.int (1 : Int32))])) (fun _ k => XS.goto X14.here hx rfl (pc0 := 62) (pc' := 66) rfl (hb hby at_62) (by decide) (by decide) k) ?_
    refine Go.step (T' := T14) (f' := (mkF m 67 #[.val (.int p1), .val (.int p2), .val (.ref b1), .val (.int (1 : Int32))] [])) (fun _ k => XS.istoreN X14.here hx rfl (hb hby at_66) rfl (l' := #[.val (.int p1), .val (.int p2), .val (.ref b1), .val (.int (1 : Int32))]) rfl k) ?_
    refine Go.step (T' := T14) (f' := (mkF m 68 #[.val (.int p1), .val (.int p2), .val (.ref b1), .val (.int (1 : Int32))] [(.int (1 : Int32))])) (fun _ k => XS.iloadN X14.here hx rfl (hb hby at_67) rfl k) ?_
    refine Go.step (T' := T14) (f' := (mkF m 71 #[.val (.int p1), .val (.int p2), .val (.ref b1), .val (.int (1 : Int32))] [])) (fun _ k => XS.ifNo X14.here hx rfl (hb hby at_68) rfl ((if0 _ _).trans (feq (by decide : ¬ ((1 : Int32) = (0 : Int32)))).1) k) ?_
    refine Go.step (T' := T14) (f' := (mkF m 72 #[.val (.int p1), .val (.int p2), .val (.ref b1), .val (.int (1 : Int32))] [(.ref b1)])) (fun _ k => XS.aloadN X14.here hx rfl (hb hby at_71) rfl rfl k) ?_
    obtain ⟨cq15, kq15, q15a, q15b, q15c⟩ := isOf hZ eh14 q6
    obtain ⟨_, _, ⟨T15, L15, k15, n15⟩, -, X15, ⟨Lc15, hQ15, l15, y15, z15⟩, st15⟩ := X14.virtualBack hx (y := (⟨"com/example/slotter/slotter/routing/Watch", "slot", "()I"⟩ : MethodName)) (z := (⟨"com/example/slotter/slotter/routing/Watch", "slot", "()I"⟩ : MethodName)) hown (mvT hZ (hw _ (List.mem_of_getElem? (i := 28) rfl))) (mvT hZ (hw _ (List.mem_of_getElem? (i := 29) rfl))) (notFace_of_selects (args := #[]) (mvT hZ (hw _ (List.mem_of_getElem? (i := 31) rfl)))) (mvT hZ (hw _ (List.mem_of_getElem? (i := 31) rfl))) (mvT hZ (hw _ (List.mem_of_getElem? (i := 30) rfl))) (by decide) (backOf (W := 0) (rm6 l Z a0 hw [] b1 p1 T3.heap n0 Z4 r3_0) hZ (hw _ (List.mem_of_getElem? (i := 32) rfl)) (hw _ (List.mem_of_getElem? (i := 2) rfl)) (by decide) (by decide)) q15a q15c (g := (mkF m 72 #[.val (.int p1), .val (.int p2), .val (.ref b1), .val (.int (1 : Int32))] [(.ref b1)])) rfl (by rw [hml]; rfl) (Steps.refl _) (argsL := []) (rest := []) (lenOf pd_3 rfl) rfl (by show 2 * 0 + _ ≤ _; exact Nat.le_of_eq rfl) (hb hby at_72) (fun _ _ => ⟨rfl, eh14, (by decide : 1 + 0 ≤ _), (by decide : 5 + 0 ≤ _)⟩)
    dsimp only [Pt.U, Pt.locs, Pt.cells, Pt.slots] at X15 l15 y15 z15 st15 hQ15
    subst l15 y15 z15
    obtain ⟨rfl, Nq15, eh15⟩ := hQ15
    have N15 := Fr.app N14 Nq15
    refine Go.step (T' := T15) (f' := (mkF m 75 #[.val (.int p1), .val (.int p2), .val (.ref b1), .val (.int (1 : Int32))] [(.int p1)])) (fun _ k => st15.trans k) ?_
    refine Go.step (T' := T15) (f' := (mkF m 76 #[.val (.int p1), .val (.int p2), .val (.ref b1), .val (.int (1 : Int32))] [(.int p1), (.int p1)])) (fun _ k => XS.iloadN X15.here hx rfl (hb hby at_75) rfl k) ?_
    refine Go.step (T' := T15) (f' := (mkF m 79 #[.val (.int p1), .val (.int p2), .val (.ref b1), .val (.int (1 : Int32))] [])) (fun _ k => XS.icmpNo X15.here hx rfl (hb hby at_76) rfl (teq (rfl : p1 = p1)).2 k) ?_
    refine Go.step (T' := T15) (f' := (mkF m 80 #[.val (.int p1), .val (.int p2), .val (.ref b1), .val (.int (1 : Int32))] [(.int (1 : Int32))])) (fun _ k => XS.iconst X15.here hx rfl (hb hby at_79) k) ?_
    refine Go.step (T' := T15) (f' := (mkF m 84 #[.val (.int p1), .val (.int p2), .val (.ref b1), .val (.int (1 : Int32))] [(.int (1 : Int32))])) (fun _ k => XS.goto X15.here hx rfl (pc0 := 80) (pc' := 84) rfl (hb hby at_80) (by decide) (by decide) k) ?_
    refine Go.step (T' := T15) (f' := (mkF m 85 #[.val (.int p1), .val (.int p2), .val (.ref b1), .val (.int (1 : Int32))] [])) (fun _ k => XS.istoreN X15.here hx rfl (hb hby at_84) rfl (l' := #[.val (.int p1), .val (.int p2), .val (.ref b1), .val (.int (1 : Int32))]) rfl k) ?_
    refine Go.step (T' := T15) (f' := (mkF m 86 #[.val (.int p1), .val (.int p2), .val (.ref b1), .val (.int (1 : Int32))] [(.int (1 : Int32))])) (fun _ k => XS.iloadN X15.here hx rfl (hb hby at_85) rfl k) ?_
    refine goN X15 hx (t := .boolean) Bd.returns (by simp) Bd.notSynchronized (hb hby at_86) ?_ (by decide) (by decide)
    show Q_rm0 Z p1 p2 h0 n0 _ T15.heap _
    rw [eh15]
    exact ⟨rfl, N15⟩
set_option maxRecDepth 65536 in
set_option maxHeartbeats 40000000 in
theorem comes_1 {Post : Tables → Env → Array Value → State → Outcome → State → Prop} (hpost : ∀ tb e args s v u, (limb_1_1.after args s (.returned v) u = true ∧ limb_1_2.after args s (.returned v) u = true ∧ True) → FrameEnd s (.returned v) u (Jvm.fieldLocs frame_1_writes args s ++ Jvm.arrayLocs frame_1_arrays args s ++ Jvm.staticLocs frame_1_statics s) 16 128 → Post tb e args s (.returned v) u) :
    ArmFor flags0 classFile x code maxLocals ret World_1 tables_1 room_1 Calls_1 rest_1 Pre_1 Post := by
  intro l hfl _ _ p e ha hc hk s m args below hf hA hF happ hP
  obtain ⟨hcalls, hrest, hpre⟩ := hP
  obtain ⟨-, -, -, hnamed, -, -, -, hat⟩ := (Spec.applies_iff hf).mp happ
  obtain ⟨hg, hn⟩ := and_e (Cond.before_iff.mp (show (Jvm.Cond.and given_1 narrow_1).before args s = true from hpre))
  obtain ⟨g1, g2⟩ := and_e hg
  obtain ⟨g3, g4⟩ := and_e g2
  obtain ⟨w0, w1, rfl⟩ : ∃ w0 w1 : Value, args = #[w0, w1] := by
    have hs : args.size = 2 := by simpa [Cond.value, given_1] using g1
    obtain ⟨L⟩ := args
    match L, hs with
    | [w0, w1], _ => exact ⟨w0, w1, rfl⟩
  have hw := fun d (hd : d ∈ tables_1) => atoms_spec (ws := Jvm.Cond.code x code maxLocals ret :: tables_1) hat d (List.mem_cons_of_mem _ hd)
  have hfit : Fit s := fun {y c} hc i hi => by
    obtain ⟨ha, rfl⟩ := Array.getElem?_eq_some_iff.mp hc
    have q := List.all_eq_true.mp ((Array.all_eq_true_iff_forall_mem.mp hF) _ (Array.getElem_mem ha)) i (List.mem_range.mpr hi)
    simpa [Array.getElem?_eq_getElem hi] using q
  obtain ⟨i0, ei0⟩ := is_v g3
  obtain rfl : w0 = (.int i0) := Option.some.inj ei0
  obtain ⟨i1, ei1⟩ := is_v g4
  obtain rfl : w1 = (.int i1) := Option.some.inj ei1
  obtain ⟨n, o, h1, h2, h3, _, L, rfl, ⟨rfl, N⟩, hq⟩ := rm0 l s _ hw tables_1 i0 i1 s.heap s.heap.size (Nat.le_refl _)  p e ha hc hk s m _ below hf ((Spec.applies_iff_loose hf).mp happ).1 ⟨rfl, State.Warmed39.refl s, rfl⟩ trivial
  refine ⟨n, _, h1, h2, h3, hpost _ _ _ _ _ _ ⟨Cond.after_iff.mpr rfl, Cond.after_iff.mpr (eq_i res_at (Term.int_eval (1)) rfl), trivial⟩ ⟨hq.1, hq.2.1, (hq.2.2.sift fun y hy => Or.inr (N y hy)).mono (by decide) (by decide)⟩⟩
theorem main_1_1 : Claimed_1_1 := comes_1 fun _ _ _ _ _ _ h hF => ⟨h.1, hF⟩
theorem main_1_2 : Claimed_1_2 := comes_1 fun _ _ _ _ _ _ h hF => ⟨h.2.1, hF⟩
end Jvm.Pilot.@@N@@
namespace Jvm.Pilot.@@N@@
open Jvm Jvm.ClassFile Sem Op Lib Jvm.Free Jvm.Stand Jvm.Pilot.@@N@@.Jvm.D
/-! MADE BY PROGRAM (witnessworld.py) out of the Statement's table words and the real class files: 9 classes; the members and pool entries that the words name. The judged class is class 1, her method 1. -/
namespace start1
open Jvm.ClassFile
def u (s : String) : CpInfo := .utf8 (stringToUtf16 s)
/-- a pool by its gaps: so many unusable entries, then the entry; so many at the end -/
def gap : Nat → List CpInfo → List CpInfo
  | 0, r => r
  | n + 1, r => .unusable :: gap n r
def poolList (es : List (Nat × CpInfo)) (last : Nat) : List CpInfo := es.foldr (fun e r => gap e.1 (e.2 :: r)) (gap last [])
def pool (es : List (Nat × CpInfo)) (last : Nat) : Array CpInfo := ⟨poolList es last⟩
def fileOf (pool : Array CpInfo) (this : Nat) (attrs : Array Attribute := #[]) (ms : Array MethodInfo := #[]) (fl : Nat := 33) (sup : Nat := 0) (ifs : Array Nat := #[]) (fds : Array FieldInfo := #[]) : ClassFile where
  minorVersion := 0
  majorVersion := 65
  constantPool := pool
  accessFlags := fl
  thisClass := this
  superClass := sup
  interfaces := ifs
  fields := fds
  methods := ms
  attributes := attrs
def plain (name : String) (sup : Option ClassId) : Class where
  name := name
  kind := .ordinary
  loader := none
  accessFlags := 33
  super := sup
  interfaces := #[]
  cf := none
  fields := #[]
  methods := #[]
  instanceTypes := #[]
  staticTypes := #[]
  resolved := #[]
  callSites := []
  init := .initialized
  statics := none
  mirror := none

def pool0 : Array CpInfo := pool [(5, u "<init>"), (0, u "()V"), (1, .class_ 10), (1, u "java/lang/Object")] 113

def k0c0 : Code := { maxStack := 0, maxLocals := 1, code := object_method_1_code, exceptionTable := #[], attributes := #[] }
def k0m0 : Method := { name := "<init>", desc := "()V", sig := { parameters := [], returnType := none }, accessFlags := 1, code := some k0c0 }
/-- java/lang/Object -/
def k0 : Class := { plain "java/lang/Object" none with
  accessFlags := 33
  interfaces := #[]
  cf := some (fileOf pool0 8 #[] #[{ accessFlags := 1, nameIndex := 5, descriptorIndex := 6, attributes := #[] }] 33 0 #[] #[])
  fields := #[]
  methods := #[k0m0]
  instanceTypes := #[]
  staticTypes := #[]
  resolved := Array.replicate 124 none
  statics := none }

def pool1 : Array CpInfo := pool [(2, .class_ 4), (1, u "java/lang/Object"), (0, u "<init>"), (0, u "()V"), (0, .class_ 8), (0, u "com/example/slotter/slotter/routing/Watch"), (0, .methodref 7 10), (0, .nameAndType 5 11), (0, u "(I)V"), (0, .methodref 7 13), (0, .nameAndType 14 15), (0, u "held"), (0, u "()Z"), (0, .methodref 7 17), (0, .nameAndType 18 6), (0, u "close"), (0, .methodref 7 20), (0, .nameAndType 21 22), (0, u "letGo"), (0, u "(Z)V"), (0, .methodref 7 24), (0, .nameAndType 25 26), (0, u "slot"), (0, u "()I"), (0, .class_ 28), (0, u "com/example/slotter/slotter/routing/WatchHeldPinLaw"), (2, u "law"), (0, u "(II)Z")] 3

def k1m0 : Method := { name := "<init>", desc := "()V", sig := { parameters := [], returnType := none }, accessFlags := 1, code := none }
def k1c1 : Code := { maxStack := 3, maxLocals := 4, code := code, exceptionTable := #[], attributes := #[] }
def k1m1 : Method := { name := "law", desc := "(II)Z", sig := { parameters := [.int, .int], returnType := some .boolean }, accessFlags := 9, code := some k1c1 }
/-- com/example/slotter/slotter/routing/WatchHeldPinLaw -/
def k1 : Class := { plain "com/example/slotter/slotter/routing/WatchHeldPinLaw" (some 0) with
  accessFlags := 49
  interfaces := #[]
  cf := some (fileOf pool1 27 #[] #[{ accessFlags := 1, nameIndex := 5, descriptorIndex := 6, attributes := #[] }, { accessFlags := 9, nameIndex := 31, descriptorIndex := 32, attributes := #[] }] 49 2 #[] #[])
  fields := #[]
  methods := #[k1m0, k1m1]
  instanceTypes := #[]
  staticTypes := #[]
  resolved := Array.replicate 36 none
  statics := none }

def pool2 : Array CpInfo := pool [(1, .methodref 2 3), (0, .class_ 4), (0, .nameAndType 5 6), (0, u "java/lang/Object"), (0, u "<init>"), (0, u "()V"), (0, .fieldref 8 9), (0, .class_ 10), (0, .nameAndType 11 12), (0, u "com/example/slotter/slotter/routing/Watch"), (0, u "slot"), (0, u "I"), (22, .fieldref 8 36), (0, .nameAndType 37 38), (0, u "pool"), (0, u "Lcom/example/slotter/slotter/routing/NodePool;"), (2, u "node"), (0, u "Lcom/example/slotter/slotter/protocol/NodeAddress;"), (2, u "asking"), (0, u "Z"), (0, .fieldref 8 48), (0, .nameAndType 49 50), (0, u "connection"), (0, u "Lcom/example/slotter/slotter/protocol/Connection;"), (0, .methodref 8 52), (0, .nameAndType 53 54), (0, u "letGo"), (0, u "(Z)V"), (0, u "(I)V"), (20, u "()I"), (1, u "()Z"), (1, u "held"), (0, u "close")] 4

def k2c0 : Code := { maxStack := 2, maxLocals := 2, code := prog_72_method_1_code, exceptionTable := #[], attributes := #[] }
def k2m0 : Method := { name := "<init>", desc := "(I)V", sig := { parameters := [.int], returnType := none }, accessFlags := 0, code := some k2c0 }
def k2c1 : Code := { maxStack := 1, maxLocals := 1, code := prog_72_method_4_code, exceptionTable := #[], attributes := #[] }
def k2m1 : Method := { name := "slot", desc := "()I", sig := { parameters := [], returnType := some .int }, accessFlags := 0, code := some k2c1 }
def k2c2 : Code := { maxStack := 1, maxLocals := 1, code := prog_72_method_8_code, exceptionTable := #[], attributes := #[] }
def k2m2 : Method := { name := "held", desc := "()Z", sig := { parameters := [], returnType := some .boolean }, accessFlags := 0, code := some k2c2 }
def k2c3 : Code := { maxStack := 3, maxLocals := 2, code := prog_72_method_9_code, exceptionTable := #[], attributes := #[] }
def k2m3 : Method := { name := "letGo", desc := "(Z)V", sig := { parameters := [.boolean], returnType := none }, accessFlags := 0, code := some k2c3 }
def k2c4 : Code := { maxStack := 2, maxLocals := 1, code := prog_72_method_10_code, exceptionTable := #[], attributes := #[] }
def k2m4 : Method := { name := "close", desc := "()V", sig := { parameters := [], returnType := none }, accessFlags := 1, code := some k2c4 }
/-- com/example/slotter/slotter/routing/Watch -/
def k2 : Class := { plain "com/example/slotter/slotter/routing/Watch" (some 0) with
  accessFlags := 33
  interfaces := #[]
  cf := some (fileOf pool2 8 #[] #[{ accessFlags := 0, nameIndex := 5, descriptorIndex := 55, attributes := #[] }, { accessFlags := 0, nameIndex := 11, descriptorIndex := 76, attributes := #[] }, { accessFlags := 0, nameIndex := 80, descriptorIndex := 78, attributes := #[] }, { accessFlags := 0, nameIndex := 53, descriptorIndex := 54, attributes := #[] }, { accessFlags := 1, nameIndex := 81, descriptorIndex := 6, attributes := #[] }] 33 2 #[] #[{ accessFlags := 18, nameIndex := 11, descriptorIndex := 12, attributes := #[] }, { accessFlags := 2, nameIndex := 41, descriptorIndex := 42, attributes := #[] }, { accessFlags := 2, nameIndex := 45, descriptorIndex := 46, attributes := #[] }, { accessFlags := 2, nameIndex := 37, descriptorIndex := 38, attributes := #[] }, { accessFlags := 2, nameIndex := 49, descriptorIndex := 50, attributes := #[] }])
  fields := #[{ name := "slot", type := .int, accessFlags := 18, slot := 0, constantValue := 0 }, { name := "node", type := (.object "com/example/slotter/slotter/protocol/NodeAddress"), accessFlags := 2, slot := 1, constantValue := 0 }, { name := "asking", type := .boolean, accessFlags := 2, slot := 2, constantValue := 0 }, { name := "pool", type := (.object "com/example/slotter/slotter/routing/NodePool"), accessFlags := 2, slot := 3, constantValue := 0 }, { name := "connection", type := (.object "com/example/slotter/slotter/protocol/Connection"), accessFlags := 2, slot := 4, constantValue := 0 }]
  methods := #[k2m0, k2m1, k2m2, k2m3, k2m4]
  instanceTypes := #[.int, (.object "com/example/slotter/slotter/protocol/NodeAddress"), .boolean, (.object "com/example/slotter/slotter/routing/NodePool"), (.object "com/example/slotter/slotter/protocol/Connection")]
  staticTypes := #[]
  resolved := Array.replicate 86 none
  statics := none }

def pool3 : Array CpInfo := pool [(1, u "java/lang/Cloneable"), (0, .class_ 1), (0, u "java/lang/Object"), (0, .class_ 3)] 3

/-- java/lang/Cloneable -/
def k3 : Class := { plain "java/lang/Cloneable" (some 0) with
  accessFlags := 1537
  interfaces := #[]
  cf := some (fileOf pool3 2 #[] #[] 1537 4 #[] #[])
  fields := #[]
  methods := #[]
  instanceTypes := #[]
  staticTypes := #[]
  resolved := Array.replicate 8 none
  statics := none }

def pool4 : Array CpInfo := pool [(1, u "java/io/Serializable"), (0, .class_ 1), (0, u "java/lang/Object"), (0, .class_ 3)] 3

/-- java/io/Serializable -/
def k4 : Class := { plain "java/io/Serializable" (some 0) with
  accessFlags := 1537
  interfaces := #[]
  cf := some (fileOf pool4 2 #[] #[] 1537 4 #[] #[])
  fields := #[]
  methods := #[]
  instanceTypes := #[]
  staticTypes := #[]
  resolved := Array.replicate 8 none
  statics := none }

/-- the primitive byte -/
def k5 : Class := { plain "byte" none with kind := .primitive 'B', accessFlags := 0x411 }
/-- [B -/
def k6 : Class := { plain "[B" (some 0) with kind := .array 5 .byte, interfaces := #[3, 4], accessFlags := 1041 }

/-- the primitive int -/
def k7 : Class := { plain "int" none with kind := .primitive 'I', accessFlags := 0x411 }
/-- [I -/
def k8 : Class := { plain "[I" (some 0) with kind := .array 7 .int, interfaces := #[3, 4], accessFlags := 1041 }

def heap : Heap := #[]
def classes : Array Class := #[k0, k1, k2, k3, k4, k5, k6, k7, k8]
def interned : List (Array UInt16 × Addr) := []
def slotsUsed : Nat := 0
def theMethod : MethodId := ⟨1, 1⟩
def args0 : Array Value := #[.int 5, .int 2]
def aboutOver (below : List Frame) : State where
  vm := { classes := classes, interned := interned.toArray }
  heap := heap
  slotsUsed := slotsUsed
  threads := #[{ frames := .invoking theMethod args0 :: below }]
def below0 : List Frame := [.native { method := ⟨0, 0⟩, args := #[] }]
def about1 : State := aboutOver below0
def p0 : Program := .bare "" "" ""
def e0 : Env := launch0.env 0 0 0
theorem w_frames : about1.frames = Frame.invoking theMethod args0 :: below0 := rfl
set_option maxRecDepth 65536 in
theorem w_args : argsFit about1.vm theMethod args0 = true := by decide +kernel
set_option maxRecDepth 65536 in
theorem w_heap : heapFits about1 = true := by decide +kernel
set_option maxRecDepth 65536 in
theorem w_runnable : about1.curStatus? = some .runnable := by decide +kernel
set_option maxRecDepth 65536 in
theorem w_alone : about1.alone = true := by decide +kernel
set_option maxRecDepth 65536 in
theorem w_named : about1.methodNamed? x = some theMethod := by decide +kernel
set_option maxRecDepth 65536 in
theorem w_hears : about1.hears theMethod below0 = true := by decide +kernel
set_option maxRecDepth 65536 in
theorem w_ripe : about1.ripe theMethod args0 below0 = true := by decide +kernel
theorem w_running : about1.status = .running := rfl
set_option maxRecDepth 65536 in
theorem w_room : about1.hasRoom e0.platform room_1 = true :=
  launch0.hasRoom_least _ room_1 (by decide +kernel) (by decide +kernel) (by decide +kernel) (by decide +kernel) (by decide +kernel) (by decide +kernel)
theorem allAtoms_all (ts : List Jvm.Cond) (a : Array Jvm.Value) (st : Jvm.State) : (allAtoms ts).before a st = ts.all (fun c => c.before a st) := by
  induction ts with
  | nil => rfl
  | cons c t ih =>
    show (Jvm.Cond.and c (allAtoms t)).before a st = _
    rw [Jvm.Cond.before_and, ih, List.all_cons]
def words1 : List Jvm.Cond := Jvm.Cond.code x code maxLocals ret :: tables_1
/-- a 'code' word, met by the world's own term for the bytes: nothing is compared byte by byte -/
theorem code_word {y : MethodName} {bytes : ByteArray} {mx : Nat} {rt : Option FieldType} {a : Array Value} {s : State} {m : MethodId} {meth : Method} {c : Code} (h1 : s.methodNamed? y = some m) (h2 : s.vm.method? m = some meth) (h3 : meth.code = some c) (h4 : c.code = bytes)
    (h5 : (c.maxLocals == mx && c.exceptionTable.isEmpty && decide (c.maxStack ≤ mostOperands) && decide (meth.sig.returnType = rt) && !meth.locks && decide (parseMethodDescriptor y.desc = some meth.sig)) = true) : (Jvm.Cond.code y bytes mx rt).before a s = true := by
  simp only [Bool.and_eq_true, beq_iff_eq, Bool.not_eq_true', decide_eq_true_eq] at h5
  obtain ⟨⟨⟨⟨⟨g1, g2⟩, g3⟩, g4⟩, g5⟩, g6⟩ := h5
  simp [Cond.before, Cond.holds, Cond.value, h1, h2, h3, h4, g1, g2, g3, g4, g5, g6]
def isCode : Jvm.Cond → Bool
  | .code _ _ _ _ => true
  | _ => false
theorem all_split {L : List Jvm.Cond} {P : Jvm.Cond → Bool} (h1 : L.all (fun c => isCode c || P c) = true) (h2 : ∀ c ∈ L.filter isCode, P c = true) : L.all P = true := by
  refine List.all_eq_true.mpr fun c hc => ?_
  have h := List.all_eq_true.mp h1 c hc
  rcases Bool.eq_false_or_eq_true (isCode c) with hi | hi
  · exact h2 c (List.mem_filter.mpr ⟨hc, hi⟩)
  · simpa [hi] using h
set_option maxRecDepth 65536 in
theorem w_c0 : (Jvm.Cond.code x code maxLocals ret).before args0 about1 = true := code_word (m := ⟨1, 1⟩) (meth := k1m1) (c := k1c1) (by decide +kernel) rfl rfl rfl (by decide +kernel)
set_option maxRecDepth 65536 in
theorem w_c1 : (Jvm.Cond.code ({ cls := "com/example/slotter/slotter/routing/Watch", name := "<init>", desc := "(I)V" } : Jvm.MethodName) prog_72_method_1_code (2 : Nat) (Option.none : Option Jvm.ClassFile.FieldType)).before args0 about1 = true := code_word (m := ⟨2, 0⟩) (meth := k2m0) (c := k2c0) (by decide +kernel) rfl rfl rfl (by decide +kernel)
set_option maxRecDepth 65536 in
theorem w_c2 : (Jvm.Cond.code ({ cls := "java/lang/Object", name := "<init>", desc := "()V" } : Jvm.MethodName) object_method_1_code (1 : Nat) (Option.none : Option Jvm.ClassFile.FieldType)).before args0 about1 = true := code_word (m := ⟨0, 0⟩) (meth := k0m0) (c := k0c0) (by decide +kernel) rfl rfl rfl (by decide +kernel)
set_option maxRecDepth 65536 in
theorem w_c3 : (Jvm.Cond.code ({ cls := "com/example/slotter/slotter/routing/Watch", name := "held", desc := "()Z" } : Jvm.MethodName) prog_72_method_8_code (1 : Nat) (Option.some Jvm.ClassFile.FieldType.boolean)).before args0 about1 = true := code_word (m := ⟨2, 2⟩) (meth := k2m2) (c := k2c2) (by decide +kernel) rfl rfl rfl (by decide +kernel)
set_option maxRecDepth 65536 in
theorem w_c4 : (Jvm.Cond.code ({ cls := "com/example/slotter/slotter/routing/Watch", name := "close", desc := "()V" } : Jvm.MethodName) prog_72_method_10_code (1 : Nat) (Option.none : Option Jvm.ClassFile.FieldType)).before args0 about1 = true := code_word (m := ⟨2, 4⟩) (meth := k2m4) (c := k2c4) (by decide +kernel) rfl rfl rfl (by decide +kernel)
set_option maxRecDepth 65536 in
theorem w_c5 : (Jvm.Cond.code ({ cls := "com/example/slotter/slotter/routing/Watch", name := "letGo", desc := "(Z)V" } : Jvm.MethodName) prog_72_method_9_code (2 : Nat) (Option.none : Option Jvm.ClassFile.FieldType)).before args0 about1 = true := code_word (m := ⟨2, 3⟩) (meth := k2m3) (c := k2c3) (by decide +kernel) rfl rfl rfl (by decide +kernel)
set_option maxRecDepth 65536 in
theorem w_c6 : (Jvm.Cond.code ({ cls := "com/example/slotter/slotter/routing/Watch", name := "slot", desc := "()I" } : Jvm.MethodName) prog_72_method_4_code (1 : Nat) (Option.some Jvm.ClassFile.FieldType.int)).before args0 about1 = true := code_word (m := ⟨2, 1⟩) (meth := k2m1) (c := k2c1) (by decide +kernel) rfl rfl rfl (by decide +kernel)
def codes1 : List Jvm.Cond := [Jvm.Cond.code x code maxLocals ret, Jvm.Cond.code ({ cls := "com/example/slotter/slotter/routing/Watch", name := "<init>", desc := "(I)V" } : Jvm.MethodName) prog_72_method_1_code (2 : Nat) (Option.none : Option Jvm.ClassFile.FieldType), Jvm.Cond.code ({ cls := "java/lang/Object", name := "<init>", desc := "()V" } : Jvm.MethodName) object_method_1_code (1 : Nat) (Option.none : Option Jvm.ClassFile.FieldType), Jvm.Cond.code ({ cls := "com/example/slotter/slotter/routing/Watch", name := "held", desc := "()Z" } : Jvm.MethodName) prog_72_method_8_code (1 : Nat) (Option.some Jvm.ClassFile.FieldType.boolean), Jvm.Cond.code ({ cls := "com/example/slotter/slotter/routing/Watch", name := "close", desc := "()V" } : Jvm.MethodName) prog_72_method_10_code (1 : Nat) (Option.none : Option Jvm.ClassFile.FieldType), Jvm.Cond.code ({ cls := "com/example/slotter/slotter/routing/Watch", name := "letGo", desc := "(Z)V" } : Jvm.MethodName) prog_72_method_9_code (2 : Nat) (Option.none : Option Jvm.ClassFile.FieldType), Jvm.Cond.code ({ cls := "com/example/slotter/slotter/routing/Watch", name := "slot", desc := "()I" } : Jvm.MethodName) prog_72_method_4_code (1 : Nat) (Option.some Jvm.ClassFile.FieldType.int)]
set_option maxRecDepth 65536 in
theorem codes_eq : words1.filter isCode = codes1 := rfl
theorem w_codes : ∀ c ∈ words1.filter isCode, c.before args0 about1 = true := by
  rw [codes_eq]
  intro c hc
  simp only [codes1, List.mem_cons, List.not_mem_nil, or_false] at hc
  rcases hc with rfl | rfl | rfl | rfl | rfl | rfl | rfl
  · exact w_c0
  · exact w_c1
  · exact w_c2
  · exact w_c3
  · exact w_c4
  · exact w_c5
  · exact w_c6
set_option maxRecDepth 65536 in
theorem w_t1 : (words1.take 24).all (fun c => isCode c || c.before args0 about1) = true := by decide +kernel
set_option maxRecDepth 65536 in
theorem w_t2 : (words1.drop 24).all (fun c => isCode c || c.before args0 about1) = true := by decide +kernel
theorem w_tables : (allAtoms (Jvm.Cond.code x code maxLocals ret :: tables_1)).before args0 about1 = true := by
  rw [allAtoms_all]
  show words1.all (fun c => c.before args0 about1) = true
  refine all_split ?_ w_codes
  rw [← List.take_append_drop 24 words1, List.all_append, w_t1, w_t2]
  rfl
set_option maxRecDepth 65536 in
theorem w_case : (Jvm.Cond.and given_1 narrow_1).before args0 about1 = true := by decide +kernel
theorem w_applies : (headSpec (Jvm.Cond.code x code maxLocals ret :: tables_1) room_1).applies x e0.platform about1 = true :=
  (Spec.applies_iff w_frames).mpr ⟨w_running, w_runnable, w_alone, w_named, w_hears, w_ripe, w_room, w_tables⟩
theorem atStart : AtStart classFile x code maxLocals ret World_1 tables_1 room_1 Calls_1 rest_1 Pre_1 launch0 p0 e0 about1 theMethod args0 below0 :=
  ⟨lists_1, trivial, launch0.admits_env _ _ _, launch0.least_env, fairChoices_fair.cas, fairChoices_fair.clock, w_frames, w_args, w_heap, w_applies, trivial, trivial, w_case⟩
end start1
theorem witness_1 : WitnessClaimed_1 := ⟨start1.p0, start1.e0, start1.about1, start1.theMethod, start1.args0, start1.below0, start1.atStart⟩
end Jvm.Pilot.@@N@@
