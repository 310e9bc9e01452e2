import JvmDerived
import JvmDerived.Pilot.@@N@@Statement
import JvmDerived.Pilot.@@N@@Code
set_option linter.unusedVariables false
set_option linter.unusedSimpArgs false
namespace Jvm.Pilot.@@N@@
open Jvm Jvm.ClassFile Sem Op Lib Jvm.Free Jvm.Stand Jvm.LawKit Jvm.RoadKit Bundle Jvm.Pilot.@@N@@.Jvm.D
def Go (p : Program) (e : Env) (below : List Frame) (G : State → Prop) (T : State) (f : JFrame) : Prop := ∃ t, Steps p.tables e below (T.setTop f) t ∧ G t
theorem Go.step {p : Program} {e : Env} {below : List Frame} {G : State → Prop} {T T' : State} {f f' : JFrame} (k : ∀ t, Steps p.tables e below (T'.setTop f') t → Steps p.tables e below (T.setTop f) t) (h : Go p e below G T' f') : Go p e below G T f := by
  obtain ⟨t, h1, h2⟩ := h
  exact ⟨t, k t h1, h2⟩
def Fin1 (s : State) (below : List Frame) (Q : Option Value → Heap → List Loc → Prop) (k n : Nat) (t : State) : Prop := ∃ o, t.status = .running ∧ Ended t below o ∧ ∃ v L, o = .returned v ∧ Q v t.heap L ∧ FrameEnd s o t L k n
theorem of_go {p : Program} {e : Env} {below : List Frame} {s s₁ : State} {Q : Option Value → Heap → List Loc → Prop} {k n : Nat} {f f' : JFrame} (hf : f' = f) (h : Go p e below (Fin1 s below Q k n) s₁ f) :
    ∃ s₂ o, Steps p.tables e below (s₁.setTop f') s₂ ∧ s₂.status = .running ∧ Ended s₂ below o ∧ ∃ v L, o = .returned v ∧ Q v s₂.heap L ∧ FrameEnd s o s₂ L k n := by
  subst hf
  obtain ⟨t, h1, o, h2, h3, h4⟩ := h
  exact ⟨t, o, h1, h2, h3, h4⟩
section Ends
variable {p : Program} {l : Launch} {e : Env} {R : Room} {s : State} {m : MethodId} {args : Array Value} {below : List Frame} {meth : Method} {c : Code} {T : State} {locs : List Loc} {cells slots : Nat} {Q : Option Value → Heap → List Loc → Prop} {k n : Nat}
theorem goN (X : Stand p l e R s m args below meth c T locs cells slots) (hx : p.tables.exec = Jvm.exec) {pc : Nat} {Ls : Array Slot} {z : Int32} {t : FieldType} {rest : List Value} (hret : meth.sig.returnType = some t) (ht : t = .boolean ∨ t = .byte ∨ t = .char ∨ t = .short) (hlk : meth.locks = false)
    (hd : decode c.code pc = .ok (.ireturn, 1)) (hQ : Q (some (.int (nar t z))) T.heap locs) (hk : cells ≤ k) (hn : slots ≤ n) : Go p e below (Fin1 s below Q k n) T (mkF m pc Ls (.int z :: rest)) := by
  obtain ⟨fs, hr, hrun, hended, hW, hsame⟩ := X.leave (v := some (.int (nar t z))) (fun h => by rw [hret] at h; cases h) hlk
  exact ⟨_, Jvm.RoadKit.retN X hx hret ht hd hr, _, hrun, hended, _, _, rfl, hQ, ⟨_, rfl⟩, hW, hsame.mono hk hn⟩
theorem goO (X : Stand p l e R s m args below meth c T locs cells slots) (hx : p.tables.exec = Jvm.exec) {pc : Nat} {Ls : Array Slot} {w : Value} {t : FieldType} {i : Instr} {rest : List Value} (hret : meth.sig.returnType = some t) (hnw : narrow t w = w)
    (hi : (i = .ireturn ∧ (t = .int ∨ t = .boolean ∨ t = .byte ∨ t = .char ∨ t = .short) ∧ ∃ z, w = .int z) ∨ (i = .lreturn ∧ t = .long ∧ ∃ z, w = .long z) ∨ (i = .dreturn ∧ t = .double ∧ ∃ z, w = .double z) ∨ (i = .freturn ∧ t = .float ∧ ∃ z, w = .float z) ∨ (i = .areturn ∧ t.isReference = true ∧ w.isRef = true)) (hlk : meth.locks = false)
    (hd : decode c.code pc = .ok (i, 1)) (hQ : Q (some w) T.heap locs) (hk : cells ≤ k) (hn : slots ≤ n) : Go p e below (Fin1 s below Q k n) T (mkF m pc Ls (w :: rest)) := by
  obtain ⟨fs, hr, hrun, hended, hW, hsame⟩ := X.leave (v := some w) (fun h => by rw [hret] at h; cases h) hlk
  exact ⟨_, Jvm.RoadKit.retOut X hx hret hnw hi hd hr, _, hrun, hended, _, _, rfl, hQ, ⟨_, rfl⟩, hW, hsame.mono hk hn⟩
theorem goI (X : Stand p l e R s m args below meth c T locs cells slots) (hx : p.tables.exec = Jvm.exec) {pc : Nat} {Ls : Array Slot} {z : Int32} {rest : List Value} (hret : meth.sig.returnType = some .int) (hlk : meth.locks = false)
    (hd : decode c.code pc = .ok (.ireturn, 1)) (hQ : Q (some (.int z)) T.heap locs) (hk : cells ≤ k) (hn : slots ≤ n) : Go p e below (Fin1 s below Q k n) T (mkF m pc Ls (.int z :: rest)) :=
  goO X hx hret rfl (Or.inl ⟨rfl, Or.inl rfl, _, rfl⟩) hlk hd hQ hk hn
theorem goJ (X : Stand p l e R s m args below meth c T locs cells slots) (hx : p.tables.exec = Jvm.exec) {pc : Nat} {Ls : Array Slot} {z : Int64} {rest : List Value} (hret : meth.sig.returnType = some .long) (hlk : meth.locks = false)
    (hd : decode c.code pc = .ok (.lreturn, 1)) (hQ : Q (some (.long z)) T.heap locs) (hk : cells ≤ k) (hn : slots ≤ n) : Go p e below (Fin1 s below Q k n) T (mkF m pc Ls (.long z :: rest)) :=
  goO X hx hret rfl (Or.inr (Or.inl ⟨rfl, rfl, _, rfl⟩)) hlk hd hQ hk hn
theorem goA (X : Stand p l e R s m args below meth c T locs cells slots) (hx : p.tables.exec = Jvm.exec) {pc : Nat} {Ls : Array Slot} {w : Value} {t : FieldType} {rest : List Value} (hret : meth.sig.returnType = some t) (ht : t.isReference = true) (hw : w.isRef = true) (hlk : meth.locks = false)
    (hd : decode c.code pc = .ok (.areturn, 1)) (hQ : Q (some w) T.heap locs) (hk : cells ≤ k) (hn : slots ≤ n) : Go p e below (Fin1 s below Q k n) T (mkF m pc Ls (w :: rest)) :=
  goO X hx hret (by cases t <;> cases w <;> first | rfl | (simp [FieldType.isReference] at ht; done) | (simp [Value.isRef] at hw; done)) (Or.inr (Or.inr (Or.inr (Or.inr ⟨rfl, ht, hw⟩)))) hlk hd hQ hk hn
theorem goV (X : Stand p l e R s m args below meth c T locs cells slots) (hx : p.tables.exec = Jvm.exec) {pc : Nat} {Ls : Array Slot} (hret : meth.sig.returnType = none) (hlk : meth.locks = false)
    (hd : decode c.code pc = .ok (.return_, 1)) (hQ : Q none T.heap locs) (hk : cells ≤ k) (hn : slots ≤ n) : Go p e below (Fin1 s below Q k n) T (mkF m pc Ls []) := by
  obtain ⟨fs, hr, hrun, hended, hW, hsame⟩ := X.leave (v := none) (fun _ => rfl) hlk
  exact ⟨_, X.returnOut hx hret hd hr, _, hrun, hended, _, _, rfl, hQ, ⟨_, rfl⟩, hW, hsame.mono hk hn⟩
def FinW (s : State) (below : List Frame) (Q : Option Value → Heap → List Loc → Prop) (k n : Nat) (t : State) : Prop := ∃ o, t.status = .running ∧ Ended t below o ∧ ∃ v L, o = .returned v ∧ Q v t.heap L ∧ ReturnedEndW s o t L k n
theorem of_goW {p : Program} {e : Env} {below : List Frame} {s s₁ : State} {Q : Option Value → Heap → List Loc → Prop} {k n : Nat} {f f' : JFrame} (hf : f' = f) (h : Go p e below (FinW s below Q k n) s₁ f) :
    ∃ s₂ o, Steps p.tables e below (s₁.setTop f') s₂ ∧ s₂.status = .running ∧ Ended s₂ below o ∧ ∃ v L, o = .returned v ∧ Q v s₂.heap L ∧ ReturnedEndW s o s₂ L k n := by
  subst hf
  obtain ⟨t, h1, o, h2, h3, h4⟩ := h
  exact ⟨t, o, h1, h2, h3, h4⟩
theorem goNW {vm0 : Vm} {n1 : Nat} (hS : s.Since vm0 n1) (X : Stand p l e R (s.setVm vm0) m args below meth c T locs cells slots) (hkk : n1 ≤ T.heap.size) (hx : p.tables.exec = Jvm.exec) {pc : Nat} {Ls : Array Slot} {z : Int32} {t : FieldType} {rest : List Value} (hret : meth.sig.returnType = some t) (ht : t = .boolean ∨ t = .byte ∨ t = .char ∨ t = .short) (hlk : meth.locks = false)
    (hd : decode c.code pc = .ok (.ireturn, 1)) (hQ : Q (some (.int (nar t z))) T.heap locs) (hk : cells ≤ k) (hn : slots ≤ n) : Go p e below (FinW s below Q k n) T (mkF m pc Ls (.int z :: rest)) := by
  obtain ⟨fs, hr, hrun, hended, hW, hsame⟩ := X.leave (v := some (.int (nar t z))) (fun h => by rw [hret] at h; cases h) hlk
  obtain ⟨a1, a2, a3⟩ := hS.ended hW (show n1 ≤ (T.setFrames fs).heap.size from hkk) hsame
  exact ⟨_, Jvm.RoadKit.retN X hx hret ht hd hr, _, hrun, hended, _, _, rfl, hQ, ⟨_, rfl⟩, a1, a2, a3.mono hk hn⟩
theorem goOW {vm0 : Vm} {n1 : Nat} (hS : s.Since vm0 n1) (X : Stand p l e R (s.setVm vm0) m args below meth c T locs cells slots) (hkk : n1 ≤ T.heap.size) (hx : p.tables.exec = Jvm.exec) {pc : Nat} {Ls : Array Slot} {w : Value} {t : FieldType} {i : Instr} {rest : List Value} (hret : meth.sig.returnType = some t) (hnw : narrow t w = w)
    (hi : (i = .ireturn ∧ (t = .int ∨ t = .boolean ∨ t = .byte ∨ t = .char ∨ t = .short) ∧ ∃ z, w = .int z) ∨ (i = .lreturn ∧ t = .long ∧ ∃ z, w = .long z) ∨ (i = .dreturn ∧ t = .double ∧ ∃ z, w = .double z) ∨ (i = .freturn ∧ t = .float ∧ ∃ z, w = .float z) ∨ (i = .areturn ∧ t.isReference = true ∧ w.isRef = true)) (hlk : meth.locks = false)
    (hd : decode c.code pc = .ok (i, 1)) (hQ : Q (some w) T.heap locs) (hk : cells ≤ k) (hn : slots ≤ n) : Go p e below (FinW s below Q k n) T (mkF m pc Ls (w :: rest)) := by
  obtain ⟨fs, hr, hrun, hended, hW, hsame⟩ := X.leave (v := some w) (fun h => by rw [hret] at h; cases h) hlk
  obtain ⟨a1, a2, a3⟩ := hS.ended hW (show n1 ≤ (T.setFrames fs).heap.size from hkk) hsame
  exact ⟨_, Jvm.RoadKit.retOut X hx hret hnw hi hd hr, _, hrun, hended, _, _, rfl, hQ, ⟨_, rfl⟩, a1, a2, a3.mono hk hn⟩
theorem goIW {vm0 : Vm} {n1 : Nat} (hS : s.Since vm0 n1) (X : Stand p l e R (s.setVm vm0) m args below meth c T locs cells slots) (hkk : n1 ≤ T.heap.size) (hx : p.tables.exec = Jvm.exec) {pc : Nat} {Ls : Array Slot} {z : Int32} {rest : List Value} (hret : meth.sig.returnType = some .int) (hlk : meth.locks = false)
    (hd : decode c.code pc = .ok (.ireturn, 1)) (hQ : Q (some (.int z)) T.heap locs) (hk : cells ≤ k) (hn : slots ≤ n) : Go p e below (FinW s below Q k n) T (mkF m pc Ls (.int z :: rest)) :=
  goOW hS X hkk hx hret rfl (Or.inl ⟨rfl, Or.inl rfl, _, rfl⟩) hlk hd hQ hk hn
theorem goAW {vm0 : Vm} {n1 : Nat} (hS : s.Since vm0 n1) (X : Stand p l e R (s.setVm vm0) m args below meth c T locs cells slots) (hkk : n1 ≤ T.heap.size) (hx : p.tables.exec = Jvm.exec) {pc : Nat} {Ls : Array Slot} {w : Value} {t : FieldType} {rest : List Value} (hret : meth.sig.returnType = some t) (ht : t.isReference = true) (hw : w.isRef = true) (hlk : meth.locks = false)
    (hd : decode c.code pc = .ok (.areturn, 1)) (hQ : Q (some w) T.heap locs) (hk : cells ≤ k) (hn : slots ≤ n) : Go p e below (FinW s below Q k n) T (mkF m pc Ls (w :: rest)) :=
  goOW hS X hkk hx hret (by cases t <;> cases w <;> first | rfl | (simp [FieldType.isReference] at ht; done) | (simp [Value.isRef] at hw; done)) (Or.inr (Or.inr (Or.inr (Or.inr ⟨rfl, ht, hw⟩)))) hlk hd hQ hk hn
theorem goVW {vm0 : Vm} {n1 : Nat} (hS : s.Since vm0 n1) (X : Stand p l e R (s.setVm vm0) m args below meth c T locs cells slots) (hkk : n1 ≤ T.heap.size) (hx : p.tables.exec = Jvm.exec) {pc : Nat} {Ls : Array Slot} (hret : meth.sig.returnType = none) (hlk : meth.locks = false)
    (hd : decode c.code pc = .ok (.return_, 1)) (hQ : Q none T.heap locs) (hk : cells ≤ k) (hn : slots ≤ n) : Go p e below (FinW s below Q k n) T (mkF m pc Ls []) := by
  obtain ⟨fs, hr, hrun, hended, hW, hsame⟩ := X.leave (v := none) (fun _ => rfl) hlk
  obtain ⟨a1, a2, a3⟩ := hS.ended hW (show n1 ≤ (T.setFrames fs).heap.size from hkk) hsame
  exact ⟨_, X.returnOut hx hret hd hr, _, hrun, hended, _, _, rfl, hQ, ⟨_, rfl⟩, a1, a2, a3.mono hk hn⟩
theorem narB {z : Int32} (h : z = 0 ∨ z = 1) : nar .boolean z = z := by rcases h with rfl | rfl <;> rfl
end Ends
def own_ws (c : Int32) : Int32 := if c.toInt = 32 ∨ c.toInt = 9 ∨ c.toInt = 10 ∨ c.toInt = 13 then 1 else 0
theorem own_ws1 {c : Int32} (h : c.toInt = 32 ∨ c.toInt = 9 ∨ c.toInt = 10 ∨ c.toInt = 13) : own_ws c = 1 := if_pos h
theorem own_ws0 {c : Int32} (h : ¬ (c.toInt = 32 ∨ c.toInt = 9 ∨ c.toInt = 10 ∨ c.toInt = 13)) : own_ws c = 0 := if_neg h
theorem d1_0 : decode prog_77_method_3_code 0 = .ok (.iload_n 0, 1) := by decide +kernel
theorem d1_1 : decode prog_77_method_3_code 1 = .ok (.bipush 32, 2) := by decide +kernel
theorem d1_3 : decode prog_77_method_3_code 3 = .ok (.if_icmp .eq 21, 3) := by decide +kernel
theorem d1_24 : decode prog_77_method_3_code 24 = .ok (.iconst 1, 1) := by decide +kernel
theorem d1_25 : decode prog_77_method_3_code 25 = .ok (.goto 4, 3) := by decide +kernel
theorem d1_29 : decode prog_77_method_3_code 29 = .ok (.ireturn, 1) := by decide +kernel
theorem d1_6 : decode prog_77_method_3_code 6 = .ok (.iload_n 0, 1) := by decide +kernel
theorem d1_7 : decode prog_77_method_3_code 7 = .ok (.bipush 9, 2) := by decide +kernel
theorem d1_9 : decode prog_77_method_3_code 9 = .ok (.if_icmp .eq 15, 3) := by decide +kernel
theorem d1_12 : decode prog_77_method_3_code 12 = .ok (.iload_n 0, 1) := by decide +kernel
theorem d1_13 : decode prog_77_method_3_code 13 = .ok (.bipush 13, 2) := by decide +kernel
theorem d1_15 : decode prog_77_method_3_code 15 = .ok (.if_icmp .eq 9, 3) := by decide +kernel
theorem d1_18 : decode prog_77_method_3_code 18 = .ok (.iload_n 0, 1) := by decide +kernel
theorem d1_19 : decode prog_77_method_3_code 19 = .ok (.bipush 10, 2) := by decide +kernel
theorem d1_21 : decode prog_77_method_3_code 21 = .ok (.if_icmp .ne 7, 3) := by decide +kernel
theorem d1_28 : decode prog_77_method_3_code 28 = .ok (.iconst 0, 1) := by decide +kernel
theorem pn_1 : plainName "com/example/fondskit/fondskit/xml/Text" = true := by first | (simp [plainName, overriddenIn]; done) | decide +kernel
theorem ef_rm1 (m : MethodId) (p1 : Int32) : entryFrame m #[(.int p1)] 1 = mkF m 0 #[.val (.int p1)] [] := by first | (simp [entryFrame, mkF, argsToLocals, Value.category]; done) | rfl
def Q_rm1 (Z : State) (p1 : Int32) (h0 : Heap) (n0 : Nat) (v : Option Value) (h : Heap) (L : List Loc) : Prop := v = some (.int (own_ws p1)) ∧ Fr n0 L ∧ h = h0
set_option maxRecDepth 65536 in
set_option maxHeartbeats 40000000 in
theorem rm1 (l : Launch) (Z : State) (a0 : Array Value) (hw : ∀ d ∈ tables_1, d.before a0 Z = true) (ws : List Jvm.Cond) (p1 : Int32) (h0 : Heap) (n0 : Nat) (Z0 : n0 ≤ h0.size) :
    MetFree l (⟨"com/example/fondskit/fondskit/xml/Text", "isWhitespace", "(I)Z"⟩ : MethodName) (head1 (Jvm.Cond.code (⟨"com/example/fondskit/fondskit/xml/Text", "isWhitespace", "(I)Z"⟩ : MethodName) prog_77_method_3_code 1 (some .boolean) :: ws) ({ frames := 0, cells := 0, slots := 0, locals := 0 } : Room)) (fun a U => a = #[(.int p1)] ∧ Z.Warmed39 U.vm ∧ U.heap = h0) (fun _ _ _ _ _ => True) (fun _ U o U' => ∃ v L, o = .returned v ∧ Q_rm1 Z p1 h0 n0 v U'.heap L ∧ FrameEnd U o U' L ({ frames := 0, cells := 0, slots := 0, locals := 0 } : Room).cells ({ frames := 0, cells := 0, slots := 0, locals := 0 } : Room).slots) := by
  refine MetFree.of_bodySF (plainFor_of_name pn_1) hisR ?_
  intro p e s m args below meth c s₁ Bd hml0 hP hK
  obtain ⟨rfl, hZ, hh⟩ := hP
  have hx := Bd.exec
  have hby := Bd.bytes
  have hml : c.maxLocals = 1 := hml0
  have hown : s.vm.findClass "com/example/fondskit/fondskit/xml/Text" = some m.cls := findClass_of_methodNamed Bd.named
  have hnm := (name_of_methodNamed Bd.named Bd.method).1
  have X0 : Stand p l e ({ frames := 0, cells := 0, slots := 0, locals := 0 } : Room) s m #[(.int p1)] below meth c s₁ [] 0 0 := Stand.of_body Bd
  have e0 : s₁.heap = h0 := by rw [← hh, Bd.state]; rfl
  have N0 := Fr.nil n0
  refine of_go (ef_rm1 m p1) ?_
  refine Go.step (T' := s₁) (f' := (mkF m 1 #[.val (.int p1)] [(.int p1)])) (fun _ k => XS.iloadN X0.here hx rfl (hb hby d1_0) rfl k) ?_
  refine Go.step (T' := s₁) (f' := (mkF m 3 #[.val (.int p1)] [(.int (32 : Int32)), (.int p1)])) (fun _ k => XS.bipush X0.here hx rfl (hb hby d1_1) k) ?_
  by_cases hc3 : p1 = (32 : Int32)
  · refine Go.step (T' := s₁) (f' := (mkF m 24 #[.val (.int p1)] [])) (fun _ k => XS.icmpYes X0.here hx rfl (pc0 := 3) (pc' := 24) rfl (hb hby d1_3) rfl (teq hc3).1 (by decide) (by decide) k) ?_
    refine Go.step (T' := s₁) (f' := (mkF m 25 #[.val (.int p1)] [(.int (1 : Int32))])) (fun _ k => XS.iconst X0.here hx rfl (hb hby d1_24) k) ?_
    refine Go.step (T' := s₁) (f' := (mkF m 29 #[.val (.int p1)] [(.int (1 : Int32))])) (fun _ k => XS.goto X0.here hx rfl (pc0 := 25) (pc' := 29) rfl (hb hby d1_25) (by decide) (by decide) k) ?_
    refine goN X0 hx (t := .boolean) Bd.returns (by simp) Bd.notSynchronized (hb hby d1_29) ?_ (by decide) (by decide)
    show Q_rm1 Z p1 h0 n0 _ s₁.heap _
    rw [e0]
    exact ⟨by rw [own_ws1 (by simp only [Int32.lt_iff_toInt_lt, ← Int32.toInt_inj, Int32.reduceToInt] at hc3 <;> omega)]; rfl, N0, rfl⟩
  · refine Go.step (T' := s₁) (f' := (mkF m 6 #[.val (.int p1)] [])) (fun _ k => XS.icmpNo X0.here hx rfl (hb hby d1_3) rfl (feq hc3).1 k) ?_
    refine Go.step (T' := s₁) (f' := (mkF m 7 #[.val (.int p1)] [(.int p1)])) (fun _ k => XS.iloadN X0.here hx rfl (hb hby d1_6) rfl k) ?_
    refine Go.step (T' := s₁) (f' := (mkF m 9 #[.val (.int p1)] [(.int (9 : Int32)), (.int p1)])) (fun _ k => XS.bipush X0.here hx rfl (hb hby d1_7) k) ?_
    by_cases hc9 : p1 = (9 : Int32)
    · refine Go.step (T' := s₁) (f' := (mkF m 24 #[.val (.int p1)] [])) (fun _ k => XS.icmpYes X0.here hx rfl (pc0 := 9) (pc' := 24) rfl (hb hby d1_9) rfl (teq hc9).1 (by decide) (by decide) k) ?_
      refine Go.step (T' := s₁) (f' := (mkF m 25 #[.val (.int p1)] [(.int (1 : Int32))])) (fun _ k => XS.iconst X0.here hx rfl (hb hby d1_24) k) ?_
      refine Go.step (T' := s₁) (f' := (mkF m 29 #[.val (.int p1)] [(.int (1 : Int32))])) (fun _ k => XS.goto X0.here hx rfl (pc0 := 25) (pc' := 29) rfl (hb hby d1_25) (by decide) (by decide) k) ?_
      refine goN X0 hx (t := .boolean) Bd.returns (by simp) Bd.notSynchronized (hb hby d1_29) ?_ (by decide) (by decide)
      show Q_rm1 Z p1 h0 n0 _ s₁.heap _
      rw [e0]
      exact ⟨by rw [own_ws1 (by simp only [Int32.lt_iff_toInt_lt, ← Int32.toInt_inj, Int32.reduceToInt] at hc3 hc9 <;> omega)]; rfl, N0, rfl⟩
    · refine Go.step (T' := s₁) (f' := (mkF m 12 #[.val (.int p1)] [])) (fun _ k => XS.icmpNo X0.here hx rfl (hb hby d1_9) rfl (feq hc9).1 k) ?_
      refine Go.step (T' := s₁) (f' := (mkF m 13 #[.val (.int p1)] [(.int p1)])) (fun _ k => XS.iloadN X0.here hx rfl (hb hby d1_12) rfl k) ?_
      refine Go.step (T' := s₁) (f' := (mkF m 15 #[.val (.int p1)] [(.int (13 : Int32)), (.int p1)])) (fun _ k => XS.bipush X0.here hx rfl (hb hby d1_13) k) ?_
      by_cases hc15 : p1 = (13 : Int32)
      · refine Go.step (T' := s₁) (f' := (mkF m 24 #[.val (.int p1)] [])) (fun _ k => XS.icmpYes X0.here hx rfl (pc0 := 15) (pc' := 24) rfl (hb hby d1_15) rfl (teq hc15).1 (by decide) (by decide) k) ?_
        refine Go.step (T' := s₁) (f' := (mkF m 25 #[.val (.int p1)] [(.int (1 : Int32))])) (fun _ k => XS.iconst X0.here hx rfl (hb hby d1_24) k) ?_
        refine Go.step (T' := s₁) (f' := (mkF m 29 #[.val (.int p1)] [(.int (1 : Int32))])) (fun _ k => XS.goto X0.here hx rfl (pc0 := 25) (pc' := 29) rfl (hb hby d1_25) (by decide) (by decide) k) ?_
        refine goN X0 hx (t := .boolean) Bd.returns (by simp) Bd.notSynchronized (hb hby d1_29) ?_ (by decide) (by decide)
        show Q_rm1 Z p1 h0 n0 _ s₁.heap _
        rw [e0]
        exact ⟨by rw [own_ws1 (by simp only [Int32.lt_iff_toInt_lt, ← Int32.toInt_inj, Int32.reduceToInt] at hc3 hc9 hc15 <;> omega)]; rfl, N0, rfl⟩
      · refine Go.step (T' := s₁) (f' := (mkF m 18 #[.val (.int p1)] [])) (fun _ k => XS.icmpNo X0.here hx rfl (hb hby d1_15) rfl (feq hc15).1 k) ?_
        refine Go.step (T' := s₁) (f' := (mkF m 19 #[.val (.int p1)] [(.int p1)])) (fun _ k => XS.iloadN X0.here hx rfl (hb hby d1_18) rfl k) ?_
        refine Go.step (T' := s₁) (f' := (mkF m 21 #[.val (.int p1)] [(.int (10 : Int32)), (.int p1)])) (fun _ k => XS.bipush X0.here hx rfl (hb hby d1_19) k) ?_
        by_cases hc21 : p1 = (10 : Int32)
        · refine Go.step (T' := s₁) (f' := (mkF m 24 #[.val (.int p1)] [])) (fun _ k => XS.icmpNo X0.here hx rfl (hb hby d1_21) rfl (teq hc21).2 k) ?_
          refine Go.step (T' := s₁) (f' := (mkF m 25 #[.val (.int p1)] [(.int (1 : Int32))])) (fun _ k => XS.iconst X0.here hx rfl (hb hby d1_24) k) ?_
          refine Go.step (T' := s₁) (f' := (mkF m 29 #[.val (.int p1)] [(.int (1 : Int32))])) (fun _ k => XS.goto X0.here hx rfl (pc0 := 25) (pc' := 29) rfl (hb hby d1_25) (by decide) (by decide) k) ?_
          refine goN X0 hx (t := .boolean) Bd.returns (by simp) Bd.notSynchronized (hb hby d1_29) ?_ (by decide) (by decide)
          show Q_rm1 Z p1 h0 n0 _ s₁.heap _
          rw [e0]
          exact ⟨by rw [own_ws1 (by simp only [Int32.lt_iff_toInt_lt, ← Int32.toInt_inj, Int32.reduceToInt] at hc3 hc9 hc15 hc21 <;> omega)]; rfl, N0, rfl⟩
        · refine Go.step (T' := s₁) (f' := (mkF m 28 #[.val (.int p1)] [])) (fun _ k => XS.icmpYes X0.here hx rfl (pc0 := 21) (pc' := 28) rfl (hb hby d1_21) rfl (feq hc21).2 (by decide) (by decide) k) ?_
          refine Go.step (T' := s₁) (f' := (mkF m 29 #[.val (.int p1)] [(.int (0 : Int32))])) (fun _ k => XS.iconst X0.here hx rfl (hb hby d1_28) k) ?_
          refine goN X0 hx (t := .boolean) Bd.returns (by simp) Bd.notSynchronized (hb hby d1_29) ?_ (by decide) (by decide)
          show Q_rm1 Z p1 h0 n0 _ s₁.heap _
          rw [e0]
          exact ⟨by rw [own_ws0 (by simp only [Int32.lt_iff_toInt_lt, ← Int32.toInt_inj, Int32.reduceToInt] at hc3 hc9 hc15 hc21 <;> omega)]; rfl, N0, rfl⟩
theorem pd_0 : parseMethodDescriptor "(I)Z" = some ⟨[.int], some .boolean⟩ := by decide +kernel
theorem pn_0 : plainName "com/example/fondskit/fondskit/xml/TextIsWhitespacePinLaw" = true := by first | (simp [plainName, overriddenIn]; done) | decide +kernel
theorem ef_rm0 (m : MethodId) (p1 : Int32) (p2 : Int32) : entryFrame m #[(.int p1), (.int p2)] maxLocals = mkF m 0 #[.val (.int p1), .val (.int p2), .unset, .unset] [] := by first | (simp [entryFrame, mkF, argsToLocals, Value.category, maxLocals]; done) | rfl
def Q_rm0 (Z : State) (p1 : Int32) (p2 : Int32) (h0 : Heap) (n0 : Nat) (v : Option Value) (h : Heap) (L : List Loc) : Prop := v = some (.int (1 : Int32)) ∧ Fr n0 L
set_option maxRecDepth 65536 in
set_option maxHeartbeats 40000000 in
theorem rm0 (l : Launch) (Z : State) (a0 : Array Value) (hw : ∀ d ∈ tables_1, d.before a0 Z = true) (ws : List Jvm.Cond) (p1 : Int32) (p2 : Int32) (h0 : Heap) (n0 : Nat) (Z0 : n0 ≤ h0.size) :
    MetFree l x (head1 (Jvm.Cond.code x code maxLocals ret :: ws) room_1) (fun a U => a = #[(.int p1), (.int p2)] ∧ Z.Warmed39 U.vm ∧ U.heap = h0) (fun _ _ _ _ _ => True) (fun _ U o U' => ∃ v L, o = .returned v ∧ Q_rm0 Z p1 p2 h0 n0 v U'.heap L ∧ FrameEnd U o U' L room_1.cells room_1.slots) := by
  refine MetFree.of_bodySF (plainFor_of_name pn_0) hisR ?_
  intro p e s m args below meth c s₁ Bd hml0 hP hK
  obtain ⟨rfl, hZ, hh⟩ := hP
  have hx := Bd.exec
  have hby := Bd.bytes
  have hml : c.maxLocals = 4 := hml0
  have hown : s.vm.findClass "com/example/fondskit/fondskit/xml/TextIsWhitespacePinLaw" = some m.cls := findClass_of_methodNamed Bd.named
  have hnm := (name_of_methodNamed Bd.named Bd.method).1
  have X0 : Stand p l e room_1 s m #[(.int p1), (.int p2)] below meth c s₁ [] 0 0 := Stand.of_body Bd
  have e0 : s₁.heap = h0 := by rw [← hh, Bd.state]; rfl
  have N0 := Fr.nil n0
  refine of_go (ef_rm0 m p1 p2) ?_
  refine Go.step (T' := s₁) (f' := (mkF m 1 #[.val (.int p1), .val (.int p2), .unset, .unset] [(.int p2)])) (fun _ k => XS.iloadN X0.here hx rfl (hb hby at_0) rfl k) ?_
  refine Go.step (T' := s₁) (f' := (mkF m 2 #[.val (.int p1), .val (.int p2), .unset, .unset] [(.int (1 : Int32)), (.int p2)])) (fun _ k => XS.iconst X0.here hx rfl (hb hby at_1) k) ?_
  refine Go.step (T' := s₁) (f' := (mkF m 3 #[.val (.int p1), .val (.int p2), .unset, .unset] [(.int (p2 &&& (1 : Int32)))])) (fun _ k => XS.iand X0.here hx rfl (hb hby at_2) rfl k) ?_
  by_cases hc3 : (p2 &&& (1 : Int32)) = (0 : Int32)
  · refine Go.step (T' := s₁) (f' := (mkF m 10 #[.val (.int p1), .val (.int p2), .unset, .unset] [])) (fun _ k => XS.ifYes X0.here hx rfl (pc0 := 3) (pc' := 10) rfl (hb hby at_3) rfl ((if0 _ _).trans (teq hc3).1) (by decide) (by decide) k) ?_
    refine Go.step (T' := s₁) (f' := (mkF m 11 #[.val (.int p1), .val (.int p2), .unset, .unset] [(.int p1)])) (fun _ k => XS.iloadN X0.here hx rfl (hb hby at_10) rfl k) ?_
    refine Go.step (T' := s₁) (f' := (mkF m 13 #[.val (.int p1), .val (.int p2), .unset, .unset] [(.int (63 : Int32)), (.int p1)])) (fun _ k => XS.bipush X0.here hx rfl (hb hby at_11) k) ?_
    refine Go.step (T' := s₁) (f' := (mkF m 14 #[.val (.int p1), .val (.int p2), .unset, .unset] [(.int (p1 &&& (63 : Int32)))])) (fun _ k => XS.iand X0.here hx rfl (hb hby at_13) rfl k) ?_
    refine Go.step (T' := s₁) (f' := (mkF m 15 #[.val (.int p1), .val (.int p2), .val (.int (p1 &&& (63 : Int32))), .unset] [])) (fun _ k => XS.istoreN X0.here hx rfl (hb hby at_14) rfl (l' := #[.val (.int p1), .val (.int p2), .val (.int (p1 &&& (63 : Int32))), .unset]) rfl k) ?_
    refine Go.step (T' := s₁) (f' := (mkF m 16 #[.val (.int p1), .val (.int p2), .val (.int (p1 &&& (63 : Int32))), .unset] [(.int (p1 &&& (63 : Int32)))])) (fun _ k => XS.iloadN X0.here hx rfl (hb hby at_15) rfl k) ?_
    refine Go.step (T' := s₁) (f' := (mkF m 18 #[.val (.int p1), .val (.int p2), .val (.int (p1 &&& (63 : Int32))), .unset] [(.int (32 : Int32)), (.int (p1 &&& (63 : Int32)))])) (fun _ k => XS.bipush X0.here hx rfl (hb hby at_16) k) ?_
    by_cases hc18 : (p1 &&& (63 : Int32)) = (32 : Int32)
    · refine Go.step (T' := s₁) (f' := (mkF m 45 #[.val (.int p1), .val (.int p2), .val (.int (p1 &&& (63 : Int32))), .unset] [])) (fun _ k => XS.icmpYes X0.here hx rfl (pc0 := 18) (pc' := 45) rfl (hb hby at_18) rfl (teq hc18).1 (by decide) (by decide) k) ?_
      refine Go.step (T' := s₁) (f' := (mkF m 46 #[.val (.int p1), .val (.int p2), .val (.int (p1 &&& (63 : Int32))), .unset] [(.int (1 : Int32))])) (fun _ k => XS.iconst X0.here hx rfl (hb hby at_45) k) ?_
      refine Go.step (T' := s₁) (f' := (mkF m 50 #[.val (.int p1), .val (.int p2), .val (.int (p1 &&& (63 : Int32))), .unset] [(.int (1 : Int32))])) (fun _ k => XS.goto X0.here hx rfl (pc0 := 46) (pc' := 50) rfl (hb hby at_46) (by decide) (by decide) k) ?_
      refine Go.step (T' := s₁) (f' := (mkF m 51 #[.val (.int p1), .val (.int p2), .val (.int (p1 &&& (63 : Int32))), .val (.int (1 : Int32))] [])) (fun _ k => XS.istoreN X0.here hx rfl (hb hby at_50) rfl (l' := #[.val (.int p1), .val (.int p2), .val (.int (p1 &&& (63 : Int32))), .val (.int (1 : Int32))]) rfl k) ?_
      refine Go.step (T' := s₁) (f' := (mkF m 52 #[.val (.int p1), .val (.int p2), .val (.int (p1 &&& (63 : Int32))), .val (.int (1 : Int32))] [(.int (p1 &&& (63 : Int32)))])) (fun _ k => XS.iloadN X0.here hx rfl (hb hby at_51) rfl k) ?_
      obtain ⟨_, _, ⟨T1, L1, k1, n1⟩, -, X1, ⟨Lc1, hQ1, l1, y1, z1⟩, st1⟩ := Jvm.LawKit.callS X0 hx (y := (⟨"com/example/fondskit/fondskit/xml/Text", "isWhitespace", "(I)Z"⟩ : MethodName)) hown (mvT hZ (hw _ (List.mem_of_getElem? (i := 0) rfl))) (mvT hZ (hw _ (List.mem_of_getElem? (i := 1) rfl))) (mvT hZ (hw _ (List.mem_of_getElem? (i := 2) rfl))) (mvT hZ (hw _ (List.mem_of_getElem? (i := 3) rfl))) (by decide) (backOf (W := 0) (rm1 l Z a0 hw [] (p1 &&& (63 : Int32)) h0 n0 Z0 ) hZ (hw _ (List.mem_of_getElem? (i := 3) rfl)) (hw _ (List.mem_of_getElem? (i := 2) rfl)) (by decide) (by decide)) (g := (mkF m 52 #[.val (.int p1), .val (.int p2), .val (.int (p1 &&& (63 : Int32))), .val (.int (1 : Int32))] [(.int (p1 &&& (63 : Int32)))])) rfl (by rw [hml]; rfl) (argsL := [(.int (p1 &&& (63 : Int32)))]) (rest := []) (lenOf pd_0 rfl) rfl (by show 2 * 0 + _ ≤ _; exact Nat.le_of_eq rfl) (hb hby at_52) (fun _ _ => ⟨rfl, e0, (by decide : 0 + 0 ≤ _), (by decide : 0 + 0 ≤ _)⟩)
      dsimp only [Pt.U, Pt.locs, Pt.cells, Pt.slots] at X1 l1 y1 z1 st1 hQ1
      subst l1 y1 z1
      obtain ⟨rfl, Nq1, eh1⟩ := hQ1
      have N1 := Fr.app N0 Nq1
      refine Go.step (T' := T1) (f' := (mkF m 55 #[.val (.int p1), .val (.int p2), .val (.int (p1 &&& (63 : Int32))), .val (.int (1 : Int32))] [(.int (own_ws (p1 &&& (63 : Int32))))])) st1 ?_
      refine Go.step (T' := T1) (f' := (mkF m 56 #[.val (.int p1), .val (.int p2), .val (.int (p1 &&& (63 : Int32))), .val (.int (1 : Int32))] [(.int (1 : Int32)), (.int (own_ws (p1 &&& (63 : Int32))))])) (fun _ k => XS.iloadN X1.here hx rfl (hb hby at_55) rfl k) ?_
      refine Go.step (T' := T1) (f' := (mkF m 59 #[.val (.int p1), .val (.int p2), .val (.int (p1 &&& (63 : Int32))), .val (.int (1 : Int32))] [])) (fun _ k => XS.icmpNo X1.here hx rfl (hb hby at_56) rfl (teq (own_ws1 (by simp only [Int32.lt_iff_toInt_lt, ← Int32.toInt_inj, Int32.reduceToInt] at hc3 hc18 <;> omega))).2 k) ?_
      refine Go.step (T' := T1) (f' := (mkF m 60 #[.val (.int p1), .val (.int p2), .val (.int (p1 &&& (63 : Int32))), .val (.int (1 : Int32))] [(.int (1 : Int32))])) (fun _ k => XS.iconst X1.here hx rfl (hb hby at_59) k) ?_
      refine Go.step (T' := T1) (f' := (mkF m 64 #[.val (.int p1), .val (.int p2), .val (.int (p1 &&& (63 : Int32))), .val (.int (1 : Int32))] [(.int (1 : Int32))])) (fun _ k => XS.goto X1.here hx rfl (pc0 := 60) (pc' := 64) rfl (hb hby at_60) (by decide) (by decide) k) ?_
      refine goN X1 hx (t := .boolean) Bd.returns (by simp) Bd.notSynchronized (hb hby at_64) ?_ (by decide) (by decide)
      show Q_rm0 Z p1 p2 h0 n0 _ T1.heap _
      rw [eh1]
      exact ⟨rfl, N1⟩
    · refine Go.step (T' := s₁) (f' := (mkF m 21 #[.val (.int p1), .val (.int p2), .val (.int (p1 &&& (63 : Int32))), .unset] [])) (fun _ k => XS.icmpNo X0.here hx rfl (hb hby at_18) rfl (feq hc18).1 k) ?_
      refine Go.step (T' := s₁) (f' := (mkF m 22 #[.val (.int p1), .val (.int p2), .val (.int (p1 &&& (63 : Int32))), .unset] [(.int (p1 &&& (63 : Int32)))])) (fun _ k => XS.iloadN X0.here hx rfl (hb hby at_21) rfl k) ?_
      refine Go.step (T' := s₁) (f' := (mkF m 24 #[.val (.int p1), .val (.int p2), .val (.int (p1 &&& (63 : Int32))), .unset] [(.int (9 : Int32)), (.int (p1 &&& (63 : Int32)))])) (fun _ k => XS.bipush X0.here hx rfl (hb hby at_22) k) ?_
      by_cases hc24 : (p1 &&& (63 : Int32)) < (9 : Int32)
      · refine Go.step (T' := s₁) (f' := (mkF m 49 #[.val (.int p1), .val (.int p2), .val (.int (p1 &&& (63 : Int32))), .unset] [])) (fun _ k => XS.icmpYes X0.here hx rfl (pc0 := 24) (pc' := 49) rfl (hb hby at_24) rfl (tlt hc24).1 (by decide) (by decide) k) ?_
        refine Go.step (T' := s₁) (f' := (mkF m 50 #[.val (.int p1), .val (.int p2), .val (.int (p1 &&& (63 : Int32))), .unset] [(.int (0 : Int32))])) (fun _ k => XS.iconst X0.here hx rfl (hb hby at_49) k) ?_
        refine Go.step (T' := s₁) (f' := (mkF m 51 #[.val (.int p1), .val (.int p2), .val (.int (p1 &&& (63 : Int32))), .val (.int (0 : Int32))] [])) (fun _ k => XS.istoreN X0.here hx rfl (hb hby at_50) rfl (l' := #[.val (.int p1), .val (.int p2), .val (.int (p1 &&& (63 : Int32))), .val (.int (0 : Int32))]) rfl k) ?_
        refine Go.step (T' := s₁) (f' := (mkF m 52 #[.val (.int p1), .val (.int p2), .val (.int (p1 &&& (63 : Int32))), .val (.int (0 : Int32))] [(.int (p1 &&& (63 : Int32)))])) (fun _ k => XS.iloadN X0.here hx rfl (hb hby at_51) rfl k) ?_
        obtain ⟨_, _, ⟨T2, L2, k2, n2⟩, -, X2, ⟨Lc2, hQ2, l2, y2, z2⟩, st2⟩ := Jvm.LawKit.callS X0 hx (y := (⟨"com/example/fondskit/fondskit/xml/Text", "isWhitespace", "(I)Z"⟩ : MethodName)) hown (mvT hZ (hw _ (List.mem_of_getElem? (i := 0) rfl))) (mvT hZ (hw _ (List.mem_of_getElem? (i := 1) rfl))) (mvT hZ (hw _ (List.mem_of_getElem? (i := 2) rfl))) (mvT hZ (hw _ (List.mem_of_getElem? (i := 3) rfl))) (by decide) (backOf (W := 0) (rm1 l Z a0 hw [] (p1 &&& (63 : Int32)) h0 n0 Z0 ) hZ (hw _ (List.mem_of_getElem? (i := 3) rfl)) (hw _ (List.mem_of_getElem? (i := 2) rfl)) (by decide) (by decide)) (g := (mkF m 52 #[.val (.int p1), .val (.int p2), .val (.int (p1 &&& (63 : Int32))), .val (.int (0 : Int32))] [(.int (p1 &&& (63 : Int32)))])) rfl (by rw [hml]; rfl) (argsL := [(.int (p1 &&& (63 : Int32)))]) (rest := []) (lenOf pd_0 rfl) rfl (by show 2 * 0 + _ ≤ _; exact Nat.le_of_eq rfl) (hb hby at_52) (fun _ _ => ⟨rfl, e0, (by decide : 0 + 0 ≤ _), (by decide : 0 + 0 ≤ _)⟩)
        dsimp only [Pt.U, Pt.locs, Pt.cells, Pt.slots] at X2 l2 y2 z2 st2 hQ2
        subst l2 y2 z2
        obtain ⟨rfl, Nq2, eh2⟩ := hQ2
        have N2 := Fr.app N0 Nq2
        refine Go.step (T' := T2) (f' := (mkF m 55 #[.val (.int p1), .val (.int p2), .val (.int (p1 &&& (63 : Int32))), .val (.int (0 : Int32))] [(.int (own_ws (p1 &&& (63 : Int32))))])) st2 ?_
        refine Go.step (T' := T2) (f' := (mkF m 56 #[.val (.int p1), .val (.int p2), .val (.int (p1 &&& (63 : Int32))), .val (.int (0 : Int32))] [(.int (0 : Int32)), (.int (own_ws (p1 &&& (63 : Int32))))])) (fun _ k => XS.iloadN X2.here hx rfl (hb hby at_55) rfl k) ?_
        refine Go.step (T' := T2) (f' := (mkF m 59 #[.val (.int p1), .val (.int p2), .val (.int (p1 &&& (63 : Int32))), .val (.int (0 : Int32))] [])) (fun _ k => XS.icmpNo X2.here hx rfl (hb hby at_56) rfl (teq (own_ws0 (by simp only [Int32.lt_iff_toInt_lt, ← Int32.toInt_inj, Int32.reduceToInt] at hc3 hc18 hc24 <;> omega))).2 k) ?_
        refine Go.step (T' := T2) (f' := (mkF m 60 #[.val (.int p1), .val (.int p2), .val (.int (p1 &&& (63 : Int32))), .val (.int (0 : Int32))] [(.int (1 : Int32))])) (fun _ k => XS.iconst X2.here hx rfl (hb hby at_59) k) ?_
        refine Go.step (T' := T2) (f' := (mkF m 64 #[.val (.int p1), .val (.int p2), .val (.int (p1 &&& (63 : Int32))), .val (.int (0 : Int32))] [(.int (1 : Int32))])) (fun _ k => XS.goto X2.here hx rfl (pc0 := 60) (pc' := 64) rfl (hb hby at_60) (by decide) (by decide) k) ?_
        refine goN X2 hx (t := .boolean) Bd.returns (by simp) Bd.notSynchronized (hb hby at_64) ?_ (by decide) (by decide)
        show Q_rm0 Z p1 p2 h0 n0 _ T2.heap _
        rw [eh2]
        exact ⟨rfl, N2⟩
      · refine Go.step (T' := s₁) (f' := (mkF m 27 #[.val (.int p1), .val (.int p2), .val (.int (p1 &&& (63 : Int32))), .unset] [])) (fun _ k => XS.icmpNo X0.here hx rfl (hb hby at_24) rfl (flt hc24).1 k) ?_
        refine Go.step (T' := s₁) (f' := (mkF m 28 #[.val (.int p1), .val (.int p2), .val (.int (p1 &&& (63 : Int32))), .unset] [(.int (p1 &&& (63 : Int32)))])) (fun _ k => XS.iloadN X0.here hx rfl (hb hby at_27) rfl k) ?_
        refine Go.step (T' := s₁) (f' := (mkF m 30 #[.val (.int p1), .val (.int p2), .val (.int (p1 &&& (63 : Int32))), .unset] [(.int (13 : Int32)), (.int (p1 &&& (63 : Int32)))])) (fun _ k => XS.bipush X0.here hx rfl (hb hby at_28) k) ?_
        by_cases hc30 : (13 : Int32) < (p1 &&& (63 : Int32))
        · refine Go.step (T' := s₁) (f' := (mkF m 49 #[.val (.int p1), .val (.int p2), .val (.int (p1 &&& (63 : Int32))), .unset] [])) (fun _ k => XS.icmpYes X0.here hx rfl (pc0 := 30) (pc' := 49) rfl (hb hby at_30) rfl (tlt hc30).2.2.1 (by decide) (by decide) k) ?_
          refine Go.step (T' := s₁) (f' := (mkF m 50 #[.val (.int p1), .val (.int p2), .val (.int (p1 &&& (63 : Int32))), .unset] [(.int (0 : Int32))])) (fun _ k => XS.iconst X0.here hx rfl (hb hby at_49) k) ?_
          refine Go.step (T' := s₁) (f' := (mkF m 51 #[.val (.int p1), .val (.int p2), .val (.int (p1 &&& (63 : Int32))), .val (.int (0 : Int32))] [])) (fun _ k => XS.istoreN X0.here hx rfl (hb hby at_50) rfl (l' := #[.val (.int p1), .val (.int p2), .val (.int (p1 &&& (63 : Int32))), .val (.int (0 : Int32))]) rfl k) ?_
          refine Go.step (T' := s₁) (f' := (mkF m 52 #[.val (.int p1), .val (.int p2), .val (.int (p1 &&& (63 : Int32))), .val (.int (0 : Int32))] [(.int (p1 &&& (63 : Int32)))])) (fun _ k => XS.iloadN X0.here hx rfl (hb hby at_51) rfl k) ?_
          obtain ⟨_, _, ⟨T3, L3, k3, n3⟩, -, X3, ⟨Lc3, hQ3, l3, y3, z3⟩, st3⟩ := Jvm.LawKit.callS X0 hx (y := (⟨"com/example/fondskit/fondskit/xml/Text", "isWhitespace", "(I)Z"⟩ : MethodName)) hown (mvT hZ (hw _ (List.mem_of_getElem? (i := 0) rfl))) (mvT hZ (hw _ (List.mem_of_getElem? (i := 1) rfl))) (mvT hZ (hw _ (List.mem_of_getElem? (i := 2) rfl))) (mvT hZ (hw _ (List.mem_of_getElem? (i := 3) rfl))) (by decide) (backOf (W := 0) (rm1 l Z a0 hw [] (p1 &&& (63 : Int32)) h0 n0 Z0 ) hZ (hw _ (List.mem_of_getElem? (i := 3) rfl)) (hw _ (List.mem_of_getElem? (i := 2) rfl)) (by decide) (by decide)) (g := (mkF m 52 #[.val (.int p1), .val (.int p2), .val (.int (p1 &&& (63 : Int32))), .val (.int (0 : Int32))] [(.int (p1 &&& (63 : Int32)))])) rfl (by rw [hml]; rfl) (argsL := [(.int (p1 &&& (63 : Int32)))]) (rest := []) (lenOf pd_0 rfl) rfl (by show 2 * 0 + _ ≤ _; exact Nat.le_of_eq rfl) (hb hby at_52) (fun _ _ => ⟨rfl, e0, (by decide : 0 + 0 ≤ _), (by decide : 0 + 0 ≤ _)⟩)
          dsimp only [Pt.U, Pt.locs, Pt.cells, Pt.slots] at X3 l3 y3 z3 st3 hQ3
          subst l3 y3 z3
          obtain ⟨rfl, Nq3, eh3⟩ := hQ3
          have N3 := Fr.app N0 Nq3
          refine Go.step (T' := T3) (f' := (mkF m 55 #[.val (.int p1), .val (.int p2), .val (.int (p1 &&& (63 : Int32))), .val (.int (0 : Int32))] [(.int (own_ws (p1 &&& (63 : Int32))))])) st3 ?_
          refine Go.step (T' := T3) (f' := (mkF m 56 #[.val (.int p1), .val (.int p2), .val (.int (p1 &&& (63 : Int32))), .val (.int (0 : Int32))] [(.int (0 : Int32)), (.int (own_ws (p1 &&& (63 : Int32))))])) (fun _ k => XS.iloadN X3.here hx rfl (hb hby at_55) rfl k) ?_
          refine Go.step (T' := T3) (f' := (mkF m 59 #[.val (.int p1), .val (.int p2), .val (.int (p1 &&& (63 : Int32))), .val (.int (0 : Int32))] [])) (fun _ k => XS.icmpNo X3.here hx rfl (hb hby at_56) rfl (teq (own_ws0 (by simp only [Int32.lt_iff_toInt_lt, ← Int32.toInt_inj, Int32.reduceToInt] at hc3 hc18 hc24 hc30 <;> omega))).2 k) ?_
          refine Go.step (T' := T3) (f' := (mkF m 60 #[.val (.int p1), .val (.int p2), .val (.int (p1 &&& (63 : Int32))), .val (.int (0 : Int32))] [(.int (1 : Int32))])) (fun _ k => XS.iconst X3.here hx rfl (hb hby at_59) k) ?_
          refine Go.step (T' := T3) (f' := (mkF m 64 #[.val (.int p1), .val (.int p2), .val (.int (p1 &&& (63 : Int32))), .val (.int (0 : Int32))] [(.int (1 : Int32))])) (fun _ k => XS.goto X3.here hx rfl (pc0 := 60) (pc' := 64) rfl (hb hby at_60) (by decide) (by decide) k) ?_
          refine goN X3 hx (t := .boolean) Bd.returns (by simp) Bd.notSynchronized (hb hby at_64) ?_ (by decide) (by decide)
          show Q_rm0 Z p1 p2 h0 n0 _ T3.heap _
          rw [eh3]
          exact ⟨rfl, N3⟩
        · refine Go.step (T' := s₁) (f' := (mkF m 33 #[.val (.int p1), .val (.int p2), .val (.int (p1 &&& (63 : Int32))), .unset] [])) (fun _ k => XS.icmpNo X0.here hx rfl (hb hby at_30) rfl (flt hc30).2.2.1 k) ?_
          refine Go.step (T' := s₁) (f' := (mkF m 34 #[.val (.int p1), .val (.int p2), .val (.int (p1 &&& (63 : Int32))), .unset] [(.int (p1 &&& (63 : Int32)))])) (fun _ k => XS.iloadN X0.here hx rfl (hb hby at_33) rfl k) ?_
          refine Go.step (T' := s₁) (f' := (mkF m 36 #[.val (.int p1), .val (.int p2), .val (.int (p1 &&& (63 : Int32))), .unset] [(.int (11 : Int32)), (.int (p1 &&& (63 : Int32)))])) (fun _ k => XS.bipush X0.here hx rfl (hb hby at_34) k) ?_
          by_cases hc36 : (p1 &&& (63 : Int32)) = (11 : Int32)
          · refine Go.step (T' := s₁) (f' := (mkF m 49 #[.val (.int p1), .val (.int p2), .val (.int (p1 &&& (63 : Int32))), .unset] [])) (fun _ k => XS.icmpYes X0.here hx rfl (pc0 := 36) (pc' := 49) rfl (hb hby at_36) rfl (teq hc36).1 (by decide) (by decide) k) ?_
            refine Go.step (T' := s₁) (f' := (mkF m 50 #[.val (.int p1), .val (.int p2), .val (.int (p1 &&& (63 : Int32))), .unset] [(.int (0 : Int32))])) (fun _ k => XS.iconst X0.here hx rfl (hb hby at_49) k) ?_
            refine Go.step (T' := s₁) (f' := (mkF m 51 #[.val (.int p1), .val (.int p2), .val (.int (p1 &&& (63 : Int32))), .val (.int (0 : Int32))] [])) (fun _ k => XS.istoreN X0.here hx rfl (hb hby at_50) rfl (l' := #[.val (.int p1), .val (.int p2), .val (.int (p1 &&& (63 : Int32))), .val (.int (0 : Int32))]) rfl k) ?_
            refine Go.step (T' := s₁) (f' := (mkF m 52 #[.val (.int p1), .val (.int p2), .val (.int (p1 &&& (63 : Int32))), .val (.int (0 : Int32))] [(.int (p1 &&& (63 : Int32)))])) (fun _ k => XS.iloadN X0.here hx rfl (hb hby at_51) rfl k) ?_
            obtain ⟨_, _, ⟨T4, L4, k4, n4⟩, -, X4, ⟨Lc4, hQ4, l4, y4, z4⟩, st4⟩ := Jvm.LawKit.callS X0 hx (y := (⟨"com/example/fondskit/fondskit/xml/Text", "isWhitespace", "(I)Z"⟩ : MethodName)) hown (mvT hZ (hw _ (List.mem_of_getElem? (i := 0) rfl))) (mvT hZ (hw _ (List.mem_of_getElem? (i := 1) rfl))) (mvT hZ (hw _ (List.mem_of_getElem? (i := 2) rfl))) (mvT hZ (hw _ (List.mem_of_getElem? (i := 3) rfl))) (by decide) (backOf (W := 0) (rm1 l Z a0 hw [] (p1 &&& (63 : Int32)) h0 n0 Z0 ) hZ (hw _ (List.mem_of_getElem? (i := 3) rfl)) (hw _ (List.mem_of_getElem? (i := 2) rfl)) (by decide) (by decide)) (g := (mkF m 52 #[.val (.int p1), .val (.int p2), .val (.int (p1 &&& (63 : Int32))), .val (.int (0 : Int32))] [(.int (p1 &&& (63 : Int32)))])) rfl (by rw [hml]; rfl) (argsL := [(.int (p1 &&& (63 : Int32)))]) (rest := []) (lenOf pd_0 rfl) rfl (by show 2 * 0 + _ ≤ _; exact Nat.le_of_eq rfl) (hb hby at_52) (fun _ _ => ⟨rfl, e0, (by decide : 0 + 0 ≤ _), (by decide : 0 + 0 ≤ _)⟩)
            dsimp only [Pt.U, Pt.locs, Pt.cells, Pt.slots] at X4 l4 y4 z4 st4 hQ4
            subst l4 y4 z4
            obtain ⟨rfl, Nq4, eh4⟩ := hQ4
            have N4 := Fr.app N0 Nq4
            refine Go.step (T' := T4) (f' := (mkF m 55 #[.val (.int p1), .val (.int p2), .val (.int (p1 &&& (63 : Int32))), .val (.int (0 : Int32))] [(.int (own_ws (p1 &&& (63 : Int32))))])) st4 ?_
            refine Go.step (T' := T4) (f' := (mkF m 56 #[.val (.int p1), .val (.int p2), .val (.int (p1 &&& (63 : Int32))), .val (.int (0 : Int32))] [(.int (0 : Int32)), (.int (own_ws (p1 &&& (63 : Int32))))])) (fun _ k => XS.iloadN X4.here hx rfl (hb hby at_55) rfl k) ?_
            refine Go.step (T' := T4) (f' := (mkF m 59 #[.val (.int p1), .val (.int p2), .val (.int (p1 &&& (63 : Int32))), .val (.int (0 : Int32))] [])) (fun _ k => XS.icmpNo X4.here hx rfl (hb hby at_56) rfl (teq (own_ws0 (by simp only [Int32.lt_iff_toInt_lt, ← Int32.toInt_inj, Int32.reduceToInt] at hc3 hc18 hc24 hc30 hc36 <;> omega))).2 k) ?_
            refine Go.step (T' := T4) (f' := (mkF m 60 #[.val (.int p1), .val (.int p2), .val (.int (p1 &&& (63 : Int32))), .val (.int (0 : Int32))] [(.int (1 : Int32))])) (fun _ k => XS.iconst X4.here hx rfl (hb hby at_59) k) ?_
            refine Go.step (T' := T4) (f' := (mkF m 64 #[.val (.int p1), .val (.int p2), .val (.int (p1 &&& (63 : Int32))), .val (.int (0 : Int32))] [(.int (1 : Int32))])) (fun _ k => XS.goto X4.here hx rfl (pc0 := 60) (pc' := 64) rfl (hb hby at_60) (by decide) (by decide) k) ?_
            refine goN X4 hx (t := .boolean) Bd.returns (by simp) Bd.notSynchronized (hb hby at_64) ?_ (by decide) (by decide)
            show Q_rm0 Z p1 p2 h0 n0 _ T4.heap _
            rw [eh4]
            exact ⟨rfl, N4⟩
          · refine Go.step (T' := s₁) (f' := (mkF m 39 #[.val (.int p1), .val (.int p2), .val (.int (p1 &&& (63 : Int32))), .unset] [])) (fun _ k => XS.icmpNo X0.here hx rfl (hb hby at_36) rfl (feq hc36).1 k) ?_
            refine Go.step (T' := s₁) (f' := (mkF m 40 #[.val (.int p1), .val (.int p2), .val (.int (p1 &&& (63 : Int32))), .unset] [(.int (p1 &&& (63 : Int32)))])) (fun _ k => XS.iloadN X0.here hx rfl (hb hby at_39) rfl k) ?_
            refine Go.step (T' := s₁) (f' := (mkF m 42 #[.val (.int p1), .val (.int p2), .val (.int (p1 &&& (63 : Int32))), .unset] [(.int (12 : Int32)), (.int (p1 &&& (63 : Int32)))])) (fun _ k => XS.bipush X0.here hx rfl (hb hby at_40) k) ?_
            by_cases hc42 : (p1 &&& (63 : Int32)) = (12 : Int32)
            · refine Go.step (T' := s₁) (f' := (mkF m 49 #[.val (.int p1), .val (.int p2), .val (.int (p1 &&& (63 : Int32))), .unset] [])) (fun _ k => XS.icmpYes X0.here hx rfl (pc0 := 42) (pc' := 49) rfl (hb hby at_42) rfl (teq hc42).1 (by decide) (by decide) k) ?_
              refine Go.step (T' := s₁) (f' := (mkF m 50 #[.val (.int p1), .val (.int p2), .val (.int (p1 &&& (63 : Int32))), .unset] [(.int (0 : Int32))])) (fun _ k => XS.iconst X0.here hx rfl (hb hby at_49) k) ?_
              refine Go.step (T' := s₁) (f' := (mkF m 51 #[.val (.int p1), .val (.int p2), .val (.int (p1 &&& (63 : Int32))), .val (.int (0 : Int32))] [])) (fun _ k => XS.istoreN X0.here hx rfl (hb hby at_50) rfl (l' := #[.val (.int p1), .val (.int p2), .val (.int (p1 &&& (63 : Int32))), .val (.int (0 : Int32))]) rfl k) ?_
              refine Go.step (T' := s₁) (f' := (mkF m 52 #[.val (.int p1), .val (.int p2), .val (.int (p1 &&& (63 : Int32))), .val (.int (0 : Int32))] [(.int (p1 &&& (63 : Int32)))])) (fun _ k => XS.iloadN X0.here hx rfl (hb hby at_51) rfl k) ?_
              obtain ⟨_, _, ⟨T5, L5, k5, n5⟩, -, X5, ⟨Lc5, hQ5, l5, y5, z5⟩, st5⟩ := Jvm.LawKit.callS X0 hx (y := (⟨"com/example/fondskit/fondskit/xml/Text", "isWhitespace", "(I)Z"⟩ : MethodName)) hown (mvT hZ (hw _ (List.mem_of_getElem? (i := 0) rfl))) (mvT hZ (hw _ (List.mem_of_getElem? (i := 1) rfl))) (mvT hZ (hw _ (List.mem_of_getElem? (i := 2) rfl))) (mvT hZ (hw _ (List.mem_of_getElem? (i := 3) rfl))) (by decide) (backOf (W := 0) (rm1 l Z a0 hw [] (p1 &&& (63 : Int32)) h0 n0 Z0 ) hZ (hw _ (List.mem_of_getElem? (i := 3) rfl)) (hw _ (List.mem_of_getElem? (i := 2) rfl)) (by decide) (by decide)) (g := (mkF m 52 #[.val (.int p1), .val (.int p2), .val (.int (p1 &&& (63 : Int32))), .val (.int (0 : Int32))] [(.int (p1 &&& (63 : Int32)))])) rfl (by rw [hml]; rfl) (argsL := [(.int (p1 &&& (63 : Int32)))]) (rest := []) (lenOf pd_0 rfl) rfl (by show 2 * 0 + _ ≤ _; exact Nat.le_of_eq rfl) (hb hby at_52) (fun _ _ => ⟨rfl, e0, (by decide : 0 + 0 ≤ _), (by decide : 0 + 0 ≤ _)⟩)
              dsimp only [Pt.U, Pt.locs, Pt.cells, Pt.slots] at X5 l5 y5 z5 st5 hQ5
              subst l5 y5 z5
              obtain ⟨rfl, Nq5, eh5⟩ := hQ5
              have N5 := Fr.app N0 Nq5
              refine Go.step (T' := T5) (f' := (mkF m 55 #[.val (.int p1), .val (.int p2), .val (.int (p1 &&& (63 : Int32))), .val (.int (0 : Int32))] [(.int (own_ws (p1 &&& (63 : Int32))))])) st5 ?_
              refine Go.step (T' := T5) (f' := (mkF m 56 #[.val (.int p1), .val (.int p2), .val (.int (p1 &&& (63 : Int32))), .val (.int (0 : Int32))] [(.int (0 : Int32)), (.int (own_ws (p1 &&& (63 : Int32))))])) (fun _ k => XS.iloadN X5.here hx rfl (hb hby at_55) rfl k) ?_
              refine Go.step (T' := T5) (f' := (mkF m 59 #[.val (.int p1), .val (.int p2), .val (.int (p1 &&& (63 : Int32))), .val (.int (0 : Int32))] [])) (fun _ k => XS.icmpNo X5.here hx rfl (hb hby at_56) rfl (teq (own_ws0 (by simp only [Int32.lt_iff_toInt_lt, ← Int32.toInt_inj, Int32.reduceToInt] at hc3 hc18 hc24 hc30 hc36 hc42 <;> omega))).2 k) ?_
              refine Go.step (T' := T5) (f' := (mkF m 60 #[.val (.int p1), .val (.int p2), .val (.int (p1 &&& (63 : Int32))), .val (.int (0 : Int32))] [(.int (1 : Int32))])) (fun _ k => XS.iconst X5.here hx rfl (hb hby at_59) k) ?_
              refine Go.step (T' := T5) (f' := (mkF m 64 #[.val (.int p1), .val (.int p2), .val (.int (p1 &&& (63 : Int32))), .val (.int (0 : Int32))] [(.int (1 : Int32))])) (fun _ k => XS.goto X5.here hx rfl (pc0 := 60) (pc' := 64) rfl (hb hby at_60) (by decide) (by decide) k) ?_
              refine goN X5 hx (t := .boolean) Bd.returns (by simp) Bd.notSynchronized (hb hby at_64) ?_ (by decide) (by decide)
              show Q_rm0 Z p1 p2 h0 n0 _ T5.heap _
              rw [eh5]
              exact ⟨rfl, N5⟩
            · refine Go.step (T' := s₁) (f' := (mkF m 45 #[.val (.int p1), .val (.int p2), .val (.int (p1 &&& (63 : Int32))), .unset] [])) (fun _ k => XS.icmpNo X0.here hx rfl (hb hby at_42) rfl (feq hc42).1 k) ?_
              refine Go.step (T' := s₁) (f' := (mkF m 46 #[.val (.int p1), .val (.int p2), .val (.int (p1 &&& (63 : Int32))), .unset] [(.int (1 : Int32))])) (fun _ k => XS.iconst X0.here hx rfl (hb hby at_45) k) ?_
              refine Go.step (T' := s₁) (f' := (mkF m 50 #[.val (.int p1), .val (.int p2), .val (.int (p1 &&& (63 : Int32))), .unset] [(.int (1 : Int32))])) (fun _ k => XS.goto X0.here hx rfl (pc0 := 46) (pc' := 50) rfl (hb hby at_46) (by decide) (by decide) k) ?_
              refine Go.step (T' := s₁) (f' := (mkF m 51 #[.val (.int p1), .val (.int p2), .val (.int (p1 &&& (63 : Int32))), .val (.int (1 : Int32))] [])) (fun _ k => XS.istoreN X0.here hx rfl (hb hby at_50) rfl (l' := #[.val (.int p1), .val (.int p2), .val (.int (p1 &&& (63 : Int32))), .val (.int (1 : Int32))]) rfl k) ?_
              refine Go.step (T' := s₁) (f' := (mkF m 52 #[.val (.int p1), .val (.int p2), .val (.int (p1 &&& (63 : Int32))), .val (.int (1 : Int32))] [(.int (p1 &&& (63 : Int32)))])) (fun _ k => XS.iloadN X0.here hx rfl (hb hby at_51) rfl k) ?_
              obtain ⟨_, _, ⟨T6, L6, k6, n6⟩, -, X6, ⟨Lc6, hQ6, l6, y6, z6⟩, st6⟩ := Jvm.LawKit.callS X0 hx (y := (⟨"com/example/fondskit/fondskit/xml/Text", "isWhitespace", "(I)Z"⟩ : MethodName)) hown (mvT hZ (hw _ (List.mem_of_getElem? (i := 0) rfl))) (mvT hZ (hw _ (List.mem_of_getElem? (i := 1) rfl))) (mvT hZ (hw _ (List.mem_of_getElem? (i := 2) rfl))) (mvT hZ (hw _ (List.mem_of_getElem? (i := 3) rfl))) (by decide) (backOf (W := 0) (rm1 l Z a0 hw [] (p1 &&& (63 : Int32)) h0 n0 Z0 ) hZ (hw _ (List.mem_of_getElem? (i := 3) rfl)) (hw _ (List.mem_of_getElem? (i := 2) rfl)) (by decide) (by decide)) (g := (mkF m 52 #[.val (.int p1), .val (.int p2), .val (.int (p1 &&& (63 : Int32))), .val (.int (1 : Int32))] [(.int (p1 &&& (63 : Int32)))])) rfl (by rw [hml]; rfl) (argsL := [(.int (p1 &&& (63 : Int32)))]) (rest := []) (lenOf pd_0 rfl) rfl (by show 2 * 0 + _ ≤ _; exact Nat.le_of_eq rfl) (hb hby at_52) (fun _ _ => ⟨rfl, e0, (by decide : 0 + 0 ≤ _), (by decide : 0 + 0 ≤ _)⟩)
              dsimp only [Pt.U, Pt.locs, Pt.cells, Pt.slots] at X6 l6 y6 z6 st6 hQ6
              subst l6 y6 z6
              obtain ⟨rfl, Nq6, eh6⟩ := hQ6
              have N6 := Fr.app N0 Nq6
              refine Go.step (T' := T6) (f' := (mkF m 55 #[.val (.int p1), .val (.int p2), .val (.int (p1 &&& (63 : Int32))), .val (.int (1 : Int32))] [(.int (own_ws (p1 &&& (63 : Int32))))])) st6 ?_
              refine Go.step (T' := T6) (f' := (mkF m 56 #[.val (.int p1), .val (.int p2), .val (.int (p1 &&& (63 : Int32))), .val (.int (1 : Int32))] [(.int (1 : Int32)), (.int (own_ws (p1 &&& (63 : Int32))))])) (fun _ k => XS.iloadN X6.here hx rfl (hb hby at_55) rfl k) ?_
              refine Go.step (T' := T6) (f' := (mkF m 59 #[.val (.int p1), .val (.int p2), .val (.int (p1 &&& (63 : Int32))), .val (.int (1 : Int32))] [])) (fun _ k => XS.icmpNo X6.here hx rfl (hb hby at_56) rfl (teq (own_ws1 (by simp only [Int32.lt_iff_toInt_lt, ← Int32.toInt_inj, Int32.reduceToInt] at hc3 hc18 hc24 hc30 hc36 hc42 <;> omega))).2 k) ?_
              refine Go.step (T' := T6) (f' := (mkF m 60 #[.val (.int p1), .val (.int p2), .val (.int (p1 &&& (63 : Int32))), .val (.int (1 : Int32))] [(.int (1 : Int32))])) (fun _ k => XS.iconst X6.here hx rfl (hb hby at_59) k) ?_
              refine Go.step (T' := T6) (f' := (mkF m 64 #[.val (.int p1), .val (.int p2), .val (.int (p1 &&& (63 : Int32))), .val (.int (1 : Int32))] [(.int (1 : Int32))])) (fun _ k => XS.goto X6.here hx rfl (pc0 := 60) (pc' := 64) rfl (hb hby at_60) (by decide) (by decide) k) ?_
              refine goN X6 hx (t := .boolean) Bd.returns (by simp) Bd.notSynchronized (hb hby at_64) ?_ (by decide) (by decide)
              show Q_rm0 Z p1 p2 h0 n0 _ T6.heap _
              rw [eh6]
              exact ⟨rfl, N6⟩
  · refine Go.step (T' := s₁) (f' := (mkF m 6 #[.val (.int p1), .val (.int p2), .unset, .unset] [])) (fun _ k => XS.ifNo X0.here hx rfl (hb hby at_3) rfl ((if0 _ _).trans (feq hc3).1) k) ?_
    refine Go.step (T' := s₁) (f' := (mkF m 7 #[.val (.int p1), .val (.int p2), .unset, .unset] [(.int p1)])) (fun _ k => XS.iloadN X0.here hx rfl (hb hby at_6) rfl k) ?_
    refine Go.step (T' := s₁) (f' := (mkF m 14 #[.val (.int p1), .val (.int p2), .unset, .unset] [(.int p1)])) (fun _ k => XS.goto X0.here hx rfl (pc0 := 7) (pc' := 14) rfl (hb hby at_7) (by decide) (by decide) k) ?_
    refine Go.step (T' := s₁) (f' := (mkF m 15 #[.val (.int p1), .val (.int p2), .val (.int p1), .unset] [])) (fun _ k => XS.istoreN X0.here hx rfl (hb hby at_14) rfl (l' := #[.val (.int p1), .val (.int p2), .val (.int p1), .unset]) rfl k) ?_
    refine Go.step (T' := s₁) (f' := (mkF m 16 #[.val (.int p1), .val (.int p2), .val (.int p1), .unset] [(.int p1)])) (fun _ k => XS.iloadN X0.here hx rfl (hb hby at_15) rfl k) ?_
    refine Go.step (T' := s₁) (f' := (mkF m 18 #[.val (.int p1), .val (.int p2), .val (.int p1), .unset] [(.int (32 : Int32)), (.int p1)])) (fun _ k => XS.bipush X0.here hx rfl (hb hby at_16) k) ?_
    by_cases hc18 : p1 = (32 : Int32)
    · refine Go.step (T' := s₁) (f' := (mkF m 45 #[.val (.int p1), .val (.int p2), .val (.int p1), .unset] [])) (fun _ k => XS.icmpYes X0.here hx rfl (pc0 := 18) (pc' := 45) rfl (hb hby at_18) rfl (teq hc18).1 (by decide) (by decide) k) ?_
      refine Go.step (T' := s₁) (f' := (mkF m 46 #[.val (.int p1), .val (.int p2), .val (.int p1), .unset] [(.int (1 : Int32))])) (fun _ k => XS.iconst X0.here hx rfl (hb hby at_45) k) ?_
      refine Go.step (T' := s₁) (f' := (mkF m 50 #[.val (.int p1), .val (.int p2), .val (.int p1), .unset] [(.int (1 : Int32))])) (fun _ k => XS.goto X0.here hx rfl (pc0 := 46) (pc' := 50) rfl (hb hby at_46) (by decide) (by decide) k) ?_
      refine Go.step (T' := s₁) (f' := (mkF m 51 #[.val (.int p1), .val (.int p2), .val (.int p1), .val (.int (1 : Int32))] [])) (fun _ k => XS.istoreN X0.here hx rfl (hb hby at_50) rfl (l' := #[.val (.int p1), .val (.int p2), .val (.int p1), .val (.int (1 : Int32))]) rfl k) ?_
      refine Go.step (T' := s₁) (f' := (mkF m 52 #[.val (.int p1), .val (.int p2), .val (.int p1), .val (.int (1 : Int32))] [(.int p1)])) (fun _ k => XS.iloadN X0.here hx rfl (hb hby at_51) rfl k) ?_
      obtain ⟨_, _, ⟨T7, L7, k7, n7⟩, -, X7, ⟨Lc7, hQ7, l7, y7, z7⟩, st7⟩ := Jvm.LawKit.callS X0 hx (y := (⟨"com/example/fondskit/fondskit/xml/Text", "isWhitespace", "(I)Z"⟩ : MethodName)) hown (mvT hZ (hw _ (List.mem_of_getElem? (i := 0) rfl))) (mvT hZ (hw _ (List.mem_of_getElem? (i := 1) rfl))) (mvT hZ (hw _ (List.mem_of_getElem? (i := 2) rfl))) (mvT hZ (hw _ (List.mem_of_getElem? (i := 3) rfl))) (by decide) (backOf (W := 0) (rm1 l Z a0 hw [] p1 h0 n0 Z0 ) hZ (hw _ (List.mem_of_getElem? (i := 3) rfl)) (hw _ (List.mem_of_getElem? (i := 2) rfl)) (by decide) (by decide)) (g := (mkF m 52 #[.val (.int p1), .val (.int p2), .val (.int p1), .val (.int (1 : Int32))] [(.int p1)])) rfl (by rw [hml]; rfl) (argsL := [(.int p1)]) (rest := []) (lenOf pd_0 rfl) rfl (by show 2 * 0 + _ ≤ _; exact Nat.le_of_eq rfl) (hb hby at_52) (fun _ _ => ⟨rfl, e0, (by decide : 0 + 0 ≤ _), (by decide : 0 + 0 ≤ _)⟩)
      dsimp only [Pt.U, Pt.locs, Pt.cells, Pt.slots] at X7 l7 y7 z7 st7 hQ7
      subst l7 y7 z7
      obtain ⟨rfl, Nq7, eh7⟩ := hQ7
      have N7 := Fr.app N0 Nq7
      refine Go.step (T' := T7) (f' := (mkF m 55 #[.val (.int p1), .val (.int p2), .val (.int p1), .val (.int (1 : Int32))] [(.int (own_ws p1))])) st7 ?_
      refine Go.step (T' := T7) (f' := (mkF m 56 #[.val (.int p1), .val (.int p2), .val (.int p1), .val (.int (1 : Int32))] [(.int (1 : Int32)), (.int (own_ws p1))])) (fun _ k => XS.iloadN X7.here hx rfl (hb hby at_55) rfl k) ?_
      refine Go.step (T' := T7) (f' := (mkF m 59 #[.val (.int p1), .val (.int p2), .val (.int p1), .val (.int (1 : Int32))] [])) (fun _ k => XS.icmpNo X7.here hx rfl (hb hby at_56) rfl (teq (own_ws1 (by simp only [Int32.lt_iff_toInt_lt, ← Int32.toInt_inj, Int32.reduceToInt] at hc3 hc18 <;> omega))).2 k) ?_
      refine Go.step (T' := T7) (f' := (mkF m 60 #[.val (.int p1), .val (.int p2), .val (.int p1), .val (.int (1 : Int32))] [(.int (1 : Int32))])) (fun _ k => XS.iconst X7.here hx rfl (hb hby at_59) k) ?_
      refine Go.step (T' := T7) (f' := (mkF m 64 #[.val (.int p1), .val (.int p2), .val (.int p1), .val (.int (1 : Int32))] [(.int (1 : Int32))])) (fun _ k => XS.goto X7.here hx rfl (pc0 := 60) (pc' := 64) rfl (hb hby at_60) (by decide) (by decide) k) ?_
      refine goN X7 hx (t := .boolean) Bd.returns (by simp) Bd.notSynchronized (hb hby at_64) ?_ (by decide) (by decide)
      show Q_rm0 Z p1 p2 h0 n0 _ T7.heap _
      rw [eh7]
      exact ⟨rfl, N7⟩
    · refine Go.step (T' := s₁) (f' := (mkF m 21 #[.val (.int p1), .val (.int p2), .val (.int p1), .unset] [])) (fun _ k => XS.icmpNo X0.here hx rfl (hb hby at_18) rfl (feq hc18).1 k) ?_
      refine Go.step (T' := s₁) (f' := (mkF m 22 #[.val (.int p1), .val (.int p2), .val (.int p1), .unset] [(.int p1)])) (fun _ k => XS.iloadN X0.here hx rfl (hb hby at_21) rfl k) ?_
      refine Go.step (T' := s₁) (f' := (mkF m 24 #[.val (.int p1), .val (.int p2), .val (.int p1), .unset] [(.int (9 : Int32)), (.int p1)])) (fun _ k => XS.bipush X0.here hx rfl (hb hby at_22) k) ?_
      by_cases hc24 : p1 < (9 : Int32)
      · refine Go.step (T' := s₁) (f' := (mkF m 49 #[.val (.int p1), .val (.int p2), .val (.int p1), .unset] [])) (fun _ k => XS.icmpYes X0.here hx rfl (pc0 := 24) (pc' := 49) rfl (hb hby at_24) rfl (tlt hc24).1 (by decide) (by decide) k) ?_
        refine Go.step (T' := s₁) (f' := (mkF m 50 #[.val (.int p1), .val (.int p2), .val (.int p1), .unset] [(.int (0 : Int32))])) (fun _ k => XS.iconst X0.here hx rfl (hb hby at_49) k) ?_
        refine Go.step (T' := s₁) (f' := (mkF m 51 #[.val (.int p1), .val (.int p2), .val (.int p1), .val (.int (0 : Int32))] [])) (fun _ k => XS.istoreN X0.here hx rfl (hb hby at_50) rfl (l' := #[.val (.int p1), .val (.int p2), .val (.int p1), .val (.int (0 : Int32))]) rfl k) ?_
        refine Go.step (T' := s₁) (f' := (mkF m 52 #[.val (.int p1), .val (.int p2), .val (.int p1), .val (.int (0 : Int32))] [(.int p1)])) (fun _ k => XS.iloadN X0.here hx rfl (hb hby at_51) rfl k) ?_
        obtain ⟨_, _, ⟨T8, L8, k8, n8⟩, -, X8, ⟨Lc8, hQ8, l8, y8, z8⟩, st8⟩ := Jvm.LawKit.callS X0 hx (y := (⟨"com/example/fondskit/fondskit/xml/Text", "isWhitespace", "(I)Z"⟩ : MethodName)) hown (mvT hZ (hw _ (List.mem_of_getElem? (i := 0) rfl))) (mvT hZ (hw _ (List.mem_of_getElem? (i := 1) rfl))) (mvT hZ (hw _ (List.mem_of_getElem? (i := 2) rfl))) (mvT hZ (hw _ (List.mem_of_getElem? (i := 3) rfl))) (by decide) (backOf (W := 0) (rm1 l Z a0 hw [] p1 h0 n0 Z0 ) hZ (hw _ (List.mem_of_getElem? (i := 3) rfl)) (hw _ (List.mem_of_getElem? (i := 2) rfl)) (by decide) (by decide)) (g := (mkF m 52 #[.val (.int p1), .val (.int p2), .val (.int p1), .val (.int (0 : Int32))] [(.int p1)])) rfl (by rw [hml]; rfl) (argsL := [(.int p1)]) (rest := []) (lenOf pd_0 rfl) rfl (by show 2 * 0 + _ ≤ _; exact Nat.le_of_eq rfl) (hb hby at_52) (fun _ _ => ⟨rfl, e0, (by decide : 0 + 0 ≤ _), (by decide : 0 + 0 ≤ _)⟩)
        dsimp only [Pt.U, Pt.locs, Pt.cells, Pt.slots] at X8 l8 y8 z8 st8 hQ8
        subst l8 y8 z8
        obtain ⟨rfl, Nq8, eh8⟩ := hQ8
        have N8 := Fr.app N0 Nq8
        refine Go.step (T' := T8) (f' := (mkF m 55 #[.val (.int p1), .val (.int p2), .val (.int p1), .val (.int (0 : Int32))] [(.int (own_ws p1))])) st8 ?_
        refine Go.step (T' := T8) (f' := (mkF m 56 #[.val (.int p1), .val (.int p2), .val (.int p1), .val (.int (0 : Int32))] [(.int (0 : Int32)), (.int (own_ws p1))])) (fun _ k => XS.iloadN X8.here hx rfl (hb hby at_55) rfl k) ?_
        refine Go.step (T' := T8) (f' := (mkF m 59 #[.val (.int p1), .val (.int p2), .val (.int p1), .val (.int (0 : Int32))] [])) (fun _ k => XS.icmpNo X8.here hx rfl (hb hby at_56) rfl (teq (own_ws0 (by simp only [Int32.lt_iff_toInt_lt, ← Int32.toInt_inj, Int32.reduceToInt] at hc3 hc18 hc24 <;> omega))).2 k) ?_
        refine Go.step (T' := T8) (f' := (mkF m 60 #[.val (.int p1), .val (.int p2), .val (.int p1), .val (.int (0 : Int32))] [(.int (1 : Int32))])) (fun _ k => XS.iconst X8.here hx rfl (hb hby at_59) k) ?_
        refine Go.step (T' := T8) (f' := (mkF m 64 #[.val (.int p1), .val (.int p2), .val (.int p1), .val (.int (0 : Int32))] [(.int (1 : Int32))])) (fun _ k => XS.goto X8.here hx rfl (pc0 := 60) (pc' := 64) rfl (hb hby at_60) (by decide) (by decide) k) ?_
        refine goN X8 hx (t := .boolean) Bd.returns (by simp) Bd.notSynchronized (hb hby at_64) ?_ (by decide) (by decide)
        show Q_rm0 Z p1 p2 h0 n0 _ T8.heap _
        rw [eh8]
        exact ⟨rfl, N8⟩
      · refine Go.step (T' := s₁) (f' := (mkF m 27 #[.val (.int p1), .val (.int p2), .val (.int p1), .unset] [])) (fun _ k => XS.icmpNo X0.here hx rfl (hb hby at_24) rfl (flt hc24).1 k) ?_
        refine Go.step (T' := s₁) (f' := (mkF m 28 #[.val (.int p1), .val (.int p2), .val (.int p1), .unset] [(.int p1)])) (fun _ k => XS.iloadN X0.here hx rfl (hb hby at_27) rfl k) ?_
        refine Go.step (T' := s₁) (f' := (mkF m 30 #[.val (.int p1), .val (.int p2), .val (.int p1), .unset] [(.int (13 : Int32)), (.int p1)])) (fun _ k => XS.bipush X0.here hx rfl (hb hby at_28) k) ?_
        by_cases hc30 : (13 : Int32) < p1
        · refine Go.step (T' := s₁) (f' := (mkF m 49 #[.val (.int p1), .val (.int p2), .val (.int p1), .unset] [])) (fun _ k => XS.icmpYes X0.here hx rfl (pc0 := 30) (pc' := 49) rfl (hb hby at_30) rfl (tlt hc30).2.2.1 (by decide) (by decide) k) ?_
          refine Go.step (T' := s₁) (f' := (mkF m 50 #[.val (.int p1), .val (.int p2), .val (.int p1), .unset] [(.int (0 : Int32))])) (fun _ k => XS.iconst X0.here hx rfl (hb hby at_49) k) ?_
          refine Go.step (T' := s₁) (f' := (mkF m 51 #[.val (.int p1), .val (.int p2), .val (.int p1), .val (.int (0 : Int32))] [])) (fun _ k => XS.istoreN X0.here hx rfl (hb hby at_50) rfl (l' := #[.val (.int p1), .val (.int p2), .val (.int p1), .val (.int (0 : Int32))]) rfl k) ?_
          refine Go.step (T' := s₁) (f' := (mkF m 52 #[.val (.int p1), .val (.int p2), .val (.int p1), .val (.int (0 : Int32))] [(.int p1)])) (fun _ k => XS.iloadN X0.here hx rfl (hb hby at_51) rfl k) ?_
          obtain ⟨_, _, ⟨T9, L9, k9, n9⟩, -, X9, ⟨Lc9, hQ9, l9, y9, z9⟩, st9⟩ := Jvm.LawKit.callS X0 hx (y := (⟨"com/example/fondskit/fondskit/xml/Text", "isWhitespace", "(I)Z"⟩ : MethodName)) hown (mvT hZ (hw _ (List.mem_of_getElem? (i := 0) rfl))) (mvT hZ (hw _ (List.mem_of_getElem? (i := 1) rfl))) (mvT hZ (hw _ (List.mem_of_getElem? (i := 2) rfl))) (mvT hZ (hw _ (List.mem_of_getElem? (i := 3) rfl))) (by decide) (backOf (W := 0) (rm1 l Z a0 hw [] p1 h0 n0 Z0 ) hZ (hw _ (List.mem_of_getElem? (i := 3) rfl)) (hw _ (List.mem_of_getElem? (i := 2) rfl)) (by decide) (by decide)) (g := (mkF m 52 #[.val (.int p1), .val (.int p2), .val (.int p1), .val (.int (0 : Int32))] [(.int p1)])) rfl (by rw [hml]; rfl) (argsL := [(.int p1)]) (rest := []) (lenOf pd_0 rfl) rfl (by show 2 * 0 + _ ≤ _; exact Nat.le_of_eq rfl) (hb hby at_52) (fun _ _ => ⟨rfl, e0, (by decide : 0 + 0 ≤ _), (by decide : 0 + 0 ≤ _)⟩)
          dsimp only [Pt.U, Pt.locs, Pt.cells, Pt.slots] at X9 l9 y9 z9 st9 hQ9
          subst l9 y9 z9
          obtain ⟨rfl, Nq9, eh9⟩ := hQ9
          have N9 := Fr.app N0 Nq9
          refine Go.step (T' := T9) (f' := (mkF m 55 #[.val (.int p1), .val (.int p2), .val (.int p1), .val (.int (0 : Int32))] [(.int (own_ws p1))])) st9 ?_
          refine Go.step (T' := T9) (f' := (mkF m 56 #[.val (.int p1), .val (.int p2), .val (.int p1), .val (.int (0 : Int32))] [(.int (0 : Int32)), (.int (own_ws p1))])) (fun _ k => XS.iloadN X9.here hx rfl (hb hby at_55) rfl k) ?_
          refine Go.step (T' := T9) (f' := (mkF m 59 #[.val (.int p1), .val (.int p2), .val (.int p1), .val (.int (0 : Int32))] [])) (fun _ k => XS.icmpNo X9.here hx rfl (hb hby at_56) rfl (teq (own_ws0 (by simp only [Int32.lt_iff_toInt_lt, ← Int32.toInt_inj, Int32.reduceToInt] at hc3 hc18 hc24 hc30 <;> omega))).2 k) ?_
          refine Go.step (T' := T9) (f' := (mkF m 60 #[.val (.int p1), .val (.int p2), .val (.int p1), .val (.int (0 : Int32))] [(.int (1 : Int32))])) (fun _ k => XS.iconst X9.here hx rfl (hb hby at_59) k) ?_
          refine Go.step (T' := T9) (f' := (mkF m 64 #[.val (.int p1), .val (.int p2), .val (.int p1), .val (.int (0 : Int32))] [(.int (1 : Int32))])) (fun _ k => XS.goto X9.here hx rfl (pc0 := 60) (pc' := 64) rfl (hb hby at_60) (by decide) (by decide) k) ?_
          refine goN X9 hx (t := .boolean) Bd.returns (by simp) Bd.notSynchronized (hb hby at_64) ?_ (by decide) (by decide)
          show Q_rm0 Z p1 p2 h0 n0 _ T9.heap _
          rw [eh9]
          exact ⟨rfl, N9⟩
        · refine Go.step (T' := s₁) (f' := (mkF m 33 #[.val (.int p1), .val (.int p2), .val (.int p1), .unset] [])) (fun _ k => XS.icmpNo X0.here hx rfl (hb hby at_30) rfl (flt hc30).2.2.1 k) ?_
          refine Go.step (T' := s₁) (f' := (mkF m 34 #[.val (.int p1), .val (.int p2), .val (.int p1), .unset] [(.int p1)])) (fun _ k => XS.iloadN X0.here hx rfl (hb hby at_33) rfl k) ?_
          refine Go.step (T' := s₁) (f' := (mkF m 36 #[.val (.int p1), .val (.int p2), .val (.int p1), .unset] [(.int (11 : Int32)), (.int p1)])) (fun _ k => XS.bipush X0.here hx rfl (hb hby at_34) k) ?_
          by_cases hc36 : p1 = (11 : Int32)
          · refine Go.step (T' := s₁) (f' := (mkF m 49 #[.val (.int p1), .val (.int p2), .val (.int p1), .unset] [])) (fun _ k => XS.icmpYes X0.here hx rfl (pc0 := 36) (pc' := 49) rfl (hb hby at_36) rfl (teq hc36).1 (by decide) (by decide) k) ?_
            refine Go.step (T' := s₁) (f' := (mkF m 50 #[.val (.int p1), .val (.int p2), .val (.int p1), .unset] [(.int (0 : Int32))])) (fun _ k => XS.iconst X0.here hx rfl (hb hby at_49) k) ?_
            refine Go.step (T' := s₁) (f' := (mkF m 51 #[.val (.int p1), .val (.int p2), .val (.int p1), .val (.int (0 : Int32))] [])) (fun _ k => XS.istoreN X0.here hx rfl (hb hby at_50) rfl (l' := #[.val (.int p1), .val (.int p2), .val (.int p1), .val (.int (0 : Int32))]) rfl k) ?_
            refine Go.step (T' := s₁) (f' := (mkF m 52 #[.val (.int p1), .val (.int p2), .val (.int p1), .val (.int (0 : Int32))] [(.int p1)])) (fun _ k => XS.iloadN X0.here hx rfl (hb hby at_51) rfl k) ?_
            obtain ⟨_, _, ⟨T10, L10, k10, n10⟩, -, X10, ⟨Lc10, hQ10, l10, y10, z10⟩, st10⟩ := Jvm.LawKit.callS X0 hx (y := (⟨"com/example/fondskit/fondskit/xml/Text", "isWhitespace", "(I)Z"⟩ : MethodName)) hown (mvT hZ (hw _ (List.mem_of_getElem? (i := 0) rfl))) (mvT hZ (hw _ (List.mem_of_getElem? (i := 1) rfl))) (mvT hZ (hw _ (List.mem_of_getElem? (i := 2) rfl))) (mvT hZ (hw _ (List.mem_of_getElem? (i := 3) rfl))) (by decide) (backOf (W := 0) (rm1 l Z a0 hw [] p1 h0 n0 Z0 ) hZ (hw _ (List.mem_of_getElem? (i := 3) rfl)) (hw _ (List.mem_of_getElem? (i := 2) rfl)) (by decide) (by decide)) (g := (mkF m 52 #[.val (.int p1), .val (.int p2), .val (.int p1), .val (.int (0 : Int32))] [(.int p1)])) rfl (by rw [hml]; rfl) (argsL := [(.int p1)]) (rest := []) (lenOf pd_0 rfl) rfl (by show 2 * 0 + _ ≤ _; exact Nat.le_of_eq rfl) (hb hby at_52) (fun _ _ => ⟨rfl, e0, (by decide : 0 + 0 ≤ _), (by decide : 0 + 0 ≤ _)⟩)
            dsimp only [Pt.U, Pt.locs, Pt.cells, Pt.slots] at X10 l10 y10 z10 st10 hQ10
            subst l10 y10 z10
            obtain ⟨rfl, Nq10, eh10⟩ := hQ10
            have N10 := Fr.app N0 Nq10
            refine Go.step (T' := T10) (f' := (mkF m 55 #[.val (.int p1), .val (.int p2), .val (.int p1), .val (.int (0 : Int32))] [(.int (own_ws p1))])) st10 ?_
            refine Go.step (T' := T10) (f' := (mkF m 56 #[.val (.int p1), .val (.int p2), .val (.int p1), .val (.int (0 : Int32))] [(.int (0 : Int32)), (.int (own_ws p1))])) (fun _ k => XS.iloadN X10.here hx rfl (hb hby at_55) rfl k) ?_
            refine Go.step (T' := T10) (f' := (mkF m 59 #[.val (.int p1), .val (.int p2), .val (.int p1), .val (.int (0 : Int32))] [])) (fun _ k => XS.icmpNo X10.here hx rfl (hb hby at_56) rfl (teq (own_ws0 (by simp only [Int32.lt_iff_toInt_lt, ← Int32.toInt_inj, Int32.reduceToInt] at hc3 hc18 hc24 hc30 hc36 <;> omega))).2 k) ?_
            refine Go.step (T' := T10) (f' := (mkF m 60 #[.val (.int p1), .val (.int p2), .val (.int p1), .val (.int (0 : Int32))] [(.int (1 : Int32))])) (fun _ k => XS.iconst X10.here hx rfl (hb hby at_59) k) ?_
            refine Go.step (T' := T10) (f' := (mkF m 64 #[.val (.int p1), .val (.int p2), .val (.int p1), .val (.int (0 : Int32))] [(.int (1 : Int32))])) (fun _ k => XS.goto X10.here hx rfl (pc0 := 60) (pc' := 64) rfl (hb hby at_60) (by decide) (by decide) k) ?_
            refine goN X10 hx (t := .boolean) Bd.returns (by simp) Bd.notSynchronized (hb hby at_64) ?_ (by decide) (by decide)
            show Q_rm0 Z p1 p2 h0 n0 _ T10.heap _
            rw [eh10]
            exact ⟨rfl, N10⟩
          · refine Go.step (T' := s₁) (f' := (mkF m 39 #[.val (.int p1), .val (.int p2), .val (.int p1), .unset] [])) (fun _ k => XS.icmpNo X0.here hx rfl (hb hby at_36) rfl (feq hc36).1 k) ?_
            refine Go.step (T' := s₁) (f' := (mkF m 40 #[.val (.int p1), .val (.int p2), .val (.int p1), .unset] [(.int p1)])) (fun _ k => XS.iloadN X0.here hx rfl (hb hby at_39) rfl k) ?_
            refine Go.step (T' := s₁) (f' := (mkF m 42 #[.val (.int p1), .val (.int p2), .val (.int p1), .unset] [(.int (12 : Int32)), (.int p1)])) (fun _ k => XS.bipush X0.here hx rfl (hb hby at_40) k) ?_
            by_cases hc42 : p1 = (12 : Int32)
            · refine Go.step (T' := s₁) (f' := (mkF m 49 #[.val (.int p1), .val (.int p2), .val (.int p1), .unset] [])) (fun _ k => XS.icmpYes X0.here hx rfl (pc0 := 42) (pc' := 49) rfl (hb hby at_42) rfl (teq hc42).1 (by decide) (by decide) k) ?_
              refine Go.step (T' := s₁) (f' := (mkF m 50 #[.val (.int p1), .val (.int p2), .val (.int p1), .unset] [(.int (0 : Int32))])) (fun _ k => XS.iconst X0.here hx rfl (hb hby at_49) k) ?_
              refine Go.step (T' := s₁) (f' := (mkF m 51 #[.val (.int p1), .val (.int p2), .val (.int p1), .val (.int (0 : Int32))] [])) (fun _ k => XS.istoreN X0.here hx rfl (hb hby at_50) rfl (l' := #[.val (.int p1), .val (.int p2), .val (.int p1), .val (.int (0 : Int32))]) rfl k) ?_
              refine Go.step (T' := s₁) (f' := (mkF m 52 #[.val (.int p1), .val (.int p2), .val (.int p1), .val (.int (0 : Int32))] [(.int p1)])) (fun _ k => XS.iloadN X0.here hx rfl (hb hby at_51) rfl k) ?_
              obtain ⟨_, _, ⟨T11, L11, k11, n11⟩, -, X11, ⟨Lc11, hQ11, l11, y11, z11⟩, st11⟩ := Jvm.LawKit.callS X0 hx (y := (⟨"com/example/fondskit/fondskit/xml/Text", "isWhitespace", "(I)Z"⟩ : MethodName)) hown (mvT hZ (hw _ (List.mem_of_getElem? (i := 0) rfl))) (mvT hZ (hw _ (List.mem_of_getElem? (i := 1) rfl))) (mvT hZ (hw _ (List.mem_of_getElem? (i := 2) rfl))) (mvT hZ (hw _ (List.mem_of_getElem? (i := 3) rfl))) (by decide) (backOf (W := 0) (rm1 l Z a0 hw [] p1 h0 n0 Z0 ) hZ (hw _ (List.mem_of_getElem? (i := 3) rfl)) (hw _ (List.mem_of_getElem? (i := 2) rfl)) (by decide) (by decide)) (g := (mkF m 52 #[.val (.int p1), .val (.int p2), .val (.int p1), .val (.int (0 : Int32))] [(.int p1)])) rfl (by rw [hml]; rfl) (argsL := [(.int p1)]) (rest := []) (lenOf pd_0 rfl) rfl (by show 2 * 0 + _ ≤ _; exact Nat.le_of_eq rfl) (hb hby at_52) (fun _ _ => ⟨rfl, e0, (by decide : 0 + 0 ≤ _), (by decide : 0 + 0 ≤ _)⟩)
              dsimp only [Pt.U, Pt.locs, Pt.cells, Pt.slots] at X11 l11 y11 z11 st11 hQ11
              subst l11 y11 z11
              obtain ⟨rfl, Nq11, eh11⟩ := hQ11
              have N11 := Fr.app N0 Nq11
              refine Go.step (T' := T11) (f' := (mkF m 55 #[.val (.int p1), .val (.int p2), .val (.int p1), .val (.int (0 : Int32))] [(.int (own_ws p1))])) st11 ?_
              refine Go.step (T' := T11) (f' := (mkF m 56 #[.val (.int p1), .val (.int p2), .val (.int p1), .val (.int (0 : Int32))] [(.int (0 : Int32)), (.int (own_ws p1))])) (fun _ k => XS.iloadN X11.here hx rfl (hb hby at_55) rfl k) ?_
              refine Go.step (T' := T11) (f' := (mkF m 59 #[.val (.int p1), .val (.int p2), .val (.int p1), .val (.int (0 : Int32))] [])) (fun _ k => XS.icmpNo X11.here hx rfl (hb hby at_56) rfl (teq (own_ws0 (by simp only [Int32.lt_iff_toInt_lt, ← Int32.toInt_inj, Int32.reduceToInt] at hc3 hc18 hc24 hc30 hc36 hc42 <;> omega))).2 k) ?_
              refine Go.step (T' := T11) (f' := (mkF m 60 #[.val (.int p1), .val (.int p2), .val (.int p1), .val (.int (0 : Int32))] [(.int (1 : Int32))])) (fun _ k => XS.iconst X11.here hx rfl (hb hby at_59) k) ?_
              refine Go.step (T' := T11) (f' := (mkF m 64 #[.val (.int p1), .val (.int p2), .val (.int p1), .val (.int (0 : Int32))] [(.int (1 : Int32))])) (fun _ k => XS.goto X11.here hx rfl (pc0 := 60) (pc' := 64) rfl (hb hby at_60) (by decide) (by decide) k) ?_
              refine goN X11 hx (t := .boolean) Bd.returns (by simp) Bd.notSynchronized (hb hby at_64) ?_ (by decide) (by decide)
              show Q_rm0 Z p1 p2 h0 n0 _ T11.heap _
              rw [eh11]
              exact ⟨rfl, N11⟩
            · refine Go.step (T' := s₁) (f' := (mkF m 45 #[.val (.int p1), .val (.int p2), .val (.int p1), .unset] [])) (fun _ k => XS.icmpNo X0.here hx rfl (hb hby at_42) rfl (feq hc42).1 k) ?_
              refine Go.step (T' := s₁) (f' := (mkF m 46 #[.val (.int p1), .val (.int p2), .val (.int p1), .unset] [(.int (1 : Int32))])) (fun _ k => XS.iconst X0.here hx rfl (hb hby at_45) k) ?_
              refine Go.step (T' := s₁) (f' := (mkF m 50 #[.val (.int p1), .val (.int p2), .val (.int p1), .unset] [(.int (1 : Int32))])) (fun _ k => XS.goto X0.here hx rfl (pc0 := 46) (pc' := 50) rfl (hb hby at_46) (by decide) (by decide) k) ?_
              refine Go.step (T' := s₁) (f' := (mkF m 51 #[.val (.int p1), .val (.int p2), .val (.int p1), .val (.int (1 : Int32))] [])) (fun _ k => XS.istoreN X0.here hx rfl (hb hby at_50) rfl (l' := #[.val (.int p1), .val (.int p2), .val (.int p1), .val (.int (1 : Int32))]) rfl k) ?_
              refine Go.step (T' := s₁) (f' := (mkF m 52 #[.val (.int p1), .val (.int p2), .val (.int p1), .val (.int (1 : Int32))] [(.int p1)])) (fun _ k => XS.iloadN X0.here hx rfl (hb hby at_51) rfl k) ?_
              obtain ⟨_, _, ⟨T12, L12, k12, n12⟩, -, X12, ⟨Lc12, hQ12, l12, y12, z12⟩, st12⟩ := Jvm.LawKit.callS X0 hx (y := (⟨"com/example/fondskit/fondskit/xml/Text", "isWhitespace", "(I)Z"⟩ : MethodName)) hown (mvT hZ (hw _ (List.mem_of_getElem? (i := 0) rfl))) (mvT hZ (hw _ (List.mem_of_getElem? (i := 1) rfl))) (mvT hZ (hw _ (List.mem_of_getElem? (i := 2) rfl))) (mvT hZ (hw _ (List.mem_of_getElem? (i := 3) rfl))) (by decide) (backOf (W := 0) (rm1 l Z a0 hw [] p1 h0 n0 Z0 ) hZ (hw _ (List.mem_of_getElem? (i := 3) rfl)) (hw _ (List.mem_of_getElem? (i := 2) rfl)) (by decide) (by decide)) (g := (mkF m 52 #[.val (.int p1), .val (.int p2), .val (.int p1), .val (.int (1 : Int32))] [(.int p1)])) rfl (by rw [hml]; rfl) (argsL := [(.int p1)]) (rest := []) (lenOf pd_0 rfl) rfl (by show 2 * 0 + _ ≤ _; exact Nat.le_of_eq rfl) (hb hby at_52) (fun _ _ => ⟨rfl, e0, (by decide : 0 + 0 ≤ _), (by decide : 0 + 0 ≤ _)⟩)
              dsimp only [Pt.U, Pt.locs, Pt.cells, Pt.slots] at X12 l12 y12 z12 st12 hQ12
              subst l12 y12 z12
              obtain ⟨rfl, Nq12, eh12⟩ := hQ12
              have N12 := Fr.app N0 Nq12
              refine Go.step (T' := T12) (f' := (mkF m 55 #[.val (.int p1), .val (.int p2), .val (.int p1), .val (.int (1 : Int32))] [(.int (own_ws p1))])) st12 ?_
              refine Go.step (T' := T12) (f' := (mkF m 56 #[.val (.int p1), .val (.int p2), .val (.int p1), .val (.int (1 : Int32))] [(.int (1 : Int32)), (.int (own_ws p1))])) (fun _ k => XS.iloadN X12.here hx rfl (hb hby at_55) rfl k) ?_
              refine Go.step (T' := T12) (f' := (mkF m 59 #[.val (.int p1), .val (.int p2), .val (.int p1), .val (.int (1 : Int32))] [])) (fun _ k => XS.icmpNo X12.here hx rfl (hb hby at_56) rfl (teq (own_ws1 (by simp only [Int32.lt_iff_toInt_lt, ← Int32.toInt_inj, Int32.reduceToInt] at hc3 hc18 hc24 hc30 hc36 hc42 <;> omega))).2 k) ?_
              refine Go.step (T' := T12) (f' := (mkF m 60 #[.val (.int p1), .val (.int p2), .val (.int p1), .val (.int (1 : Int32))] [(.int (1 : Int32))])) (fun _ k => XS.iconst X12.here hx rfl (hb hby at_59) k) ?_
              refine Go.step (T' := T12) (f' := (mkF m 64 #[.val (.int p1), .val (.int p2), .val (.int p1), .val (.int (1 : Int32))] [(.int (1 : Int32))])) (fun _ k => XS.goto X12.here hx rfl (pc0 := 60) (pc' := 64) rfl (hb hby at_60) (by decide) (by decide) k) ?_
              refine goN X12 hx (t := .boolean) Bd.returns (by simp) Bd.notSynchronized (hb hby at_64) ?_ (by decide) (by decide)
              show Q_rm0 Z p1 p2 h0 n0 _ T12.heap _
              rw [eh12]
              exact ⟨rfl, N12⟩
set_option maxRecDepth 65536 in
set_option maxHeartbeats 40000000 in
theorem comes_1 {Post : Tables → Env → Array Value → State → Outcome → State → Prop} (hpost : ∀ tb e args s v u, (limb_1_1.after args s (.returned v) u = true ∧ limb_1_2.after args s (.returned v) u = true ∧ True) → FrameEnd s (.returned v) u (Jvm.fieldLocs frame_1_writes args s ++ Jvm.arrayLocs frame_1_arrays args s ++ Jvm.staticLocs frame_1_statics s) 0 0 → Post tb e args s (.returned v) u) :
    ArmFor flags0 classFile x code maxLocals ret World_1 tables_1 room_1 Calls_1 rest_1 Pre_1 Post := by
  intro l hfl _ _ p e ha hc hk s m args below hf hA hF happ hP
  obtain ⟨hcalls, hrest, hpre⟩ := hP
  obtain ⟨-, -, -, hnamed, -, -, -, hat⟩ := (Spec.applies_iff hf).mp happ
  obtain ⟨hg, hn⟩ := and_e (Cond.before_iff.mp (show (Jvm.Cond.and given_1 narrow_1).before args s = true from hpre))
  obtain ⟨g1, g2⟩ := and_e hg
  obtain ⟨g3, g4⟩ := and_e g2
  obtain ⟨w0, w1, rfl⟩ : ∃ w0 w1 : Value, args = #[w0, w1] := by
    have hs : args.size = 2 := by simpa [Cond.value, given_1] using g1
    obtain ⟨L⟩ := args
    match L, hs with
    | [w0, w1], _ => exact ⟨w0, w1, rfl⟩
  have hw := fun d (hd : d ∈ tables_1) => atoms_spec (ws := Jvm.Cond.code x code maxLocals ret :: tables_1) hat d (List.mem_cons_of_mem _ hd)
  have hfit : Fit s := fun {y c} hc i hi => by
    obtain ⟨ha, rfl⟩ := Array.getElem?_eq_some_iff.mp hc
    have q := List.all_eq_true.mp ((Array.all_eq_true_iff_forall_mem.mp hF) _ (Array.getElem_mem ha)) i (List.mem_range.mpr hi)
    simpa [Array.getElem?_eq_getElem hi] using q
  obtain ⟨i0, ei0⟩ := is_v g3
  obtain rfl : w0 = (.int i0) := Option.some.inj ei0
  obtain ⟨i1, ei1⟩ := is_v g4
  obtain rfl : w1 = (.int i1) := Option.some.inj ei1
  obtain ⟨n, o, h1, h2, h3, _, L, rfl, ⟨rfl, N⟩, hq⟩ := rm0 l s _ hw tables_1 i0 i1 s.heap s.heap.size (Nat.le_refl _)  p e ha hc hk s m _ below hf ((Spec.applies_iff_loose hf).mp happ).1 ⟨rfl, State.Warmed39.refl s, rfl⟩ trivial
  refine ⟨n, _, h1, h2, h3, hpost _ _ _ _ _ _ ⟨Cond.after_iff.mpr rfl, Cond.after_iff.mpr (eq_i res_at (Term.int_eval (1)) rfl), trivial⟩ ⟨hq.1, hq.2.1, (hq.2.2.sift fun y hy => Or.inr (N y hy)).mono (by decide) (by decide)⟩⟩
theorem main_1_1 : Claimed_1_1 := comes_1 fun _ _ _ _ _ _ h hF => ⟨h.1, hF⟩
theorem main_1_2 : Claimed_1_2 := comes_1 fun _ _ _ _ _ _ h hF => ⟨h.2.1, hF⟩
end Jvm.Pilot.@@N@@
namespace Jvm.Pilot.@@N@@
open Jvm Jvm.ClassFile Sem Op Lib Jvm.Free Jvm.Stand Jvm.Pilot.@@N@@.Jvm.D
/-! MADE BY PROGRAM (witnessworld.py) out of the Statement's table words and the real class files: 11 classes; the members and pool entries that the words name. The judged class is class 1, her method 1. -/
namespace start1
open Jvm.ClassFile
def u (s : String) : CpInfo := .utf8 (stringToUtf16 s)
/-- a pool by its gaps: so many unusable entries, then the entry; so many at the end -/
def gap : Nat → List CpInfo → List CpInfo
  | 0, r => r
  | n + 1, r => .unusable :: gap n r
def poolList (es : List (Nat × CpInfo)) (last : Nat) : List CpInfo := es.foldr (fun e r => gap e.1 (e.2 :: r)) (gap last [])
def pool (es : List (Nat × CpInfo)) (last : Nat) : Array CpInfo := ⟨poolList es last⟩
def fileOf (pool : Array CpInfo) (this : Nat) (attrs : Array Attribute := #[]) (ms : Array MethodInfo := #[]) (fl : Nat := 33) (sup : Nat := 0) (ifs : Array Nat := #[]) (fds : Array FieldInfo := #[]) : ClassFile where
  minorVersion := 0
  majorVersion := 65
  constantPool := pool
  accessFlags := fl
  thisClass := this
  superClass := sup
  interfaces := ifs
  fields := fds
  methods := ms
  attributes := attrs
def plain (name : String) (sup : Option ClassId) : Class where
  name := name
  kind := .ordinary
  loader := none
  accessFlags := 33
  super := sup
  interfaces := #[]
  cf := none
  fields := #[]
  methods := #[]
  instanceTypes := #[]
  staticTypes := #[]
  resolved := #[]
  callSites := []
  init := .initialized
  statics := none
  mirror := none

def pool0 : Array CpInfo := pool [(5, u "<init>"), (0, u "()V"), (1, .class_ 10), (1, u "java/lang/Object")] 113

def k0m0 : Method := { name := "<init>", desc := "()V", sig := { parameters := [], returnType := none }, accessFlags := 1, code := none }
/-- java/lang/Object -/
def k0 : Class := { plain "java/lang/Object" none with
  accessFlags := 33
  interfaces := #[]
  cf := some (fileOf pool0 8 #[] #[{ accessFlags := 1, nameIndex := 5, descriptorIndex := 6, attributes := #[] }] 33 0 #[] #[])
  fields := #[]
  methods := #[k0m0]
  instanceTypes := #[]
  staticTypes := #[]
  resolved := Array.replicate 124 none
  statics := none }

def pool1 : Array CpInfo := pool [(2, .class_ 4), (1, u "java/lang/Object"), (0, u "<init>"), (0, u "()V"), (0, .methodref 8 9), (0, .class_ 10), (0, .nameAndType 11 12), (0, u "com/example/fondskit/fondskit/xml/Text"), (0, u "isWhitespace"), (0, u "(I)Z"), (0, .class_ 14), (0, u "com/example/fondskit/fondskit/xml/TextIsWhitespacePinLaw"), (2, u "law"), (0, u "(II)Z")] 3

def k1m0 : Method := { name := "<init>", desc := "()V", sig := { parameters := [], returnType := none }, accessFlags := 2, code := none }
def k1c1 : Code := { maxStack := 2, maxLocals := 4, code := code, exceptionTable := #[], attributes := #[] }
def k1m1 : Method := { name := "law", desc := "(II)Z", sig := { parameters := [.int, .int], returnType := some .boolean }, accessFlags := 9, code := some k1c1 }
/-- com/example/fondskit/fondskit/xml/TextIsWhitespacePinLaw -/
def k1 : Class := { plain "com/example/fondskit/fondskit/xml/TextIsWhitespacePinLaw" (some 0) with
  accessFlags := 49
  interfaces := #[]
  cf := some (fileOf pool1 13 #[] #[{ accessFlags := 2, nameIndex := 5, descriptorIndex := 6, attributes := #[] }, { accessFlags := 9, nameIndex := 17, descriptorIndex := 18, attributes := #[] }] 49 2 #[] #[])
  fields := #[]
  methods := #[k1m0, k1m1]
  instanceTypes := #[]
  staticTypes := #[]
  resolved := Array.replicate 22 none
  statics := none }

def pool2 : Array CpInfo := pool [(2, .class_ 4), (1, u "java/lang/Object"), (0, u "<init>"), (0, u "()V"), (0, .class_ 8), (0, u "java/lang/Record")] 13

def k2m0 : Method := { name := "<init>", desc := "()V", sig := { parameters := [], returnType := none }, accessFlags := 4, code := none }
/-- java/lang/Record -/
def k2 : Class := { plain "java/lang/Record" (some 0) with
  accessFlags := 1057
  interfaces := #[]
  cf := some (fileOf pool2 7 #[] #[{ accessFlags := 4, nameIndex := 5, descriptorIndex := 6, attributes := #[] }] 1057 2 #[] #[])
  fields := #[]
  methods := #[k2m0]
  instanceTypes := #[]
  staticTypes := #[]
  resolved := Array.replicate 22 none
  statics := none }

def pool3 : Array CpInfo := pool [(1, .class_ 2), (0, u "com/example/fondskit/fondskit/xml/Node"), (0, .class_ 4), (0, u "java/lang/Object")] 7

/-- com/example/fondskit/fondskit/xml/Node -/
def k3 : Class := { plain "com/example/fondskit/fondskit/xml/Node" (some 0) with
  accessFlags := 1537
  interfaces := #[]
  cf := some (fileOf pool3 1 #[] #[] 1537 3 #[] #[])
  fields := #[]
  methods := #[]
  instanceTypes := #[]
  staticTypes := #[]
  resolved := Array.replicate 12 none
  statics := none }

def pool4 : Array CpInfo := pool [(2, .class_ 4), (1, u "java/lang/Record"), (3, .class_ 10), (1, u "com/example/fondskit/fondskit/xml/Text"), (0, u "value"), (0, u "Ljava/lang/String;"), (12, u "isWhitespace"), (0, u "(I)Z"), (12, .class_ 40), (0, u "com/example/fondskit/fondskit/xml/Node")] 27

def k4c0 : Code := { maxStack := 2, maxLocals := 1, code := prog_77_method_3_code, exceptionTable := #[], attributes := #[] }
def k4m0 : Method := { name := "isWhitespace", desc := "(I)Z", sig := { parameters := [.int], returnType := some .boolean }, accessFlags := 9, code := some k4c0 }
/-- com/example/fondskit/fondskit/xml/Text -/
def k4 : Class := { plain "com/example/fondskit/fondskit/xml/Text" (some 2) with
  accessFlags := 49
  interfaces := #[3]
  cf := some (fileOf pool4 8 #[] #[{ accessFlags := 9, nameIndex := 25, descriptorIndex := 26, attributes := #[] }] 49 2 #[39] #[{ accessFlags := 18, nameIndex := 11, descriptorIndex := 12, attributes := #[] }])
  fields := #[{ name := "value", type := (.object "java/lang/String"), accessFlags := 18, slot := 0, constantValue := 0 }]
  methods := #[k4m0]
  instanceTypes := #[(.object "java/lang/String")]
  staticTypes := #[]
  resolved := Array.replicate 68 none
  statics := none }

def pool5 : Array CpInfo := pool [(1, u "java/lang/Cloneable"), (0, .class_ 1), (0, u "java/lang/Object"), (0, .class_ 3)] 3

/-- java/lang/Cloneable -/
def k5 : Class := { plain "java/lang/Cloneable" (some 0) with
  accessFlags := 1537
  interfaces := #[]
  cf := some (fileOf pool5 2 #[] #[] 1537 4 #[] #[])
  fields := #[]
  methods := #[]
  instanceTypes := #[]
  staticTypes := #[]
  resolved := Array.replicate 8 none
  statics := none }

def pool6 : Array CpInfo := pool [(1, u "java/io/Serializable"), (0, .class_ 1), (0, u "java/lang/Object"), (0, .class_ 3)] 3

/-- java/io/Serializable -/
def k6 : Class := { plain "java/io/Serializable" (some 0) with
  accessFlags := 1537
  interfaces := #[]
  cf := some (fileOf pool6 2 #[] #[] 1537 4 #[] #[])
  fields := #[]
  methods := #[]
  instanceTypes := #[]
  staticTypes := #[]
  resolved := Array.replicate 8 none
  statics := none }

/-- the primitive byte -/
def k7 : Class := { plain "byte" none with kind := .primitive 'B', accessFlags := 0x411 }
/-- [B -/
def k8 : Class := { plain "[B" (some 0) with kind := .array 7 .byte, interfaces := #[5, 6], accessFlags := 1041 }

/-- the primitive int -/
def k9 : Class := { plain "int" none with kind := .primitive 'I', accessFlags := 0x411 }
/-- [I -/
def k10 : Class := { plain "[I" (some 0) with kind := .array 9 .int, interfaces := #[5, 6], accessFlags := 1041 }

def heap : Heap := #[]
def classes : Array Class := #[k0, k1, k2, k3, k4, k5, k6, k7, k8, k9, k10]
def interned : List (Array UInt16 × Addr) := []
def slotsUsed : Nat := 0
def theMethod : MethodId := ⟨1, 1⟩
def args0 : Array Value := #[.int 5, .int 7]
def aboutOver (below : List Frame) : State where
  vm := { classes := classes, interned := interned.toArray }
  heap := heap
  slotsUsed := slotsUsed
  threads := #[{ frames := .invoking theMethod args0 :: below }]
def below0 : List Frame := [.native { method := ⟨0, 0⟩, args := #[] }]
def about1 : State := aboutOver below0
def p0 : Program := .bare "" "" ""
def e0 : Env := launch0.env 0 0 0
theorem w_frames : about1.frames = Frame.invoking theMethod args0 :: below0 := rfl
set_option maxRecDepth 65536 in
theorem w_args : argsFit about1.vm theMethod args0 = true := by decide +kernel
set_option maxRecDepth 65536 in
theorem w_heap : heapFits about1 = true := by decide +kernel
set_option maxRecDepth 65536 in
theorem w_runnable : about1.curStatus? = some .runnable := by decide +kernel
set_option maxRecDepth 65536 in
theorem w_alone : about1.alone = true := by decide +kernel
set_option maxRecDepth 65536 in
theorem w_named : about1.methodNamed? x = some theMethod := by decide +kernel
set_option maxRecDepth 65536 in
theorem w_hears : about1.hears theMethod below0 = true := by decide +kernel
set_option maxRecDepth 65536 in
theorem w_ripe : about1.ripe theMethod args0 below0 = true := by decide +kernel
theorem w_running : about1.status = .running := rfl
set_option maxRecDepth 65536 in
theorem w_room : about1.hasRoom e0.platform room_1 = true :=
  launch0.hasRoom_least _ room_1 (by decide +kernel) (by decide +kernel) (by decide +kernel) (by decide +kernel) (by decide +kernel) (by decide +kernel)
theorem allAtoms_all (ts : List Jvm.Cond) (a : Array Jvm.Value) (st : Jvm.State) : (allAtoms ts).before a st = ts.all (fun c => c.before a st) := by
  induction ts with
  | nil => rfl
  | cons c t ih =>
    show (Jvm.Cond.and c (allAtoms t)).before a st = _
    rw [Jvm.Cond.before_and, ih, List.all_cons]
def words1 : List Jvm.Cond := Jvm.Cond.code x code maxLocals ret :: tables_1
/-- a 'code' word, met by the world's own term for the bytes: nothing is compared byte by byte -/
theorem code_word {y : MethodName} {bytes : ByteArray} {mx : Nat} {rt : Option FieldType} {a : Array Value} {s : State} {m : MethodId} {meth : Method} {c : Code} (h1 : s.methodNamed? y = some m) (h2 : s.vm.method? m = some meth) (h3 : meth.code = some c) (h4 : c.code = bytes)
    (h5 : (c.maxLocals == mx && c.exceptionTable.isEmpty && decide (c.maxStack ≤ mostOperands) && decide (meth.sig.returnType = rt) && !meth.locks && decide (parseMethodDescriptor y.desc = some meth.sig)) = true) : (Jvm.Cond.code y bytes mx rt).before a s = true := by
  simp only [Bool.and_eq_true, beq_iff_eq, Bool.not_eq_true', decide_eq_true_eq] at h5
  obtain ⟨⟨⟨⟨⟨g1, g2⟩, g3⟩, g4⟩, g5⟩, g6⟩ := h5
  simp [Cond.before, Cond.holds, Cond.value, h1, h2, h3, h4, g1, g2, g3, g4, g5, g6]
def isCode : Jvm.Cond → Bool
  | .code _ _ _ _ => true
  | _ => false
theorem all_split {L : List Jvm.Cond} {P : Jvm.Cond → Bool} (h1 : L.all (fun c => isCode c || P c) = true) (h2 : ∀ c ∈ L.filter isCode, P c = true) : L.all P = true := by
  refine List.all_eq_true.mpr fun c hc => ?_
  have h := List.all_eq_true.mp h1 c hc
  rcases Bool.eq_false_or_eq_true (isCode c) with hi | hi
  · exact h2 c (List.mem_filter.mpr ⟨hc, hi⟩)
  · simpa [hi] using h
set_option maxRecDepth 65536 in
theorem w_c0 : (Jvm.Cond.code x code maxLocals ret).before args0 about1 = true := code_word (m := ⟨1, 1⟩) (meth := k1m1) (c := k1c1) (by decide +kernel) rfl rfl rfl (by decide +kernel)
set_option maxRecDepth 65536 in
theorem w_c1 : (Jvm.Cond.code ({ cls := "com/example/fondskit/fondskit/xml/Text", name := "isWhitespace", desc := "(I)Z" } : Jvm.MethodName) prog_77_method_3_code (1 : Nat) (Option.some Jvm.ClassFile.FieldType.boolean)).before args0 about1 = true := code_word (m := ⟨4, 0⟩) (meth := k4m0) (c := k4c0) (by decide +kernel) rfl rfl rfl (by decide +kernel)
def codes1 : List Jvm.Cond := [Jvm.Cond.code x code maxLocals ret, Jvm.Cond.code ({ cls := "com/example/fondskit/fondskit/xml/Text", name := "isWhitespace", desc := "(I)Z" } : Jvm.MethodName) prog_77_method_3_code (1 : Nat) (Option.some Jvm.ClassFile.FieldType.boolean)]
set_option maxRecDepth 65536 in
theorem codes_eq : words1.filter isCode = codes1 := rfl
theorem w_codes : ∀ c ∈ words1.filter isCode, c.before args0 about1 = true := by
  rw [codes_eq]
  intro c hc
  simp only [codes1, List.mem_cons, List.not_mem_nil, or_false] at hc
  rcases hc with rfl | rfl
  · exact w_c0
  · exact w_c1
set_option maxRecDepth 65536 in
theorem w_t1 : words1.all (fun c => isCode c || c.before args0 about1) = true := by decide +kernel
theorem w_tables : (allAtoms (Jvm.Cond.code x code maxLocals ret :: tables_1)).before args0 about1 = true := by
  rw [allAtoms_all]
  show words1.all (fun c => c.before args0 about1) = true
  refine all_split ?_ w_codes
  rw [w_t1]
set_option maxRecDepth 65536 in
theorem w_case : (Jvm.Cond.and given_1 narrow_1).before args0 about1 = true := by decide +kernel
theorem w_applies : (headSpec (Jvm.Cond.code x code maxLocals ret :: tables_1) room_1).applies x e0.platform about1 = true :=
  (Spec.applies_iff w_frames).mpr ⟨w_running, w_runnable, w_alone, w_named, w_hears, w_ripe, w_room, w_tables⟩
theorem atStart : AtStart classFile x code maxLocals ret World_1 tables_1 room_1 Calls_1 rest_1 Pre_1 launch0 p0 e0 about1 theMethod args0 below0 :=
  ⟨lists_1, trivial, launch0.admits_env _ _ _, launch0.least_env, fairChoices_fair.cas, fairChoices_fair.clock, w_frames, w_args, w_heap, w_applies, trivial, trivial, w_case⟩
end start1
theorem witness_1 : WitnessClaimed_1 := ⟨start1.p0, start1.e0, start1.about1, start1.theMethod, start1.args0, start1.below0, start1.atStart⟩
end Jvm.Pilot.@@N@@
